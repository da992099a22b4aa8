import JvmDerived
import JvmDerived.Pilot.@@N@@Statement
import JvmDerived.Pilot.@@N@@Code
set_option linter.unusedVariables false
set_option linter.unusedSimpArgs false
namespace Jvm.RoadKit
open Sem ClassFile Op Lib Jvm.Stand Jvm.Free Jvm.LawKit
section New
variable {p : Program} {l : Launch} {e : Env} {R : Room} {s : State} {m : MethodId} {args : Array Value} {below : List Frame} {meth : Method} {c : Code} {T : State} {locs : List Loc} {cells slots : Nat}
theorem retI (X : Stand p l e R s m args below meth c T locs cells slots) (hx : p.tables.exec = Jvm.exec) {pc : Nat} {Ls : Array Slot} {z : Int32} {rest : List Value} (hret : meth.sig.returnType = some .int) (hd : decode c.code pc = .ok (.ireturn, 1)) {fs : List Frame}
    (hl : ∀ (f : JFrame) (acts : List Action), f.method = m → f.locked = none → f.entered = [] → (doReturn e (T.setTop f) acts (some (.int z))).1 = T.setFrames fs) : Steps p.tables e below (T.setTop (mkF m pc Ls (.int z :: rest))) (T.setFrames fs) := by
  have hm' : T.vm.method? m = some meth := X.method'
  have hn : narrow .int (.int z) = .int z := rfl
  show Steps p.tables e below (T.setTop { method := m, pc := pc, locals := Ls, stack := _ :: rest, locked := none }) _
  jvm_step X.here [X.here.top, hx, hd, hm', hret, hn]
  first | (intro acts; rw [hl _ acts rfl rfl rfl]) | rw [hl _ _ rfl rfl rfl]
  exact Steps.refl _
end New
end Jvm.RoadKit
namespace Jvm.Pilot.@@N@@
open Jvm Jvm.ClassFile Sem Op Lib Jvm.Free Jvm.Stand Jvm.LawKit Jvm.RoadKit Bundle Jvm.Pilot.@@N@@.Jvm.D
theorem wq {a0 : Array Value} {Z : State} (hw : ∀ d ∈ tables_1, d.before a0 Z = true) (i : Nat) {d : Jvm.Cond} (h : tables_1[i]? = some d) : d.before a0 Z = true := hw d (List.mem_of_getElem? h)
/-- from U the run comes back to its caller; what it returns, the heap and the places written meet Q -/
def Goes (p : Program) (e : Env) (below : List Frame) (s : State) (Q : Option Value → Heap → List Loc → Prop) (C S : Nat) (U : State) : Prop :=
  ∃ s₂ o, Steps p.tables e below U s₂ ∧ s₂.status = .running ∧ Ended s₂ below o ∧ ∃ v L, o = .returned v ∧ Q v s₂.heap L ∧ FrameEnd s o s₂ L C S
section Own
variable {p : Program} {l : Launch} {e : Env} {R : Room} {s : State} {m : MethodId} {args : Array Value} {below : List Frame} {meth : Method} {c : Code} {T : State} {locs : List Loc} {cells slots : Nat} {Q : Option Value → Heap → List Loc → Prop} {C S : Nat} {U U' : State}
theorem Goes.pre (f : ∀ t, Steps p.tables e below U' t → Steps p.tables e below U t) (g : Goes p e below s Q C S U') : Goes p e below s Q C S U := by
  obtain ⟨s₂, o, h1, r⟩ := g
  exact ⟨s₂, o, f _ h1, r⟩
theorem Goes.enter {g g' : JFrame} (q : g = g') (h : Goes p e below s Q C S (U.setTop g')) : Goes p e below s Q C S (U.setTop g) := q ▸ h
theorem Goes.ret (X : Stand p l e R s m args below meth c T locs cells slots) {v : Option Value} (hv : meth.sig.returnType = none → v = none) (hlocks : meth.locks = false) (hc : cells ≤ C) (hs : slots ≤ S) {h : Heap} (eT : T.heap = h)
    (step : ∀ fs, (∀ (f : JFrame) (acts : List Action), f.method = m → f.locked = none → f.entered = [] → (doReturn e (T.setTop f) acts v).1 = T.setFrames fs) → Steps p.tables e below U (T.setFrames fs)) (q : Q v h locs) : Goes p e below s Q C S U := by
  obtain ⟨fs, hr, hrun, hended, hW, hsame⟩ := X.leave hv hlocks
  refine ⟨_, _, step fs hr, hrun, hended, _, _, rfl, ?_, ⟨_, rfl⟩, hW, hsame.mono hc hs⟩
  show Q v T.heap locs
  rw [eT]
  exact q
end Own
abbrev Rm (f c s l : Nat) : Room := { frames := f, cells := c, slots := s, locals := l }
/-- the contract of a body: called with these values at the heap h0, it comes back and Q holds of what it leaves -/
abbrev Met (l : Launch) (Z : State) (y : MethodName) (bytes : ByteArray) (maxL : Nat) (ret : Option FieldType) (ws : List Jvm.Cond) (rm : Room) (as' : Array Value) (h0 : Heap) (Q : Option Value → Heap → List Loc → Prop) : Prop :=
  MetFree l y (head1 (Jvm.Cond.code y bytes maxL ret :: ws) rm) (fun argv U => argv = as' ∧ Z.Warmed39 U.vm ∧ U.heap = h0) (fun _ _ _ _ _ => True) (fun _ U o U' => ∃ v L, o = .returned v ∧ Q v U'.heap L ∧ FrameEnd U o U' L rm.cells rm.slots)
theorem met_of {l : Launch} {Z : State} {y : MethodName} {bytes : ByteArray} {maxL : Nat} {ret : Option FieldType} {ws : List Jvm.Cond} {rm : Room} {as' : Array Value} {h0 : Heap} {Q : Option Value → Heap → List Loc → Prop} {L0 : Array Slot} {own : String}
    (hp : plainFor y = true) (ho : y.cls = own) (ef : ∀ m, entryFrame m as' maxL = mkF m 0 L0 [])
    (body : ∀ (p : Program) (e : Env) (s : State) (m : MethodId) (below : List Frame) (meth : Method) (c : Code) (s₁ : State), p.tables.exec = Jvm.exec → c.code = bytes → c.maxLocals = maxL → s.vm.findClass own = some m.cls → meth.name = y.name → Z.Warmed39 s.vm → Stand p l e rm s m as' below meth c s₁ [] 0 0 → s₁.heap = h0 → meth.sig.returnType = ret → meth.locks = false → Goes p e below s Q rm.cells rm.slots (s₁.setTop (mkF m 0 L0 []))) :
    Met l Z y bytes maxL ret ws rm as' h0 Q := by
  refine MetFree.of_bodySF hp hisR ?_
  intro p e s m args below meth c s₁ Bd hml0 hP hK
  obtain ⟨rfl, hZ, hh⟩ := hP
  refine Goes.enter (ef m) (body p e s m below meth c s₁ Bd.exec Bd.bytes hml0 (ho ▸ findClass_of_methodNamed Bd.named) (name_of_methodNamed Bd.named Bd.method).1 hZ (Stand.of_body Bd) (by rw [← hh, Bd.state]; rfl) Bd.returns Bd.notSynchronized)
theorem own_lsw {tb : Tables} [Ours tb] {e : Env} {below : List Frame} {T target : State} {m : MethodId} {c : Code} {g : JFrame} (h : At T m c below) (hx : tb.exec = Jvm.exec) (hg : g.method = m) {dflt : Int} {prs : Array (Int × Int)} {len : Nat} {o : Int} {pc0 pc' : Nat} (hpc : g.pc = pc0) (hd : decode c.code g.pc = .ok (.lookupswitch dflt prs, len)) {i : Int32} {rest : List Value} (hs : g.stack = .int i :: rest)
    (hso : ∀ (a b a_1 b_1 : Int), ((a, b), a_1, b_1) ∈ prs.toList.zip prs.toList.tail → a < a_1) (hoff : lookupswitch.offset prs.toList dflt i.toInt = o) (ho : 0 ≤ (pc0 : Int) + o) (hp : ((pc0 : Int) + o).toNat = pc')
    (hr : Steps tb e below (T.setTop { g with pc := pc', stack := rest }) target) : Steps tb e below (T.setTop g) target := by
  subst hg hpc hp
  jvm_step h [h.top, hx, hd, hs, lookupswitch.wp_chain, hoff, ho]
  exact ⟨hso, hr⟩
theorem own_i2b (x : Int32) : nar .byte x.toInt8.toInt32 = x.toInt8.toInt32 := by
  show x.toInt8.toInt32.toInt8.toInt32 = x.toInt8.toInt32
  rw [Int8.toInt8_toInt32]
def OwnMir (Z : State) (C : String) (a : Addr) : Prop := ∃ (c : ClassId) (k : Class), Z.vm.findClass C = some c ∧ Z.vm.classes[c]? = some k ∧ k.mirror = some a
theorem own_gcls {p : Program} {l : Launch} {e : Env} {R : Room} {s : State} {m : MethodId} {args : Array Value} {below : List Frame} {meth : Method} {c : Code} {T : State} {locs : List Loc} {cells slots : Nat} {Z : State} {a0 : Array Value} {h : Heap}
    (X : Stand p l e R s m args below meth c T locs cells slots) (hx : p.tables.exec = Jvm.exec) (hZ : Z.Warmed39 s.vm) {own C : String} {index : Nat} {a mr : Addr} (hown : s.vm.findClass own = some m.cls)
    (w1 : (Cond.methodLink own index ⟨"java/lang/Object", "getClass", "()Ljava/lang/Class;"⟩).before a0 Z = true) (w2 : (Cond.declares ⟨"java/lang/Object", "getClass", "()Ljava/lang/Class;"⟩).before a0 Z = true) (w3 : (Cond.noSuperclass "java/lang/Object").before a0 Z = true) (w4 : (Cond.selects C ⟨"java/lang/Object", "getClass", "()Ljava/lang/Class;"⟩ ⟨"java/lang/Object", "getClass", "()Ljava/lang/Class;"⟩).before a0 Z = true)
    (w5 : (Cond.instanceMethod ⟨"java/lang/Object", "getClass", "()Ljava/lang/Class;"⟩).before a0 Z = true) (w6 : (Cond.native ⟨"java/lang/Object", "getClass", "()Ljava/lang/Class;"⟩).before a0 Z = true) (eT : T.heap = h) (E : Exa Z h a C) (M : OwnMir Z C mr)
    {g : JFrame} (hg : g.method = m) (hsize : g.locals.size = c.maxLocals) {rest : List Value} (hs : g.stack = .ref a :: rest) (hd : decode c.code g.pc = .ok (.invokevirtual index, 3)) (hf : 1 ≤ R.frames) {W : Nat} (hW : 2 * g.monitorRoom + (rest.map fun v => v.category).sum ≤ W) (hl : W + (nativeFrameWords "java/lang/Object" "getClass" 1 + 11) ≤ R.locals) :
    ∃ T', Stand p l e R s m args below meth c T' locs cells slots ∧ T'.heap = h ∧ ∀ target, Steps p.tables e below (T'.setTop { g with pc := g.pc + 3, stack := .ref mr :: rest }) target → Steps p.tables e below (T.setTop g) target := by
  obtain ⟨cB, kB, b1, -, b3⟩ := isOf hZ eT E
  obtain ⟨cM, kM, n1, n2, n3⟩ := M
  have b1' : Z.vm.findClass C = some cB := by rw [← hZ.alike.findClass]; exact b1
  obtain rfl : cB = cM := Option.some.inj (b1'.symm.trans n1)
  obtain ⟨kS, z1, z2⟩ := hZ.alike.2.2 _ _ n2
  obtain ⟨vm', X', st⟩ := X.getClassOf hx hown (mvT hZ w1) (mvT hZ w2) (nf_top (args := #[]) (mvT hZ w3)) (mvT hZ w4) (mvT hZ w5) (mvT hZ w6) b1 b3 z1 (by rw [z2]; exact n3) hg hsize hs hd hf (by omega)
  exact ⟨_, X', eT, st⟩
theorem own_ldcC {p : Program} {l : Launch} {e : Env} {R : Room} {s : State} {m : MethodId} {args : Array Value} {below : List Frame} {meth : Method} {c : Code} {T : State} {locs : List Loc} {cells slots : Nat} {Z : State} {a0 : Array Value} {h : Heap}
    (X : Stand p l e R s m args below meth c T locs cells slots) (hx : p.tables.exec = Jvm.exec) (hZ : Z.Warmed39 s.vm) {own C : String} {index : Nat} {a : Addr} (hown : s.vm.findClass own = some m.cls) (w : (Cond.classLink own index C).before a0 Z = true) (eT : T.heap = h) (M : OwnMir Z C a)
    {g : JFrame} (hg : g.method = m) (hd : decode c.code g.pc = .ok (.ldc index, 2)) :
    ∃ T', Stand p l e R s m args below meth c T' locs cells slots ∧ T'.heap = h ∧ ∀ target, Steps p.tables e below (T'.setTop { g with pc := g.pc + 2, stack := .ref a :: g.stack }) target → Steps p.tables e below (T.setTop g) target := by
  obtain ⟨cc, kc, m1, m2, m3⟩ := M
  obtain ⟨k', q, ek⟩ := hZ.alike.2.2 _ _ m2
  obtain ⟨vm', X', st⟩ := X.ldcMirror hx hown (mvT hZ w) (C := C) (a := a) (by
    have e1 : s.vm.findClass C = some cc := by rw [hZ.alike.findClass]; exact m1
    have e3 : k'.mirror = some a := by rw [ek]; exact m3
    simp only [Term.eval, e1, q, e3, Option.bind_eq_bind, Option.bind_some, Option.pure_def]) hg hd
  exact ⟨_, X', eT, st⟩
theorem own_notInst {Z : State} {a0 : Array Value} {K : String} {y z : MethodName} (w1 : (Cond.superclass "java/util/ArrayList" "java/util/AbstractList").before a0 Z = true) (w2 : (Cond.superclass "java/util/AbstractList" "java/util/AbstractCollection").before a0 Z = true) (w3 : (Cond.superclass "java/util/AbstractCollection" "java/lang/Object").before a0 Z = true) (w4 : (Cond.noSuperclass "java/lang/Object").before a0 Z = true)
    (wk : (Cond.selects K y z).before a0 Z = true) (hz : z.cls = K) (n1 : "java/lang/Object" ≠ K) (n2 : "java/util/AbstractCollection" ≠ K) (n3 : "java/util/AbstractList" ≠ K) (n4 : "java/util/ArrayList" ≠ K) :
    ∃ c t, Z.vm.findClass "java/util/ArrayList" = some c ∧ Z.vm.findClass K = some t ∧ Z.vm.assignable c t = false := by
  obtain ⟨t, r, mm, k1, -, k3, -, mk, k4, k5⟩ := Cond.selects_spec wk
  have k6 := findClass_of_methodNamed k3
  rw [hz, k1] at k6
  cases k6
  have s1 : NS Z "java/lang/Object" K := by
    obtain ⟨c, k, h1, h2, h3, -, -⟩ := Cond.noSuperclass_spec w4
    have ne := ids_ne h1 k1 n1
    refine ⟨c, mm.cls, h1, k1, fun fuel => ?_⟩
    cases fuel with
    | zero => rfl
    | succ f => simp [Vm.isSubclassAux, ne, h2, h3]
  have s4 := NS.step w1 (NS.step w2 (NS.step w3 s1 n2) n3) n4
  obtain ⟨c, t', h0, g0, q⟩ := s4
  cases g0.symm.trans k1
  obtain ⟨p, k, kp, h1, h2, h3, h4, h5, -, h7⟩ := Cond.superclass_spec h0 w1
  have ne := ids_ne h0 k1 n4
  refine ⟨c, _, h0, k1, ?_⟩
  show Z.vm.assignableAux (255 + 1) c mm.cls = false
  cases hk : mk.kind <;> simp [Vm.assignableAux, ne, h2, k4, h5, hk, k5, Vm.isSubclass, q]
theorem ef_rm_canEnc (m : MethodId) (x0 : Int32) : entryFrame m #[(.int x0)] 1 = mkF m 0 #[.val (.int x0)] [] := by first | (simp [entryFrame, mkF, argsToLocals, Value.category]; done) | rfl
theorem pn_java_lang_StringLatin1 : plainName "java/lang/StringLatin1" = true := by first | (simp [plainName, overriddenIn]; done) | decide +kernel
abbrev M2 : MethodName := ⟨"java/lang/StringLatin1", "canEncode", "(C)Z"⟩
theorem d2_0 : decode jdk_43_method_3_code 0 = .ok (.iload_n 0, 1) := by decide +kernel
theorem d2_1 : decode jdk_43_method_3_code 1 = .ok (.sipush 255, 3) := by decide +kernel
theorem d2_4 : decode jdk_43_method_3_code 4 = .ok (.if_icmp .gt 7, 3) := by decide +kernel
theorem d2_7 : decode jdk_43_method_3_code 7 = .ok (.iconst 1, 1) := by decide +kernel
theorem d2_8 : decode jdk_43_method_3_code 8 = .ok (.goto 4, 3) := by decide +kernel
theorem d2_12 : decode jdk_43_method_3_code 12 = .ok (.ireturn, 1) := by decide +kernel
def Q_rm_canEnc (Z : State) (q : Int32) (h0 : Heap) (n0 : Nat) (v : Option Value) (h : Heap) (L : List Loc) : Prop := v = some (.int (1 : Int32)) ∧ Fr n0 L ∧ h = h0
set_option maxRecDepth 65536 in
set_option maxHeartbeats 40000000 in
theorem rm_canEnc (l : Launch) (Z : State) (a0 : Array Value) (hw : ∀ d ∈ tables_1, d.before a0 Z = true) (ws : List Jvm.Cond) (q : Int32) (h0 : Heap) (n0 : Nat) (Z0 : n0 ≤ h0.size)  (hq : ¬ ((255 : Int32) < q)) :
    Met l Z M2 jdk_43_method_3_code 1 (some .boolean) ws (Rm 0 0 0 0) #[(.int q)] h0 (Q_rm_canEnc Z q h0 n0) := by
  refine met_of (plainFor_of_name pn_java_lang_StringLatin1) (own := "java/lang/StringLatin1") rfl (fun m => ef_rm_canEnc m q) ?_
  intro p e s m below meth c s₁ hx hby hml hown hnm hZ X0 e0 hret hlk
  have N0 := Fr.nil n0
  show Goes p e below s _ _ _ (s₁.setTop (mkF m 0 #[.val (.int q)] []))
  refine Goes.pre (U' := s₁.setTop (mkF m 4 #[.val (.int q)] [(.int (255 : Int32)), (.int q)])) (fun t k => XS.iloadN X0.here hx rfl (hb hby d2_0) rfl (XS.sipush X0.here hx rfl (hb hby d2_1) k)) ?_
  have hc4 : ¬ ((255 : Int32) < q) := hq
  refine Goes.pre (U' := s₁.setTop (mkF m 12 #[.val (.int q)] [(.int (1 : Int32))])) (fun t k => XS.icmpNo X0.here hx rfl (hb hby d2_4) rfl (flt hc4).2.2.1 (XS.iconst X0.here hx rfl (hb hby d2_7) (XS.goto X0.here hx rfl (pc0 := 8) (pc' := 12) rfl (hb hby d2_8) (by decide) (by decide) k))) ?_
  refine Goes.ret X0 (v := (some (.int (1 : Int32)))) (fun h => by rw [hret] at h; cases h) hlk (by decide) (by decide) e0 (fun fs hr => retN X0 hx (t := .boolean) hret (by simp) (hb hby d2_12) hr) ?_
  exact ⟨rfl, N0, rfl⟩
theorem ef_rm_toBytes (m : MethodId) (x0 : Int32) : entryFrame m #[(.int x0)] 1 = mkF m 0 #[.val (.int x0)] [] := by first | (simp [entryFrame, mkF, argsToLocals, Value.category]; done) | rfl
abbrev M3 : MethodName := ⟨"java/lang/StringLatin1", "toBytes", "(C)[B"⟩
theorem d3_0 : decode jdk_43_method_46_code 0 = .ok (.iconst 1, 1) := by decide +kernel
theorem d3_1 : decode jdk_43_method_46_code 1 = .ok (.newarray .byte, 2) := by decide +kernel
theorem d3_3 : decode jdk_43_method_46_code 3 = .ok (.dup, 1) := by decide +kernel
theorem d3_4 : decode jdk_43_method_46_code 4 = .ok (.iconst 0, 1) := by decide +kernel
theorem d3_5 : decode jdk_43_method_46_code 5 = .ok (.iload_n 0, 1) := by decide +kernel
theorem d3_6 : decode jdk_43_method_46_code 6 = .ok (.i2b, 1) := by decide +kernel
theorem d3_7 : decode jdk_43_method_46_code 7 = .ok (.bastore, 1) := by decide +kernel
theorem d3_8 : decode jdk_43_method_46_code 8 = .ok (.areturn, 1) := by decide +kernel
def Q_rm_toBytes (Z : State) (q : Int32) (h0 : Heap) (n0 : Nat) (v : Option Value) (h : Heap) (L : List Loc) : Prop := ∃ (r : Addr), v = some (.ref r) ∧ Fr n0 L ∧ Keep h0 h [] ∧ Exa Z h r "[B" ∧ n0 ≤ r ∧ h0.size ≤ r
set_option maxRecDepth 65536 in
set_option maxHeartbeats 40000000 in
theorem rm_toBytes (l : Launch) (Z : State) (a0 : Array Value) (hw : ∀ d ∈ tables_1, d.before a0 Z = true) (ws : List Jvm.Cond) (q : Int32) (h0 : Heap) (n0 : Nat) (Z0 : n0 ≤ h0.size)  :
    Met l Z M3 jdk_43_method_46_code 1 (some (.array .byte)) ws (Rm 0 1 1 0) #[(.int q)] h0 (Q_rm_toBytes Z q h0 n0) := by
  refine met_of (plainFor_of_name pn_java_lang_StringLatin1) (own := "java/lang/StringLatin1") rfl (fun m => ef_rm_toBytes m q) ?_
  intro p e s m below meth c s₁ hx hby hml hown hnm hZ X0 e0 hret hlk
  have N0 := Fr.nil n0
  have K0 := Keep.refl h0 []
  show Goes p e below s _ _ _ (s₁.setTop (mkF m 0 #[.val (.int q)] []))
  refine Goes.pre (U' := s₁.setTop (mkF m 1 #[.val (.int q)] [(.int (1 : Int32))])) (fun t k => XS.iconst X0.here hx rfl (hb hby d3_0) k) ?_
  obtain ⟨T1, h1, k1, X1, e1, E1, A1, B1, st1⟩ := newPE X0 hx hZ (wq hw 18 rfl) e0 (g := (mkF m 1 #[.val (.int q)] [(.int (1 : Int32))])) rfl (hb hby d3_1) rfl (by decide) (cap := 1) (by decide) (by decide) (by decide) (by decide) (ad := "[B") (by decide)
  obtain ⟨nb1, g1⟩ : ∃ z, z = h0.size := ⟨_, rfl⟩
  rw [← g1] at A1 B1 st1
  have g_nb1 : n0 ≤ nb1 := Nat.le_trans Z0 (Nat.le_of_eq g1.symm)
  have sz_nb1 : h0.size ≤ nb1 := Nat.le_trans K0.1 (Nat.le_of_eq g1.symm)
  have Z1 : n0 ≤ h1.size := Nat.le_trans Z0 E1.1
  have K1 := K0.ext E1
  have E_nb1 := B1
  have V_nb1 : Arv Z h1 nb1 k1 .byte (1 : Int32) [(.int (0 : Int32))] (.int (0 : Int32)) := (Arv.new A1 (by decide)).pad (pad_rep [] (.int (0 : Int32)) 1)
  refine Goes.pre (U' := T1.setTop (mkF m 7 #[.val (.int q)] [(.int (q.toInt8.toInt32)), (.int (0 : Int32)), (.ref nb1), (.ref nb1)])) (fun t k => st1 t (XS.dup X1.here hx rfl (hb hby d3_3) rfl rfl (XS.iconst X1.here hx rfl (hb hby d3_4) (XS.iloadN X1.here hx rfl (hb hby d3_5) rfl (XS.i2b X1.here hx rfl (hb hby d3_6) rfl k))))) ?_
  obtain ⟨cl2, Ar2, q2, Sz2, Ng2, Hs2, Ft2⟩ := id V_nb1
  obtain ⟨T2, h2, X2, e2, W2, st2⟩ := stB X1 hx hZ e1 Ar2 (j := (0 : Int32)) (inb_of Sz2 ⟨by decide, by decide⟩) (g := (mkF m 7 #[.val (.int q)] [(.int (q.toInt8.toInt32)), (.int (0 : Int32)), (.ref nb1), (.ref nb1)])) rfl rfl (hb hby d3_7)
  have nr2 : nar .byte (q.toInt8.toInt32) = (q.toInt8.toInt32) := own_i2b _
  have ft2 : fits .byte (.int (q.toInt8.toInt32)) = true := nr2 ▸ (fits_nar_byte (q.toInt8.toInt32) : fits .byte (.int (nar .byte (q.toInt8.toInt32))) = true)
  rw [nr2] at W2
  have E_nb1 := E_nb1.wr W2
  have Z2 : n0 ≤ h2.size := Nat.le_trans Z1 (Keep.of_wr W2).1
  have V_nb1 : Arv Z h2 nb1 k1 .byte (1 : Int32) [(.int (q.toInt8.toInt32))] (.int (0 : Int32)) := Arv.set Ar2 q2 Sz2 Ng2 Hs2 Ft2 ft2 W2 0 rfl (Nat.le_of_ble_eq_true rfl)
  have K2 := K1.wr W2 (Or.inr sz_nb1)
  have N2 := Fr.snoc X2 N0 g_nb1
  refine Goes.pre (U' := T2.setTop (mkF m 8 #[.val (.int q)] [(.ref nb1)])) (fun t k => st2 t k) ?_
  refine Goes.ret X2 (v := (some (.ref nb1))) (fun h => by rw [hret] at h; cases h) hlk (by decide) (by decide) e2 (fun fs hr => retOut X2 hx hret rfl (Or.inr (Or.inr (Or.inr (Or.inr ⟨rfl, rfl, rfl⟩)))) (hb hby d3_8) hr) ?_
  exact ⟨nb1, rfl, N2, K2, E_nb1, g_nb1, sz_nb1⟩
theorem ef_rm_strInit (m : MethodId) (x0 : Addr) (x1 : Addr) (x2 : Int32) : entryFrame m #[(.ref x0), (.ref x1), (.int x2)] 3 = mkF m 0 #[.val (.ref x0), .val (.ref x1), .val (.int x2)] [] := by first | (simp [entryFrame, mkF, argsToLocals, Value.category]; done) | rfl
theorem pn_java_lang_String : plainName "java/lang/String" = true := by first | (simp [plainName, overriddenIn]; done) | decide +kernel
abbrev M4 : MethodName := ⟨"java/lang/String", "<init>", "([BB)V"⟩
theorem d4_0 : decode jdk_42_method_151_code 0 = .ok (.aload_n 0, 1) := by decide +kernel
theorem d4_1 : decode jdk_42_method_151_code 1 = .ok (.invokespecial 1, 3) := by decide +kernel
theorem d4_4 : decode jdk_42_method_151_code 4 = .ok (.aload_n 0, 1) := by decide +kernel
theorem d4_5 : decode jdk_42_method_151_code 5 = .ok (.aload_n 1, 1) := by decide +kernel
theorem d4_6 : decode jdk_42_method_151_code 6 = .ok (.putfield 9, 3) := by decide +kernel
theorem d4_9 : decode jdk_42_method_151_code 9 = .ok (.aload_n 0, 1) := by decide +kernel
theorem d4_10 : decode jdk_42_method_151_code 10 = .ok (.iload_n 2, 1) := by decide +kernel
theorem d4_11 : decode jdk_42_method_151_code 11 = .ok (.putfield 15, 3) := by decide +kernel
theorem d4_14 : decode jdk_42_method_151_code 14 = .ok (.return_, 1) := by decide +kernel
def Q_rm_strInit (Z : State) (a : Addr) (b : Addr) (h0 : Heap) (n0 : Nat) (v : Option Value) (h : Heap) (L : List Loc) : Prop := v = none ∧ Fr n0 L ∧ Keep h0 h [a]
set_option maxRecDepth 65536 in
set_option maxHeartbeats 40000000 in
theorem rm_strInit (l : Launch) (Z : State) (a0 : Array Value) (hw : ∀ d ∈ tables_1, d.before a0 Z = true) (ws : List Jvm.Cond) (a : Addr) (b : Addr) (h0 : Heap) (n0 : Nat) (Z0 : n0 ≤ h0.size) (E_a : Exa Z h0 a "java/lang/String") (F_value_a : Fld Z h0 a "java/lang/String" "value" "[B" .null) (F_coder_a : Fld Z h0 a "java/lang/String" "coder" "B" (.int (0 : Int32))) (g_a : n0 ≤ a) :
    Met l Z M4 jdk_42_method_151_code 3 none ws (Rm 1 0 0 12) #[(.ref a), (.ref b), (.int (0 : Int32))] h0 (Q_rm_strInit Z a b h0 n0) := by
  refine met_of (plainFor_of_name pn_java_lang_String) (own := "java/lang/String") rfl (fun m => ef_rm_strInit m a b (0 : Int32)) ?_
  intro p e s m below meth c s₁ hx hby hml hown hnm hZ X0 e0 hret hlk
  have N0 := Fr.nil n0
  have K0 := Keep.refl h0 [a]
  show Goes p e below s _ _ _ (s₁.setTop (mkF m 0 #[.val (.ref a), .val (.ref b), .val (.int (0 : Int32))] []))
  refine Goes.pre (U' := s₁.setTop (mkF m 1 #[.val (.ref a), .val (.ref b), .val (.int (0 : Int32))] [(.ref a)])) (fun t k => XS.aloadN X0.here hx rfl (hb hby d4_0) rfl rfl k) ?_
  obtain ⟨T1, X1, e1, st1⟩ := initO X0 hx hZ hown (wq hw 23 rfl) (wq hw 24 rfl) (wq hw 25 rfl) e0 (g := (mkF m 1 #[.val (.ref a), .val (.ref b), .val (.int (0 : Int32))] [(.ref a)])) rfl (by rw [hml]; rfl) rfl (hb hby d4_1) (by decide) (W := 0) (by show 2 * 0 + _ ≤ _; exact Nat.le_of_eq rfl) (by decide)
  refine Goes.pre (U' := T1.setTop (mkF m 6 #[.val (.ref a), .val (.ref b), .val (.int (0 : Int32))] [(.ref b), (.ref a)])) (fun t k => st1 t (XS.aloadN X1.here hx rfl (hb hby d4_4) rfl rfl (XS.aloadN X1.here hx rfl (hb hby d4_5) rfl rfl k))) ?_
  obtain ⟨T2, h2, X2, e2, W2, st2⟩ := putF X1 hx hZ hown (host := "") (Or.inl (wq hw 26 rfl)) Via.refl e1 F_value_a E_a (Or.inr ⟨(wq hw 27 rfl), rfl, hnm⟩) (wq hw 14 rfl) (ty := (.array .byte)) (by decide) rfl rfl (g := (mkF m 6 #[.val (.ref a), .val (.ref b), .val (.int (0 : Int32))] [(.ref b), (.ref a)])) rfl rfl (hb hby d4_6)
  have E_a := E_a.wr W2
  have F_coder_a := F_coder_a.other W2 (Or.inr (slot_ne (Or.inr (wq hw 29 rfl)) (Or.inr (wq hw 27 rfl)) (by decide) (t := .byte) (t' := (.array .byte)) (by decide) (by decide)))
  have Z2 : n0 ≤ h2.size := Nat.le_trans Z0 (Keep.of_wr W2).1
  have F_value_a := F_value_a.same W2
  have K2 := K0.wr W2 (Or.inl (List.mem_of_getElem? (i := 0) rfl))
  have N2 := Fr.snoc X2 N0 g_a
  refine Goes.pre (U' := T2.setTop (mkF m 11 #[.val (.ref a), .val (.ref b), .val (.int (0 : Int32))] [(.int (0 : Int32)), (.ref a)])) (fun t k => st2 t (XS.aloadN X2.here hx rfl (hb hby d4_9) rfl rfl (XS.iloadN X2.here hx rfl (hb hby d4_10) rfl k))) ?_
  obtain ⟨T3, h3, X3, e3, W3, st3⟩ := putFN X2 hx hZ hown (wq hw 28 rfl) Via.refl e2 F_coder_a E_a (Or.inr ⟨(wq hw 29 rfl), rfl, hnm⟩) (wq hw 14 rfl) (ty := .byte) (v' := (.int (0 : Int32))) (by decide) rfl (by decide) (g := (mkF m 11 #[.val (.ref a), .val (.ref b), .val (.int (0 : Int32))] [(.int (0 : Int32)), (.ref a)])) rfl rfl (hb hby d4_11)
  have E_a := E_a.wr W3
  have F_value_a := F_value_a.other W3 (Or.inr (slot_ne (Or.inr (wq hw 27 rfl)) (Or.inr (wq hw 29 rfl)) (by decide) (t := (.array .byte)) (t' := .byte) (by decide) (by decide)))
  have Z3 : n0 ≤ h3.size := Nat.le_trans Z2 (Keep.of_wr W3).1
  have F_coder_a := F_coder_a.same W3
  have K3 := K2.wr W3 (Or.inl (List.mem_of_getElem? (i := 0) rfl))
  have N3 := Fr.snoc X3 N2 g_a
  refine Goes.pre (U' := T3.setTop (mkF m 14 #[.val (.ref a), .val (.ref b), .val (.int (0 : Int32))] [])) (fun t k => st3 t k) ?_
  refine Goes.ret X3 (v := none) (fun _ => rfl) hlk (by decide) (by decide) e3 (fun fs hr => X3.returnOut hx hret (hb hby d4_14) hr) ?_
  exact ⟨rfl, N3, K3⟩
theorem ef_rm_valueOf (m : MethodId) (x0 : Int32) : entryFrame m #[(.int x0)] 1 = mkF m 0 #[.val (.int x0)] [] := by first | (simp [entryFrame, mkF, argsToLocals, Value.category]; done) | rfl
abbrev M1 : MethodName := ⟨"java/lang/String", "valueOf", "(C)Ljava/lang/String;"⟩
theorem d1_0 : decode jdk_42_method_139_code 0 = .ok (.getstatic 38, 3) := by decide +kernel
theorem d1_3 : decode jdk_42_method_139_code 3 = .ok (.ifCond .eq 23, 3) := by decide +kernel
theorem d1_6 : decode jdk_42_method_139_code 6 = .ok (.iload_n 0, 1) := by decide +kernel
theorem d1_7 : decode jdk_42_method_139_code 7 = .ok (.invokestatic 1015, 3) := by decide +kernel
theorem pd__28C_29Z : parseMethodDescriptor "(C)Z" = some ⟨[.char], some .boolean⟩ := by decide +kernel
theorem d1_10 : decode jdk_42_method_139_code 10 = .ok (.ifCond .eq 16, 3) := by decide +kernel
theorem d1_13 : decode jdk_42_method_139_code 13 = .ok (.new 10, 3) := by decide +kernel
theorem d1_16 : decode jdk_42_method_139_code 16 = .ok (.dup, 1) := by decide +kernel
theorem d1_17 : decode jdk_42_method_139_code 17 = .ok (.iload_n 0, 1) := by decide +kernel
theorem d1_18 : decode jdk_42_method_139_code 18 = .ok (.invokestatic 1018, 3) := by decide +kernel
theorem pd__28C_29_5bB : parseMethodDescriptor "(C)[B" = some ⟨[.char], some (.array .byte)⟩ := by decide +kernel
theorem d1_21 : decode jdk_42_method_139_code 21 = .ok (.iconst 0, 1) := by decide +kernel
theorem d1_22 : decode jdk_42_method_139_code 22 = .ok (.invokespecial 209, 3) := by decide +kernel
theorem pd__28_5bBB_29V : parseMethodDescriptor "([BB)V" = some ⟨[(.array .byte), .byte], none⟩ := by decide +kernel
theorem d1_25 : decode jdk_42_method_139_code 25 = .ok (.areturn, 1) := by decide +kernel
def Q_rm_valueOf (Z : State) (q : Int32) (cs : Int32) (h0 : Heap) (n0 : Nat) (v : Option Value) (h : Heap) (L : List Loc) : Prop := ∃ (r : Addr), v = some (.ref r) ∧ Fr n0 L ∧ Keep h0 h [] ∧ Exa Z h r "java/lang/String" ∧ n0 ≤ r ∧ h0.size ≤ r
set_option maxRecDepth 65536 in
set_option maxHeartbeats 40000000 in
theorem rm_valueOf (l : Launch) (Z : State) (a0 : Array Value) (hw : ∀ d ∈ tables_1, d.before a0 Z = true) (ws : List Jvm.Cond) (q : Int32) (cs : Int32) (h0 : Heap) (n0 : Nat) (Z0 : n0 ≤ h0.size) (S_COMPACT_STRINGS : Sta Z Z.heap "java/lang/String" "COMPACT_STRINGS" "Z" (.int cs)) (hq : ¬ ((255 : Int32) < q)) (hcs : ¬ (cs = (0 : Int32))) (O : Old Z n0 h0) :
    Met l Z M1 jdk_42_method_139_code 1 (some (.object "java/lang/String")) ws (Rm 2 2 5 27) #[(.int q)] h0 (Q_rm_valueOf Z q cs h0 n0) := by
  refine met_of (plainFor_of_name pn_java_lang_String) (own := "java/lang/String") rfl (fun m => ef_rm_valueOf m q) ?_
  intro p e s m below meth c s₁ hx hby hml hown hnm hZ X0 e0 hret hlk
  have N0 := Fr.nil n0
  have K0 := Keep.refl h0 []
  show Goes p e below s _ _ _ (s₁.setTop (mkF m 0 #[.val (.int q)] []))
  obtain ⟨T1, X1, e1, st1⟩ := getS2 X0 hx hZ hown (host := "") (Or.inl (wq hw 8 rfl)) Via.refl e0 (S_COMPACT_STRINGS.ext O.2) (g := (mkF m 0 #[.val (.int q)] [])) rfl (hb hby d1_0)
  refine Goes.pre (U' := T1.setTop (mkF m 3 #[.val (.int q)] [(.int cs)])) (fun t k => st1 t k) ?_
  have hc3 : ¬ (cs = (0 : Int32)) := hcs
  refine Goes.pre (U' := T1.setTop (mkF m 7 #[.val (.int q)] [(.int q)])) (fun t k => XS.ifNo X1.here hx rfl (hb hby d1_3) rfl ((if0 _ _).trans (feq hc3).1) (XS.iloadN X1.here hx rfl (hb hby d1_6) rfl k)) ?_
  obtain ⟨_, _, ⟨T2, L2, k2, n2⟩, -, X2, ⟨Lc2, hQ2, l2, y2, z2⟩, st2⟩ := Jvm.LawKit.callS X1 hx (y := (⟨"java/lang/StringLatin1", "canEncode", "(C)Z"⟩ : MethodName)) hown (mvT hZ (wq hw 9 rfl)) (mvT hZ (wq hw 10 rfl)) (mvT hZ (wq hw 11 rfl)) (mvT hZ (wq hw 12 rfl)) (by decide) (backOf (W := 0) (rm_canEnc l Z a0 hw [] q h0 n0 Z0  hq) hZ (wq hw 12 rfl) (wq hw 11 rfl) (by decide) (by decide)) (g := (mkF m 7 #[.val (.int q)] [(.int q)])) rfl (by rw [hml]; rfl) (argsL := [(.int q)]) (rest := []) (lenOf pd__28C_29Z rfl) rfl (by show 2 * 0 + _ ≤ _; exact Nat.le_of_eq rfl) (hb hby d1_7) (fun _ _ => ⟨rfl, e1, (by decide : 0 + 0 ≤ _), (by decide : 0 + 0 ≤ _)⟩)
  dsimp only [Pt.U, Pt.locs, Pt.cells, Pt.slots] at X2 l2 y2 z2 st2 hQ2
  subst l2 y2 z2
  obtain ⟨rfl, N2q, HQ2⟩ := hQ2
  have N2 := Fr.app N0 N2q
  refine Goes.pre (U' := T2.setTop (mkF m 10 #[.val (.int q)] [(.int (1 : Int32))])) (fun t k => st2 t k) ?_
  have hc10 : ¬ ((1 : Int32) = (0 : Int32)) := by decide
  refine Goes.pre (U' := T2.setTop (mkF m 13 #[.val (.int q)] [])) (fun t k => XS.ifNo X2.here hx rfl (hb hby d1_10) rfl ((if0 _ _).trans (feq hc10).1) k) ?_
  obtain ⟨T3, h3, X3, e3, E3, A3, D3, -, st3⟩ := newO X2 hx hZ hown (wq hw 13 rfl) (wq hw 14 rfl) (wq hw 6 rfl) HQ2 (g := (mkF m 13 #[.val (.int q)] [])) rfl (hb hby d1_13) (by decide) (by decide)
  obtain ⟨sa, g3⟩ : ∃ z, z = h0.size := ⟨_, rfl⟩
  rw [← g3] at A3 D3 st3
  have g_sa : n0 ≤ sa := Nat.le_trans Z0 (Nat.le_of_eq g3.symm)
  have sz_sa : h0.size ≤ sa := Nat.le_trans K0.1 (Nat.le_of_eq g3.symm)
  have O := O.ext E3
  have Z3 : n0 ≤ h3.size := Nat.le_trans Z0 E3.1
  have K3 := K0.ext E3
  have E_sa := A3
  have F_value_sa : Fld Z h3 sa "java/lang/String" "value" "[B" .null := D3 (Or.inr (wq hw 27 rfl)) (ty := (.array .byte)) (by decide)
  have F_coder_sa : Fld Z h3 sa "java/lang/String" "coder" "B" (.int (0 : Int32)) := D3 (Or.inr (wq hw 29 rfl)) (ty := .byte) (by decide)
  refine Goes.pre (U' := T3.setTop (mkF m 18 #[.val (.int q)] [(.int q), (.ref sa), (.ref sa)])) (fun t k => st3 t (XS.dup X3.here hx rfl (hb hby d1_16) rfl rfl (XS.iloadN X3.here hx rfl (hb hby d1_17) rfl k))) ?_
  have lt_sa := E_sa.lt
  obtain ⟨_, _, ⟨T4, L4, k4, n4⟩, -, X4, ⟨Lc4, hQ4, l4, y4, z4⟩, st4⟩ := Jvm.LawKit.callS X3 hx (y := (⟨"java/lang/StringLatin1", "toBytes", "(C)[B"⟩ : MethodName)) hown (mvT hZ (wq hw 15 rfl)) (mvT hZ (wq hw 16 rfl)) (mvT hZ (wq hw 11 rfl)) (mvT hZ (wq hw 17 rfl)) (by decide) (backOf (W := 2) (rm_toBytes l Z a0 hw [] q h3 n0 Z3 ) hZ (wq hw 17 rfl) (wq hw 11 rfl) (by decide) (by decide)) (g := (mkF m 18 #[.val (.int q)] [(.int q), (.ref sa), (.ref sa)])) rfl (by rw [hml]; rfl) (argsL := [(.int q)]) (rest := [(.ref sa), (.ref sa)]) (lenOf pd__28C_29_5bB rfl) rfl (by show 2 * 0 + _ ≤ _; exact Nat.le_of_eq rfl) (hb hby d1_18) (fun _ _ => ⟨rfl, e3, (by decide : 1 + 1 ≤ _), (by decide : 4 + 1 ≤ _)⟩)
  dsimp only [Pt.U, Pt.locs, Pt.cells, Pt.slots] at X4 l4 y4 z4 st4 hQ4
  subst l4 y4 z4
  obtain ⟨r4, rfl, N4q, KQ4, fo0_4, g_r4, sl_r4⟩ := hQ4
  have N4 := Fr.app N2 N4q
  have E_sa := E_sa.keep KQ4
  have F_value_sa := F_value_sa.keep KQ4 nin0
  have F_coder_sa := F_coder_sa.keep KQ4 nin0
  have Z5 : n0 ≤ T4.heap.size := Nat.le_trans Z3 KQ4.1
  have O := O.keep KQ4 all0
  have K5 := K3.trans KQ4 all0
  have ne_sa_r4 : sa ≠ r4 := Nat.ne_of_lt (Nat.lt_of_lt_of_le lt_sa sl_r4)
  have ne_r4_sa := ne_sa_r4.symm
  have sz_r4 : h0.size ≤ r4 := Nat.le_trans K3.1 sl_r4
  have E_r4 := fo0_4
  refine Goes.pre (U' := T4.setTop (mkF m 22 #[.val (.int q)] [(.int (0 : Int32)), (.ref r4), (.ref sa), (.ref sa)])) (fun t k => st4 t (XS.iconst X4.here hx rfl (hb hby d1_21) k)) ?_
  obtain ⟨_, _, ⟨T6, L6, k6, n6⟩, -, X6, ⟨Lc6, hQ6, l6, y6, z6⟩, st6⟩ := X4.specialBack hx (y := (⟨"java/lang/String", "<init>", "([BB)V"⟩ : MethodName)) rfl hown (mvT hZ (wq hw 19 rfl)) (mvT hZ (wq hw 20 rfl)) (mvT hZ (wq hw 22 rfl)) (by decide) (backOf (W := 1) (rm_strInit l Z a0 hw [] sa r4 T4.heap n0 Z5 E_sa F_value_sa F_coder_sa g_sa) hZ (wq hw 22 rfl) (wq hw 6 rfl) (by decide) (by decide)) (g := (mkF m 22 #[.val (.int q)] [(.int (0 : Int32)), (.ref r4), (.ref sa), (.ref sa)])) rfl (by rw [hml]; rfl) (Steps.refl _) (a := sa) (argsL := [(.ref r4), (.int (0 : Int32))]) (rest := [(.ref sa)]) (lenOf pd__28_5bBB_29V rfl) rfl (by show 2 * 0 + _ ≤ _; exact Nat.le_of_eq rfl) (hb hby d1_22) (fun _ _ => ⟨rfl, rfl, (by decide : 2 + 0 ≤ _), (by decide : 5 + 0 ≤ _)⟩)
  dsimp only [Pt.U, Pt.locs, Pt.cells, Pt.slots] at X6 l6 y6 z6 st6 hQ6
  subst l6 y6 z6
  obtain ⟨rfl, N6q, KQ6⟩ := hQ6
  have N6 := Fr.app N4 N6q
  have E_sa := E_sa.keep KQ6
  have E_r4 := E_r4.keep KQ6
  have Z7 : n0 ≤ T6.heap.size := Nat.le_trans Z5 KQ6.1
  have O := O.keep KQ6 (allS (P := fun x => n0 ≤ x) g_sa all0)
  have K7 := K5.trans KQ6 (allS (P := fun x => x ∈ [] ∨ h0.size ≤ x) (Or.inr sz_sa) all0)
  refine Goes.pre (U' := T6.setTop (mkF m 25 #[.val (.int q)] [(.ref sa)])) (fun t k => st6.trans k) ?_
  refine Goes.ret X6 (v := (some (.ref sa))) (fun h => by rw [hret] at h; cases h) hlk (by decide) (by decide) rfl (fun fs hr => retOut X6 hx hret rfl (Or.inr (Or.inr (Or.inr (Or.inr ⟨rfl, rfl, rfl⟩)))) (hb hby d1_25) hr) ?_
  exact ⟨sa, rfl, N6, K7, E_sa, g_sa, sz_sa⟩
theorem ef_rm_record (m : MethodId) (x0 : Addr) : entryFrame m #[(.ref x0)] 1 = mkF m 0 #[.val (.ref x0)] [] := by first | (simp [entryFrame, mkF, argsToLocals, Value.category]; done) | rfl
theorem pn_java_lang_Record : plainName "java/lang/Record" = true := by first | (simp [plainName, overriddenIn]; done) | decide +kernel
abbrev M7 : MethodName := ⟨"java/lang/Record", "<init>", "()V"⟩
theorem d7_0 : decode jdk_30_method_1_code 0 = .ok (.aload_n 0, 1) := by decide +kernel
theorem d7_1 : decode jdk_30_method_1_code 1 = .ok (.invokespecial 1, 3) := by decide +kernel
theorem d7_4 : decode jdk_30_method_1_code 4 = .ok (.return_, 1) := by decide +kernel
def Q_rm_record (Z : State) (a : Addr) (h0 : Heap) (n0 : Nat) (v : Option Value) (h : Heap) (L : List Loc) : Prop := v = none ∧ Fr n0 L ∧ h = h0
set_option maxRecDepth 65536 in
set_option maxHeartbeats 40000000 in
theorem rm_record (l : Launch) (Z : State) (a0 : Array Value) (hw : ∀ d ∈ tables_1, d.before a0 Z = true) (ws : List Jvm.Cond) (a : Addr) (h0 : Heap) (n0 : Nat) (Z0 : n0 ≤ h0.size)  :
    Met l Z M7 jdk_30_method_1_code 1 none ws (Rm 1 0 0 12) #[(.ref a)] h0 (Q_rm_record Z a h0 n0) := by
  refine met_of (plainFor_of_name pn_java_lang_Record) (own := "java/lang/Record") rfl (fun m => ef_rm_record m a) ?_
  intro p e s m below meth c s₁ hx hby hml hown hnm hZ X0 e0 hret hlk
  have N0 := Fr.nil n0
  show Goes p e below s _ _ _ (s₁.setTop (mkF m 0 #[.val (.ref a)] []))
  refine Goes.pre (U' := s₁.setTop (mkF m 1 #[.val (.ref a)] [(.ref a)])) (fun t k => XS.aloadN X0.here hx rfl (hb hby d7_0) rfl rfl k) ?_
  obtain ⟨T1, X1, e1, st1⟩ := initO X0 hx hZ hown (wq hw 38 rfl) (wq hw 24 rfl) (wq hw 25 rfl) e0 (g := (mkF m 1 #[.val (.ref a)] [(.ref a)])) rfl (by rw [hml]; rfl) rfl (hb hby d7_1) (by decide) (W := 0) (by show 2 * 0 + _ ≤ _; exact Nat.le_of_eq rfl) (by decide)
  refine Goes.pre (U' := T1.setTop (mkF m 4 #[.val (.ref a)] [])) (fun t k => st1 t k) ?_
  refine Goes.ret X1 (v := none) (fun _ => rfl) hlk (by decide) (by decide) e1 (fun fs hr => X1.returnOut hx hret (hb hby d7_4) hr) ?_
  exact ⟨rfl, N0, rfl⟩
theorem ef_rm_label (m : MethodId) (x0 : Addr) (x1 : Addr) : entryFrame m #[(.ref x0), (.ref x1)] 2 = mkF m 0 #[.val (.ref x0), .val (.ref x1)] [] := by first | (simp [entryFrame, mkF, argsToLocals, Value.category]; done) | rfl
theorem pn_com_example_restate_restate_plan_Label : plainName "com/example/restate/restate/plan/Label" = true := by first | (simp [plainName, overriddenIn]; done) | decide +kernel
abbrev M6 : MethodName := ⟨"com/example/restate/restate/plan/Label", "<init>", "(Ljava/lang/String;)V"⟩
theorem d6_0 : decode prog_25_method_1_code 0 = .ok (.aload_n 0, 1) := by decide +kernel
theorem d6_1 : decode prog_25_method_1_code 1 = .ok (.invokespecial 3, 3) := by decide +kernel
theorem pd__28_29V : parseMethodDescriptor "()V" = some ⟨[], none⟩ := by decide +kernel
theorem d6_4 : decode prog_25_method_1_code 4 = .ok (.aload_n 0, 1) := by decide +kernel
theorem d6_5 : decode prog_25_method_1_code 5 = .ok (.aload_n 1, 1) := by decide +kernel
theorem d6_6 : decode prog_25_method_1_code 6 = .ok (.putfield 9, 3) := by decide +kernel
theorem d6_9 : decode prog_25_method_1_code 9 = .ok (.return_, 1) := by decide +kernel
def Q_rm_label (Z : State) (a : Addr) (t : Addr) (h0 : Heap) (n0 : Nat) (v : Option Value) (h : Heap) (L : List Loc) : Prop := v = none ∧ Fr n0 L ∧ Keep h0 h [a]
set_option maxRecDepth 65536 in
set_option maxHeartbeats 40000000 in
theorem rm_label (l : Launch) (Z : State) (a0 : Array Value) (hw : ∀ d ∈ tables_1, d.before a0 Z = true) (ws : List Jvm.Cond) (a : Addr) (t : Addr) (h0 : Heap) (n0 : Nat) (Z0 : n0 ≤ h0.size) (E_a : Exa Z h0 a "com/example/restate/restate/plan/Label") (F_text_a : Fld Z h0 a "com/example/restate/restate/plan/Label" "text" "Ljava/lang/String;" .null) (g_a : n0 ≤ a) :
    Met l Z M6 prog_25_method_1_code 2 none ws (Rm 2 0 0 24) #[(.ref a), (.ref t)] h0 (Q_rm_label Z a t h0 n0) := by
  refine met_of (plainFor_of_name pn_com_example_restate_restate_plan_Label) (own := "com/example/restate/restate/plan/Label") rfl (fun m => ef_rm_label m a t) ?_
  intro p e s m below meth c s₁ hx hby hml hown hnm hZ X0 e0 hret hlk
  have N0 := Fr.nil n0
  have K0 := Keep.refl h0 [a]
  show Goes p e below s _ _ _ (s₁.setTop (mkF m 0 #[.val (.ref a), .val (.ref t)] []))
  refine Goes.pre (U' := s₁.setTop (mkF m 1 #[.val (.ref a), .val (.ref t)] [(.ref a)])) (fun t k => XS.aloadN X0.here hx rfl (hb hby d6_0) rfl rfl k) ?_
  obtain ⟨_, _, ⟨T1, L1, k1, n1⟩, -, X1, ⟨Lc1, hQ1, l1, y1, z1⟩, st1⟩ := X0.specialBack hx (y := (⟨"java/lang/Record", "<init>", "()V"⟩ : MethodName)) rfl hown (mvT hZ (wq hw 33 rfl)) (mvT hZ (wq hw 34 rfl)) (mvT hZ (wq hw 37 rfl)) (by decide) (backOf (W := 0) (rm_record l Z a0 hw [] a h0 n0 Z0 ) hZ (wq hw 37 rfl) (wq hw 36 rfl) (by decide) (by decide)) (g := (mkF m 1 #[.val (.ref a), .val (.ref t)] [(.ref a)])) rfl (by rw [hml]; rfl) (Steps.refl _) (a := a) (argsL := []) (rest := []) (lenOf pd__28_29V rfl) rfl (by show 2 * 0 + _ ≤ _; exact Nat.le_of_eq rfl) (hb hby d6_1) (fun _ _ => ⟨rfl, e0, (by decide : 0 + 0 ≤ _), (by decide : 0 + 0 ≤ _)⟩)
  dsimp only [Pt.U, Pt.locs, Pt.cells, Pt.slots] at X1 l1 y1 z1 st1 hQ1
  subst l1 y1 z1
  obtain ⟨rfl, N1q, HQ1⟩ := hQ1
  have N1 := Fr.app N0 N1q
  refine Goes.pre (U' := T1.setTop (mkF m 6 #[.val (.ref a), .val (.ref t)] [(.ref t), (.ref a)])) (fun t k => st1.trans (XS.aloadN X1.here hx rfl (hb hby d6_4) rfl rfl (XS.aloadN X1.here hx rfl (hb hby d6_5) rfl rfl k))) ?_
  obtain ⟨T2, h2, X2, e2, W2, st2⟩ := putF X1 hx hZ hown (host := "") (Or.inl (wq hw 39 rfl)) Via.refl HQ1 F_text_a E_a (Or.inr ⟨(wq hw 40 rfl), rfl, hnm⟩) (wq hw 2 rfl) (ty := (.object "java/lang/String")) (by decide) rfl rfl (g := (mkF m 6 #[.val (.ref a), .val (.ref t)] [(.ref t), (.ref a)])) rfl rfl (hb hby d6_6)
  have E_a := E_a.wr W2
  have Z2 : n0 ≤ h2.size := Nat.le_trans Z0 (Keep.of_wr W2).1
  have F_text_a := F_text_a.same W2
  have K2 := K0.wr W2 (Or.inl (List.mem_of_getElem? (i := 0) rfl))
  have N2 := Fr.snoc X2 N1 g_a
  refine Goes.pre (U' := T2.setTop (mkF m 9 #[.val (.ref a), .val (.ref t)] [])) (fun t k => st2 t k) ?_
  refine Goes.ret X2 (v := none) (fun _ => rfl) hlk (by decide) (by decide) e2 (fun fs hr => X2.returnOut hx hret (hb hby d6_9) hr) ?_
  exact ⟨rfl, N2, K2⟩
theorem ef_rm_abc (m : MethodId) (x0 : Addr) : entryFrame m #[(.ref x0)] 1 = mkF m 0 #[.val (.ref x0)] [] := by first | (simp [entryFrame, mkF, argsToLocals, Value.category]; done) | rfl
theorem pn_java_util_AbstractCollection : plainName "java/util/AbstractCollection" = true := by first | (simp [plainName, overriddenIn]; done) | decide +kernel
abbrev M10 : MethodName := ⟨"java/util/AbstractCollection", "<init>", "()V"⟩
theorem d10_0 : decode jdk_22_method_1_code 0 = .ok (.aload_n 0, 1) := by decide +kernel
theorem d10_1 : decode jdk_22_method_1_code 1 = .ok (.invokespecial 1, 3) := by decide +kernel
theorem d10_4 : decode jdk_22_method_1_code 4 = .ok (.return_, 1) := by decide +kernel
def Q_rm_abc (Z : State) (a : Addr) (h0 : Heap) (n0 : Nat) (v : Option Value) (h : Heap) (L : List Loc) : Prop := v = none ∧ Fr n0 L ∧ h = h0
set_option maxRecDepth 65536 in
set_option maxHeartbeats 40000000 in
theorem rm_abc (l : Launch) (Z : State) (a0 : Array Value) (hw : ∀ d ∈ tables_1, d.before a0 Z = true) (ws : List Jvm.Cond) (a : Addr) (h0 : Heap) (n0 : Nat) (Z0 : n0 ≤ h0.size)  :
    Met l Z M10 jdk_22_method_1_code 1 none ws (Rm 1 0 0 12) #[(.ref a)] h0 (Q_rm_abc Z a h0 n0) := by
  refine met_of (plainFor_of_name pn_java_util_AbstractCollection) (own := "java/util/AbstractCollection") rfl (fun m => ef_rm_abc m a) ?_
  intro p e s m below meth c s₁ hx hby hml hown hnm hZ X0 e0 hret hlk
  have N0 := Fr.nil n0
  show Goes p e below s _ _ _ (s₁.setTop (mkF m 0 #[.val (.ref a)] []))
  refine Goes.pre (U' := s₁.setTop (mkF m 1 #[.val (.ref a)] [(.ref a)])) (fun t k => XS.aloadN X0.here hx rfl (hb hby d10_0) rfl rfl k) ?_
  obtain ⟨T1, X1, e1, st1⟩ := initO X0 hx hZ hown (wq hw 59 rfl) (wq hw 24 rfl) (wq hw 25 rfl) e0 (g := (mkF m 1 #[.val (.ref a)] [(.ref a)])) rfl (by rw [hml]; rfl) rfl (hb hby d10_1) (by decide) (W := 0) (by show 2 * 0 + _ ≤ _; exact Nat.le_of_eq rfl) (by decide)
  refine Goes.pre (U' := T1.setTop (mkF m 4 #[.val (.ref a)] [])) (fun t k => st1 t k) ?_
  refine Goes.ret X1 (v := none) (fun _ => rfl) hlk (by decide) (by decide) e1 (fun fs hr => X1.returnOut hx hret (hb hby d10_4) hr) ?_
  exact ⟨rfl, N0, rfl⟩
theorem ef_rm_abl (m : MethodId) (x0 : Addr) : entryFrame m #[(.ref x0)] 1 = mkF m 0 #[.val (.ref x0)] [] := by first | (simp [entryFrame, mkF, argsToLocals, Value.category]; done) | rfl
theorem pn_java_util_AbstractList : plainName "java/util/AbstractList" = true := by first | (simp [plainName, overriddenIn]; done) | decide +kernel
abbrev M9 : MethodName := ⟨"java/util/AbstractList", "<init>", "()V"⟩
theorem d9_0 : decode jdk_39_method_1_code 0 = .ok (.aload_n 0, 1) := by decide +kernel
theorem d9_1 : decode jdk_39_method_1_code 1 = .ok (.invokespecial 1, 3) := by decide +kernel
theorem d9_4 : decode jdk_39_method_1_code 4 = .ok (.aload_n 0, 1) := by decide +kernel
theorem d9_5 : decode jdk_39_method_1_code 5 = .ok (.iconst 0, 1) := by decide +kernel
theorem d9_6 : decode jdk_39_method_1_code 6 = .ok (.putfield 7, 3) := by decide +kernel
theorem d9_9 : decode jdk_39_method_1_code 9 = .ok (.return_, 1) := by decide +kernel
def Q_rm_abl (Z : State) (a : Addr) (h0 : Heap) (n0 : Nat) (v : Option Value) (h : Heap) (L : List Loc) : Prop := v = none ∧ Fr n0 L ∧ Keep h0 h [a] ∧ Fld Z h a "java/util/AbstractList" "modCount" "I" (.int (0 : Int32)) ∧ Fld Z h a "java/util/ArrayList" "size" "I" (.int (0 : Int32)) ∧ Fld Z h a "java/util/ArrayList" "elementData" "[Ljava/lang/Object;" .null
set_option maxRecDepth 65536 in
set_option maxHeartbeats 40000000 in
theorem rm_abl (l : Launch) (Z : State) (a0 : Array Value) (hw : ∀ d ∈ tables_1, d.before a0 Z = true) (ws : List Jvm.Cond) (a : Addr) (h0 : Heap) (n0 : Nat) (Z0 : n0 ≤ h0.size) (E_a : Exa Z h0 a "java/util/ArrayList") (F_modCount_a : Fld Z h0 a "java/util/AbstractList" "modCount" "I" (.int (0 : Int32))) (F_size_a : Fld Z h0 a "java/util/ArrayList" "size" "I" (.int (0 : Int32))) (F_elementData_a : Fld Z h0 a "java/util/ArrayList" "elementData" "[Ljava/lang/Object;" .null) (g_a : n0 ≤ a) :
    Met l Z M9 jdk_39_method_1_code 1 none ws (Rm 2 0 0 24) #[(.ref a)] h0 (Q_rm_abl Z a h0 n0) := by
  refine met_of (plainFor_of_name pn_java_util_AbstractList) (own := "java/util/AbstractList") rfl (fun m => ef_rm_abl m a) ?_
  intro p e s m below meth c s₁ hx hby hml hown hnm hZ X0 e0 hret hlk
  have N0 := Fr.nil n0
  have K0 := Keep.refl h0 [a]
  show Goes p e below s _ _ _ (s₁.setTop (mkF m 0 #[.val (.ref a)] []))
  refine Goes.pre (U' := s₁.setTop (mkF m 1 #[.val (.ref a)] [(.ref a)])) (fun t k => XS.aloadN X0.here hx rfl (hb hby d9_0) rfl rfl k) ?_
  obtain ⟨_, _, ⟨T1, L1, k1, n1⟩, -, X1, ⟨Lc1, hQ1, l1, y1, z1⟩, st1⟩ := X0.specialBack hx (y := (⟨"java/util/AbstractCollection", "<init>", "()V"⟩ : MethodName)) rfl hown (mvT hZ (wq hw 53 rfl)) (mvT hZ (wq hw 54 rfl)) (mvT hZ (wq hw 58 rfl)) (by decide) (backOf (W := 0) (rm_abc l Z a0 hw [] a h0 n0 Z0 ) hZ (wq hw 58 rfl) (wq hw 57 rfl) (by decide) (by decide)) (g := (mkF m 1 #[.val (.ref a)] [(.ref a)])) rfl (by rw [hml]; rfl) (Steps.refl _) (a := a) (argsL := []) (rest := []) (lenOf pd__28_29V rfl) rfl (by show 2 * 0 + _ ≤ _; exact Nat.le_of_eq rfl) (hb hby d9_1) (fun _ _ => ⟨rfl, e0, (by decide : 0 + 0 ≤ _), (by decide : 0 + 0 ≤ _)⟩)
  dsimp only [Pt.U, Pt.locs, Pt.cells, Pt.slots] at X1 l1 y1 z1 st1 hQ1
  subst l1 y1 z1
  obtain ⟨rfl, N1q, HQ1⟩ := hQ1
  have N1 := Fr.app N0 N1q
  refine Goes.pre (U' := T1.setTop (mkF m 6 #[.val (.ref a)] [(.int (0 : Int32)), (.ref a)])) (fun t k => st1.trans (XS.aloadN X1.here hx rfl (hb hby d9_4) rfl rfl (XS.iconst X1.here hx rfl (hb hby d9_5) k))) ?_
  obtain ⟨T2, h2, X2, e2, W2, st2⟩ := putF X1 hx hZ hown (host := "") (Or.inl (wq hw 60 rfl)) Via.refl HQ1 F_modCount_a E_a (Or.inl (wq hw 61 rfl)) (wq hw 42 rfl) (ty := .int) (by decide) rfl rfl (g := (mkF m 6 #[.val (.ref a)] [(.int (0 : Int32)), (.ref a)])) rfl rfl (hb hby d9_6)
  have E_a := E_a.wr W2
  have F_size_a := F_size_a.other W2 (Or.inr (slot_ne (Or.inl (wq hw 96 rfl)) (Or.inl (wq hw 61 rfl)) (by decide) (t := .int) (t' := .int) (by decide) (by decide)))
  have F_elementData_a := F_elementData_a.other W2 (Or.inr (slot_ne (Or.inl (wq hw 64 rfl)) (Or.inl (wq hw 61 rfl)) (by decide) (t := (.array (.object "java/lang/Object"))) (t' := .int) (by decide) (by decide)))
  have Z2 : n0 ≤ h2.size := Nat.le_trans Z0 (Keep.of_wr W2).1
  have F_modCount_a := F_modCount_a.same W2
  have K2 := K0.wr W2 (Or.inl (List.mem_of_getElem? (i := 0) rfl))
  have N2 := Fr.snoc X2 N1 g_a
  refine Goes.pre (U' := T2.setTop (mkF m 9 #[.val (.ref a)] [])) (fun t k => st2 t k) ?_
  refine Goes.ret X2 (v := none) (fun _ => rfl) hlk (by decide) (by decide) e2 (fun fs hr => X2.returnOut hx hret (hb hby d9_9) hr) ?_
  exact ⟨rfl, N2, K2, F_modCount_a, F_size_a, F_elementData_a⟩
theorem ef_rm_al (m : MethodId) (x0 : Addr) : entryFrame m #[(.ref x0)] 1 = mkF m 0 #[.val (.ref x0)] [] := by first | (simp [entryFrame, mkF, argsToLocals, Value.category]; done) | rfl
theorem pn_java_util_ArrayList : plainName "java/util/ArrayList" = true := by first | (simp [plainName, overriddenIn]; done) | decide +kernel
abbrev M8 : MethodName := ⟨"java/util/ArrayList", "<init>", "()V"⟩
theorem d8_0 : decode jdk_38_method_2_code 0 = .ok (.aload_n 0, 1) := by decide +kernel
theorem d8_1 : decode jdk_38_method_2_code 1 = .ok (.invokespecial 1, 3) := by decide +kernel
theorem d8_4 : decode jdk_38_method_2_code 4 = .ok (.aload_n 0, 1) := by decide +kernel
theorem d8_5 : decode jdk_38_method_2_code 5 = .ok (.getstatic 39, 3) := by decide +kernel
theorem d8_8 : decode jdk_38_method_2_code 8 = .ok (.putfield 9, 3) := by decide +kernel
theorem d8_11 : decode jdk_38_method_2_code 11 = .ok (.return_, 1) := by decide +kernel
def Q_rm_al (Z : State) (a : Addr) (dce : Addr) (h0 : Heap) (n0 : Nat) (v : Option Value) (h : Heap) (L : List Loc) : Prop := v = none ∧ Fr n0 L ∧ Keep h0 h [a] ∧ Fld Z h a "java/util/AbstractList" "modCount" "I" (.int (0 : Int32)) ∧ Fld Z h a "java/util/ArrayList" "size" "I" (.int (0 : Int32)) ∧ Fld Z h a "java/util/ArrayList" "elementData" "[Ljava/lang/Object;" (.ref dce)
set_option maxRecDepth 65536 in
set_option maxHeartbeats 40000000 in
theorem rm_al (l : Launch) (Z : State) (a0 : Array Value) (hw : ∀ d ∈ tables_1, d.before a0 Z = true) (ws : List Jvm.Cond) (a : Addr) (dce : Addr) (h0 : Heap) (n0 : Nat) (Z0 : n0 ≤ h0.size) (E_a : Exa Z h0 a "java/util/ArrayList") (F_modCount_a : Fld Z h0 a "java/util/AbstractList" "modCount" "I" (.int (0 : Int32))) (F_size_a : Fld Z h0 a "java/util/ArrayList" "size" "I" (.int (0 : Int32))) (F_elementData_a : Fld Z h0 a "java/util/ArrayList" "elementData" "[Ljava/lang/Object;" .null) (S_DEFAULTCAPACITY_EMPTY_ELEMENTDATA : Sta Z Z.heap "java/util/ArrayList" "DEFAULTCAPACITY_EMPTY_ELEMENTDATA" "[Ljava/lang/Object;" (.ref dce)) (g_a : n0 ≤ a) (O : Old Z n0 h0) :
    Met l Z M8 jdk_38_method_2_code 1 none ws (Rm 3 0 0 36) #[(.ref a)] h0 (Q_rm_al Z a dce h0 n0) := by
  refine met_of (plainFor_of_name pn_java_util_ArrayList) (own := "java/util/ArrayList") rfl (fun m => ef_rm_al m a) ?_
  intro p e s m below meth c s₁ hx hby hml hown hnm hZ X0 e0 hret hlk
  have N0 := Fr.nil n0
  have K0 := Keep.refl h0 [a]
  show Goes p e below s _ _ _ (s₁.setTop (mkF m 0 #[.val (.ref a)] []))
  refine Goes.pre (U' := s₁.setTop (mkF m 1 #[.val (.ref a)] [(.ref a)])) (fun t k => XS.aloadN X0.here hx rfl (hb hby d8_0) rfl rfl k) ?_
  obtain ⟨_, _, ⟨T1, L1, k1, n1⟩, -, X1, ⟨Lc1, hQ1, l1, y1, z1⟩, st1⟩ := X0.specialBack hx (y := (⟨"java/util/AbstractList", "<init>", "()V"⟩ : MethodName)) rfl hown (mvT hZ (wq hw 47 rfl)) (mvT hZ (wq hw 48 rfl)) (mvT hZ (wq hw 52 rfl)) (by decide) (backOf (W := 0) (rm_abl l Z a0 hw [] a h0 n0 Z0 E_a F_modCount_a F_size_a F_elementData_a g_a) hZ (wq hw 52 rfl) (wq hw 51 rfl) (by decide) (by decide)) (g := (mkF m 1 #[.val (.ref a)] [(.ref a)])) rfl (by rw [hml]; rfl) (Steps.refl _) (a := a) (argsL := []) (rest := []) (lenOf pd__28_29V rfl) rfl (by show 2 * 0 + _ ≤ _; exact Nat.le_of_eq rfl) (hb hby d8_1) (fun _ _ => ⟨rfl, e0, (by decide : 0 + 0 ≤ _), (by decide : 0 + 0 ≤ _)⟩)
  dsimp only [Pt.U, Pt.locs, Pt.cells, Pt.slots] at X1 l1 y1 z1 st1 hQ1
  subst l1 y1 z1
  obtain ⟨rfl, N1q, KQ1, fo0_1, fo1_1, fo2_1⟩ := hQ1
  have N1 := Fr.app N0 N1q
  have E_a := E_a.keep KQ1
  have Z2 : n0 ≤ T1.heap.size := Nat.le_trans Z0 KQ1.1
  have O := O.keep KQ1 (allS (P := fun x => n0 ≤ x) g_a all0)
  have K2 := K0.trans KQ1 (allS (P := fun x => x ∈ [a] ∨ h0.size ≤ x) (Or.inl (List.mem_of_getElem? (i := 0) rfl)) all0)
  have F_modCount_a := fo0_1
  have F_size_a := fo1_1
  have F_elementData_a := fo2_1
  refine Goes.pre (U' := T1.setTop (mkF m 5 #[.val (.ref a)] [(.ref a)])) (fun t k => st1.trans (XS.aloadN X1.here hx rfl (hb hby d8_4) rfl rfl k)) ?_
  obtain ⟨T3, X3, e3, st3⟩ := getS2 X1 hx hZ hown (host := "") (Or.inl (wq hw 62 rfl)) Via.refl rfl (S_DEFAULTCAPACITY_EMPTY_ELEMENTDATA.ext O.2) (g := (mkF m 5 #[.val (.ref a)] [(.ref a)])) rfl (hb hby d8_5)
  refine Goes.pre (U' := T3.setTop (mkF m 8 #[.val (.ref a)] [(.ref dce), (.ref a)])) (fun t k => st3 t k) ?_
  obtain ⟨T4, h4, X4, e4, W4, st4⟩ := putF X3 hx hZ hown (host := "") (Or.inl (wq hw 63 rfl)) Via.refl e3 F_elementData_a E_a (Or.inl (wq hw 64 rfl)) (wq hw 42 rfl) (ty := (.array (.object "java/lang/Object"))) (by decide) rfl rfl (g := (mkF m 8 #[.val (.ref a)] [(.ref dce), (.ref a)])) rfl rfl (hb hby d8_8)
  have E_a := E_a.wr W4
  have F_modCount_a := F_modCount_a.other W4 (Or.inr (slot_ne (Or.inl (wq hw 61 rfl)) (Or.inl (wq hw 64 rfl)) (by decide) (t := .int) (t' := (.array (.object "java/lang/Object"))) (by decide) (by decide)))
  have F_size_a := F_size_a.other W4 (Or.inr (slot_ne (Or.inl (wq hw 96 rfl)) (Or.inl (wq hw 64 rfl)) (by decide) (t := .int) (t' := (.array (.object "java/lang/Object"))) (by decide) (by decide)))
  have Z4 : n0 ≤ h4.size := Nat.le_trans Z2 (Keep.of_wr W4).1
  have O := O.wr W4 g_a
  have F_elementData_a := F_elementData_a.same W4
  have K4 := K2.wr W4 (Or.inl (List.mem_of_getElem? (i := 0) rfl))
  have N4 := Fr.snoc X4 N1 g_a
  refine Goes.pre (U' := T4.setTop (mkF m 11 #[.val (.ref a)] [])) (fun t k => st4 t k) ?_
  refine Goes.ret X4 (v := none) (fun _ => rfl) hlk (by decide) (by decide) e4 (fun fs hr => X4.returnOut hx hret (hb hby d8_11) hr) ?_
  exact ⟨rfl, N4, K4, F_modCount_a, F_size_a, F_elementData_a⟩
theorem ef_rm_max101 (m : MethodId) (x0 : Int32) (x1 : Int32) : entryFrame m #[(.int x0), (.int x1)] 2 = mkF m 0 #[.val (.int x0), .val (.int x1)] [] := by first | (simp [entryFrame, mkF, argsToLocals, Value.category]; done) | rfl
abbrev M20 : MethodName := ⟨"java/lang/Math", "max", "(II)I"⟩
theorem d20_0 : decode jdk_29_method_65_code 0 = .ok (.iload_n 0, 1) := by decide +kernel
theorem d20_1 : decode jdk_29_method_65_code 1 = .ok (.iload_n 1, 1) := by decide +kernel
theorem d20_2 : decode jdk_29_method_65_code 2 = .ok (.if_icmp .lt 7, 3) := by decide +kernel
theorem d20_5 : decode jdk_29_method_65_code 5 = .ok (.iload_n 0, 1) := by decide +kernel
theorem d20_6 : decode jdk_29_method_65_code 6 = .ok (.goto 4, 3) := by decide +kernel
theorem d20_10 : decode jdk_29_method_65_code 10 = .ok (.ireturn, 1) := by decide +kernel
def Q_rm_max101 (Z : State)  (h0 : Heap) (n0 : Nat) (v : Option Value) (h : Heap) (L : List Loc) : Prop := v = some (.int (10 : Int32)) ∧ Fr n0 L ∧ h = h0
set_option maxRecDepth 65536 in
set_option maxHeartbeats 40000000 in
theorem rm_max101 (l : Launch) (Z : State) (a0 : Array Value) (hw : ∀ d ∈ tables_1, d.before a0 Z = true) (ws : List Jvm.Cond)  (h0 : Heap) (n0 : Nat) (Z0 : n0 ≤ h0.size)  :
    Met l Z M20 jdk_29_method_65_code 2 (some .int) ws (Rm 0 0 0 0) #[(.int (10 : Int32)), (.int (1 : Int32))] h0 (Q_rm_max101 Z  h0 n0) := by
  refine met_of (Jvm.Free.JP.mathPlain rfl (by decide +kernel)) (own := "java/lang/Math") rfl (fun m => ef_rm_max101 m (10 : Int32) (1 : Int32)) ?_
  intro p e s m below meth c s₁ hx hby hml hown hnm hZ X0 e0 hret hlk
  have N0 := Fr.nil n0
  show Goes p e below s _ _ _ (s₁.setTop (mkF m 0 #[.val (.int (10 : Int32)), .val (.int (1 : Int32))] []))
  refine Goes.pre (U' := s₁.setTop (mkF m 2 #[.val (.int (10 : Int32)), .val (.int (1 : Int32))] [(.int (1 : Int32)), (.int (10 : Int32))])) (fun t k => XS.iloadN X0.here hx rfl (hb hby d20_0) rfl (XS.iloadN X0.here hx rfl (hb hby d20_1) rfl k)) ?_
  have hc2 : ¬ ((10 : Int32) < (1 : Int32)) := by decide
  refine Goes.pre (U' := s₁.setTop (mkF m 10 #[.val (.int (10 : Int32)), .val (.int (1 : Int32))] [(.int (10 : Int32))])) (fun t k => XS.icmpNo X0.here hx rfl (hb hby d20_2) rfl (flt hc2).1 (XS.iloadN X0.here hx rfl (hb hby d20_5) rfl (XS.goto X0.here hx rfl (pc0 := 6) (pc' := 10) rfl (hb hby d20_6) (by decide) (by decide) k))) ?_
  refine Goes.ret X0 (v := (some (.int (10 : Int32)))) (fun h => by rw [hret] at h; cases h) hlk (by decide) (by decide) e0 (fun fs hr => retI X0 hx hret (hb hby d20_10) hr) ?_
  exact ⟨rfl, N0, rfl⟩
theorem ef_rm_min101 (m : MethodId) (x0 : Int32) (x1 : Int32) : entryFrame m #[(.int x0), (.int x1)] 2 = mkF m 0 #[.val (.int x0), .val (.int x1)] [] := by first | (simp [entryFrame, mkF, argsToLocals, Value.category]; done) | rfl
abbrev M24 : MethodName := ⟨"java/lang/Math", "min", "(II)I"⟩
theorem d24_0 : decode jdk_29_method_69_code 0 = .ok (.iload_n 0, 1) := by decide +kernel
theorem d24_1 : decode jdk_29_method_69_code 1 = .ok (.iload_n 1, 1) := by decide +kernel
theorem d24_2 : decode jdk_29_method_69_code 2 = .ok (.if_icmp .gt 7, 3) := by decide +kernel
theorem d24_9 : decode jdk_29_method_69_code 9 = .ok (.iload_n 1, 1) := by decide +kernel
theorem d24_10 : decode jdk_29_method_69_code 10 = .ok (.ireturn, 1) := by decide +kernel
def Q_rm_min101 (Z : State)  (h0 : Heap) (n0 : Nat) (v : Option Value) (h : Heap) (L : List Loc) : Prop := v = some (.int (1 : Int32)) ∧ Fr n0 L ∧ h = h0
set_option maxRecDepth 65536 in
set_option maxHeartbeats 40000000 in
theorem rm_min101 (l : Launch) (Z : State) (a0 : Array Value) (hw : ∀ d ∈ tables_1, d.before a0 Z = true) (ws : List Jvm.Cond)  (h0 : Heap) (n0 : Nat) (Z0 : n0 ≤ h0.size)  :
    Met l Z M24 jdk_29_method_69_code 2 (some .int) ws (Rm 0 0 0 0) #[(.int (10 : Int32)), (.int (1 : Int32))] h0 (Q_rm_min101 Z  h0 n0) := by
  refine met_of (Jvm.Free.JP.mathPlain rfl (by decide +kernel)) (own := "java/lang/Math") rfl (fun m => ef_rm_min101 m (10 : Int32) (1 : Int32)) ?_
  intro p e s m below meth c s₁ hx hby hml hown hnm hZ X0 e0 hret hlk
  have N0 := Fr.nil n0
  show Goes p e below s _ _ _ (s₁.setTop (mkF m 0 #[.val (.int (10 : Int32)), .val (.int (1 : Int32))] []))
  refine Goes.pre (U' := s₁.setTop (mkF m 2 #[.val (.int (10 : Int32)), .val (.int (1 : Int32))] [(.int (1 : Int32)), (.int (10 : Int32))])) (fun t k => XS.iloadN X0.here hx rfl (hb hby d24_0) rfl (XS.iloadN X0.here hx rfl (hb hby d24_1) rfl k)) ?_
  have hc2 : (1 : Int32) < (10 : Int32) := by decide
  refine Goes.pre (U' := s₁.setTop (mkF m 10 #[.val (.int (10 : Int32)), .val (.int (1 : Int32))] [(.int (1 : Int32))])) (fun t k => XS.icmpYes X0.here hx rfl (pc0 := 2) (pc' := 9) rfl (hb hby d24_2) rfl (tlt hc2).2.2.1 (by decide) (by decide) (XS.iloadN X0.here hx rfl (hb hby d24_9) rfl k)) ?_
  refine Goes.ret X0 (v := (some (.int (1 : Int32)))) (fun h => by rw [hret] at h; cases h) hlk (by decide) (by decide) e0 (fun fs hr => retI X0 hx hret (hb hby d24_10) hr) ?_
  exact ⟨rfl, N0, rfl⟩
theorem ef_rm_grow1 (m : MethodId) (x0 : Addr) (x1 : Int32) : entryFrame m #[(.ref x0), (.int x1)] 4 = mkF m 0 #[.val (.ref x0), .val (.int x1), .unset, .unset] [] := by first | (simp [entryFrame, mkF, argsToLocals, Value.category]; done) | rfl
abbrev M19 : MethodName := ⟨"java/util/ArrayList", "grow", "(I)[Ljava/lang/Object;"⟩
theorem d19_0 : decode jdk_38_method_6_code 0 = .ok (.aload_n 0, 1) := by decide +kernel
theorem d19_1 : decode jdk_38_method_6_code 1 = .ok (.getfield 9, 3) := by decide +kernel
theorem d19_4 : decode jdk_38_method_6_code 4 = .ok (.arraylength, 1) := by decide +kernel
theorem d19_5 : decode jdk_38_method_6_code 5 = .ok (.istore_n 2, 1) := by decide +kernel
theorem d19_6 : decode jdk_38_method_6_code 6 = .ok (.iload_n 2, 1) := by decide +kernel
theorem d19_7 : decode jdk_38_method_6_code 7 = .ok (.ifCond .gt 13, 3) := by decide +kernel
theorem d19_10 : decode jdk_38_method_6_code 10 = .ok (.aload_n 0, 1) := by decide +kernel
theorem d19_11 : decode jdk_38_method_6_code 11 = .ok (.getfield 9, 3) := by decide +kernel
theorem d19_14 : decode jdk_38_method_6_code 14 = .ok (.getstatic 39, 3) := by decide +kernel
theorem d19_17 : decode jdk_38_method_6_code 17 = .ok (.if_acmp .eq 28, 3) := by decide +kernel
theorem d19_45 : decode jdk_38_method_6_code 45 = .ok (.aload_n 0, 1) := by decide +kernel
theorem d19_46 : decode jdk_38_method_6_code 46 = .ok (.bipush 10, 2) := by decide +kernel
theorem d19_48 : decode jdk_38_method_6_code 48 = .ok (.iload_n 1, 1) := by decide +kernel
theorem d19_49 : decode jdk_38_method_6_code 49 = .ok (.invokestatic 79, 3) := by decide +kernel
theorem pd__28II_29I : parseMethodDescriptor "(II)I" = some ⟨[.int, .int], some .int⟩ := by decide +kernel
theorem d19_52 : decode jdk_38_method_6_code 52 = .ok (.anewarray 7, 3) := by decide +kernel
theorem d19_55 : decode jdk_38_method_6_code 55 = .ok (.dup_x1, 1) := by decide +kernel
theorem d19_56 : decode jdk_38_method_6_code 56 = .ok (.putfield 9, 3) := by decide +kernel
theorem d19_59 : decode jdk_38_method_6_code 59 = .ok (.areturn, 1) := by decide +kernel
def Q_rm_grow1 (Z : State) (a : Addr) (dce : Addr) (kd : ClassId) (h0 : Heap) (n0 : Nat) (v : Option Value) (h : Heap) (L : List Loc) : Prop := ∃ (r : Addr) (kr : ClassId), v = some (.ref r) ∧ Fr n0 L ∧ Keep h0 h [a] ∧ Fld Z h a "java/util/AbstractList" "modCount" "I" (.int (1 : Int32)) ∧ Fld Z h a "java/util/ArrayList" "size" "I" (.int (0 : Int32)) ∧ Fld Z h a "java/util/ArrayList" "elementData" "[Ljava/lang/Object;" (.ref r) ∧ Exa Z h r "[Ljava/lang/Object;" ∧ Arv Z h r kr (.object "java/lang/Object") (10 : Int32) [.null, .null, .null, .null, .null, .null, .null, .null, .null, .null] .null ∧ Ovr Z kr "java/lang/Object" ∧ n0 ≤ r ∧ h0.size ≤ r
set_option maxRecDepth 65536 in
set_option maxHeartbeats 40000000 in
theorem rm_grow1 (l : Launch) (Z : State) (a0 : Array Value) (hw : ∀ d ∈ tables_1, d.before a0 Z = true) (ws : List Jvm.Cond) (a : Addr) (dce : Addr) (kd : ClassId) (h0 : Heap) (n0 : Nat) (Z0 : n0 ≤ h0.size) (E_a : Exa Z h0 a "java/util/ArrayList") (F_modCount_a : Fld Z h0 a "java/util/AbstractList" "modCount" "I" (.int (1 : Int32))) (F_size_a : Fld Z h0 a "java/util/ArrayList" "size" "I" (.int (0 : Int32))) (F_elementData_a : Fld Z h0 a "java/util/ArrayList" "elementData" "[Ljava/lang/Object;" (.ref dce)) (S_DEFAULTCAPACITY_EMPTY_ELEMENTDATA : Sta Z Z.heap "java/util/ArrayList" "DEFAULTCAPACITY_EMPTY_ELEMENTDATA" "[Ljava/lang/Object;" (.ref dce)) (V_dce : Arv Z Z.heap dce kd (.object "java/lang/Object") (0 : Int32) [] .null) (g_a : n0 ≤ a) (O : Old Z n0 h0) :
    Met l Z M19 jdk_38_method_6_code 4 (some (.array (.object "java/lang/Object"))) ws (Rm 1 1 10 14) #[(.ref a), (.int (1 : Int32))] h0 (Q_rm_grow1 Z a dce kd h0 n0) := by
  refine met_of (plainFor_of_name pn_java_util_ArrayList) (own := "java/util/ArrayList") rfl (fun m => ef_rm_grow1 m a (1 : Int32)) ?_
  intro p e s m below meth c s₁ hx hby hml hown hnm hZ X0 e0 hret hlk
  have N0 := Fr.nil n0
  have K0 := Keep.refl h0 [a]
  show Goes p e below s _ _ _ (s₁.setTop (mkF m 0 #[.val (.ref a), .val (.int (1 : Int32)), .unset, .unset] []))
  refine Goes.pre (U' := s₁.setTop (mkF m 1 #[.val (.ref a), .val (.int (1 : Int32)), .unset, .unset] [(.ref a)])) (fun t k => XS.aloadN X0.here hx rfl (hb hby d19_0) rfl rfl k) ?_
  obtain ⟨T1, X1, e1, st1⟩ := getF X0 hx hZ hown (host := "") (Or.inl (wq hw 63 rfl)) Via.refl e0 F_elementData_a (g := (mkF m 1 #[.val (.ref a), .val (.int (1 : Int32)), .unset, .unset] [(.ref a)])) rfl rfl (hb hby d19_1)
  refine Goes.pre (U' := T1.setTop (mkF m 4 #[.val (.ref a), .val (.int (1 : Int32)), .unset, .unset] [(.ref dce)])) (fun t k => st1 t k) ?_
  obtain ⟨cl2, Ar2, q2, Sz2, Ng2, -, -⟩ := id (V_dce.ext O.2)
  have ln2 := len_of Sz2 Ng2
  refine Goes.pre (U' := T1.setTop (mkF m 7 #[.val (.ref a), .val (.int (1 : Int32)), .val (.int (0 : Int32)), .unset] [(.int (0 : Int32))])) (fun t k => X1.arraylength hx (by rw [e1]; exact Ar2.1) (State.isArrayOf_alike hZ.alike Ar2.2.1) (g := (mkF m 4 #[.val (.ref a), .val (.int (1 : Int32)), .unset, .unset] [(.ref dce)])) rfl rfl (hb hby d19_4) _ (by rw [ln2]; exact (XS.istoreN X1.here hx rfl (hb hby d19_5) rfl (l' := #[.val (.ref a), .val (.int (1 : Int32)), .val (.int (0 : Int32)), .unset]) rfl (XS.iloadN X1.here hx rfl (hb hby d19_6) rfl k)))) ?_
  have hc7 : ¬ ((0 : Int32) < (0 : Int32)) := by decide
  refine Goes.pre (U' := T1.setTop (mkF m 11 #[.val (.ref a), .val (.int (1 : Int32)), .val (.int (0 : Int32)), .unset] [(.ref a)])) (fun t k => XS.ifNo X1.here hx rfl (hb hby d19_7) rfl ((if0 _ _).trans (flt hc7).2.2.1) (XS.aloadN X1.here hx rfl (hb hby d19_10) rfl rfl k)) ?_
  obtain ⟨T3, X3, e3, st3⟩ := getF X1 hx hZ hown (host := "") (Or.inl (wq hw 63 rfl)) Via.refl e1 F_elementData_a (g := (mkF m 11 #[.val (.ref a), .val (.int (1 : Int32)), .val (.int (0 : Int32)), .unset] [(.ref a)])) rfl rfl (hb hby d19_11)
  refine Goes.pre (U' := T3.setTop (mkF m 14 #[.val (.ref a), .val (.int (1 : Int32)), .val (.int (0 : Int32)), .unset] [(.ref dce)])) (fun t k => st3 t k) ?_
  obtain ⟨T4, X4, e4, st4⟩ := getS2 X3 hx hZ hown (host := "") (Or.inl (wq hw 62 rfl)) Via.refl e3 (S_DEFAULTCAPACITY_EMPTY_ELEMENTDATA.ext O.2) (g := (mkF m 14 #[.val (.ref a), .val (.int (1 : Int32)), .val (.int (0 : Int32)), .unset] [(.ref dce)])) rfl (hb hby d19_14)
  refine Goes.pre (U' := T4.setTop (mkF m 49 #[.val (.ref a), .val (.int (1 : Int32)), .val (.int (0 : Int32)), .unset] [(.int (1 : Int32)), (.int (10 : Int32)), (.ref a)])) (fun t k => st4 t (Jvm.RoadKit.acmp (g := (mkF m 17 #[.val (.ref a), .val (.int (1 : Int32)), .val (.int (0 : Int32)), .unset] [(.ref dce), (.ref dce)])) X4 hx rfl rfl rfl (pc0 := 17) (pc' := 45) (same := true) rfl (hb hby d19_17) rfl (decide_eq_true rfl) (by decide) (by decide) (XS.aloadN X4.here hx rfl (hb hby d19_45) rfl rfl (XS.bipush X4.here hx rfl (hb hby d19_46) (XS.iloadN X4.here hx rfl (hb hby d19_48) rfl k))))) ?_
  obtain ⟨_, _, ⟨T5, L5, k5, n5⟩, -, X5, ⟨Lc5, hQ5, l5, y5, z5⟩, st5⟩ := Jvm.LawKit.callS X4 hx (y := (⟨"java/lang/Math", "max", "(II)I"⟩ : MethodName)) hown (mvT hZ (wq hw 133 rfl)) (mvT hZ (wq hw 134 rfl)) (mvT hZ (wq hw 135 rfl)) (mvT hZ (wq hw 136 rfl)) (by decide) (backOf (W := 1) (rm_max101 l Z a0 hw []  h0 n0 Z0 ) hZ (wq hw 136 rfl) (wq hw 135 rfl) (by decide) (by decide)) (g := (mkF m 49 #[.val (.ref a), .val (.int (1 : Int32)), .val (.int (0 : Int32)), .unset] [(.int (1 : Int32)), (.int (10 : Int32)), (.ref a)])) rfl (by rw [hml]; rfl) (argsL := [(.int (10 : Int32)), (.int (1 : Int32))]) (rest := [(.ref a)]) (lenOf pd__28II_29I rfl) rfl (by show 2 * 0 + _ ≤ _; exact Nat.le_of_eq rfl) (hb hby d19_49) (fun _ _ => ⟨rfl, e4, (by decide : 0 + 0 ≤ _), (by decide : 0 + 0 ≤ _)⟩)
  dsimp only [Pt.U, Pt.locs, Pt.cells, Pt.slots] at X5 l5 y5 z5 st5 hQ5
  subst l5 y5 z5
  obtain ⟨rfl, N5q, HQ5⟩ := hQ5
  have N5 := Fr.app N0 N5q
  refine Goes.pre (U' := T5.setTop (mkF m 52 #[.val (.ref a), .val (.int (1 : Int32)), .val (.int (0 : Int32)), .unset] [(.int (10 : Int32)), (.ref a)])) (fun t k => st5 t k) ?_
  obtain ⟨T6, h6, k6, X6, e6, E6, A6, B6, Ov6, st6⟩ := newRE X5 hx hZ hown (wq hw 137 rfl) (wq hw 138 rfl) HQ5 (g := (mkF m 52 #[.val (.ref a), .val (.int (1 : Int32)), .val (.int (0 : Int32)), .unset] [(.int (10 : Int32)), (.ref a)])) rfl (hb hby d19_52) rfl (by decide) (cap := 10) (by decide) (by decide) (by decide) (by decide) (ad := "[Ljava/lang/Object;") (by decide)
  obtain ⟨nb6, g6⟩ : ∃ z, z = h0.size := ⟨_, rfl⟩
  rw [← g6] at A6 B6 st6
  have ne_a_nb6 : a ≠ nb6 := Nat.ne_of_lt (Nat.lt_of_lt_of_le E_a.lt (Nat.le_of_eq g6.symm))
  have ne_nb6_a := ne_a_nb6.symm
  have ne_dce_nb6 : dce ≠ nb6 := Nat.ne_of_lt (Nat.lt_of_lt_of_le (V_dce.ext O.2).lt (Nat.le_of_eq g6.symm))
  have ne_nb6_dce := ne_dce_nb6.symm
  have g_nb6 : n0 ≤ nb6 := Nat.le_trans Z0 (Nat.le_of_eq g6.symm)
  have sz_nb6 : h0.size ≤ nb6 := Nat.le_trans K0.1 (Nat.le_of_eq g6.symm)
  have E_a := E_a.ext E6
  have F_modCount_a := F_modCount_a.ext E6
  have F_size_a := F_size_a.ext E6
  have F_elementData_a := F_elementData_a.ext E6
  have O := O.ext E6
  have Z6 : n0 ≤ h6.size := Nat.le_trans Z0 E6.1
  have K6 := K0.ext E6
  have E_nb6 := B6
  have V_nb6 : Arv Z h6 nb6 k6 (.object "java/lang/Object") (10 : Int32) [.null, .null, .null, .null, .null, .null, .null, .null, .null, .null] .null := (Arv.new A6 (by decide)).pad (pad_rep [] .null 10)
  have Ov_nb6 := Ov6
  refine Goes.pre (U' := T6.setTop (mkF m 56 #[.val (.ref a), .val (.int (1 : Int32)), .val (.int (0 : Int32)), .unset] [(.ref nb6), (.ref a), (.ref nb6)])) (fun t k => st6 t (XS.dupX1 X6.here hx rfl (hb hby d19_55) rfl rfl rfl k)) ?_
  obtain ⟨T7, h7, X7, e7, W7, st7⟩ := putF X6 hx hZ hown (host := "") (Or.inl (wq hw 63 rfl)) Via.refl e6 F_elementData_a E_a (Or.inl (wq hw 64 rfl)) (wq hw 42 rfl) (ty := (.array (.object "java/lang/Object"))) (by decide) rfl rfl (g := (mkF m 56 #[.val (.ref a), .val (.int (1 : Int32)), .val (.int (0 : Int32)), .unset] [(.ref nb6), (.ref a), (.ref nb6)])) rfl rfl (hb hby d19_56)
  have E_a := E_a.wr W7
  have F_modCount_a := F_modCount_a.other W7 (Or.inr (slot_ne (Or.inl (wq hw 61 rfl)) (Or.inl (wq hw 64 rfl)) (by decide) (t := .int) (t' := (.array (.object "java/lang/Object"))) (by decide) (by decide)))
  have F_size_a := F_size_a.other W7 (Or.inr (slot_ne (Or.inl (wq hw 96 rfl)) (Or.inl (wq hw 64 rfl)) (by decide) (t := .int) (t' := (.array (.object "java/lang/Object"))) (by decide) (by decide)))
  have E_nb6 := E_nb6.wr W7
  have V_nb6 := V_nb6.other W7 ne_nb6_a
  have Z7 : n0 ≤ h7.size := Nat.le_trans Z6 (Keep.of_wr W7).1
  have O := O.wr W7 g_a
  have F_elementData_a := F_elementData_a.same W7
  have K7 := K6.wr W7 (Or.inl (List.mem_of_getElem? (i := 0) rfl))
  have N7 := Fr.snoc X7 N5 g_a
  refine Goes.pre (U' := T7.setTop (mkF m 59 #[.val (.ref a), .val (.int (1 : Int32)), .val (.int (0 : Int32)), .unset] [(.ref nb6)])) (fun t k => st7 t k) ?_
  refine Goes.ret X7 (v := (some (.ref nb6))) (fun h => by rw [hret] at h; cases h) hlk (by decide) (by decide) e7 (fun fs hr => retOut X7 hx hret rfl (Or.inr (Or.inr (Or.inr (Or.inr ⟨rfl, rfl, rfl⟩)))) (hb hby d19_59) hr) ?_
  exact ⟨nb6, k6, rfl, N7, K7, F_modCount_a, F_size_a, F_elementData_a, E_nb6, V_nb6, Ov_nb6, g_nb6, sz_nb6⟩
theorem ef_rm_grow0 (m : MethodId) (x0 : Addr) : entryFrame m #[(.ref x0)] 1 = mkF m 0 #[.val (.ref x0)] [] := by first | (simp [entryFrame, mkF, argsToLocals, Value.category]; done) | rfl
abbrev M18 : MethodName := ⟨"java/util/ArrayList", "grow", "()[Ljava/lang/Object;"⟩
theorem d18_0 : decode jdk_38_method_7_code 0 = .ok (.aload_n 0, 1) := by decide +kernel
theorem d18_1 : decode jdk_38_method_7_code 1 = .ok (.aload_n 0, 1) := by decide +kernel
theorem d18_2 : decode jdk_38_method_7_code 2 = .ok (.getfield 48, 3) := by decide +kernel
theorem d18_5 : decode jdk_38_method_7_code 5 = .ok (.iconst 1, 1) := by decide +kernel
theorem d18_6 : decode jdk_38_method_7_code 6 = .ok (.iadd, 1) := by decide +kernel
theorem d18_7 : decode jdk_38_method_7_code 7 = .ok (.invokevirtual 69, 3) := by decide +kernel
theorem pd__28I_29_5bLjava_2flang_2fObject_3b : parseMethodDescriptor "(I)[Ljava/lang/Object;" = some ⟨[.int], some (.array (.object "java/lang/Object"))⟩ := by decide +kernel
theorem d18_10 : decode jdk_38_method_7_code 10 = .ok (.areturn, 1) := by decide +kernel
def Q_rm_grow0 (Z : State) (a : Addr) (dce : Addr) (kd : ClassId) (h0 : Heap) (n0 : Nat) (v : Option Value) (h : Heap) (L : List Loc) : Prop := ∃ (r : Addr) (kr : ClassId), v = some (.ref r) ∧ Fr n0 L ∧ Keep h0 h [a] ∧ Fld Z h a "java/util/AbstractList" "modCount" "I" (.int (1 : Int32)) ∧ Fld Z h a "java/util/ArrayList" "size" "I" (.int (0 : Int32)) ∧ Fld Z h a "java/util/ArrayList" "elementData" "[Ljava/lang/Object;" (.ref r) ∧ Exa Z h r "[Ljava/lang/Object;" ∧ Arv Z h r kr (.object "java/lang/Object") (10 : Int32) [.null, .null, .null, .null, .null, .null, .null, .null, .null, .null] .null ∧ Ovr Z kr "java/lang/Object" ∧ n0 ≤ r ∧ h0.size ≤ r
set_option maxRecDepth 65536 in
set_option maxHeartbeats 40000000 in
theorem rm_grow0 (l : Launch) (Z : State) (a0 : Array Value) (hw : ∀ d ∈ tables_1, d.before a0 Z = true) (ws : List Jvm.Cond) (a : Addr) (dce : Addr) (kd : ClassId) (h0 : Heap) (n0 : Nat) (Z0 : n0 ≤ h0.size) (E_a : Exa Z h0 a "java/util/ArrayList") (F_modCount_a : Fld Z h0 a "java/util/AbstractList" "modCount" "I" (.int (1 : Int32))) (F_size_a : Fld Z h0 a "java/util/ArrayList" "size" "I" (.int (0 : Int32))) (F_elementData_a : Fld Z h0 a "java/util/ArrayList" "elementData" "[Ljava/lang/Object;" (.ref dce)) (S_DEFAULTCAPACITY_EMPTY_ELEMENTDATA : Sta Z Z.heap "java/util/ArrayList" "DEFAULTCAPACITY_EMPTY_ELEMENTDATA" "[Ljava/lang/Object;" (.ref dce)) (V_dce : Arv Z Z.heap dce kd (.object "java/lang/Object") (0 : Int32) [] .null) (g_a : n0 ≤ a) (O : Old Z n0 h0) :
    Met l Z M18 jdk_38_method_7_code 1 (some (.array (.object "java/lang/Object"))) ws (Rm 2 1 10 29) #[(.ref a)] h0 (Q_rm_grow0 Z a dce kd h0 n0) := by
  refine met_of (plainFor_of_name pn_java_util_ArrayList) (own := "java/util/ArrayList") rfl (fun m => ef_rm_grow0 m a) ?_
  intro p e s m below meth c s₁ hx hby hml hown hnm hZ X0 e0 hret hlk
  have N0 := Fr.nil n0
  have K0 := Keep.refl h0 [a]
  show Goes p e below s _ _ _ (s₁.setTop (mkF m 0 #[.val (.ref a)] []))
  refine Goes.pre (U' := s₁.setTop (mkF m 2 #[.val (.ref a)] [(.ref a), (.ref a)])) (fun t k => XS.aloadN X0.here hx rfl (hb hby d18_0) rfl rfl (XS.aloadN X0.here hx rfl (hb hby d18_1) rfl rfl k)) ?_
  obtain ⟨T1, X1, e1, st1⟩ := getF X0 hx hZ hown (host := "") (Or.inl (wq hw 95 rfl)) Via.refl e0 F_size_a (g := (mkF m 2 #[.val (.ref a)] [(.ref a), (.ref a)])) rfl rfl (hb hby d18_2)
  refine Goes.pre (U' := T1.setTop (mkF m 7 #[.val (.ref a)] [(.int ((0 : Int32) + (1 : Int32))), (.ref a)])) (fun t k => st1 t (XS.iconst X1.here hx rfl (hb hby d18_5) (XS.iadd X1.here hx rfl (hb hby d18_6) rfl k))) ?_
  rw [(by decide : ((0 : Int32) + (1 : Int32)) = (1 : Int32))]
  have lt_a := E_a.lt
  have lt_dce := (V_dce.ext O.2).lt
  obtain ⟨cq2, q2, q2'⟩ := E_a.cell
  obtain ⟨_, _, ⟨T2, L2, k2, n2⟩, -, X2, ⟨Lc2, hQ2, l2, y2, z2⟩, st2⟩ := X1.privateBack hx (y := (⟨"java/util/ArrayList", "grow", "(I)[Ljava/lang/Object;"⟩ : MethodName)) hown (mvT hZ (wq hw 128 rfl)) (mvT hZ (wq hw 129 rfl)) (mvT hZ (wq hw 131 rfl)) (Cond.privateMethod_at (mvP hZ (wq hw 130 rfl) (args := #[]))) (mvT hZ (wq hw 132 rfl)) (by decide) (backOf (W := 0) (rm_grow1 l Z a0 hw [] a dce kd h0 n0 Z0 E_a F_modCount_a F_size_a F_elementData_a S_DEFAULTCAPACITY_EMPTY_ELEMENTDATA V_dce g_a O) hZ (wq hw 132 rfl) (wq hw 43 rfl) (by decide) (by decide)) (g := (mkF m 7 #[.val (.ref a)] [(.int (1 : Int32)), (.ref a)])) rfl (by rw [hml]; rfl) (Steps.refl _) (a := a) (by rw [e1]; exact q2) q2' (argsL := [(.int (1 : Int32))]) (rest := []) (lenOf pd__28I_29_5bLjava_2flang_2fObject_3b rfl) rfl (by show 2 * 0 + _ ≤ _; exact Nat.le_of_eq rfl) (hb hby d18_7) (fun _ _ => ⟨rfl, e1, (by decide : 0 + 1 ≤ _), (by decide : 0 + 10 ≤ _)⟩)
  dsimp only [Pt.U, Pt.locs, Pt.cells, Pt.slots] at X2 l2 y2 z2 st2 hQ2
  subst l2 y2 z2
  obtain ⟨r2, kr2, rfl, N2q, KQ2, fo0_2, fo1_2, fo2_2, fo3_2, fo4_2, fo5_2, g_r2, sl_r2⟩ := hQ2
  have N2 := Fr.app N0 N2q
  have E_a := E_a.keep KQ2
  have Z3 : n0 ≤ T2.heap.size := Nat.le_trans Z0 KQ2.1
  have O := O.keep KQ2 (allS (P := fun x => n0 ≤ x) g_a all0)
  have K3 := K0.trans KQ2 (allS (P := fun x => x ∈ [a] ∨ h0.size ≤ x) (Or.inl (List.mem_of_getElem? (i := 0) rfl)) all0)
  have ne_a_r2 : a ≠ r2 := Nat.ne_of_lt (Nat.lt_of_lt_of_le lt_a sl_r2)
  have ne_r2_a := ne_a_r2.symm
  have ne_dce_r2 : dce ≠ r2 := Nat.ne_of_lt (Nat.lt_of_lt_of_le lt_dce sl_r2)
  have ne_r2_dce := ne_dce_r2.symm
  have sz_r2 : h0.size ≤ r2 := Nat.le_trans K0.1 sl_r2
  have F_modCount_a := fo0_2
  have F_size_a := fo1_2
  have F_elementData_a := fo2_2
  have E_r2 := fo3_2
  have V_r2 := fo4_2
  have Ov_kr2 := fo5_2
  refine Goes.pre (U' := T2.setTop (mkF m 10 #[.val (.ref a)] [(.ref r2)])) (fun t k => st2.trans k) ?_
  refine Goes.ret X2 (v := (some (.ref r2))) (fun h => by rw [hret] at h; cases h) hlk (by decide) (by decide) rfl (fun fs hr => retOut X2 hx hret rfl (Or.inr (Or.inr (Or.inr (Or.inr ⟨rfl, rfl, rfl⟩)))) (hb hby d18_10) hr) ?_
  exact ⟨r2, kr2, rfl, N2, K3, F_modCount_a, F_size_a, F_elementData_a, E_r2, V_r2, Ov_kr2, g_r2, sz_r2⟩
theorem ef_rm_add3 (m : MethodId) (x0 : Addr) (x1 : Addr) (x2 : Addr) (x3 : Int32) : entryFrame m #[(.ref x0), (.ref x1), (.ref x2), (.int x3)] 4 = mkF m 0 #[.val (.ref x0), .val (.ref x1), .val (.ref x2), .val (.int x3)] [] := by first | (simp [entryFrame, mkF, argsToLocals, Value.category]; done) | rfl
abbrev M17 : MethodName := ⟨"java/util/ArrayList", "add", "(Ljava/lang/Object;[Ljava/lang/Object;I)V"⟩
theorem d17_0 : decode jdk_38_method_24_code 0 = .ok (.iload_n 3, 1) := by decide +kernel
theorem d17_1 : decode jdk_38_method_24_code 1 = .ok (.aload_n 2, 1) := by decide +kernel
theorem d17_2 : decode jdk_38_method_24_code 2 = .ok (.arraylength, 1) := by decide +kernel
theorem d17_3 : decode jdk_38_method_24_code 3 = .ok (.if_icmp .ne 8, 3) := by decide +kernel
theorem d17_6 : decode jdk_38_method_24_code 6 = .ok (.aload_n 0, 1) := by decide +kernel
theorem d17_7 : decode jdk_38_method_24_code 7 = .ok (.invokevirtual 129, 3) := by decide +kernel
theorem pd__28_29_5bLjava_2flang_2fObject_3b : parseMethodDescriptor "()[Ljava/lang/Object;" = some ⟨[], some (.array (.object "java/lang/Object"))⟩ := by decide +kernel
theorem d17_10 : decode jdk_38_method_24_code 10 = .ok (.astore_n 2, 1) := by decide +kernel
theorem d17_11 : decode jdk_38_method_24_code 11 = .ok (.aload_n 2, 1) := by decide +kernel
theorem d17_12 : decode jdk_38_method_24_code 12 = .ok (.iload_n 3, 1) := by decide +kernel
theorem d17_13 : decode jdk_38_method_24_code 13 = .ok (.aload_n 1, 1) := by decide +kernel
theorem d17_14 : decode jdk_38_method_24_code 14 = .ok (.aastore, 1) := by decide +kernel
theorem d17_15 : decode jdk_38_method_24_code 15 = .ok (.aload_n 0, 1) := by decide +kernel
theorem d17_16 : decode jdk_38_method_24_code 16 = .ok (.iload_n 3, 1) := by decide +kernel
theorem d17_17 : decode jdk_38_method_24_code 17 = .ok (.iconst 1, 1) := by decide +kernel
theorem d17_18 : decode jdk_38_method_24_code 18 = .ok (.iadd, 1) := by decide +kernel
theorem d17_19 : decode jdk_38_method_24_code 19 = .ok (.putfield 48, 3) := by decide +kernel
theorem d17_22 : decode jdk_38_method_24_code 22 = .ok (.return_, 1) := by decide +kernel
def Q_rm_add3 (Z : State) (a : Addr) (y : Addr) (dce : Addr) (kd : ClassId) (h0 : Heap) (n0 : Nat) (v : Option Value) (h : Heap) (L : List Loc) : Prop := ∃ (r : Addr) (kr : ClassId), v = none ∧ Fr n0 L ∧ Keep h0 h [a] ∧ Fld Z h a "java/util/AbstractList" "modCount" "I" (.int (1 : Int32)) ∧ Fld Z h a "java/util/ArrayList" "size" "I" (.int (1 : Int32)) ∧ Fld Z h a "java/util/ArrayList" "elementData" "[Ljava/lang/Object;" (.ref r) ∧ Exa Z h r "[Ljava/lang/Object;" ∧ Arv Z h r kr (.object "java/lang/Object") (10 : Int32) [(.ref y), .null, .null, .null, .null, .null, .null, .null, .null, .null] .null ∧ n0 ≤ r ∧ h0.size ≤ r
set_option maxRecDepth 65536 in
set_option maxHeartbeats 40000000 in
theorem rm_add3 (l : Launch) (Z : State) (a0 : Array Value) (hw : ∀ d ∈ tables_1, d.before a0 Z = true) (ws : List Jvm.Cond) (a : Addr) (y : Addr) (dce : Addr) (kd : ClassId) (h0 : Heap) (n0 : Nat) (Z0 : n0 ≤ h0.size) (E_a : Exa Z h0 a "java/util/ArrayList") (F_modCount_a : Fld Z h0 a "java/util/AbstractList" "modCount" "I" (.int (1 : Int32))) (F_size_a : Fld Z h0 a "java/util/ArrayList" "size" "I" (.int (0 : Int32))) (F_elementData_a : Fld Z h0 a "java/util/ArrayList" "elementData" "[Ljava/lang/Object;" (.ref dce)) (S_DEFAULTCAPACITY_EMPTY_ELEMENTDATA : Sta Z Z.heap "java/util/ArrayList" "DEFAULTCAPACITY_EMPTY_ELEMENTDATA" "[Ljava/lang/Object;" (.ref dce)) (V_dce : Arv Z Z.heap dce kd (.object "java/lang/Object") (0 : Int32) [] .null) (E_y : Exa Z h0 y "com/example/restate/restate/plan/Item") (g_a : n0 ≤ a) (O : Old Z n0 h0) :
    Met l Z M17 jdk_38_method_24_code 4 none ws (Rm 3 1 10 41) #[(.ref a), (.ref y), (.ref dce), (.int (0 : Int32))] h0 (Q_rm_add3 Z a y dce kd h0 n0) := by
  refine met_of (plainFor_of_name pn_java_util_ArrayList) (own := "java/util/ArrayList") rfl (fun m => ef_rm_add3 m a y dce (0 : Int32)) ?_
  intro p e s m below meth c s₁ hx hby hml hown hnm hZ X0 e0 hret hlk
  have N0 := Fr.nil n0
  have K0 := Keep.refl h0 [a]
  show Goes p e below s _ _ _ (s₁.setTop (mkF m 0 #[.val (.ref a), .val (.ref y), .val (.ref dce), .val (.int (0 : Int32))] []))
  refine Goes.pre (U' := s₁.setTop (mkF m 2 #[.val (.ref a), .val (.ref y), .val (.ref dce), .val (.int (0 : Int32))] [(.ref dce), (.int (0 : Int32))])) (fun t k => XS.iloadN X0.here hx rfl (hb hby d17_0) rfl (XS.aloadN X0.here hx rfl (hb hby d17_1) rfl rfl k)) ?_
  obtain ⟨cl1, Ar1, q1, Sz1, Ng1, -, -⟩ := id (V_dce.ext O.2)
  have ln1 := len_of Sz1 Ng1
  refine Goes.pre (U' := s₁.setTop (mkF m 3 #[.val (.ref a), .val (.ref y), .val (.ref dce), .val (.int (0 : Int32))] [(.int (0 : Int32)), (.int (0 : Int32))])) (fun t k => X0.arraylength hx (by rw [e0]; exact Ar1.1) (State.isArrayOf_alike hZ.alike Ar1.2.1) (g := (mkF m 2 #[.val (.ref a), .val (.ref y), .val (.ref dce), .val (.int (0 : Int32))] [(.ref dce), (.int (0 : Int32))])) rfl rfl (hb hby d17_2) _ (by rw [ln1]; exact k)) ?_
  have hc3 : (0 : Int32) = (0 : Int32) := rfl
  refine Goes.pre (U' := s₁.setTop (mkF m 7 #[.val (.ref a), .val (.ref y), .val (.ref dce), .val (.int (0 : Int32))] [(.ref a)])) (fun t k => XS.icmpNo X0.here hx rfl (hb hby d17_3) rfl (teq hc3).2 (XS.aloadN X0.here hx rfl (hb hby d17_6) rfl rfl k)) ?_
  have lt_a := E_a.lt
  have lt_dce := (V_dce.ext O.2).lt
  have lt_y := E_y.lt
  obtain ⟨cq2, q2, q2'⟩ := E_a.cell
  obtain ⟨_, _, ⟨T2, L2, k2, n2⟩, -, X2, ⟨Lc2, hQ2, l2, y2, z2⟩, st2⟩ := X0.privateBack hx (y := (⟨"java/util/ArrayList", "grow", "()[Ljava/lang/Object;"⟩ : MethodName)) hown (mvT hZ (wq hw 123 rfl)) (mvT hZ (wq hw 124 rfl)) (mvT hZ (wq hw 126 rfl)) (Cond.privateMethod_at (mvP hZ (wq hw 125 rfl) (args := #[]))) (mvT hZ (wq hw 127 rfl)) (by decide) (backOf (W := 0) (rm_grow0 l Z a0 hw [] a dce kd h0 n0 Z0 E_a F_modCount_a F_size_a F_elementData_a S_DEFAULTCAPACITY_EMPTY_ELEMENTDATA V_dce g_a O) hZ (wq hw 127 rfl) (wq hw 43 rfl) (by decide) (by decide)) (g := (mkF m 7 #[.val (.ref a), .val (.ref y), .val (.ref dce), .val (.int (0 : Int32))] [(.ref a)])) rfl (by rw [hml]; rfl) (Steps.refl _) (a := a) (by rw [e0]; exact q2) q2' (argsL := []) (rest := []) (lenOf pd__28_29_5bLjava_2flang_2fObject_3b rfl) rfl (by show 2 * 0 + _ ≤ _; exact Nat.le_of_eq rfl) (hb hby d17_7) (fun _ _ => ⟨rfl, e0, (by decide : 0 + 1 ≤ _), (by decide : 0 + 10 ≤ _)⟩)
  dsimp only [Pt.U, Pt.locs, Pt.cells, Pt.slots] at X2 l2 y2 z2 st2 hQ2
  subst l2 y2 z2
  obtain ⟨r2, kr2, rfl, N2q, KQ2, fo0_2, fo1_2, fo2_2, fo3_2, fo4_2, fo5_2, g_r2, sl_r2⟩ := hQ2
  have N2 := Fr.app N0 N2q
  have E_a := E_a.keep KQ2
  have E_y := E_y.keep KQ2
  have Z3 : n0 ≤ T2.heap.size := Nat.le_trans Z0 KQ2.1
  have O := O.keep KQ2 (allS (P := fun x => n0 ≤ x) g_a all0)
  have K3 := K0.trans KQ2 (allS (P := fun x => x ∈ [a] ∨ h0.size ≤ x) (Or.inl (List.mem_of_getElem? (i := 0) rfl)) all0)
  have ne_a_r2 : a ≠ r2 := Nat.ne_of_lt (Nat.lt_of_lt_of_le lt_a sl_r2)
  have ne_r2_a := ne_a_r2.symm
  have ne_dce_r2 : dce ≠ r2 := Nat.ne_of_lt (Nat.lt_of_lt_of_le lt_dce sl_r2)
  have ne_r2_dce := ne_dce_r2.symm
  have ne_y_r2 : y ≠ r2 := Nat.ne_of_lt (Nat.lt_of_lt_of_le lt_y sl_r2)
  have ne_r2_y := ne_y_r2.symm
  have sz_r2 : h0.size ≤ r2 := Nat.le_trans K0.1 sl_r2
  have F_modCount_a := fo0_2
  have F_size_a := fo1_2
  have F_elementData_a := fo2_2
  have E_r2 := fo3_2
  have V_r2 := fo4_2
  have Ov_kr2 := fo5_2
  refine Goes.pre (U' := T2.setTop (mkF m 14 #[.val (.ref a), .val (.ref y), .val (.ref r2), .val (.int (0 : Int32))] [(.ref y), (.int (0 : Int32)), (.ref r2)])) (fun t k => st2.trans (XS.astoreN X2.here hx rfl (hb hby d17_10) rfl rfl (l' := #[.val (.ref a), .val (.ref y), .val (.ref r2), .val (.int (0 : Int32))]) rfl (XS.aloadN X2.here hx rfl (hb hby d17_11) rfl rfl (XS.iloadN X2.here hx rfl (hb hby d17_12) rfl (XS.aloadN X2.here hx rfl (hb hby d17_13) rfl rfl k))))) ?_
  obtain ⟨cl4, Ar4, q4, Sz4, Ng4, Hs4, Ft4⟩ := id V_r2
  obtain ⟨T4, h4, X4, e4, W4, st4⟩ := stR X2 hx hZ rfl Ar4 (j := (0 : Int32)) (inb_of Sz4 ⟨by decide, by decide⟩) rfl (Sto.ofV Ar4 q4 Ov_kr2 (Ins.of_exa E_y (wq hw 139 rfl))) (g := (mkF m 14 #[.val (.ref a), .val (.ref y), .val (.ref r2), .val (.int (0 : Int32))] [(.ref y), (.int (0 : Int32)), (.ref r2)])) rfl rfl (hb hby d17_14)
  have E_a := E_a.wr W4
  have E_y := E_y.wr W4
  have F_modCount_a := F_modCount_a.other W4 (Or.inl ne_a_r2)
  have F_size_a := F_size_a.other W4 (Or.inl ne_a_r2)
  have F_elementData_a := F_elementData_a.other W4 (Or.inl ne_a_r2)
  have E_r2 := E_r2.wr W4
  have Z4 : n0 ≤ h4.size := Nat.le_trans Z3 (Keep.of_wr W4).1
  have O := O.wr W4 g_r2
  have V_r2 : Arv Z h4 r2 kr2 (.object "java/lang/Object") (10 : Int32) [(.ref y), .null, .null, .null, .null, .null, .null, .null, .null, .null] .null := Arv.set Ar4 q4 Sz4 Ng4 Hs4 Ft4 rfl W4 0 rfl (Nat.le_of_ble_eq_true rfl)
  have K4 := K3.wr W4 (Or.inr sz_r2)
  have N4 := Fr.snoc X4 N2 g_r2
  refine Goes.pre (U' := T4.setTop (mkF m 19 #[.val (.ref a), .val (.ref y), .val (.ref r2), .val (.int (0 : Int32))] [(.int ((0 : Int32) + (1 : Int32))), (.ref a)])) (fun t k => st4 t (XS.aloadN X4.here hx rfl (hb hby d17_15) rfl rfl (XS.iloadN X4.here hx rfl (hb hby d17_16) rfl (XS.iconst X4.here hx rfl (hb hby d17_17) (XS.iadd X4.here hx rfl (hb hby d17_18) rfl k))))) ?_
  rw [(by decide : ((0 : Int32) + (1 : Int32)) = (1 : Int32))]
  obtain ⟨T5, h5, X5, e5, W5, st5⟩ := putF X4 hx hZ hown (host := "") (Or.inl (wq hw 95 rfl)) Via.refl e4 F_size_a E_a (Or.inl (wq hw 96 rfl)) (wq hw 42 rfl) (ty := .int) (by decide) rfl rfl (g := (mkF m 19 #[.val (.ref a), .val (.ref y), .val (.ref r2), .val (.int (0 : Int32))] [(.int (1 : Int32)), (.ref a)])) rfl rfl (hb hby d17_19)
  have E_a := E_a.wr W5
  have E_y := E_y.wr W5
  have F_modCount_a := F_modCount_a.other W5 (Or.inr (slot_ne (Or.inl (wq hw 61 rfl)) (Or.inl (wq hw 96 rfl)) (by decide) (t := .int) (t' := .int) (by decide) (by decide)))
  have F_elementData_a := F_elementData_a.other W5 (Or.inr (slot_ne (Or.inl (wq hw 64 rfl)) (Or.inl (wq hw 96 rfl)) (by decide) (t := (.array (.object "java/lang/Object"))) (t' := .int) (by decide) (by decide)))
  have E_r2 := E_r2.wr W5
  have V_r2 := V_r2.other W5 ne_r2_a
  have Z5 : n0 ≤ h5.size := Nat.le_trans Z4 (Keep.of_wr W5).1
  have O := O.wr W5 g_a
  have F_size_a := F_size_a.same W5
  have K5 := K4.wr W5 (Or.inl (List.mem_of_getElem? (i := 0) rfl))
  have N5 := Fr.snoc X5 N4 g_a
  refine Goes.pre (U' := T5.setTop (mkF m 22 #[.val (.ref a), .val (.ref y), .val (.ref r2), .val (.int (0 : Int32))] [])) (fun t k => st5 t k) ?_
  refine Goes.ret X5 (v := none) (fun _ => rfl) hlk (by decide) (by decide) e5 (fun fs hr => X5.returnOut hx hret (hb hby d17_22) hr) ?_
  exact ⟨r2, kr2, rfl, N5, K5, F_modCount_a, F_size_a, F_elementData_a, E_r2, V_r2, g_r2, sz_r2⟩
theorem ef_rm_add (m : MethodId) (x0 : Addr) (x1 : Addr) : entryFrame m #[(.ref x0), (.ref x1)] 2 = mkF m 0 #[.val (.ref x0), .val (.ref x1)] [] := by first | (simp [entryFrame, mkF, argsToLocals, Value.category]; done) | rfl
abbrev M16 : MethodName := ⟨"java/util/ArrayList", "add", "(Ljava/lang/Object;)Z"⟩
theorem d16_0 : decode jdk_38_method_25_code 0 = .ok (.aload_n 0, 1) := by decide +kernel
theorem d16_1 : decode jdk_38_method_25_code 1 = .ok (.dup, 1) := by decide +kernel
theorem d16_2 : decode jdk_38_method_25_code 2 = .ok (.getfield 63, 3) := by decide +kernel
theorem d16_5 : decode jdk_38_method_25_code 5 = .ok (.iconst 1, 1) := by decide +kernel
theorem d16_6 : decode jdk_38_method_25_code 6 = .ok (.iadd, 1) := by decide +kernel
theorem d16_7 : decode jdk_38_method_25_code 7 = .ok (.putfield 63, 3) := by decide +kernel
theorem d16_10 : decode jdk_38_method_25_code 10 = .ok (.aload_n 0, 1) := by decide +kernel
theorem d16_11 : decode jdk_38_method_25_code 11 = .ok (.aload_n 1, 1) := by decide +kernel
theorem d16_12 : decode jdk_38_method_25_code 12 = .ok (.aload_n 0, 1) := by decide +kernel
theorem d16_13 : decode jdk_38_method_25_code 13 = .ok (.getfield 9, 3) := by decide +kernel
theorem d16_16 : decode jdk_38_method_25_code 16 = .ok (.aload_n 0, 1) := by decide +kernel
theorem d16_17 : decode jdk_38_method_25_code 17 = .ok (.getfield 48, 3) := by decide +kernel
theorem d16_20 : decode jdk_38_method_25_code 20 = .ok (.invokevirtual 131, 3) := by decide +kernel
theorem pd__28Ljava_2flang_2fObject_3b_5bLjava_2flang_2fObject_3bI_29V : parseMethodDescriptor "(Ljava/lang/Object;[Ljava/lang/Object;I)V" = some ⟨[(.object "java/lang/Object"), (.array (.object "java/lang/Object")), .int], none⟩ := by decide +kernel
theorem d16_23 : decode jdk_38_method_25_code 23 = .ok (.iconst 1, 1) := by decide +kernel
theorem d16_24 : decode jdk_38_method_25_code 24 = .ok (.ireturn, 1) := by decide +kernel
def Q_rm_add (Z : State) (a : Addr) (y : Addr) (dce : Addr) (kd : ClassId) (h0 : Heap) (n0 : Nat) (v : Option Value) (h : Heap) (L : List Loc) : Prop := ∃ (r : Addr) (kr : ClassId), v = some (.int (1 : Int32)) ∧ Fr n0 L ∧ Keep h0 h [a] ∧ Fld Z h a "java/util/AbstractList" "modCount" "I" (.int (1 : Int32)) ∧ Fld Z h a "java/util/ArrayList" "size" "I" (.int (1 : Int32)) ∧ Fld Z h a "java/util/ArrayList" "elementData" "[Ljava/lang/Object;" (.ref r) ∧ Exa Z h r "[Ljava/lang/Object;" ∧ Arv Z h r kr (.object "java/lang/Object") (10 : Int32) [(.ref y), .null, .null, .null, .null, .null, .null, .null, .null, .null] .null ∧ n0 ≤ r ∧ h0.size ≤ r
set_option maxRecDepth 65536 in
set_option maxHeartbeats 40000000 in
theorem rm_add (l : Launch) (Z : State) (a0 : Array Value) (hw : ∀ d ∈ tables_1, d.before a0 Z = true) (ws : List Jvm.Cond) (a : Addr) (y : Addr) (dce : Addr) (kd : ClassId) (h0 : Heap) (n0 : Nat) (Z0 : n0 ≤ h0.size) (E_a : Exa Z h0 a "java/util/ArrayList") (F_modCount_a : Fld Z h0 a "java/util/AbstractList" "modCount" "I" (.int (0 : Int32))) (F_size_a : Fld Z h0 a "java/util/ArrayList" "size" "I" (.int (0 : Int32))) (F_elementData_a : Fld Z h0 a "java/util/ArrayList" "elementData" "[Ljava/lang/Object;" (.ref dce)) (S_DEFAULTCAPACITY_EMPTY_ELEMENTDATA : Sta Z Z.heap "java/util/ArrayList" "DEFAULTCAPACITY_EMPTY_ELEMENTDATA" "[Ljava/lang/Object;" (.ref dce)) (V_dce : Arv Z Z.heap dce kd (.object "java/lang/Object") (0 : Int32) [] .null) (E_y : Exa Z h0 y "com/example/restate/restate/plan/Item") (g_a : n0 ≤ a) (O : Old Z n0 h0) :
    Met l Z M16 jdk_38_method_25_code 2 (some .boolean) ws (Rm 4 1 10 56) #[(.ref a), (.ref y)] h0 (Q_rm_add Z a y dce kd h0 n0) := by
  refine met_of (plainFor_of_name pn_java_util_ArrayList) (own := "java/util/ArrayList") rfl (fun m => ef_rm_add m a y) ?_
  intro p e s m below meth c s₁ hx hby hml hown hnm hZ X0 e0 hret hlk
  have N0 := Fr.nil n0
  have K0 := Keep.refl h0 [a]
  show Goes p e below s _ _ _ (s₁.setTop (mkF m 0 #[.val (.ref a), .val (.ref y)] []))
  refine Goes.pre (U' := s₁.setTop (mkF m 2 #[.val (.ref a), .val (.ref y)] [(.ref a), (.ref a)])) (fun t k => XS.aloadN X0.here hx rfl (hb hby d16_0) rfl rfl (XS.dup X0.here hx rfl (hb hby d16_1) rfl rfl k)) ?_
  obtain ⟨T1, X1, e1, st1⟩ := getF X0 hx hZ hown (host := "") (Or.inl (wq hw 116 rfl)) (Via.of (wq hw 117 rfl)) e0 F_modCount_a (g := (mkF m 2 #[.val (.ref a), .val (.ref y)] [(.ref a), (.ref a)])) rfl rfl (hb hby d16_2)
  refine Goes.pre (U' := T1.setTop (mkF m 7 #[.val (.ref a), .val (.ref y)] [(.int ((0 : Int32) + (1 : Int32))), (.ref a)])) (fun t k => st1 t (XS.iconst X1.here hx rfl (hb hby d16_5) (XS.iadd X1.here hx rfl (hb hby d16_6) rfl k))) ?_
  rw [(by decide : ((0 : Int32) + (1 : Int32)) = (1 : Int32))]
  obtain ⟨T2, h2, X2, e2, W2, st2⟩ := putF X1 hx hZ hown (host := "") (Or.inl (wq hw 116 rfl)) (Via.of (wq hw 117 rfl)) e1 F_modCount_a E_a (Or.inl (wq hw 61 rfl)) (wq hw 42 rfl) (ty := .int) (by decide) rfl rfl (g := (mkF m 7 #[.val (.ref a), .val (.ref y)] [(.int (1 : Int32)), (.ref a)])) rfl rfl (hb hby d16_7)
  have E_a := E_a.wr W2
  have F_size_a := F_size_a.other W2 (Or.inr (slot_ne (Or.inl (wq hw 96 rfl)) (Or.inl (wq hw 61 rfl)) (by decide) (t := .int) (t' := .int) (by decide) (by decide)))
  have F_elementData_a := F_elementData_a.other W2 (Or.inr (slot_ne (Or.inl (wq hw 64 rfl)) (Or.inl (wq hw 61 rfl)) (by decide) (t := (.array (.object "java/lang/Object"))) (t' := .int) (by decide) (by decide)))
  have E_y := E_y.wr W2
  have Z2 : n0 ≤ h2.size := Nat.le_trans Z0 (Keep.of_wr W2).1
  have O := O.wr W2 g_a
  have F_modCount_a := F_modCount_a.same W2
  have K2 := K0.wr W2 (Or.inl (List.mem_of_getElem? (i := 0) rfl))
  have N2 := Fr.snoc X2 N0 g_a
  refine Goes.pre (U' := T2.setTop (mkF m 13 #[.val (.ref a), .val (.ref y)] [(.ref a), (.ref y), (.ref a)])) (fun t k => st2 t (XS.aloadN X2.here hx rfl (hb hby d16_10) rfl rfl (XS.aloadN X2.here hx rfl (hb hby d16_11) rfl rfl (XS.aloadN X2.here hx rfl (hb hby d16_12) rfl rfl k)))) ?_
  obtain ⟨T3, X3, e3, st3⟩ := getF X2 hx hZ hown (host := "") (Or.inl (wq hw 63 rfl)) Via.refl e2 F_elementData_a (g := (mkF m 13 #[.val (.ref a), .val (.ref y)] [(.ref a), (.ref y), (.ref a)])) rfl rfl (hb hby d16_13)
  refine Goes.pre (U' := T3.setTop (mkF m 17 #[.val (.ref a), .val (.ref y)] [(.ref a), (.ref dce), (.ref y), (.ref a)])) (fun t k => st3 t (XS.aloadN X3.here hx rfl (hb hby d16_16) rfl rfl k)) ?_
  obtain ⟨T4, X4, e4, st4⟩ := getF X3 hx hZ hown (host := "") (Or.inl (wq hw 95 rfl)) Via.refl e3 F_size_a (g := (mkF m 17 #[.val (.ref a), .val (.ref y)] [(.ref a), (.ref dce), (.ref y), (.ref a)])) rfl rfl (hb hby d16_17)
  refine Goes.pre (U' := T4.setTop (mkF m 20 #[.val (.ref a), .val (.ref y)] [(.int (0 : Int32)), (.ref dce), (.ref y), (.ref a)])) (fun t k => st4 t k) ?_
  have lt_a := E_a.lt
  have lt_dce := (V_dce.ext O.2).lt
  have lt_y := E_y.lt
  obtain ⟨cq5, q5, q5'⟩ := E_a.cell
  obtain ⟨_, _, ⟨T5, L5, k5, n5⟩, -, X5, ⟨Lc5, hQ5, l5, y5, z5⟩, st5⟩ := X4.privateBack hx (y := (⟨"java/util/ArrayList", "add", "(Ljava/lang/Object;[Ljava/lang/Object;I)V"⟩ : MethodName)) hown (mvT hZ (wq hw 118 rfl)) (mvT hZ (wq hw 119 rfl)) (mvT hZ (wq hw 121 rfl)) (Cond.privateMethod_at (mvP hZ (wq hw 120 rfl) (args := #[]))) (mvT hZ (wq hw 122 rfl)) (by decide) (backOf (W := 0) (rm_add3 l Z a0 hw [] a y dce kd h2 n0 Z2 E_a F_modCount_a F_size_a F_elementData_a S_DEFAULTCAPACITY_EMPTY_ELEMENTDATA V_dce E_y g_a O) hZ (wq hw 122 rfl) (wq hw 43 rfl) (by decide) (by decide)) (g := (mkF m 20 #[.val (.ref a), .val (.ref y)] [(.int (0 : Int32)), (.ref dce), (.ref y), (.ref a)])) rfl (by rw [hml]; rfl) (Steps.refl _) (a := a) (by rw [e4]; exact q5) q5' (argsL := [(.ref y), (.ref dce), (.int (0 : Int32))]) (rest := []) (lenOf pd__28Ljava_2flang_2fObject_3b_5bLjava_2flang_2fObject_3bI_29V rfl) rfl (by show 2 * 0 + _ ≤ _; exact Nat.le_of_eq rfl) (hb hby d16_20) (fun _ _ => ⟨rfl, e4, (by decide : 0 + 1 ≤ _), (by decide : 0 + 10 ≤ _)⟩)
  dsimp only [Pt.U, Pt.locs, Pt.cells, Pt.slots] at X5 l5 y5 z5 st5 hQ5
  subst l5 y5 z5
  obtain ⟨r5, kr5, rfl, N5q, KQ5, fo0_5, fo1_5, fo2_5, fo3_5, fo4_5, g_r5, sl_r5⟩ := hQ5
  have N5 := Fr.app N2 N5q
  have E_a := E_a.keep KQ5
  have E_y := E_y.keep KQ5
  have Z6 : n0 ≤ T5.heap.size := Nat.le_trans Z2 KQ5.1
  have O := O.keep KQ5 (allS (P := fun x => n0 ≤ x) g_a all0)
  have K6 := K2.trans KQ5 (allS (P := fun x => x ∈ [a] ∨ h0.size ≤ x) (Or.inl (List.mem_of_getElem? (i := 0) rfl)) all0)
  have ne_a_r5 : a ≠ r5 := Nat.ne_of_lt (Nat.lt_of_lt_of_le lt_a sl_r5)
  have ne_r5_a := ne_a_r5.symm
  have ne_dce_r5 : dce ≠ r5 := Nat.ne_of_lt (Nat.lt_of_lt_of_le lt_dce sl_r5)
  have ne_r5_dce := ne_dce_r5.symm
  have ne_y_r5 : y ≠ r5 := Nat.ne_of_lt (Nat.lt_of_lt_of_le lt_y sl_r5)
  have ne_r5_y := ne_y_r5.symm
  have sz_r5 : h0.size ≤ r5 := Nat.le_trans K2.1 sl_r5
  have F_modCount_a := fo0_5
  have F_size_a := fo1_5
  have F_elementData_a := fo2_5
  have E_r5 := fo3_5
  have V_r5 := fo4_5
  refine Goes.pre (U' := T5.setTop (mkF m 24 #[.val (.ref a), .val (.ref y)] [(.int (1 : Int32))])) (fun t k => st5.trans (XS.iconst X5.here hx rfl (hb hby d16_23) k)) ?_
  refine Goes.ret X5 (v := (some (.int (1 : Int32)))) (fun h => by rw [hret] at h; cases h) hlk (by decide) (by decide) rfl (fun fs hr => retN X5 hx (t := .boolean) hret (by simp) (hb hby d16_24) hr) ?_
  exact ⟨r5, kr5, rfl, N5, K6, F_modCount_a, F_size_a, F_elementData_a, E_r5, V_r5, g_r5, sz_r5⟩
theorem ef_rm_copy3 (m : MethodId) (x0 : Addr) (x1 : Int32) (x2 : Addr) : entryFrame m #[(.ref x0), (.int x1), (.ref x2)] 4 = mkF m 0 #[.val (.ref x0), .val (.int x1), .val (.ref x2), .unset] [] := by first | (simp [entryFrame, mkF, argsToLocals, Value.category]; done) | rfl
theorem pn_java_util_Arrays : plainName "java/util/Arrays" = true := by first | (simp [plainName, overriddenIn]; done) | decide +kernel
abbrev M23 : MethodName := ⟨"java/util/Arrays", "copyOf", "([Ljava/lang/Object;ILjava/lang/Class;)[Ljava/lang/Object;"⟩
theorem d23_0 : decode jdk_65_method_120_code 0 = .ok (.aload_n 2, 1) := by decide +kernel
theorem d23_1 : decode jdk_65_method_120_code 1 = .ok (.ldc 110, 2) := by decide +kernel
theorem d23_3 : decode jdk_65_method_120_code 3 = .ok (.if_acmp .ne 10, 3) := by decide +kernel
theorem d23_6 : decode jdk_65_method_120_code 6 = .ok (.iload_n 1, 1) := by decide +kernel
theorem d23_7 : decode jdk_65_method_120_code 7 = .ok (.anewarray 2, 3) := by decide +kernel
theorem d23_10 : decode jdk_65_method_120_code 10 = .ok (.goto 14, 3) := by decide +kernel
theorem d23_24 : decode jdk_65_method_120_code 24 = .ok (.astore_n 3, 1) := by decide +kernel
theorem d23_25 : decode jdk_65_method_120_code 25 = .ok (.aload_n 0, 1) := by decide +kernel
theorem d23_26 : decode jdk_65_method_120_code 26 = .ok (.iconst 0, 1) := by decide +kernel
theorem d23_27 : decode jdk_65_method_120_code 27 = .ok (.aload_n 3, 1) := by decide +kernel
theorem d23_28 : decode jdk_65_method_120_code 28 = .ok (.iconst 0, 1) := by decide +kernel
theorem d23_29 : decode jdk_65_method_120_code 29 = .ok (.aload_n 0, 1) := by decide +kernel
theorem d23_30 : decode jdk_65_method_120_code 30 = .ok (.arraylength, 1) := by decide +kernel
theorem d23_31 : decode jdk_65_method_120_code 31 = .ok (.iload_n 1, 1) := by decide +kernel
theorem d23_32 : decode jdk_65_method_120_code 32 = .ok (.invokestatic 304, 3) := by decide +kernel
theorem d23_35 : decode jdk_65_method_120_code 35 = .ok (.invokestatic 150, 3) := by decide +kernel
theorem d23_38 : decode jdk_65_method_120_code 38 = .ok (.aload_n 3, 1) := by decide +kernel
theorem d23_39 : decode jdk_65_method_120_code 39 = .ok (.areturn, 1) := by decide +kernel
def Q_rm_copy3 (Z : State) (b : Addr) (kb : ClassId) (y : Addr) (mr : Addr) (h0 : Heap) (n0 : Nat) (v : Option Value) (h : Heap) (L : List Loc) : Prop := ∃ (r : Addr) (kr : ClassId), v = some (.ref r) ∧ Fr n0 L ∧ Keep h0 h [] ∧ Exa Z h r "[Ljava/lang/Object;" ∧ Arv Z h r kr (.object "java/lang/Object") (1 : Int32) [(.ref y)] .null ∧ n0 ≤ r ∧ h0.size ≤ r
set_option maxRecDepth 65536 in
set_option maxHeartbeats 40000000 in
theorem rm_copy3 (l : Launch) (Z : State) (a0 : Array Value) (hw : ∀ d ∈ tables_1, d.before a0 Z = true) (ws : List Jvm.Cond) (b : Addr) (kb : ClassId) (y : Addr) (mr : Addr) (h0 : Heap) (n0 : Nat) (Z0 : n0 ≤ h0.size) (E_b : Exa Z h0 b "[Ljava/lang/Object;") (V_b : Arv Z h0 b kb (.object "java/lang/Object") (10 : Int32) [(.ref y), .null, .null, .null, .null, .null, .null, .null, .null, .null] .null) (E_y : Exa Z h0 y "com/example/restate/restate/plan/Item") (M__Ljava_lang_Object_ : OwnMir Z "[Ljava/lang/Object;" mr) :
    Met l Z M23 jdk_65_method_120_code 4 (some (.array (.object "java/lang/Object"))) ws (Rm 1 1 1 18) #[(.ref b), (.int (1 : Int32)), (.ref mr)] h0 (Q_rm_copy3 Z b kb y mr h0 n0) := by
  refine met_of (plainFor_of_name pn_java_util_Arrays) (own := "java/util/Arrays") rfl (fun m => ef_rm_copy3 m b (1 : Int32) mr) ?_
  intro p e s m below meth c s₁ hx hby hml hown hnm hZ X0 e0 hret hlk
  have N0 := Fr.nil n0
  have K0 := Keep.refl h0 []
  show Goes p e below s _ _ _ (s₁.setTop (mkF m 0 #[.val (.ref b), .val (.int (1 : Int32)), .val (.ref mr), .unset] []))
  refine Goes.pre (U' := s₁.setTop (mkF m 1 #[.val (.ref b), .val (.int (1 : Int32)), .val (.ref mr), .unset] [(.ref mr)])) (fun t k => XS.aloadN X0.here hx rfl (hb hby d23_0) rfl rfl k) ?_
  obtain ⟨T1, X1, e1, st1⟩ := own_ldcC X0 hx hZ hown (wq hw 161 rfl) e0 M__Ljava_lang_Object_ (g := (mkF m 1 #[.val (.ref b), .val (.int (1 : Int32)), .val (.ref mr), .unset] [(.ref mr)])) rfl (hb hby d23_1)
  refine Goes.pre (U' := T1.setTop (mkF m 7 #[.val (.ref b), .val (.int (1 : Int32)), .val (.ref mr), .unset] [(.int (1 : Int32))])) (fun t k => st1 t (Jvm.RoadKit.acmp (g := (mkF m 3 #[.val (.ref b), .val (.int (1 : Int32)), .val (.ref mr), .unset] [(.ref mr), (.ref mr)])) X1 hx rfl rfl rfl (pc0 := 3) (pc' := 6) (same := true) rfl (hb hby d23_3) rfl (decide_eq_true rfl) (by decide) (by decide) (XS.iloadN X1.here hx rfl (hb hby d23_6) rfl k))) ?_
  obtain ⟨T2, h2, k2, X2, e2, E2, A2, B2, Ov2, st2⟩ := newRE X1 hx hZ hown (wq hw 162 rfl) (wq hw 138 rfl) e1 (g := (mkF m 7 #[.val (.ref b), .val (.int (1 : Int32)), .val (.ref mr), .unset] [(.int (1 : Int32))])) rfl (hb hby d23_7) rfl (by decide) (cap := 1) (by decide) (by decide) (by decide) (by decide) (ad := "[Ljava/lang/Object;") (by decide)
  obtain ⟨nb2, g2⟩ : ∃ z, z = h0.size := ⟨_, rfl⟩
  rw [← g2] at A2 B2 st2
  have ne_b_nb2 : b ≠ nb2 := Nat.ne_of_lt (Nat.lt_of_lt_of_le E_b.lt (Nat.le_of_eq g2.symm))
  have ne_nb2_b := ne_b_nb2.symm
  have ne_y_nb2 : y ≠ nb2 := Nat.ne_of_lt (Nat.lt_of_lt_of_le E_y.lt (Nat.le_of_eq g2.symm))
  have ne_nb2_y := ne_y_nb2.symm
  have g_nb2 : n0 ≤ nb2 := Nat.le_trans Z0 (Nat.le_of_eq g2.symm)
  have sz_nb2 : h0.size ≤ nb2 := Nat.le_trans K0.1 (Nat.le_of_eq g2.symm)
  have E_b := E_b.ext E2
  have V_b := V_b.ext E2
  have E_y := E_y.ext E2
  have Z2 : n0 ≤ h2.size := Nat.le_trans Z0 E2.1
  have K2 := K0.ext E2
  have E_nb2 := B2
  have V_nb2 : Arv Z h2 nb2 k2 (.object "java/lang/Object") (1 : Int32) [.null] .null := (Arv.new A2 (by decide)).pad (pad_rep [] .null 1)
  have Ov_nb2 := Ov2
  refine Goes.pre (U' := T2.setTop (mkF m 30 #[.val (.ref b), .val (.int (1 : Int32)), .val (.ref mr), .val (.ref nb2)] [(.ref b), (.int (0 : Int32)), (.ref nb2), (.int (0 : Int32)), (.ref b)])) (fun t k => st2 t (XS.goto X2.here hx rfl (pc0 := 10) (pc' := 24) rfl (hb hby d23_10) (by decide) (by decide) (XS.astoreN X2.here hx rfl (hb hby d23_24) rfl rfl (l' := #[.val (.ref b), .val (.int (1 : Int32)), .val (.ref mr), .val (.ref nb2)]) rfl (XS.aloadN X2.here hx rfl (hb hby d23_25) rfl rfl (XS.iconst X2.here hx rfl (hb hby d23_26) (XS.aloadN X2.here hx rfl (hb hby d23_27) rfl rfl (XS.iconst X2.here hx rfl (hb hby d23_28) (XS.aloadN X2.here hx rfl (hb hby d23_29) rfl rfl k)))))))) ?_
  obtain ⟨cl3, Ar3, q3, Sz3, Ng3, -, -⟩ := id V_b
  have ln3 := len_of Sz3 Ng3
  refine Goes.pre (U' := T2.setTop (mkF m 32 #[.val (.ref b), .val (.int (1 : Int32)), .val (.ref mr), .val (.ref nb2)] [(.int (1 : Int32)), (.int (10 : Int32)), (.int (0 : Int32)), (.ref nb2), (.int (0 : Int32)), (.ref b)])) (fun t k => X2.arraylength hx (by rw [e2]; exact Ar3.1) (State.isArrayOf_alike hZ.alike Ar3.2.1) (g := (mkF m 30 #[.val (.ref b), .val (.int (1 : Int32)), .val (.ref mr), .val (.ref nb2)] [(.ref b), (.int (0 : Int32)), (.ref nb2), (.int (0 : Int32)), (.ref b)])) rfl rfl (hb hby d23_30) _ (by rw [ln3]; exact (XS.iloadN X2.here hx rfl (hb hby d23_31) rfl k))) ?_
  obtain ⟨_, _, ⟨T4, L4, k4, n4⟩, -, X4, ⟨Lc4, hQ4, l4, y4, z4⟩, st4⟩ := Jvm.LawKit.callS X2 hx (y := (⟨"java/lang/Math", "min", "(II)I"⟩ : MethodName)) hown (mvT hZ (wq hw 163 rfl)) (mvT hZ (wq hw 164 rfl)) (mvT hZ (wq hw 135 rfl)) (mvT hZ (wq hw 165 rfl)) (by decide) (backOf (W := 4) (rm_min101 l Z a0 hw []  h2 n0 Z2 ) hZ (wq hw 165 rfl) (wq hw 135 rfl) (by decide) (by decide)) (g := (mkF m 32 #[.val (.ref b), .val (.int (1 : Int32)), .val (.ref mr), .val (.ref nb2)] [(.int (1 : Int32)), (.int (10 : Int32)), (.int (0 : Int32)), (.ref nb2), (.int (0 : Int32)), (.ref b)])) rfl (by rw [hml]; rfl) (argsL := [(.int (10 : Int32)), (.int (1 : Int32))]) (rest := [(.int (0 : Int32)), (.ref nb2), (.int (0 : Int32)), (.ref b)]) (lenOf pd__28II_29I rfl) rfl (by show 2 * 0 + _ ≤ _; exact Nat.le_of_eq rfl) (hb hby d23_32) (fun _ _ => ⟨rfl, e2, (by decide : 1 + 0 ≤ _), (by decide : 1 + 0 ≤ _)⟩)
  dsimp only [Pt.U, Pt.locs, Pt.cells, Pt.slots] at X4 l4 y4 z4 st4 hQ4
  subst l4 y4 z4
  obtain ⟨rfl, N4q, HQ4⟩ := hQ4
  have N4 := Fr.app N0 N4q
  refine Goes.pre (U' := T4.setTop (mkF m 35 #[.val (.ref b), .val (.int (1 : Int32)), .val (.ref mr), .val (.ref nb2)] [(.int (1 : Int32)), (.int (0 : Int32)), (.ref nb2), (.int (0 : Int32)), (.ref b)])) (fun t k => st4 t k) ?_
  obtain ⟨clc5, Ar5c, q5c, -⟩ := id V_nb2
  obtain ⟨T5, h5, L5, X5, e5, N5, K5c, V5, st5⟩ := cpA X4 hx hZ hown (wq hw 166 rfl) (wq hw 169 rfl) (wq hw 167 rfl) (wq hw 168 rfl) HQ4 V_b V_nb2 (us := [(.ref y)]) (Or.inr ⟨rfl, rfl, ⟨(Sto.ofV Ar5c q5c Ov_nb2 (Ins.of_exa E_y (wq hw 139 rfl))), trivial⟩⟩) (by decide) (by decide) (by decide) (by decide) (by decide) rfl (by decide) N4 g_nb2 (g := (mkF m 35 #[.val (.ref b), .val (.int (1 : Int32)), .val (.ref mr), .val (.ref nb2)] [(.int (1 : Int32)), (.int (0 : Int32)), (.ref nb2), (.int (0 : Int32)), (.ref b)])) rfl (by rw [hml]; rfl) rfl (hb hby d23_35) (by decide) (W := 0) (by show 2 * 0 + _ ≤ _; exact Nat.le_of_eq rfl) (by decide)
  have E_b := E_b.keep K5c
  have V_b := V_b.keep K5c (ninS ne_b_nb2 nin0)
  have E_y := E_y.keep K5c
  have E_nb2 := E_nb2.keep K5c
  have Z6 : n0 ≤ h5.size := Nat.le_trans Z2 K5c.1
  have K6 := K2.trans K5c (allS (P := fun x => x ∈ [] ∨ h0.size ≤ x) (Or.inr sz_nb2) all0)
  have V_nb2 : Arv Z h5 nb2 k2 (.object "java/lang/Object") (1 : Int32) [(.ref y)] .null := V5
  refine Goes.pre (U' := T5.setTop (mkF m 39 #[.val (.ref b), .val (.int (1 : Int32)), .val (.ref mr), .val (.ref nb2)] [(.ref nb2)])) (fun t k => st5 t (XS.aloadN X5.here hx rfl (hb hby d23_38) rfl rfl k)) ?_
  refine Goes.ret X5 (v := (some (.ref nb2))) (fun h => by rw [hret] at h; cases h) hlk (by decide) (by decide) e5 (fun fs hr => retOut X5 hx hret rfl (Or.inr (Or.inr (Or.inr (Or.inr ⟨rfl, rfl, rfl⟩)))) (hb hby d23_39) hr) ?_
  exact ⟨nb2, k2, rfl, N5, K6, E_nb2, V_nb2, g_nb2, sz_nb2⟩
theorem ef_rm_copy2 (m : MethodId) (x0 : Addr) (x1 : Int32) : entryFrame m #[(.ref x0), (.int x1)] 2 = mkF m 0 #[.val (.ref x0), .val (.int x1)] [] := by first | (simp [entryFrame, mkF, argsToLocals, Value.category]; done) | rfl
abbrev M22 : MethodName := ⟨"java/util/Arrays", "copyOf", "([Ljava/lang/Object;I)[Ljava/lang/Object;"⟩
theorem d22_0 : decode jdk_65_method_119_code 0 = .ok (.aload_n 0, 1) := by decide +kernel
theorem d22_1 : decode jdk_65_method_119_code 1 = .ok (.iload_n 1, 1) := by decide +kernel
theorem d22_2 : decode jdk_65_method_119_code 2 = .ok (.aload_n 0, 1) := by decide +kernel
theorem d22_3 : decode jdk_65_method_119_code 3 = .ok (.invokevirtual 86, 3) := by decide +kernel
theorem d22_6 : decode jdk_65_method_119_code 6 = .ok (.invokestatic 300, 3) := by decide +kernel
theorem pd__28_5bLjava_2flang_2fObject_3bILjava_2flang_2fClass_3b_29_5bLjava_2flang_2fObject_3b : parseMethodDescriptor "([Ljava/lang/Object;ILjava/lang/Class;)[Ljava/lang/Object;" = some ⟨[(.array (.object "java/lang/Object")), .int, (.object "java/lang/Class")], some (.array (.object "java/lang/Object"))⟩ := by decide +kernel
theorem d22_9 : decode jdk_65_method_119_code 9 = .ok (.areturn, 1) := by decide +kernel
def Q_rm_copy2 (Z : State) (b : Addr) (kb : ClassId) (y : Addr) (mr : Addr) (h0 : Heap) (n0 : Nat) (v : Option Value) (h : Heap) (L : List Loc) : Prop := ∃ (r : Addr) (kr : ClassId), v = some (.ref r) ∧ Fr n0 L ∧ Keep h0 h [] ∧ Exa Z h r "[Ljava/lang/Object;" ∧ Arv Z h r kr (.object "java/lang/Object") (1 : Int32) [(.ref y)] .null ∧ n0 ≤ r ∧ h0.size ≤ r
set_option maxRecDepth 65536 in
set_option maxHeartbeats 40000000 in
theorem rm_copy2 (l : Launch) (Z : State) (a0 : Array Value) (hw : ∀ d ∈ tables_1, d.before a0 Z = true) (ws : List Jvm.Cond) (b : Addr) (kb : ClassId) (y : Addr) (mr : Addr) (h0 : Heap) (n0 : Nat) (Z0 : n0 ≤ h0.size) (E_b : Exa Z h0 b "[Ljava/lang/Object;") (V_b : Arv Z h0 b kb (.object "java/lang/Object") (10 : Int32) [(.ref y), .null, .null, .null, .null, .null, .null, .null, .null, .null] .null) (E_y : Exa Z h0 y "com/example/restate/restate/plan/Item") (M__Ljava_lang_Object_ : OwnMir Z "[Ljava/lang/Object;" mr) :
    Met l Z M22 jdk_65_method_119_code 2 (some (.array (.object "java/lang/Object"))) ws (Rm 2 1 1 33) #[(.ref b), (.int (1 : Int32))] h0 (Q_rm_copy2 Z b kb y mr h0 n0) := by
  refine met_of (plainFor_of_name pn_java_util_Arrays) (own := "java/util/Arrays") rfl (fun m => ef_rm_copy2 m b (1 : Int32)) ?_
  intro p e s m below meth c s₁ hx hby hml hown hnm hZ X0 e0 hret hlk
  have N0 := Fr.nil n0
  have K0 := Keep.refl h0 []
  show Goes p e below s _ _ _ (s₁.setTop (mkF m 0 #[.val (.ref b), .val (.int (1 : Int32))] []))
  refine Goes.pre (U' := s₁.setTop (mkF m 3 #[.val (.ref b), .val (.int (1 : Int32))] [(.ref b), (.int (1 : Int32)), (.ref b)])) (fun t k => XS.aloadN X0.here hx rfl (hb hby d22_0) rfl rfl (XS.iloadN X0.here hx rfl (hb hby d22_1) rfl (XS.aloadN X0.here hx rfl (hb hby d22_2) rfl rfl k))) ?_
  obtain ⟨T1, X1, e1, st1⟩ := own_gcls X0 hx hZ hown (wq hw 152 rfl) (wq hw 153 rfl) (wq hw 84 rfl) (wq hw 155 rfl) (wq hw 154 rfl) (wq hw 156 rfl) e0 E_b M__Ljava_lang_Object_ (g := (mkF m 3 #[.val (.ref b), .val (.int (1 : Int32))] [(.ref b), (.int (1 : Int32)), (.ref b)])) rfl (by rw [hml]; rfl) rfl (hb hby d22_3) (by decide) (W := 2) (by show 2 * 0 + _ ≤ _; exact Nat.le_of_eq rfl) (by decide)
  refine Goes.pre (U' := T1.setTop (mkF m 6 #[.val (.ref b), .val (.int (1 : Int32))] [(.ref mr), (.int (1 : Int32)), (.ref b)])) (fun t k => st1 t k) ?_
  have lt_b := E_b.lt
  have lt_y := E_y.lt
  obtain ⟨_, _, ⟨T2, L2, k2, n2⟩, -, X2, ⟨Lc2, hQ2, l2, y2, z2⟩, st2⟩ := Jvm.LawKit.callS X1 hx (y := (⟨"java/util/Arrays", "copyOf", "([Ljava/lang/Object;ILjava/lang/Class;)[Ljava/lang/Object;"⟩ : MethodName)) hown (mvT hZ (wq hw 158 rfl)) (mvT hZ (wq hw 159 rfl)) (mvT hZ (wq hw 150 rfl)) (mvT hZ (wq hw 160 rfl)) (by decide) (backOf (W := 0) (rm_copy3 l Z a0 hw [] b kb y mr h0 n0 Z0 E_b V_b E_y M__Ljava_lang_Object_) hZ (wq hw 160 rfl) (wq hw 150 rfl) (by decide) (by decide)) (g := (mkF m 6 #[.val (.ref b), .val (.int (1 : Int32))] [(.ref mr), (.int (1 : Int32)), (.ref b)])) rfl (by rw [hml]; rfl) (argsL := [(.ref b), (.int (1 : Int32)), (.ref mr)]) (rest := []) (lenOf pd__28_5bLjava_2flang_2fObject_3bILjava_2flang_2fClass_3b_29_5bLjava_2flang_2fObject_3b rfl) rfl (by show 2 * 0 + _ ≤ _; exact Nat.le_of_eq rfl) (hb hby d22_6) (fun _ _ => ⟨rfl, e1, (by decide : 0 + 1 ≤ _), (by decide : 0 + 1 ≤ _)⟩)
  dsimp only [Pt.U, Pt.locs, Pt.cells, Pt.slots] at X2 l2 y2 z2 st2 hQ2
  subst l2 y2 z2
  obtain ⟨r2, kr2, rfl, N2q, KQ2, fo0_2, fo1_2, g_r2, sl_r2⟩ := hQ2
  have N2 := Fr.app N0 N2q
  have E_b := E_b.keep KQ2
  have V_b := V_b.keep KQ2 nin0
  have E_y := E_y.keep KQ2
  have Z3 : n0 ≤ T2.heap.size := Nat.le_trans Z0 KQ2.1
  have K3 := K0.trans KQ2 all0
  have ne_b_r2 : b ≠ r2 := Nat.ne_of_lt (Nat.lt_of_lt_of_le lt_b sl_r2)
  have ne_r2_b := ne_b_r2.symm
  have ne_y_r2 : y ≠ r2 := Nat.ne_of_lt (Nat.lt_of_lt_of_le lt_y sl_r2)
  have ne_r2_y := ne_y_r2.symm
  have sz_r2 : h0.size ≤ r2 := Nat.le_trans K0.1 sl_r2
  have E_r2 := fo0_2
  have V_r2 := fo1_2
  refine Goes.pre (U' := T2.setTop (mkF m 9 #[.val (.ref b), .val (.int (1 : Int32))] [(.ref r2)])) (fun t k => st2 t k) ?_
  refine Goes.ret X2 (v := (some (.ref r2))) (fun h => by rw [hret] at h; cases h) hlk (by decide) (by decide) rfl (fun fs hr => retOut X2 hx hret rfl (Or.inr (Or.inr (Or.inr (Or.inr ⟨rfl, rfl, rfl⟩)))) (hb hby d22_9) hr) ?_
  exact ⟨r2, kr2, rfl, N2, K3, E_r2, V_r2, g_r2, sz_r2⟩
theorem ef_rm_toArray (m : MethodId) (x0 : Addr) : entryFrame m #[(.ref x0)] 1 = mkF m 0 #[.val (.ref x0)] [] := by first | (simp [entryFrame, mkF, argsToLocals, Value.category]; done) | rfl
abbrev M21 : MethodName := ⟨"java/util/ArrayList", "toArray", "()[Ljava/lang/Object;"⟩
theorem d21_0 : decode jdk_38_method_16_code 0 = .ok (.aload_n 0, 1) := by decide +kernel
theorem d21_1 : decode jdk_38_method_16_code 1 = .ok (.getfield 9, 3) := by decide +kernel
theorem d21_4 : decode jdk_38_method_16_code 4 = .ok (.aload_n 0, 1) := by decide +kernel
theorem d21_5 : decode jdk_38_method_16_code 5 = .ok (.getfield 48, 3) := by decide +kernel
theorem d21_8 : decode jdk_38_method_16_code 8 = .ok (.invokestatic 66, 3) := by decide +kernel
theorem pd__28_5bLjava_2flang_2fObject_3bI_29_5bLjava_2flang_2fObject_3b : parseMethodDescriptor "([Ljava/lang/Object;I)[Ljava/lang/Object;" = some ⟨[(.array (.object "java/lang/Object")), .int], some (.array (.object "java/lang/Object"))⟩ := by decide +kernel
theorem d21_11 : decode jdk_38_method_16_code 11 = .ok (.areturn, 1) := by decide +kernel
def Q_rm_toArray (Z : State) (a : Addr) (b : Addr) (kb : ClassId) (y : Addr) (mr : Addr) (h0 : Heap) (n0 : Nat) (v : Option Value) (h : Heap) (L : List Loc) : Prop := ∃ (r : Addr) (kr : ClassId), v = some (.ref r) ∧ Fr n0 L ∧ Keep h0 h [] ∧ Exa Z h r "[Ljava/lang/Object;" ∧ Arv Z h r kr (.object "java/lang/Object") (1 : Int32) [(.ref y)] .null ∧ n0 ≤ r ∧ h0.size ≤ r
set_option maxRecDepth 65536 in
set_option maxHeartbeats 40000000 in
theorem rm_toArray (l : Launch) (Z : State) (a0 : Array Value) (hw : ∀ d ∈ tables_1, d.before a0 Z = true) (ws : List Jvm.Cond) (a : Addr) (b : Addr) (kb : ClassId) (y : Addr) (mr : Addr) (h0 : Heap) (n0 : Nat) (Z0 : n0 ≤ h0.size) (E_b : Exa Z h0 b "[Ljava/lang/Object;") (V_b : Arv Z h0 b kb (.object "java/lang/Object") (10 : Int32) [(.ref y), .null, .null, .null, .null, .null, .null, .null, .null, .null] .null) (E_y : Exa Z h0 y "com/example/restate/restate/plan/Item") (M__Ljava_lang_Object_ : OwnMir Z "[Ljava/lang/Object;" mr) (E_a : Exa Z h0 a "java/util/ArrayList") (F_size_a : Fld Z h0 a "java/util/ArrayList" "size" "I" (.int (1 : Int32))) (F_elementData_a : Fld Z h0 a "java/util/ArrayList" "elementData" "[Ljava/lang/Object;" (.ref b)) :
    Met l Z M21 jdk_38_method_16_code 1 (some (.array (.object "java/lang/Object"))) ws (Rm 3 1 1 46) #[(.ref a)] h0 (Q_rm_toArray Z a b kb y mr h0 n0) := by
  refine met_of (plainFor_of_name pn_java_util_ArrayList) (own := "java/util/ArrayList") rfl (fun m => ef_rm_toArray m a) ?_
  intro p e s m below meth c s₁ hx hby hml hown hnm hZ X0 e0 hret hlk
  have N0 := Fr.nil n0
  have K0 := Keep.refl h0 []
  show Goes p e below s _ _ _ (s₁.setTop (mkF m 0 #[.val (.ref a)] []))
  refine Goes.pre (U' := s₁.setTop (mkF m 1 #[.val (.ref a)] [(.ref a)])) (fun t k => XS.aloadN X0.here hx rfl (hb hby d21_0) rfl rfl k) ?_
  obtain ⟨T1, X1, e1, st1⟩ := getF X0 hx hZ hown (host := "") (Or.inl (wq hw 63 rfl)) Via.refl e0 F_elementData_a (g := (mkF m 1 #[.val (.ref a)] [(.ref a)])) rfl rfl (hb hby d21_1)
  refine Goes.pre (U' := T1.setTop (mkF m 5 #[.val (.ref a)] [(.ref a), (.ref b)])) (fun t k => st1 t (XS.aloadN X1.here hx rfl (hb hby d21_4) rfl rfl k)) ?_
  obtain ⟨T2, X2, e2, st2⟩ := getF X1 hx hZ hown (host := "") (Or.inl (wq hw 95 rfl)) Via.refl e1 F_size_a (g := (mkF m 5 #[.val (.ref a)] [(.ref a), (.ref b)])) rfl rfl (hb hby d21_5)
  refine Goes.pre (U' := T2.setTop (mkF m 8 #[.val (.ref a)] [(.int (1 : Int32)), (.ref b)])) (fun t k => st2 t k) ?_
  have lt_a := E_a.lt
  have lt_b := E_b.lt
  have lt_y := E_y.lt
  obtain ⟨_, _, ⟨T3, L3, k3, n3⟩, -, X3, ⟨Lc3, hQ3, l3, y3, z3⟩, st3⟩ := Jvm.LawKit.callS X2 hx (y := (⟨"java/util/Arrays", "copyOf", "([Ljava/lang/Object;I)[Ljava/lang/Object;"⟩ : MethodName)) hown (mvT hZ (wq hw 148 rfl)) (mvT hZ (wq hw 149 rfl)) (mvT hZ (wq hw 150 rfl)) (mvT hZ (wq hw 151 rfl)) (by decide) (backOf (W := 0) (rm_copy2 l Z a0 hw [] b kb y mr h0 n0 Z0 E_b V_b E_y M__Ljava_lang_Object_) hZ (wq hw 151 rfl) (wq hw 150 rfl) (by decide) (by decide)) (g := (mkF m 8 #[.val (.ref a)] [(.int (1 : Int32)), (.ref b)])) rfl (by rw [hml]; rfl) (argsL := [(.ref b), (.int (1 : Int32))]) (rest := []) (lenOf pd__28_5bLjava_2flang_2fObject_3bI_29_5bLjava_2flang_2fObject_3b rfl) rfl (by show 2 * 0 + _ ≤ _; exact Nat.le_of_eq rfl) (hb hby d21_8) (fun _ _ => ⟨rfl, e2, (by decide : 0 + 1 ≤ _), (by decide : 0 + 1 ≤ _)⟩)
  dsimp only [Pt.U, Pt.locs, Pt.cells, Pt.slots] at X3 l3 y3 z3 st3 hQ3
  subst l3 y3 z3
  obtain ⟨r3, kr3, rfl, N3q, KQ3, fo0_3, fo1_3, g_r3, sl_r3⟩ := hQ3
  have N3 := Fr.app N0 N3q
  have E_b := E_b.keep KQ3
  have V_b := V_b.keep KQ3 nin0
  have E_y := E_y.keep KQ3
  have E_a := E_a.keep KQ3
  have F_size_a := F_size_a.keep KQ3 nin0
  have F_elementData_a := F_elementData_a.keep KQ3 nin0
  have Z4 : n0 ≤ T3.heap.size := Nat.le_trans Z0 KQ3.1
  have K4 := K0.trans KQ3 all0
  have ne_a_r3 : a ≠ r3 := Nat.ne_of_lt (Nat.lt_of_lt_of_le lt_a sl_r3)
  have ne_r3_a := ne_a_r3.symm
  have ne_b_r3 : b ≠ r3 := Nat.ne_of_lt (Nat.lt_of_lt_of_le lt_b sl_r3)
  have ne_r3_b := ne_b_r3.symm
  have ne_y_r3 : y ≠ r3 := Nat.ne_of_lt (Nat.lt_of_lt_of_le lt_y sl_r3)
  have ne_r3_y := ne_y_r3.symm
  have sz_r3 : h0.size ≤ r3 := Nat.le_trans K0.1 sl_r3
  have E_r3 := fo0_3
  have V_r3 := fo1_3
  refine Goes.pre (U' := T3.setTop (mkF m 11 #[.val (.ref a)] [(.ref r3)])) (fun t k => st3 t k) ?_
  refine Goes.ret X3 (v := (some (.ref r3))) (fun h => by rw [hret] at h; cases h) hlk (by decide) (by decide) rfl (fun fs hr => retOut X3 hx hret rfl (Or.inr (Or.inr (Or.inr (Or.inr ⟨rfl, rfl, rfl⟩)))) (hb hby d21_11) hr) ?_
  exact ⟨r3, kr3, rfl, N3, K4, E_r3, V_r3, g_r3, sz_r3⟩
theorem ef_rm_aic (m : MethodId) (x0 : Addr) : entryFrame m #[(.ref x0)] 1 = mkF m 0 #[.val (.ref x0)] [] := by first | (simp [entryFrame, mkF, argsToLocals, Value.category]; done) | rfl
theorem pn_java_util_ImmutableCollections_AbstractImmutableCollection : plainName "java/util/ImmutableCollections$AbstractImmutableCollection" = true := by first | (simp [plainName, overriddenIn]; done) | decide +kernel
abbrev M28 : MethodName := ⟨"java/util/ImmutableCollections$AbstractImmutableCollection", "<init>", "()V"⟩
theorem d28_0 : decode jdk_47_method_1_code 0 = .ok (.aload_n 0, 1) := by decide +kernel
theorem d28_1 : decode jdk_47_method_1_code 1 = .ok (.invokespecial 1, 3) := by decide +kernel
theorem d28_4 : decode jdk_47_method_1_code 4 = .ok (.return_, 1) := by decide +kernel
def Q_rm_aic (Z : State) (a : Addr) (h0 : Heap) (n0 : Nat) (v : Option Value) (h : Heap) (L : List Loc) : Prop := v = none ∧ Fr n0 L ∧ h = h0
set_option maxRecDepth 65536 in
set_option maxHeartbeats 40000000 in
theorem rm_aic (l : Launch) (Z : State) (a0 : Array Value) (hw : ∀ d ∈ tables_1, d.before a0 Z = true) (ws : List Jvm.Cond) (a : Addr) (h0 : Heap) (n0 : Nat) (Z0 : n0 ≤ h0.size)  :
    Met l Z M28 jdk_47_method_1_code 1 none ws (Rm 2 0 0 24) #[(.ref a)] h0 (Q_rm_aic Z a h0 n0) := by
  refine met_of (plainFor_of_name pn_java_util_ImmutableCollections_AbstractImmutableCollection) (own := "java/util/ImmutableCollections$AbstractImmutableCollection") rfl (fun m => ef_rm_aic m a) ?_
  intro p e s m below meth c s₁ hx hby hml hown hnm hZ X0 e0 hret hlk
  have N0 := Fr.nil n0
  show Goes p e below s _ _ _ (s₁.setTop (mkF m 0 #[.val (.ref a)] []))
  refine Goes.pre (U' := s₁.setTop (mkF m 1 #[.val (.ref a)] [(.ref a)])) (fun t k => XS.aloadN X0.here hx rfl (hb hby d28_0) rfl rfl k) ?_
  obtain ⟨_, _, ⟨T1, L1, k1, n1⟩, -, X1, ⟨Lc1, hQ1, l1, y1, z1⟩, st1⟩ := X0.specialBack hx (y := (⟨"java/util/AbstractCollection", "<init>", "()V"⟩ : MethodName)) rfl hown (mvT hZ (wq hw 192 rfl)) (mvT hZ (wq hw 54 rfl)) (mvT hZ (wq hw 58 rfl)) (by decide) (backOf (W := 0) (rm_abc l Z a0 hw [] a h0 n0 Z0 ) hZ (wq hw 58 rfl) (wq hw 57 rfl) (by decide) (by decide)) (g := (mkF m 1 #[.val (.ref a)] [(.ref a)])) rfl (by rw [hml]; rfl) (Steps.refl _) (a := a) (argsL := []) (rest := []) (lenOf pd__28_29V rfl) rfl (by show 2 * 0 + _ ≤ _; exact Nat.le_of_eq rfl) (hb hby d28_1) (fun _ _ => ⟨rfl, e0, (by decide : 0 + 0 ≤ _), (by decide : 0 + 0 ≤ _)⟩)
  dsimp only [Pt.U, Pt.locs, Pt.cells, Pt.slots] at X1 l1 y1 z1 st1 hQ1
  subst l1 y1 z1
  obtain ⟨rfl, N1q, HQ1⟩ := hQ1
  have N1 := Fr.app N0 N1q
  refine Goes.pre (U' := T1.setTop (mkF m 4 #[.val (.ref a)] [])) (fun t k => st1.trans k) ?_
  refine Goes.ret X1 (v := none) (fun _ => rfl) hlk (by decide) (by decide) HQ1 (fun fs hr => X1.returnOut hx hret (hb hby d28_4) hr) ?_
  exact ⟨rfl, N1, rfl⟩
theorem ef_rm_ail (m : MethodId) (x0 : Addr) : entryFrame m #[(.ref x0)] 1 = mkF m 0 #[.val (.ref x0)] [] := by first | (simp [entryFrame, mkF, argsToLocals, Value.category]; done) | rfl
theorem pn_java_util_ImmutableCollections_AbstractImmutableList : plainName "java/util/ImmutableCollections$AbstractImmutableList" = true := by first | (simp [plainName, overriddenIn]; done) | decide +kernel
abbrev M27 : MethodName := ⟨"java/util/ImmutableCollections$AbstractImmutableList", "<init>", "()V"⟩
theorem d27_0 : decode jdk_46_method_1_code 0 = .ok (.aload_n 0, 1) := by decide +kernel
theorem d27_1 : decode jdk_46_method_1_code 1 = .ok (.invokespecial 1, 3) := by decide +kernel
theorem d27_4 : decode jdk_46_method_1_code 4 = .ok (.return_, 1) := by decide +kernel
def Q_rm_ail (Z : State) (a : Addr) (h0 : Heap) (n0 : Nat) (v : Option Value) (h : Heap) (L : List Loc) : Prop := v = none ∧ Fr n0 L ∧ h = h0
set_option maxRecDepth 65536 in
set_option maxHeartbeats 40000000 in
theorem rm_ail (l : Launch) (Z : State) (a0 : Array Value) (hw : ∀ d ∈ tables_1, d.before a0 Z = true) (ws : List Jvm.Cond) (a : Addr) (h0 : Heap) (n0 : Nat) (Z0 : n0 ≤ h0.size)  :
    Met l Z M27 jdk_46_method_1_code 1 none ws (Rm 3 0 0 36) #[(.ref a)] h0 (Q_rm_ail Z a h0 n0) := by
  refine met_of (plainFor_of_name pn_java_util_ImmutableCollections_AbstractImmutableList) (own := "java/util/ImmutableCollections$AbstractImmutableList") rfl (fun m => ef_rm_ail m a) ?_
  intro p e s m below meth c s₁ hx hby hml hown hnm hZ X0 e0 hret hlk
  have N0 := Fr.nil n0
  show Goes p e below s _ _ _ (s₁.setTop (mkF m 0 #[.val (.ref a)] []))
  refine Goes.pre (U' := s₁.setTop (mkF m 1 #[.val (.ref a)] [(.ref a)])) (fun t k => XS.aloadN X0.here hx rfl (hb hby d27_0) rfl rfl k) ?_
  obtain ⟨_, _, ⟨T1, L1, k1, n1⟩, -, X1, ⟨Lc1, hQ1, l1, y1, z1⟩, st1⟩ := X0.specialBack hx (y := (⟨"java/util/ImmutableCollections$AbstractImmutableCollection", "<init>", "()V"⟩ : MethodName)) rfl hown (mvT hZ (wq hw 186 rfl)) (mvT hZ (wq hw 187 rfl)) (mvT hZ (wq hw 191 rfl)) (by decide) (backOf (W := 0) (rm_aic l Z a0 hw [] a h0 n0 Z0 ) hZ (wq hw 191 rfl) (wq hw 190 rfl) (by decide) (by decide)) (g := (mkF m 1 #[.val (.ref a)] [(.ref a)])) rfl (by rw [hml]; rfl) (Steps.refl _) (a := a) (argsL := []) (rest := []) (lenOf pd__28_29V rfl) rfl (by show 2 * 0 + _ ≤ _; exact Nat.le_of_eq rfl) (hb hby d27_1) (fun _ _ => ⟨rfl, e0, (by decide : 0 + 0 ≤ _), (by decide : 0 + 0 ≤ _)⟩)
  dsimp only [Pt.U, Pt.locs, Pt.cells, Pt.slots] at X1 l1 y1 z1 st1 hQ1
  subst l1 y1 z1
  obtain ⟨rfl, N1q, HQ1⟩ := hQ1
  have N1 := Fr.app N0 N1q
  refine Goes.pre (U' := T1.setTop (mkF m 4 #[.val (.ref a)] [])) (fun t k => st1.trans k) ?_
  refine Goes.ret X1 (v := none) (fun _ => rfl) hlk (by decide) (by decide) HQ1 (fun fs hr => X1.returnOut hx hret (hb hby d27_4) hr) ?_
  exact ⟨rfl, N1, rfl⟩
theorem ef_rm_rnn (m : MethodId) (x0 : Addr) : entryFrame m #[(.ref x0)] 1 = mkF m 0 #[.val (.ref x0)] [] := by first | (simp [entryFrame, mkF, argsToLocals, Value.category]; done) | rfl
theorem pn_java_util_Objects : plainName "java/util/Objects" = true := by first | (simp [plainName, overriddenIn]; done) | decide +kernel
abbrev M29 : MethodName := ⟨"java/util/Objects", "requireNonNull", "(Ljava/lang/Object;)Ljava/lang/Object;"⟩
theorem d29_0 : decode jdk_31_method_10_code 0 = .ok (.aload_n 0, 1) := by decide +kernel
theorem d29_1 : decode jdk_31_method_10_code 1 = .ok (.ifnonnull 11, 3) := by decide +kernel
theorem d29_12 : decode jdk_31_method_10_code 12 = .ok (.aload_n 0, 1) := by decide +kernel
theorem d29_13 : decode jdk_31_method_10_code 13 = .ok (.areturn, 1) := by decide +kernel
def Q_rm_rnn (Z : State) (y : Addr) (h0 : Heap) (n0 : Nat) (v : Option Value) (h : Heap) (L : List Loc) : Prop := v = some (.ref y) ∧ Fr n0 L ∧ h = h0
set_option maxRecDepth 65536 in
set_option maxHeartbeats 40000000 in
theorem rm_rnn (l : Launch) (Z : State) (a0 : Array Value) (hw : ∀ d ∈ tables_1, d.before a0 Z = true) (ws : List Jvm.Cond) (y : Addr) (h0 : Heap) (n0 : Nat) (Z0 : n0 ≤ h0.size)  :
    Met l Z M29 jdk_31_method_10_code 1 (some (.object "java/lang/Object")) ws (Rm 0 0 0 0) #[(.ref y)] h0 (Q_rm_rnn Z y h0 n0) := by
  refine met_of (plainFor_of_name pn_java_util_Objects) (own := "java/util/Objects") rfl (fun m => ef_rm_rnn m y) ?_
  intro p e s m below meth c s₁ hx hby hml hown hnm hZ X0 e0 hret hlk
  have N0 := Fr.nil n0
  show Goes p e below s _ _ _ (s₁.setTop (mkF m 0 #[.val (.ref y)] []))
  refine Goes.pre (U' := s₁.setTop (mkF m 13 #[.val (.ref y)] [(.ref y)])) (fun t k => XS.aloadN X0.here hx rfl (hb hby d29_0) rfl rfl (XS.ifnonnullYes X0.here hx rfl (pc0 := 1) (pc' := 12) rfl (hb hby d29_1) rfl (by decide) (by decide) (XS.aloadN X0.here hx rfl (hb hby d29_12) rfl rfl k))) ?_
  refine Goes.ret X0 (v := (some (.ref y))) (fun h => by rw [hret] at h; cases h) hlk (by decide) (by decide) e0 (fun fs hr => retOut X0 hx hret rfl (Or.inr (Or.inr (Or.inr (Or.inr ⟨rfl, rfl, rfl⟩)))) (hb hby d29_13) hr) ?_
  exact ⟨rfl, N0, rfl⟩
theorem ef_rm_l12 (m : MethodId) (x0 : Addr) (x1 : Addr) : entryFrame m #[(.ref x0), (.ref x1)] 2 = mkF m 0 #[.val (.ref x0), .val (.ref x1)] [] := by first | (simp [entryFrame, mkF, argsToLocals, Value.category]; done) | rfl
theorem pn_java_util_ImmutableCollections_List12 : plainName "java/util/ImmutableCollections$List12" = true := by first | (simp [plainName, overriddenIn]; done) | decide +kernel
abbrev M26 : MethodName := ⟨"java/util/ImmutableCollections$List12", "<init>", "(Ljava/lang/Object;)V"⟩
theorem d26_0 : decode jdk_44_method_1_code 0 = .ok (.aload_n 0, 1) := by decide +kernel
theorem d26_1 : decode jdk_44_method_1_code 1 = .ok (.invokespecial 1, 3) := by decide +kernel
theorem d26_4 : decode jdk_44_method_1_code 4 = .ok (.aload_n 0, 1) := by decide +kernel
theorem d26_5 : decode jdk_44_method_1_code 5 = .ok (.aload_n 1, 1) := by decide +kernel
theorem d26_6 : decode jdk_44_method_1_code 6 = .ok (.invokestatic 7, 3) := by decide +kernel
theorem pd__28Ljava_2flang_2fObject_3b_29Ljava_2flang_2fObject_3b : parseMethodDescriptor "(Ljava/lang/Object;)Ljava/lang/Object;" = some ⟨[(.object "java/lang/Object")], some (.object "java/lang/Object")⟩ := by decide +kernel
theorem d26_9 : decode jdk_44_method_1_code 9 = .ok (.putfield 13, 3) := by decide +kernel
theorem d26_12 : decode jdk_44_method_1_code 12 = .ok (.aload_n 0, 1) := by decide +kernel
theorem d26_13 : decode jdk_44_method_1_code 13 = .ok (.getstatic 19, 3) := by decide +kernel
theorem d26_16 : decode jdk_44_method_1_code 16 = .ok (.putfield 24, 3) := by decide +kernel
theorem d26_19 : decode jdk_44_method_1_code 19 = .ok (.return_, 1) := by decide +kernel
def Q_rm_l12 (Z : State) (a : Addr) (y : Addr) (em : Addr) (h0 : Heap) (n0 : Nat) (v : Option Value) (h : Heap) (L : List Loc) : Prop := v = none ∧ Fr n0 L ∧ Keep h0 h [a] ∧ Fld Z h a "java/util/ImmutableCollections$List12" "e0" "Ljava/lang/Object;" (.ref y) ∧ Fld Z h a "java/util/ImmutableCollections$List12" "e1" "Ljava/lang/Object;" (.ref em)
set_option maxRecDepth 65536 in
set_option maxHeartbeats 40000000 in
theorem rm_l12 (l : Launch) (Z : State) (a0 : Array Value) (hw : ∀ d ∈ tables_1, d.before a0 Z = true) (ws : List Jvm.Cond) (a : Addr) (y : Addr) (em : Addr) (h0 : Heap) (n0 : Nat) (Z0 : n0 ≤ h0.size) (E_a : Exa Z h0 a "java/util/ImmutableCollections$List12") (F_e0_a : Fld Z h0 a "java/util/ImmutableCollections$List12" "e0" "Ljava/lang/Object;" .null) (F_e1_a : Fld Z h0 a "java/util/ImmutableCollections$List12" "e1" "Ljava/lang/Object;" .null) (S_EMPTY : Sta Z Z.heap "java/util/ImmutableCollections" "EMPTY" "Ljava/lang/Object;" (.ref em)) (g_a : n0 ≤ a) (O : Old Z n0 h0) :
    Met l Z M26 jdk_44_method_1_code 2 none ws (Rm 4 0 0 48) #[(.ref a), (.ref y)] h0 (Q_rm_l12 Z a y em h0 n0) := by
  refine met_of (plainFor_of_name pn_java_util_ImmutableCollections_List12) (own := "java/util/ImmutableCollections$List12") rfl (fun m => ef_rm_l12 m a y) ?_
  intro p e s m below meth c s₁ hx hby hml hown hnm hZ X0 e0 hret hlk
  have N0 := Fr.nil n0
  have K0 := Keep.refl h0 [a]
  show Goes p e below s _ _ _ (s₁.setTop (mkF m 0 #[.val (.ref a), .val (.ref y)] []))
  refine Goes.pre (U' := s₁.setTop (mkF m 1 #[.val (.ref a), .val (.ref y)] [(.ref a)])) (fun t k => XS.aloadN X0.here hx rfl (hb hby d26_0) rfl rfl k) ?_
  obtain ⟨_, _, ⟨T1, L1, k1, n1⟩, -, X1, ⟨Lc1, hQ1, l1, y1, z1⟩, st1⟩ := X0.specialBack hx (y := (⟨"java/util/ImmutableCollections$AbstractImmutableList", "<init>", "()V"⟩ : MethodName)) rfl hown (mvT hZ (wq hw 180 rfl)) (mvT hZ (wq hw 181 rfl)) (mvT hZ (wq hw 185 rfl)) (by decide) (backOf (W := 0) (rm_ail l Z a0 hw [] a h0 n0 Z0 ) hZ (wq hw 185 rfl) (wq hw 184 rfl) (by decide) (by decide)) (g := (mkF m 1 #[.val (.ref a), .val (.ref y)] [(.ref a)])) rfl (by rw [hml]; rfl) (Steps.refl _) (a := a) (argsL := []) (rest := []) (lenOf pd__28_29V rfl) rfl (by show 2 * 0 + _ ≤ _; exact Nat.le_of_eq rfl) (hb hby d26_1) (fun _ _ => ⟨rfl, e0, (by decide : 0 + 0 ≤ _), (by decide : 0 + 0 ≤ _)⟩)
  dsimp only [Pt.U, Pt.locs, Pt.cells, Pt.slots] at X1 l1 y1 z1 st1 hQ1
  subst l1 y1 z1
  obtain ⟨rfl, N1q, HQ1⟩ := hQ1
  have N1 := Fr.app N0 N1q
  refine Goes.pre (U' := T1.setTop (mkF m 6 #[.val (.ref a), .val (.ref y)] [(.ref y), (.ref a)])) (fun t k => st1.trans (XS.aloadN X1.here hx rfl (hb hby d26_4) rfl rfl (XS.aloadN X1.here hx rfl (hb hby d26_5) rfl rfl k))) ?_
  obtain ⟨_, _, ⟨T2, L2, k2, n2⟩, -, X2, ⟨Lc2, hQ2, l2, y2, z2⟩, st2⟩ := Jvm.LawKit.callS X1 hx (y := (⟨"java/util/Objects", "requireNonNull", "(Ljava/lang/Object;)Ljava/lang/Object;"⟩ : MethodName)) hown (mvT hZ (wq hw 194 rfl)) (mvT hZ (wq hw 195 rfl)) (mvT hZ (wq hw 196 rfl)) (mvT hZ (wq hw 197 rfl)) (by decide) (backOf (W := 1) (rm_rnn l Z a0 hw [] y h0 n0 Z0 ) hZ (wq hw 197 rfl) (wq hw 196 rfl) (by decide) (by decide)) (g := (mkF m 6 #[.val (.ref a), .val (.ref y)] [(.ref y), (.ref a)])) rfl (by rw [hml]; rfl) (argsL := [(.ref y)]) (rest := [(.ref a)]) (lenOf pd__28Ljava_2flang_2fObject_3b_29Ljava_2flang_2fObject_3b rfl) rfl (by show 2 * 0 + _ ≤ _; exact Nat.le_of_eq rfl) (hb hby d26_6) (fun _ _ => ⟨rfl, HQ1, (by decide : 0 + 0 ≤ _), (by decide : 0 + 0 ≤ _)⟩)
  dsimp only [Pt.U, Pt.locs, Pt.cells, Pt.slots] at X2 l2 y2 z2 st2 hQ2
  subst l2 y2 z2
  obtain ⟨rfl, N2q, HQ2⟩ := hQ2
  have N2 := Fr.app N1 N2q
  refine Goes.pre (U' := T2.setTop (mkF m 9 #[.val (.ref a), .val (.ref y)] [(.ref y), (.ref a)])) (fun t k => st2 t k) ?_
  obtain ⟨T3, h3, X3, e3, W3, st3⟩ := putF X2 hx hZ hown (host := "") (Or.inl (wq hw 198 rfl)) Via.refl HQ2 F_e0_a E_a (Or.inr ⟨(wq hw 199 rfl), rfl, hnm⟩) (wq hw 174 rfl) (ty := (.object "java/lang/Object")) (by decide) rfl rfl (g := (mkF m 9 #[.val (.ref a), .val (.ref y)] [(.ref y), (.ref a)])) rfl rfl (hb hby d26_9)
  have E_a := E_a.wr W3
  have F_e1_a := F_e1_a.other W3 (Or.inr (slot_ne (Or.inr (wq hw 202 rfl)) (Or.inr (wq hw 199 rfl)) (by decide) (t := (.object "java/lang/Object")) (t' := (.object "java/lang/Object")) (by decide) (by decide)))
  have Z3 : n0 ≤ h3.size := Nat.le_trans Z0 (Keep.of_wr W3).1
  have O := O.wr W3 g_a
  have F_e0_a := F_e0_a.same W3
  have K3 := K0.wr W3 (Or.inl (List.mem_of_getElem? (i := 0) rfl))
  have N3 := Fr.snoc X3 N2 g_a
  refine Goes.pre (U' := T3.setTop (mkF m 13 #[.val (.ref a), .val (.ref y)] [(.ref a)])) (fun t k => st3 t (XS.aloadN X3.here hx rfl (hb hby d26_12) rfl rfl k)) ?_
  obtain ⟨T4, X4, e4, st4⟩ := getS2 X3 hx hZ hown (Or.inr (wq hw 200 rfl)) Via.refl e3 (S_EMPTY.ext O.2) (g := (mkF m 13 #[.val (.ref a), .val (.ref y)] [(.ref a)])) rfl (hb hby d26_13)
  refine Goes.pre (U' := T4.setTop (mkF m 16 #[.val (.ref a), .val (.ref y)] [(.ref em), (.ref a)])) (fun t k => st4 t k) ?_
  obtain ⟨T5, h5, X5, e5, W5, st5⟩ := putF X4 hx hZ hown (host := "") (Or.inl (wq hw 201 rfl)) Via.refl e4 F_e1_a E_a (Or.inr ⟨(wq hw 202 rfl), rfl, hnm⟩) (wq hw 174 rfl) (ty := (.object "java/lang/Object")) (by decide) rfl rfl (g := (mkF m 16 #[.val (.ref a), .val (.ref y)] [(.ref em), (.ref a)])) rfl rfl (hb hby d26_16)
  have E_a := E_a.wr W5
  have F_e0_a := F_e0_a.other W5 (Or.inr (slot_ne (Or.inr (wq hw 199 rfl)) (Or.inr (wq hw 202 rfl)) (by decide) (t := (.object "java/lang/Object")) (t' := (.object "java/lang/Object")) (by decide) (by decide)))
  have Z5 : n0 ≤ h5.size := Nat.le_trans Z3 (Keep.of_wr W5).1
  have O := O.wr W5 g_a
  have F_e1_a := F_e1_a.same W5
  have K5 := K3.wr W5 (Or.inl (List.mem_of_getElem? (i := 0) rfl))
  have N5 := Fr.snoc X5 N3 g_a
  refine Goes.pre (U' := T5.setTop (mkF m 19 #[.val (.ref a), .val (.ref y)] [])) (fun t k => st5 t k) ?_
  refine Goes.ret X5 (v := none) (fun _ => rfl) hlk (by decide) (by decide) e5 (fun fs hr => X5.returnOut hx hret (hb hby d26_19) hr) ?_
  exact ⟨rfl, N5, K5, F_e0_a, F_e1_a⟩
theorem ef_rm_ofArr (m : MethodId) (x0 : Addr) : entryFrame m #[(.ref x0)] 2 = mkF m 0 #[.val (.ref x0), .unset] [] := by first | (simp [entryFrame, mkF, argsToLocals, Value.category]; done) | rfl
theorem pn_java_util_List : plainName "java/util/List" = true := by first | (simp [plainName, overriddenIn]; done) | decide +kernel
abbrev M25 : MethodName := ⟨"java/util/List", "of", "([Ljava/lang/Object;)Ljava/util/List;"⟩
theorem d25_0 : decode jdk_40_method_47_code 0 = .ok (.aload_n 0, 1) := by decide +kernel
theorem d25_1 : decode jdk_40_method_47_code 1 = .ok (.arraylength, 1) := by decide +kernel
theorem d25_2 : decode jdk_40_method_47_code 2 = .ok (.tableswitch 57 0 2 #[26, 32, 43], 26) := by decide +kernel
theorem d25_34 : decode jdk_40_method_47_code 34 = .ok (.new 96, 3) := by decide +kernel
theorem d25_37 : decode jdk_40_method_47_code 37 = .ok (.dup, 1) := by decide +kernel
theorem d25_38 : decode jdk_40_method_47_code 38 = .ok (.aload_n 0, 1) := by decide +kernel
theorem d25_39 : decode jdk_40_method_47_code 39 = .ok (.iconst 0, 1) := by decide +kernel
theorem d25_40 : decode jdk_40_method_47_code 40 = .ok (.aaload, 1) := by decide +kernel
theorem d25_41 : decode jdk_40_method_47_code 41 = .ok (.invokespecial 98, 3) := by decide +kernel
theorem pd__28Ljava_2flang_2fObject_3b_29V : parseMethodDescriptor "(Ljava/lang/Object;)V" = some ⟨[(.object "java/lang/Object")], none⟩ := by decide +kernel
theorem d25_44 : decode jdk_40_method_47_code 44 = .ok (.areturn, 1) := by decide +kernel
def Q_rm_ofArr (Z : State) (b : Addr) (kb : ClassId) (y : Addr) (em : Addr) (h0 : Heap) (n0 : Nat) (v : Option Value) (h : Heap) (L : List Loc) : Prop := ∃ (r : Addr), v = some (.ref r) ∧ Fr n0 L ∧ Keep h0 h [] ∧ Exa Z h r "java/util/ImmutableCollections$List12" ∧ Fld Z h r "java/util/ImmutableCollections$List12" "e0" "Ljava/lang/Object;" (.ref y) ∧ Fld Z h r "java/util/ImmutableCollections$List12" "e1" "Ljava/lang/Object;" (.ref em) ∧ n0 ≤ r ∧ h0.size ≤ r
set_option maxRecDepth 65536 in
set_option maxHeartbeats 40000000 in
theorem rm_ofArr (l : Launch) (Z : State) (a0 : Array Value) (hw : ∀ d ∈ tables_1, d.before a0 Z = true) (ws : List Jvm.Cond) (b : Addr) (kb : ClassId) (y : Addr) (em : Addr) (h0 : Heap) (n0 : Nat) (Z0 : n0 ≤ h0.size) (V_b : Arv Z h0 b kb (.object "java/lang/Object") (1 : Int32) [(.ref y)] .null) (E_y : Exa Z h0 y "com/example/restate/restate/plan/Item") (S_EMPTY : Sta Z Z.heap "java/util/ImmutableCollections" "EMPTY" "Ljava/lang/Object;" (.ref em)) (O : Old Z n0 h0) :
    Met l Z M25 jdk_40_method_47_code 2 (some (.object "java/util/List")) ws (Rm 5 1 2 62) #[(.ref b)] h0 (Q_rm_ofArr Z b kb y em h0 n0) := by
  refine met_of (plainFor_of_name pn_java_util_List) (own := "java/util/List") rfl (fun m => ef_rm_ofArr m b) ?_
  intro p e s m below meth c s₁ hx hby hml hown hnm hZ X0 e0 hret hlk
  have N0 := Fr.nil n0
  have K0 := Keep.refl h0 []
  show Goes p e below s _ _ _ (s₁.setTop (mkF m 0 #[.val (.ref b), .unset] []))
  refine Goes.pre (U' := s₁.setTop (mkF m 1 #[.val (.ref b), .unset] [(.ref b)])) (fun t k => XS.aloadN X0.here hx rfl (hb hby d25_0) rfl rfl k) ?_
  obtain ⟨cl1, Ar1, q1, Sz1, Ng1, -, -⟩ := id V_b
  have ln1 := len_of Sz1 Ng1
  refine Goes.pre (U' := s₁.setTop (mkF m 34 #[.val (.ref b), .unset] [])) (fun t k => X0.arraylength hx (by rw [e0]; exact Ar1.1) (State.isArrayOf_alike hZ.alike Ar1.2.1) (g := (mkF m 1 #[.val (.ref b), .unset] [(.ref b)])) rfl rfl (hb hby d25_1) _ (by rw [ln1]; exact (XS.tswIn X0.here hx rfl (pc0 := 2) (pc' := 34) rfl (hb hby d25_2) rfl (by decide) rfl (by decide) (by decide) k))) ?_
  obtain ⟨T2, h2, X2, e2, E2, A2, D2, -, st2⟩ := newO X0 hx hZ hown (wq hw 173 rfl) (wq hw 174 rfl) (wq hw 175 rfl) e0 (g := (mkF m 34 #[.val (.ref b), .unset] [])) rfl (hb hby d25_34) (by decide) (by decide)
  obtain ⟨nb2, g2⟩ : ∃ z, z = h0.size := ⟨_, rfl⟩
  rw [← g2] at A2 D2 st2
  have ne_b_nb2 : b ≠ nb2 := Nat.ne_of_lt (Nat.lt_of_lt_of_le V_b.lt (Nat.le_of_eq g2.symm))
  have ne_nb2_b := ne_b_nb2.symm
  have ne_y_nb2 : y ≠ nb2 := Nat.ne_of_lt (Nat.lt_of_lt_of_le E_y.lt (Nat.le_of_eq g2.symm))
  have ne_nb2_y := ne_y_nb2.symm
  have g_nb2 : n0 ≤ nb2 := Nat.le_trans Z0 (Nat.le_of_eq g2.symm)
  have sz_nb2 : h0.size ≤ nb2 := Nat.le_trans K0.1 (Nat.le_of_eq g2.symm)
  have V_b := V_b.ext E2
  have E_y := E_y.ext E2
  have O := O.ext E2
  have Z2 : n0 ≤ h2.size := Nat.le_trans Z0 E2.1
  have K2 := K0.ext E2
  have E_nb2 := A2
  have F_e0_nb2 : Fld Z h2 nb2 "java/util/ImmutableCollections$List12" "e0" "Ljava/lang/Object;" .null := D2 (Or.inr (wq hw 199 rfl)) (ty := (.object "java/lang/Object")) (by decide)
  have F_e1_nb2 : Fld Z h2 nb2 "java/util/ImmutableCollections$List12" "e1" "Ljava/lang/Object;" .null := D2 (Or.inr (wq hw 202 rfl)) (ty := (.object "java/lang/Object")) (by decide)
  refine Goes.pre (U' := T2.setTop (mkF m 40 #[.val (.ref b), .unset] [(.int (0 : Int32)), (.ref b), (.ref nb2), (.ref nb2)])) (fun t k => st2 t (XS.dup X2.here hx rfl (hb hby d25_37) rfl rfl (XS.aloadN X2.here hx rfl (hb hby d25_38) rfl rfl (XS.iconst X2.here hx rfl (hb hby d25_39) k)))) ?_
  obtain ⟨cl3, Ar3, q3, Sz3, Ng3, Hs3, Ft3⟩ := id V_b
  have hin3 := inb_of (j := (0 : Int32)) Sz3 ⟨by decide, by decide⟩
  refine Goes.pre (U' := T2.setTop (mkF m 41 #[.val (.ref b), .unset] [(.ref y), (.ref nb2), (.ref nb2)])) (fun t k => X2.aaload hx (j := (0 : Int32)) (v := (.ref y)) (by rw [e2]; exact Ar3.1) (State.isArrayOf_alike hZ.alike Ar3.2.1) rfl Ar3.2.2 hin3 (Has.at Hs3 hin3 rfl) (g := (mkF m 40 #[.val (.ref b), .unset] [(.int (0 : Int32)), (.ref b), (.ref nb2), (.ref nb2)])) rfl rfl (hb hby d25_40) _ k) ?_
  obtain ⟨_, _, ⟨T4, L4, k4, n4⟩, -, X4, ⟨Lc4, hQ4, l4, y4, z4⟩, st4⟩ := X2.specialBack hx (y := (⟨"java/util/ImmutableCollections$List12", "<init>", "(Ljava/lang/Object;)V"⟩ : MethodName)) rfl hown (mvT hZ (wq hw 176 rfl)) (mvT hZ (wq hw 177 rfl)) (mvT hZ (wq hw 179 rfl)) (by decide) (backOf (W := 1) (rm_l12 l Z a0 hw [] nb2 y em h2 n0 Z2 E_nb2 F_e0_nb2 F_e1_nb2 S_EMPTY g_nb2 O) hZ (wq hw 179 rfl) (wq hw 175 rfl) (by decide) (by decide)) (g := (mkF m 41 #[.val (.ref b), .unset] [(.ref y), (.ref nb2), (.ref nb2)])) rfl (by rw [hml]; rfl) (Steps.refl _) (a := nb2) (argsL := [(.ref y)]) (rest := [(.ref nb2)]) (lenOf pd__28Ljava_2flang_2fObject_3b_29V rfl) rfl (by show 2 * 0 + _ ≤ _; exact Nat.le_of_eq rfl) (hb hby d25_41) (fun _ _ => ⟨rfl, e2, (by decide : 1 + 0 ≤ _), (by decide : 2 + 0 ≤ _)⟩)
  dsimp only [Pt.U, Pt.locs, Pt.cells, Pt.slots] at X4 l4 y4 z4 st4 hQ4
  subst l4 y4 z4
  obtain ⟨rfl, N4q, KQ4, fo0_4, fo1_4⟩ := hQ4
  have N4 := Fr.app N0 N4q
  have V_b := V_b.keep KQ4 (ninS ne_b_nb2 nin0)
  have E_y := E_y.keep KQ4
  have E_nb2 := E_nb2.keep KQ4
  have Z5 : n0 ≤ T4.heap.size := Nat.le_trans Z2 KQ4.1
  have O := O.keep KQ4 (allS (P := fun x => n0 ≤ x) g_nb2 all0)
  have K5 := K2.trans KQ4 (allS (P := fun x => x ∈ [] ∨ h0.size ≤ x) (Or.inr sz_nb2) all0)
  have F_e0_nb2 := fo0_4
  have F_e1_nb2 := fo1_4
  refine Goes.pre (U' := T4.setTop (mkF m 44 #[.val (.ref b), .unset] [(.ref nb2)])) (fun t k => st4.trans k) ?_
  refine Goes.ret X4 (v := (some (.ref nb2))) (fun h => by rw [hret] at h; cases h) hlk (by decide) (by decide) rfl (fun fs hr => retOut X4 hx hret rfl (Or.inr (Or.inr (Or.inr (Or.inr ⟨rfl, rfl, rfl⟩)))) (hb hby d25_44) hr) ?_
  exact ⟨nb2, rfl, N4, K5, E_nb2, F_e0_nb2, F_e1_nb2, g_nb2, sz_nb2⟩
theorem ef_rm_of0 (m : MethodId)  : entryFrame m #[] 0 = mkF m 0 #[] [] := by first | (simp [entryFrame, mkF, argsToLocals, Value.category]; done) | rfl
abbrev M15 : MethodName := ⟨"java/util/List", "of", "()Ljava/util/List;"⟩
theorem d15_0 : decode jdk_40_method_36_code 0 = .ok (.getstatic 90, 3) := by decide +kernel
theorem d15_3 : decode jdk_40_method_36_code 3 = .ok (.areturn, 1) := by decide +kernel
def Q_rm_of0 (Z : State) (el : Addr) (h0 : Heap) (n0 : Nat) (v : Option Value) (h : Heap) (L : List Loc) : Prop := v = some (.ref el) ∧ Fr n0 L ∧ h = h0
set_option maxRecDepth 65536 in
set_option maxHeartbeats 40000000 in
theorem rm_of0 (l : Launch) (Z : State) (a0 : Array Value) (hw : ∀ d ∈ tables_1, d.before a0 Z = true) (ws : List Jvm.Cond) (el : Addr) (h0 : Heap) (n0 : Nat) (Z0 : n0 ≤ h0.size) (S_EMPTY_LIST : Sta Z Z.heap "java/util/ImmutableCollections" "EMPTY_LIST" "Ljava/util/ImmutableCollections$ListN;" (.ref el)) (O : Old Z n0 h0) :
    Met l Z M15 jdk_40_method_36_code 0 (some (.object "java/util/List")) ws (Rm 0 0 0 0) #[] h0 (Q_rm_of0 Z el h0 n0) := by
  refine met_of (plainFor_of_name pn_java_util_List) (own := "java/util/List") rfl (fun m => ef_rm_of0 m ) ?_
  intro p e s m below meth c s₁ hx hby hml hown hnm hZ X0 e0 hret hlk
  have N0 := Fr.nil n0
  show Goes p e below s _ _ _ (s₁.setTop (mkF m 0 #[] []))
  obtain ⟨T1, X1, e1, st1⟩ := getS2 X0 hx hZ hown (host := "") (Or.inl (wq hw 100 rfl)) Via.refl e0 (S_EMPTY_LIST.ext O.2) (g := (mkF m 0 #[] [])) rfl (hb hby d15_0)
  refine Goes.pre (U' := T1.setTop (mkF m 3 #[] [(.ref el)])) (fun t k => st1 t k) ?_
  refine Goes.ret X1 (v := (some (.ref el))) (fun h => by rw [hret] at h; cases h) hlk (by decide) (by decide) e1 (fun fs hr => retOut X1 hx hret rfl (Or.inr (Or.inr (Or.inr (Or.inr ⟨rfl, rfl, rfl⟩)))) (hb hby d15_3) hr) ?_
  exact ⟨rfl, N0, rfl⟩
theorem ef_rm_isE0 (m : MethodId) (x0 : Addr) : entryFrame m #[(.ref x0)] 1 = mkF m 0 #[.val (.ref x0)] [] := by first | (simp [entryFrame, mkF, argsToLocals, Value.category]; done) | rfl
abbrev M14 : MethodName := ⟨"java/util/ArrayList", "isEmpty", "()Z"⟩
theorem d14_0 : decode jdk_38_method_9_code 0 = .ok (.aload_n 0, 1) := by decide +kernel
theorem d14_1 : decode jdk_38_method_9_code 1 = .ok (.getfield 48, 3) := by decide +kernel
theorem d14_4 : decode jdk_38_method_9_code 4 = .ok (.ifCond .ne 7, 3) := by decide +kernel
theorem d14_7 : decode jdk_38_method_9_code 7 = .ok (.iconst 1, 1) := by decide +kernel
theorem d14_8 : decode jdk_38_method_9_code 8 = .ok (.goto 4, 3) := by decide +kernel
theorem d14_12 : decode jdk_38_method_9_code 12 = .ok (.ireturn, 1) := by decide +kernel
def Q_rm_isE0 (Z : State) (a : Addr) (h0 : Heap) (n0 : Nat) (v : Option Value) (h : Heap) (L : List Loc) : Prop := v = some (.int (1 : Int32)) ∧ Fr n0 L ∧ h = h0
set_option maxRecDepth 65536 in
set_option maxHeartbeats 40000000 in
theorem rm_isE0 (l : Launch) (Z : State) (a0 : Array Value) (hw : ∀ d ∈ tables_1, d.before a0 Z = true) (ws : List Jvm.Cond) (a : Addr) (h0 : Heap) (n0 : Nat) (Z0 : n0 ≤ h0.size) (F_size_a : Fld Z h0 a "java/util/ArrayList" "size" "I" (.int (0 : Int32))) :
    Met l Z M14 jdk_38_method_9_code 1 (some .boolean) ws (Rm 0 0 0 0) #[(.ref a)] h0 (Q_rm_isE0 Z a h0 n0) := by
  refine met_of (plainFor_of_name pn_java_util_ArrayList) (own := "java/util/ArrayList") rfl (fun m => ef_rm_isE0 m a) ?_
  intro p e s m below meth c s₁ hx hby hml hown hnm hZ X0 e0 hret hlk
  have N0 := Fr.nil n0
  show Goes p e below s _ _ _ (s₁.setTop (mkF m 0 #[.val (.ref a)] []))
  refine Goes.pre (U' := s₁.setTop (mkF m 1 #[.val (.ref a)] [(.ref a)])) (fun t k => XS.aloadN X0.here hx rfl (hb hby d14_0) rfl rfl k) ?_
  obtain ⟨T1, X1, e1, st1⟩ := getF X0 hx hZ hown (host := "") (Or.inl (wq hw 95 rfl)) Via.refl e0 F_size_a (g := (mkF m 1 #[.val (.ref a)] [(.ref a)])) rfl rfl (hb hby d14_1)
  refine Goes.pre (U' := T1.setTop (mkF m 4 #[.val (.ref a)] [(.int (0 : Int32))])) (fun t k => st1 t k) ?_
  have hc4 : (0 : Int32) = (0 : Int32) := rfl
  refine Goes.pre (U' := T1.setTop (mkF m 12 #[.val (.ref a)] [(.int (1 : Int32))])) (fun t k => XS.ifNo X1.here hx rfl (hb hby d14_4) rfl ((if0 _ _).trans (teq hc4).2) (XS.iconst X1.here hx rfl (hb hby d14_7) (XS.goto X1.here hx rfl (pc0 := 8) (pc' := 12) rfl (hb hby d14_8) (by decide) (by decide) k))) ?_
  refine Goes.ret X1 (v := (some (.int (1 : Int32)))) (fun h => by rw [hret] at h; cases h) hlk (by decide) (by decide) e1 (fun fs hr => retN X1 hx (t := .boolean) hret (by simp) (hb hby d14_12) hr) ?_
  exact ⟨rfl, N0, rfl⟩
theorem ef_rm_isE1 (m : MethodId) (x0 : Addr) : entryFrame m #[(.ref x0)] 1 = mkF m 0 #[.val (.ref x0)] [] := by first | (simp [entryFrame, mkF, argsToLocals, Value.category]; done) | rfl
theorem d14_11 : decode jdk_38_method_9_code 11 = .ok (.iconst 0, 1) := by decide +kernel
def Q_rm_isE1 (Z : State) (a : Addr) (h0 : Heap) (n0 : Nat) (v : Option Value) (h : Heap) (L : List Loc) : Prop := v = some (.int (0 : Int32)) ∧ Fr n0 L ∧ h = h0
set_option maxRecDepth 65536 in
set_option maxHeartbeats 40000000 in
theorem rm_isE1 (l : Launch) (Z : State) (a0 : Array Value) (hw : ∀ d ∈ tables_1, d.before a0 Z = true) (ws : List Jvm.Cond) (a : Addr) (h0 : Heap) (n0 : Nat) (Z0 : n0 ≤ h0.size) (F_size_a : Fld Z h0 a "java/util/ArrayList" "size" "I" (.int (1 : Int32))) :
    Met l Z M14 jdk_38_method_9_code 1 (some .boolean) ws (Rm 0 0 0 0) #[(.ref a)] h0 (Q_rm_isE1 Z a h0 n0) := by
  refine met_of (plainFor_of_name pn_java_util_ArrayList) (own := "java/util/ArrayList") rfl (fun m => ef_rm_isE1 m a) ?_
  intro p e s m below meth c s₁ hx hby hml hown hnm hZ X0 e0 hret hlk
  have N0 := Fr.nil n0
  show Goes p e below s _ _ _ (s₁.setTop (mkF m 0 #[.val (.ref a)] []))
  refine Goes.pre (U' := s₁.setTop (mkF m 1 #[.val (.ref a)] [(.ref a)])) (fun t k => XS.aloadN X0.here hx rfl (hb hby d14_0) rfl rfl k) ?_
  obtain ⟨T1, X1, e1, st1⟩ := getF X0 hx hZ hown (host := "") (Or.inl (wq hw 95 rfl)) Via.refl e0 F_size_a (g := (mkF m 1 #[.val (.ref a)] [(.ref a)])) rfl rfl (hb hby d14_1)
  refine Goes.pre (U' := T1.setTop (mkF m 4 #[.val (.ref a)] [(.int (1 : Int32))])) (fun t k => st1 t k) ?_
  have hc4 : ¬ ((1 : Int32) = (0 : Int32)) := by decide
  refine Goes.pre (U' := T1.setTop (mkF m 12 #[.val (.ref a)] [(.int (0 : Int32))])) (fun t k => XS.ifYes X1.here hx rfl (pc0 := 4) (pc' := 11) rfl (hb hby d14_4) rfl ((if0 _ _).trans (feq hc4).2) (by decide) (by decide) (XS.iconst X1.here hx rfl (hb hby d14_11) k)) ?_
  refine Goes.ret X1 (v := (some (.int (0 : Int32)))) (fun h => by rw [hret] at h; cases h) hlk (by decide) (by decide) e1 (fun fs hr => retN X1 hx (t := .boolean) hret (by simp) (hb hby d14_12) hr) ?_
  exact ⟨rfl, N0, rfl⟩
theorem ef_rm_lc0 (m : MethodId) (x0 : Addr) : entryFrame m #[(.ref x0)] 2 = mkF m 0 #[.val (.ref x0), .unset] [] := by first | (simp [entryFrame, mkF, argsToLocals, Value.category]; done) | rfl
theorem pn_java_util_ImmutableCollections : plainName "java/util/ImmutableCollections" = true := by first | (simp [plainName, overriddenIn]; done) | decide +kernel
abbrev M13 : MethodName := ⟨"java/util/ImmutableCollections", "listCopy", "(Ljava/util/Collection;)Ljava/util/List;"⟩
theorem d13_0 : decode jdk_56_method_3_code 0 = .ok (.aload_n 0, 1) := by decide +kernel
theorem d13_1 : decode jdk_56_method_3_code 1 = .ok (.instanceof 10, 3) := by decide +kernel
theorem d13_4 : decode jdk_56_method_3_code 4 = .ok (.ifCond .ne 22, 3) := by decide +kernel
theorem d13_7 : decode jdk_56_method_3_code 7 = .ok (.aload_n 0, 1) := by decide +kernel
theorem d13_8 : decode jdk_56_method_3_code 8 = .ok (.instanceof 12, 3) := by decide +kernel
theorem d13_11 : decode jdk_56_method_3_code 11 = .ok (.ifCond .eq 20, 3) := by decide +kernel
theorem d13_31 : decode jdk_56_method_3_code 31 = .ok (.aload_n 0, 1) := by decide +kernel
theorem d13_32 : decode jdk_56_method_3_code 32 = .ok (.invokeinterface 20 1, 5) := by decide +kernel
theorem pd__28_29Z : parseMethodDescriptor "()Z" = some ⟨[], some .boolean⟩ := by decide +kernel
theorem d13_37 : decode jdk_56_method_3_code 37 = .ok (.ifCond .eq 7, 3) := by decide +kernel
theorem d13_40 : decode jdk_56_method_3_code 40 = .ok (.invokestatic 26, 3) := by decide +kernel
theorem pd__28_29Ljava_2futil_2fList_3b : parseMethodDescriptor "()Ljava/util/List;" = some ⟨[], some (.object "java/util/List")⟩ := by decide +kernel
theorem d13_43 : decode jdk_56_method_3_code 43 = .ok (.areturn, 1) := by decide +kernel
def Q_rm_lc0 (Z : State) (a : Addr) (el : Addr) (h0 : Heap) (n0 : Nat) (v : Option Value) (h : Heap) (L : List Loc) : Prop := v = some (.ref el) ∧ Fr n0 L ∧ h = h0
set_option maxRecDepth 65536 in
set_option maxHeartbeats 40000000 in
theorem rm_lc0 (l : Launch) (Z : State) (a0 : Array Value) (hw : ∀ d ∈ tables_1, d.before a0 Z = true) (ws : List Jvm.Cond) (a : Addr) (el : Addr) (h0 : Heap) (n0 : Nat) (Z0 : n0 ≤ h0.size) (E_a : Exa Z h0 a "java/util/ArrayList") (F_size_a : Fld Z h0 a "java/util/ArrayList" "size" "I" (.int (0 : Int32))) (S_EMPTY_LIST : Sta Z Z.heap "java/util/ImmutableCollections" "EMPTY_LIST" "Ljava/util/ImmutableCollections$ListN;" (.ref el)) (O : Old Z n0 h0) :
    Met l Z M13 jdk_56_method_3_code 2 (some (.object "java/util/List")) ws (Rm 1 0 0 12) #[(.ref a)] h0 (Q_rm_lc0 Z a el h0 n0) := by
  refine met_of (plainFor_of_name pn_java_util_ImmutableCollections) (own := "java/util/ImmutableCollections") rfl (fun m => ef_rm_lc0 m a) ?_
  intro p e s m below meth c s₁ hx hby hml hown hnm hZ X0 e0 hret hlk
  have N0 := Fr.nil n0
  show Goes p e below s _ _ _ (s₁.setTop (mkF m 0 #[.val (.ref a), .unset] []))
  refine Goes.pre (U' := s₁.setTop (mkF m 1 #[.val (.ref a), .unset] [(.ref a)])) (fun t k => XS.aloadN X0.here hx rfl (hb hby d13_0) rfl rfl k) ?_
  obtain ⟨T1, X1, e1, st1⟩ := instNo X0 hx hZ hown (wq hw 80 rfl) e0 E_a (own_notInst (wq hw 81 rfl) (wq hw 82 rfl) (wq hw 83 rfl) (wq hw 84 rfl) (wq hw 228 rfl) rfl (by decide) (by decide) (by decide) (by decide)) (g := (mkF m 1 #[.val (.ref a), .unset] [(.ref a)])) rfl rfl (hb hby d13_1)
  refine Goes.pre (U' := T1.setTop (mkF m 4 #[.val (.ref a), .unset] [(.int (0 : Int32))])) (fun t k => st1 t k) ?_
  have hc4 : (0 : Int32) = (0 : Int32) := rfl
  refine Goes.pre (U' := T1.setTop (mkF m 8 #[.val (.ref a), .unset] [(.ref a)])) (fun t k => XS.ifNo X1.here hx rfl (hb hby d13_4) rfl ((if0 _ _).trans (teq hc4).2) (XS.aloadN X1.here hx rfl (hb hby d13_7) rfl rfl k)) ?_
  obtain ⟨T2, X2, e2, st2⟩ := instNo X1 hx hZ hown (wq hw 85 rfl) e1 E_a (own_notInst (wq hw 81 rfl) (wq hw 82 rfl) (wq hw 83 rfl) (wq hw 84 rfl) (wq hw 276 rfl) rfl (by decide) (by decide) (by decide) (by decide)) (g := (mkF m 8 #[.val (.ref a), .unset] [(.ref a)])) rfl rfl (hb hby d13_8)
  refine Goes.pre (U' := T2.setTop (mkF m 11 #[.val (.ref a), .unset] [(.int (0 : Int32))])) (fun t k => st2 t k) ?_
  have hc11 : (0 : Int32) = (0 : Int32) := rfl
  refine Goes.pre (U' := T2.setTop (mkF m 32 #[.val (.ref a), .unset] [(.ref a)])) (fun t k => XS.ifYes X2.here hx rfl (pc0 := 11) (pc' := 31) rfl (hb hby d13_11) rfl ((if0 _ _).trans (teq hc11).1) (by decide) (by decide) (XS.aloadN X2.here hx rfl (hb hby d13_31) rfl rfl k)) ?_
  obtain ⟨cq3, kq3, q3a, q3b, q3c⟩ := isOf hZ e2 E_a
  obtain ⟨_, _, ⟨T3, L3, k3, n3⟩, -, X3, ⟨Lc3, hQ3, l3, y3, z3⟩, st3⟩ := X2.interfaceBack hx (xi := (⟨"java/util/Collection", "isEmpty", "()Z"⟩ : MethodName)) (y := (⟨"java/util/ArrayList", "isEmpty", "()Z"⟩ : MethodName)) hown (mvT hZ (wq hw 86 rfl)) (mvT hZ (wq hw 87 rfl)) (mvT hZ (wq hw 88 rfl)) (mvT hZ (wq hw 89 rfl)) (mvT hZ (wq hw 90 rfl)) (mvT hZ (wq hw 91 rfl)) (mvT hZ (wq hw 92 rfl)) (mvT hZ (wq hw 93 rfl)) (by decide) (backOf (W := 0) (rm_isE0 l Z a0 hw [] a h0 n0 Z0 F_size_a) hZ (wq hw 94 rfl) (wq hw 43 rfl) (by decide) (by decide)) q3a q3b q3c (g := (mkF m 32 #[.val (.ref a), .unset] [(.ref a)])) rfl (by rw [hml]; rfl) (Steps.refl _) (argsL := []) (rest := []) (lenOf pd__28_29Z rfl) rfl (by show 2 * 0 + _ ≤ _; exact Nat.le_of_eq rfl) (hb hby d13_32) (fun _ _ => ⟨rfl, e2, (by decide : 0 + 0 ≤ _), (by decide : 0 + 0 ≤ _)⟩)
  dsimp only [Pt.U, Pt.locs, Pt.cells, Pt.slots] at X3 l3 y3 z3 st3 hQ3
  subst l3 y3 z3
  obtain ⟨rfl, N3q, HQ3⟩ := hQ3
  have N3 := Fr.app N0 N3q
  refine Goes.pre (U' := T3.setTop (mkF m 37 #[.val (.ref a), .unset] [(.int (1 : Int32))])) (fun t k => st3.trans k) ?_
  have hc37 : ¬ ((1 : Int32) = (0 : Int32)) := by decide
  refine Goes.pre (U' := T3.setTop (mkF m 40 #[.val (.ref a), .unset] [])) (fun t k => XS.ifNo X3.here hx rfl (hb hby d13_37) rfl ((if0 _ _).trans (feq hc37).1) k) ?_
  obtain ⟨_, _, ⟨T4, L4, k4, n4⟩, -, X4, ⟨Lc4, hQ4, l4, y4, z4⟩, st4⟩ := Jvm.LawKit.callS X3 hx (y := (⟨"java/util/List", "of", "()Ljava/util/List;"⟩ : MethodName)) hown (mvT hZ (wq hw 97 rfl)) (mvT hZ (wq hw 98 rfl)) (mvT hZ (wq hw 74 rfl)) (mvT hZ (wq hw 99 rfl)) (by decide) (backOf (W := 0) (rm_of0 l Z a0 hw [] el h0 n0 Z0 S_EMPTY_LIST O) hZ (wq hw 99 rfl) (wq hw 74 rfl) (by decide) (by decide)) (g := (mkF m 40 #[.val (.ref a), .unset] [])) rfl (by rw [hml]; rfl) (argsL := []) (rest := []) (lenOf pd__28_29Ljava_2futil_2fList_3b rfl) rfl (by show 2 * 0 + _ ≤ _; exact Nat.le_of_eq rfl) (hb hby d13_40) (fun _ _ => ⟨rfl, HQ3, (by decide : 0 + 0 ≤ _), (by decide : 0 + 0 ≤ _)⟩)
  dsimp only [Pt.U, Pt.locs, Pt.cells, Pt.slots] at X4 l4 y4 z4 st4 hQ4
  subst l4 y4 z4
  obtain ⟨rfl, N4q, HQ4⟩ := hQ4
  have N4 := Fr.app N3 N4q
  refine Goes.pre (U' := T4.setTop (mkF m 43 #[.val (.ref a), .unset] [(.ref el)])) (fun t k => st4 t k) ?_
  refine Goes.ret X4 (v := (some (.ref el))) (fun h => by rw [hret] at h; cases h) hlk (by decide) (by decide) HQ4 (fun fs hr => retOut X4 hx hret rfl (Or.inr (Or.inr (Or.inr (Or.inr ⟨rfl, rfl, rfl⟩)))) (hb hby d13_43) hr) ?_
  exact ⟨rfl, N4, rfl⟩
theorem ef_rm_co0 (m : MethodId) (x0 : Addr) : entryFrame m #[(.ref x0)] 1 = mkF m 0 #[.val (.ref x0)] [] := by first | (simp [entryFrame, mkF, argsToLocals, Value.category]; done) | rfl
abbrev M12 : MethodName := ⟨"java/util/List", "copyOf", "(Ljava/util/Collection;)Ljava/util/List;"⟩
theorem d12_0 : decode jdk_40_method_48_code 0 = .ok (.aload_n 0, 1) := by decide +kernel
theorem d12_1 : decode jdk_40_method_48_code 1 = .ok (.invokestatic 112, 3) := by decide +kernel
theorem pd__28Ljava_2futil_2fCollection_3b_29Ljava_2futil_2fList_3b : parseMethodDescriptor "(Ljava/util/Collection;)Ljava/util/List;" = some ⟨[(.object "java/util/Collection")], some (.object "java/util/List")⟩ := by decide +kernel
theorem d12_4 : decode jdk_40_method_48_code 4 = .ok (.areturn, 1) := by decide +kernel
def Q_rm_co0 (Z : State) (a : Addr) (el : Addr) (h0 : Heap) (n0 : Nat) (v : Option Value) (h : Heap) (L : List Loc) : Prop := v = some (.ref el) ∧ Fr n0 L ∧ h = h0
set_option maxRecDepth 65536 in
set_option maxHeartbeats 40000000 in
theorem rm_co0 (l : Launch) (Z : State) (a0 : Array Value) (hw : ∀ d ∈ tables_1, d.before a0 Z = true) (ws : List Jvm.Cond) (a : Addr) (el : Addr) (h0 : Heap) (n0 : Nat) (Z0 : n0 ≤ h0.size) (E_a : Exa Z h0 a "java/util/ArrayList") (F_size_a : Fld Z h0 a "java/util/ArrayList" "size" "I" (.int (0 : Int32))) (S_EMPTY_LIST : Sta Z Z.heap "java/util/ImmutableCollections" "EMPTY_LIST" "Ljava/util/ImmutableCollections$ListN;" (.ref el)) (O : Old Z n0 h0) :
    Met l Z M12 jdk_40_method_48_code 1 (some (.object "java/util/List")) ws (Rm 2 0 0 25) #[(.ref a)] h0 (Q_rm_co0 Z a el h0 n0) := by
  refine met_of (plainFor_of_name pn_java_util_List) (own := "java/util/List") rfl (fun m => ef_rm_co0 m a) ?_
  intro p e s m below meth c s₁ hx hby hml hown hnm hZ X0 e0 hret hlk
  have N0 := Fr.nil n0
  show Goes p e below s _ _ _ (s₁.setTop (mkF m 0 #[.val (.ref a)] []))
  refine Goes.pre (U' := s₁.setTop (mkF m 1 #[.val (.ref a)] [(.ref a)])) (fun t k => XS.aloadN X0.here hx rfl (hb hby d12_0) rfl rfl k) ?_
  obtain ⟨_, _, ⟨T1, L1, k1, n1⟩, -, X1, ⟨Lc1, hQ1, l1, y1, z1⟩, st1⟩ := Jvm.LawKit.callS X0 hx (y := (⟨"java/util/ImmutableCollections", "listCopy", "(Ljava/util/Collection;)Ljava/util/List;"⟩ : MethodName)) hown (mvT hZ (wq hw 76 rfl)) (mvT hZ (wq hw 77 rfl)) (mvT hZ (wq hw 78 rfl)) (mvT hZ (wq hw 79 rfl)) (by decide) (backOf (W := 0) (rm_lc0 l Z a0 hw [] a el h0 n0 Z0 E_a F_size_a S_EMPTY_LIST O) hZ (wq hw 79 rfl) (wq hw 78 rfl) (by decide) (by decide)) (g := (mkF m 1 #[.val (.ref a)] [(.ref a)])) rfl (by rw [hml]; rfl) (argsL := [(.ref a)]) (rest := []) (lenOf pd__28Ljava_2futil_2fCollection_3b_29Ljava_2futil_2fList_3b rfl) rfl (by show 2 * 0 + _ ≤ _; exact Nat.le_of_eq rfl) (hb hby d12_1) (fun _ _ => ⟨rfl, e0, (by decide : 0 + 0 ≤ _), (by decide : 0 + 0 ≤ _)⟩)
  dsimp only [Pt.U, Pt.locs, Pt.cells, Pt.slots] at X1 l1 y1 z1 st1 hQ1
  subst l1 y1 z1
  obtain ⟨rfl, N1q, HQ1⟩ := hQ1
  have N1 := Fr.app N0 N1q
  refine Goes.pre (U' := T1.setTop (mkF m 4 #[.val (.ref a)] [(.ref el)])) (fun t k => st1 t k) ?_
  refine Goes.ret X1 (v := (some (.ref el))) (fun h => by rw [hret] at h; cases h) hlk (by decide) (by decide) HQ1 (fun fs hr => retOut X1 hx hret rfl (Or.inr (Or.inr (Or.inr (Or.inr ⟨rfl, rfl, rfl⟩)))) (hb hby d12_4) hr) ?_
  exact ⟨rfl, N1, rfl⟩
theorem ef_rm_lc1 (m : MethodId) (x0 : Addr) : entryFrame m #[(.ref x0)] 2 = mkF m 0 #[.val (.ref x0), .unset] [] := by first | (simp [entryFrame, mkF, argsToLocals, Value.category]; done) | rfl
theorem d13_44 : decode jdk_56_method_3_code 44 = .ok (.aload_n 0, 1) := by decide +kernel
theorem d13_45 : decode jdk_56_method_3_code 45 = .ok (.invokeinterface 30 1, 5) := by decide +kernel
theorem d13_50 : decode jdk_56_method_3_code 50 = .ok (.invokestatic 34, 3) := by decide +kernel
theorem pd__28_5bLjava_2flang_2fObject_3b_29Ljava_2futil_2fList_3b : parseMethodDescriptor "([Ljava/lang/Object;)Ljava/util/List;" = some ⟨[(.array (.object "java/lang/Object"))], some (.object "java/util/List")⟩ := by decide +kernel
theorem d13_53 : decode jdk_56_method_3_code 53 = .ok (.areturn, 1) := by decide +kernel
def Q_rm_lc1 (Z : State) (a : Addr) (b : Addr) (kb : ClassId) (y : Addr) (mr : Addr) (em : Addr) (h0 : Heap) (n0 : Nat) (v : Option Value) (h : Heap) (L : List Loc) : Prop := ∃ (r : Addr), v = some (.ref r) ∧ Fr n0 L ∧ Keep h0 h [] ∧ Exa Z h r "java/util/ImmutableCollections$List12" ∧ Fld Z h r "java/util/ImmutableCollections$List12" "e0" "Ljava/lang/Object;" (.ref y) ∧ Fld Z h r "java/util/ImmutableCollections$List12" "e1" "Ljava/lang/Object;" (.ref em) ∧ n0 ≤ r ∧ h0.size ≤ r
set_option maxRecDepth 65536 in
set_option maxHeartbeats 40000000 in
theorem rm_lc1 (l : Launch) (Z : State) (a0 : Array Value) (hw : ∀ d ∈ tables_1, d.before a0 Z = true) (ws : List Jvm.Cond) (a : Addr) (b : Addr) (kb : ClassId) (y : Addr) (mr : Addr) (em : Addr) (h0 : Heap) (n0 : Nat) (Z0 : n0 ≤ h0.size) (E_b : Exa Z h0 b "[Ljava/lang/Object;") (V_b : Arv Z h0 b kb (.object "java/lang/Object") (10 : Int32) [(.ref y), .null, .null, .null, .null, .null, .null, .null, .null, .null] .null) (E_y : Exa Z h0 y "com/example/restate/restate/plan/Item") (M__Ljava_lang_Object_ : OwnMir Z "[Ljava/lang/Object;" mr) (E_a : Exa Z h0 a "java/util/ArrayList") (F_size_a : Fld Z h0 a "java/util/ArrayList" "size" "I" (.int (1 : Int32))) (F_elementData_a : Fld Z h0 a "java/util/ArrayList" "elementData" "[Ljava/lang/Object;" (.ref b)) (S_EMPTY : Sta Z Z.heap "java/util/ImmutableCollections" "EMPTY" "Ljava/lang/Object;" (.ref em)) (O : Old Z n0 h0) :
    Met l Z M13 jdk_56_method_3_code 2 (some (.object "java/util/List")) ws (Rm 6 2 3 75) #[(.ref a)] h0 (Q_rm_lc1 Z a b kb y mr em h0 n0) := by
  refine met_of (plainFor_of_name pn_java_util_ImmutableCollections) (own := "java/util/ImmutableCollections") rfl (fun m => ef_rm_lc1 m a) ?_
  intro p e s m below meth c s₁ hx hby hml hown hnm hZ X0 e0 hret hlk
  have N0 := Fr.nil n0
  have K0 := Keep.refl h0 []
  show Goes p e below s _ _ _ (s₁.setTop (mkF m 0 #[.val (.ref a), .unset] []))
  refine Goes.pre (U' := s₁.setTop (mkF m 1 #[.val (.ref a), .unset] [(.ref a)])) (fun t k => XS.aloadN X0.here hx rfl (hb hby d13_0) rfl rfl k) ?_
  obtain ⟨T1, X1, e1, st1⟩ := instNo X0 hx hZ hown (wq hw 80 rfl) e0 E_a (own_notInst (wq hw 81 rfl) (wq hw 82 rfl) (wq hw 83 rfl) (wq hw 84 rfl) (wq hw 228 rfl) rfl (by decide) (by decide) (by decide) (by decide)) (g := (mkF m 1 #[.val (.ref a), .unset] [(.ref a)])) rfl rfl (hb hby d13_1)
  refine Goes.pre (U' := T1.setTop (mkF m 4 #[.val (.ref a), .unset] [(.int (0 : Int32))])) (fun t k => st1 t k) ?_
  have hc4 : (0 : Int32) = (0 : Int32) := rfl
  refine Goes.pre (U' := T1.setTop (mkF m 8 #[.val (.ref a), .unset] [(.ref a)])) (fun t k => XS.ifNo X1.here hx rfl (hb hby d13_4) rfl ((if0 _ _).trans (teq hc4).2) (XS.aloadN X1.here hx rfl (hb hby d13_7) rfl rfl k)) ?_
  obtain ⟨T2, X2, e2, st2⟩ := instNo X1 hx hZ hown (wq hw 85 rfl) e1 E_a (own_notInst (wq hw 81 rfl) (wq hw 82 rfl) (wq hw 83 rfl) (wq hw 84 rfl) (wq hw 276 rfl) rfl (by decide) (by decide) (by decide) (by decide)) (g := (mkF m 8 #[.val (.ref a), .unset] [(.ref a)])) rfl rfl (hb hby d13_8)
  refine Goes.pre (U' := T2.setTop (mkF m 11 #[.val (.ref a), .unset] [(.int (0 : Int32))])) (fun t k => st2 t k) ?_
  have hc11 : (0 : Int32) = (0 : Int32) := rfl
  refine Goes.pre (U' := T2.setTop (mkF m 32 #[.val (.ref a), .unset] [(.ref a)])) (fun t k => XS.ifYes X2.here hx rfl (pc0 := 11) (pc' := 31) rfl (hb hby d13_11) rfl ((if0 _ _).trans (teq hc11).1) (by decide) (by decide) (XS.aloadN X2.here hx rfl (hb hby d13_31) rfl rfl k)) ?_
  obtain ⟨cq3, kq3, q3a, q3b, q3c⟩ := isOf hZ e2 E_a
  obtain ⟨_, _, ⟨T3, L3, k3, n3⟩, -, X3, ⟨Lc3, hQ3, l3, y3, z3⟩, st3⟩ := X2.interfaceBack hx (xi := (⟨"java/util/Collection", "isEmpty", "()Z"⟩ : MethodName)) (y := (⟨"java/util/ArrayList", "isEmpty", "()Z"⟩ : MethodName)) hown (mvT hZ (wq hw 86 rfl)) (mvT hZ (wq hw 87 rfl)) (mvT hZ (wq hw 88 rfl)) (mvT hZ (wq hw 89 rfl)) (mvT hZ (wq hw 90 rfl)) (mvT hZ (wq hw 91 rfl)) (mvT hZ (wq hw 92 rfl)) (mvT hZ (wq hw 93 rfl)) (by decide) (backOf (W := 0) (rm_isE1 l Z a0 hw [] a h0 n0 Z0 F_size_a) hZ (wq hw 94 rfl) (wq hw 43 rfl) (by decide) (by decide)) q3a q3b q3c (g := (mkF m 32 #[.val (.ref a), .unset] [(.ref a)])) rfl (by rw [hml]; rfl) (Steps.refl _) (argsL := []) (rest := []) (lenOf pd__28_29Z rfl) rfl (by show 2 * 0 + _ ≤ _; exact Nat.le_of_eq rfl) (hb hby d13_32) (fun _ _ => ⟨rfl, e2, (by decide : 0 + 0 ≤ _), (by decide : 0 + 0 ≤ _)⟩)
  dsimp only [Pt.U, Pt.locs, Pt.cells, Pt.slots] at X3 l3 y3 z3 st3 hQ3
  subst l3 y3 z3
  obtain ⟨rfl, N3q, HQ3⟩ := hQ3
  have N3 := Fr.app N0 N3q
  refine Goes.pre (U' := T3.setTop (mkF m 37 #[.val (.ref a), .unset] [(.int (0 : Int32))])) (fun t k => st3.trans k) ?_
  have hc37 : (0 : Int32) = (0 : Int32) := rfl
  refine Goes.pre (U' := T3.setTop (mkF m 45 #[.val (.ref a), .unset] [(.ref a)])) (fun t k => XS.ifYes X3.here hx rfl (pc0 := 37) (pc' := 44) rfl (hb hby d13_37) rfl ((if0 _ _).trans (teq hc37).1) (by decide) (by decide) (XS.aloadN X3.here hx rfl (hb hby d13_44) rfl rfl k)) ?_
  have lt_a := E_a.lt
  have lt_b := E_b.lt
  have lt_y := E_y.lt
  obtain ⟨cq4, kq4, q4a, q4b, q4c⟩ := isOf hZ HQ3 E_a
  obtain ⟨_, _, ⟨T4, L4, k4, n4⟩, -, X4, ⟨Lc4, hQ4, l4, y4, z4⟩, st4⟩ := X3.interfaceBack hx (xi := (⟨"java/util/Collection", "toArray", "()[Ljava/lang/Object;"⟩ : MethodName)) (y := (⟨"java/util/ArrayList", "toArray", "()[Ljava/lang/Object;"⟩ : MethodName)) hown (mvT hZ (wq hw 140 rfl)) (mvT hZ (wq hw 141 rfl)) (mvT hZ (wq hw 142 rfl)) (mvT hZ (wq hw 143 rfl)) (mvT hZ (wq hw 144 rfl)) (mvT hZ (wq hw 145 rfl)) (mvT hZ (wq hw 146 rfl)) (mvT hZ (wq hw 93 rfl)) (by decide) (backOf (W := 0) (rm_toArray l Z a0 hw [] a b kb y mr h0 n0 Z0 E_b V_b E_y M__Ljava_lang_Object_ E_a F_size_a F_elementData_a) hZ (wq hw 147 rfl) (wq hw 43 rfl) (by decide) (by decide)) q4a q4b q4c (g := (mkF m 45 #[.val (.ref a), .unset] [(.ref a)])) rfl (by rw [hml]; rfl) (Steps.refl _) (argsL := []) (rest := []) (lenOf pd__28_29_5bLjava_2flang_2fObject_3b rfl) rfl (by show 2 * 0 + _ ≤ _; exact Nat.le_of_eq rfl) (hb hby d13_45) (fun _ _ => ⟨rfl, HQ3, (by decide : 0 + 1 ≤ _), (by decide : 0 + 1 ≤ _)⟩)
  dsimp only [Pt.U, Pt.locs, Pt.cells, Pt.slots] at X4 l4 y4 z4 st4 hQ4
  subst l4 y4 z4
  obtain ⟨r4, kr4, rfl, N4q, KQ4, fo0_4, fo1_4, g_r4, sl_r4⟩ := hQ4
  have N4 := Fr.app N3 N4q
  have E_b := E_b.keep KQ4
  have V_b := V_b.keep KQ4 nin0
  have E_y := E_y.keep KQ4
  have E_a := E_a.keep KQ4
  have F_size_a := F_size_a.keep KQ4 nin0
  have F_elementData_a := F_elementData_a.keep KQ4 nin0
  have Z5 : n0 ≤ T4.heap.size := Nat.le_trans Z0 KQ4.1
  have O := O.keep KQ4 all0
  have K5 := K0.trans KQ4 all0
  have ne_a_r4 : a ≠ r4 := Nat.ne_of_lt (Nat.lt_of_lt_of_le lt_a sl_r4)
  have ne_r4_a := ne_a_r4.symm
  have ne_b_r4 : b ≠ r4 := Nat.ne_of_lt (Nat.lt_of_lt_of_le lt_b sl_r4)
  have ne_r4_b := ne_b_r4.symm
  have ne_y_r4 : y ≠ r4 := Nat.ne_of_lt (Nat.lt_of_lt_of_le lt_y sl_r4)
  have ne_r4_y := ne_y_r4.symm
  have sz_r4 : h0.size ≤ r4 := Nat.le_trans K0.1 sl_r4
  have E_r4 := fo0_4
  have V_r4 := fo1_4
  refine Goes.pre (U' := T4.setTop (mkF m 50 #[.val (.ref a), .unset] [(.ref r4)])) (fun t k => st4.trans k) ?_
  have lt_a := E_a.lt
  have lt_b := E_b.lt
  have lt_r4 := E_r4.lt
  have lt_y := E_y.lt
  obtain ⟨_, _, ⟨T6, L6, k6, n6⟩, -, X6, ⟨Lc6, hQ6, l6, y6, z6⟩, st6⟩ := Jvm.LawKit.callS X4 hx (y := (⟨"java/util/List", "of", "([Ljava/lang/Object;)Ljava/util/List;"⟩ : MethodName)) hown (mvT hZ (wq hw 170 rfl)) (mvT hZ (wq hw 171 rfl)) (mvT hZ (wq hw 74 rfl)) (mvT hZ (wq hw 172 rfl)) (by decide) (backOf (W := 0) (rm_ofArr l Z a0 hw [] r4 kr4 y em T4.heap n0 Z5 V_r4 E_y S_EMPTY O) hZ (wq hw 172 rfl) (wq hw 74 rfl) (by decide) (by decide)) (g := (mkF m 50 #[.val (.ref a), .unset] [(.ref r4)])) rfl (by rw [hml]; rfl) (argsL := [(.ref r4)]) (rest := []) (lenOf pd__28_5bLjava_2flang_2fObject_3b_29Ljava_2futil_2fList_3b rfl) rfl (by show 2 * 0 + _ ≤ _; exact Nat.le_of_eq rfl) (hb hby d13_50) (fun _ _ => ⟨rfl, rfl, (by decide : 1 + 1 ≤ _), (by decide : 1 + 2 ≤ _)⟩)
  dsimp only [Pt.U, Pt.locs, Pt.cells, Pt.slots] at X6 l6 y6 z6 st6 hQ6
  subst l6 y6 z6
  obtain ⟨r6, rfl, N6q, KQ6, fo0_6, fo1_6, fo2_6, g_r6, sl_r6⟩ := hQ6
  have N6 := Fr.app N4 N6q
  have E_b := E_b.keep KQ6
  have V_b := V_b.keep KQ6 nin0
  have E_y := E_y.keep KQ6
  have E_a := E_a.keep KQ6
  have F_size_a := F_size_a.keep KQ6 nin0
  have F_elementData_a := F_elementData_a.keep KQ6 nin0
  have E_r4 := E_r4.keep KQ6
  have V_r4 := V_r4.keep KQ6 nin0
  have Z7 : n0 ≤ T6.heap.size := Nat.le_trans Z5 KQ6.1
  have O := O.keep KQ6 all0
  have K7 := K5.trans KQ6 all0
  have ne_a_r6 : a ≠ r6 := Nat.ne_of_lt (Nat.lt_of_lt_of_le lt_a sl_r6)
  have ne_r6_a := ne_a_r6.symm
  have ne_b_r6 : b ≠ r6 := Nat.ne_of_lt (Nat.lt_of_lt_of_le lt_b sl_r6)
  have ne_r6_b := ne_b_r6.symm
  have ne_r4_r6 : r4 ≠ r6 := Nat.ne_of_lt (Nat.lt_of_lt_of_le lt_r4 sl_r6)
  have ne_r6_r4 := ne_r4_r6.symm
  have ne_y_r6 : y ≠ r6 := Nat.ne_of_lt (Nat.lt_of_lt_of_le lt_y sl_r6)
  have ne_r6_y := ne_y_r6.symm
  have sz_r6 : h0.size ≤ r6 := Nat.le_trans K5.1 sl_r6
  have E_r6 := fo0_6
  have F_e0_r6 := fo1_6
  have F_e1_r6 := fo2_6
  refine Goes.pre (U' := T6.setTop (mkF m 53 #[.val (.ref a), .unset] [(.ref r6)])) (fun t k => st6 t k) ?_
  refine Goes.ret X6 (v := (some (.ref r6))) (fun h => by rw [hret] at h; cases h) hlk (by decide) (by decide) rfl (fun fs hr => retOut X6 hx hret rfl (Or.inr (Or.inr (Or.inr (Or.inr ⟨rfl, rfl, rfl⟩)))) (hb hby d13_53) hr) ?_
  exact ⟨r6, rfl, N6, K7, E_r6, F_e0_r6, F_e1_r6, g_r6, sz_r6⟩
theorem ef_rm_co1 (m : MethodId) (x0 : Addr) : entryFrame m #[(.ref x0)] 1 = mkF m 0 #[.val (.ref x0)] [] := by first | (simp [entryFrame, mkF, argsToLocals, Value.category]; done) | rfl
def Q_rm_co1 (Z : State) (a : Addr) (b : Addr) (kb : ClassId) (y : Addr) (mr : Addr) (em : Addr) (h0 : Heap) (n0 : Nat) (v : Option Value) (h : Heap) (L : List Loc) : Prop := ∃ (r : Addr), v = some (.ref r) ∧ Fr n0 L ∧ Keep h0 h [] ∧ Exa Z h r "java/util/ImmutableCollections$List12" ∧ Fld Z h r "java/util/ImmutableCollections$List12" "e0" "Ljava/lang/Object;" (.ref y) ∧ Fld Z h r "java/util/ImmutableCollections$List12" "e1" "Ljava/lang/Object;" (.ref em) ∧ n0 ≤ r ∧ h0.size ≤ r
set_option maxRecDepth 65536 in
set_option maxHeartbeats 40000000 in
theorem rm_co1 (l : Launch) (Z : State) (a0 : Array Value) (hw : ∀ d ∈ tables_1, d.before a0 Z = true) (ws : List Jvm.Cond) (a : Addr) (b : Addr) (kb : ClassId) (y : Addr) (mr : Addr) (em : Addr) (h0 : Heap) (n0 : Nat) (Z0 : n0 ≤ h0.size) (E_b : Exa Z h0 b "[Ljava/lang/Object;") (V_b : Arv Z h0 b kb (.object "java/lang/Object") (10 : Int32) [(.ref y), .null, .null, .null, .null, .null, .null, .null, .null, .null] .null) (E_y : Exa Z h0 y "com/example/restate/restate/plan/Item") (M__Ljava_lang_Object_ : OwnMir Z "[Ljava/lang/Object;" mr) (E_a : Exa Z h0 a "java/util/ArrayList") (F_size_a : Fld Z h0 a "java/util/ArrayList" "size" "I" (.int (1 : Int32))) (F_elementData_a : Fld Z h0 a "java/util/ArrayList" "elementData" "[Ljava/lang/Object;" (.ref b)) (S_EMPTY : Sta Z Z.heap "java/util/ImmutableCollections" "EMPTY" "Ljava/lang/Object;" (.ref em)) (O : Old Z n0 h0) :
    Met l Z M12 jdk_40_method_48_code 1 (some (.object "java/util/List")) ws (Rm 7 2 3 88) #[(.ref a)] h0 (Q_rm_co1 Z a b kb y mr em h0 n0) := by
  refine met_of (plainFor_of_name pn_java_util_List) (own := "java/util/List") rfl (fun m => ef_rm_co1 m a) ?_
  intro p e s m below meth c s₁ hx hby hml hown hnm hZ X0 e0 hret hlk
  have N0 := Fr.nil n0
  have K0 := Keep.refl h0 []
  show Goes p e below s _ _ _ (s₁.setTop (mkF m 0 #[.val (.ref a)] []))
  refine Goes.pre (U' := s₁.setTop (mkF m 1 #[.val (.ref a)] [(.ref a)])) (fun t k => XS.aloadN X0.here hx rfl (hb hby d12_0) rfl rfl k) ?_
  have lt_a := E_a.lt
  have lt_b := E_b.lt
  have lt_y := E_y.lt
  obtain ⟨_, _, ⟨T1, L1, k1, n1⟩, -, X1, ⟨Lc1, hQ1, l1, y1, z1⟩, st1⟩ := Jvm.LawKit.callS X0 hx (y := (⟨"java/util/ImmutableCollections", "listCopy", "(Ljava/util/Collection;)Ljava/util/List;"⟩ : MethodName)) hown (mvT hZ (wq hw 76 rfl)) (mvT hZ (wq hw 77 rfl)) (mvT hZ (wq hw 78 rfl)) (mvT hZ (wq hw 79 rfl)) (by decide) (backOf (W := 0) (rm_lc1 l Z a0 hw [] a b kb y mr em h0 n0 Z0 E_b V_b E_y M__Ljava_lang_Object_ E_a F_size_a F_elementData_a S_EMPTY O) hZ (wq hw 79 rfl) (wq hw 78 rfl) (by decide) (by decide)) (g := (mkF m 1 #[.val (.ref a)] [(.ref a)])) rfl (by rw [hml]; rfl) (argsL := [(.ref a)]) (rest := []) (lenOf pd__28Ljava_2futil_2fCollection_3b_29Ljava_2futil_2fList_3b rfl) rfl (by show 2 * 0 + _ ≤ _; exact Nat.le_of_eq rfl) (hb hby d12_1) (fun _ _ => ⟨rfl, e0, (by decide : 0 + 2 ≤ _), (by decide : 0 + 3 ≤ _)⟩)
  dsimp only [Pt.U, Pt.locs, Pt.cells, Pt.slots] at X1 l1 y1 z1 st1 hQ1
  subst l1 y1 z1
  obtain ⟨r1, rfl, N1q, KQ1, fo0_1, fo1_1, fo2_1, g_r1, sl_r1⟩ := hQ1
  have N1 := Fr.app N0 N1q
  have E_b := E_b.keep KQ1
  have V_b := V_b.keep KQ1 nin0
  have E_y := E_y.keep KQ1
  have E_a := E_a.keep KQ1
  have F_size_a := F_size_a.keep KQ1 nin0
  have F_elementData_a := F_elementData_a.keep KQ1 nin0
  have Z2 : n0 ≤ T1.heap.size := Nat.le_trans Z0 KQ1.1
  have O := O.keep KQ1 all0
  have K2 := K0.trans KQ1 all0
  have ne_a_r1 : a ≠ r1 := Nat.ne_of_lt (Nat.lt_of_lt_of_le lt_a sl_r1)
  have ne_r1_a := ne_a_r1.symm
  have ne_b_r1 : b ≠ r1 := Nat.ne_of_lt (Nat.lt_of_lt_of_le lt_b sl_r1)
  have ne_r1_b := ne_b_r1.symm
  have ne_y_r1 : y ≠ r1 := Nat.ne_of_lt (Nat.lt_of_lt_of_le lt_y sl_r1)
  have ne_r1_y := ne_y_r1.symm
  have sz_r1 : h0.size ≤ r1 := Nat.le_trans K0.1 sl_r1
  have E_r1 := fo0_1
  have F_e0_r1 := fo1_1
  have F_e1_r1 := fo2_1
  refine Goes.pre (U' := T1.setTop (mkF m 4 #[.val (.ref a)] [(.ref r1)])) (fun t k => st1 t k) ?_
  refine Goes.ret X1 (v := (some (.ref r1))) (fun h => by rw [hret] at h; cases h) hlk (by decide) (by decide) rfl (fun fs hr => retOut X1 hx hret rfl (Or.inr (Or.inr (Or.inr (Or.inr ⟨rfl, rfl, rfl⟩)))) (hb hby d12_4) hr) ?_
  exact ⟨r1, rfl, N1, K2, E_r1, F_e0_r1, F_e1_r1, g_r1, sz_r1⟩
theorem ef_rm_item00 (m : MethodId) (x0 : Addr) (x3 : Int32) (x4 : Int32) (x5 : Addr) : entryFrame m #[(.ref x0), .null, .null, (.int x3), (.int x4), (.ref x5)] 6 = mkF m 0 #[.val (.ref x0), .val .null, .val .null, .val (.int x3), .val (.int x4), .val (.ref x5)] [] := by first | (simp [entryFrame, mkF, argsToLocals, Value.category]; done) | rfl
theorem pn_com_example_restate_restate_plan_Item : plainName "com/example/restate/restate/plan/Item" = true := by first | (simp [plainName, overriddenIn]; done) | decide +kernel
abbrev M11 : MethodName := ⟨"com/example/restate/restate/plan/Item", "<init>", "(Lcom/example/restate/restate/plan/Label;Lcom/example/restate/restate/plan/Label;IILjava/util/List;)V"⟩
theorem d11_0 : decode prog_20_method_1_code 0 = .ok (.aload_n 0, 1) := by decide +kernel
theorem d11_1 : decode prog_20_method_1_code 1 = .ok (.invokespecial 1, 3) := by decide +kernel
theorem d11_4 : decode prog_20_method_1_code 4 = .ok (.aload 5, 2) := by decide +kernel
theorem d11_6 : decode prog_20_method_1_code 6 = .ok (.invokestatic 7, 3) := by decide +kernel
theorem d11_9 : decode prog_20_method_1_code 9 = .ok (.astore 5, 2) := by decide +kernel
theorem d11_11 : decode prog_20_method_1_code 11 = .ok (.aload_n 0, 1) := by decide +kernel
theorem d11_12 : decode prog_20_method_1_code 12 = .ok (.aload_n 1, 1) := by decide +kernel
theorem d11_13 : decode prog_20_method_1_code 13 = .ok (.putfield 13, 3) := by decide +kernel
theorem d11_16 : decode prog_20_method_1_code 16 = .ok (.aload_n 0, 1) := by decide +kernel
theorem d11_17 : decode prog_20_method_1_code 17 = .ok (.aload_n 2, 1) := by decide +kernel
theorem d11_18 : decode prog_20_method_1_code 18 = .ok (.putfield 19, 3) := by decide +kernel
theorem d11_21 : decode prog_20_method_1_code 21 = .ok (.aload_n 0, 1) := by decide +kernel
theorem d11_22 : decode prog_20_method_1_code 22 = .ok (.iload_n 3, 1) := by decide +kernel
theorem d11_23 : decode prog_20_method_1_code 23 = .ok (.putfield 22, 3) := by decide +kernel
theorem d11_26 : decode prog_20_method_1_code 26 = .ok (.aload_n 0, 1) := by decide +kernel
theorem d11_27 : decode prog_20_method_1_code 27 = .ok (.iload 4, 2) := by decide +kernel
theorem d11_29 : decode prog_20_method_1_code 29 = .ok (.putfield 26, 3) := by decide +kernel
theorem d11_32 : decode prog_20_method_1_code 32 = .ok (.aload_n 0, 1) := by decide +kernel
theorem d11_33 : decode prog_20_method_1_code 33 = .ok (.aload 5, 2) := by decide +kernel
theorem d11_35 : decode prog_20_method_1_code 35 = .ok (.putfield 29, 3) := by decide +kernel
theorem d11_38 : decode prog_20_method_1_code 38 = .ok (.return_, 1) := by decide +kernel
def Q_rm_item00 (Z : State) (a : Addr) (s1 : Int32) (s2 : Int32) (b : Addr) (el : Addr) (h0 : Heap) (n0 : Nat) (v : Option Value) (h : Heap) (L : List Loc) : Prop := v = none ∧ Fr n0 L ∧ Keep h0 h [a] ∧ Fld Z h a "com/example/restate/restate/plan/Item" "label" "Lcom/example/restate/restate/plan/Label;" .null ∧ Fld Z h a "com/example/restate/restate/plan/Item" "printed" "Lcom/example/restate/restate/plan/Label;" .null ∧ Fld Z h a "com/example/restate/restate/plan/Item" "start" "I" (.int s1) ∧ Fld Z h a "com/example/restate/restate/plan/Item" "end" "I" (.int s2) ∧ Fld Z h a "com/example/restate/restate/plan/Item" "children" "Ljava/util/List;" (.ref el)
set_option maxRecDepth 65536 in
set_option maxHeartbeats 40000000 in
theorem rm_item00 (l : Launch) (Z : State) (a0 : Array Value) (hw : ∀ d ∈ tables_1, d.before a0 Z = true) (ws : List Jvm.Cond) (a : Addr) (s1 : Int32) (s2 : Int32) (b : Addr) (el : Addr) (h0 : Heap) (n0 : Nat) (Z0 : n0 ≤ h0.size) (E_a : Exa Z h0 a "com/example/restate/restate/plan/Item") (E_b : Exa Z h0 b "java/util/ArrayList") (F_size_b : Fld Z h0 b "java/util/ArrayList" "size" "I" (.int (0 : Int32))) (S_EMPTY_LIST : Sta Z Z.heap "java/util/ImmutableCollections" "EMPTY_LIST" "Ljava/util/ImmutableCollections$ListN;" (.ref el)) (F_label_a : Fld Z h0 a "com/example/restate/restate/plan/Item" "label" "Lcom/example/restate/restate/plan/Label;" .null) (F_printed_a : Fld Z h0 a "com/example/restate/restate/plan/Item" "printed" "Lcom/example/restate/restate/plan/Label;" .null) (F_start_a : Fld Z h0 a "com/example/restate/restate/plan/Item" "start" "I" (.int (0 : Int32))) (F_end_a : Fld Z h0 a "com/example/restate/restate/plan/Item" "end" "I" (.int (0 : Int32))) (F_children_a : Fld Z h0 a "com/example/restate/restate/plan/Item" "children" "Ljava/util/List;" .null) (ne_a_b : a ≠ b) (ne_b_a : b ≠ a) (g_a : n0 ≤ a) (O : Old Z n0 h0) :
    Met l Z M11 prog_20_method_1_code 6 none ws (Rm 3 0 0 37) #[(.ref a), .null, .null, (.int s1), (.int s2), (.ref b)] h0 (Q_rm_item00 Z a s1 s2 b el h0 n0) := by
  refine met_of (plainFor_of_name pn_com_example_restate_restate_plan_Item) (own := "com/example/restate/restate/plan/Item") rfl (fun m => ef_rm_item00 m a s1 s2 b) ?_
  intro p e s m below meth c s₁ hx hby hml hown hnm hZ X0 e0 hret hlk
  have N0 := Fr.nil n0
  have K0 := Keep.refl h0 [a]
  show Goes p e below s _ _ _ (s₁.setTop (mkF m 0 #[.val (.ref a), .val .null, .val .null, .val (.int s1), .val (.int s2), .val (.ref b)] []))
  refine Goes.pre (U' := s₁.setTop (mkF m 1 #[.val (.ref a), .val .null, .val .null, .val (.int s1), .val (.int s2), .val (.ref b)] [(.ref a)])) (fun t k => XS.aloadN X0.here hx rfl (hb hby d11_0) rfl rfl k) ?_
  obtain ⟨_, _, ⟨T1, L1, k1, n1⟩, -, X1, ⟨Lc1, hQ1, l1, y1, z1⟩, st1⟩ := X0.specialBack hx (y := (⟨"java/lang/Record", "<init>", "()V"⟩ : MethodName)) rfl hown (mvT hZ (wq hw 71 rfl)) (mvT hZ (wq hw 34 rfl)) (mvT hZ (wq hw 37 rfl)) (by decide) (backOf (W := 0) (rm_record l Z a0 hw [] a h0 n0 Z0 ) hZ (wq hw 37 rfl) (wq hw 36 rfl) (by decide) (by decide)) (g := (mkF m 1 #[.val (.ref a), .val .null, .val .null, .val (.int s1), .val (.int s2), .val (.ref b)] [(.ref a)])) rfl (by rw [hml]; rfl) (Steps.refl _) (a := a) (argsL := []) (rest := []) (lenOf pd__28_29V rfl) rfl (by show 2 * 0 + _ ≤ _; exact Nat.le_of_eq rfl) (hb hby d11_1) (fun _ _ => ⟨rfl, e0, (by decide : 0 + 0 ≤ _), (by decide : 0 + 0 ≤ _)⟩)
  dsimp only [Pt.U, Pt.locs, Pt.cells, Pt.slots] at X1 l1 y1 z1 st1 hQ1
  subst l1 y1 z1
  obtain ⟨rfl, N1q, HQ1⟩ := hQ1
  have N1 := Fr.app N0 N1q
  refine Goes.pre (U' := T1.setTop (mkF m 6 #[.val (.ref a), .val .null, .val .null, .val (.int s1), .val (.int s2), .val (.ref b)] [(.ref b)])) (fun t k => st1.trans (XS.aload X1.here hx rfl (hb hby d11_4) rfl rfl k)) ?_
  obtain ⟨_, _, ⟨T2, L2, k2, n2⟩, -, X2, ⟨Lc2, hQ2, l2, y2, z2⟩, st2⟩ := Jvm.LawKit.callS X1 hx (y := (⟨"java/util/List", "copyOf", "(Ljava/util/Collection;)Ljava/util/List;"⟩ : MethodName)) hown (mvT hZ (wq hw 72 rfl)) (mvT hZ (wq hw 73 rfl)) (mvT hZ (wq hw 74 rfl)) (mvT hZ (wq hw 75 rfl)) (by decide) (backOf (W := 0) (rm_co0 l Z a0 hw [] b el h0 n0 Z0 E_b F_size_b S_EMPTY_LIST O) hZ (wq hw 75 rfl) (wq hw 74 rfl) (by decide) (by decide)) (g := (mkF m 6 #[.val (.ref a), .val .null, .val .null, .val (.int s1), .val (.int s2), .val (.ref b)] [(.ref b)])) rfl (by rw [hml]; rfl) (argsL := [(.ref b)]) (rest := []) (lenOf pd__28Ljava_2futil_2fCollection_3b_29Ljava_2futil_2fList_3b rfl) rfl (by show 2 * 0 + _ ≤ _; exact Nat.le_of_eq rfl) (hb hby d11_6) (fun _ _ => ⟨rfl, HQ1, (by decide : 0 + 0 ≤ _), (by decide : 0 + 0 ≤ _)⟩)
  dsimp only [Pt.U, Pt.locs, Pt.cells, Pt.slots] at X2 l2 y2 z2 st2 hQ2
  subst l2 y2 z2
  obtain ⟨rfl, N2q, HQ2⟩ := hQ2
  have N2 := Fr.app N1 N2q
  refine Goes.pre (U' := T2.setTop (mkF m 13 #[.val (.ref a), .val .null, .val .null, .val (.int s1), .val (.int s2), .val (.ref el)] [.null, (.ref a)])) (fun t k => st2 t (XS.astore X2.here hx rfl (hb hby d11_9) rfl rfl (l' := #[.val (.ref a), .val .null, .val .null, .val (.int s1), .val (.int s2), .val (.ref el)]) rfl (XS.aloadN X2.here hx rfl (hb hby d11_11) rfl rfl (XS.aloadN X2.here hx rfl (hb hby d11_12) rfl rfl k)))) ?_
  obtain ⟨T3, h3, X3, e3, W3, st3⟩ := putF X2 hx hZ hown (host := "") (Or.inl (wq hw 101 rfl)) Via.refl HQ2 F_label_a E_a (Or.inr ⟨(wq hw 102 rfl), rfl, hnm⟩) (wq hw 66 rfl) (ty := (.object "com/example/restate/restate/plan/Label")) (by decide) rfl rfl (g := (mkF m 13 #[.val (.ref a), .val .null, .val .null, .val (.int s1), .val (.int s2), .val (.ref el)] [.null, (.ref a)])) rfl rfl (hb hby d11_13)
  have E_a := E_a.wr W3
  have E_b := E_b.wr W3
  have F_size_b := F_size_b.other W3 (Or.inl ne_b_a)
  have F_printed_a := F_printed_a.other W3 (Or.inr (slot_ne (Or.inr (wq hw 104 rfl)) (Or.inr (wq hw 102 rfl)) (by decide) (t := (.object "com/example/restate/restate/plan/Label")) (t' := (.object "com/example/restate/restate/plan/Label")) (by decide) (by decide)))
  have F_start_a := F_start_a.other W3 (Or.inr (slot_ne (Or.inr (wq hw 106 rfl)) (Or.inr (wq hw 102 rfl)) (by decide) (t := .int) (t' := (.object "com/example/restate/restate/plan/Label")) (by decide) (by decide)))
  have F_end_a := F_end_a.other W3 (Or.inr (slot_ne (Or.inr (wq hw 108 rfl)) (Or.inr (wq hw 102 rfl)) (by decide) (t := .int) (t' := (.object "com/example/restate/restate/plan/Label")) (by decide) (by decide)))
  have F_children_a := F_children_a.other W3 (Or.inr (slot_ne (Or.inr (wq hw 110 rfl)) (Or.inr (wq hw 102 rfl)) (by decide) (t := (.object "java/util/List")) (t' := (.object "com/example/restate/restate/plan/Label")) (by decide) (by decide)))
  have Z3 : n0 ≤ h3.size := Nat.le_trans Z0 (Keep.of_wr W3).1
  have O := O.wr W3 g_a
  have F_label_a := F_label_a.same W3
  have K3 := K0.wr W3 (Or.inl (List.mem_of_getElem? (i := 0) rfl))
  have N3 := Fr.snoc X3 N2 g_a
  refine Goes.pre (U' := T3.setTop (mkF m 18 #[.val (.ref a), .val .null, .val .null, .val (.int s1), .val (.int s2), .val (.ref el)] [.null, (.ref a)])) (fun t k => st3 t (XS.aloadN X3.here hx rfl (hb hby d11_16) rfl rfl (XS.aloadN X3.here hx rfl (hb hby d11_17) rfl rfl k))) ?_
  obtain ⟨T4, h4, X4, e4, W4, st4⟩ := putF X3 hx hZ hown (host := "") (Or.inl (wq hw 103 rfl)) Via.refl e3 F_printed_a E_a (Or.inr ⟨(wq hw 104 rfl), rfl, hnm⟩) (wq hw 66 rfl) (ty := (.object "com/example/restate/restate/plan/Label")) (by decide) rfl rfl (g := (mkF m 18 #[.val (.ref a), .val .null, .val .null, .val (.int s1), .val (.int s2), .val (.ref el)] [.null, (.ref a)])) rfl rfl (hb hby d11_18)
  have E_a := E_a.wr W4
  have E_b := E_b.wr W4
  have F_size_b := F_size_b.other W4 (Or.inl ne_b_a)
  have F_label_a := F_label_a.other W4 (Or.inr (slot_ne (Or.inr (wq hw 102 rfl)) (Or.inr (wq hw 104 rfl)) (by decide) (t := (.object "com/example/restate/restate/plan/Label")) (t' := (.object "com/example/restate/restate/plan/Label")) (by decide) (by decide)))
  have F_start_a := F_start_a.other W4 (Or.inr (slot_ne (Or.inr (wq hw 106 rfl)) (Or.inr (wq hw 104 rfl)) (by decide) (t := .int) (t' := (.object "com/example/restate/restate/plan/Label")) (by decide) (by decide)))
  have F_end_a := F_end_a.other W4 (Or.inr (slot_ne (Or.inr (wq hw 108 rfl)) (Or.inr (wq hw 104 rfl)) (by decide) (t := .int) (t' := (.object "com/example/restate/restate/plan/Label")) (by decide) (by decide)))
  have F_children_a := F_children_a.other W4 (Or.inr (slot_ne (Or.inr (wq hw 110 rfl)) (Or.inr (wq hw 104 rfl)) (by decide) (t := (.object "java/util/List")) (t' := (.object "com/example/restate/restate/plan/Label")) (by decide) (by decide)))
  have Z4 : n0 ≤ h4.size := Nat.le_trans Z3 (Keep.of_wr W4).1
  have O := O.wr W4 g_a
  have F_printed_a := F_printed_a.same W4
  have K4 := K3.wr W4 (Or.inl (List.mem_of_getElem? (i := 0) rfl))
  have N4 := Fr.snoc X4 N3 g_a
  refine Goes.pre (U' := T4.setTop (mkF m 23 #[.val (.ref a), .val .null, .val .null, .val (.int s1), .val (.int s2), .val (.ref el)] [(.int s1), (.ref a)])) (fun t k => st4 t (XS.aloadN X4.here hx rfl (hb hby d11_21) rfl rfl (XS.iloadN X4.here hx rfl (hb hby d11_22) rfl k))) ?_
  obtain ⟨T5, h5, X5, e5, W5, st5⟩ := putF X4 hx hZ hown (host := "") (Or.inl (wq hw 105 rfl)) Via.refl e4 F_start_a E_a (Or.inr ⟨(wq hw 106 rfl), rfl, hnm⟩) (wq hw 66 rfl) (ty := .int) (by decide) rfl rfl (g := (mkF m 23 #[.val (.ref a), .val .null, .val .null, .val (.int s1), .val (.int s2), .val (.ref el)] [(.int s1), (.ref a)])) rfl rfl (hb hby d11_23)
  have E_a := E_a.wr W5
  have E_b := E_b.wr W5
  have F_size_b := F_size_b.other W5 (Or.inl ne_b_a)
  have F_label_a := F_label_a.other W5 (Or.inr (slot_ne (Or.inr (wq hw 102 rfl)) (Or.inr (wq hw 106 rfl)) (by decide) (t := (.object "com/example/restate/restate/plan/Label")) (t' := .int) (by decide) (by decide)))
  have F_printed_a := F_printed_a.other W5 (Or.inr (slot_ne (Or.inr (wq hw 104 rfl)) (Or.inr (wq hw 106 rfl)) (by decide) (t := (.object "com/example/restate/restate/plan/Label")) (t' := .int) (by decide) (by decide)))
  have F_end_a := F_end_a.other W5 (Or.inr (slot_ne (Or.inr (wq hw 108 rfl)) (Or.inr (wq hw 106 rfl)) (by decide) (t := .int) (t' := .int) (by decide) (by decide)))
  have F_children_a := F_children_a.other W5 (Or.inr (slot_ne (Or.inr (wq hw 110 rfl)) (Or.inr (wq hw 106 rfl)) (by decide) (t := (.object "java/util/List")) (t' := .int) (by decide) (by decide)))
  have Z5 : n0 ≤ h5.size := Nat.le_trans Z4 (Keep.of_wr W5).1
  have O := O.wr W5 g_a
  have F_start_a := F_start_a.same W5
  have K5 := K4.wr W5 (Or.inl (List.mem_of_getElem? (i := 0) rfl))
  have N5 := Fr.snoc X5 N4 g_a
  refine Goes.pre (U' := T5.setTop (mkF m 29 #[.val (.ref a), .val .null, .val .null, .val (.int s1), .val (.int s2), .val (.ref el)] [(.int s2), (.ref a)])) (fun t k => st5 t (XS.aloadN X5.here hx rfl (hb hby d11_26) rfl rfl (XS.iload X5.here hx rfl (hb hby d11_27) rfl k))) ?_
  obtain ⟨T6, h6, X6, e6, W6, st6⟩ := putF X5 hx hZ hown (host := "") (Or.inl (wq hw 107 rfl)) Via.refl e5 F_end_a E_a (Or.inr ⟨(wq hw 108 rfl), rfl, hnm⟩) (wq hw 66 rfl) (ty := .int) (by decide) rfl rfl (g := (mkF m 29 #[.val (.ref a), .val .null, .val .null, .val (.int s1), .val (.int s2), .val (.ref el)] [(.int s2), (.ref a)])) rfl rfl (hb hby d11_29)
  have E_a := E_a.wr W6
  have E_b := E_b.wr W6
  have F_size_b := F_size_b.other W6 (Or.inl ne_b_a)
  have F_label_a := F_label_a.other W6 (Or.inr (slot_ne (Or.inr (wq hw 102 rfl)) (Or.inr (wq hw 108 rfl)) (by decide) (t := (.object "com/example/restate/restate/plan/Label")) (t' := .int) (by decide) (by decide)))
  have F_printed_a := F_printed_a.other W6 (Or.inr (slot_ne (Or.inr (wq hw 104 rfl)) (Or.inr (wq hw 108 rfl)) (by decide) (t := (.object "com/example/restate/restate/plan/Label")) (t' := .int) (by decide) (by decide)))
  have F_start_a := F_start_a.other W6 (Or.inr (slot_ne (Or.inr (wq hw 106 rfl)) (Or.inr (wq hw 108 rfl)) (by decide) (t := .int) (t' := .int) (by decide) (by decide)))
  have F_children_a := F_children_a.other W6 (Or.inr (slot_ne (Or.inr (wq hw 110 rfl)) (Or.inr (wq hw 108 rfl)) (by decide) (t := (.object "java/util/List")) (t' := .int) (by decide) (by decide)))
  have Z6 : n0 ≤ h6.size := Nat.le_trans Z5 (Keep.of_wr W6).1
  have O := O.wr W6 g_a
  have F_end_a := F_end_a.same W6
  have K6 := K5.wr W6 (Or.inl (List.mem_of_getElem? (i := 0) rfl))
  have N6 := Fr.snoc X6 N5 g_a
  refine Goes.pre (U' := T6.setTop (mkF m 35 #[.val (.ref a), .val .null, .val .null, .val (.int s1), .val (.int s2), .val (.ref el)] [(.ref el), (.ref a)])) (fun t k => st6 t (XS.aloadN X6.here hx rfl (hb hby d11_32) rfl rfl (XS.aload X6.here hx rfl (hb hby d11_33) rfl rfl k))) ?_
  obtain ⟨T7, h7, X7, e7, W7, st7⟩ := putF X6 hx hZ hown (host := "") (Or.inl (wq hw 109 rfl)) Via.refl e6 F_children_a E_a (Or.inr ⟨(wq hw 110 rfl), rfl, hnm⟩) (wq hw 66 rfl) (ty := (.object "java/util/List")) (by decide) rfl rfl (g := (mkF m 35 #[.val (.ref a), .val .null, .val .null, .val (.int s1), .val (.int s2), .val (.ref el)] [(.ref el), (.ref a)])) rfl rfl (hb hby d11_35)
  have E_a := E_a.wr W7
  have E_b := E_b.wr W7
  have F_size_b := F_size_b.other W7 (Or.inl ne_b_a)
  have F_label_a := F_label_a.other W7 (Or.inr (slot_ne (Or.inr (wq hw 102 rfl)) (Or.inr (wq hw 110 rfl)) (by decide) (t := (.object "com/example/restate/restate/plan/Label")) (t' := (.object "java/util/List")) (by decide) (by decide)))
  have F_printed_a := F_printed_a.other W7 (Or.inr (slot_ne (Or.inr (wq hw 104 rfl)) (Or.inr (wq hw 110 rfl)) (by decide) (t := (.object "com/example/restate/restate/plan/Label")) (t' := (.object "java/util/List")) (by decide) (by decide)))
  have F_start_a := F_start_a.other W7 (Or.inr (slot_ne (Or.inr (wq hw 106 rfl)) (Or.inr (wq hw 110 rfl)) (by decide) (t := .int) (t' := (.object "java/util/List")) (by decide) (by decide)))
  have F_end_a := F_end_a.other W7 (Or.inr (slot_ne (Or.inr (wq hw 108 rfl)) (Or.inr (wq hw 110 rfl)) (by decide) (t := .int) (t' := (.object "java/util/List")) (by decide) (by decide)))
  have Z7 : n0 ≤ h7.size := Nat.le_trans Z6 (Keep.of_wr W7).1
  have O := O.wr W7 g_a
  have F_children_a := F_children_a.same W7
  have K7 := K6.wr W7 (Or.inl (List.mem_of_getElem? (i := 0) rfl))
  have N7 := Fr.snoc X7 N6 g_a
  refine Goes.pre (U' := T7.setTop (mkF m 38 #[.val (.ref a), .val .null, .val .null, .val (.int s1), .val (.int s2), .val (.ref el)] [])) (fun t k => st7 t k) ?_
  refine Goes.ret X7 (v := none) (fun _ => rfl) hlk (by decide) (by decide) e7 (fun fs hr => X7.returnOut hx hret (hb hby d11_38) hr) ?_
  exact ⟨rfl, N7, K7, F_label_a, F_printed_a, F_start_a, F_end_a, F_children_a⟩
theorem ef_rm_item11 (m : MethodId) (x0 : Addr) (x1 : Addr) (x2 : Addr) (x3 : Int32) (x4 : Int32) (x5 : Addr) : entryFrame m #[(.ref x0), (.ref x1), (.ref x2), (.int x3), (.int x4), (.ref x5)] 6 = mkF m 0 #[.val (.ref x0), .val (.ref x1), .val (.ref x2), .val (.int x3), .val (.int x4), .val (.ref x5)] [] := by first | (simp [entryFrame, mkF, argsToLocals, Value.category]; done) | rfl
def Q_rm_item11 (Z : State) (a : Addr) (la : Addr) (pr : Addr) (s1 : Int32) (s2 : Int32) (b : Addr) (el : Addr) (h0 : Heap) (n0 : Nat) (v : Option Value) (h : Heap) (L : List Loc) : Prop := v = none ∧ Fr n0 L ∧ Keep h0 h [a] ∧ Fld Z h a "com/example/restate/restate/plan/Item" "label" "Lcom/example/restate/restate/plan/Label;" (.ref la) ∧ Fld Z h a "com/example/restate/restate/plan/Item" "printed" "Lcom/example/restate/restate/plan/Label;" (.ref pr) ∧ Fld Z h a "com/example/restate/restate/plan/Item" "start" "I" (.int s1) ∧ Fld Z h a "com/example/restate/restate/plan/Item" "end" "I" (.int s2) ∧ Fld Z h a "com/example/restate/restate/plan/Item" "children" "Ljava/util/List;" (.ref el)
set_option maxRecDepth 65536 in
set_option maxHeartbeats 40000000 in
theorem rm_item11 (l : Launch) (Z : State) (a0 : Array Value) (hw : ∀ d ∈ tables_1, d.before a0 Z = true) (ws : List Jvm.Cond) (a : Addr) (la : Addr) (pr : Addr) (s1 : Int32) (s2 : Int32) (b : Addr) (el : Addr) (h0 : Heap) (n0 : Nat) (Z0 : n0 ≤ h0.size) (E_a : Exa Z h0 a "com/example/restate/restate/plan/Item") (E_b : Exa Z h0 b "java/util/ArrayList") (F_size_b : Fld Z h0 b "java/util/ArrayList" "size" "I" (.int (0 : Int32))) (S_EMPTY_LIST : Sta Z Z.heap "java/util/ImmutableCollections" "EMPTY_LIST" "Ljava/util/ImmutableCollections$ListN;" (.ref el)) (F_label_a : Fld Z h0 a "com/example/restate/restate/plan/Item" "label" "Lcom/example/restate/restate/plan/Label;" .null) (F_printed_a : Fld Z h0 a "com/example/restate/restate/plan/Item" "printed" "Lcom/example/restate/restate/plan/Label;" .null) (F_start_a : Fld Z h0 a "com/example/restate/restate/plan/Item" "start" "I" (.int (0 : Int32))) (F_end_a : Fld Z h0 a "com/example/restate/restate/plan/Item" "end" "I" (.int (0 : Int32))) (F_children_a : Fld Z h0 a "com/example/restate/restate/plan/Item" "children" "Ljava/util/List;" .null) (ne_a_b : a ≠ b) (ne_b_a : b ≠ a) (g_a : n0 ≤ a) (O : Old Z n0 h0) :
    Met l Z M11 prog_20_method_1_code 6 none ws (Rm 3 0 0 37) #[(.ref a), (.ref la), (.ref pr), (.int s1), (.int s2), (.ref b)] h0 (Q_rm_item11 Z a la pr s1 s2 b el h0 n0) := by
  refine met_of (plainFor_of_name pn_com_example_restate_restate_plan_Item) (own := "com/example/restate/restate/plan/Item") rfl (fun m => ef_rm_item11 m a la pr s1 s2 b) ?_
  intro p e s m below meth c s₁ hx hby hml hown hnm hZ X0 e0 hret hlk
  have N0 := Fr.nil n0
  have K0 := Keep.refl h0 [a]
  show Goes p e below s _ _ _ (s₁.setTop (mkF m 0 #[.val (.ref a), .val (.ref la), .val (.ref pr), .val (.int s1), .val (.int s2), .val (.ref b)] []))
  refine Goes.pre (U' := s₁.setTop (mkF m 1 #[.val (.ref a), .val (.ref la), .val (.ref pr), .val (.int s1), .val (.int s2), .val (.ref b)] [(.ref a)])) (fun t k => XS.aloadN X0.here hx rfl (hb hby d11_0) rfl rfl k) ?_
  obtain ⟨_, _, ⟨T1, L1, k1, n1⟩, -, X1, ⟨Lc1, hQ1, l1, y1, z1⟩, st1⟩ := X0.specialBack hx (y := (⟨"java/lang/Record", "<init>", "()V"⟩ : MethodName)) rfl hown (mvT hZ (wq hw 71 rfl)) (mvT hZ (wq hw 34 rfl)) (mvT hZ (wq hw 37 rfl)) (by decide) (backOf (W := 0) (rm_record l Z a0 hw [] a h0 n0 Z0 ) hZ (wq hw 37 rfl) (wq hw 36 rfl) (by decide) (by decide)) (g := (mkF m 1 #[.val (.ref a), .val (.ref la), .val (.ref pr), .val (.int s1), .val (.int s2), .val (.ref b)] [(.ref a)])) rfl (by rw [hml]; rfl) (Steps.refl _) (a := a) (argsL := []) (rest := []) (lenOf pd__28_29V rfl) rfl (by show 2 * 0 + _ ≤ _; exact Nat.le_of_eq rfl) (hb hby d11_1) (fun _ _ => ⟨rfl, e0, (by decide : 0 + 0 ≤ _), (by decide : 0 + 0 ≤ _)⟩)
  dsimp only [Pt.U, Pt.locs, Pt.cells, Pt.slots] at X1 l1 y1 z1 st1 hQ1
  subst l1 y1 z1
  obtain ⟨rfl, N1q, HQ1⟩ := hQ1
  have N1 := Fr.app N0 N1q
  refine Goes.pre (U' := T1.setTop (mkF m 6 #[.val (.ref a), .val (.ref la), .val (.ref pr), .val (.int s1), .val (.int s2), .val (.ref b)] [(.ref b)])) (fun t k => st1.trans (XS.aload X1.here hx rfl (hb hby d11_4) rfl rfl k)) ?_
  obtain ⟨_, _, ⟨T2, L2, k2, n2⟩, -, X2, ⟨Lc2, hQ2, l2, y2, z2⟩, st2⟩ := Jvm.LawKit.callS X1 hx (y := (⟨"java/util/List", "copyOf", "(Ljava/util/Collection;)Ljava/util/List;"⟩ : MethodName)) hown (mvT hZ (wq hw 72 rfl)) (mvT hZ (wq hw 73 rfl)) (mvT hZ (wq hw 74 rfl)) (mvT hZ (wq hw 75 rfl)) (by decide) (backOf (W := 0) (rm_co0 l Z a0 hw [] b el h0 n0 Z0 E_b F_size_b S_EMPTY_LIST O) hZ (wq hw 75 rfl) (wq hw 74 rfl) (by decide) (by decide)) (g := (mkF m 6 #[.val (.ref a), .val (.ref la), .val (.ref pr), .val (.int s1), .val (.int s2), .val (.ref b)] [(.ref b)])) rfl (by rw [hml]; rfl) (argsL := [(.ref b)]) (rest := []) (lenOf pd__28Ljava_2futil_2fCollection_3b_29Ljava_2futil_2fList_3b rfl) rfl (by show 2 * 0 + _ ≤ _; exact Nat.le_of_eq rfl) (hb hby d11_6) (fun _ _ => ⟨rfl, HQ1, (by decide : 0 + 0 ≤ _), (by decide : 0 + 0 ≤ _)⟩)
  dsimp only [Pt.U, Pt.locs, Pt.cells, Pt.slots] at X2 l2 y2 z2 st2 hQ2
  subst l2 y2 z2
  obtain ⟨rfl, N2q, HQ2⟩ := hQ2
  have N2 := Fr.app N1 N2q
  refine Goes.pre (U' := T2.setTop (mkF m 13 #[.val (.ref a), .val (.ref la), .val (.ref pr), .val (.int s1), .val (.int s2), .val (.ref el)] [(.ref la), (.ref a)])) (fun t k => st2 t (XS.astore X2.here hx rfl (hb hby d11_9) rfl rfl (l' := #[.val (.ref a), .val (.ref la), .val (.ref pr), .val (.int s1), .val (.int s2), .val (.ref el)]) rfl (XS.aloadN X2.here hx rfl (hb hby d11_11) rfl rfl (XS.aloadN X2.here hx rfl (hb hby d11_12) rfl rfl k)))) ?_
  obtain ⟨T3, h3, X3, e3, W3, st3⟩ := putF X2 hx hZ hown (host := "") (Or.inl (wq hw 101 rfl)) Via.refl HQ2 F_label_a E_a (Or.inr ⟨(wq hw 102 rfl), rfl, hnm⟩) (wq hw 66 rfl) (ty := (.object "com/example/restate/restate/plan/Label")) (by decide) rfl rfl (g := (mkF m 13 #[.val (.ref a), .val (.ref la), .val (.ref pr), .val (.int s1), .val (.int s2), .val (.ref el)] [(.ref la), (.ref a)])) rfl rfl (hb hby d11_13)
  have E_a := E_a.wr W3
  have E_b := E_b.wr W3
  have F_size_b := F_size_b.other W3 (Or.inl ne_b_a)
  have F_printed_a := F_printed_a.other W3 (Or.inr (slot_ne (Or.inr (wq hw 104 rfl)) (Or.inr (wq hw 102 rfl)) (by decide) (t := (.object "com/example/restate/restate/plan/Label")) (t' := (.object "com/example/restate/restate/plan/Label")) (by decide) (by decide)))
  have F_start_a := F_start_a.other W3 (Or.inr (slot_ne (Or.inr (wq hw 106 rfl)) (Or.inr (wq hw 102 rfl)) (by decide) (t := .int) (t' := (.object "com/example/restate/restate/plan/Label")) (by decide) (by decide)))
  have F_end_a := F_end_a.other W3 (Or.inr (slot_ne (Or.inr (wq hw 108 rfl)) (Or.inr (wq hw 102 rfl)) (by decide) (t := .int) (t' := (.object "com/example/restate/restate/plan/Label")) (by decide) (by decide)))
  have F_children_a := F_children_a.other W3 (Or.inr (slot_ne (Or.inr (wq hw 110 rfl)) (Or.inr (wq hw 102 rfl)) (by decide) (t := (.object "java/util/List")) (t' := (.object "com/example/restate/restate/plan/Label")) (by decide) (by decide)))
  have Z3 : n0 ≤ h3.size := Nat.le_trans Z0 (Keep.of_wr W3).1
  have O := O.wr W3 g_a
  have F_label_a := F_label_a.same W3
  have K3 := K0.wr W3 (Or.inl (List.mem_of_getElem? (i := 0) rfl))
  have N3 := Fr.snoc X3 N2 g_a
  refine Goes.pre (U' := T3.setTop (mkF m 18 #[.val (.ref a), .val (.ref la), .val (.ref pr), .val (.int s1), .val (.int s2), .val (.ref el)] [(.ref pr), (.ref a)])) (fun t k => st3 t (XS.aloadN X3.here hx rfl (hb hby d11_16) rfl rfl (XS.aloadN X3.here hx rfl (hb hby d11_17) rfl rfl k))) ?_
  obtain ⟨T4, h4, X4, e4, W4, st4⟩ := putF X3 hx hZ hown (host := "") (Or.inl (wq hw 103 rfl)) Via.refl e3 F_printed_a E_a (Or.inr ⟨(wq hw 104 rfl), rfl, hnm⟩) (wq hw 66 rfl) (ty := (.object "com/example/restate/restate/plan/Label")) (by decide) rfl rfl (g := (mkF m 18 #[.val (.ref a), .val (.ref la), .val (.ref pr), .val (.int s1), .val (.int s2), .val (.ref el)] [(.ref pr), (.ref a)])) rfl rfl (hb hby d11_18)
  have E_a := E_a.wr W4
  have E_b := E_b.wr W4
  have F_size_b := F_size_b.other W4 (Or.inl ne_b_a)
  have F_label_a := F_label_a.other W4 (Or.inr (slot_ne (Or.inr (wq hw 102 rfl)) (Or.inr (wq hw 104 rfl)) (by decide) (t := (.object "com/example/restate/restate/plan/Label")) (t' := (.object "com/example/restate/restate/plan/Label")) (by decide) (by decide)))
  have F_start_a := F_start_a.other W4 (Or.inr (slot_ne (Or.inr (wq hw 106 rfl)) (Or.inr (wq hw 104 rfl)) (by decide) (t := .int) (t' := (.object "com/example/restate/restate/plan/Label")) (by decide) (by decide)))
  have F_end_a := F_end_a.other W4 (Or.inr (slot_ne (Or.inr (wq hw 108 rfl)) (Or.inr (wq hw 104 rfl)) (by decide) (t := .int) (t' := (.object "com/example/restate/restate/plan/Label")) (by decide) (by decide)))
  have F_children_a := F_children_a.other W4 (Or.inr (slot_ne (Or.inr (wq hw 110 rfl)) (Or.inr (wq hw 104 rfl)) (by decide) (t := (.object "java/util/List")) (t' := (.object "com/example/restate/restate/plan/Label")) (by decide) (by decide)))
  have Z4 : n0 ≤ h4.size := Nat.le_trans Z3 (Keep.of_wr W4).1
  have O := O.wr W4 g_a
  have F_printed_a := F_printed_a.same W4
  have K4 := K3.wr W4 (Or.inl (List.mem_of_getElem? (i := 0) rfl))
  have N4 := Fr.snoc X4 N3 g_a
  refine Goes.pre (U' := T4.setTop (mkF m 23 #[.val (.ref a), .val (.ref la), .val (.ref pr), .val (.int s1), .val (.int s2), .val (.ref el)] [(.int s1), (.ref a)])) (fun t k => st4 t (XS.aloadN X4.here hx rfl (hb hby d11_21) rfl rfl (XS.iloadN X4.here hx rfl (hb hby d11_22) rfl k))) ?_
  obtain ⟨T5, h5, X5, e5, W5, st5⟩ := putF X4 hx hZ hown (host := "") (Or.inl (wq hw 105 rfl)) Via.refl e4 F_start_a E_a (Or.inr ⟨(wq hw 106 rfl), rfl, hnm⟩) (wq hw 66 rfl) (ty := .int) (by decide) rfl rfl (g := (mkF m 23 #[.val (.ref a), .val (.ref la), .val (.ref pr), .val (.int s1), .val (.int s2), .val (.ref el)] [(.int s1), (.ref a)])) rfl rfl (hb hby d11_23)
  have E_a := E_a.wr W5
  have E_b := E_b.wr W5
  have F_size_b := F_size_b.other W5 (Or.inl ne_b_a)
  have F_label_a := F_label_a.other W5 (Or.inr (slot_ne (Or.inr (wq hw 102 rfl)) (Or.inr (wq hw 106 rfl)) (by decide) (t := (.object "com/example/restate/restate/plan/Label")) (t' := .int) (by decide) (by decide)))
  have F_printed_a := F_printed_a.other W5 (Or.inr (slot_ne (Or.inr (wq hw 104 rfl)) (Or.inr (wq hw 106 rfl)) (by decide) (t := (.object "com/example/restate/restate/plan/Label")) (t' := .int) (by decide) (by decide)))
  have F_end_a := F_end_a.other W5 (Or.inr (slot_ne (Or.inr (wq hw 108 rfl)) (Or.inr (wq hw 106 rfl)) (by decide) (t := .int) (t' := .int) (by decide) (by decide)))
  have F_children_a := F_children_a.other W5 (Or.inr (slot_ne (Or.inr (wq hw 110 rfl)) (Or.inr (wq hw 106 rfl)) (by decide) (t := (.object "java/util/List")) (t' := .int) (by decide) (by decide)))
  have Z5 : n0 ≤ h5.size := Nat.le_trans Z4 (Keep.of_wr W5).1
  have O := O.wr W5 g_a
  have F_start_a := F_start_a.same W5
  have K5 := K4.wr W5 (Or.inl (List.mem_of_getElem? (i := 0) rfl))
  have N5 := Fr.snoc X5 N4 g_a
  refine Goes.pre (U' := T5.setTop (mkF m 29 #[.val (.ref a), .val (.ref la), .val (.ref pr), .val (.int s1), .val (.int s2), .val (.ref el)] [(.int s2), (.ref a)])) (fun t k => st5 t (XS.aloadN X5.here hx rfl (hb hby d11_26) rfl rfl (XS.iload X5.here hx rfl (hb hby d11_27) rfl k))) ?_
  obtain ⟨T6, h6, X6, e6, W6, st6⟩ := putF X5 hx hZ hown (host := "") (Or.inl (wq hw 107 rfl)) Via.refl e5 F_end_a E_a (Or.inr ⟨(wq hw 108 rfl), rfl, hnm⟩) (wq hw 66 rfl) (ty := .int) (by decide) rfl rfl (g := (mkF m 29 #[.val (.ref a), .val (.ref la), .val (.ref pr), .val (.int s1), .val (.int s2), .val (.ref el)] [(.int s2), (.ref a)])) rfl rfl (hb hby d11_29)
  have E_a := E_a.wr W6
  have E_b := E_b.wr W6
  have F_size_b := F_size_b.other W6 (Or.inl ne_b_a)
  have F_label_a := F_label_a.other W6 (Or.inr (slot_ne (Or.inr (wq hw 102 rfl)) (Or.inr (wq hw 108 rfl)) (by decide) (t := (.object "com/example/restate/restate/plan/Label")) (t' := .int) (by decide) (by decide)))
  have F_printed_a := F_printed_a.other W6 (Or.inr (slot_ne (Or.inr (wq hw 104 rfl)) (Or.inr (wq hw 108 rfl)) (by decide) (t := (.object "com/example/restate/restate/plan/Label")) (t' := .int) (by decide) (by decide)))
  have F_start_a := F_start_a.other W6 (Or.inr (slot_ne (Or.inr (wq hw 106 rfl)) (Or.inr (wq hw 108 rfl)) (by decide) (t := .int) (t' := .int) (by decide) (by decide)))
  have F_children_a := F_children_a.other W6 (Or.inr (slot_ne (Or.inr (wq hw 110 rfl)) (Or.inr (wq hw 108 rfl)) (by decide) (t := (.object "java/util/List")) (t' := .int) (by decide) (by decide)))
  have Z6 : n0 ≤ h6.size := Nat.le_trans Z5 (Keep.of_wr W6).1
  have O := O.wr W6 g_a
  have F_end_a := F_end_a.same W6
  have K6 := K5.wr W6 (Or.inl (List.mem_of_getElem? (i := 0) rfl))
  have N6 := Fr.snoc X6 N5 g_a
  refine Goes.pre (U' := T6.setTop (mkF m 35 #[.val (.ref a), .val (.ref la), .val (.ref pr), .val (.int s1), .val (.int s2), .val (.ref el)] [(.ref el), (.ref a)])) (fun t k => st6 t (XS.aloadN X6.here hx rfl (hb hby d11_32) rfl rfl (XS.aload X6.here hx rfl (hb hby d11_33) rfl rfl k))) ?_
  obtain ⟨T7, h7, X7, e7, W7, st7⟩ := putF X6 hx hZ hown (host := "") (Or.inl (wq hw 109 rfl)) Via.refl e6 F_children_a E_a (Or.inr ⟨(wq hw 110 rfl), rfl, hnm⟩) (wq hw 66 rfl) (ty := (.object "java/util/List")) (by decide) rfl rfl (g := (mkF m 35 #[.val (.ref a), .val (.ref la), .val (.ref pr), .val (.int s1), .val (.int s2), .val (.ref el)] [(.ref el), (.ref a)])) rfl rfl (hb hby d11_35)
  have E_a := E_a.wr W7
  have E_b := E_b.wr W7
  have F_size_b := F_size_b.other W7 (Or.inl ne_b_a)
  have F_label_a := F_label_a.other W7 (Or.inr (slot_ne (Or.inr (wq hw 102 rfl)) (Or.inr (wq hw 110 rfl)) (by decide) (t := (.object "com/example/restate/restate/plan/Label")) (t' := (.object "java/util/List")) (by decide) (by decide)))
  have F_printed_a := F_printed_a.other W7 (Or.inr (slot_ne (Or.inr (wq hw 104 rfl)) (Or.inr (wq hw 110 rfl)) (by decide) (t := (.object "com/example/restate/restate/plan/Label")) (t' := (.object "java/util/List")) (by decide) (by decide)))
  have F_start_a := F_start_a.other W7 (Or.inr (slot_ne (Or.inr (wq hw 106 rfl)) (Or.inr (wq hw 110 rfl)) (by decide) (t := .int) (t' := (.object "java/util/List")) (by decide) (by decide)))
  have F_end_a := F_end_a.other W7 (Or.inr (slot_ne (Or.inr (wq hw 108 rfl)) (Or.inr (wq hw 110 rfl)) (by decide) (t := .int) (t' := (.object "java/util/List")) (by decide) (by decide)))
  have Z7 : n0 ≤ h7.size := Nat.le_trans Z6 (Keep.of_wr W7).1
  have O := O.wr W7 g_a
  have F_children_a := F_children_a.same W7
  have K7 := K6.wr W7 (Or.inl (List.mem_of_getElem? (i := 0) rfl))
  have N7 := Fr.snoc X7 N6 g_a
  refine Goes.pre (U' := T7.setTop (mkF m 38 #[.val (.ref a), .val (.ref la), .val (.ref pr), .val (.int s1), .val (.int s2), .val (.ref el)] [])) (fun t k => st7 t k) ?_
  refine Goes.ret X7 (v := none) (fun _ => rfl) hlk (by decide) (by decide) e7 (fun fs hr => X7.returnOut hx hret (hb hby d11_38) hr) ?_
  exact ⟨rfl, N7, K7, F_label_a, F_printed_a, F_start_a, F_end_a, F_children_a⟩
theorem ef_rm_item10 (m : MethodId) (x0 : Addr) (x1 : Addr) (x3 : Int32) (x4 : Int32) (x5 : Addr) : entryFrame m #[(.ref x0), (.ref x1), .null, (.int x3), (.int x4), (.ref x5)] 6 = mkF m 0 #[.val (.ref x0), .val (.ref x1), .val .null, .val (.int x3), .val (.int x4), .val (.ref x5)] [] := by first | (simp [entryFrame, mkF, argsToLocals, Value.category]; done) | rfl
def Q_rm_item10 (Z : State) (a : Addr) (la : Addr) (s1 : Int32) (s2 : Int32) (b : Addr) (el : Addr) (h0 : Heap) (n0 : Nat) (v : Option Value) (h : Heap) (L : List Loc) : Prop := v = none ∧ Fr n0 L ∧ Keep h0 h [a] ∧ Fld Z h a "com/example/restate/restate/plan/Item" "label" "Lcom/example/restate/restate/plan/Label;" (.ref la) ∧ Fld Z h a "com/example/restate/restate/plan/Item" "printed" "Lcom/example/restate/restate/plan/Label;" .null ∧ Fld Z h a "com/example/restate/restate/plan/Item" "start" "I" (.int s1) ∧ Fld Z h a "com/example/restate/restate/plan/Item" "end" "I" (.int s2) ∧ Fld Z h a "com/example/restate/restate/plan/Item" "children" "Ljava/util/List;" (.ref el)
set_option maxRecDepth 65536 in
set_option maxHeartbeats 40000000 in
theorem rm_item10 (l : Launch) (Z : State) (a0 : Array Value) (hw : ∀ d ∈ tables_1, d.before a0 Z = true) (ws : List Jvm.Cond) (a : Addr) (la : Addr) (s1 : Int32) (s2 : Int32) (b : Addr) (el : Addr) (h0 : Heap) (n0 : Nat) (Z0 : n0 ≤ h0.size) (E_a : Exa Z h0 a "com/example/restate/restate/plan/Item") (E_b : Exa Z h0 b "java/util/ArrayList") (F_size_b : Fld Z h0 b "java/util/ArrayList" "size" "I" (.int (0 : Int32))) (S_EMPTY_LIST : Sta Z Z.heap "java/util/ImmutableCollections" "EMPTY_LIST" "Ljava/util/ImmutableCollections$ListN;" (.ref el)) (F_label_a : Fld Z h0 a "com/example/restate/restate/plan/Item" "label" "Lcom/example/restate/restate/plan/Label;" .null) (F_printed_a : Fld Z h0 a "com/example/restate/restate/plan/Item" "printed" "Lcom/example/restate/restate/plan/Label;" .null) (F_start_a : Fld Z h0 a "com/example/restate/restate/plan/Item" "start" "I" (.int (0 : Int32))) (F_end_a : Fld Z h0 a "com/example/restate/restate/plan/Item" "end" "I" (.int (0 : Int32))) (F_children_a : Fld Z h0 a "com/example/restate/restate/plan/Item" "children" "Ljava/util/List;" .null) (ne_a_b : a ≠ b) (ne_b_a : b ≠ a) (g_a : n0 ≤ a) (O : Old Z n0 h0) :
    Met l Z M11 prog_20_method_1_code 6 none ws (Rm 3 0 0 37) #[(.ref a), (.ref la), .null, (.int s1), (.int s2), (.ref b)] h0 (Q_rm_item10 Z a la s1 s2 b el h0 n0) := by
  refine met_of (plainFor_of_name pn_com_example_restate_restate_plan_Item) (own := "com/example/restate/restate/plan/Item") rfl (fun m => ef_rm_item10 m a la s1 s2 b) ?_
  intro p e s m below meth c s₁ hx hby hml hown hnm hZ X0 e0 hret hlk
  have N0 := Fr.nil n0
  have K0 := Keep.refl h0 [a]
  show Goes p e below s _ _ _ (s₁.setTop (mkF m 0 #[.val (.ref a), .val (.ref la), .val .null, .val (.int s1), .val (.int s2), .val (.ref b)] []))
  refine Goes.pre (U' := s₁.setTop (mkF m 1 #[.val (.ref a), .val (.ref la), .val .null, .val (.int s1), .val (.int s2), .val (.ref b)] [(.ref a)])) (fun t k => XS.aloadN X0.here hx rfl (hb hby d11_0) rfl rfl k) ?_
  obtain ⟨_, _, ⟨T1, L1, k1, n1⟩, -, X1, ⟨Lc1, hQ1, l1, y1, z1⟩, st1⟩ := X0.specialBack hx (y := (⟨"java/lang/Record", "<init>", "()V"⟩ : MethodName)) rfl hown (mvT hZ (wq hw 71 rfl)) (mvT hZ (wq hw 34 rfl)) (mvT hZ (wq hw 37 rfl)) (by decide) (backOf (W := 0) (rm_record l Z a0 hw [] a h0 n0 Z0 ) hZ (wq hw 37 rfl) (wq hw 36 rfl) (by decide) (by decide)) (g := (mkF m 1 #[.val (.ref a), .val (.ref la), .val .null, .val (.int s1), .val (.int s2), .val (.ref b)] [(.ref a)])) rfl (by rw [hml]; rfl) (Steps.refl _) (a := a) (argsL := []) (rest := []) (lenOf pd__28_29V rfl) rfl (by show 2 * 0 + _ ≤ _; exact Nat.le_of_eq rfl) (hb hby d11_1) (fun _ _ => ⟨rfl, e0, (by decide : 0 + 0 ≤ _), (by decide : 0 + 0 ≤ _)⟩)
  dsimp only [Pt.U, Pt.locs, Pt.cells, Pt.slots] at X1 l1 y1 z1 st1 hQ1
  subst l1 y1 z1
  obtain ⟨rfl, N1q, HQ1⟩ := hQ1
  have N1 := Fr.app N0 N1q
  refine Goes.pre (U' := T1.setTop (mkF m 6 #[.val (.ref a), .val (.ref la), .val .null, .val (.int s1), .val (.int s2), .val (.ref b)] [(.ref b)])) (fun t k => st1.trans (XS.aload X1.here hx rfl (hb hby d11_4) rfl rfl k)) ?_
  obtain ⟨_, _, ⟨T2, L2, k2, n2⟩, -, X2, ⟨Lc2, hQ2, l2, y2, z2⟩, st2⟩ := Jvm.LawKit.callS X1 hx (y := (⟨"java/util/List", "copyOf", "(Ljava/util/Collection;)Ljava/util/List;"⟩ : MethodName)) hown (mvT hZ (wq hw 72 rfl)) (mvT hZ (wq hw 73 rfl)) (mvT hZ (wq hw 74 rfl)) (mvT hZ (wq hw 75 rfl)) (by decide) (backOf (W := 0) (rm_co0 l Z a0 hw [] b el h0 n0 Z0 E_b F_size_b S_EMPTY_LIST O) hZ (wq hw 75 rfl) (wq hw 74 rfl) (by decide) (by decide)) (g := (mkF m 6 #[.val (.ref a), .val (.ref la), .val .null, .val (.int s1), .val (.int s2), .val (.ref b)] [(.ref b)])) rfl (by rw [hml]; rfl) (argsL := [(.ref b)]) (rest := []) (lenOf pd__28Ljava_2futil_2fCollection_3b_29Ljava_2futil_2fList_3b rfl) rfl (by show 2 * 0 + _ ≤ _; exact Nat.le_of_eq rfl) (hb hby d11_6) (fun _ _ => ⟨rfl, HQ1, (by decide : 0 + 0 ≤ _), (by decide : 0 + 0 ≤ _)⟩)
  dsimp only [Pt.U, Pt.locs, Pt.cells, Pt.slots] at X2 l2 y2 z2 st2 hQ2
  subst l2 y2 z2
  obtain ⟨rfl, N2q, HQ2⟩ := hQ2
  have N2 := Fr.app N1 N2q
  refine Goes.pre (U' := T2.setTop (mkF m 13 #[.val (.ref a), .val (.ref la), .val .null, .val (.int s1), .val (.int s2), .val (.ref el)] [(.ref la), (.ref a)])) (fun t k => st2 t (XS.astore X2.here hx rfl (hb hby d11_9) rfl rfl (l' := #[.val (.ref a), .val (.ref la), .val .null, .val (.int s1), .val (.int s2), .val (.ref el)]) rfl (XS.aloadN X2.here hx rfl (hb hby d11_11) rfl rfl (XS.aloadN X2.here hx rfl (hb hby d11_12) rfl rfl k)))) ?_
  obtain ⟨T3, h3, X3, e3, W3, st3⟩ := putF X2 hx hZ hown (host := "") (Or.inl (wq hw 101 rfl)) Via.refl HQ2 F_label_a E_a (Or.inr ⟨(wq hw 102 rfl), rfl, hnm⟩) (wq hw 66 rfl) (ty := (.object "com/example/restate/restate/plan/Label")) (by decide) rfl rfl (g := (mkF m 13 #[.val (.ref a), .val (.ref la), .val .null, .val (.int s1), .val (.int s2), .val (.ref el)] [(.ref la), (.ref a)])) rfl rfl (hb hby d11_13)
  have E_a := E_a.wr W3
  have E_b := E_b.wr W3
  have F_size_b := F_size_b.other W3 (Or.inl ne_b_a)
  have F_printed_a := F_printed_a.other W3 (Or.inr (slot_ne (Or.inr (wq hw 104 rfl)) (Or.inr (wq hw 102 rfl)) (by decide) (t := (.object "com/example/restate/restate/plan/Label")) (t' := (.object "com/example/restate/restate/plan/Label")) (by decide) (by decide)))
  have F_start_a := F_start_a.other W3 (Or.inr (slot_ne (Or.inr (wq hw 106 rfl)) (Or.inr (wq hw 102 rfl)) (by decide) (t := .int) (t' := (.object "com/example/restate/restate/plan/Label")) (by decide) (by decide)))
  have F_end_a := F_end_a.other W3 (Or.inr (slot_ne (Or.inr (wq hw 108 rfl)) (Or.inr (wq hw 102 rfl)) (by decide) (t := .int) (t' := (.object "com/example/restate/restate/plan/Label")) (by decide) (by decide)))
  have F_children_a := F_children_a.other W3 (Or.inr (slot_ne (Or.inr (wq hw 110 rfl)) (Or.inr (wq hw 102 rfl)) (by decide) (t := (.object "java/util/List")) (t' := (.object "com/example/restate/restate/plan/Label")) (by decide) (by decide)))
  have Z3 : n0 ≤ h3.size := Nat.le_trans Z0 (Keep.of_wr W3).1
  have O := O.wr W3 g_a
  have F_label_a := F_label_a.same W3
  have K3 := K0.wr W3 (Or.inl (List.mem_of_getElem? (i := 0) rfl))
  have N3 := Fr.snoc X3 N2 g_a
  refine Goes.pre (U' := T3.setTop (mkF m 18 #[.val (.ref a), .val (.ref la), .val .null, .val (.int s1), .val (.int s2), .val (.ref el)] [.null, (.ref a)])) (fun t k => st3 t (XS.aloadN X3.here hx rfl (hb hby d11_16) rfl rfl (XS.aloadN X3.here hx rfl (hb hby d11_17) rfl rfl k))) ?_
  obtain ⟨T4, h4, X4, e4, W4, st4⟩ := putF X3 hx hZ hown (host := "") (Or.inl (wq hw 103 rfl)) Via.refl e3 F_printed_a E_a (Or.inr ⟨(wq hw 104 rfl), rfl, hnm⟩) (wq hw 66 rfl) (ty := (.object "com/example/restate/restate/plan/Label")) (by decide) rfl rfl (g := (mkF m 18 #[.val (.ref a), .val (.ref la), .val .null, .val (.int s1), .val (.int s2), .val (.ref el)] [.null, (.ref a)])) rfl rfl (hb hby d11_18)
  have E_a := E_a.wr W4
  have E_b := E_b.wr W4
  have F_size_b := F_size_b.other W4 (Or.inl ne_b_a)
  have F_label_a := F_label_a.other W4 (Or.inr (slot_ne (Or.inr (wq hw 102 rfl)) (Or.inr (wq hw 104 rfl)) (by decide) (t := (.object "com/example/restate/restate/plan/Label")) (t' := (.object "com/example/restate/restate/plan/Label")) (by decide) (by decide)))
  have F_start_a := F_start_a.other W4 (Or.inr (slot_ne (Or.inr (wq hw 106 rfl)) (Or.inr (wq hw 104 rfl)) (by decide) (t := .int) (t' := (.object "com/example/restate/restate/plan/Label")) (by decide) (by decide)))
  have F_end_a := F_end_a.other W4 (Or.inr (slot_ne (Or.inr (wq hw 108 rfl)) (Or.inr (wq hw 104 rfl)) (by decide) (t := .int) (t' := (.object "com/example/restate/restate/plan/Label")) (by decide) (by decide)))
  have F_children_a := F_children_a.other W4 (Or.inr (slot_ne (Or.inr (wq hw 110 rfl)) (Or.inr (wq hw 104 rfl)) (by decide) (t := (.object "java/util/List")) (t' := (.object "com/example/restate/restate/plan/Label")) (by decide) (by decide)))
  have Z4 : n0 ≤ h4.size := Nat.le_trans Z3 (Keep.of_wr W4).1
  have O := O.wr W4 g_a
  have F_printed_a := F_printed_a.same W4
  have K4 := K3.wr W4 (Or.inl (List.mem_of_getElem? (i := 0) rfl))
  have N4 := Fr.snoc X4 N3 g_a
  refine Goes.pre (U' := T4.setTop (mkF m 23 #[.val (.ref a), .val (.ref la), .val .null, .val (.int s1), .val (.int s2), .val (.ref el)] [(.int s1), (.ref a)])) (fun t k => st4 t (XS.aloadN X4.here hx rfl (hb hby d11_21) rfl rfl (XS.iloadN X4.here hx rfl (hb hby d11_22) rfl k))) ?_
  obtain ⟨T5, h5, X5, e5, W5, st5⟩ := putF X4 hx hZ hown (host := "") (Or.inl (wq hw 105 rfl)) Via.refl e4 F_start_a E_a (Or.inr ⟨(wq hw 106 rfl), rfl, hnm⟩) (wq hw 66 rfl) (ty := .int) (by decide) rfl rfl (g := (mkF m 23 #[.val (.ref a), .val (.ref la), .val .null, .val (.int s1), .val (.int s2), .val (.ref el)] [(.int s1), (.ref a)])) rfl rfl (hb hby d11_23)
  have E_a := E_a.wr W5
  have E_b := E_b.wr W5
  have F_size_b := F_size_b.other W5 (Or.inl ne_b_a)
  have F_label_a := F_label_a.other W5 (Or.inr (slot_ne (Or.inr (wq hw 102 rfl)) (Or.inr (wq hw 106 rfl)) (by decide) (t := (.object "com/example/restate/restate/plan/Label")) (t' := .int) (by decide) (by decide)))
  have F_printed_a := F_printed_a.other W5 (Or.inr (slot_ne (Or.inr (wq hw 104 rfl)) (Or.inr (wq hw 106 rfl)) (by decide) (t := (.object "com/example/restate/restate/plan/Label")) (t' := .int) (by decide) (by decide)))
  have F_end_a := F_end_a.other W5 (Or.inr (slot_ne (Or.inr (wq hw 108 rfl)) (Or.inr (wq hw 106 rfl)) (by decide) (t := .int) (t' := .int) (by decide) (by decide)))
  have F_children_a := F_children_a.other W5 (Or.inr (slot_ne (Or.inr (wq hw 110 rfl)) (Or.inr (wq hw 106 rfl)) (by decide) (t := (.object "java/util/List")) (t' := .int) (by decide) (by decide)))
  have Z5 : n0 ≤ h5.size := Nat.le_trans Z4 (Keep.of_wr W5).1
  have O := O.wr W5 g_a
  have F_start_a := F_start_a.same W5
  have K5 := K4.wr W5 (Or.inl (List.mem_of_getElem? (i := 0) rfl))
  have N5 := Fr.snoc X5 N4 g_a
  refine Goes.pre (U' := T5.setTop (mkF m 29 #[.val (.ref a), .val (.ref la), .val .null, .val (.int s1), .val (.int s2), .val (.ref el)] [(.int s2), (.ref a)])) (fun t k => st5 t (XS.aloadN X5.here hx rfl (hb hby d11_26) rfl rfl (XS.iload X5.here hx rfl (hb hby d11_27) rfl k))) ?_
  obtain ⟨T6, h6, X6, e6, W6, st6⟩ := putF X5 hx hZ hown (host := "") (Or.inl (wq hw 107 rfl)) Via.refl e5 F_end_a E_a (Or.inr ⟨(wq hw 108 rfl), rfl, hnm⟩) (wq hw 66 rfl) (ty := .int) (by decide) rfl rfl (g := (mkF m 29 #[.val (.ref a), .val (.ref la), .val .null, .val (.int s1), .val (.int s2), .val (.ref el)] [(.int s2), (.ref a)])) rfl rfl (hb hby d11_29)
  have E_a := E_a.wr W6
  have E_b := E_b.wr W6
  have F_size_b := F_size_b.other W6 (Or.inl ne_b_a)
  have F_label_a := F_label_a.other W6 (Or.inr (slot_ne (Or.inr (wq hw 102 rfl)) (Or.inr (wq hw 108 rfl)) (by decide) (t := (.object "com/example/restate/restate/plan/Label")) (t' := .int) (by decide) (by decide)))
  have F_printed_a := F_printed_a.other W6 (Or.inr (slot_ne (Or.inr (wq hw 104 rfl)) (Or.inr (wq hw 108 rfl)) (by decide) (t := (.object "com/example/restate/restate/plan/Label")) (t' := .int) (by decide) (by decide)))
  have F_start_a := F_start_a.other W6 (Or.inr (slot_ne (Or.inr (wq hw 106 rfl)) (Or.inr (wq hw 108 rfl)) (by decide) (t := .int) (t' := .int) (by decide) (by decide)))
  have F_children_a := F_children_a.other W6 (Or.inr (slot_ne (Or.inr (wq hw 110 rfl)) (Or.inr (wq hw 108 rfl)) (by decide) (t := (.object "java/util/List")) (t' := .int) (by decide) (by decide)))
  have Z6 : n0 ≤ h6.size := Nat.le_trans Z5 (Keep.of_wr W6).1
  have O := O.wr W6 g_a
  have F_end_a := F_end_a.same W6
  have K6 := K5.wr W6 (Or.inl (List.mem_of_getElem? (i := 0) rfl))
  have N6 := Fr.snoc X6 N5 g_a
  refine Goes.pre (U' := T6.setTop (mkF m 35 #[.val (.ref a), .val (.ref la), .val .null, .val (.int s1), .val (.int s2), .val (.ref el)] [(.ref el), (.ref a)])) (fun t k => st6 t (XS.aloadN X6.here hx rfl (hb hby d11_32) rfl rfl (XS.aload X6.here hx rfl (hb hby d11_33) rfl rfl k))) ?_
  obtain ⟨T7, h7, X7, e7, W7, st7⟩ := putF X6 hx hZ hown (host := "") (Or.inl (wq hw 109 rfl)) Via.refl e6 F_children_a E_a (Or.inr ⟨(wq hw 110 rfl), rfl, hnm⟩) (wq hw 66 rfl) (ty := (.object "java/util/List")) (by decide) rfl rfl (g := (mkF m 35 #[.val (.ref a), .val (.ref la), .val .null, .val (.int s1), .val (.int s2), .val (.ref el)] [(.ref el), (.ref a)])) rfl rfl (hb hby d11_35)
  have E_a := E_a.wr W7
  have E_b := E_b.wr W7
  have F_size_b := F_size_b.other W7 (Or.inl ne_b_a)
  have F_label_a := F_label_a.other W7 (Or.inr (slot_ne (Or.inr (wq hw 102 rfl)) (Or.inr (wq hw 110 rfl)) (by decide) (t := (.object "com/example/restate/restate/plan/Label")) (t' := (.object "java/util/List")) (by decide) (by decide)))
  have F_printed_a := F_printed_a.other W7 (Or.inr (slot_ne (Or.inr (wq hw 104 rfl)) (Or.inr (wq hw 110 rfl)) (by decide) (t := (.object "com/example/restate/restate/plan/Label")) (t' := (.object "java/util/List")) (by decide) (by decide)))
  have F_start_a := F_start_a.other W7 (Or.inr (slot_ne (Or.inr (wq hw 106 rfl)) (Or.inr (wq hw 110 rfl)) (by decide) (t := .int) (t' := (.object "java/util/List")) (by decide) (by decide)))
  have F_end_a := F_end_a.other W7 (Or.inr (slot_ne (Or.inr (wq hw 108 rfl)) (Or.inr (wq hw 110 rfl)) (by decide) (t := .int) (t' := (.object "java/util/List")) (by decide) (by decide)))
  have Z7 : n0 ≤ h7.size := Nat.le_trans Z6 (Keep.of_wr W7).1
  have O := O.wr W7 g_a
  have F_children_a := F_children_a.same W7
  have K7 := K6.wr W7 (Or.inl (List.mem_of_getElem? (i := 0) rfl))
  have N7 := Fr.snoc X7 N6 g_a
  refine Goes.pre (U' := T7.setTop (mkF m 38 #[.val (.ref a), .val (.ref la), .val .null, .val (.int s1), .val (.int s2), .val (.ref el)] [])) (fun t k => st7 t k) ?_
  refine Goes.ret X7 (v := none) (fun _ => rfl) hlk (by decide) (by decide) e7 (fun fs hr => X7.returnOut hx hret (hb hby d11_38) hr) ?_
  exact ⟨rfl, N7, K7, F_label_a, F_printed_a, F_start_a, F_end_a, F_children_a⟩
theorem ef_rm_item01 (m : MethodId) (x0 : Addr) (x2 : Addr) (x3 : Int32) (x4 : Int32) (x5 : Addr) : entryFrame m #[(.ref x0), .null, (.ref x2), (.int x3), (.int x4), (.ref x5)] 6 = mkF m 0 #[.val (.ref x0), .val .null, .val (.ref x2), .val (.int x3), .val (.int x4), .val (.ref x5)] [] := by first | (simp [entryFrame, mkF, argsToLocals, Value.category]; done) | rfl
def Q_rm_item01 (Z : State) (a : Addr) (pr : Addr) (s1 : Int32) (s2 : Int32) (b : Addr) (el : Addr) (h0 : Heap) (n0 : Nat) (v : Option Value) (h : Heap) (L : List Loc) : Prop := v = none ∧ Fr n0 L ∧ Keep h0 h [a] ∧ Fld Z h a "com/example/restate/restate/plan/Item" "label" "Lcom/example/restate/restate/plan/Label;" .null ∧ Fld Z h a "com/example/restate/restate/plan/Item" "printed" "Lcom/example/restate/restate/plan/Label;" (.ref pr) ∧ Fld Z h a "com/example/restate/restate/plan/Item" "start" "I" (.int s1) ∧ Fld Z h a "com/example/restate/restate/plan/Item" "end" "I" (.int s2) ∧ Fld Z h a "com/example/restate/restate/plan/Item" "children" "Ljava/util/List;" (.ref el)
set_option maxRecDepth 65536 in
set_option maxHeartbeats 40000000 in
theorem rm_item01 (l : Launch) (Z : State) (a0 : Array Value) (hw : ∀ d ∈ tables_1, d.before a0 Z = true) (ws : List Jvm.Cond) (a : Addr) (pr : Addr) (s1 : Int32) (s2 : Int32) (b : Addr) (el : Addr) (h0 : Heap) (n0 : Nat) (Z0 : n0 ≤ h0.size) (E_a : Exa Z h0 a "com/example/restate/restate/plan/Item") (E_b : Exa Z h0 b "java/util/ArrayList") (F_size_b : Fld Z h0 b "java/util/ArrayList" "size" "I" (.int (0 : Int32))) (S_EMPTY_LIST : Sta Z Z.heap "java/util/ImmutableCollections" "EMPTY_LIST" "Ljava/util/ImmutableCollections$ListN;" (.ref el)) (F_label_a : Fld Z h0 a "com/example/restate/restate/plan/Item" "label" "Lcom/example/restate/restate/plan/Label;" .null) (F_printed_a : Fld Z h0 a "com/example/restate/restate/plan/Item" "printed" "Lcom/example/restate/restate/plan/Label;" .null) (F_start_a : Fld Z h0 a "com/example/restate/restate/plan/Item" "start" "I" (.int (0 : Int32))) (F_end_a : Fld Z h0 a "com/example/restate/restate/plan/Item" "end" "I" (.int (0 : Int32))) (F_children_a : Fld Z h0 a "com/example/restate/restate/plan/Item" "children" "Ljava/util/List;" .null) (ne_a_b : a ≠ b) (ne_b_a : b ≠ a) (g_a : n0 ≤ a) (O : Old Z n0 h0) :
    Met l Z M11 prog_20_method_1_code 6 none ws (Rm 3 0 0 37) #[(.ref a), .null, (.ref pr), (.int s1), (.int s2), (.ref b)] h0 (Q_rm_item01 Z a pr s1 s2 b el h0 n0) := by
  refine met_of (plainFor_of_name pn_com_example_restate_restate_plan_Item) (own := "com/example/restate/restate/plan/Item") rfl (fun m => ef_rm_item01 m a pr s1 s2 b) ?_
  intro p e s m below meth c s₁ hx hby hml hown hnm hZ X0 e0 hret hlk
  have N0 := Fr.nil n0
  have K0 := Keep.refl h0 [a]
  show Goes p e below s _ _ _ (s₁.setTop (mkF m 0 #[.val (.ref a), .val .null, .val (.ref pr), .val (.int s1), .val (.int s2), .val (.ref b)] []))
  refine Goes.pre (U' := s₁.setTop (mkF m 1 #[.val (.ref a), .val .null, .val (.ref pr), .val (.int s1), .val (.int s2), .val (.ref b)] [(.ref a)])) (fun t k => XS.aloadN X0.here hx rfl (hb hby d11_0) rfl rfl k) ?_
  obtain ⟨_, _, ⟨T1, L1, k1, n1⟩, -, X1, ⟨Lc1, hQ1, l1, y1, z1⟩, st1⟩ := X0.specialBack hx (y := (⟨"java/lang/Record", "<init>", "()V"⟩ : MethodName)) rfl hown (mvT hZ (wq hw 71 rfl)) (mvT hZ (wq hw 34 rfl)) (mvT hZ (wq hw 37 rfl)) (by decide) (backOf (W := 0) (rm_record l Z a0 hw [] a h0 n0 Z0 ) hZ (wq hw 37 rfl) (wq hw 36 rfl) (by decide) (by decide)) (g := (mkF m 1 #[.val (.ref a), .val .null, .val (.ref pr), .val (.int s1), .val (.int s2), .val (.ref b)] [(.ref a)])) rfl (by rw [hml]; rfl) (Steps.refl _) (a := a) (argsL := []) (rest := []) (lenOf pd__28_29V rfl) rfl (by show 2 * 0 + _ ≤ _; exact Nat.le_of_eq rfl) (hb hby d11_1) (fun _ _ => ⟨rfl, e0, (by decide : 0 + 0 ≤ _), (by decide : 0 + 0 ≤ _)⟩)
  dsimp only [Pt.U, Pt.locs, Pt.cells, Pt.slots] at X1 l1 y1 z1 st1 hQ1
  subst l1 y1 z1
  obtain ⟨rfl, N1q, HQ1⟩ := hQ1
  have N1 := Fr.app N0 N1q
  refine Goes.pre (U' := T1.setTop (mkF m 6 #[.val (.ref a), .val .null, .val (.ref pr), .val (.int s1), .val (.int s2), .val (.ref b)] [(.ref b)])) (fun t k => st1.trans (XS.aload X1.here hx rfl (hb hby d11_4) rfl rfl k)) ?_
  obtain ⟨_, _, ⟨T2, L2, k2, n2⟩, -, X2, ⟨Lc2, hQ2, l2, y2, z2⟩, st2⟩ := Jvm.LawKit.callS X1 hx (y := (⟨"java/util/List", "copyOf", "(Ljava/util/Collection;)Ljava/util/List;"⟩ : MethodName)) hown (mvT hZ (wq hw 72 rfl)) (mvT hZ (wq hw 73 rfl)) (mvT hZ (wq hw 74 rfl)) (mvT hZ (wq hw 75 rfl)) (by decide) (backOf (W := 0) (rm_co0 l Z a0 hw [] b el h0 n0 Z0 E_b F_size_b S_EMPTY_LIST O) hZ (wq hw 75 rfl) (wq hw 74 rfl) (by decide) (by decide)) (g := (mkF m 6 #[.val (.ref a), .val .null, .val (.ref pr), .val (.int s1), .val (.int s2), .val (.ref b)] [(.ref b)])) rfl (by rw [hml]; rfl) (argsL := [(.ref b)]) (rest := []) (lenOf pd__28Ljava_2futil_2fCollection_3b_29Ljava_2futil_2fList_3b rfl) rfl (by show 2 * 0 + _ ≤ _; exact Nat.le_of_eq rfl) (hb hby d11_6) (fun _ _ => ⟨rfl, HQ1, (by decide : 0 + 0 ≤ _), (by decide : 0 + 0 ≤ _)⟩)
  dsimp only [Pt.U, Pt.locs, Pt.cells, Pt.slots] at X2 l2 y2 z2 st2 hQ2
  subst l2 y2 z2
  obtain ⟨rfl, N2q, HQ2⟩ := hQ2
  have N2 := Fr.app N1 N2q
  refine Goes.pre (U' := T2.setTop (mkF m 13 #[.val (.ref a), .val .null, .val (.ref pr), .val (.int s1), .val (.int s2), .val (.ref el)] [.null, (.ref a)])) (fun t k => st2 t (XS.astore X2.here hx rfl (hb hby d11_9) rfl rfl (l' := #[.val (.ref a), .val .null, .val (.ref pr), .val (.int s1), .val (.int s2), .val (.ref el)]) rfl (XS.aloadN X2.here hx rfl (hb hby d11_11) rfl rfl (XS.aloadN X2.here hx rfl (hb hby d11_12) rfl rfl k)))) ?_
  obtain ⟨T3, h3, X3, e3, W3, st3⟩ := putF X2 hx hZ hown (host := "") (Or.inl (wq hw 101 rfl)) Via.refl HQ2 F_label_a E_a (Or.inr ⟨(wq hw 102 rfl), rfl, hnm⟩) (wq hw 66 rfl) (ty := (.object "com/example/restate/restate/plan/Label")) (by decide) rfl rfl (g := (mkF m 13 #[.val (.ref a), .val .null, .val (.ref pr), .val (.int s1), .val (.int s2), .val (.ref el)] [.null, (.ref a)])) rfl rfl (hb hby d11_13)
  have E_a := E_a.wr W3
  have E_b := E_b.wr W3
  have F_size_b := F_size_b.other W3 (Or.inl ne_b_a)
  have F_printed_a := F_printed_a.other W3 (Or.inr (slot_ne (Or.inr (wq hw 104 rfl)) (Or.inr (wq hw 102 rfl)) (by decide) (t := (.object "com/example/restate/restate/plan/Label")) (t' := (.object "com/example/restate/restate/plan/Label")) (by decide) (by decide)))
  have F_start_a := F_start_a.other W3 (Or.inr (slot_ne (Or.inr (wq hw 106 rfl)) (Or.inr (wq hw 102 rfl)) (by decide) (t := .int) (t' := (.object "com/example/restate/restate/plan/Label")) (by decide) (by decide)))
  have F_end_a := F_end_a.other W3 (Or.inr (slot_ne (Or.inr (wq hw 108 rfl)) (Or.inr (wq hw 102 rfl)) (by decide) (t := .int) (t' := (.object "com/example/restate/restate/plan/Label")) (by decide) (by decide)))
  have F_children_a := F_children_a.other W3 (Or.inr (slot_ne (Or.inr (wq hw 110 rfl)) (Or.inr (wq hw 102 rfl)) (by decide) (t := (.object "java/util/List")) (t' := (.object "com/example/restate/restate/plan/Label")) (by decide) (by decide)))
  have Z3 : n0 ≤ h3.size := Nat.le_trans Z0 (Keep.of_wr W3).1
  have O := O.wr W3 g_a
  have F_label_a := F_label_a.same W3
  have K3 := K0.wr W3 (Or.inl (List.mem_of_getElem? (i := 0) rfl))
  have N3 := Fr.snoc X3 N2 g_a
  refine Goes.pre (U' := T3.setTop (mkF m 18 #[.val (.ref a), .val .null, .val (.ref pr), .val (.int s1), .val (.int s2), .val (.ref el)] [(.ref pr), (.ref a)])) (fun t k => st3 t (XS.aloadN X3.here hx rfl (hb hby d11_16) rfl rfl (XS.aloadN X3.here hx rfl (hb hby d11_17) rfl rfl k))) ?_
  obtain ⟨T4, h4, X4, e4, W4, st4⟩ := putF X3 hx hZ hown (host := "") (Or.inl (wq hw 103 rfl)) Via.refl e3 F_printed_a E_a (Or.inr ⟨(wq hw 104 rfl), rfl, hnm⟩) (wq hw 66 rfl) (ty := (.object "com/example/restate/restate/plan/Label")) (by decide) rfl rfl (g := (mkF m 18 #[.val (.ref a), .val .null, .val (.ref pr), .val (.int s1), .val (.int s2), .val (.ref el)] [(.ref pr), (.ref a)])) rfl rfl (hb hby d11_18)
  have E_a := E_a.wr W4
  have E_b := E_b.wr W4
  have F_size_b := F_size_b.other W4 (Or.inl ne_b_a)
  have F_label_a := F_label_a.other W4 (Or.inr (slot_ne (Or.inr (wq hw 102 rfl)) (Or.inr (wq hw 104 rfl)) (by decide) (t := (.object "com/example/restate/restate/plan/Label")) (t' := (.object "com/example/restate/restate/plan/Label")) (by decide) (by decide)))
  have F_start_a := F_start_a.other W4 (Or.inr (slot_ne (Or.inr (wq hw 106 rfl)) (Or.inr (wq hw 104 rfl)) (by decide) (t := .int) (t' := (.object "com/example/restate/restate/plan/Label")) (by decide) (by decide)))
  have F_end_a := F_end_a.other W4 (Or.inr (slot_ne (Or.inr (wq hw 108 rfl)) (Or.inr (wq hw 104 rfl)) (by decide) (t := .int) (t' := (.object "com/example/restate/restate/plan/Label")) (by decide) (by decide)))
  have F_children_a := F_children_a.other W4 (Or.inr (slot_ne (Or.inr (wq hw 110 rfl)) (Or.inr (wq hw 104 rfl)) (by decide) (t := (.object "java/util/List")) (t' := (.object "com/example/restate/restate/plan/Label")) (by decide) (by decide)))
  have Z4 : n0 ≤ h4.size := Nat.le_trans Z3 (Keep.of_wr W4).1
  have O := O.wr W4 g_a
  have F_printed_a := F_printed_a.same W4
  have K4 := K3.wr W4 (Or.inl (List.mem_of_getElem? (i := 0) rfl))
  have N4 := Fr.snoc X4 N3 g_a
  refine Goes.pre (U' := T4.setTop (mkF m 23 #[.val (.ref a), .val .null, .val (.ref pr), .val (.int s1), .val (.int s2), .val (.ref el)] [(.int s1), (.ref a)])) (fun t k => st4 t (XS.aloadN X4.here hx rfl (hb hby d11_21) rfl rfl (XS.iloadN X4.here hx rfl (hb hby d11_22) rfl k))) ?_
  obtain ⟨T5, h5, X5, e5, W5, st5⟩ := putF X4 hx hZ hown (host := "") (Or.inl (wq hw 105 rfl)) Via.refl e4 F_start_a E_a (Or.inr ⟨(wq hw 106 rfl), rfl, hnm⟩) (wq hw 66 rfl) (ty := .int) (by decide) rfl rfl (g := (mkF m 23 #[.val (.ref a), .val .null, .val (.ref pr), .val (.int s1), .val (.int s2), .val (.ref el)] [(.int s1), (.ref a)])) rfl rfl (hb hby d11_23)
  have E_a := E_a.wr W5
  have E_b := E_b.wr W5
  have F_size_b := F_size_b.other W5 (Or.inl ne_b_a)
  have F_label_a := F_label_a.other W5 (Or.inr (slot_ne (Or.inr (wq hw 102 rfl)) (Or.inr (wq hw 106 rfl)) (by decide) (t := (.object "com/example/restate/restate/plan/Label")) (t' := .int) (by decide) (by decide)))
  have F_printed_a := F_printed_a.other W5 (Or.inr (slot_ne (Or.inr (wq hw 104 rfl)) (Or.inr (wq hw 106 rfl)) (by decide) (t := (.object "com/example/restate/restate/plan/Label")) (t' := .int) (by decide) (by decide)))
  have F_end_a := F_end_a.other W5 (Or.inr (slot_ne (Or.inr (wq hw 108 rfl)) (Or.inr (wq hw 106 rfl)) (by decide) (t := .int) (t' := .int) (by decide) (by decide)))
  have F_children_a := F_children_a.other W5 (Or.inr (slot_ne (Or.inr (wq hw 110 rfl)) (Or.inr (wq hw 106 rfl)) (by decide) (t := (.object "java/util/List")) (t' := .int) (by decide) (by decide)))
  have Z5 : n0 ≤ h5.size := Nat.le_trans Z4 (Keep.of_wr W5).1
  have O := O.wr W5 g_a
  have F_start_a := F_start_a.same W5
  have K5 := K4.wr W5 (Or.inl (List.mem_of_getElem? (i := 0) rfl))
  have N5 := Fr.snoc X5 N4 g_a
  refine Goes.pre (U' := T5.setTop (mkF m 29 #[.val (.ref a), .val .null, .val (.ref pr), .val (.int s1), .val (.int s2), .val (.ref el)] [(.int s2), (.ref a)])) (fun t k => st5 t (XS.aloadN X5.here hx rfl (hb hby d11_26) rfl rfl (XS.iload X5.here hx rfl (hb hby d11_27) rfl k))) ?_
  obtain ⟨T6, h6, X6, e6, W6, st6⟩ := putF X5 hx hZ hown (host := "") (Or.inl (wq hw 107 rfl)) Via.refl e5 F_end_a E_a (Or.inr ⟨(wq hw 108 rfl), rfl, hnm⟩) (wq hw 66 rfl) (ty := .int) (by decide) rfl rfl (g := (mkF m 29 #[.val (.ref a), .val .null, .val (.ref pr), .val (.int s1), .val (.int s2), .val (.ref el)] [(.int s2), (.ref a)])) rfl rfl (hb hby d11_29)
  have E_a := E_a.wr W6
  have E_b := E_b.wr W6
  have F_size_b := F_size_b.other W6 (Or.inl ne_b_a)
  have F_label_a := F_label_a.other W6 (Or.inr (slot_ne (Or.inr (wq hw 102 rfl)) (Or.inr (wq hw 108 rfl)) (by decide) (t := (.object "com/example/restate/restate/plan/Label")) (t' := .int) (by decide) (by decide)))
  have F_printed_a := F_printed_a.other W6 (Or.inr (slot_ne (Or.inr (wq hw 104 rfl)) (Or.inr (wq hw 108 rfl)) (by decide) (t := (.object "com/example/restate/restate/plan/Label")) (t' := .int) (by decide) (by decide)))
  have F_start_a := F_start_a.other W6 (Or.inr (slot_ne (Or.inr (wq hw 106 rfl)) (Or.inr (wq hw 108 rfl)) (by decide) (t := .int) (t' := .int) (by decide) (by decide)))
  have F_children_a := F_children_a.other W6 (Or.inr (slot_ne (Or.inr (wq hw 110 rfl)) (Or.inr (wq hw 108 rfl)) (by decide) (t := (.object "java/util/List")) (t' := .int) (by decide) (by decide)))
  have Z6 : n0 ≤ h6.size := Nat.le_trans Z5 (Keep.of_wr W6).1
  have O := O.wr W6 g_a
  have F_end_a := F_end_a.same W6
  have K6 := K5.wr W6 (Or.inl (List.mem_of_getElem? (i := 0) rfl))
  have N6 := Fr.snoc X6 N5 g_a
  refine Goes.pre (U' := T6.setTop (mkF m 35 #[.val (.ref a), .val .null, .val (.ref pr), .val (.int s1), .val (.int s2), .val (.ref el)] [(.ref el), (.ref a)])) (fun t k => st6 t (XS.aloadN X6.here hx rfl (hb hby d11_32) rfl rfl (XS.aload X6.here hx rfl (hb hby d11_33) rfl rfl k))) ?_
  obtain ⟨T7, h7, X7, e7, W7, st7⟩ := putF X6 hx hZ hown (host := "") (Or.inl (wq hw 109 rfl)) Via.refl e6 F_children_a E_a (Or.inr ⟨(wq hw 110 rfl), rfl, hnm⟩) (wq hw 66 rfl) (ty := (.object "java/util/List")) (by decide) rfl rfl (g := (mkF m 35 #[.val (.ref a), .val .null, .val (.ref pr), .val (.int s1), .val (.int s2), .val (.ref el)] [(.ref el), (.ref a)])) rfl rfl (hb hby d11_35)
  have E_a := E_a.wr W7
  have E_b := E_b.wr W7
  have F_size_b := F_size_b.other W7 (Or.inl ne_b_a)
  have F_label_a := F_label_a.other W7 (Or.inr (slot_ne (Or.inr (wq hw 102 rfl)) (Or.inr (wq hw 110 rfl)) (by decide) (t := (.object "com/example/restate/restate/plan/Label")) (t' := (.object "java/util/List")) (by decide) (by decide)))
  have F_printed_a := F_printed_a.other W7 (Or.inr (slot_ne (Or.inr (wq hw 104 rfl)) (Or.inr (wq hw 110 rfl)) (by decide) (t := (.object "com/example/restate/restate/plan/Label")) (t' := (.object "java/util/List")) (by decide) (by decide)))
  have F_start_a := F_start_a.other W7 (Or.inr (slot_ne (Or.inr (wq hw 106 rfl)) (Or.inr (wq hw 110 rfl)) (by decide) (t := .int) (t' := (.object "java/util/List")) (by decide) (by decide)))
  have F_end_a := F_end_a.other W7 (Or.inr (slot_ne (Or.inr (wq hw 108 rfl)) (Or.inr (wq hw 110 rfl)) (by decide) (t := .int) (t' := (.object "java/util/List")) (by decide) (by decide)))
  have Z7 : n0 ≤ h7.size := Nat.le_trans Z6 (Keep.of_wr W7).1
  have O := O.wr W7 g_a
  have F_children_a := F_children_a.same W7
  have K7 := K6.wr W7 (Or.inl (List.mem_of_getElem? (i := 0) rfl))
  have N7 := Fr.snoc X7 N6 g_a
  refine Goes.pre (U' := T7.setTop (mkF m 38 #[.val (.ref a), .val .null, .val (.ref pr), .val (.int s1), .val (.int s2), .val (.ref el)] [])) (fun t k => st7 t k) ?_
  refine Goes.ret X7 (v := none) (fun _ => rfl) hlk (by decide) (by decide) e7 (fun fs hr => X7.returnOut hx hret (hb hby d11_38) hr) ?_
  exact ⟨rfl, N7, K7, F_label_a, F_printed_a, F_start_a, F_end_a, F_children_a⟩
theorem ef_rm_itemP (m : MethodId) (x0 : Addr) (x3 : Int32) (x4 : Int32) (x5 : Addr) : entryFrame m #[(.ref x0), .null, .null, (.int x3), (.int x4), (.ref x5)] 6 = mkF m 0 #[.val (.ref x0), .val .null, .val .null, .val (.int x3), .val (.int x4), .val (.ref x5)] [] := by first | (simp [entryFrame, mkF, argsToLocals, Value.category]; done) | rfl
def Q_rm_itemP (Z : State) (a : Addr) (s1 : Int32) (s2 : Int32) (b : Addr) (d : Addr) (kb : ClassId) (y : Addr) (mr : Addr) (em : Addr) (h0 : Heap) (n0 : Nat) (v : Option Value) (h : Heap) (L : List Loc) : Prop := ∃ (r : Addr), v = none ∧ Fr n0 L ∧ Keep h0 h [a] ∧ Fld Z h a "com/example/restate/restate/plan/Item" "label" "Lcom/example/restate/restate/plan/Label;" .null ∧ Fld Z h a "com/example/restate/restate/plan/Item" "printed" "Lcom/example/restate/restate/plan/Label;" .null ∧ Fld Z h a "com/example/restate/restate/plan/Item" "start" "I" (.int s1) ∧ Fld Z h a "com/example/restate/restate/plan/Item" "end" "I" (.int s2) ∧ Fld Z h a "com/example/restate/restate/plan/Item" "children" "Ljava/util/List;" (.ref r) ∧ Exa Z h r "java/util/ImmutableCollections$List12" ∧ Fld Z h r "java/util/ImmutableCollections$List12" "e0" "Ljava/lang/Object;" (.ref y) ∧ Fld Z h r "java/util/ImmutableCollections$List12" "e1" "Ljava/lang/Object;" (.ref em) ∧ n0 ≤ r ∧ h0.size ≤ r
set_option maxRecDepth 65536 in
set_option maxHeartbeats 40000000 in
theorem rm_itemP (l : Launch) (Z : State) (a0 : Array Value) (hw : ∀ d ∈ tables_1, d.before a0 Z = true) (ws : List Jvm.Cond) (a : Addr) (s1 : Int32) (s2 : Int32) (b : Addr) (d : Addr) (kb : ClassId) (y : Addr) (mr : Addr) (em : Addr) (h0 : Heap) (n0 : Nat) (Z0 : n0 ≤ h0.size) (E_b : Exa Z h0 b "java/util/ArrayList") (F_size_b : Fld Z h0 b "java/util/ArrayList" "size" "I" (.int (1 : Int32))) (F_elementData_b : Fld Z h0 b "java/util/ArrayList" "elementData" "[Ljava/lang/Object;" (.ref d)) (E_d : Exa Z h0 d "[Ljava/lang/Object;") (V_d : Arv Z h0 d kb (.object "java/lang/Object") (10 : Int32) [(.ref y), .null, .null, .null, .null, .null, .null, .null, .null, .null] .null) (E_y : Exa Z h0 y "com/example/restate/restate/plan/Item") (M__Ljava_lang_Object_ : OwnMir Z "[Ljava/lang/Object;" mr) (S_EMPTY : Sta Z Z.heap "java/util/ImmutableCollections" "EMPTY" "Ljava/lang/Object;" (.ref em)) (E_a : Exa Z h0 a "com/example/restate/restate/plan/Item") (F_label_a : Fld Z h0 a "com/example/restate/restate/plan/Item" "label" "Lcom/example/restate/restate/plan/Label;" .null) (F_printed_a : Fld Z h0 a "com/example/restate/restate/plan/Item" "printed" "Lcom/example/restate/restate/plan/Label;" .null) (F_start_a : Fld Z h0 a "com/example/restate/restate/plan/Item" "start" "I" (.int (0 : Int32))) (F_end_a : Fld Z h0 a "com/example/restate/restate/plan/Item" "end" "I" (.int (0 : Int32))) (F_children_a : Fld Z h0 a "com/example/restate/restate/plan/Item" "children" "Ljava/util/List;" .null) (ne_b_a : b ≠ a) (ne_d_a : d ≠ a) (ne_y_a : y ≠ a) (g_a : n0 ≤ a) (O : Old Z n0 h0) :
    Met l Z M11 prog_20_method_1_code 6 none ws (Rm 8 2 3 100) #[(.ref a), .null, .null, (.int s1), (.int s2), (.ref b)] h0 (Q_rm_itemP Z a s1 s2 b d kb y mr em h0 n0) := by
  refine met_of (plainFor_of_name pn_com_example_restate_restate_plan_Item) (own := "com/example/restate/restate/plan/Item") rfl (fun m => ef_rm_itemP m a s1 s2 b) ?_
  intro p e s m below meth c s₁ hx hby hml hown hnm hZ X0 e0 hret hlk
  have N0 := Fr.nil n0
  have K0 := Keep.refl h0 [a]
  show Goes p e below s _ _ _ (s₁.setTop (mkF m 0 #[.val (.ref a), .val .null, .val .null, .val (.int s1), .val (.int s2), .val (.ref b)] []))
  refine Goes.pre (U' := s₁.setTop (mkF m 1 #[.val (.ref a), .val .null, .val .null, .val (.int s1), .val (.int s2), .val (.ref b)] [(.ref a)])) (fun t k => XS.aloadN X0.here hx rfl (hb hby d11_0) rfl rfl k) ?_
  obtain ⟨_, _, ⟨T1, L1, k1, n1⟩, -, X1, ⟨Lc1, hQ1, l1, y1, z1⟩, st1⟩ := X0.specialBack hx (y := (⟨"java/lang/Record", "<init>", "()V"⟩ : MethodName)) rfl hown (mvT hZ (wq hw 71 rfl)) (mvT hZ (wq hw 34 rfl)) (mvT hZ (wq hw 37 rfl)) (by decide) (backOf (W := 0) (rm_record l Z a0 hw [] a h0 n0 Z0 ) hZ (wq hw 37 rfl) (wq hw 36 rfl) (by decide) (by decide)) (g := (mkF m 1 #[.val (.ref a), .val .null, .val .null, .val (.int s1), .val (.int s2), .val (.ref b)] [(.ref a)])) rfl (by rw [hml]; rfl) (Steps.refl _) (a := a) (argsL := []) (rest := []) (lenOf pd__28_29V rfl) rfl (by show 2 * 0 + _ ≤ _; exact Nat.le_of_eq rfl) (hb hby d11_1) (fun _ _ => ⟨rfl, e0, (by decide : 0 + 0 ≤ _), (by decide : 0 + 0 ≤ _)⟩)
  dsimp only [Pt.U, Pt.locs, Pt.cells, Pt.slots] at X1 l1 y1 z1 st1 hQ1
  subst l1 y1 z1
  obtain ⟨rfl, N1q, HQ1⟩ := hQ1
  have N1 := Fr.app N0 N1q
  refine Goes.pre (U' := T1.setTop (mkF m 6 #[.val (.ref a), .val .null, .val .null, .val (.int s1), .val (.int s2), .val (.ref b)] [(.ref b)])) (fun t k => st1.trans (XS.aload X1.here hx rfl (hb hby d11_4) rfl rfl k)) ?_
  have lt_a := E_a.lt
  have lt_b := E_b.lt
  have lt_d := E_d.lt
  have lt_y := E_y.lt
  obtain ⟨_, _, ⟨T2, L2, k2, n2⟩, -, X2, ⟨Lc2, hQ2, l2, y2, z2⟩, st2⟩ := Jvm.LawKit.callS X1 hx (y := (⟨"java/util/List", "copyOf", "(Ljava/util/Collection;)Ljava/util/List;"⟩ : MethodName)) hown (mvT hZ (wq hw 72 rfl)) (mvT hZ (wq hw 73 rfl)) (mvT hZ (wq hw 74 rfl)) (mvT hZ (wq hw 75 rfl)) (by decide) (backOf (W := 0) (rm_co1 l Z a0 hw [] b d kb y mr em h0 n0 Z0 E_d V_d E_y M__Ljava_lang_Object_ E_b F_size_b F_elementData_b S_EMPTY O) hZ (wq hw 75 rfl) (wq hw 74 rfl) (by decide) (by decide)) (g := (mkF m 6 #[.val (.ref a), .val .null, .val .null, .val (.int s1), .val (.int s2), .val (.ref b)] [(.ref b)])) rfl (by rw [hml]; rfl) (argsL := [(.ref b)]) (rest := []) (lenOf pd__28Ljava_2futil_2fCollection_3b_29Ljava_2futil_2fList_3b rfl) rfl (by show 2 * 0 + _ ≤ _; exact Nat.le_of_eq rfl) (hb hby d11_6) (fun _ _ => ⟨rfl, HQ1, (by decide : 0 + 2 ≤ _), (by decide : 0 + 3 ≤ _)⟩)
  dsimp only [Pt.U, Pt.locs, Pt.cells, Pt.slots] at X2 l2 y2 z2 st2 hQ2
  subst l2 y2 z2
  obtain ⟨r2, rfl, N2q, KQ2, fo0_2, fo1_2, fo2_2, g_r2, sl_r2⟩ := hQ2
  have N2 := Fr.app N1 N2q
  have E_b := E_b.keep KQ2
  have F_size_b := F_size_b.keep KQ2 nin0
  have F_elementData_b := F_elementData_b.keep KQ2 nin0
  have E_d := E_d.keep KQ2
  have V_d := V_d.keep KQ2 nin0
  have E_y := E_y.keep KQ2
  have E_a := E_a.keep KQ2
  have F_label_a := F_label_a.keep KQ2 nin0
  have F_printed_a := F_printed_a.keep KQ2 nin0
  have F_start_a := F_start_a.keep KQ2 nin0
  have F_end_a := F_end_a.keep KQ2 nin0
  have F_children_a := F_children_a.keep KQ2 nin0
  have Z3 : n0 ≤ T2.heap.size := Nat.le_trans Z0 KQ2.1
  have O := O.keep KQ2 all0
  have K3 := K0.trans KQ2 all0
  have ne_a_r2 : a ≠ r2 := Nat.ne_of_lt (Nat.lt_of_lt_of_le lt_a sl_r2)
  have ne_r2_a := ne_a_r2.symm
  have ne_b_r2 : b ≠ r2 := Nat.ne_of_lt (Nat.lt_of_lt_of_le lt_b sl_r2)
  have ne_r2_b := ne_b_r2.symm
  have ne_d_r2 : d ≠ r2 := Nat.ne_of_lt (Nat.lt_of_lt_of_le lt_d sl_r2)
  have ne_r2_d := ne_d_r2.symm
  have ne_y_r2 : y ≠ r2 := Nat.ne_of_lt (Nat.lt_of_lt_of_le lt_y sl_r2)
  have ne_r2_y := ne_y_r2.symm
  have sz_r2 : h0.size ≤ r2 := Nat.le_trans K0.1 sl_r2
  have E_r2 := fo0_2
  have F_e0_r2 := fo1_2
  have F_e1_r2 := fo2_2
  refine Goes.pre (U' := T2.setTop (mkF m 13 #[.val (.ref a), .val .null, .val .null, .val (.int s1), .val (.int s2), .val (.ref r2)] [.null, (.ref a)])) (fun t k => st2 t (XS.astore X2.here hx rfl (hb hby d11_9) rfl rfl (l' := #[.val (.ref a), .val .null, .val .null, .val (.int s1), .val (.int s2), .val (.ref r2)]) rfl (XS.aloadN X2.here hx rfl (hb hby d11_11) rfl rfl (XS.aloadN X2.here hx rfl (hb hby d11_12) rfl rfl k)))) ?_
  obtain ⟨T4, h4, X4, e4, W4, st4⟩ := putF X2 hx hZ hown (host := "") (Or.inl (wq hw 101 rfl)) Via.refl rfl F_label_a E_a (Or.inr ⟨(wq hw 102 rfl), rfl, hnm⟩) (wq hw 66 rfl) (ty := (.object "com/example/restate/restate/plan/Label")) (by decide) rfl rfl (g := (mkF m 13 #[.val (.ref a), .val .null, .val .null, .val (.int s1), .val (.int s2), .val (.ref r2)] [.null, (.ref a)])) rfl rfl (hb hby d11_13)
  have E_b := E_b.wr W4
  have F_size_b := F_size_b.other W4 (Or.inl ne_b_a)
  have F_elementData_b := F_elementData_b.other W4 (Or.inl ne_b_a)
  have E_d := E_d.wr W4
  have V_d := V_d.other W4 ne_d_a
  have E_y := E_y.wr W4
  have E_a := E_a.wr W4
  have F_printed_a := F_printed_a.other W4 (Or.inr (slot_ne (Or.inr (wq hw 104 rfl)) (Or.inr (wq hw 102 rfl)) (by decide) (t := (.object "com/example/restate/restate/plan/Label")) (t' := (.object "com/example/restate/restate/plan/Label")) (by decide) (by decide)))
  have F_start_a := F_start_a.other W4 (Or.inr (slot_ne (Or.inr (wq hw 106 rfl)) (Or.inr (wq hw 102 rfl)) (by decide) (t := .int) (t' := (.object "com/example/restate/restate/plan/Label")) (by decide) (by decide)))
  have F_end_a := F_end_a.other W4 (Or.inr (slot_ne (Or.inr (wq hw 108 rfl)) (Or.inr (wq hw 102 rfl)) (by decide) (t := .int) (t' := (.object "com/example/restate/restate/plan/Label")) (by decide) (by decide)))
  have F_children_a := F_children_a.other W4 (Or.inr (slot_ne (Or.inr (wq hw 110 rfl)) (Or.inr (wq hw 102 rfl)) (by decide) (t := (.object "java/util/List")) (t' := (.object "com/example/restate/restate/plan/Label")) (by decide) (by decide)))
  have E_r2 := E_r2.wr W4
  have F_e0_r2 := F_e0_r2.other W4 (Or.inl ne_r2_a)
  have F_e1_r2 := F_e1_r2.other W4 (Or.inl ne_r2_a)
  have Z4 : n0 ≤ h4.size := Nat.le_trans Z3 (Keep.of_wr W4).1
  have O := O.wr W4 g_a
  have F_label_a := F_label_a.same W4
  have K4 := K3.wr W4 (Or.inl (List.mem_of_getElem? (i := 0) rfl))
  have N4 := Fr.snoc X4 N2 g_a
  refine Goes.pre (U' := T4.setTop (mkF m 18 #[.val (.ref a), .val .null, .val .null, .val (.int s1), .val (.int s2), .val (.ref r2)] [.null, (.ref a)])) (fun t k => st4 t (XS.aloadN X4.here hx rfl (hb hby d11_16) rfl rfl (XS.aloadN X4.here hx rfl (hb hby d11_17) rfl rfl k))) ?_
  obtain ⟨T5, h5, X5, e5, W5, st5⟩ := putF X4 hx hZ hown (host := "") (Or.inl (wq hw 103 rfl)) Via.refl e4 F_printed_a E_a (Or.inr ⟨(wq hw 104 rfl), rfl, hnm⟩) (wq hw 66 rfl) (ty := (.object "com/example/restate/restate/plan/Label")) (by decide) rfl rfl (g := (mkF m 18 #[.val (.ref a), .val .null, .val .null, .val (.int s1), .val (.int s2), .val (.ref r2)] [.null, (.ref a)])) rfl rfl (hb hby d11_18)
  have E_b := E_b.wr W5
  have F_size_b := F_size_b.other W5 (Or.inl ne_b_a)
  have F_elementData_b := F_elementData_b.other W5 (Or.inl ne_b_a)
  have E_d := E_d.wr W5
  have V_d := V_d.other W5 ne_d_a
  have E_y := E_y.wr W5
  have E_a := E_a.wr W5
  have F_label_a := F_label_a.other W5 (Or.inr (slot_ne (Or.inr (wq hw 102 rfl)) (Or.inr (wq hw 104 rfl)) (by decide) (t := (.object "com/example/restate/restate/plan/Label")) (t' := (.object "com/example/restate/restate/plan/Label")) (by decide) (by decide)))
  have F_start_a := F_start_a.other W5 (Or.inr (slot_ne (Or.inr (wq hw 106 rfl)) (Or.inr (wq hw 104 rfl)) (by decide) (t := .int) (t' := (.object "com/example/restate/restate/plan/Label")) (by decide) (by decide)))
  have F_end_a := F_end_a.other W5 (Or.inr (slot_ne (Or.inr (wq hw 108 rfl)) (Or.inr (wq hw 104 rfl)) (by decide) (t := .int) (t' := (.object "com/example/restate/restate/plan/Label")) (by decide) (by decide)))
  have F_children_a := F_children_a.other W5 (Or.inr (slot_ne (Or.inr (wq hw 110 rfl)) (Or.inr (wq hw 104 rfl)) (by decide) (t := (.object "java/util/List")) (t' := (.object "com/example/restate/restate/plan/Label")) (by decide) (by decide)))
  have E_r2 := E_r2.wr W5
  have F_e0_r2 := F_e0_r2.other W5 (Or.inl ne_r2_a)
  have F_e1_r2 := F_e1_r2.other W5 (Or.inl ne_r2_a)
  have Z5 : n0 ≤ h5.size := Nat.le_trans Z4 (Keep.of_wr W5).1
  have O := O.wr W5 g_a
  have F_printed_a := F_printed_a.same W5
  have K5 := K4.wr W5 (Or.inl (List.mem_of_getElem? (i := 0) rfl))
  have N5 := Fr.snoc X5 N4 g_a
  refine Goes.pre (U' := T5.setTop (mkF m 23 #[.val (.ref a), .val .null, .val .null, .val (.int s1), .val (.int s2), .val (.ref r2)] [(.int s1), (.ref a)])) (fun t k => st5 t (XS.aloadN X5.here hx rfl (hb hby d11_21) rfl rfl (XS.iloadN X5.here hx rfl (hb hby d11_22) rfl k))) ?_
  obtain ⟨T6, h6, X6, e6, W6, st6⟩ := putF X5 hx hZ hown (host := "") (Or.inl (wq hw 105 rfl)) Via.refl e5 F_start_a E_a (Or.inr ⟨(wq hw 106 rfl), rfl, hnm⟩) (wq hw 66 rfl) (ty := .int) (by decide) rfl rfl (g := (mkF m 23 #[.val (.ref a), .val .null, .val .null, .val (.int s1), .val (.int s2), .val (.ref r2)] [(.int s1), (.ref a)])) rfl rfl (hb hby d11_23)
  have E_b := E_b.wr W6
  have F_size_b := F_size_b.other W6 (Or.inl ne_b_a)
  have F_elementData_b := F_elementData_b.other W6 (Or.inl ne_b_a)
  have E_d := E_d.wr W6
  have V_d := V_d.other W6 ne_d_a
  have E_y := E_y.wr W6
  have E_a := E_a.wr W6
  have F_label_a := F_label_a.other W6 (Or.inr (slot_ne (Or.inr (wq hw 102 rfl)) (Or.inr (wq hw 106 rfl)) (by decide) (t := (.object "com/example/restate/restate/plan/Label")) (t' := .int) (by decide) (by decide)))
  have F_printed_a := F_printed_a.other W6 (Or.inr (slot_ne (Or.inr (wq hw 104 rfl)) (Or.inr (wq hw 106 rfl)) (by decide) (t := (.object "com/example/restate/restate/plan/Label")) (t' := .int) (by decide) (by decide)))
  have F_end_a := F_end_a.other W6 (Or.inr (slot_ne (Or.inr (wq hw 108 rfl)) (Or.inr (wq hw 106 rfl)) (by decide) (t := .int) (t' := .int) (by decide) (by decide)))
  have F_children_a := F_children_a.other W6 (Or.inr (slot_ne (Or.inr (wq hw 110 rfl)) (Or.inr (wq hw 106 rfl)) (by decide) (t := (.object "java/util/List")) (t' := .int) (by decide) (by decide)))
  have E_r2 := E_r2.wr W6
  have F_e0_r2 := F_e0_r2.other W6 (Or.inl ne_r2_a)
  have F_e1_r2 := F_e1_r2.other W6 (Or.inl ne_r2_a)
  have Z6 : n0 ≤ h6.size := Nat.le_trans Z5 (Keep.of_wr W6).1
  have O := O.wr W6 g_a
  have F_start_a := F_start_a.same W6
  have K6 := K5.wr W6 (Or.inl (List.mem_of_getElem? (i := 0) rfl))
  have N6 := Fr.snoc X6 N5 g_a
  refine Goes.pre (U' := T6.setTop (mkF m 29 #[.val (.ref a), .val .null, .val .null, .val (.int s1), .val (.int s2), .val (.ref r2)] [(.int s2), (.ref a)])) (fun t k => st6 t (XS.aloadN X6.here hx rfl (hb hby d11_26) rfl rfl (XS.iload X6.here hx rfl (hb hby d11_27) rfl k))) ?_
  obtain ⟨T7, h7, X7, e7, W7, st7⟩ := putF X6 hx hZ hown (host := "") (Or.inl (wq hw 107 rfl)) Via.refl e6 F_end_a E_a (Or.inr ⟨(wq hw 108 rfl), rfl, hnm⟩) (wq hw 66 rfl) (ty := .int) (by decide) rfl rfl (g := (mkF m 29 #[.val (.ref a), .val .null, .val .null, .val (.int s1), .val (.int s2), .val (.ref r2)] [(.int s2), (.ref a)])) rfl rfl (hb hby d11_29)
  have E_b := E_b.wr W7
  have F_size_b := F_size_b.other W7 (Or.inl ne_b_a)
  have F_elementData_b := F_elementData_b.other W7 (Or.inl ne_b_a)
  have E_d := E_d.wr W7
  have V_d := V_d.other W7 ne_d_a
  have E_y := E_y.wr W7
  have E_a := E_a.wr W7
  have F_label_a := F_label_a.other W7 (Or.inr (slot_ne (Or.inr (wq hw 102 rfl)) (Or.inr (wq hw 108 rfl)) (by decide) (t := (.object "com/example/restate/restate/plan/Label")) (t' := .int) (by decide) (by decide)))
  have F_printed_a := F_printed_a.other W7 (Or.inr (slot_ne (Or.inr (wq hw 104 rfl)) (Or.inr (wq hw 108 rfl)) (by decide) (t := (.object "com/example/restate/restate/plan/Label")) (t' := .int) (by decide) (by decide)))
  have F_start_a := F_start_a.other W7 (Or.inr (slot_ne (Or.inr (wq hw 106 rfl)) (Or.inr (wq hw 108 rfl)) (by decide) (t := .int) (t' := .int) (by decide) (by decide)))
  have F_children_a := F_children_a.other W7 (Or.inr (slot_ne (Or.inr (wq hw 110 rfl)) (Or.inr (wq hw 108 rfl)) (by decide) (t := (.object "java/util/List")) (t' := .int) (by decide) (by decide)))
  have E_r2 := E_r2.wr W7
  have F_e0_r2 := F_e0_r2.other W7 (Or.inl ne_r2_a)
  have F_e1_r2 := F_e1_r2.other W7 (Or.inl ne_r2_a)
  have Z7 : n0 ≤ h7.size := Nat.le_trans Z6 (Keep.of_wr W7).1
  have O := O.wr W7 g_a
  have F_end_a := F_end_a.same W7
  have K7 := K6.wr W7 (Or.inl (List.mem_of_getElem? (i := 0) rfl))
  have N7 := Fr.snoc X7 N6 g_a
  refine Goes.pre (U' := T7.setTop (mkF m 35 #[.val (.ref a), .val .null, .val .null, .val (.int s1), .val (.int s2), .val (.ref r2)] [(.ref r2), (.ref a)])) (fun t k => st7 t (XS.aloadN X7.here hx rfl (hb hby d11_32) rfl rfl (XS.aload X7.here hx rfl (hb hby d11_33) rfl rfl k))) ?_
  obtain ⟨T8, h8, X8, e8, W8, st8⟩ := putF X7 hx hZ hown (host := "") (Or.inl (wq hw 109 rfl)) Via.refl e7 F_children_a E_a (Or.inr ⟨(wq hw 110 rfl), rfl, hnm⟩) (wq hw 66 rfl) (ty := (.object "java/util/List")) (by decide) rfl rfl (g := (mkF m 35 #[.val (.ref a), .val .null, .val .null, .val (.int s1), .val (.int s2), .val (.ref r2)] [(.ref r2), (.ref a)])) rfl rfl (hb hby d11_35)
  have E_b := E_b.wr W8
  have F_size_b := F_size_b.other W8 (Or.inl ne_b_a)
  have F_elementData_b := F_elementData_b.other W8 (Or.inl ne_b_a)
  have E_d := E_d.wr W8
  have V_d := V_d.other W8 ne_d_a
  have E_y := E_y.wr W8
  have E_a := E_a.wr W8
  have F_label_a := F_label_a.other W8 (Or.inr (slot_ne (Or.inr (wq hw 102 rfl)) (Or.inr (wq hw 110 rfl)) (by decide) (t := (.object "com/example/restate/restate/plan/Label")) (t' := (.object "java/util/List")) (by decide) (by decide)))
  have F_printed_a := F_printed_a.other W8 (Or.inr (slot_ne (Or.inr (wq hw 104 rfl)) (Or.inr (wq hw 110 rfl)) (by decide) (t := (.object "com/example/restate/restate/plan/Label")) (t' := (.object "java/util/List")) (by decide) (by decide)))
  have F_start_a := F_start_a.other W8 (Or.inr (slot_ne (Or.inr (wq hw 106 rfl)) (Or.inr (wq hw 110 rfl)) (by decide) (t := .int) (t' := (.object "java/util/List")) (by decide) (by decide)))
  have F_end_a := F_end_a.other W8 (Or.inr (slot_ne (Or.inr (wq hw 108 rfl)) (Or.inr (wq hw 110 rfl)) (by decide) (t := .int) (t' := (.object "java/util/List")) (by decide) (by decide)))
  have E_r2 := E_r2.wr W8
  have F_e0_r2 := F_e0_r2.other W8 (Or.inl ne_r2_a)
  have F_e1_r2 := F_e1_r2.other W8 (Or.inl ne_r2_a)
  have Z8 : n0 ≤ h8.size := Nat.le_trans Z7 (Keep.of_wr W8).1
  have O := O.wr W8 g_a
  have F_children_a := F_children_a.same W8
  have K8 := K7.wr W8 (Or.inl (List.mem_of_getElem? (i := 0) rfl))
  have N8 := Fr.snoc X8 N7 g_a
  refine Goes.pre (U' := T8.setTop (mkF m 38 #[.val (.ref a), .val .null, .val .null, .val (.int s1), .val (.int s2), .val (.ref r2)] [])) (fun t k => st8 t k) ?_
  refine Goes.ret X8 (v := none) (fun _ => rfl) hlk (by decide) (by decide) e8 (fun fs hr => X8.returnOut hx hret (hb hby d11_38) hr) ?_
  exact ⟨r2, rfl, N8, K8, F_label_a, F_printed_a, F_start_a, F_end_a, F_children_a, E_r2, F_e0_r2, F_e1_r2, g_r2, sz_r2⟩
theorem ef_rm_del00 (m : MethodId) (x0 : Addr) : entryFrame m #[(.ref x0)] 1 = mkF m 0 #[.val (.ref x0)] [] := by first | (simp [entryFrame, mkF, argsToLocals, Value.category]; done) | rfl
abbrev M30 : MethodName := ⟨"com/example/restate/restate/plan/Item", "deleted", "()Z"⟩
theorem d30_0 : decode prog_20_method_2_code 0 = .ok (.aload_n 0, 1) := by decide +kernel
theorem d30_1 : decode prog_20_method_2_code 1 = .ok (.getfield 13, 3) := by decide +kernel
theorem d30_4 : decode prog_20_method_2_code 4 = .ok (.ifnull 14, 3) := by decide +kernel
theorem d30_18 : decode prog_20_method_2_code 18 = .ok (.iconst 0, 1) := by decide +kernel
theorem d30_19 : decode prog_20_method_2_code 19 = .ok (.ireturn, 1) := by decide +kernel
def Q_rm_del00 (Z : State) (a : Addr) (h0 : Heap) (n0 : Nat) (v : Option Value) (h : Heap) (L : List Loc) : Prop := v = some (.int (0 : Int32)) ∧ Fr n0 L ∧ h = h0
set_option maxRecDepth 65536 in
set_option maxHeartbeats 40000000 in
theorem rm_del00 (l : Launch) (Z : State) (a0 : Array Value) (hw : ∀ d ∈ tables_1, d.before a0 Z = true) (ws : List Jvm.Cond) (a : Addr) (h0 : Heap) (n0 : Nat) (Z0 : n0 ≤ h0.size) (F_label_a : Fld Z h0 a "com/example/restate/restate/plan/Item" "label" "Lcom/example/restate/restate/plan/Label;" .null) (F_printed_a : Fld Z h0 a "com/example/restate/restate/plan/Item" "printed" "Lcom/example/restate/restate/plan/Label;" .null) :
    Met l Z M30 prog_20_method_2_code 1 (some .boolean) ws (Rm 0 0 0 0) #[(.ref a)] h0 (Q_rm_del00 Z a h0 n0) := by
  refine met_of (plainFor_of_name pn_com_example_restate_restate_plan_Item) (own := "com/example/restate/restate/plan/Item") rfl (fun m => ef_rm_del00 m a) ?_
  intro p e s m below meth c s₁ hx hby hml hown hnm hZ X0 e0 hret hlk
  have N0 := Fr.nil n0
  show Goes p e below s _ _ _ (s₁.setTop (mkF m 0 #[.val (.ref a)] []))
  refine Goes.pre (U' := s₁.setTop (mkF m 1 #[.val (.ref a)] [(.ref a)])) (fun t k => XS.aloadN X0.here hx rfl (hb hby d30_0) rfl rfl k) ?_
  obtain ⟨T1, X1, e1, st1⟩ := getF X0 hx hZ hown (host := "") (Or.inl (wq hw 101 rfl)) Via.refl e0 F_label_a (g := (mkF m 1 #[.val (.ref a)] [(.ref a)])) rfl rfl (hb hby d30_1)
  refine Goes.pre (U' := T1.setTop (mkF m 19 #[.val (.ref a)] [(.int (0 : Int32))])) (fun t k => st1 t (XS.ifnullYes X1.here hx rfl (pc0 := 4) (pc' := 18) rfl (hb hby d30_4) rfl (by decide) (by decide) (XS.iconst X1.here hx rfl (hb hby d30_18) k))) ?_
  refine Goes.ret X1 (v := (some (.int (0 : Int32)))) (fun h => by rw [hret] at h; cases h) hlk (by decide) (by decide) e1 (fun fs hr => retN X1 hx (t := .boolean) hret (by simp) (hb hby d30_19) hr) ?_
  exact ⟨rfl, N0, rfl⟩
theorem ef_rm_del11 (m : MethodId) (x0 : Addr) : entryFrame m #[(.ref x0)] 1 = mkF m 0 #[.val (.ref x0)] [] := by first | (simp [entryFrame, mkF, argsToLocals, Value.category]; done) | rfl
theorem d30_7 : decode prog_20_method_2_code 7 = .ok (.aload_n 0, 1) := by decide +kernel
theorem d30_8 : decode prog_20_method_2_code 8 = .ok (.getfield 19, 3) := by decide +kernel
theorem d30_11 : decode prog_20_method_2_code 11 = .ok (.ifnonnull 7, 3) := by decide +kernel
def Q_rm_del11 (Z : State) (a : Addr) (la : Addr) (pr : Addr) (h0 : Heap) (n0 : Nat) (v : Option Value) (h : Heap) (L : List Loc) : Prop := v = some (.int (0 : Int32)) ∧ Fr n0 L ∧ h = h0
set_option maxRecDepth 65536 in
set_option maxHeartbeats 40000000 in
theorem rm_del11 (l : Launch) (Z : State) (a0 : Array Value) (hw : ∀ d ∈ tables_1, d.before a0 Z = true) (ws : List Jvm.Cond) (a : Addr) (la : Addr) (pr : Addr) (h0 : Heap) (n0 : Nat) (Z0 : n0 ≤ h0.size) (F_label_a : Fld Z h0 a "com/example/restate/restate/plan/Item" "label" "Lcom/example/restate/restate/plan/Label;" (.ref la)) (F_printed_a : Fld Z h0 a "com/example/restate/restate/plan/Item" "printed" "Lcom/example/restate/restate/plan/Label;" (.ref pr)) :
    Met l Z M30 prog_20_method_2_code 1 (some .boolean) ws (Rm 0 0 0 0) #[(.ref a)] h0 (Q_rm_del11 Z a la pr h0 n0) := by
  refine met_of (plainFor_of_name pn_com_example_restate_restate_plan_Item) (own := "com/example/restate/restate/plan/Item") rfl (fun m => ef_rm_del11 m a) ?_
  intro p e s m below meth c s₁ hx hby hml hown hnm hZ X0 e0 hret hlk
  have N0 := Fr.nil n0
  show Goes p e below s _ _ _ (s₁.setTop (mkF m 0 #[.val (.ref a)] []))
  refine Goes.pre (U' := s₁.setTop (mkF m 1 #[.val (.ref a)] [(.ref a)])) (fun t k => XS.aloadN X0.here hx rfl (hb hby d30_0) rfl rfl k) ?_
  obtain ⟨T1, X1, e1, st1⟩ := getF X0 hx hZ hown (host := "") (Or.inl (wq hw 101 rfl)) Via.refl e0 F_label_a (g := (mkF m 1 #[.val (.ref a)] [(.ref a)])) rfl rfl (hb hby d30_1)
  refine Goes.pre (U' := T1.setTop (mkF m 8 #[.val (.ref a)] [(.ref a)])) (fun t k => st1 t (XS.ifnullNo X1.here hx rfl (hb hby d30_4) rfl (XS.aloadN X1.here hx rfl (hb hby d30_7) rfl rfl k))) ?_
  obtain ⟨T2, X2, e2, st2⟩ := getF X1 hx hZ hown (host := "") (Or.inl (wq hw 103 rfl)) Via.refl e1 F_printed_a (g := (mkF m 8 #[.val (.ref a)] [(.ref a)])) rfl rfl (hb hby d30_8)
  refine Goes.pre (U' := T2.setTop (mkF m 19 #[.val (.ref a)] [(.int (0 : Int32))])) (fun t k => st2 t (XS.ifnonnullYes X2.here hx rfl (pc0 := 11) (pc' := 18) rfl (hb hby d30_11) rfl (by decide) (by decide) (XS.iconst X2.here hx rfl (hb hby d30_18) k))) ?_
  refine Goes.ret X2 (v := (some (.int (0 : Int32)))) (fun h => by rw [hret] at h; cases h) hlk (by decide) (by decide) e2 (fun fs hr => retN X2 hx (t := .boolean) hret (by simp) (hb hby d30_19) hr) ?_
  exact ⟨rfl, N0, rfl⟩
theorem ef_rm_del10 (m : MethodId) (x0 : Addr) : entryFrame m #[(.ref x0)] 1 = mkF m 0 #[.val (.ref x0)] [] := by first | (simp [entryFrame, mkF, argsToLocals, Value.category]; done) | rfl
theorem d30_14 : decode prog_20_method_2_code 14 = .ok (.iconst 1, 1) := by decide +kernel
theorem d30_15 : decode prog_20_method_2_code 15 = .ok (.goto 4, 3) := by decide +kernel
def Q_rm_del10 (Z : State) (a : Addr) (la : Addr) (h0 : Heap) (n0 : Nat) (v : Option Value) (h : Heap) (L : List Loc) : Prop := v = some (.int (1 : Int32)) ∧ Fr n0 L ∧ h = h0
set_option maxRecDepth 65536 in
set_option maxHeartbeats 40000000 in
theorem rm_del10 (l : Launch) (Z : State) (a0 : Array Value) (hw : ∀ d ∈ tables_1, d.before a0 Z = true) (ws : List Jvm.Cond) (a : Addr) (la : Addr) (h0 : Heap) (n0 : Nat) (Z0 : n0 ≤ h0.size) (F_label_a : Fld Z h0 a "com/example/restate/restate/plan/Item" "label" "Lcom/example/restate/restate/plan/Label;" (.ref la)) (F_printed_a : Fld Z h0 a "com/example/restate/restate/plan/Item" "printed" "Lcom/example/restate/restate/plan/Label;" .null) :
    Met l Z M30 prog_20_method_2_code 1 (some .boolean) ws (Rm 0 0 0 0) #[(.ref a)] h0 (Q_rm_del10 Z a la h0 n0) := by
  refine met_of (plainFor_of_name pn_com_example_restate_restate_plan_Item) (own := "com/example/restate/restate/plan/Item") rfl (fun m => ef_rm_del10 m a) ?_
  intro p e s m below meth c s₁ hx hby hml hown hnm hZ X0 e0 hret hlk
  have N0 := Fr.nil n0
  show Goes p e below s _ _ _ (s₁.setTop (mkF m 0 #[.val (.ref a)] []))
  refine Goes.pre (U' := s₁.setTop (mkF m 1 #[.val (.ref a)] [(.ref a)])) (fun t k => XS.aloadN X0.here hx rfl (hb hby d30_0) rfl rfl k) ?_
  obtain ⟨T1, X1, e1, st1⟩ := getF X0 hx hZ hown (host := "") (Or.inl (wq hw 101 rfl)) Via.refl e0 F_label_a (g := (mkF m 1 #[.val (.ref a)] [(.ref a)])) rfl rfl (hb hby d30_1)
  refine Goes.pre (U' := T1.setTop (mkF m 8 #[.val (.ref a)] [(.ref a)])) (fun t k => st1 t (XS.ifnullNo X1.here hx rfl (hb hby d30_4) rfl (XS.aloadN X1.here hx rfl (hb hby d30_7) rfl rfl k))) ?_
  obtain ⟨T2, X2, e2, st2⟩ := getF X1 hx hZ hown (host := "") (Or.inl (wq hw 103 rfl)) Via.refl e1 F_printed_a (g := (mkF m 8 #[.val (.ref a)] [(.ref a)])) rfl rfl (hb hby d30_8)
  refine Goes.pre (U' := T2.setTop (mkF m 19 #[.val (.ref a)] [(.int (1 : Int32))])) (fun t k => st2 t (XS.ifnonnullNo X2.here hx rfl (hb hby d30_11) rfl (XS.iconst X2.here hx rfl (hb hby d30_14) (XS.goto X2.here hx rfl (pc0 := 15) (pc' := 19) rfl (hb hby d30_15) (by decide) (by decide) k)))) ?_
  refine Goes.ret X2 (v := (some (.int (1 : Int32)))) (fun h => by rw [hret] at h; cases h) hlk (by decide) (by decide) e2 (fun fs hr => retN X2 hx (t := .boolean) hret (by simp) (hb hby d30_19) hr) ?_
  exact ⟨rfl, N0, rfl⟩
theorem ef_rm_del01 (m : MethodId) (x0 : Addr) : entryFrame m #[(.ref x0)] 1 = mkF m 0 #[.val (.ref x0)] [] := by first | (simp [entryFrame, mkF, argsToLocals, Value.category]; done) | rfl
def Q_rm_del01 (Z : State) (a : Addr) (pr : Addr) (h0 : Heap) (n0 : Nat) (v : Option Value) (h : Heap) (L : List Loc) : Prop := v = some (.int (0 : Int32)) ∧ Fr n0 L ∧ h = h0
set_option maxRecDepth 65536 in
set_option maxHeartbeats 40000000 in
theorem rm_del01 (l : Launch) (Z : State) (a0 : Array Value) (hw : ∀ d ∈ tables_1, d.before a0 Z = true) (ws : List Jvm.Cond) (a : Addr) (pr : Addr) (h0 : Heap) (n0 : Nat) (Z0 : n0 ≤ h0.size) (F_label_a : Fld Z h0 a "com/example/restate/restate/plan/Item" "label" "Lcom/example/restate/restate/plan/Label;" .null) (F_printed_a : Fld Z h0 a "com/example/restate/restate/plan/Item" "printed" "Lcom/example/restate/restate/plan/Label;" (.ref pr)) :
    Met l Z M30 prog_20_method_2_code 1 (some .boolean) ws (Rm 0 0 0 0) #[(.ref a)] h0 (Q_rm_del01 Z a pr h0 n0) := by
  refine met_of (plainFor_of_name pn_com_example_restate_restate_plan_Item) (own := "com/example/restate/restate/plan/Item") rfl (fun m => ef_rm_del01 m a) ?_
  intro p e s m below meth c s₁ hx hby hml hown hnm hZ X0 e0 hret hlk
  have N0 := Fr.nil n0
  show Goes p e below s _ _ _ (s₁.setTop (mkF m 0 #[.val (.ref a)] []))
  refine Goes.pre (U' := s₁.setTop (mkF m 1 #[.val (.ref a)] [(.ref a)])) (fun t k => XS.aloadN X0.here hx rfl (hb hby d30_0) rfl rfl k) ?_
  obtain ⟨T1, X1, e1, st1⟩ := getF X0 hx hZ hown (host := "") (Or.inl (wq hw 101 rfl)) Via.refl e0 F_label_a (g := (mkF m 1 #[.val (.ref a)] [(.ref a)])) rfl rfl (hb hby d30_1)
  refine Goes.pre (U' := T1.setTop (mkF m 19 #[.val (.ref a)] [(.int (0 : Int32))])) (fun t k => st1 t (XS.ifnullYes X1.here hx rfl (pc0 := 4) (pc' := 18) rfl (hb hby d30_4) rfl (by decide) (by decide) (XS.iconst X1.here hx rfl (hb hby d30_18) k))) ?_
  refine Goes.ret X1 (v := (some (.int (0 : Int32)))) (fun h => by rw [hret] at h; cases h) hlk (by decide) (by decide) e1 (fun fs hr => retN X1 hx (t := .boolean) hret (by simp) (hb hby d30_19) hr) ?_
  exact ⟨rfl, N0, rfl⟩
theorem ef_rm_lnsize (m : MethodId) (x0 : Addr) : entryFrame m #[(.ref x0)] 1 = mkF m 0 #[.val (.ref x0)] [] := by first | (simp [entryFrame, mkF, argsToLocals, Value.category]; done) | rfl
theorem pn_java_util_ImmutableCollections_ListN : plainName "java/util/ImmutableCollections$ListN" = true := by first | (simp [plainName, overriddenIn]; done) | decide +kernel
abbrev M38 : MethodName := ⟨"java/util/ImmutableCollections$ListN", "size", "()I"⟩
theorem d38_0 : decode jdk_45_method_3_code 0 = .ok (.aload_n 0, 1) := by decide +kernel
theorem d38_1 : decode jdk_45_method_3_code 1 = .ok (.getfield 7, 3) := by decide +kernel
theorem d38_4 : decode jdk_45_method_3_code 4 = .ok (.arraylength, 1) := by decide +kernel
theorem d38_5 : decode jdk_45_method_3_code 5 = .ok (.ireturn, 1) := by decide +kernel
def Q_rm_lnsize (Z : State) (el : Addr) (ea : Addr) (ke : ClassId) (h0 : Heap) (n0 : Nat) (v : Option Value) (h : Heap) (L : List Loc) : Prop := v = some (.int (0 : Int32)) ∧ Fr n0 L ∧ h = h0
set_option maxRecDepth 65536 in
set_option maxHeartbeats 40000000 in
theorem rm_lnsize (l : Launch) (Z : State) (a0 : Array Value) (hw : ∀ d ∈ tables_1, d.before a0 Z = true) (ws : List Jvm.Cond) (el : Addr) (ea : Addr) (ke : ClassId) (h0 : Heap) (n0 : Nat) (Z0 : n0 ≤ h0.size) (F_elements_el : Fld Z Z.heap el "java/util/ImmutableCollections$ListN" "elements" "[Ljava/lang/Object;" (.ref ea)) (V_ea : Arv Z Z.heap ea ke (.object "java/lang/Object") (0 : Int32) [] .null) (O : Old Z n0 h0) :
    Met l Z M38 jdk_45_method_3_code 1 (some .int) ws (Rm 0 0 0 0) #[(.ref el)] h0 (Q_rm_lnsize Z el ea ke h0 n0) := by
  refine met_of (plainFor_of_name pn_java_util_ImmutableCollections_ListN) (own := "java/util/ImmutableCollections$ListN") rfl (fun m => ef_rm_lnsize m el) ?_
  intro p e s m below meth c s₁ hx hby hml hown hnm hZ X0 e0 hret hlk
  have N0 := Fr.nil n0
  show Goes p e below s _ _ _ (s₁.setTop (mkF m 0 #[.val (.ref el)] []))
  refine Goes.pre (U' := s₁.setTop (mkF m 1 #[.val (.ref el)] [(.ref el)])) (fun t k => XS.aloadN X0.here hx rfl (hb hby d38_0) rfl rfl k) ?_
  obtain ⟨T1, X1, e1, st1⟩ := getF X0 hx hZ hown (host := "") (Or.inl (wq hw 280 rfl)) Via.refl e0 (F_elements_el.ext O.2) (g := (mkF m 1 #[.val (.ref el)] [(.ref el)])) rfl rfl (hb hby d38_1)
  refine Goes.pre (U' := T1.setTop (mkF m 4 #[.val (.ref el)] [(.ref ea)])) (fun t k => st1 t k) ?_
  obtain ⟨cl2, Ar2, q2, Sz2, Ng2, -, -⟩ := id (V_ea.ext O.2)
  have ln2 := len_of Sz2 Ng2
  refine Goes.pre (U' := T1.setTop (mkF m 5 #[.val (.ref el)] [(.int (0 : Int32))])) (fun t k => X1.arraylength hx (by rw [e1]; exact Ar2.1) (State.isArrayOf_alike hZ.alike Ar2.2.1) (g := (mkF m 4 #[.val (.ref el)] [(.ref ea)])) rfl rfl (hb hby d38_4) _ (by rw [ln2]; exact k)) ?_
  refine Goes.ret X1 (v := (some (.int (0 : Int32)))) (fun h => by rw [hret] at h; cases h) hlk (by decide) (by decide) e1 (fun fs hr => retI X1 hx hret (hb hby d38_5) hr) ?_
  exact ⟨rfl, N0, rfl⟩
theorem ef_rm_l12size (m : MethodId) (x0 : Addr) : entryFrame m #[(.ref x0)] 1 = mkF m 0 #[.val (.ref x0)] [] := by first | (simp [entryFrame, mkF, argsToLocals, Value.category]; done) | rfl
abbrev M33 : MethodName := ⟨"java/util/ImmutableCollections$List12", "size", "()I"⟩
theorem d33_0 : decode jdk_44_method_3_code 0 = .ok (.aload_n 0, 1) := by decide +kernel
theorem d33_1 : decode jdk_44_method_3_code 1 = .ok (.getfield 24, 3) := by decide +kernel
theorem d33_4 : decode jdk_44_method_3_code 4 = .ok (.getstatic 19, 3) := by decide +kernel
theorem d33_7 : decode jdk_44_method_3_code 7 = .ok (.if_acmp .eq 7, 3) := by decide +kernel
theorem d33_14 : decode jdk_44_method_3_code 14 = .ok (.iconst 1, 1) := by decide +kernel
theorem d33_15 : decode jdk_44_method_3_code 15 = .ok (.ireturn, 1) := by decide +kernel
def Q_rm_l12size (Z : State) (a : Addr) (em : Addr) (h0 : Heap) (n0 : Nat) (v : Option Value) (h : Heap) (L : List Loc) : Prop := v = some (.int (1 : Int32)) ∧ Fr n0 L ∧ h = h0
set_option maxRecDepth 65536 in
set_option maxHeartbeats 40000000 in
theorem rm_l12size (l : Launch) (Z : State) (a0 : Array Value) (hw : ∀ d ∈ tables_1, d.before a0 Z = true) (ws : List Jvm.Cond) (a : Addr) (em : Addr) (h0 : Heap) (n0 : Nat) (Z0 : n0 ≤ h0.size) (F_e1_a : Fld Z h0 a "java/util/ImmutableCollections$List12" "e1" "Ljava/lang/Object;" (.ref em)) (S_EMPTY : Sta Z Z.heap "java/util/ImmutableCollections" "EMPTY" "Ljava/lang/Object;" (.ref em)) (O : Old Z n0 h0) :
    Met l Z M33 jdk_44_method_3_code 1 (some .int) ws (Rm 0 0 0 0) #[(.ref a)] h0 (Q_rm_l12size Z a em h0 n0) := by
  refine met_of (plainFor_of_name pn_java_util_ImmutableCollections_List12) (own := "java/util/ImmutableCollections$List12") rfl (fun m => ef_rm_l12size m a) ?_
  intro p e s m below meth c s₁ hx hby hml hown hnm hZ X0 e0 hret hlk
  have N0 := Fr.nil n0
  show Goes p e below s _ _ _ (s₁.setTop (mkF m 0 #[.val (.ref a)] []))
  refine Goes.pre (U' := s₁.setTop (mkF m 1 #[.val (.ref a)] [(.ref a)])) (fun t k => XS.aloadN X0.here hx rfl (hb hby d33_0) rfl rfl k) ?_
  obtain ⟨T1, X1, e1, st1⟩ := getF X0 hx hZ hown (host := "") (Or.inl (wq hw 201 rfl)) Via.refl e0 F_e1_a (g := (mkF m 1 #[.val (.ref a)] [(.ref a)])) rfl rfl (hb hby d33_1)
  refine Goes.pre (U' := T1.setTop (mkF m 4 #[.val (.ref a)] [(.ref em)])) (fun t k => st1 t k) ?_
  obtain ⟨T2, X2, e2, st2⟩ := getS2 X1 hx hZ hown (Or.inr (wq hw 200 rfl)) Via.refl e1 (S_EMPTY.ext O.2) (g := (mkF m 4 #[.val (.ref a)] [(.ref em)])) rfl (hb hby d33_4)
  refine Goes.pre (U' := T2.setTop (mkF m 15 #[.val (.ref a)] [(.int (1 : Int32))])) (fun t k => st2 t (Jvm.RoadKit.acmp (g := (mkF m 7 #[.val (.ref a)] [(.ref em), (.ref em)])) X2 hx rfl rfl rfl (pc0 := 7) (pc' := 14) (same := true) rfl (hb hby d33_7) rfl (decide_eq_true rfl) (by decide) (by decide) (XS.iconst X2.here hx rfl (hb hby d33_14) k))) ?_
  refine Goes.ret X2 (v := (some (.int (1 : Int32)))) (fun h => by rw [hret] at h; cases h) hlk (by decide) (by decide) e2 (fun fs hr => retI X2 hx hret (hb hby d33_15) hr) ?_
  exact ⟨rfl, N0, rfl⟩
theorem ef_rm_itInit0 (m : MethodId) (x0 : Addr) (x1 : Addr) (x2 : Int32) : entryFrame m #[(.ref x0), (.ref x1), (.int x2)] 3 = mkF m 0 #[.val (.ref x0), .val (.ref x1), .val (.int x2)] [] := by first | (simp [entryFrame, mkF, argsToLocals, Value.category]; done) | rfl
theorem pn_java_util_ImmutableCollections_ListItr : plainName "java/util/ImmutableCollections$ListItr" = true := by first | (simp [plainName, overriddenIn]; done) | decide +kernel
abbrev M34 : MethodName := ⟨"java/util/ImmutableCollections$ListItr", "<init>", "(Ljava/util/List;I)V"⟩
theorem d34_0 : decode jdk_53_method_1_code 0 = .ok (.aload_n 0, 1) := by decide +kernel
theorem d34_1 : decode jdk_53_method_1_code 1 = .ok (.invokespecial 1, 3) := by decide +kernel
theorem d34_4 : decode jdk_53_method_1_code 4 = .ok (.aload_n 0, 1) := by decide +kernel
theorem d34_5 : decode jdk_53_method_1_code 5 = .ok (.aload_n 1, 1) := by decide +kernel
theorem d34_6 : decode jdk_53_method_1_code 6 = .ok (.putfield 7, 3) := by decide +kernel
theorem d34_9 : decode jdk_53_method_1_code 9 = .ok (.aload_n 0, 1) := by decide +kernel
theorem d34_10 : decode jdk_53_method_1_code 10 = .ok (.iload_n 2, 1) := by decide +kernel
theorem d34_11 : decode jdk_53_method_1_code 11 = .ok (.putfield 13, 3) := by decide +kernel
theorem d34_14 : decode jdk_53_method_1_code 14 = .ok (.aload_n 0, 1) := by decide +kernel
theorem d34_15 : decode jdk_53_method_1_code 15 = .ok (.iconst 0, 1) := by decide +kernel
theorem d34_16 : decode jdk_53_method_1_code 16 = .ok (.putfield 17, 3) := by decide +kernel
theorem d34_19 : decode jdk_53_method_1_code 19 = .ok (.aload_n 0, 1) := by decide +kernel
theorem d34_20 : decode jdk_53_method_1_code 20 = .ok (.iconst 0, 1) := by decide +kernel
theorem d34_21 : decode jdk_53_method_1_code 21 = .ok (.putfield 20, 3) := by decide +kernel
theorem d34_24 : decode jdk_53_method_1_code 24 = .ok (.return_, 1) := by decide +kernel
def Q_rm_itInit0 (Z : State) (a : Addr) (b : Addr) (h0 : Heap) (n0 : Nat) (v : Option Value) (h : Heap) (L : List Loc) : Prop := v = none ∧ Fr n0 L ∧ Keep h0 h [a] ∧ Fld Z h a "java/util/ImmutableCollections$ListItr" "list" "Ljava/util/List;" (.ref b) ∧ Fld Z h a "java/util/ImmutableCollections$ListItr" "size" "I" (.int (0 : Int32)) ∧ Fld Z h a "java/util/ImmutableCollections$ListItr" "cursor" "I" (.int (0 : Int32))
set_option maxRecDepth 65536 in
set_option maxHeartbeats 40000000 in
theorem rm_itInit0 (l : Launch) (Z : State) (a0 : Array Value) (hw : ∀ d ∈ tables_1, d.before a0 Z = true) (ws : List Jvm.Cond) (a : Addr) (b : Addr) (h0 : Heap) (n0 : Nat) (Z0 : n0 ≤ h0.size) (F_list_a : Fld Z h0 a "java/util/ImmutableCollections$ListItr" "list" "Ljava/util/List;" .null) (F_size_a : Fld Z h0 a "java/util/ImmutableCollections$ListItr" "size" "I" (.int (0 : Int32))) (F_cursor_a : Fld Z h0 a "java/util/ImmutableCollections$ListItr" "cursor" "I" (.int (0 : Int32))) (F_isListIterator_a : Fld Z h0 a "java/util/ImmutableCollections$ListItr" "isListIterator" "Z" (.int (0 : Int32))) (E_a : Exa Z h0 a "java/util/ImmutableCollections$ListItr") (g_a : n0 ≤ a) :
    Met l Z M34 jdk_53_method_1_code 3 none ws (Rm 1 0 0 12) #[(.ref a), (.ref b), (.int (0 : Int32))] h0 (Q_rm_itInit0 Z a b h0 n0) := by
  refine met_of (plainFor_of_name pn_java_util_ImmutableCollections_ListItr) (own := "java/util/ImmutableCollections$ListItr") rfl (fun m => ef_rm_itInit0 m a b (0 : Int32)) ?_
  intro p e s m below meth c s₁ hx hby hml hown hnm hZ X0 e0 hret hlk
  have N0 := Fr.nil n0
  have K0 := Keep.refl h0 [a]
  show Goes p e below s _ _ _ (s₁.setTop (mkF m 0 #[.val (.ref a), .val (.ref b), .val (.int (0 : Int32))] []))
  refine Goes.pre (U' := s₁.setTop (mkF m 1 #[.val (.ref a), .val (.ref b), .val (.int (0 : Int32))] [(.ref a)])) (fun t k => XS.aloadN X0.here hx rfl (hb hby d34_0) rfl rfl k) ?_
  obtain ⟨T1, X1, e1, st1⟩ := initO X0 hx hZ hown (wq hw 235 rfl) (wq hw 24 rfl) (wq hw 25 rfl) e0 (g := (mkF m 1 #[.val (.ref a), .val (.ref b), .val (.int (0 : Int32))] [(.ref a)])) rfl (by rw [hml]; rfl) rfl (hb hby d34_1) (by decide) (W := 0) (by show 2 * 0 + _ ≤ _; exact Nat.le_of_eq rfl) (by decide)
  refine Goes.pre (U' := T1.setTop (mkF m 6 #[.val (.ref a), .val (.ref b), .val (.int (0 : Int32))] [(.ref b), (.ref a)])) (fun t k => st1 t (XS.aloadN X1.here hx rfl (hb hby d34_4) rfl rfl (XS.aloadN X1.here hx rfl (hb hby d34_5) rfl rfl k))) ?_
  obtain ⟨T2, h2, X2, e2, W2, st2⟩ := putF X1 hx hZ hown (host := "") (Or.inl (wq hw 236 rfl)) Via.refl e1 F_list_a E_a (Or.inr ⟨(wq hw 237 rfl), rfl, hnm⟩) (wq hw 223 rfl) (ty := (.object "java/util/List")) (by decide) rfl rfl (g := (mkF m 6 #[.val (.ref a), .val (.ref b), .val (.int (0 : Int32))] [(.ref b), (.ref a)])) rfl rfl (hb hby d34_6)
  have F_size_a := F_size_a.other W2 (Or.inr (slot_ne (Or.inr (wq hw 239 rfl)) (Or.inr (wq hw 237 rfl)) (by decide) (t := .int) (t' := (.object "java/util/List")) (by decide) (by decide)))
  have F_cursor_a := F_cursor_a.other W2 (Or.inr (slot_ne (Or.inl (wq hw 241 rfl)) (Or.inr (wq hw 237 rfl)) (by decide) (t := .int) (t' := (.object "java/util/List")) (by decide) (by decide)))
  have F_isListIterator_a := F_isListIterator_a.other W2 (Or.inr (slot_ne (Or.inr (wq hw 243 rfl)) (Or.inr (wq hw 237 rfl)) (by decide) (t := .boolean) (t' := (.object "java/util/List")) (by decide) (by decide)))
  have E_a := E_a.wr W2
  have Z2 : n0 ≤ h2.size := Nat.le_trans Z0 (Keep.of_wr W2).1
  have F_list_a := F_list_a.same W2
  have K2 := K0.wr W2 (Or.inl (List.mem_of_getElem? (i := 0) rfl))
  have N2 := Fr.snoc X2 N0 g_a
  refine Goes.pre (U' := T2.setTop (mkF m 11 #[.val (.ref a), .val (.ref b), .val (.int (0 : Int32))] [(.int (0 : Int32)), (.ref a)])) (fun t k => st2 t (XS.aloadN X2.here hx rfl (hb hby d34_9) rfl rfl (XS.iloadN X2.here hx rfl (hb hby d34_10) rfl k))) ?_
  obtain ⟨T3, h3, X3, e3, W3, st3⟩ := putF X2 hx hZ hown (host := "") (Or.inl (wq hw 238 rfl)) Via.refl e2 F_size_a E_a (Or.inr ⟨(wq hw 239 rfl), rfl, hnm⟩) (wq hw 223 rfl) (ty := .int) (by decide) rfl rfl (g := (mkF m 11 #[.val (.ref a), .val (.ref b), .val (.int (0 : Int32))] [(.int (0 : Int32)), (.ref a)])) rfl rfl (hb hby d34_11)
  have F_list_a := F_list_a.other W3 (Or.inr (slot_ne (Or.inr (wq hw 237 rfl)) (Or.inr (wq hw 239 rfl)) (by decide) (t := (.object "java/util/List")) (t' := .int) (by decide) (by decide)))
  have F_cursor_a := F_cursor_a.other W3 (Or.inr (slot_ne (Or.inl (wq hw 241 rfl)) (Or.inr (wq hw 239 rfl)) (by decide) (t := .int) (t' := .int) (by decide) (by decide)))
  have F_isListIterator_a := F_isListIterator_a.other W3 (Or.inr (slot_ne (Or.inr (wq hw 243 rfl)) (Or.inr (wq hw 239 rfl)) (by decide) (t := .boolean) (t' := .int) (by decide) (by decide)))
  have E_a := E_a.wr W3
  have Z3 : n0 ≤ h3.size := Nat.le_trans Z2 (Keep.of_wr W3).1
  have F_size_a := F_size_a.same W3
  have K3 := K2.wr W3 (Or.inl (List.mem_of_getElem? (i := 0) rfl))
  have N3 := Fr.snoc X3 N2 g_a
  refine Goes.pre (U' := T3.setTop (mkF m 16 #[.val (.ref a), .val (.ref b), .val (.int (0 : Int32))] [(.int (0 : Int32)), (.ref a)])) (fun t k => st3 t (XS.aloadN X3.here hx rfl (hb hby d34_14) rfl rfl (XS.iconst X3.here hx rfl (hb hby d34_15) k))) ?_
  obtain ⟨T4, h4, X4, e4, W4, st4⟩ := putF X3 hx hZ hown (host := "") (Or.inl (wq hw 240 rfl)) Via.refl e3 F_cursor_a E_a (Or.inl (wq hw 241 rfl)) (wq hw 223 rfl) (ty := .int) (by decide) rfl rfl (g := (mkF m 16 #[.val (.ref a), .val (.ref b), .val (.int (0 : Int32))] [(.int (0 : Int32)), (.ref a)])) rfl rfl (hb hby d34_16)
  have F_list_a := F_list_a.other W4 (Or.inr (slot_ne (Or.inr (wq hw 237 rfl)) (Or.inl (wq hw 241 rfl)) (by decide) (t := (.object "java/util/List")) (t' := .int) (by decide) (by decide)))
  have F_size_a := F_size_a.other W4 (Or.inr (slot_ne (Or.inr (wq hw 239 rfl)) (Or.inl (wq hw 241 rfl)) (by decide) (t := .int) (t' := .int) (by decide) (by decide)))
  have F_isListIterator_a := F_isListIterator_a.other W4 (Or.inr (slot_ne (Or.inr (wq hw 243 rfl)) (Or.inl (wq hw 241 rfl)) (by decide) (t := .boolean) (t' := .int) (by decide) (by decide)))
  have E_a := E_a.wr W4
  have Z4 : n0 ≤ h4.size := Nat.le_trans Z3 (Keep.of_wr W4).1
  have F_cursor_a := F_cursor_a.same W4
  have K4 := K3.wr W4 (Or.inl (List.mem_of_getElem? (i := 0) rfl))
  have N4 := Fr.snoc X4 N3 g_a
  refine Goes.pre (U' := T4.setTop (mkF m 21 #[.val (.ref a), .val (.ref b), .val (.int (0 : Int32))] [(.int (0 : Int32)), (.ref a)])) (fun t k => st4 t (XS.aloadN X4.here hx rfl (hb hby d34_19) rfl rfl (XS.iconst X4.here hx rfl (hb hby d34_20) k))) ?_
  obtain ⟨T5, h5, X5, e5, W5, st5⟩ := putFN X4 hx hZ hown (wq hw 242 rfl) Via.refl e4 F_isListIterator_a E_a (Or.inr ⟨(wq hw 243 rfl), rfl, hnm⟩) (wq hw 223 rfl) (ty := .boolean) (v' := (.int (0 : Int32))) (by decide) rfl (by decide) (g := (mkF m 21 #[.val (.ref a), .val (.ref b), .val (.int (0 : Int32))] [(.int (0 : Int32)), (.ref a)])) rfl rfl (hb hby d34_21)
  have F_list_a := F_list_a.other W5 (Or.inr (slot_ne (Or.inr (wq hw 237 rfl)) (Or.inr (wq hw 243 rfl)) (by decide) (t := (.object "java/util/List")) (t' := .boolean) (by decide) (by decide)))
  have F_size_a := F_size_a.other W5 (Or.inr (slot_ne (Or.inr (wq hw 239 rfl)) (Or.inr (wq hw 243 rfl)) (by decide) (t := .int) (t' := .boolean) (by decide) (by decide)))
  have F_cursor_a := F_cursor_a.other W5 (Or.inr (slot_ne (Or.inl (wq hw 241 rfl)) (Or.inr (wq hw 243 rfl)) (by decide) (t := .int) (t' := .boolean) (by decide) (by decide)))
  have E_a := E_a.wr W5
  have Z5 : n0 ≤ h5.size := Nat.le_trans Z4 (Keep.of_wr W5).1
  have F_isListIterator_a := F_isListIterator_a.same W5
  have K5 := K4.wr W5 (Or.inl (List.mem_of_getElem? (i := 0) rfl))
  have N5 := Fr.snoc X5 N4 g_a
  refine Goes.pre (U' := T5.setTop (mkF m 24 #[.val (.ref a), .val (.ref b), .val (.int (0 : Int32))] [])) (fun t k => st5 t k) ?_
  refine Goes.ret X5 (v := none) (fun _ => rfl) hlk (by decide) (by decide) e5 (fun fs hr => X5.returnOut hx hret (hb hby d34_24) hr) ?_
  exact ⟨rfl, N5, K5, F_list_a, F_size_a, F_cursor_a⟩
theorem ef_rm_itInit1 (m : MethodId) (x0 : Addr) (x1 : Addr) (x2 : Int32) : entryFrame m #[(.ref x0), (.ref x1), (.int x2)] 3 = mkF m 0 #[.val (.ref x0), .val (.ref x1), .val (.int x2)] [] := by first | (simp [entryFrame, mkF, argsToLocals, Value.category]; done) | rfl
def Q_rm_itInit1 (Z : State) (a : Addr) (b : Addr) (h0 : Heap) (n0 : Nat) (v : Option Value) (h : Heap) (L : List Loc) : Prop := v = none ∧ Fr n0 L ∧ Keep h0 h [a] ∧ Fld Z h a "java/util/ImmutableCollections$ListItr" "list" "Ljava/util/List;" (.ref b) ∧ Fld Z h a "java/util/ImmutableCollections$ListItr" "size" "I" (.int (1 : Int32)) ∧ Fld Z h a "java/util/ImmutableCollections$ListItr" "cursor" "I" (.int (0 : Int32))
set_option maxRecDepth 65536 in
set_option maxHeartbeats 40000000 in
theorem rm_itInit1 (l : Launch) (Z : State) (a0 : Array Value) (hw : ∀ d ∈ tables_1, d.before a0 Z = true) (ws : List Jvm.Cond) (a : Addr) (b : Addr) (h0 : Heap) (n0 : Nat) (Z0 : n0 ≤ h0.size) (F_list_a : Fld Z h0 a "java/util/ImmutableCollections$ListItr" "list" "Ljava/util/List;" .null) (F_size_a : Fld Z h0 a "java/util/ImmutableCollections$ListItr" "size" "I" (.int (0 : Int32))) (F_cursor_a : Fld Z h0 a "java/util/ImmutableCollections$ListItr" "cursor" "I" (.int (0 : Int32))) (F_isListIterator_a : Fld Z h0 a "java/util/ImmutableCollections$ListItr" "isListIterator" "Z" (.int (0 : Int32))) (E_a : Exa Z h0 a "java/util/ImmutableCollections$ListItr") (g_a : n0 ≤ a) :
    Met l Z M34 jdk_53_method_1_code 3 none ws (Rm 1 0 0 12) #[(.ref a), (.ref b), (.int (1 : Int32))] h0 (Q_rm_itInit1 Z a b h0 n0) := by
  refine met_of (plainFor_of_name pn_java_util_ImmutableCollections_ListItr) (own := "java/util/ImmutableCollections$ListItr") rfl (fun m => ef_rm_itInit1 m a b (1 : Int32)) ?_
  intro p e s m below meth c s₁ hx hby hml hown hnm hZ X0 e0 hret hlk
  have N0 := Fr.nil n0
  have K0 := Keep.refl h0 [a]
  show Goes p e below s _ _ _ (s₁.setTop (mkF m 0 #[.val (.ref a), .val (.ref b), .val (.int (1 : Int32))] []))
  refine Goes.pre (U' := s₁.setTop (mkF m 1 #[.val (.ref a), .val (.ref b), .val (.int (1 : Int32))] [(.ref a)])) (fun t k => XS.aloadN X0.here hx rfl (hb hby d34_0) rfl rfl k) ?_
  obtain ⟨T1, X1, e1, st1⟩ := initO X0 hx hZ hown (wq hw 235 rfl) (wq hw 24 rfl) (wq hw 25 rfl) e0 (g := (mkF m 1 #[.val (.ref a), .val (.ref b), .val (.int (1 : Int32))] [(.ref a)])) rfl (by rw [hml]; rfl) rfl (hb hby d34_1) (by decide) (W := 0) (by show 2 * 0 + _ ≤ _; exact Nat.le_of_eq rfl) (by decide)
  refine Goes.pre (U' := T1.setTop (mkF m 6 #[.val (.ref a), .val (.ref b), .val (.int (1 : Int32))] [(.ref b), (.ref a)])) (fun t k => st1 t (XS.aloadN X1.here hx rfl (hb hby d34_4) rfl rfl (XS.aloadN X1.here hx rfl (hb hby d34_5) rfl rfl k))) ?_
  obtain ⟨T2, h2, X2, e2, W2, st2⟩ := putF X1 hx hZ hown (host := "") (Or.inl (wq hw 236 rfl)) Via.refl e1 F_list_a E_a (Or.inr ⟨(wq hw 237 rfl), rfl, hnm⟩) (wq hw 223 rfl) (ty := (.object "java/util/List")) (by decide) rfl rfl (g := (mkF m 6 #[.val (.ref a), .val (.ref b), .val (.int (1 : Int32))] [(.ref b), (.ref a)])) rfl rfl (hb hby d34_6)
  have F_size_a := F_size_a.other W2 (Or.inr (slot_ne (Or.inr (wq hw 239 rfl)) (Or.inr (wq hw 237 rfl)) (by decide) (t := .int) (t' := (.object "java/util/List")) (by decide) (by decide)))
  have F_cursor_a := F_cursor_a.other W2 (Or.inr (slot_ne (Or.inl (wq hw 241 rfl)) (Or.inr (wq hw 237 rfl)) (by decide) (t := .int) (t' := (.object "java/util/List")) (by decide) (by decide)))
  have F_isListIterator_a := F_isListIterator_a.other W2 (Or.inr (slot_ne (Or.inr (wq hw 243 rfl)) (Or.inr (wq hw 237 rfl)) (by decide) (t := .boolean) (t' := (.object "java/util/List")) (by decide) (by decide)))
  have E_a := E_a.wr W2
  have Z2 : n0 ≤ h2.size := Nat.le_trans Z0 (Keep.of_wr W2).1
  have F_list_a := F_list_a.same W2
  have K2 := K0.wr W2 (Or.inl (List.mem_of_getElem? (i := 0) rfl))
  have N2 := Fr.snoc X2 N0 g_a
  refine Goes.pre (U' := T2.setTop (mkF m 11 #[.val (.ref a), .val (.ref b), .val (.int (1 : Int32))] [(.int (1 : Int32)), (.ref a)])) (fun t k => st2 t (XS.aloadN X2.here hx rfl (hb hby d34_9) rfl rfl (XS.iloadN X2.here hx rfl (hb hby d34_10) rfl k))) ?_
  obtain ⟨T3, h3, X3, e3, W3, st3⟩ := putF X2 hx hZ hown (host := "") (Or.inl (wq hw 238 rfl)) Via.refl e2 F_size_a E_a (Or.inr ⟨(wq hw 239 rfl), rfl, hnm⟩) (wq hw 223 rfl) (ty := .int) (by decide) rfl rfl (g := (mkF m 11 #[.val (.ref a), .val (.ref b), .val (.int (1 : Int32))] [(.int (1 : Int32)), (.ref a)])) rfl rfl (hb hby d34_11)
  have F_list_a := F_list_a.other W3 (Or.inr (slot_ne (Or.inr (wq hw 237 rfl)) (Or.inr (wq hw 239 rfl)) (by decide) (t := (.object "java/util/List")) (t' := .int) (by decide) (by decide)))
  have F_cursor_a := F_cursor_a.other W3 (Or.inr (slot_ne (Or.inl (wq hw 241 rfl)) (Or.inr (wq hw 239 rfl)) (by decide) (t := .int) (t' := .int) (by decide) (by decide)))
  have F_isListIterator_a := F_isListIterator_a.other W3 (Or.inr (slot_ne (Or.inr (wq hw 243 rfl)) (Or.inr (wq hw 239 rfl)) (by decide) (t := .boolean) (t' := .int) (by decide) (by decide)))
  have E_a := E_a.wr W3
  have Z3 : n0 ≤ h3.size := Nat.le_trans Z2 (Keep.of_wr W3).1
  have F_size_a := F_size_a.same W3
  have K3 := K2.wr W3 (Or.inl (List.mem_of_getElem? (i := 0) rfl))
  have N3 := Fr.snoc X3 N2 g_a
  refine Goes.pre (U' := T3.setTop (mkF m 16 #[.val (.ref a), .val (.ref b), .val (.int (1 : Int32))] [(.int (0 : Int32)), (.ref a)])) (fun t k => st3 t (XS.aloadN X3.here hx rfl (hb hby d34_14) rfl rfl (XS.iconst X3.here hx rfl (hb hby d34_15) k))) ?_
  obtain ⟨T4, h4, X4, e4, W4, st4⟩ := putF X3 hx hZ hown (host := "") (Or.inl (wq hw 240 rfl)) Via.refl e3 F_cursor_a E_a (Or.inl (wq hw 241 rfl)) (wq hw 223 rfl) (ty := .int) (by decide) rfl rfl (g := (mkF m 16 #[.val (.ref a), .val (.ref b), .val (.int (1 : Int32))] [(.int (0 : Int32)), (.ref a)])) rfl rfl (hb hby d34_16)
  have F_list_a := F_list_a.other W4 (Or.inr (slot_ne (Or.inr (wq hw 237 rfl)) (Or.inl (wq hw 241 rfl)) (by decide) (t := (.object "java/util/List")) (t' := .int) (by decide) (by decide)))
  have F_size_a := F_size_a.other W4 (Or.inr (slot_ne (Or.inr (wq hw 239 rfl)) (Or.inl (wq hw 241 rfl)) (by decide) (t := .int) (t' := .int) (by decide) (by decide)))
  have F_isListIterator_a := F_isListIterator_a.other W4 (Or.inr (slot_ne (Or.inr (wq hw 243 rfl)) (Or.inl (wq hw 241 rfl)) (by decide) (t := .boolean) (t' := .int) (by decide) (by decide)))
  have E_a := E_a.wr W4
  have Z4 : n0 ≤ h4.size := Nat.le_trans Z3 (Keep.of_wr W4).1
  have F_cursor_a := F_cursor_a.same W4
  have K4 := K3.wr W4 (Or.inl (List.mem_of_getElem? (i := 0) rfl))
  have N4 := Fr.snoc X4 N3 g_a
  refine Goes.pre (U' := T4.setTop (mkF m 21 #[.val (.ref a), .val (.ref b), .val (.int (1 : Int32))] [(.int (0 : Int32)), (.ref a)])) (fun t k => st4 t (XS.aloadN X4.here hx rfl (hb hby d34_19) rfl rfl (XS.iconst X4.here hx rfl (hb hby d34_20) k))) ?_
  obtain ⟨T5, h5, X5, e5, W5, st5⟩ := putFN X4 hx hZ hown (wq hw 242 rfl) Via.refl e4 F_isListIterator_a E_a (Or.inr ⟨(wq hw 243 rfl), rfl, hnm⟩) (wq hw 223 rfl) (ty := .boolean) (v' := (.int (0 : Int32))) (by decide) rfl (by decide) (g := (mkF m 21 #[.val (.ref a), .val (.ref b), .val (.int (1 : Int32))] [(.int (0 : Int32)), (.ref a)])) rfl rfl (hb hby d34_21)
  have F_list_a := F_list_a.other W5 (Or.inr (slot_ne (Or.inr (wq hw 237 rfl)) (Or.inr (wq hw 243 rfl)) (by decide) (t := (.object "java/util/List")) (t' := .boolean) (by decide) (by decide)))
  have F_size_a := F_size_a.other W5 (Or.inr (slot_ne (Or.inr (wq hw 239 rfl)) (Or.inr (wq hw 243 rfl)) (by decide) (t := .int) (t' := .boolean) (by decide) (by decide)))
  have F_cursor_a := F_cursor_a.other W5 (Or.inr (slot_ne (Or.inl (wq hw 241 rfl)) (Or.inr (wq hw 243 rfl)) (by decide) (t := .int) (t' := .boolean) (by decide) (by decide)))
  have E_a := E_a.wr W5
  have Z5 : n0 ≤ h5.size := Nat.le_trans Z4 (Keep.of_wr W5).1
  have F_isListIterator_a := F_isListIterator_a.same W5
  have K5 := K4.wr W5 (Or.inl (List.mem_of_getElem? (i := 0) rfl))
  have N5 := Fr.snoc X5 N4 g_a
  refine Goes.pre (U' := T5.setTop (mkF m 24 #[.val (.ref a), .val (.ref b), .val (.int (1 : Int32))] [])) (fun t k => st5 t k) ?_
  refine Goes.ret X5 (v := none) (fun _ => rfl) hlk (by decide) (by decide) e5 (fun fs hr => X5.returnOut hx hret (hb hby d34_24) hr) ?_
  exact ⟨rfl, N5, K5, F_list_a, F_size_a, F_cursor_a⟩
theorem ef_rm_iter0 (m : MethodId) (x0 : Addr) : entryFrame m #[(.ref x0)] 1 = mkF m 0 #[.val (.ref x0)] [] := by first | (simp [entryFrame, mkF, argsToLocals, Value.category]; done) | rfl
abbrev M32 : MethodName := ⟨"java/util/ImmutableCollections$AbstractImmutableList", "iterator", "()Ljava/util/Iterator;"⟩
theorem d32_0 : decode jdk_46_method_10_code 0 = .ok (.new 61, 3) := by decide +kernel
theorem d32_3 : decode jdk_46_method_10_code 3 = .ok (.dup, 1) := by decide +kernel
theorem d32_4 : decode jdk_46_method_10_code 4 = .ok (.aload_n 0, 1) := by decide +kernel
theorem d32_5 : decode jdk_46_method_10_code 5 = .ok (.aload_n 0, 1) := by decide +kernel
theorem d32_6 : decode jdk_46_method_10_code 6 = .ok (.invokevirtual 13, 3) := by decide +kernel
theorem pd__28_29I : parseMethodDescriptor "()I" = some ⟨[], some .int⟩ := by decide +kernel
theorem d32_9 : decode jdk_46_method_10_code 9 = .ok (.invokespecial 63, 3) := by decide +kernel
theorem pd__28Ljava_2futil_2fList_3bI_29V : parseMethodDescriptor "(Ljava/util/List;I)V" = some ⟨[(.object "java/util/List"), .int], none⟩ := by decide +kernel
theorem d32_12 : decode jdk_46_method_10_code 12 = .ok (.areturn, 1) := by decide +kernel
def Q_rm_iter0 (Z : State) (el : Addr) (ea : Addr) (ke : ClassId) (h0 : Heap) (n0 : Nat) (v : Option Value) (h : Heap) (L : List Loc) : Prop := ∃ (r : Addr), v = some (.ref r) ∧ Fr n0 L ∧ Keep h0 h [] ∧ Exa Z h r "java/util/ImmutableCollections$ListItr" ∧ Fld Z h r "java/util/ImmutableCollections$ListItr" "list" "Ljava/util/List;" (.ref el) ∧ Fld Z h r "java/util/ImmutableCollections$ListItr" "size" "I" (.int (0 : Int32)) ∧ Fld Z h r "java/util/ImmutableCollections$ListItr" "cursor" "I" (.int (0 : Int32)) ∧ n0 ≤ r ∧ h0.size ≤ r
set_option maxRecDepth 65536 in
set_option maxHeartbeats 40000000 in
theorem rm_iter0 (l : Launch) (Z : State) (a0 : Array Value) (hw : ∀ d ∈ tables_1, d.before a0 Z = true) (ws : List Jvm.Cond) (el : Addr) (ea : Addr) (ke : ClassId) (h0 : Heap) (n0 : Nat) (Z0 : n0 ≤ h0.size) (E_el : Exa Z Z.heap el "java/util/ImmutableCollections$ListN") (F_elements_el : Fld Z Z.heap el "java/util/ImmutableCollections$ListN" "elements" "[Ljava/lang/Object;" (.ref ea)) (V_ea : Arv Z Z.heap ea ke (.object "java/lang/Object") (0 : Int32) [] .null) (O : Old Z n0 h0) :
    Met l Z M32 jdk_46_method_10_code 1 (some (.object "java/util/Iterator")) ws (Rm 2 1 4 27) #[(.ref el)] h0 (Q_rm_iter0 Z el ea ke h0 n0) := by
  refine met_of (plainFor_of_name pn_java_util_ImmutableCollections_AbstractImmutableList) (own := "java/util/ImmutableCollections$AbstractImmutableList") rfl (fun m => ef_rm_iter0 m el) ?_
  intro p e s m below meth c s₁ hx hby hml hown hnm hZ X0 e0 hret hlk
  have N0 := Fr.nil n0
  have K0 := Keep.refl h0 []
  show Goes p e below s _ _ _ (s₁.setTop (mkF m 0 #[.val (.ref el)] []))
  obtain ⟨T1, h1, X1, e1, E1, A1, D1, -, st1⟩ := newO X0 hx hZ hown (wq hw 222 rfl) (wq hw 223 rfl) (wq hw 224 rfl) e0 (g := (mkF m 0 #[.val (.ref el)] [])) rfl (hb hby d32_0) (by decide) (by decide)
  obtain ⟨nb1, g1⟩ : ∃ z, z = h0.size := ⟨_, rfl⟩
  rw [← g1] at A1 D1 st1
  have ne_ea_nb1 : ea ≠ nb1 := Nat.ne_of_lt (Nat.lt_of_lt_of_le (V_ea.ext O.2).lt (Nat.le_of_eq g1.symm))
  have ne_nb1_ea := ne_ea_nb1.symm
  have ne_el_nb1 : el ≠ nb1 := Nat.ne_of_lt (Nat.lt_of_lt_of_le (E_el.ext O.2).lt (Nat.le_of_eq g1.symm))
  have ne_nb1_el := ne_el_nb1.symm
  have g_nb1 : n0 ≤ nb1 := Nat.le_trans Z0 (Nat.le_of_eq g1.symm)
  have sz_nb1 : h0.size ≤ nb1 := Nat.le_trans K0.1 (Nat.le_of_eq g1.symm)
  have O := O.ext E1
  have Z1 : n0 ≤ h1.size := Nat.le_trans Z0 E1.1
  have K1 := K0.ext E1
  have E_nb1 := A1
  have F_list_nb1 : Fld Z h1 nb1 "java/util/ImmutableCollections$ListItr" "list" "Ljava/util/List;" .null := D1 (Or.inr (wq hw 237 rfl)) (ty := (.object "java/util/List")) (by decide)
  have F_size_nb1 : Fld Z h1 nb1 "java/util/ImmutableCollections$ListItr" "size" "I" (.int (0 : Int32)) := D1 (Or.inr (wq hw 239 rfl)) (ty := .int) (by decide)
  have F_cursor_nb1 : Fld Z h1 nb1 "java/util/ImmutableCollections$ListItr" "cursor" "I" (.int (0 : Int32)) := D1 (Or.inl (wq hw 241 rfl)) (ty := .int) (by decide)
  have F_isListIterator_nb1 : Fld Z h1 nb1 "java/util/ImmutableCollections$ListItr" "isListIterator" "Z" (.int (0 : Int32)) := D1 (Or.inr (wq hw 243 rfl)) (ty := .boolean) (by decide)
  refine Goes.pre (U' := T1.setTop (mkF m 6 #[.val (.ref el)] [(.ref el), (.ref el), (.ref nb1), (.ref nb1)])) (fun t k => st1 t (XS.dup X1.here hx rfl (hb hby d32_3) rfl rfl (XS.aloadN X1.here hx rfl (hb hby d32_4) rfl rfl (XS.aloadN X1.here hx rfl (hb hby d32_5) rfl rfl k)))) ?_
  obtain ⟨cq2, kq2, q2a, q2b, q2c⟩ := isOf hZ e1 (E_el.ext O.2)
  obtain ⟨_, _, ⟨T2, L2, k2, n2⟩, -, X2, ⟨Lc2, hQ2, l2, y2, z2⟩, st2⟩ := X1.virtualBackUp hx (x := (⟨"java/util/ImmutableCollections$AbstractImmutableList", "size", "()I"⟩ : MethodName)) (y := (⟨"java/util/ImmutableCollections$ListN", "size", "()I"⟩ : MethodName)) (owner := "java/util/AbstractCollection") hown (mvT hZ (wq hw 225 rfl)) (mvT hZ (wq hw 226 rfl)) (mvT hZ (wq hw 227 rfl)) (by decide) (mvT hZ (wq hw 276 rfl)) (mvT hZ (wq hw 277 rfl)) (backOf (W := 3) (rm_lnsize l Z a0 hw [] el ea ke h1 n0 Z1 F_elements_el V_ea O) hZ (wq hw 279 rfl) (wq hw 278 rfl) (by decide) (by decide)) q2a q2c (g := (mkF m 6 #[.val (.ref el)] [(.ref el), (.ref el), (.ref nb1), (.ref nb1)])) rfl (by rw [hml]; rfl) (Steps.refl _) (argsL := []) (rest := [(.ref el), (.ref nb1), (.ref nb1)]) (lenOf pd__28_29I rfl) rfl (by show 2 * 0 + _ ≤ _; exact Nat.le_of_eq rfl) (hb hby d32_6) (fun _ _ => ⟨rfl, e1, (by decide : 1 + 0 ≤ _), (by decide : 4 + 0 ≤ _)⟩)
  dsimp only [Pt.U, Pt.locs, Pt.cells, Pt.slots] at X2 l2 y2 z2 st2 hQ2
  subst l2 y2 z2
  obtain ⟨rfl, N2q, HQ2⟩ := hQ2
  have N2 := Fr.app N0 N2q
  refine Goes.pre (U' := T2.setTop (mkF m 9 #[.val (.ref el)] [(.int (0 : Int32)), (.ref el), (.ref nb1), (.ref nb1)])) (fun t k => st2.trans k) ?_
  obtain ⟨_, _, ⟨T3, L3, k3, n3⟩, -, X3, ⟨Lc3, hQ3, l3, y3, z3⟩, st3⟩ := X2.specialBack hx (y := (⟨"java/util/ImmutableCollections$ListItr", "<init>", "(Ljava/util/List;I)V"⟩ : MethodName)) rfl hown (mvT hZ (wq hw 231 rfl)) (mvT hZ (wq hw 232 rfl)) (mvT hZ (wq hw 234 rfl)) (by decide) (backOf (W := 1) (rm_itInit0 l Z a0 hw [] nb1 el h1 n0 Z1 F_list_nb1 F_size_nb1 F_cursor_nb1 F_isListIterator_nb1 E_nb1 g_nb1) hZ (wq hw 234 rfl) (wq hw 224 rfl) (by decide) (by decide)) (g := (mkF m 9 #[.val (.ref el)] [(.int (0 : Int32)), (.ref el), (.ref nb1), (.ref nb1)])) rfl (by rw [hml]; rfl) (Steps.refl _) (a := nb1) (argsL := [(.ref el), (.int (0 : Int32))]) (rest := [(.ref nb1)]) (lenOf pd__28Ljava_2futil_2fList_3bI_29V rfl) rfl (by show 2 * 0 + _ ≤ _; exact Nat.le_of_eq rfl) (hb hby d32_9) (fun _ _ => ⟨rfl, HQ2, (by decide : 1 + 0 ≤ _), (by decide : 4 + 0 ≤ _)⟩)
  dsimp only [Pt.U, Pt.locs, Pt.cells, Pt.slots] at X3 l3 y3 z3 st3 hQ3
  subst l3 y3 z3
  obtain ⟨rfl, N3q, KQ3, fo0_3, fo1_3, fo2_3⟩ := hQ3
  have N3 := Fr.app N2 N3q
  have E_nb1 := E_nb1.keep KQ3
  have Z4 : n0 ≤ T3.heap.size := Nat.le_trans Z1 KQ3.1
  have O := O.keep KQ3 (allS (P := fun x => n0 ≤ x) g_nb1 all0)
  have K4 := K1.trans KQ3 (allS (P := fun x => x ∈ [] ∨ h0.size ≤ x) (Or.inr sz_nb1) all0)
  have F_list_nb1 := fo0_3
  have F_size_nb1 := fo1_3
  have F_cursor_nb1 := fo2_3
  refine Goes.pre (U' := T3.setTop (mkF m 12 #[.val (.ref el)] [(.ref nb1)])) (fun t k => st3.trans k) ?_
  refine Goes.ret X3 (v := (some (.ref nb1))) (fun h => by rw [hret] at h; cases h) hlk (by decide) (by decide) rfl (fun fs hr => retOut X3 hx hret rfl (Or.inr (Or.inr (Or.inr (Or.inr ⟨rfl, rfl, rfl⟩)))) (hb hby d32_12) hr) ?_
  exact ⟨nb1, rfl, N3, K4, E_nb1, F_list_nb1, F_size_nb1, F_cursor_nb1, g_nb1, sz_nb1⟩
theorem ef_rm_iter1 (m : MethodId) (x0 : Addr) : entryFrame m #[(.ref x0)] 1 = mkF m 0 #[.val (.ref x0)] [] := by first | (simp [entryFrame, mkF, argsToLocals, Value.category]; done) | rfl
def Q_rm_iter1 (Z : State) (a : Addr) (em : Addr) (h0 : Heap) (n0 : Nat) (v : Option Value) (h : Heap) (L : List Loc) : Prop := ∃ (r : Addr), v = some (.ref r) ∧ Fr n0 L ∧ Keep h0 h [] ∧ Exa Z h r "java/util/ImmutableCollections$ListItr" ∧ Fld Z h r "java/util/ImmutableCollections$ListItr" "list" "Ljava/util/List;" (.ref a) ∧ Fld Z h r "java/util/ImmutableCollections$ListItr" "size" "I" (.int (1 : Int32)) ∧ Fld Z h r "java/util/ImmutableCollections$ListItr" "cursor" "I" (.int (0 : Int32)) ∧ n0 ≤ r ∧ h0.size ≤ r
set_option maxRecDepth 65536 in
set_option maxHeartbeats 40000000 in
theorem rm_iter1 (l : Launch) (Z : State) (a0 : Array Value) (hw : ∀ d ∈ tables_1, d.before a0 Z = true) (ws : List Jvm.Cond) (a : Addr) (em : Addr) (h0 : Heap) (n0 : Nat) (Z0 : n0 ≤ h0.size) (E_a : Exa Z h0 a "java/util/ImmutableCollections$List12") (F_e1_a : Fld Z h0 a "java/util/ImmutableCollections$List12" "e1" "Ljava/lang/Object;" (.ref em)) (S_EMPTY : Sta Z Z.heap "java/util/ImmutableCollections" "EMPTY" "Ljava/lang/Object;" (.ref em)) (O : Old Z n0 h0) :
    Met l Z M32 jdk_46_method_10_code 1 (some (.object "java/util/Iterator")) ws (Rm 2 1 4 27) #[(.ref a)] h0 (Q_rm_iter1 Z a em h0 n0) := by
  refine met_of (plainFor_of_name pn_java_util_ImmutableCollections_AbstractImmutableList) (own := "java/util/ImmutableCollections$AbstractImmutableList") rfl (fun m => ef_rm_iter1 m a) ?_
  intro p e s m below meth c s₁ hx hby hml hown hnm hZ X0 e0 hret hlk
  have N0 := Fr.nil n0
  have K0 := Keep.refl h0 []
  show Goes p e below s _ _ _ (s₁.setTop (mkF m 0 #[.val (.ref a)] []))
  obtain ⟨T1, h1, X1, e1, E1, A1, D1, -, st1⟩ := newO X0 hx hZ hown (wq hw 222 rfl) (wq hw 223 rfl) (wq hw 224 rfl) e0 (g := (mkF m 0 #[.val (.ref a)] [])) rfl (hb hby d32_0) (by decide) (by decide)
  obtain ⟨nb1, g1⟩ : ∃ z, z = h0.size := ⟨_, rfl⟩
  rw [← g1] at A1 D1 st1
  have ne_a_nb1 : a ≠ nb1 := Nat.ne_of_lt (Nat.lt_of_lt_of_le E_a.lt (Nat.le_of_eq g1.symm))
  have ne_nb1_a := ne_a_nb1.symm
  have g_nb1 : n0 ≤ nb1 := Nat.le_trans Z0 (Nat.le_of_eq g1.symm)
  have sz_nb1 : h0.size ≤ nb1 := Nat.le_trans K0.1 (Nat.le_of_eq g1.symm)
  have E_a := E_a.ext E1
  have F_e1_a := F_e1_a.ext E1
  have O := O.ext E1
  have Z1 : n0 ≤ h1.size := Nat.le_trans Z0 E1.1
  have K1 := K0.ext E1
  have E_nb1 := A1
  have F_list_nb1 : Fld Z h1 nb1 "java/util/ImmutableCollections$ListItr" "list" "Ljava/util/List;" .null := D1 (Or.inr (wq hw 237 rfl)) (ty := (.object "java/util/List")) (by decide)
  have F_size_nb1 : Fld Z h1 nb1 "java/util/ImmutableCollections$ListItr" "size" "I" (.int (0 : Int32)) := D1 (Or.inr (wq hw 239 rfl)) (ty := .int) (by decide)
  have F_cursor_nb1 : Fld Z h1 nb1 "java/util/ImmutableCollections$ListItr" "cursor" "I" (.int (0 : Int32)) := D1 (Or.inl (wq hw 241 rfl)) (ty := .int) (by decide)
  have F_isListIterator_nb1 : Fld Z h1 nb1 "java/util/ImmutableCollections$ListItr" "isListIterator" "Z" (.int (0 : Int32)) := D1 (Or.inr (wq hw 243 rfl)) (ty := .boolean) (by decide)
  refine Goes.pre (U' := T1.setTop (mkF m 6 #[.val (.ref a)] [(.ref a), (.ref a), (.ref nb1), (.ref nb1)])) (fun t k => st1 t (XS.dup X1.here hx rfl (hb hby d32_3) rfl rfl (XS.aloadN X1.here hx rfl (hb hby d32_4) rfl rfl (XS.aloadN X1.here hx rfl (hb hby d32_5) rfl rfl k)))) ?_
  obtain ⟨cq2, kq2, q2a, q2b, q2c⟩ := isOf hZ e1 E_a
  obtain ⟨_, _, ⟨T2, L2, k2, n2⟩, -, X2, ⟨Lc2, hQ2, l2, y2, z2⟩, st2⟩ := X1.virtualBackUp hx (x := (⟨"java/util/ImmutableCollections$AbstractImmutableList", "size", "()I"⟩ : MethodName)) (y := (⟨"java/util/ImmutableCollections$List12", "size", "()I"⟩ : MethodName)) (owner := "java/util/AbstractCollection") hown (mvT hZ (wq hw 225 rfl)) (mvT hZ (wq hw 226 rfl)) (mvT hZ (wq hw 227 rfl)) (by decide) (mvT hZ (wq hw 228 rfl)) (mvT hZ (wq hw 229 rfl)) (backOf (W := 3) (rm_l12size l Z a0 hw [] a em h1 n0 Z1 F_e1_a S_EMPTY O) hZ (wq hw 230 rfl) (wq hw 175 rfl) (by decide) (by decide)) q2a q2c (g := (mkF m 6 #[.val (.ref a)] [(.ref a), (.ref a), (.ref nb1), (.ref nb1)])) rfl (by rw [hml]; rfl) (Steps.refl _) (argsL := []) (rest := [(.ref a), (.ref nb1), (.ref nb1)]) (lenOf pd__28_29I rfl) rfl (by show 2 * 0 + _ ≤ _; exact Nat.le_of_eq rfl) (hb hby d32_6) (fun _ _ => ⟨rfl, e1, (by decide : 1 + 0 ≤ _), (by decide : 4 + 0 ≤ _)⟩)
  dsimp only [Pt.U, Pt.locs, Pt.cells, Pt.slots] at X2 l2 y2 z2 st2 hQ2
  subst l2 y2 z2
  obtain ⟨rfl, N2q, HQ2⟩ := hQ2
  have N2 := Fr.app N0 N2q
  refine Goes.pre (U' := T2.setTop (mkF m 9 #[.val (.ref a)] [(.int (1 : Int32)), (.ref a), (.ref nb1), (.ref nb1)])) (fun t k => st2.trans k) ?_
  obtain ⟨_, _, ⟨T3, L3, k3, n3⟩, -, X3, ⟨Lc3, hQ3, l3, y3, z3⟩, st3⟩ := X2.specialBack hx (y := (⟨"java/util/ImmutableCollections$ListItr", "<init>", "(Ljava/util/List;I)V"⟩ : MethodName)) rfl hown (mvT hZ (wq hw 231 rfl)) (mvT hZ (wq hw 232 rfl)) (mvT hZ (wq hw 234 rfl)) (by decide) (backOf (W := 1) (rm_itInit1 l Z a0 hw [] nb1 a h1 n0 Z1 F_list_nb1 F_size_nb1 F_cursor_nb1 F_isListIterator_nb1 E_nb1 g_nb1) hZ (wq hw 234 rfl) (wq hw 224 rfl) (by decide) (by decide)) (g := (mkF m 9 #[.val (.ref a)] [(.int (1 : Int32)), (.ref a), (.ref nb1), (.ref nb1)])) rfl (by rw [hml]; rfl) (Steps.refl _) (a := nb1) (argsL := [(.ref a), (.int (1 : Int32))]) (rest := [(.ref nb1)]) (lenOf pd__28Ljava_2futil_2fList_3bI_29V rfl) rfl (by show 2 * 0 + _ ≤ _; exact Nat.le_of_eq rfl) (hb hby d32_9) (fun _ _ => ⟨rfl, HQ2, (by decide : 1 + 0 ≤ _), (by decide : 4 + 0 ≤ _)⟩)
  dsimp only [Pt.U, Pt.locs, Pt.cells, Pt.slots] at X3 l3 y3 z3 st3 hQ3
  subst l3 y3 z3
  obtain ⟨rfl, N3q, KQ3, fo0_3, fo1_3, fo2_3⟩ := hQ3
  have N3 := Fr.app N2 N3q
  have E_a := E_a.keep KQ3
  have F_e1_a := F_e1_a.keep KQ3 (ninS ne_a_nb1 nin0)
  have E_nb1 := E_nb1.keep KQ3
  have Z4 : n0 ≤ T3.heap.size := Nat.le_trans Z1 KQ3.1
  have O := O.keep KQ3 (allS (P := fun x => n0 ≤ x) g_nb1 all0)
  have K4 := K1.trans KQ3 (allS (P := fun x => x ∈ [] ∨ h0.size ≤ x) (Or.inr sz_nb1) all0)
  have F_list_nb1 := fo0_3
  have F_size_nb1 := fo1_3
  have F_cursor_nb1 := fo2_3
  refine Goes.pre (U' := T3.setTop (mkF m 12 #[.val (.ref a)] [(.ref nb1)])) (fun t k => st3.trans k) ?_
  refine Goes.ret X3 (v := (some (.ref nb1))) (fun h => by rw [hret] at h; cases h) hlk (by decide) (by decide) rfl (fun fs hr => retOut X3 hx hret rfl (Or.inr (Or.inr (Or.inr (Or.inr ⟨rfl, rfl, rfl⟩)))) (hb hby d32_12) hr) ?_
  exact ⟨nb1, rfl, N3, K4, E_nb1, F_list_nb1, F_size_nb1, F_cursor_nb1, g_nb1, sz_nb1⟩
theorem ef_rm_has00 (m : MethodId) (x0 : Addr) : entryFrame m #[(.ref x0)] 1 = mkF m 0 #[.val (.ref x0)] [] := by first | (simp [entryFrame, mkF, argsToLocals, Value.category]; done) | rfl
abbrev M35 : MethodName := ⟨"java/util/ImmutableCollections$ListItr", "hasNext", "()Z"⟩
theorem d35_0 : decode jdk_53_method_3_code 0 = .ok (.aload_n 0, 1) := by decide +kernel
theorem d35_1 : decode jdk_53_method_3_code 1 = .ok (.getfield 17, 3) := by decide +kernel
theorem d35_4 : decode jdk_53_method_3_code 4 = .ok (.aload_n 0, 1) := by decide +kernel
theorem d35_5 : decode jdk_53_method_3_code 5 = .ok (.getfield 13, 3) := by decide +kernel
theorem d35_8 : decode jdk_53_method_3_code 8 = .ok (.if_icmp .eq 7, 3) := by decide +kernel
theorem d35_15 : decode jdk_53_method_3_code 15 = .ok (.iconst 0, 1) := by decide +kernel
theorem d35_16 : decode jdk_53_method_3_code 16 = .ok (.ireturn, 1) := by decide +kernel
def Q_rm_has00 (Z : State) (a : Addr) (h0 : Heap) (n0 : Nat) (v : Option Value) (h : Heap) (L : List Loc) : Prop := v = some (.int (0 : Int32)) ∧ Fr n0 L ∧ h = h0
set_option maxRecDepth 65536 in
set_option maxHeartbeats 40000000 in
theorem rm_has00 (l : Launch) (Z : State) (a0 : Array Value) (hw : ∀ d ∈ tables_1, d.before a0 Z = true) (ws : List Jvm.Cond) (a : Addr) (h0 : Heap) (n0 : Nat) (Z0 : n0 ≤ h0.size) (F_cursor_a : Fld Z h0 a "java/util/ImmutableCollections$ListItr" "cursor" "I" (.int (0 : Int32))) (F_size_a : Fld Z h0 a "java/util/ImmutableCollections$ListItr" "size" "I" (.int (0 : Int32))) :
    Met l Z M35 jdk_53_method_3_code 1 (some .boolean) ws (Rm 0 0 0 0) #[(.ref a)] h0 (Q_rm_has00 Z a h0 n0) := by
  refine met_of (plainFor_of_name pn_java_util_ImmutableCollections_ListItr) (own := "java/util/ImmutableCollections$ListItr") rfl (fun m => ef_rm_has00 m a) ?_
  intro p e s m below meth c s₁ hx hby hml hown hnm hZ X0 e0 hret hlk
  have N0 := Fr.nil n0
  show Goes p e below s _ _ _ (s₁.setTop (mkF m 0 #[.val (.ref a)] []))
  refine Goes.pre (U' := s₁.setTop (mkF m 1 #[.val (.ref a)] [(.ref a)])) (fun t k => XS.aloadN X0.here hx rfl (hb hby d35_0) rfl rfl k) ?_
  obtain ⟨T1, X1, e1, st1⟩ := getF X0 hx hZ hown (host := "") (Or.inl (wq hw 240 rfl)) Via.refl e0 F_cursor_a (g := (mkF m 1 #[.val (.ref a)] [(.ref a)])) rfl rfl (hb hby d35_1)
  refine Goes.pre (U' := T1.setTop (mkF m 5 #[.val (.ref a)] [(.ref a), (.int (0 : Int32))])) (fun t k => st1 t (XS.aloadN X1.here hx rfl (hb hby d35_4) rfl rfl k)) ?_
  obtain ⟨T2, X2, e2, st2⟩ := getF X1 hx hZ hown (host := "") (Or.inl (wq hw 238 rfl)) Via.refl e1 F_size_a (g := (mkF m 5 #[.val (.ref a)] [(.ref a), (.int (0 : Int32))])) rfl rfl (hb hby d35_5)
  refine Goes.pre (U' := T2.setTop (mkF m 8 #[.val (.ref a)] [(.int (0 : Int32)), (.int (0 : Int32))])) (fun t k => st2 t k) ?_
  have hc8 : (0 : Int32) = (0 : Int32) := rfl
  refine Goes.pre (U' := T2.setTop (mkF m 16 #[.val (.ref a)] [(.int (0 : Int32))])) (fun t k => XS.icmpYes X2.here hx rfl (pc0 := 8) (pc' := 15) rfl (hb hby d35_8) rfl (teq hc8).1 (by decide) (by decide) (XS.iconst X2.here hx rfl (hb hby d35_15) k)) ?_
  refine Goes.ret X2 (v := (some (.int (0 : Int32)))) (fun h => by rw [hret] at h; cases h) hlk (by decide) (by decide) e2 (fun fs hr => retN X2 hx (t := .boolean) hret (by simp) (hb hby d35_16) hr) ?_
  exact ⟨rfl, N0, rfl⟩
theorem ef_rm_has10 (m : MethodId) (x0 : Addr) : entryFrame m #[(.ref x0)] 1 = mkF m 0 #[.val (.ref x0)] [] := by first | (simp [entryFrame, mkF, argsToLocals, Value.category]; done) | rfl
theorem d35_11 : decode jdk_53_method_3_code 11 = .ok (.iconst 1, 1) := by decide +kernel
theorem d35_12 : decode jdk_53_method_3_code 12 = .ok (.goto 4, 3) := by decide +kernel
def Q_rm_has10 (Z : State) (a : Addr) (h0 : Heap) (n0 : Nat) (v : Option Value) (h : Heap) (L : List Loc) : Prop := v = some (.int (1 : Int32)) ∧ Fr n0 L ∧ h = h0
set_option maxRecDepth 65536 in
set_option maxHeartbeats 40000000 in
theorem rm_has10 (l : Launch) (Z : State) (a0 : Array Value) (hw : ∀ d ∈ tables_1, d.before a0 Z = true) (ws : List Jvm.Cond) (a : Addr) (h0 : Heap) (n0 : Nat) (Z0 : n0 ≤ h0.size) (F_cursor_a : Fld Z h0 a "java/util/ImmutableCollections$ListItr" "cursor" "I" (.int (0 : Int32))) (F_size_a : Fld Z h0 a "java/util/ImmutableCollections$ListItr" "size" "I" (.int (1 : Int32))) :
    Met l Z M35 jdk_53_method_3_code 1 (some .boolean) ws (Rm 0 0 0 0) #[(.ref a)] h0 (Q_rm_has10 Z a h0 n0) := by
  refine met_of (plainFor_of_name pn_java_util_ImmutableCollections_ListItr) (own := "java/util/ImmutableCollections$ListItr") rfl (fun m => ef_rm_has10 m a) ?_
  intro p e s m below meth c s₁ hx hby hml hown hnm hZ X0 e0 hret hlk
  have N0 := Fr.nil n0
  show Goes p e below s _ _ _ (s₁.setTop (mkF m 0 #[.val (.ref a)] []))
  refine Goes.pre (U' := s₁.setTop (mkF m 1 #[.val (.ref a)] [(.ref a)])) (fun t k => XS.aloadN X0.here hx rfl (hb hby d35_0) rfl rfl k) ?_
  obtain ⟨T1, X1, e1, st1⟩ := getF X0 hx hZ hown (host := "") (Or.inl (wq hw 240 rfl)) Via.refl e0 F_cursor_a (g := (mkF m 1 #[.val (.ref a)] [(.ref a)])) rfl rfl (hb hby d35_1)
  refine Goes.pre (U' := T1.setTop (mkF m 5 #[.val (.ref a)] [(.ref a), (.int (0 : Int32))])) (fun t k => st1 t (XS.aloadN X1.here hx rfl (hb hby d35_4) rfl rfl k)) ?_
  obtain ⟨T2, X2, e2, st2⟩ := getF X1 hx hZ hown (host := "") (Or.inl (wq hw 238 rfl)) Via.refl e1 F_size_a (g := (mkF m 5 #[.val (.ref a)] [(.ref a), (.int (0 : Int32))])) rfl rfl (hb hby d35_5)
  refine Goes.pre (U' := T2.setTop (mkF m 8 #[.val (.ref a)] [(.int (1 : Int32)), (.int (0 : Int32))])) (fun t k => st2 t k) ?_
  have hc8 : ¬ ((0 : Int32) = (1 : Int32)) := by decide
  refine Goes.pre (U' := T2.setTop (mkF m 16 #[.val (.ref a)] [(.int (1 : Int32))])) (fun t k => XS.icmpNo X2.here hx rfl (hb hby d35_8) rfl (feq hc8).1 (XS.iconst X2.here hx rfl (hb hby d35_11) (XS.goto X2.here hx rfl (pc0 := 12) (pc' := 16) rfl (hb hby d35_12) (by decide) (by decide) k))) ?_
  refine Goes.ret X2 (v := (some (.int (1 : Int32)))) (fun h => by rw [hret] at h; cases h) hlk (by decide) (by decide) e2 (fun fs hr => retN X2 hx (t := .boolean) hret (by simp) (hb hby d35_16) hr) ?_
  exact ⟨rfl, N0, rfl⟩
theorem ef_rm_has11 (m : MethodId) (x0 : Addr) : entryFrame m #[(.ref x0)] 1 = mkF m 0 #[.val (.ref x0)] [] := by first | (simp [entryFrame, mkF, argsToLocals, Value.category]; done) | rfl
def Q_rm_has11 (Z : State) (a : Addr) (h0 : Heap) (n0 : Nat) (v : Option Value) (h : Heap) (L : List Loc) : Prop := v = some (.int (0 : Int32)) ∧ Fr n0 L ∧ h = h0
set_option maxRecDepth 65536 in
set_option maxHeartbeats 40000000 in
theorem rm_has11 (l : Launch) (Z : State) (a0 : Array Value) (hw : ∀ d ∈ tables_1, d.before a0 Z = true) (ws : List Jvm.Cond) (a : Addr) (h0 : Heap) (n0 : Nat) (Z0 : n0 ≤ h0.size) (F_cursor_a : Fld Z h0 a "java/util/ImmutableCollections$ListItr" "cursor" "I" (.int (1 : Int32))) (F_size_a : Fld Z h0 a "java/util/ImmutableCollections$ListItr" "size" "I" (.int (1 : Int32))) :
    Met l Z M35 jdk_53_method_3_code 1 (some .boolean) ws (Rm 0 0 0 0) #[(.ref a)] h0 (Q_rm_has11 Z a h0 n0) := by
  refine met_of (plainFor_of_name pn_java_util_ImmutableCollections_ListItr) (own := "java/util/ImmutableCollections$ListItr") rfl (fun m => ef_rm_has11 m a) ?_
  intro p e s m below meth c s₁ hx hby hml hown hnm hZ X0 e0 hret hlk
  have N0 := Fr.nil n0
  show Goes p e below s _ _ _ (s₁.setTop (mkF m 0 #[.val (.ref a)] []))
  refine Goes.pre (U' := s₁.setTop (mkF m 1 #[.val (.ref a)] [(.ref a)])) (fun t k => XS.aloadN X0.here hx rfl (hb hby d35_0) rfl rfl k) ?_
  obtain ⟨T1, X1, e1, st1⟩ := getF X0 hx hZ hown (host := "") (Or.inl (wq hw 240 rfl)) Via.refl e0 F_cursor_a (g := (mkF m 1 #[.val (.ref a)] [(.ref a)])) rfl rfl (hb hby d35_1)
  refine Goes.pre (U' := T1.setTop (mkF m 5 #[.val (.ref a)] [(.ref a), (.int (1 : Int32))])) (fun t k => st1 t (XS.aloadN X1.here hx rfl (hb hby d35_4) rfl rfl k)) ?_
  obtain ⟨T2, X2, e2, st2⟩ := getF X1 hx hZ hown (host := "") (Or.inl (wq hw 238 rfl)) Via.refl e1 F_size_a (g := (mkF m 5 #[.val (.ref a)] [(.ref a), (.int (1 : Int32))])) rfl rfl (hb hby d35_5)
  refine Goes.pre (U' := T2.setTop (mkF m 8 #[.val (.ref a)] [(.int (1 : Int32)), (.int (1 : Int32))])) (fun t k => st2 t k) ?_
  have hc8 : (1 : Int32) = (1 : Int32) := rfl
  refine Goes.pre (U' := T2.setTop (mkF m 16 #[.val (.ref a)] [(.int (0 : Int32))])) (fun t k => XS.icmpYes X2.here hx rfl (pc0 := 8) (pc' := 15) rfl (hb hby d35_8) rfl (teq hc8).1 (by decide) (by decide) (XS.iconst X2.here hx rfl (hb hby d35_15) k)) ?_
  refine Goes.ret X2 (v := (some (.int (0 : Int32)))) (fun h => by rw [hret] at h; cases h) hlk (by decide) (by decide) e2 (fun fs hr => retN X2 hx (t := .boolean) hret (by simp) (hb hby d35_16) hr) ?_
  exact ⟨rfl, N0, rfl⟩
theorem ef_rm_get (m : MethodId) (x0 : Addr) (x1 : Int32) : entryFrame m #[(.ref x0), (.int x1)] 2 = mkF m 0 #[.val (.ref x0), .val (.int x1)] [] := by first | (simp [entryFrame, mkF, argsToLocals, Value.category]; done) | rfl
abbrev M37 : MethodName := ⟨"java/util/ImmutableCollections$List12", "get", "(I)Ljava/lang/Object;"⟩
theorem d37_0 : decode jdk_44_method_5_code 0 = .ok (.iload_n 1, 1) := by decide +kernel
theorem d37_1 : decode jdk_44_method_5_code 1 = .ok (.ifCond .ne 8, 3) := by decide +kernel
theorem d37_4 : decode jdk_44_method_5_code 4 = .ok (.aload_n 0, 1) := by decide +kernel
theorem d37_5 : decode jdk_44_method_5_code 5 = .ok (.getfield 13, 3) := by decide +kernel
theorem d37_8 : decode jdk_44_method_5_code 8 = .ok (.areturn, 1) := by decide +kernel
def Q_rm_get (Z : State) (a : Addr) (y : Addr) (h0 : Heap) (n0 : Nat) (v : Option Value) (h : Heap) (L : List Loc) : Prop := v = some (.ref y) ∧ Fr n0 L ∧ h = h0
set_option maxRecDepth 65536 in
set_option maxHeartbeats 40000000 in
theorem rm_get (l : Launch) (Z : State) (a0 : Array Value) (hw : ∀ d ∈ tables_1, d.before a0 Z = true) (ws : List Jvm.Cond) (a : Addr) (y : Addr) (h0 : Heap) (n0 : Nat) (Z0 : n0 ≤ h0.size) (F_e0_a : Fld Z h0 a "java/util/ImmutableCollections$List12" "e0" "Ljava/lang/Object;" (.ref y)) :
    Met l Z M37 jdk_44_method_5_code 2 (some (.object "java/lang/Object")) ws (Rm 0 0 0 0) #[(.ref a), (.int (0 : Int32))] h0 (Q_rm_get Z a y h0 n0) := by
  refine met_of (plainFor_of_name pn_java_util_ImmutableCollections_List12) (own := "java/util/ImmutableCollections$List12") rfl (fun m => ef_rm_get m a (0 : Int32)) ?_
  intro p e s m below meth c s₁ hx hby hml hown hnm hZ X0 e0 hret hlk
  have N0 := Fr.nil n0
  show Goes p e below s _ _ _ (s₁.setTop (mkF m 0 #[.val (.ref a), .val (.int (0 : Int32))] []))
  refine Goes.pre (U' := s₁.setTop (mkF m 1 #[.val (.ref a), .val (.int (0 : Int32))] [(.int (0 : Int32))])) (fun t k => XS.iloadN X0.here hx rfl (hb hby d37_0) rfl k) ?_
  have hc1 : (0 : Int32) = (0 : Int32) := rfl
  refine Goes.pre (U' := s₁.setTop (mkF m 5 #[.val (.ref a), .val (.int (0 : Int32))] [(.ref a)])) (fun t k => XS.ifNo X0.here hx rfl (hb hby d37_1) rfl ((if0 _ _).trans (teq hc1).2) (XS.aloadN X0.here hx rfl (hb hby d37_4) rfl rfl k)) ?_
  obtain ⟨T1, X1, e1, st1⟩ := getF X0 hx hZ hown (host := "") (Or.inl (wq hw 198 rfl)) Via.refl e0 F_e0_a (g := (mkF m 5 #[.val (.ref a), .val (.int (0 : Int32))] [(.ref a)])) rfl rfl (hb hby d37_5)
  refine Goes.pre (U' := T1.setTop (mkF m 8 #[.val (.ref a), .val (.int (0 : Int32))] [(.ref y)])) (fun t k => st1 t k) ?_
  refine Goes.ret X1 (v := (some (.ref y))) (fun h => by rw [hret] at h; cases h) hlk (by decide) (by decide) e1 (fun fs hr => retOut X1 hx hret rfl (Or.inr (Or.inr (Or.inr (Or.inr ⟨rfl, rfl, rfl⟩)))) (hb hby d37_8) hr) ?_
  exact ⟨rfl, N0, rfl⟩
theorem ef_rm_next (m : MethodId) (x0 : Addr) : entryFrame m #[(.ref x0)] 3 = mkF m 0 #[.val (.ref x0), .unset, .unset] [] := by first | (simp [entryFrame, mkF, argsToLocals, Value.category]; done) | rfl
abbrev M36 : MethodName := ⟨"java/util/ImmutableCollections$ListItr", "next", "()Ljava/lang/Object;"⟩
theorem d36_0 : decode jdk_53_method_4_code 0 = .ok (.aload_n 0, 1) := by decide +kernel
theorem d36_1 : decode jdk_53_method_4_code 1 = .ok (.getfield 17, 3) := by decide +kernel
theorem d36_4 : decode jdk_53_method_4_code 4 = .ok (.istore_n 1, 1) := by decide +kernel
theorem d36_5 : decode jdk_53_method_4_code 5 = .ok (.aload_n 0, 1) := by decide +kernel
theorem d36_6 : decode jdk_53_method_4_code 6 = .ok (.getfield 7, 3) := by decide +kernel
theorem d36_9 : decode jdk_53_method_4_code 9 = .ok (.iload_n 1, 1) := by decide +kernel
theorem d36_10 : decode jdk_53_method_4_code 10 = .ok (.invokeinterface 24 2, 5) := by decide +kernel
theorem pd__28I_29Ljava_2flang_2fObject_3b : parseMethodDescriptor "(I)Ljava/lang/Object;" = some ⟨[.int], some (.object "java/lang/Object")⟩ := by decide +kernel
theorem d36_15 : decode jdk_53_method_4_code 15 = .ok (.astore_n 2, 1) := by decide +kernel
theorem d36_16 : decode jdk_53_method_4_code 16 = .ok (.aload_n 0, 1) := by decide +kernel
theorem d36_17 : decode jdk_53_method_4_code 17 = .ok (.iload_n 1, 1) := by decide +kernel
theorem d36_18 : decode jdk_53_method_4_code 18 = .ok (.iconst 1, 1) := by decide +kernel
theorem d36_19 : decode jdk_53_method_4_code 19 = .ok (.iadd, 1) := by decide +kernel
theorem d36_20 : decode jdk_53_method_4_code 20 = .ok (.putfield 17, 3) := by decide +kernel
theorem d36_23 : decode jdk_53_method_4_code 23 = .ok (.aload_n 2, 1) := by decide +kernel
theorem d36_24 : decode jdk_53_method_4_code 24 = .ok (.areturn, 1) := by decide +kernel
def Q_rm_next (Z : State) (a : Addr) (b : Addr) (y : Addr) (h0 : Heap) (n0 : Nat) (v : Option Value) (h : Heap) (L : List Loc) : Prop := v = some (.ref y) ∧ Fr n0 L ∧ Keep h0 h [a] ∧ Fld Z h a "java/util/ImmutableCollections$ListItr" "list" "Ljava/util/List;" (.ref b) ∧ Fld Z h a "java/util/ImmutableCollections$ListItr" "size" "I" (.int (1 : Int32)) ∧ Fld Z h a "java/util/ImmutableCollections$ListItr" "cursor" "I" (.int (1 : Int32))
set_option maxRecDepth 65536 in
set_option maxHeartbeats 40000000 in
theorem rm_next (l : Launch) (Z : State) (a0 : Array Value) (hw : ∀ d ∈ tables_1, d.before a0 Z = true) (ws : List Jvm.Cond) (a : Addr) (b : Addr) (y : Addr) (h0 : Heap) (n0 : Nat) (Z0 : n0 ≤ h0.size) (E_a : Exa Z h0 a "java/util/ImmutableCollections$ListItr") (E_b : Exa Z h0 b "java/util/ImmutableCollections$List12") (F_e0_b : Fld Z h0 b "java/util/ImmutableCollections$List12" "e0" "Ljava/lang/Object;" (.ref y)) (F_list_a : Fld Z h0 a "java/util/ImmutableCollections$ListItr" "list" "Ljava/util/List;" (.ref b)) (F_size_a : Fld Z h0 a "java/util/ImmutableCollections$ListItr" "size" "I" (.int (1 : Int32))) (F_cursor_a : Fld Z h0 a "java/util/ImmutableCollections$ListItr" "cursor" "I" (.int (0 : Int32))) (ne_b_a : b ≠ a) (g_a : n0 ≤ a) :
    MetFree l (⟨"java/util/ImmutableCollections$ListItr", "next", "()Ljava/lang/Object;"⟩ : MethodName) (head1 (Jvm.Cond.codeWith (⟨"java/util/ImmutableCollections$ListItr", "next", "()Ljava/lang/Object;"⟩ : MethodName) jdk_53_method_4_code 3 (some (.object "java/lang/Object")) [(0, 24, 25, 30)] :: ws) (Rm 1 0 0 13)) (fun argv U => argv = #[(.ref a)] ∧ Z.Warmed39 U.vm ∧ U.heap = h0) (fun _ _ _ _ _ => True) (fun _ U o U' => ∃ v L, o = .returned v ∧ (Q_rm_next Z a b y h0 n0) v U'.heap L ∧ FrameEnd U o U' L (Rm 1 0 0 13).cells (Rm 1 0 0 13).slots) := by
  refine MetFree.of_bodySF (plainFor_of_name pn_java_util_ImmutableCollections_ListItr) hisWith ?_
  intro p e s m args below meth c s₁ Bd hml0 hP hK
  obtain ⟨rfl, hZ, hh⟩ := hP
  have hx := Bd.exec
  have hby := Bd.bytes
  have hml : c.maxLocals = 3 := hml0
  have hown : s.vm.findClass "java/util/ImmutableCollections$ListItr" = some m.cls := findClass_of_methodNamed Bd.named
  have hnm := (name_of_methodNamed Bd.named Bd.method).1
  have X0 : Stand p l e (Rm 1 0 0 13) s m #[(.ref a)] below meth c s₁ [] 0 0 := Stand.of_body Bd
  have e0 : s₁.heap = h0 := by rw [← hh, Bd.state]; rfl
  have hret := Bd.returns
  have hlk := Bd.notSynchronized
  have N0 := Fr.nil n0
  have K0 := Keep.refl h0 [a]
  refine Goes.enter (Q := (Q_rm_next Z a b y h0 n0)) (C := (Rm 1 0 0 13).cells) (S := (Rm 1 0 0 13).slots) ((fun m => ef_rm_next m a) m) ?_
  show Goes p e below s _ _ _ (s₁.setTop (mkF m 0 #[.val (.ref a), .unset, .unset] []))
  refine Goes.pre (U' := s₁.setTop (mkF m 1 #[.val (.ref a), .unset, .unset] [(.ref a)])) (fun t k => XS.aloadN X0.here hx rfl (hb hby d36_0) rfl rfl k) ?_
  obtain ⟨T1, X1, e1, st1⟩ := getF X0 hx hZ hown (host := "") (Or.inl (wq hw 240 rfl)) Via.refl e0 F_cursor_a (g := (mkF m 1 #[.val (.ref a), .unset, .unset] [(.ref a)])) rfl rfl (hb hby d36_1)
  refine Goes.pre (U' := T1.setTop (mkF m 6 #[.val (.ref a), .val (.int (0 : Int32)), .unset] [(.ref a)])) (fun t k => st1 t (XS.istoreN X1.here hx rfl (hb hby d36_4) rfl (l' := #[.val (.ref a), .val (.int (0 : Int32)), .unset]) rfl (XS.aloadN X1.here hx rfl (hb hby d36_5) rfl rfl k))) ?_
  obtain ⟨T2, X2, e2, st2⟩ := getF X1 hx hZ hown (host := "") (Or.inl (wq hw 236 rfl)) Via.refl e1 F_list_a (g := (mkF m 6 #[.val (.ref a), .val (.int (0 : Int32)), .unset] [(.ref a)])) rfl rfl (hb hby d36_6)
  refine Goes.pre (U' := T2.setTop (mkF m 10 #[.val (.ref a), .val (.int (0 : Int32)), .unset] [(.int (0 : Int32)), (.ref b)])) (fun t k => st2 t (XS.iloadN X2.here hx rfl (hb hby d36_9) rfl k)) ?_
  obtain ⟨cq3, kq3, q3a, q3b, q3c⟩ := isOf hZ e2 E_b
  obtain ⟨_, _, ⟨T3, L3, k3, n3⟩, -, X3, ⟨Lc3, hQ3, l3, y3, z3⟩, st3⟩ := X2.interfaceBack hx (xi := (⟨"java/util/List", "get", "(I)Ljava/lang/Object;"⟩ : MethodName)) (y := (⟨"java/util/ImmutableCollections$List12", "get", "(I)Ljava/lang/Object;"⟩ : MethodName)) hown (mvT hZ (wq hw 261 rfl)) (mvT hZ (wq hw 262 rfl)) (mvT hZ (wq hw 263 rfl)) (mvT hZ (wq hw 264 rfl)) (mvT hZ (wq hw 265 rfl)) (mvT hZ (wq hw 266 rfl)) (mvT hZ (wq hw 267 rfl)) (mvT hZ (wq hw 220 rfl)) (by decide) (backOf (W := 0) (rm_get l Z a0 hw [] b y h0 n0 Z0 F_e0_b) hZ (wq hw 268 rfl) (wq hw 175 rfl) (by decide) (by decide)) q3a q3b q3c (g := (mkF m 10 #[.val (.ref a), .val (.int (0 : Int32)), .unset] [(.int (0 : Int32)), (.ref b)])) rfl (by rw [hml]; rfl) (Steps.refl _) (argsL := [(.int (0 : Int32))]) (rest := []) (lenOf pd__28I_29Ljava_2flang_2fObject_3b rfl) rfl (by show 2 * 0 + _ ≤ _; exact Nat.le_of_eq rfl) (hb hby d36_10) (fun _ _ => ⟨rfl, e2, (by decide : 0 + 0 ≤ _), (by decide : 0 + 0 ≤ _)⟩)
  dsimp only [Pt.U, Pt.locs, Pt.cells, Pt.slots] at X3 l3 y3 z3 st3 hQ3
  subst l3 y3 z3
  obtain ⟨rfl, N3q, HQ3⟩ := hQ3
  have N3 := Fr.app N0 N3q
  refine Goes.pre (U' := T3.setTop (mkF m 20 #[.val (.ref a), .val (.int (0 : Int32)), .val (.ref y)] [(.int ((0 : Int32) + (1 : Int32))), (.ref a)])) (fun t k => st3.trans (XS.astoreN X3.here hx rfl (hb hby d36_15) rfl rfl (l' := #[.val (.ref a), .val (.int (0 : Int32)), .val (.ref y)]) rfl (XS.aloadN X3.here hx rfl (hb hby d36_16) rfl rfl (XS.iloadN X3.here hx rfl (hb hby d36_17) rfl (XS.iconst X3.here hx rfl (hb hby d36_18) (XS.iadd X3.here hx rfl (hb hby d36_19) rfl k)))))) ?_
  rw [(by decide : ((0 : Int32) + (1 : Int32)) = (1 : Int32))]
  obtain ⟨T4, h4, X4, e4, W4, st4⟩ := putF X3 hx hZ hown (host := "") (Or.inl (wq hw 240 rfl)) Via.refl HQ3 F_cursor_a E_a (Or.inl (wq hw 241 rfl)) (wq hw 223 rfl) (ty := .int) (by decide) rfl rfl (g := (mkF m 20 #[.val (.ref a), .val (.int (0 : Int32)), .val (.ref y)] [(.int (1 : Int32)), (.ref a)])) rfl rfl (hb hby d36_20)
  have E_a := E_a.wr W4
  have E_b := E_b.wr W4
  have F_e0_b := F_e0_b.other W4 (Or.inl ne_b_a)
  have F_list_a := F_list_a.other W4 (Or.inr (slot_ne (Or.inr (wq hw 237 rfl)) (Or.inl (wq hw 241 rfl)) (by decide) (t := (.object "java/util/List")) (t' := .int) (by decide) (by decide)))
  have F_size_a := F_size_a.other W4 (Or.inr (slot_ne (Or.inr (wq hw 239 rfl)) (Or.inl (wq hw 241 rfl)) (by decide) (t := .int) (t' := .int) (by decide) (by decide)))
  have Z4 : n0 ≤ h4.size := Nat.le_trans Z0 (Keep.of_wr W4).1
  have F_cursor_a := F_cursor_a.same W4
  have K4 := K0.wr W4 (Or.inl (List.mem_of_getElem? (i := 0) rfl))
  have N4 := Fr.snoc X4 N3 g_a
  refine Goes.pre (U' := T4.setTop (mkF m 24 #[.val (.ref a), .val (.int (0 : Int32)), .val (.ref y)] [(.ref y)])) (fun t k => st4 t (XS.aloadN X4.here hx rfl (hb hby d36_23) rfl rfl k)) ?_
  refine Goes.ret X4 (v := (some (.ref y))) (fun h => by rw [hret] at h; cases h) hlk (by decide) (by decide) e4 (fun fs hr => retOut X4 hx hret rfl (Or.inr (Or.inr (Or.inr (Or.inr ⟨rfl, rfl, rfl⟩)))) (hb hby d36_24) hr) ?_
  exact ⟨rfl, N4, K4, F_list_a, F_size_a, F_cursor_a⟩
theorem ef_rm_db0 (m : MethodId) (x0 : Addr) (x1 : Int32) : entryFrame m #[(.ref x0), (.int x1)] 5 = mkF m 0 #[.val (.ref x0), .val (.int x1), .unset, .unset, .unset] [] := by first | (simp [entryFrame, mkF, argsToLocals, Value.category]; done) | rfl
abbrev M31 : MethodName := ⟨"com/example/restate/restate/plan/Item", "deletedBefore", "(I)I"⟩
theorem d31_0 : decode prog_20_method_5_code 0 = .ok (.iconst 0, 1) := by decide +kernel
theorem d31_1 : decode prog_20_method_5_code 1 = .ok (.istore_n 2, 1) := by decide +kernel
theorem d31_2 : decode prog_20_method_5_code 2 = .ok (.aload_n 0, 1) := by decide +kernel
theorem d31_3 : decode prog_20_method_5_code 3 = .ok (.getfield 29, 3) := by decide +kernel
theorem d31_6 : decode prog_20_method_5_code 6 = .ok (.invokeinterface 52 1, 5) := by decide +kernel
theorem pd__28_29Ljava_2futil_2fIterator_3b : parseMethodDescriptor "()Ljava/util/Iterator;" = some ⟨[], some (.object "java/util/Iterator")⟩ := by decide +kernel
theorem d31_11 : decode prog_20_method_5_code 11 = .ok (.astore_n 3, 1) := by decide +kernel
theorem d31_12 : decode prog_20_method_5_code 12 = .ok (.aload_n 3, 1) := by decide +kernel
theorem d31_13 : decode prog_20_method_5_code 13 = .ok (.invokeinterface 56 1, 5) := by decide +kernel
theorem d31_18 : decode prog_20_method_5_code 18 = .ok (.ifCond .eq 49, 3) := by decide +kernel
theorem d31_67 : decode prog_20_method_5_code 67 = .ok (.iload_n 2, 1) := by decide +kernel
theorem d31_68 : decode prog_20_method_5_code 68 = .ok (.ireturn, 1) := by decide +kernel
def Q_rm_db0 (Z : State) (a : Addr) (q : Int32) (el : Addr) (ea : Addr) (ke : ClassId) (h0 : Heap) (n0 : Nat) (v : Option Value) (h : Heap) (L : List Loc) : Prop := v = some (.int (0 : Int32)) ∧ Fr n0 L ∧ Keep h0 h []
set_option maxRecDepth 65536 in
set_option maxHeartbeats 40000000 in
theorem rm_db0 (l : Launch) (Z : State) (a0 : Array Value) (hw : ∀ d ∈ tables_1, d.before a0 Z = true) (ws : List Jvm.Cond) (a : Addr) (q : Int32) (el : Addr) (ea : Addr) (ke : ClassId) (h0 : Heap) (n0 : Nat) (Z0 : n0 ≤ h0.size) (F_children_a : Fld Z h0 a "com/example/restate/restate/plan/Item" "children" "Ljava/util/List;" (.ref el)) (E_el : Exa Z Z.heap el "java/util/ImmutableCollections$ListN") (F_elements_el : Fld Z Z.heap el "java/util/ImmutableCollections$ListN" "elements" "[Ljava/lang/Object;" (.ref ea)) (V_ea : Arv Z Z.heap ea ke (.object "java/lang/Object") (0 : Int32) [] .null) (O : Old Z n0 h0) :
    Met l Z M31 prog_20_method_5_code 5 (some .int) ws (Rm 3 1 4 39) #[(.ref a), (.int q)] h0 (Q_rm_db0 Z a q el ea ke h0 n0) := by
  refine met_of (plainFor_of_name pn_com_example_restate_restate_plan_Item) (own := "com/example/restate/restate/plan/Item") rfl (fun m => ef_rm_db0 m a q) ?_
  intro p e s m below meth c s₁ hx hby hml hown hnm hZ X0 e0 hret hlk
  have N0 := Fr.nil n0
  have K0 := Keep.refl h0 []
  show Goes p e below s _ _ _ (s₁.setTop (mkF m 0 #[.val (.ref a), .val (.int q), .unset, .unset, .unset] []))
  refine Goes.pre (U' := s₁.setTop (mkF m 3 #[.val (.ref a), .val (.int q), .val (.int (0 : Int32)), .unset, .unset] [(.ref a)])) (fun t k => XS.iconst X0.here hx rfl (hb hby d31_0) (XS.istoreN X0.here hx rfl (hb hby d31_1) rfl (l' := #[.val (.ref a), .val (.int q), .val (.int (0 : Int32)), .unset, .unset]) rfl (XS.aloadN X0.here hx rfl (hb hby d31_2) rfl rfl k))) ?_
  obtain ⟨T1, X1, e1, st1⟩ := getF X0 hx hZ hown (host := "") (Or.inl (wq hw 109 rfl)) Via.refl e0 F_children_a (g := (mkF m 3 #[.val (.ref a), .val (.int q), .val (.int (0 : Int32)), .unset, .unset] [(.ref a)])) rfl rfl (hb hby d31_3)
  refine Goes.pre (U' := T1.setTop (mkF m 6 #[.val (.ref a), .val (.int q), .val (.int (0 : Int32)), .unset, .unset] [(.ref el)])) (fun t k => st1 t k) ?_
  have lt_a := F_children_a.lt
  have lt_ea := (V_ea.ext O.2).lt
  have lt_el := (E_el.ext O.2).lt
  obtain ⟨cq2, kq2, q2a, q2b, q2c⟩ := isOf hZ e1 (E_el.ext O.2)
  obtain ⟨_, _, ⟨T2, L2, k2, n2⟩, -, X2, ⟨Lc2, hQ2, l2, y2, z2⟩, st2⟩ := X1.interfaceBack hx (xi := (⟨"java/util/List", "iterator", "()Ljava/util/Iterator;"⟩ : MethodName)) (y := (⟨"java/util/ImmutableCollections$AbstractImmutableList", "iterator", "()Ljava/util/Iterator;"⟩ : MethodName)) hown (mvT hZ (wq hw 213 rfl)) (mvT hZ (wq hw 214 rfl)) (mvT hZ (wq hw 215 rfl)) (mvT hZ (wq hw 273 rfl)) (mvT hZ (wq hw 217 rfl)) (mvT hZ (wq hw 218 rfl)) (mvT hZ (wq hw 274 rfl)) (mvT hZ (wq hw 275 rfl)) (by decide) (backOf (W := 0) (rm_iter0 l Z a0 hw [] el ea ke h0 n0 Z0 E_el F_elements_el V_ea O) hZ (wq hw 221 rfl) (wq hw 184 rfl) (by decide) (by decide)) q2a q2b q2c (g := (mkF m 6 #[.val (.ref a), .val (.int q), .val (.int (0 : Int32)), .unset, .unset] [(.ref el)])) rfl (by rw [hml]; rfl) (Steps.refl _) (argsL := []) (rest := []) (lenOf pd__28_29Ljava_2futil_2fIterator_3b rfl) rfl (by show 2 * 0 + _ ≤ _; exact Nat.le_of_eq rfl) (hb hby d31_6) (fun _ _ => ⟨rfl, e1, (by decide : 0 + 1 ≤ _), (by decide : 0 + 4 ≤ _)⟩)
  dsimp only [Pt.U, Pt.locs, Pt.cells, Pt.slots] at X2 l2 y2 z2 st2 hQ2
  subst l2 y2 z2
  obtain ⟨r2, rfl, N2q, KQ2, fo0_2, fo1_2, fo2_2, fo3_2, g_r2, sl_r2⟩ := hQ2
  have N2 := Fr.app N0 N2q
  have F_children_a := F_children_a.keep KQ2 nin0
  have Z3 : n0 ≤ T2.heap.size := Nat.le_trans Z0 KQ2.1
  have O := O.keep KQ2 all0
  have K3 := K0.trans KQ2 all0
  have ne_a_r2 : a ≠ r2 := Nat.ne_of_lt (Nat.lt_of_lt_of_le lt_a sl_r2)
  have ne_r2_a := ne_a_r2.symm
  have ne_ea_r2 : ea ≠ r2 := Nat.ne_of_lt (Nat.lt_of_lt_of_le lt_ea sl_r2)
  have ne_r2_ea := ne_ea_r2.symm
  have ne_el_r2 : el ≠ r2 := Nat.ne_of_lt (Nat.lt_of_lt_of_le lt_el sl_r2)
  have ne_r2_el := ne_el_r2.symm
  have sz_r2 : h0.size ≤ r2 := Nat.le_trans K0.1 sl_r2
  have E_r2 := fo0_2
  have F_list_r2 := fo1_2
  have F_size_r2 := fo2_2
  have F_cursor_r2 := fo3_2
  refine Goes.pre (U' := T2.setTop (mkF m 13 #[.val (.ref a), .val (.int q), .val (.int (0 : Int32)), .val (.ref r2), .unset] [(.ref r2)])) (fun t k => st2.trans (XS.astoreN X2.here hx rfl (hb hby d31_11) rfl rfl (l' := #[.val (.ref a), .val (.int q), .val (.int (0 : Int32)), .val (.ref r2), .unset]) rfl (XS.aloadN X2.here hx rfl (hb hby d31_12) rfl rfl k))) ?_
  obtain ⟨cq4, kq4, q4a, q4b, q4c⟩ := isOf hZ rfl E_r2
  obtain ⟨_, _, ⟨T4, L4, k4, n4⟩, -, X4, ⟨Lc4, hQ4, l4, y4, z4⟩, st4⟩ := X2.interfaceBack hx (xi := (⟨"java/util/Iterator", "hasNext", "()Z"⟩ : MethodName)) (y := (⟨"java/util/ImmutableCollections$ListItr", "hasNext", "()Z"⟩ : MethodName)) hown (mvT hZ (wq hw 244 rfl)) (mvT hZ (wq hw 245 rfl)) (mvT hZ (wq hw 246 rfl)) (mvT hZ (wq hw 247 rfl)) (mvT hZ (wq hw 248 rfl)) (mvT hZ (wq hw 249 rfl)) (mvT hZ (wq hw 250 rfl)) (mvT hZ (wq hw 251 rfl)) (by decide) (backOf (W := 0) (rm_has00 l Z a0 hw [] r2 T2.heap n0 Z3 F_cursor_r2 F_size_r2) hZ (wq hw 252 rfl) (wq hw 224 rfl) (by decide) (by decide)) q4a q4b q4c (g := (mkF m 13 #[.val (.ref a), .val (.int q), .val (.int (0 : Int32)), .val (.ref r2), .unset] [(.ref r2)])) rfl (by rw [hml]; rfl) (Steps.refl _) (argsL := []) (rest := []) (lenOf pd__28_29Z rfl) rfl (by show 2 * 0 + _ ≤ _; exact Nat.le_of_eq rfl) (hb hby d31_13) (fun _ _ => ⟨rfl, rfl, (by decide : 1 + 0 ≤ _), (by decide : 4 + 0 ≤ _)⟩)
  dsimp only [Pt.U, Pt.locs, Pt.cells, Pt.slots] at X4 l4 y4 z4 st4 hQ4
  subst l4 y4 z4
  obtain ⟨rfl, N4q, HQ4⟩ := hQ4
  have N4 := Fr.app N2 N4q
  refine Goes.pre (U' := T4.setTop (mkF m 18 #[.val (.ref a), .val (.int q), .val (.int (0 : Int32)), .val (.ref r2), .unset] [(.int (0 : Int32))])) (fun t k => st4.trans k) ?_
  have hc18 : (0 : Int32) = (0 : Int32) := rfl
  refine Goes.pre (U' := T4.setTop (mkF m 68 #[.val (.ref a), .val (.int q), .val (.int (0 : Int32)), .val (.ref r2), .unset] [(.int (0 : Int32))])) (fun t k => XS.ifYes X4.here hx rfl (pc0 := 18) (pc' := 67) rfl (hb hby d31_18) rfl ((if0 _ _).trans (teq hc18).1) (by decide) (by decide) (XS.iloadN X4.here hx rfl (hb hby d31_67) rfl k)) ?_
  refine Goes.ret X4 (v := (some (.int (0 : Int32)))) (fun h => by rw [hret] at h; cases h) hlk (by decide) (by decide) HQ4 (fun fs hr => retI X4 hx hret (hb hby d31_68) hr) ?_
  exact ⟨rfl, N4, K3⟩
theorem ef_rm_dbP00 (m : MethodId) (x0 : Addr) (x1 : Int32) : entryFrame m #[(.ref x0), (.int x1)] 5 = mkF m 0 #[.val (.ref x0), .val (.int x1), .unset, .unset, .unset] [] := by first | (simp [entryFrame, mkF, argsToLocals, Value.category]; done) | rfl
theorem d31_21 : decode prog_20_method_5_code 21 = .ok (.aload_n 3, 1) := by decide +kernel
theorem d31_22 : decode prog_20_method_5_code 22 = .ok (.invokeinterface 62 1, 5) := by decide +kernel
theorem pd__28_29Ljava_2flang_2fObject_3b : parseMethodDescriptor "()Ljava/lang/Object;" = some ⟨[], some (.object "java/lang/Object")⟩ := by decide +kernel
theorem d31_27 : decode prog_20_method_5_code 27 = .ok (.checkcast 14, 3) := by decide +kernel
theorem d31_30 : decode prog_20_method_5_code 30 = .ok (.astore 4, 2) := by decide +kernel
theorem d31_32 : decode prog_20_method_5_code 32 = .ok (.iload_n 2, 1) := by decide +kernel
theorem d31_33 : decode prog_20_method_5_code 33 = .ok (.aload 4, 2) := by decide +kernel
theorem d31_35 : decode prog_20_method_5_code 35 = .ok (.invokevirtual 127, 3) := by decide +kernel
theorem d31_38 : decode prog_20_method_5_code 38 = .ok (.ifCond .eq 16, 3) := by decide +kernel
theorem d31_54 : decode prog_20_method_5_code 54 = .ok (.iconst 0, 1) := by decide +kernel
theorem d31_55 : decode prog_20_method_5_code 55 = .ok (.aload 4, 2) := by decide +kernel
theorem d31_57 : decode prog_20_method_5_code 57 = .ok (.iload_n 1, 1) := by decide +kernel
theorem d31_58 : decode prog_20_method_5_code 58 = .ok (.invokevirtual 130, 3) := by decide +kernel
theorem pd__28I_29I : parseMethodDescriptor "(I)I" = some ⟨[.int], some .int⟩ := by decide +kernel
theorem d31_61 : decode prog_20_method_5_code 61 = .ok (.iadd, 1) := by decide +kernel
theorem d31_62 : decode prog_20_method_5_code 62 = .ok (.iadd, 1) := by decide +kernel
theorem d31_63 : decode prog_20_method_5_code 63 = .ok (.istore_n 2, 1) := by decide +kernel
theorem d31_64 : decode prog_20_method_5_code 64 = .ok (.goto (-52), 3) := by decide +kernel
def Q_rm_dbP00 (Z : State) (a : Addr) (q : Int32) (b : Addr) (y : Addr) (em : Addr) (el : Addr) (ea : Addr) (ke : ClassId) (h0 : Heap) (n0 : Nat) (v : Option Value) (h : Heap) (L : List Loc) : Prop := v = some (.int (0 : Int32)) ∧ Fr n0 L ∧ Keep h0 h []
set_option maxRecDepth 65536 in
set_option maxHeartbeats 40000000 in
theorem rm_dbP00 (l : Launch) (Z : State) (a0 : Array Value) (hw : ∀ d ∈ tables_1, d.before a0 Z = true) (ws : List Jvm.Cond) (a : Addr) (q : Int32) (b : Addr) (y : Addr) (em : Addr) (el : Addr) (ea : Addr) (ke : ClassId) (h0 : Heap) (n0 : Nat) (Z0 : n0 ≤ h0.size) (F_children_a : Fld Z h0 a "com/example/restate/restate/plan/Item" "children" "Ljava/util/List;" (.ref b)) (E_b : Exa Z h0 b "java/util/ImmutableCollections$List12") (F_e0_b : Fld Z h0 b "java/util/ImmutableCollections$List12" "e0" "Ljava/lang/Object;" (.ref y)) (F_e1_b : Fld Z h0 b "java/util/ImmutableCollections$List12" "e1" "Ljava/lang/Object;" (.ref em)) (S_EMPTY : Sta Z Z.heap "java/util/ImmutableCollections" "EMPTY" "Ljava/lang/Object;" (.ref em)) (E_el : Exa Z Z.heap el "java/util/ImmutableCollections$ListN") (F_elements_el : Fld Z Z.heap el "java/util/ImmutableCollections$ListN" "elements" "[Ljava/lang/Object;" (.ref ea)) (V_ea : Arv Z Z.heap ea ke (.object "java/lang/Object") (0 : Int32) [] .null) (F_label_y : Fld Z h0 y "com/example/restate/restate/plan/Item" "label" "Lcom/example/restate/restate/plan/Label;" .null) (F_printed_y : Fld Z h0 y "com/example/restate/restate/plan/Item" "printed" "Lcom/example/restate/restate/plan/Label;" .null) (F_start_y : Fld Z h0 y "com/example/restate/restate/plan/Item" "start" "I" (.int q)) (F_children_y : Fld Z h0 y "com/example/restate/restate/plan/Item" "children" "Ljava/util/List;" (.ref el)) (E_y : Exa Z h0 y "com/example/restate/restate/plan/Item") (O : Old Z n0 h0) :
    Met l Z M31 prog_20_method_5_code 5 (some .int) ws (Rm 4 2 8 57) #[(.ref a), (.int q)] h0 (Q_rm_dbP00 Z a q b y em el ea ke h0 n0) := by
  refine met_of (plainFor_of_name pn_com_example_restate_restate_plan_Item) (own := "com/example/restate/restate/plan/Item") rfl (fun m => ef_rm_dbP00 m a q) ?_
  intro p e s m below meth c s₁ hx hby hml hown hnm hZ X0 e0 hret hlk
  have N0 := Fr.nil n0
  have K0 := Keep.refl h0 []
  show Goes p e below s _ _ _ (s₁.setTop (mkF m 0 #[.val (.ref a), .val (.int q), .unset, .unset, .unset] []))
  refine Goes.pre (U' := s₁.setTop (mkF m 3 #[.val (.ref a), .val (.int q), .val (.int (0 : Int32)), .unset, .unset] [(.ref a)])) (fun t k => XS.iconst X0.here hx rfl (hb hby d31_0) (XS.istoreN X0.here hx rfl (hb hby d31_1) rfl (l' := #[.val (.ref a), .val (.int q), .val (.int (0 : Int32)), .unset, .unset]) rfl (XS.aloadN X0.here hx rfl (hb hby d31_2) rfl rfl k))) ?_
  obtain ⟨T1, X1, e1, st1⟩ := getF X0 hx hZ hown (host := "") (Or.inl (wq hw 109 rfl)) Via.refl e0 F_children_a (g := (mkF m 3 #[.val (.ref a), .val (.int q), .val (.int (0 : Int32)), .unset, .unset] [(.ref a)])) rfl rfl (hb hby d31_3)
  refine Goes.pre (U' := T1.setTop (mkF m 6 #[.val (.ref a), .val (.int q), .val (.int (0 : Int32)), .unset, .unset] [(.ref b)])) (fun t k => st1 t k) ?_
  have lt_a := F_children_a.lt
  have lt_b := E_b.lt
  have lt_ea := (V_ea.ext O.2).lt
  have lt_el := (E_el.ext O.2).lt
  have lt_y := F_label_y.lt
  obtain ⟨cq2, kq2, q2a, q2b, q2c⟩ := isOf hZ e1 E_b
  obtain ⟨_, _, ⟨T2, L2, k2, n2⟩, -, X2, ⟨Lc2, hQ2, l2, y2, z2⟩, st2⟩ := X1.interfaceBack hx (xi := (⟨"java/util/List", "iterator", "()Ljava/util/Iterator;"⟩ : MethodName)) (y := (⟨"java/util/ImmutableCollections$AbstractImmutableList", "iterator", "()Ljava/util/Iterator;"⟩ : MethodName)) hown (mvT hZ (wq hw 213 rfl)) (mvT hZ (wq hw 214 rfl)) (mvT hZ (wq hw 215 rfl)) (mvT hZ (wq hw 216 rfl)) (mvT hZ (wq hw 217 rfl)) (mvT hZ (wq hw 218 rfl)) (mvT hZ (wq hw 219 rfl)) (mvT hZ (wq hw 220 rfl)) (by decide) (backOf (W := 0) (rm_iter1 l Z a0 hw [] b em h0 n0 Z0 E_b F_e1_b S_EMPTY O) hZ (wq hw 221 rfl) (wq hw 184 rfl) (by decide) (by decide)) q2a q2b q2c (g := (mkF m 6 #[.val (.ref a), .val (.int q), .val (.int (0 : Int32)), .unset, .unset] [(.ref b)])) rfl (by rw [hml]; rfl) (Steps.refl _) (argsL := []) (rest := []) (lenOf pd__28_29Ljava_2futil_2fIterator_3b rfl) rfl (by show 2 * 0 + _ ≤ _; exact Nat.le_of_eq rfl) (hb hby d31_6) (fun _ _ => ⟨rfl, e1, (by decide : 0 + 1 ≤ _), (by decide : 0 + 4 ≤ _)⟩)
  dsimp only [Pt.U, Pt.locs, Pt.cells, Pt.slots] at X2 l2 y2 z2 st2 hQ2
  subst l2 y2 z2
  obtain ⟨r2, rfl, N2q, KQ2, fo0_2, fo1_2, fo2_2, fo3_2, g_r2, sl_r2⟩ := hQ2
  have N2 := Fr.app N0 N2q
  have F_children_a := F_children_a.keep KQ2 nin0
  have E_b := E_b.keep KQ2
  have F_e0_b := F_e0_b.keep KQ2 nin0
  have F_e1_b := F_e1_b.keep KQ2 nin0
  have F_label_y := F_label_y.keep KQ2 nin0
  have F_printed_y := F_printed_y.keep KQ2 nin0
  have F_start_y := F_start_y.keep KQ2 nin0
  have F_children_y := F_children_y.keep KQ2 nin0
  have E_y := E_y.keep KQ2
  have Z3 : n0 ≤ T2.heap.size := Nat.le_trans Z0 KQ2.1
  have O := O.keep KQ2 all0
  have K3 := K0.trans KQ2 all0
  have ne_a_r2 : a ≠ r2 := Nat.ne_of_lt (Nat.lt_of_lt_of_le lt_a sl_r2)
  have ne_r2_a := ne_a_r2.symm
  have ne_b_r2 : b ≠ r2 := Nat.ne_of_lt (Nat.lt_of_lt_of_le lt_b sl_r2)
  have ne_r2_b := ne_b_r2.symm
  have ne_ea_r2 : ea ≠ r2 := Nat.ne_of_lt (Nat.lt_of_lt_of_le lt_ea sl_r2)
  have ne_r2_ea := ne_ea_r2.symm
  have ne_el_r2 : el ≠ r2 := Nat.ne_of_lt (Nat.lt_of_lt_of_le lt_el sl_r2)
  have ne_r2_el := ne_el_r2.symm
  have ne_y_r2 : y ≠ r2 := Nat.ne_of_lt (Nat.lt_of_lt_of_le lt_y sl_r2)
  have ne_r2_y := ne_y_r2.symm
  have sz_r2 : h0.size ≤ r2 := Nat.le_trans K0.1 sl_r2
  have E_r2 := fo0_2
  have F_list_r2 := fo1_2
  have F_size_r2 := fo2_2
  have F_cursor_r2 := fo3_2
  refine Goes.pre (U' := T2.setTop (mkF m 13 #[.val (.ref a), .val (.int q), .val (.int (0 : Int32)), .val (.ref r2), .unset] [(.ref r2)])) (fun t k => st2.trans (XS.astoreN X2.here hx rfl (hb hby d31_11) rfl rfl (l' := #[.val (.ref a), .val (.int q), .val (.int (0 : Int32)), .val (.ref r2), .unset]) rfl (XS.aloadN X2.here hx rfl (hb hby d31_12) rfl rfl k))) ?_
  obtain ⟨cq4, kq4, q4a, q4b, q4c⟩ := isOf hZ rfl E_r2
  obtain ⟨_, _, ⟨T4, L4, k4, n4⟩, -, X4, ⟨Lc4, hQ4, l4, y4, z4⟩, st4⟩ := X2.interfaceBack hx (xi := (⟨"java/util/Iterator", "hasNext", "()Z"⟩ : MethodName)) (y := (⟨"java/util/ImmutableCollections$ListItr", "hasNext", "()Z"⟩ : MethodName)) hown (mvT hZ (wq hw 244 rfl)) (mvT hZ (wq hw 245 rfl)) (mvT hZ (wq hw 246 rfl)) (mvT hZ (wq hw 247 rfl)) (mvT hZ (wq hw 248 rfl)) (mvT hZ (wq hw 249 rfl)) (mvT hZ (wq hw 250 rfl)) (mvT hZ (wq hw 251 rfl)) (by decide) (backOf (W := 0) (rm_has10 l Z a0 hw [] r2 T2.heap n0 Z3 F_cursor_r2 F_size_r2) hZ (wq hw 252 rfl) (wq hw 224 rfl) (by decide) (by decide)) q4a q4b q4c (g := (mkF m 13 #[.val (.ref a), .val (.int q), .val (.int (0 : Int32)), .val (.ref r2), .unset] [(.ref r2)])) rfl (by rw [hml]; rfl) (Steps.refl _) (argsL := []) (rest := []) (lenOf pd__28_29Z rfl) rfl (by show 2 * 0 + _ ≤ _; exact Nat.le_of_eq rfl) (hb hby d31_13) (fun _ _ => ⟨rfl, rfl, (by decide : 1 + 0 ≤ _), (by decide : 4 + 0 ≤ _)⟩)
  dsimp only [Pt.U, Pt.locs, Pt.cells, Pt.slots] at X4 l4 y4 z4 st4 hQ4
  subst l4 y4 z4
  obtain ⟨rfl, N4q, HQ4⟩ := hQ4
  have N4 := Fr.app N2 N4q
  refine Goes.pre (U' := T4.setTop (mkF m 18 #[.val (.ref a), .val (.int q), .val (.int (0 : Int32)), .val (.ref r2), .unset] [(.int (1 : Int32))])) (fun t k => st4.trans k) ?_
  have hc18 : ¬ ((1 : Int32) = (0 : Int32)) := by decide
  refine Goes.pre (U' := T4.setTop (mkF m 22 #[.val (.ref a), .val (.int q), .val (.int (0 : Int32)), .val (.ref r2), .unset] [(.ref r2)])) (fun t k => XS.ifNo X4.here hx rfl (hb hby d31_18) rfl ((if0 _ _).trans (feq hc18).1) (XS.aloadN X4.here hx rfl (hb hby d31_21) rfl rfl k)) ?_
  obtain ⟨cq5, kq5, q5a, q5b, q5c⟩ := isOf hZ HQ4 E_r2
  obtain ⟨_, _, ⟨T5, L5, k5, n5⟩, -, X5, ⟨Lc5, hQ5, l5, y5, z5⟩, st5⟩ := X4.interfaceBack hx (xi := (⟨"java/util/Iterator", "next", "()Ljava/lang/Object;"⟩ : MethodName)) (y := (⟨"java/util/ImmutableCollections$ListItr", "next", "()Ljava/lang/Object;"⟩ : MethodName)) hown (mvT hZ (wq hw 253 rfl)) (mvT hZ (wq hw 254 rfl)) (mvT hZ (wq hw 255 rfl)) (mvT hZ (wq hw 256 rfl)) (mvT hZ (wq hw 257 rfl)) (mvT hZ (wq hw 258 rfl)) (mvT hZ (wq hw 259 rfl)) (mvT hZ (wq hw 251 rfl)) (by decide) (backOfWith (W := 0) (rm_next l Z a0 hw [] r2 b y T2.heap n0 Z3 E_r2 E_b F_e0_b F_list_r2 F_size_r2 F_cursor_r2 ne_b_r2 g_r2) hZ (wq hw 260 rfl) (wq hw 224 rfl) (by decide) (by decide)) q5a q5b q5c (g := (mkF m 22 #[.val (.ref a), .val (.int q), .val (.int (0 : Int32)), .val (.ref r2), .unset] [(.ref r2)])) rfl (by rw [hml]; rfl) (Steps.refl _) (argsL := []) (rest := []) (lenOf pd__28_29Ljava_2flang_2fObject_3b rfl) rfl (by show 2 * 0 + _ ≤ _; exact Nat.le_of_eq rfl) (hb hby d31_22) (fun _ _ => ⟨rfl, HQ4, (by decide : 1 + 0 ≤ _), (by decide : 4 + 0 ≤ _)⟩)
  dsimp only [Pt.U, Pt.locs, Pt.cells, Pt.slots] at X5 l5 y5 z5 st5 hQ5
  subst l5 y5 z5
  obtain ⟨rfl, N5q, KQ5, fo0_5, fo1_5, fo2_5⟩ := hQ5
  have N5 := Fr.app N4 N5q
  have F_children_a := F_children_a.keep KQ5 (ninS ne_a_r2 nin0)
  have E_b := E_b.keep KQ5
  have F_e0_b := F_e0_b.keep KQ5 (ninS ne_b_r2 nin0)
  have F_e1_b := F_e1_b.keep KQ5 (ninS ne_b_r2 nin0)
  have F_label_y := F_label_y.keep KQ5 (ninS ne_y_r2 nin0)
  have F_printed_y := F_printed_y.keep KQ5 (ninS ne_y_r2 nin0)
  have F_start_y := F_start_y.keep KQ5 (ninS ne_y_r2 nin0)
  have F_children_y := F_children_y.keep KQ5 (ninS ne_y_r2 nin0)
  have E_y := E_y.keep KQ5
  have E_r2 := E_r2.keep KQ5
  have Z6 : n0 ≤ T5.heap.size := Nat.le_trans Z3 KQ5.1
  have O := O.keep KQ5 (allS (P := fun x => n0 ≤ x) g_r2 all0)
  have K6 := K3.trans KQ5 (allS (P := fun x => x ∈ [] ∨ h0.size ≤ x) (Or.inr sz_r2) all0)
  have F_list_r2 := fo0_5
  have F_size_r2 := fo1_5
  have F_cursor_r2 := fo2_5
  refine Goes.pre (U' := T5.setTop (mkF m 27 #[.val (.ref a), .val (.int q), .val (.int (0 : Int32)), .val (.ref r2), .unset] [(.ref y)])) (fun t k => st5.trans k) ?_
  obtain ⟨T7, X7, e7, st7⟩ := castY X5 hx hZ hown (wq hw 269 rfl) rfl (Ins.self E_y) (g := (mkF m 27 #[.val (.ref a), .val (.int q), .val (.int (0 : Int32)), .val (.ref r2), .unset] [(.ref y)])) rfl rfl (hb hby d31_27)
  refine Goes.pre (U' := T7.setTop (mkF m 35 #[.val (.ref a), .val (.int q), .val (.int (0 : Int32)), .val (.ref r2), .val (.ref y)] [(.ref y), (.int (0 : Int32))])) (fun t k => st7 t (XS.astore X7.here hx rfl (hb hby d31_30) rfl rfl (l' := #[.val (.ref a), .val (.int q), .val (.int (0 : Int32)), .val (.ref r2), .val (.ref y)]) rfl (XS.iloadN X7.here hx rfl (hb hby d31_32) rfl (XS.aload X7.here hx rfl (hb hby d31_33) rfl rfl k)))) ?_
  obtain ⟨cq8, kq8, q8a, q8b, q8c⟩ := isOf hZ e7 E_y
  obtain ⟨_, _, ⟨T8, L8, k8, n8⟩, -, X8, ⟨Lc8, hQ8, l8, y8, z8⟩, st8⟩ := X7.virtualBack hx (y := (⟨"com/example/restate/restate/plan/Item", "deleted", "()Z"⟩ : MethodName)) (z := (⟨"com/example/restate/restate/plan/Item", "deleted", "()Z"⟩ : MethodName)) hown (mvT hZ (wq hw 271 rfl)) (mvT hZ (wq hw 204 rfl)) (notFace_of_selects (args := #[]) (mvT hZ (wq hw 206 rfl))) (mvT hZ (wq hw 206 rfl)) (mvT hZ (wq hw 205 rfl)) (by decide) (backOf (W := 1) (rm_del00 l Z a0 hw [] y T5.heap n0 Z6 F_label_y F_printed_y) hZ (wq hw 207 rfl) (wq hw 67 rfl) (by decide) (by decide)) q8a q8c (g := (mkF m 35 #[.val (.ref a), .val (.int q), .val (.int (0 : Int32)), .val (.ref r2), .val (.ref y)] [(.ref y), (.int (0 : Int32))])) rfl (by rw [hml]; rfl) (Steps.refl _) (argsL := []) (rest := [(.int (0 : Int32))]) (lenOf pd__28_29Z rfl) rfl (by show 2 * 0 + _ ≤ _; exact Nat.le_of_eq rfl) (hb hby d31_35) (fun _ _ => ⟨rfl, e7, (by decide : 1 + 0 ≤ _), (by decide : 4 + 0 ≤ _)⟩)
  dsimp only [Pt.U, Pt.locs, Pt.cells, Pt.slots] at X8 l8 y8 z8 st8 hQ8
  subst l8 y8 z8
  obtain ⟨rfl, N8q, HQ8⟩ := hQ8
  have N8 := Fr.app N5 N8q
  refine Goes.pre (U' := T8.setTop (mkF m 38 #[.val (.ref a), .val (.int q), .val (.int (0 : Int32)), .val (.ref r2), .val (.ref y)] [(.int (0 : Int32)), (.int (0 : Int32))])) (fun t k => st8.trans k) ?_
  have hc38 : (0 : Int32) = (0 : Int32) := rfl
  refine Goes.pre (U' := T8.setTop (mkF m 58 #[.val (.ref a), .val (.int q), .val (.int (0 : Int32)), .val (.ref r2), .val (.ref y)] [(.int q), (.ref y), (.int (0 : Int32)), (.int (0 : Int32))])) (fun t k => XS.ifYes X8.here hx rfl (pc0 := 38) (pc' := 54) rfl (hb hby d31_38) rfl ((if0 _ _).trans (teq hc38).1) (by decide) (by decide) (XS.iconst X8.here hx rfl (hb hby d31_54) (XS.aload X8.here hx rfl (hb hby d31_55) rfl rfl (XS.iloadN X8.here hx rfl (hb hby d31_57) rfl k)))) ?_
  obtain ⟨cq9, kq9, q9a, q9b, q9c⟩ := isOf hZ HQ8 E_y
  obtain ⟨_, _, ⟨T9, L9, k9, n9⟩, -, X9, ⟨Lc9, hQ9, l9, y9, z9⟩, st9⟩ := X8.virtualBack hx (y := (⟨"com/example/restate/restate/plan/Item", "deletedBefore", "(I)I"⟩ : MethodName)) (z := (⟨"com/example/restate/restate/plan/Item", "deletedBefore", "(I)I"⟩ : MethodName)) hown (mvT hZ (wq hw 272 rfl)) (mvT hZ (wq hw 209 rfl)) (notFace_of_selects (args := #[]) (mvT hZ (wq hw 211 rfl))) (mvT hZ (wq hw 211 rfl)) (mvT hZ (wq hw 210 rfl)) (by decide) (backOf (W := 2) (rm_db0 l Z a0 hw [] y q el ea ke T5.heap n0 Z6 F_children_y E_el F_elements_el V_ea O) hZ (wq hw 212 rfl) (wq hw 67 rfl) (by decide) (by decide)) q9a q9c (g := (mkF m 58 #[.val (.ref a), .val (.int q), .val (.int (0 : Int32)), .val (.ref r2), .val (.ref y)] [(.int q), (.ref y), (.int (0 : Int32)), (.int (0 : Int32))])) rfl (by rw [hml]; rfl) (Steps.refl _) (argsL := [(.int q)]) (rest := [(.int (0 : Int32)), (.int (0 : Int32))]) (lenOf pd__28I_29I rfl) rfl (by show 2 * 0 + _ ≤ _; exact Nat.le_of_eq rfl) (hb hby d31_58) (fun _ _ => ⟨rfl, HQ8, (by decide : 1 + 1 ≤ _), (by decide : 4 + 4 ≤ _)⟩)
  dsimp only [Pt.U, Pt.locs, Pt.cells, Pt.slots] at X9 l9 y9 z9 st9 hQ9
  subst l9 y9 z9
  obtain ⟨rfl, N9q, KQ9⟩ := hQ9
  have N9 := Fr.app N8 N9q
  have F_children_a := F_children_a.keep KQ9 nin0
  have E_b := E_b.keep KQ9
  have F_e0_b := F_e0_b.keep KQ9 nin0
  have F_e1_b := F_e1_b.keep KQ9 nin0
  have F_label_y := F_label_y.keep KQ9 nin0
  have F_printed_y := F_printed_y.keep KQ9 nin0
  have F_start_y := F_start_y.keep KQ9 nin0
  have F_children_y := F_children_y.keep KQ9 nin0
  have E_y := E_y.keep KQ9
  have E_r2 := E_r2.keep KQ9
  have F_list_r2 := F_list_r2.keep KQ9 nin0
  have F_size_r2 := F_size_r2.keep KQ9 nin0
  have F_cursor_r2 := F_cursor_r2.keep KQ9 nin0
  have Z10 : n0 ≤ T9.heap.size := Nat.le_trans Z6 KQ9.1
  have O := O.keep KQ9 all0
  have K10 := K6.trans KQ9 all0
  refine Goes.pre (U' := T9.setTop (mkF m 62 #[.val (.ref a), .val (.int q), .val (.int (0 : Int32)), .val (.ref r2), .val (.ref y)] [(.int ((0 : Int32) + (0 : Int32))), (.int (0 : Int32))])) (fun t k => st9.trans (XS.iadd X9.here hx rfl (hb hby d31_61) rfl k)) ?_
  rw [(by decide : ((0 : Int32) + (0 : Int32)) = (0 : Int32))]
  refine Goes.pre (U' := T9.setTop (mkF m 63 #[.val (.ref a), .val (.int q), .val (.int (0 : Int32)), .val (.ref r2), .val (.ref y)] [(.int ((0 : Int32) + (0 : Int32)))])) (fun t k => XS.iadd X9.here hx rfl (hb hby d31_62) rfl k) ?_
  rw [(by decide : ((0 : Int32) + (0 : Int32)) = (0 : Int32))]
  refine Goes.pre (U' := T9.setTop (mkF m 13 #[.val (.ref a), .val (.int q), .val (.int (0 : Int32)), .val (.ref r2), .val (.ref y)] [(.ref r2)])) (fun t k => XS.istoreN X9.here hx rfl (hb hby d31_63) rfl (l' := #[.val (.ref a), .val (.int q), .val (.int (0 : Int32)), .val (.ref r2), .val (.ref y)]) rfl (XS.goto X9.here hx rfl (pc0 := 64) (pc' := 12) rfl (hb hby d31_64) (by decide) (by decide) (XS.aloadN X9.here hx rfl (hb hby d31_12) rfl rfl k))) ?_
  obtain ⟨cq11, kq11, q11a, q11b, q11c⟩ := isOf hZ rfl E_r2
  obtain ⟨_, _, ⟨T11, L11, k11, n11⟩, -, X11, ⟨Lc11, hQ11, l11, y11, z11⟩, st11⟩ := X9.interfaceBack hx (xi := (⟨"java/util/Iterator", "hasNext", "()Z"⟩ : MethodName)) (y := (⟨"java/util/ImmutableCollections$ListItr", "hasNext", "()Z"⟩ : MethodName)) hown (mvT hZ (wq hw 244 rfl)) (mvT hZ (wq hw 245 rfl)) (mvT hZ (wq hw 246 rfl)) (mvT hZ (wq hw 247 rfl)) (mvT hZ (wq hw 248 rfl)) (mvT hZ (wq hw 249 rfl)) (mvT hZ (wq hw 250 rfl)) (mvT hZ (wq hw 251 rfl)) (by decide) (backOf (W := 0) (rm_has11 l Z a0 hw [] r2 T9.heap n0 Z10 F_cursor_r2 F_size_r2) hZ (wq hw 252 rfl) (wq hw 224 rfl) (by decide) (by decide)) q11a q11b q11c (g := (mkF m 13 #[.val (.ref a), .val (.int q), .val (.int (0 : Int32)), .val (.ref r2), .val (.ref y)] [(.ref r2)])) rfl (by rw [hml]; rfl) (Steps.refl _) (argsL := []) (rest := []) (lenOf pd__28_29Z rfl) rfl (by show 2 * 0 + _ ≤ _; exact Nat.le_of_eq rfl) (hb hby d31_13) (fun _ _ => ⟨rfl, rfl, (by decide : 2 + 0 ≤ _), (by decide : 8 + 0 ≤ _)⟩)
  dsimp only [Pt.U, Pt.locs, Pt.cells, Pt.slots] at X11 l11 y11 z11 st11 hQ11
  subst l11 y11 z11
  obtain ⟨rfl, N11q, HQ11⟩ := hQ11
  have N11 := Fr.app N9 N11q
  refine Goes.pre (U' := T11.setTop (mkF m 18 #[.val (.ref a), .val (.int q), .val (.int (0 : Int32)), .val (.ref r2), .val (.ref y)] [(.int (0 : Int32))])) (fun t k => st11.trans k) ?_
  have hc18 : (0 : Int32) = (0 : Int32) := rfl
  refine Goes.pre (U' := T11.setTop (mkF m 68 #[.val (.ref a), .val (.int q), .val (.int (0 : Int32)), .val (.ref r2), .val (.ref y)] [(.int (0 : Int32))])) (fun t k => XS.ifYes X11.here hx rfl (pc0 := 18) (pc' := 67) rfl (hb hby d31_18) rfl ((if0 _ _).trans (teq hc18).1) (by decide) (by decide) (XS.iloadN X11.here hx rfl (hb hby d31_67) rfl k)) ?_
  refine Goes.ret X11 (v := (some (.int (0 : Int32)))) (fun h => by rw [hret] at h; cases h) hlk (by decide) (by decide) HQ11 (fun fs hr => retI X11 hx hret (hb hby d31_68) hr) ?_
  exact ⟨rfl, N11, K10⟩
theorem ef_rm_dbP11 (m : MethodId) (x0 : Addr) (x1 : Int32) : entryFrame m #[(.ref x0), (.int x1)] 5 = mkF m 0 #[.val (.ref x0), .val (.int x1), .unset, .unset, .unset] [] := by first | (simp [entryFrame, mkF, argsToLocals, Value.category]; done) | rfl
def Q_rm_dbP11 (Z : State) (a : Addr) (q : Int32) (b : Addr) (y : Addr) (la : Addr) (pr : Addr) (em : Addr) (el : Addr) (ea : Addr) (ke : ClassId) (h0 : Heap) (n0 : Nat) (v : Option Value) (h : Heap) (L : List Loc) : Prop := v = some (.int (0 : Int32)) ∧ Fr n0 L ∧ Keep h0 h []
set_option maxRecDepth 65536 in
set_option maxHeartbeats 40000000 in
theorem rm_dbP11 (l : Launch) (Z : State) (a0 : Array Value) (hw : ∀ d ∈ tables_1, d.before a0 Z = true) (ws : List Jvm.Cond) (a : Addr) (q : Int32) (b : Addr) (y : Addr) (la : Addr) (pr : Addr) (em : Addr) (el : Addr) (ea : Addr) (ke : ClassId) (h0 : Heap) (n0 : Nat) (Z0 : n0 ≤ h0.size) (F_children_a : Fld Z h0 a "com/example/restate/restate/plan/Item" "children" "Ljava/util/List;" (.ref b)) (E_b : Exa Z h0 b "java/util/ImmutableCollections$List12") (F_e0_b : Fld Z h0 b "java/util/ImmutableCollections$List12" "e0" "Ljava/lang/Object;" (.ref y)) (F_e1_b : Fld Z h0 b "java/util/ImmutableCollections$List12" "e1" "Ljava/lang/Object;" (.ref em)) (S_EMPTY : Sta Z Z.heap "java/util/ImmutableCollections" "EMPTY" "Ljava/lang/Object;" (.ref em)) (E_el : Exa Z Z.heap el "java/util/ImmutableCollections$ListN") (F_elements_el : Fld Z Z.heap el "java/util/ImmutableCollections$ListN" "elements" "[Ljava/lang/Object;" (.ref ea)) (V_ea : Arv Z Z.heap ea ke (.object "java/lang/Object") (0 : Int32) [] .null) (F_label_y : Fld Z h0 y "com/example/restate/restate/plan/Item" "label" "Lcom/example/restate/restate/plan/Label;" (.ref la)) (F_printed_y : Fld Z h0 y "com/example/restate/restate/plan/Item" "printed" "Lcom/example/restate/restate/plan/Label;" (.ref pr)) (F_start_y : Fld Z h0 y "com/example/restate/restate/plan/Item" "start" "I" (.int q)) (F_children_y : Fld Z h0 y "com/example/restate/restate/plan/Item" "children" "Ljava/util/List;" (.ref el)) (E_y : Exa Z h0 y "com/example/restate/restate/plan/Item") (O : Old Z n0 h0) :
    Met l Z M31 prog_20_method_5_code 5 (some .int) ws (Rm 4 2 8 57) #[(.ref a), (.int q)] h0 (Q_rm_dbP11 Z a q b y la pr em el ea ke h0 n0) := by
  refine met_of (plainFor_of_name pn_com_example_restate_restate_plan_Item) (own := "com/example/restate/restate/plan/Item") rfl (fun m => ef_rm_dbP11 m a q) ?_
  intro p e s m below meth c s₁ hx hby hml hown hnm hZ X0 e0 hret hlk
  have N0 := Fr.nil n0
  have K0 := Keep.refl h0 []
  show Goes p e below s _ _ _ (s₁.setTop (mkF m 0 #[.val (.ref a), .val (.int q), .unset, .unset, .unset] []))
  refine Goes.pre (U' := s₁.setTop (mkF m 3 #[.val (.ref a), .val (.int q), .val (.int (0 : Int32)), .unset, .unset] [(.ref a)])) (fun t k => XS.iconst X0.here hx rfl (hb hby d31_0) (XS.istoreN X0.here hx rfl (hb hby d31_1) rfl (l' := #[.val (.ref a), .val (.int q), .val (.int (0 : Int32)), .unset, .unset]) rfl (XS.aloadN X0.here hx rfl (hb hby d31_2) rfl rfl k))) ?_
  obtain ⟨T1, X1, e1, st1⟩ := getF X0 hx hZ hown (host := "") (Or.inl (wq hw 109 rfl)) Via.refl e0 F_children_a (g := (mkF m 3 #[.val (.ref a), .val (.int q), .val (.int (0 : Int32)), .unset, .unset] [(.ref a)])) rfl rfl (hb hby d31_3)
  refine Goes.pre (U' := T1.setTop (mkF m 6 #[.val (.ref a), .val (.int q), .val (.int (0 : Int32)), .unset, .unset] [(.ref b)])) (fun t k => st1 t k) ?_
  have lt_a := F_children_a.lt
  have lt_b := E_b.lt
  have lt_ea := (V_ea.ext O.2).lt
  have lt_el := (E_el.ext O.2).lt
  have lt_y := F_label_y.lt
  obtain ⟨cq2, kq2, q2a, q2b, q2c⟩ := isOf hZ e1 E_b
  obtain ⟨_, _, ⟨T2, L2, k2, n2⟩, -, X2, ⟨Lc2, hQ2, l2, y2, z2⟩, st2⟩ := X1.interfaceBack hx (xi := (⟨"java/util/List", "iterator", "()Ljava/util/Iterator;"⟩ : MethodName)) (y := (⟨"java/util/ImmutableCollections$AbstractImmutableList", "iterator", "()Ljava/util/Iterator;"⟩ : MethodName)) hown (mvT hZ (wq hw 213 rfl)) (mvT hZ (wq hw 214 rfl)) (mvT hZ (wq hw 215 rfl)) (mvT hZ (wq hw 216 rfl)) (mvT hZ (wq hw 217 rfl)) (mvT hZ (wq hw 218 rfl)) (mvT hZ (wq hw 219 rfl)) (mvT hZ (wq hw 220 rfl)) (by decide) (backOf (W := 0) (rm_iter1 l Z a0 hw [] b em h0 n0 Z0 E_b F_e1_b S_EMPTY O) hZ (wq hw 221 rfl) (wq hw 184 rfl) (by decide) (by decide)) q2a q2b q2c (g := (mkF m 6 #[.val (.ref a), .val (.int q), .val (.int (0 : Int32)), .unset, .unset] [(.ref b)])) rfl (by rw [hml]; rfl) (Steps.refl _) (argsL := []) (rest := []) (lenOf pd__28_29Ljava_2futil_2fIterator_3b rfl) rfl (by show 2 * 0 + _ ≤ _; exact Nat.le_of_eq rfl) (hb hby d31_6) (fun _ _ => ⟨rfl, e1, (by decide : 0 + 1 ≤ _), (by decide : 0 + 4 ≤ _)⟩)
  dsimp only [Pt.U, Pt.locs, Pt.cells, Pt.slots] at X2 l2 y2 z2 st2 hQ2
  subst l2 y2 z2
  obtain ⟨r2, rfl, N2q, KQ2, fo0_2, fo1_2, fo2_2, fo3_2, g_r2, sl_r2⟩ := hQ2
  have N2 := Fr.app N0 N2q
  have F_children_a := F_children_a.keep KQ2 nin0
  have E_b := E_b.keep KQ2
  have F_e0_b := F_e0_b.keep KQ2 nin0
  have F_e1_b := F_e1_b.keep KQ2 nin0
  have F_label_y := F_label_y.keep KQ2 nin0
  have F_printed_y := F_printed_y.keep KQ2 nin0
  have F_start_y := F_start_y.keep KQ2 nin0
  have F_children_y := F_children_y.keep KQ2 nin0
  have E_y := E_y.keep KQ2
  have Z3 : n0 ≤ T2.heap.size := Nat.le_trans Z0 KQ2.1
  have O := O.keep KQ2 all0
  have K3 := K0.trans KQ2 all0
  have ne_a_r2 : a ≠ r2 := Nat.ne_of_lt (Nat.lt_of_lt_of_le lt_a sl_r2)
  have ne_r2_a := ne_a_r2.symm
  have ne_b_r2 : b ≠ r2 := Nat.ne_of_lt (Nat.lt_of_lt_of_le lt_b sl_r2)
  have ne_r2_b := ne_b_r2.symm
  have ne_ea_r2 : ea ≠ r2 := Nat.ne_of_lt (Nat.lt_of_lt_of_le lt_ea sl_r2)
  have ne_r2_ea := ne_ea_r2.symm
  have ne_el_r2 : el ≠ r2 := Nat.ne_of_lt (Nat.lt_of_lt_of_le lt_el sl_r2)
  have ne_r2_el := ne_el_r2.symm
  have ne_y_r2 : y ≠ r2 := Nat.ne_of_lt (Nat.lt_of_lt_of_le lt_y sl_r2)
  have ne_r2_y := ne_y_r2.symm
  have sz_r2 : h0.size ≤ r2 := Nat.le_trans K0.1 sl_r2
  have E_r2 := fo0_2
  have F_list_r2 := fo1_2
  have F_size_r2 := fo2_2
  have F_cursor_r2 := fo3_2
  refine Goes.pre (U' := T2.setTop (mkF m 13 #[.val (.ref a), .val (.int q), .val (.int (0 : Int32)), .val (.ref r2), .unset] [(.ref r2)])) (fun t k => st2.trans (XS.astoreN X2.here hx rfl (hb hby d31_11) rfl rfl (l' := #[.val (.ref a), .val (.int q), .val (.int (0 : Int32)), .val (.ref r2), .unset]) rfl (XS.aloadN X2.here hx rfl (hb hby d31_12) rfl rfl k))) ?_
  obtain ⟨cq4, kq4, q4a, q4b, q4c⟩ := isOf hZ rfl E_r2
  obtain ⟨_, _, ⟨T4, L4, k4, n4⟩, -, X4, ⟨Lc4, hQ4, l4, y4, z4⟩, st4⟩ := X2.interfaceBack hx (xi := (⟨"java/util/Iterator", "hasNext", "()Z"⟩ : MethodName)) (y := (⟨"java/util/ImmutableCollections$ListItr", "hasNext", "()Z"⟩ : MethodName)) hown (mvT hZ (wq hw 244 rfl)) (mvT hZ (wq hw 245 rfl)) (mvT hZ (wq hw 246 rfl)) (mvT hZ (wq hw 247 rfl)) (mvT hZ (wq hw 248 rfl)) (mvT hZ (wq hw 249 rfl)) (mvT hZ (wq hw 250 rfl)) (mvT hZ (wq hw 251 rfl)) (by decide) (backOf (W := 0) (rm_has10 l Z a0 hw [] r2 T2.heap n0 Z3 F_cursor_r2 F_size_r2) hZ (wq hw 252 rfl) (wq hw 224 rfl) (by decide) (by decide)) q4a q4b q4c (g := (mkF m 13 #[.val (.ref a), .val (.int q), .val (.int (0 : Int32)), .val (.ref r2), .unset] [(.ref r2)])) rfl (by rw [hml]; rfl) (Steps.refl _) (argsL := []) (rest := []) (lenOf pd__28_29Z rfl) rfl (by show 2 * 0 + _ ≤ _; exact Nat.le_of_eq rfl) (hb hby d31_13) (fun _ _ => ⟨rfl, rfl, (by decide : 1 + 0 ≤ _), (by decide : 4 + 0 ≤ _)⟩)
  dsimp only [Pt.U, Pt.locs, Pt.cells, Pt.slots] at X4 l4 y4 z4 st4 hQ4
  subst l4 y4 z4
  obtain ⟨rfl, N4q, HQ4⟩ := hQ4
  have N4 := Fr.app N2 N4q
  refine Goes.pre (U' := T4.setTop (mkF m 18 #[.val (.ref a), .val (.int q), .val (.int (0 : Int32)), .val (.ref r2), .unset] [(.int (1 : Int32))])) (fun t k => st4.trans k) ?_
  have hc18 : ¬ ((1 : Int32) = (0 : Int32)) := by decide
  refine Goes.pre (U' := T4.setTop (mkF m 22 #[.val (.ref a), .val (.int q), .val (.int (0 : Int32)), .val (.ref r2), .unset] [(.ref r2)])) (fun t k => XS.ifNo X4.here hx rfl (hb hby d31_18) rfl ((if0 _ _).trans (feq hc18).1) (XS.aloadN X4.here hx rfl (hb hby d31_21) rfl rfl k)) ?_
  obtain ⟨cq5, kq5, q5a, q5b, q5c⟩ := isOf hZ HQ4 E_r2
  obtain ⟨_, _, ⟨T5, L5, k5, n5⟩, -, X5, ⟨Lc5, hQ5, l5, y5, z5⟩, st5⟩ := X4.interfaceBack hx (xi := (⟨"java/util/Iterator", "next", "()Ljava/lang/Object;"⟩ : MethodName)) (y := (⟨"java/util/ImmutableCollections$ListItr", "next", "()Ljava/lang/Object;"⟩ : MethodName)) hown (mvT hZ (wq hw 253 rfl)) (mvT hZ (wq hw 254 rfl)) (mvT hZ (wq hw 255 rfl)) (mvT hZ (wq hw 256 rfl)) (mvT hZ (wq hw 257 rfl)) (mvT hZ (wq hw 258 rfl)) (mvT hZ (wq hw 259 rfl)) (mvT hZ (wq hw 251 rfl)) (by decide) (backOfWith (W := 0) (rm_next l Z a0 hw [] r2 b y T2.heap n0 Z3 E_r2 E_b F_e0_b F_list_r2 F_size_r2 F_cursor_r2 ne_b_r2 g_r2) hZ (wq hw 260 rfl) (wq hw 224 rfl) (by decide) (by decide)) q5a q5b q5c (g := (mkF m 22 #[.val (.ref a), .val (.int q), .val (.int (0 : Int32)), .val (.ref r2), .unset] [(.ref r2)])) rfl (by rw [hml]; rfl) (Steps.refl _) (argsL := []) (rest := []) (lenOf pd__28_29Ljava_2flang_2fObject_3b rfl) rfl (by show 2 * 0 + _ ≤ _; exact Nat.le_of_eq rfl) (hb hby d31_22) (fun _ _ => ⟨rfl, HQ4, (by decide : 1 + 0 ≤ _), (by decide : 4 + 0 ≤ _)⟩)
  dsimp only [Pt.U, Pt.locs, Pt.cells, Pt.slots] at X5 l5 y5 z5 st5 hQ5
  subst l5 y5 z5
  obtain ⟨rfl, N5q, KQ5, fo0_5, fo1_5, fo2_5⟩ := hQ5
  have N5 := Fr.app N4 N5q
  have F_children_a := F_children_a.keep KQ5 (ninS ne_a_r2 nin0)
  have E_b := E_b.keep KQ5
  have F_e0_b := F_e0_b.keep KQ5 (ninS ne_b_r2 nin0)
  have F_e1_b := F_e1_b.keep KQ5 (ninS ne_b_r2 nin0)
  have F_label_y := F_label_y.keep KQ5 (ninS ne_y_r2 nin0)
  have F_printed_y := F_printed_y.keep KQ5 (ninS ne_y_r2 nin0)
  have F_start_y := F_start_y.keep KQ5 (ninS ne_y_r2 nin0)
  have F_children_y := F_children_y.keep KQ5 (ninS ne_y_r2 nin0)
  have E_y := E_y.keep KQ5
  have E_r2 := E_r2.keep KQ5
  have Z6 : n0 ≤ T5.heap.size := Nat.le_trans Z3 KQ5.1
  have O := O.keep KQ5 (allS (P := fun x => n0 ≤ x) g_r2 all0)
  have K6 := K3.trans KQ5 (allS (P := fun x => x ∈ [] ∨ h0.size ≤ x) (Or.inr sz_r2) all0)
  have F_list_r2 := fo0_5
  have F_size_r2 := fo1_5
  have F_cursor_r2 := fo2_5
  refine Goes.pre (U' := T5.setTop (mkF m 27 #[.val (.ref a), .val (.int q), .val (.int (0 : Int32)), .val (.ref r2), .unset] [(.ref y)])) (fun t k => st5.trans k) ?_
  obtain ⟨T7, X7, e7, st7⟩ := castY X5 hx hZ hown (wq hw 269 rfl) rfl (Ins.self E_y) (g := (mkF m 27 #[.val (.ref a), .val (.int q), .val (.int (0 : Int32)), .val (.ref r2), .unset] [(.ref y)])) rfl rfl (hb hby d31_27)
  refine Goes.pre (U' := T7.setTop (mkF m 35 #[.val (.ref a), .val (.int q), .val (.int (0 : Int32)), .val (.ref r2), .val (.ref y)] [(.ref y), (.int (0 : Int32))])) (fun t k => st7 t (XS.astore X7.here hx rfl (hb hby d31_30) rfl rfl (l' := #[.val (.ref a), .val (.int q), .val (.int (0 : Int32)), .val (.ref r2), .val (.ref y)]) rfl (XS.iloadN X7.here hx rfl (hb hby d31_32) rfl (XS.aload X7.here hx rfl (hb hby d31_33) rfl rfl k)))) ?_
  obtain ⟨cq8, kq8, q8a, q8b, q8c⟩ := isOf hZ e7 E_y
  obtain ⟨_, _, ⟨T8, L8, k8, n8⟩, -, X8, ⟨Lc8, hQ8, l8, y8, z8⟩, st8⟩ := X7.virtualBack hx (y := (⟨"com/example/restate/restate/plan/Item", "deleted", "()Z"⟩ : MethodName)) (z := (⟨"com/example/restate/restate/plan/Item", "deleted", "()Z"⟩ : MethodName)) hown (mvT hZ (wq hw 271 rfl)) (mvT hZ (wq hw 204 rfl)) (notFace_of_selects (args := #[]) (mvT hZ (wq hw 206 rfl))) (mvT hZ (wq hw 206 rfl)) (mvT hZ (wq hw 205 rfl)) (by decide) (backOf (W := 1) (rm_del11 l Z a0 hw [] y la pr T5.heap n0 Z6 F_label_y F_printed_y) hZ (wq hw 207 rfl) (wq hw 67 rfl) (by decide) (by decide)) q8a q8c (g := (mkF m 35 #[.val (.ref a), .val (.int q), .val (.int (0 : Int32)), .val (.ref r2), .val (.ref y)] [(.ref y), (.int (0 : Int32))])) rfl (by rw [hml]; rfl) (Steps.refl _) (argsL := []) (rest := [(.int (0 : Int32))]) (lenOf pd__28_29Z rfl) rfl (by show 2 * 0 + _ ≤ _; exact Nat.le_of_eq rfl) (hb hby d31_35) (fun _ _ => ⟨rfl, e7, (by decide : 1 + 0 ≤ _), (by decide : 4 + 0 ≤ _)⟩)
  dsimp only [Pt.U, Pt.locs, Pt.cells, Pt.slots] at X8 l8 y8 z8 st8 hQ8
  subst l8 y8 z8
  obtain ⟨rfl, N8q, HQ8⟩ := hQ8
  have N8 := Fr.app N5 N8q
  refine Goes.pre (U' := T8.setTop (mkF m 38 #[.val (.ref a), .val (.int q), .val (.int (0 : Int32)), .val (.ref r2), .val (.ref y)] [(.int (0 : Int32)), (.int (0 : Int32))])) (fun t k => st8.trans k) ?_
  have hc38 : (0 : Int32) = (0 : Int32) := rfl
  refine Goes.pre (U' := T8.setTop (mkF m 58 #[.val (.ref a), .val (.int q), .val (.int (0 : Int32)), .val (.ref r2), .val (.ref y)] [(.int q), (.ref y), (.int (0 : Int32)), (.int (0 : Int32))])) (fun t k => XS.ifYes X8.here hx rfl (pc0 := 38) (pc' := 54) rfl (hb hby d31_38) rfl ((if0 _ _).trans (teq hc38).1) (by decide) (by decide) (XS.iconst X8.here hx rfl (hb hby d31_54) (XS.aload X8.here hx rfl (hb hby d31_55) rfl rfl (XS.iloadN X8.here hx rfl (hb hby d31_57) rfl k)))) ?_
  obtain ⟨cq9, kq9, q9a, q9b, q9c⟩ := isOf hZ HQ8 E_y
  obtain ⟨_, _, ⟨T9, L9, k9, n9⟩, -, X9, ⟨Lc9, hQ9, l9, y9, z9⟩, st9⟩ := X8.virtualBack hx (y := (⟨"com/example/restate/restate/plan/Item", "deletedBefore", "(I)I"⟩ : MethodName)) (z := (⟨"com/example/restate/restate/plan/Item", "deletedBefore", "(I)I"⟩ : MethodName)) hown (mvT hZ (wq hw 272 rfl)) (mvT hZ (wq hw 209 rfl)) (notFace_of_selects (args := #[]) (mvT hZ (wq hw 211 rfl))) (mvT hZ (wq hw 211 rfl)) (mvT hZ (wq hw 210 rfl)) (by decide) (backOf (W := 2) (rm_db0 l Z a0 hw [] y q el ea ke T5.heap n0 Z6 F_children_y E_el F_elements_el V_ea O) hZ (wq hw 212 rfl) (wq hw 67 rfl) (by decide) (by decide)) q9a q9c (g := (mkF m 58 #[.val (.ref a), .val (.int q), .val (.int (0 : Int32)), .val (.ref r2), .val (.ref y)] [(.int q), (.ref y), (.int (0 : Int32)), (.int (0 : Int32))])) rfl (by rw [hml]; rfl) (Steps.refl _) (argsL := [(.int q)]) (rest := [(.int (0 : Int32)), (.int (0 : Int32))]) (lenOf pd__28I_29I rfl) rfl (by show 2 * 0 + _ ≤ _; exact Nat.le_of_eq rfl) (hb hby d31_58) (fun _ _ => ⟨rfl, HQ8, (by decide : 1 + 1 ≤ _), (by decide : 4 + 4 ≤ _)⟩)
  dsimp only [Pt.U, Pt.locs, Pt.cells, Pt.slots] at X9 l9 y9 z9 st9 hQ9
  subst l9 y9 z9
  obtain ⟨rfl, N9q, KQ9⟩ := hQ9
  have N9 := Fr.app N8 N9q
  have F_children_a := F_children_a.keep KQ9 nin0
  have E_b := E_b.keep KQ9
  have F_e0_b := F_e0_b.keep KQ9 nin0
  have F_e1_b := F_e1_b.keep KQ9 nin0
  have F_label_y := F_label_y.keep KQ9 nin0
  have F_printed_y := F_printed_y.keep KQ9 nin0
  have F_start_y := F_start_y.keep KQ9 nin0
  have F_children_y := F_children_y.keep KQ9 nin0
  have E_y := E_y.keep KQ9
  have E_r2 := E_r2.keep KQ9
  have F_list_r2 := F_list_r2.keep KQ9 nin0
  have F_size_r2 := F_size_r2.keep KQ9 nin0
  have F_cursor_r2 := F_cursor_r2.keep KQ9 nin0
  have Z10 : n0 ≤ T9.heap.size := Nat.le_trans Z6 KQ9.1
  have O := O.keep KQ9 all0
  have K10 := K6.trans KQ9 all0
  refine Goes.pre (U' := T9.setTop (mkF m 62 #[.val (.ref a), .val (.int q), .val (.int (0 : Int32)), .val (.ref r2), .val (.ref y)] [(.int ((0 : Int32) + (0 : Int32))), (.int (0 : Int32))])) (fun t k => st9.trans (XS.iadd X9.here hx rfl (hb hby d31_61) rfl k)) ?_
  rw [(by decide : ((0 : Int32) + (0 : Int32)) = (0 : Int32))]
  refine Goes.pre (U' := T9.setTop (mkF m 63 #[.val (.ref a), .val (.int q), .val (.int (0 : Int32)), .val (.ref r2), .val (.ref y)] [(.int ((0 : Int32) + (0 : Int32)))])) (fun t k => XS.iadd X9.here hx rfl (hb hby d31_62) rfl k) ?_
  rw [(by decide : ((0 : Int32) + (0 : Int32)) = (0 : Int32))]
  refine Goes.pre (U' := T9.setTop (mkF m 13 #[.val (.ref a), .val (.int q), .val (.int (0 : Int32)), .val (.ref r2), .val (.ref y)] [(.ref r2)])) (fun t k => XS.istoreN X9.here hx rfl (hb hby d31_63) rfl (l' := #[.val (.ref a), .val (.int q), .val (.int (0 : Int32)), .val (.ref r2), .val (.ref y)]) rfl (XS.goto X9.here hx rfl (pc0 := 64) (pc' := 12) rfl (hb hby d31_64) (by decide) (by decide) (XS.aloadN X9.here hx rfl (hb hby d31_12) rfl rfl k))) ?_
  obtain ⟨cq11, kq11, q11a, q11b, q11c⟩ := isOf hZ rfl E_r2
  obtain ⟨_, _, ⟨T11, L11, k11, n11⟩, -, X11, ⟨Lc11, hQ11, l11, y11, z11⟩, st11⟩ := X9.interfaceBack hx (xi := (⟨"java/util/Iterator", "hasNext", "()Z"⟩ : MethodName)) (y := (⟨"java/util/ImmutableCollections$ListItr", "hasNext", "()Z"⟩ : MethodName)) hown (mvT hZ (wq hw 244 rfl)) (mvT hZ (wq hw 245 rfl)) (mvT hZ (wq hw 246 rfl)) (mvT hZ (wq hw 247 rfl)) (mvT hZ (wq hw 248 rfl)) (mvT hZ (wq hw 249 rfl)) (mvT hZ (wq hw 250 rfl)) (mvT hZ (wq hw 251 rfl)) (by decide) (backOf (W := 0) (rm_has11 l Z a0 hw [] r2 T9.heap n0 Z10 F_cursor_r2 F_size_r2) hZ (wq hw 252 rfl) (wq hw 224 rfl) (by decide) (by decide)) q11a q11b q11c (g := (mkF m 13 #[.val (.ref a), .val (.int q), .val (.int (0 : Int32)), .val (.ref r2), .val (.ref y)] [(.ref r2)])) rfl (by rw [hml]; rfl) (Steps.refl _) (argsL := []) (rest := []) (lenOf pd__28_29Z rfl) rfl (by show 2 * 0 + _ ≤ _; exact Nat.le_of_eq rfl) (hb hby d31_13) (fun _ _ => ⟨rfl, rfl, (by decide : 2 + 0 ≤ _), (by decide : 8 + 0 ≤ _)⟩)
  dsimp only [Pt.U, Pt.locs, Pt.cells, Pt.slots] at X11 l11 y11 z11 st11 hQ11
  subst l11 y11 z11
  obtain ⟨rfl, N11q, HQ11⟩ := hQ11
  have N11 := Fr.app N9 N11q
  refine Goes.pre (U' := T11.setTop (mkF m 18 #[.val (.ref a), .val (.int q), .val (.int (0 : Int32)), .val (.ref r2), .val (.ref y)] [(.int (0 : Int32))])) (fun t k => st11.trans k) ?_
  have hc18 : (0 : Int32) = (0 : Int32) := rfl
  refine Goes.pre (U' := T11.setTop (mkF m 68 #[.val (.ref a), .val (.int q), .val (.int (0 : Int32)), .val (.ref r2), .val (.ref y)] [(.int (0 : Int32))])) (fun t k => XS.ifYes X11.here hx rfl (pc0 := 18) (pc' := 67) rfl (hb hby d31_18) rfl ((if0 _ _).trans (teq hc18).1) (by decide) (by decide) (XS.iloadN X11.here hx rfl (hb hby d31_67) rfl k)) ?_
  refine Goes.ret X11 (v := (some (.int (0 : Int32)))) (fun h => by rw [hret] at h; cases h) hlk (by decide) (by decide) HQ11 (fun fs hr => retI X11 hx hret (hb hby d31_68) hr) ?_
  exact ⟨rfl, N11, K10⟩
theorem ef_rm_dbP10 (m : MethodId) (x0 : Addr) (x1 : Int32) : entryFrame m #[(.ref x0), (.int x1)] 5 = mkF m 0 #[.val (.ref x0), .val (.int x1), .unset, .unset, .unset] [] := by first | (simp [entryFrame, mkF, argsToLocals, Value.category]; done) | rfl
theorem d31_41 : decode prog_20_method_5_code 41 = .ok (.aload 4, 2) := by decide +kernel
theorem d31_43 : decode prog_20_method_5_code 43 = .ok (.getfield 22, 3) := by decide +kernel
theorem d31_46 : decode prog_20_method_5_code 46 = .ok (.iload_n 1, 1) := by decide +kernel
theorem d31_47 : decode prog_20_method_5_code 47 = .ok (.if_icmp .ne 7, 3) := by decide +kernel
theorem d31_50 : decode prog_20_method_5_code 50 = .ok (.iconst 1, 1) := by decide +kernel
theorem d31_51 : decode prog_20_method_5_code 51 = .ok (.goto 4, 3) := by decide +kernel
def Q_rm_dbP10 (Z : State) (a : Addr) (q : Int32) (b : Addr) (y : Addr) (la : Addr) (em : Addr) (el : Addr) (ea : Addr) (ke : ClassId) (h0 : Heap) (n0 : Nat) (v : Option Value) (h : Heap) (L : List Loc) : Prop := v = some (.int (1 : Int32)) ∧ Fr n0 L ∧ Keep h0 h []
set_option maxRecDepth 65536 in
set_option maxHeartbeats 40000000 in
theorem rm_dbP10 (l : Launch) (Z : State) (a0 : Array Value) (hw : ∀ d ∈ tables_1, d.before a0 Z = true) (ws : List Jvm.Cond) (a : Addr) (q : Int32) (b : Addr) (y : Addr) (la : Addr) (em : Addr) (el : Addr) (ea : Addr) (ke : ClassId) (h0 : Heap) (n0 : Nat) (Z0 : n0 ≤ h0.size) (F_children_a : Fld Z h0 a "com/example/restate/restate/plan/Item" "children" "Ljava/util/List;" (.ref b)) (E_b : Exa Z h0 b "java/util/ImmutableCollections$List12") (F_e0_b : Fld Z h0 b "java/util/ImmutableCollections$List12" "e0" "Ljava/lang/Object;" (.ref y)) (F_e1_b : Fld Z h0 b "java/util/ImmutableCollections$List12" "e1" "Ljava/lang/Object;" (.ref em)) (S_EMPTY : Sta Z Z.heap "java/util/ImmutableCollections" "EMPTY" "Ljava/lang/Object;" (.ref em)) (E_el : Exa Z Z.heap el "java/util/ImmutableCollections$ListN") (F_elements_el : Fld Z Z.heap el "java/util/ImmutableCollections$ListN" "elements" "[Ljava/lang/Object;" (.ref ea)) (V_ea : Arv Z Z.heap ea ke (.object "java/lang/Object") (0 : Int32) [] .null) (F_label_y : Fld Z h0 y "com/example/restate/restate/plan/Item" "label" "Lcom/example/restate/restate/plan/Label;" (.ref la)) (F_printed_y : Fld Z h0 y "com/example/restate/restate/plan/Item" "printed" "Lcom/example/restate/restate/plan/Label;" .null) (F_start_y : Fld Z h0 y "com/example/restate/restate/plan/Item" "start" "I" (.int q)) (F_children_y : Fld Z h0 y "com/example/restate/restate/plan/Item" "children" "Ljava/util/List;" (.ref el)) (E_y : Exa Z h0 y "com/example/restate/restate/plan/Item") (O : Old Z n0 h0) :
    Met l Z M31 prog_20_method_5_code 5 (some .int) ws (Rm 4 2 8 57) #[(.ref a), (.int q)] h0 (Q_rm_dbP10 Z a q b y la em el ea ke h0 n0) := by
  refine met_of (plainFor_of_name pn_com_example_restate_restate_plan_Item) (own := "com/example/restate/restate/plan/Item") rfl (fun m => ef_rm_dbP10 m a q) ?_
  intro p e s m below meth c s₁ hx hby hml hown hnm hZ X0 e0 hret hlk
  have N0 := Fr.nil n0
  have K0 := Keep.refl h0 []
  show Goes p e below s _ _ _ (s₁.setTop (mkF m 0 #[.val (.ref a), .val (.int q), .unset, .unset, .unset] []))
  refine Goes.pre (U' := s₁.setTop (mkF m 3 #[.val (.ref a), .val (.int q), .val (.int (0 : Int32)), .unset, .unset] [(.ref a)])) (fun t k => XS.iconst X0.here hx rfl (hb hby d31_0) (XS.istoreN X0.here hx rfl (hb hby d31_1) rfl (l' := #[.val (.ref a), .val (.int q), .val (.int (0 : Int32)), .unset, .unset]) rfl (XS.aloadN X0.here hx rfl (hb hby d31_2) rfl rfl k))) ?_
  obtain ⟨T1, X1, e1, st1⟩ := getF X0 hx hZ hown (host := "") (Or.inl (wq hw 109 rfl)) Via.refl e0 F_children_a (g := (mkF m 3 #[.val (.ref a), .val (.int q), .val (.int (0 : Int32)), .unset, .unset] [(.ref a)])) rfl rfl (hb hby d31_3)
  refine Goes.pre (U' := T1.setTop (mkF m 6 #[.val (.ref a), .val (.int q), .val (.int (0 : Int32)), .unset, .unset] [(.ref b)])) (fun t k => st1 t k) ?_
  have lt_a := F_children_a.lt
  have lt_b := E_b.lt
  have lt_ea := (V_ea.ext O.2).lt
  have lt_el := (E_el.ext O.2).lt
  have lt_y := F_label_y.lt
  obtain ⟨cq2, kq2, q2a, q2b, q2c⟩ := isOf hZ e1 E_b
  obtain ⟨_, _, ⟨T2, L2, k2, n2⟩, -, X2, ⟨Lc2, hQ2, l2, y2, z2⟩, st2⟩ := X1.interfaceBack hx (xi := (⟨"java/util/List", "iterator", "()Ljava/util/Iterator;"⟩ : MethodName)) (y := (⟨"java/util/ImmutableCollections$AbstractImmutableList", "iterator", "()Ljava/util/Iterator;"⟩ : MethodName)) hown (mvT hZ (wq hw 213 rfl)) (mvT hZ (wq hw 214 rfl)) (mvT hZ (wq hw 215 rfl)) (mvT hZ (wq hw 216 rfl)) (mvT hZ (wq hw 217 rfl)) (mvT hZ (wq hw 218 rfl)) (mvT hZ (wq hw 219 rfl)) (mvT hZ (wq hw 220 rfl)) (by decide) (backOf (W := 0) (rm_iter1 l Z a0 hw [] b em h0 n0 Z0 E_b F_e1_b S_EMPTY O) hZ (wq hw 221 rfl) (wq hw 184 rfl) (by decide) (by decide)) q2a q2b q2c (g := (mkF m 6 #[.val (.ref a), .val (.int q), .val (.int (0 : Int32)), .unset, .unset] [(.ref b)])) rfl (by rw [hml]; rfl) (Steps.refl _) (argsL := []) (rest := []) (lenOf pd__28_29Ljava_2futil_2fIterator_3b rfl) rfl (by show 2 * 0 + _ ≤ _; exact Nat.le_of_eq rfl) (hb hby d31_6) (fun _ _ => ⟨rfl, e1, (by decide : 0 + 1 ≤ _), (by decide : 0 + 4 ≤ _)⟩)
  dsimp only [Pt.U, Pt.locs, Pt.cells, Pt.slots] at X2 l2 y2 z2 st2 hQ2
  subst l2 y2 z2
  obtain ⟨r2, rfl, N2q, KQ2, fo0_2, fo1_2, fo2_2, fo3_2, g_r2, sl_r2⟩ := hQ2
  have N2 := Fr.app N0 N2q
  have F_children_a := F_children_a.keep KQ2 nin0
  have E_b := E_b.keep KQ2
  have F_e0_b := F_e0_b.keep KQ2 nin0
  have F_e1_b := F_e1_b.keep KQ2 nin0
  have F_label_y := F_label_y.keep KQ2 nin0
  have F_printed_y := F_printed_y.keep KQ2 nin0
  have F_start_y := F_start_y.keep KQ2 nin0
  have F_children_y := F_children_y.keep KQ2 nin0
  have E_y := E_y.keep KQ2
  have Z3 : n0 ≤ T2.heap.size := Nat.le_trans Z0 KQ2.1
  have O := O.keep KQ2 all0
  have K3 := K0.trans KQ2 all0
  have ne_a_r2 : a ≠ r2 := Nat.ne_of_lt (Nat.lt_of_lt_of_le lt_a sl_r2)
  have ne_r2_a := ne_a_r2.symm
  have ne_b_r2 : b ≠ r2 := Nat.ne_of_lt (Nat.lt_of_lt_of_le lt_b sl_r2)
  have ne_r2_b := ne_b_r2.symm
  have ne_ea_r2 : ea ≠ r2 := Nat.ne_of_lt (Nat.lt_of_lt_of_le lt_ea sl_r2)
  have ne_r2_ea := ne_ea_r2.symm
  have ne_el_r2 : el ≠ r2 := Nat.ne_of_lt (Nat.lt_of_lt_of_le lt_el sl_r2)
  have ne_r2_el := ne_el_r2.symm
  have ne_y_r2 : y ≠ r2 := Nat.ne_of_lt (Nat.lt_of_lt_of_le lt_y sl_r2)
  have ne_r2_y := ne_y_r2.symm
  have sz_r2 : h0.size ≤ r2 := Nat.le_trans K0.1 sl_r2
  have E_r2 := fo0_2
  have F_list_r2 := fo1_2
  have F_size_r2 := fo2_2
  have F_cursor_r2 := fo3_2
  refine Goes.pre (U' := T2.setTop (mkF m 13 #[.val (.ref a), .val (.int q), .val (.int (0 : Int32)), .val (.ref r2), .unset] [(.ref r2)])) (fun t k => st2.trans (XS.astoreN X2.here hx rfl (hb hby d31_11) rfl rfl (l' := #[.val (.ref a), .val (.int q), .val (.int (0 : Int32)), .val (.ref r2), .unset]) rfl (XS.aloadN X2.here hx rfl (hb hby d31_12) rfl rfl k))) ?_
  obtain ⟨cq4, kq4, q4a, q4b, q4c⟩ := isOf hZ rfl E_r2
  obtain ⟨_, _, ⟨T4, L4, k4, n4⟩, -, X4, ⟨Lc4, hQ4, l4, y4, z4⟩, st4⟩ := X2.interfaceBack hx (xi := (⟨"java/util/Iterator", "hasNext", "()Z"⟩ : MethodName)) (y := (⟨"java/util/ImmutableCollections$ListItr", "hasNext", "()Z"⟩ : MethodName)) hown (mvT hZ (wq hw 244 rfl)) (mvT hZ (wq hw 245 rfl)) (mvT hZ (wq hw 246 rfl)) (mvT hZ (wq hw 247 rfl)) (mvT hZ (wq hw 248 rfl)) (mvT hZ (wq hw 249 rfl)) (mvT hZ (wq hw 250 rfl)) (mvT hZ (wq hw 251 rfl)) (by decide) (backOf (W := 0) (rm_has10 l Z a0 hw [] r2 T2.heap n0 Z3 F_cursor_r2 F_size_r2) hZ (wq hw 252 rfl) (wq hw 224 rfl) (by decide) (by decide)) q4a q4b q4c (g := (mkF m 13 #[.val (.ref a), .val (.int q), .val (.int (0 : Int32)), .val (.ref r2), .unset] [(.ref r2)])) rfl (by rw [hml]; rfl) (Steps.refl _) (argsL := []) (rest := []) (lenOf pd__28_29Z rfl) rfl (by show 2 * 0 + _ ≤ _; exact Nat.le_of_eq rfl) (hb hby d31_13) (fun _ _ => ⟨rfl, rfl, (by decide : 1 + 0 ≤ _), (by decide : 4 + 0 ≤ _)⟩)
  dsimp only [Pt.U, Pt.locs, Pt.cells, Pt.slots] at X4 l4 y4 z4 st4 hQ4
  subst l4 y4 z4
  obtain ⟨rfl, N4q, HQ4⟩ := hQ4
  have N4 := Fr.app N2 N4q
  refine Goes.pre (U' := T4.setTop (mkF m 18 #[.val (.ref a), .val (.int q), .val (.int (0 : Int32)), .val (.ref r2), .unset] [(.int (1 : Int32))])) (fun t k => st4.trans k) ?_
  have hc18 : ¬ ((1 : Int32) = (0 : Int32)) := by decide
  refine Goes.pre (U' := T4.setTop (mkF m 22 #[.val (.ref a), .val (.int q), .val (.int (0 : Int32)), .val (.ref r2), .unset] [(.ref r2)])) (fun t k => XS.ifNo X4.here hx rfl (hb hby d31_18) rfl ((if0 _ _).trans (feq hc18).1) (XS.aloadN X4.here hx rfl (hb hby d31_21) rfl rfl k)) ?_
  obtain ⟨cq5, kq5, q5a, q5b, q5c⟩ := isOf hZ HQ4 E_r2
  obtain ⟨_, _, ⟨T5, L5, k5, n5⟩, -, X5, ⟨Lc5, hQ5, l5, y5, z5⟩, st5⟩ := X4.interfaceBack hx (xi := (⟨"java/util/Iterator", "next", "()Ljava/lang/Object;"⟩ : MethodName)) (y := (⟨"java/util/ImmutableCollections$ListItr", "next", "()Ljava/lang/Object;"⟩ : MethodName)) hown (mvT hZ (wq hw 253 rfl)) (mvT hZ (wq hw 254 rfl)) (mvT hZ (wq hw 255 rfl)) (mvT hZ (wq hw 256 rfl)) (mvT hZ (wq hw 257 rfl)) (mvT hZ (wq hw 258 rfl)) (mvT hZ (wq hw 259 rfl)) (mvT hZ (wq hw 251 rfl)) (by decide) (backOfWith (W := 0) (rm_next l Z a0 hw [] r2 b y T2.heap n0 Z3 E_r2 E_b F_e0_b F_list_r2 F_size_r2 F_cursor_r2 ne_b_r2 g_r2) hZ (wq hw 260 rfl) (wq hw 224 rfl) (by decide) (by decide)) q5a q5b q5c (g := (mkF m 22 #[.val (.ref a), .val (.int q), .val (.int (0 : Int32)), .val (.ref r2), .unset] [(.ref r2)])) rfl (by rw [hml]; rfl) (Steps.refl _) (argsL := []) (rest := []) (lenOf pd__28_29Ljava_2flang_2fObject_3b rfl) rfl (by show 2 * 0 + _ ≤ _; exact Nat.le_of_eq rfl) (hb hby d31_22) (fun _ _ => ⟨rfl, HQ4, (by decide : 1 + 0 ≤ _), (by decide : 4 + 0 ≤ _)⟩)
  dsimp only [Pt.U, Pt.locs, Pt.cells, Pt.slots] at X5 l5 y5 z5 st5 hQ5
  subst l5 y5 z5
  obtain ⟨rfl, N5q, KQ5, fo0_5, fo1_5, fo2_5⟩ := hQ5
  have N5 := Fr.app N4 N5q
  have F_children_a := F_children_a.keep KQ5 (ninS ne_a_r2 nin0)
  have E_b := E_b.keep KQ5
  have F_e0_b := F_e0_b.keep KQ5 (ninS ne_b_r2 nin0)
  have F_e1_b := F_e1_b.keep KQ5 (ninS ne_b_r2 nin0)
  have F_label_y := F_label_y.keep KQ5 (ninS ne_y_r2 nin0)
  have F_printed_y := F_printed_y.keep KQ5 (ninS ne_y_r2 nin0)
  have F_start_y := F_start_y.keep KQ5 (ninS ne_y_r2 nin0)
  have F_children_y := F_children_y.keep KQ5 (ninS ne_y_r2 nin0)
  have E_y := E_y.keep KQ5
  have E_r2 := E_r2.keep KQ5
  have Z6 : n0 ≤ T5.heap.size := Nat.le_trans Z3 KQ5.1
  have O := O.keep KQ5 (allS (P := fun x => n0 ≤ x) g_r2 all0)
  have K6 := K3.trans KQ5 (allS (P := fun x => x ∈ [] ∨ h0.size ≤ x) (Or.inr sz_r2) all0)
  have F_list_r2 := fo0_5
  have F_size_r2 := fo1_5
  have F_cursor_r2 := fo2_5
  refine Goes.pre (U' := T5.setTop (mkF m 27 #[.val (.ref a), .val (.int q), .val (.int (0 : Int32)), .val (.ref r2), .unset] [(.ref y)])) (fun t k => st5.trans k) ?_
  obtain ⟨T7, X7, e7, st7⟩ := castY X5 hx hZ hown (wq hw 269 rfl) rfl (Ins.self E_y) (g := (mkF m 27 #[.val (.ref a), .val (.int q), .val (.int (0 : Int32)), .val (.ref r2), .unset] [(.ref y)])) rfl rfl (hb hby d31_27)
  refine Goes.pre (U' := T7.setTop (mkF m 35 #[.val (.ref a), .val (.int q), .val (.int (0 : Int32)), .val (.ref r2), .val (.ref y)] [(.ref y), (.int (0 : Int32))])) (fun t k => st7 t (XS.astore X7.here hx rfl (hb hby d31_30) rfl rfl (l' := #[.val (.ref a), .val (.int q), .val (.int (0 : Int32)), .val (.ref r2), .val (.ref y)]) rfl (XS.iloadN X7.here hx rfl (hb hby d31_32) rfl (XS.aload X7.here hx rfl (hb hby d31_33) rfl rfl k)))) ?_
  obtain ⟨cq8, kq8, q8a, q8b, q8c⟩ := isOf hZ e7 E_y
  obtain ⟨_, _, ⟨T8, L8, k8, n8⟩, -, X8, ⟨Lc8, hQ8, l8, y8, z8⟩, st8⟩ := X7.virtualBack hx (y := (⟨"com/example/restate/restate/plan/Item", "deleted", "()Z"⟩ : MethodName)) (z := (⟨"com/example/restate/restate/plan/Item", "deleted", "()Z"⟩ : MethodName)) hown (mvT hZ (wq hw 271 rfl)) (mvT hZ (wq hw 204 rfl)) (notFace_of_selects (args := #[]) (mvT hZ (wq hw 206 rfl))) (mvT hZ (wq hw 206 rfl)) (mvT hZ (wq hw 205 rfl)) (by decide) (backOf (W := 1) (rm_del10 l Z a0 hw [] y la T5.heap n0 Z6 F_label_y F_printed_y) hZ (wq hw 207 rfl) (wq hw 67 rfl) (by decide) (by decide)) q8a q8c (g := (mkF m 35 #[.val (.ref a), .val (.int q), .val (.int (0 : Int32)), .val (.ref r2), .val (.ref y)] [(.ref y), (.int (0 : Int32))])) rfl (by rw [hml]; rfl) (Steps.refl _) (argsL := []) (rest := [(.int (0 : Int32))]) (lenOf pd__28_29Z rfl) rfl (by show 2 * 0 + _ ≤ _; exact Nat.le_of_eq rfl) (hb hby d31_35) (fun _ _ => ⟨rfl, e7, (by decide : 1 + 0 ≤ _), (by decide : 4 + 0 ≤ _)⟩)
  dsimp only [Pt.U, Pt.locs, Pt.cells, Pt.slots] at X8 l8 y8 z8 st8 hQ8
  subst l8 y8 z8
  obtain ⟨rfl, N8q, HQ8⟩ := hQ8
  have N8 := Fr.app N5 N8q
  refine Goes.pre (U' := T8.setTop (mkF m 38 #[.val (.ref a), .val (.int q), .val (.int (0 : Int32)), .val (.ref r2), .val (.ref y)] [(.int (1 : Int32)), (.int (0 : Int32))])) (fun t k => st8.trans k) ?_
  have hc38 : ¬ ((1 : Int32) = (0 : Int32)) := by decide
  refine Goes.pre (U' := T8.setTop (mkF m 43 #[.val (.ref a), .val (.int q), .val (.int (0 : Int32)), .val (.ref r2), .val (.ref y)] [(.ref y), (.int (0 : Int32))])) (fun t k => XS.ifNo X8.here hx rfl (hb hby d31_38) rfl ((if0 _ _).trans (feq hc38).1) (XS.aload X8.here hx rfl (hb hby d31_41) rfl rfl k)) ?_
  obtain ⟨T9, X9, e9, st9⟩ := getF X8 hx hZ hown (host := "") (Or.inl (wq hw 105 rfl)) Via.refl HQ8 F_start_y (g := (mkF m 43 #[.val (.ref a), .val (.int q), .val (.int (0 : Int32)), .val (.ref r2), .val (.ref y)] [(.ref y), (.int (0 : Int32))])) rfl rfl (hb hby d31_43)
  refine Goes.pre (U' := T9.setTop (mkF m 47 #[.val (.ref a), .val (.int q), .val (.int (0 : Int32)), .val (.ref r2), .val (.ref y)] [(.int q), (.int q), (.int (0 : Int32))])) (fun t k => st9 t (XS.iloadN X9.here hx rfl (hb hby d31_46) rfl k)) ?_
  have hc47 : q = q := rfl
  refine Goes.pre (U' := T9.setTop (mkF m 58 #[.val (.ref a), .val (.int q), .val (.int (0 : Int32)), .val (.ref r2), .val (.ref y)] [(.int q), (.ref y), (.int (1 : Int32)), (.int (0 : Int32))])) (fun t k => XS.icmpNo X9.here hx rfl (hb hby d31_47) rfl (teq hc47).2 (XS.iconst X9.here hx rfl (hb hby d31_50) (XS.goto X9.here hx rfl (pc0 := 51) (pc' := 55) rfl (hb hby d31_51) (by decide) (by decide) (XS.aload X9.here hx rfl (hb hby d31_55) rfl rfl (XS.iloadN X9.here hx rfl (hb hby d31_57) rfl k))))) ?_
  obtain ⟨cq10, kq10, q10a, q10b, q10c⟩ := isOf hZ e9 E_y
  obtain ⟨_, _, ⟨T10, L10, k10, n10⟩, -, X10, ⟨Lc10, hQ10, l10, y10, z10⟩, st10⟩ := X9.virtualBack hx (y := (⟨"com/example/restate/restate/plan/Item", "deletedBefore", "(I)I"⟩ : MethodName)) (z := (⟨"com/example/restate/restate/plan/Item", "deletedBefore", "(I)I"⟩ : MethodName)) hown (mvT hZ (wq hw 272 rfl)) (mvT hZ (wq hw 209 rfl)) (notFace_of_selects (args := #[]) (mvT hZ (wq hw 211 rfl))) (mvT hZ (wq hw 211 rfl)) (mvT hZ (wq hw 210 rfl)) (by decide) (backOf (W := 2) (rm_db0 l Z a0 hw [] y q el ea ke T5.heap n0 Z6 F_children_y E_el F_elements_el V_ea O) hZ (wq hw 212 rfl) (wq hw 67 rfl) (by decide) (by decide)) q10a q10c (g := (mkF m 58 #[.val (.ref a), .val (.int q), .val (.int (0 : Int32)), .val (.ref r2), .val (.ref y)] [(.int q), (.ref y), (.int (1 : Int32)), (.int (0 : Int32))])) rfl (by rw [hml]; rfl) (Steps.refl _) (argsL := [(.int q)]) (rest := [(.int (1 : Int32)), (.int (0 : Int32))]) (lenOf pd__28I_29I rfl) rfl (by show 2 * 0 + _ ≤ _; exact Nat.le_of_eq rfl) (hb hby d31_58) (fun _ _ => ⟨rfl, e9, (by decide : 1 + 1 ≤ _), (by decide : 4 + 4 ≤ _)⟩)
  dsimp only [Pt.U, Pt.locs, Pt.cells, Pt.slots] at X10 l10 y10 z10 st10 hQ10
  subst l10 y10 z10
  obtain ⟨rfl, N10q, KQ10⟩ := hQ10
  have N10 := Fr.app N8 N10q
  have F_children_a := F_children_a.keep KQ10 nin0
  have E_b := E_b.keep KQ10
  have F_e0_b := F_e0_b.keep KQ10 nin0
  have F_e1_b := F_e1_b.keep KQ10 nin0
  have F_label_y := F_label_y.keep KQ10 nin0
  have F_printed_y := F_printed_y.keep KQ10 nin0
  have F_start_y := F_start_y.keep KQ10 nin0
  have F_children_y := F_children_y.keep KQ10 nin0
  have E_y := E_y.keep KQ10
  have E_r2 := E_r2.keep KQ10
  have F_list_r2 := F_list_r2.keep KQ10 nin0
  have F_size_r2 := F_size_r2.keep KQ10 nin0
  have F_cursor_r2 := F_cursor_r2.keep KQ10 nin0
  have Z11 : n0 ≤ T10.heap.size := Nat.le_trans Z6 KQ10.1
  have O := O.keep KQ10 all0
  have K11 := K6.trans KQ10 all0
  refine Goes.pre (U' := T10.setTop (mkF m 62 #[.val (.ref a), .val (.int q), .val (.int (0 : Int32)), .val (.ref r2), .val (.ref y)] [(.int ((1 : Int32) + (0 : Int32))), (.int (0 : Int32))])) (fun t k => st10.trans (XS.iadd X10.here hx rfl (hb hby d31_61) rfl k)) ?_
  rw [(by decide : ((1 : Int32) + (0 : Int32)) = (1 : Int32))]
  refine Goes.pre (U' := T10.setTop (mkF m 63 #[.val (.ref a), .val (.int q), .val (.int (0 : Int32)), .val (.ref r2), .val (.ref y)] [(.int ((0 : Int32) + (1 : Int32)))])) (fun t k => XS.iadd X10.here hx rfl (hb hby d31_62) rfl k) ?_
  rw [(by decide : ((0 : Int32) + (1 : Int32)) = (1 : Int32))]
  refine Goes.pre (U' := T10.setTop (mkF m 13 #[.val (.ref a), .val (.int q), .val (.int (1 : Int32)), .val (.ref r2), .val (.ref y)] [(.ref r2)])) (fun t k => XS.istoreN X10.here hx rfl (hb hby d31_63) rfl (l' := #[.val (.ref a), .val (.int q), .val (.int (1 : Int32)), .val (.ref r2), .val (.ref y)]) rfl (XS.goto X10.here hx rfl (pc0 := 64) (pc' := 12) rfl (hb hby d31_64) (by decide) (by decide) (XS.aloadN X10.here hx rfl (hb hby d31_12) rfl rfl k))) ?_
  obtain ⟨cq12, kq12, q12a, q12b, q12c⟩ := isOf hZ rfl E_r2
  obtain ⟨_, _, ⟨T12, L12, k12, n12⟩, -, X12, ⟨Lc12, hQ12, l12, y12, z12⟩, st12⟩ := X10.interfaceBack hx (xi := (⟨"java/util/Iterator", "hasNext", "()Z"⟩ : MethodName)) (y := (⟨"java/util/ImmutableCollections$ListItr", "hasNext", "()Z"⟩ : MethodName)) hown (mvT hZ (wq hw 244 rfl)) (mvT hZ (wq hw 245 rfl)) (mvT hZ (wq hw 246 rfl)) (mvT hZ (wq hw 247 rfl)) (mvT hZ (wq hw 248 rfl)) (mvT hZ (wq hw 249 rfl)) (mvT hZ (wq hw 250 rfl)) (mvT hZ (wq hw 251 rfl)) (by decide) (backOf (W := 0) (rm_has11 l Z a0 hw [] r2 T10.heap n0 Z11 F_cursor_r2 F_size_r2) hZ (wq hw 252 rfl) (wq hw 224 rfl) (by decide) (by decide)) q12a q12b q12c (g := (mkF m 13 #[.val (.ref a), .val (.int q), .val (.int (1 : Int32)), .val (.ref r2), .val (.ref y)] [(.ref r2)])) rfl (by rw [hml]; rfl) (Steps.refl _) (argsL := []) (rest := []) (lenOf pd__28_29Z rfl) rfl (by show 2 * 0 + _ ≤ _; exact Nat.le_of_eq rfl) (hb hby d31_13) (fun _ _ => ⟨rfl, rfl, (by decide : 2 + 0 ≤ _), (by decide : 8 + 0 ≤ _)⟩)
  dsimp only [Pt.U, Pt.locs, Pt.cells, Pt.slots] at X12 l12 y12 z12 st12 hQ12
  subst l12 y12 z12
  obtain ⟨rfl, N12q, HQ12⟩ := hQ12
  have N12 := Fr.app N10 N12q
  refine Goes.pre (U' := T12.setTop (mkF m 18 #[.val (.ref a), .val (.int q), .val (.int (1 : Int32)), .val (.ref r2), .val (.ref y)] [(.int (0 : Int32))])) (fun t k => st12.trans k) ?_
  have hc18 : (0 : Int32) = (0 : Int32) := rfl
  refine Goes.pre (U' := T12.setTop (mkF m 68 #[.val (.ref a), .val (.int q), .val (.int (1 : Int32)), .val (.ref r2), .val (.ref y)] [(.int (1 : Int32))])) (fun t k => XS.ifYes X12.here hx rfl (pc0 := 18) (pc' := 67) rfl (hb hby d31_18) rfl ((if0 _ _).trans (teq hc18).1) (by decide) (by decide) (XS.iloadN X12.here hx rfl (hb hby d31_67) rfl k)) ?_
  refine Goes.ret X12 (v := (some (.int (1 : Int32)))) (fun h => by rw [hret] at h; cases h) hlk (by decide) (by decide) HQ12 (fun fs hr => retI X12 hx hret (hb hby d31_68) hr) ?_
  exact ⟨rfl, N12, K11⟩
theorem ef_rm_dbP01 (m : MethodId) (x0 : Addr) (x1 : Int32) : entryFrame m #[(.ref x0), (.int x1)] 5 = mkF m 0 #[.val (.ref x0), .val (.int x1), .unset, .unset, .unset] [] := by first | (simp [entryFrame, mkF, argsToLocals, Value.category]; done) | rfl
def Q_rm_dbP01 (Z : State) (a : Addr) (q : Int32) (b : Addr) (y : Addr) (pr : Addr) (em : Addr) (el : Addr) (ea : Addr) (ke : ClassId) (h0 : Heap) (n0 : Nat) (v : Option Value) (h : Heap) (L : List Loc) : Prop := v = some (.int (0 : Int32)) ∧ Fr n0 L ∧ Keep h0 h []
set_option maxRecDepth 65536 in
set_option maxHeartbeats 40000000 in
theorem rm_dbP01 (l : Launch) (Z : State) (a0 : Array Value) (hw : ∀ d ∈ tables_1, d.before a0 Z = true) (ws : List Jvm.Cond) (a : Addr) (q : Int32) (b : Addr) (y : Addr) (pr : Addr) (em : Addr) (el : Addr) (ea : Addr) (ke : ClassId) (h0 : Heap) (n0 : Nat) (Z0 : n0 ≤ h0.size) (F_children_a : Fld Z h0 a "com/example/restate/restate/plan/Item" "children" "Ljava/util/List;" (.ref b)) (E_b : Exa Z h0 b "java/util/ImmutableCollections$List12") (F_e0_b : Fld Z h0 b "java/util/ImmutableCollections$List12" "e0" "Ljava/lang/Object;" (.ref y)) (F_e1_b : Fld Z h0 b "java/util/ImmutableCollections$List12" "e1" "Ljava/lang/Object;" (.ref em)) (S_EMPTY : Sta Z Z.heap "java/util/ImmutableCollections" "EMPTY" "Ljava/lang/Object;" (.ref em)) (E_el : Exa Z Z.heap el "java/util/ImmutableCollections$ListN") (F_elements_el : Fld Z Z.heap el "java/util/ImmutableCollections$ListN" "elements" "[Ljava/lang/Object;" (.ref ea)) (V_ea : Arv Z Z.heap ea ke (.object "java/lang/Object") (0 : Int32) [] .null) (F_label_y : Fld Z h0 y "com/example/restate/restate/plan/Item" "label" "Lcom/example/restate/restate/plan/Label;" .null) (F_printed_y : Fld Z h0 y "com/example/restate/restate/plan/Item" "printed" "Lcom/example/restate/restate/plan/Label;" (.ref pr)) (F_start_y : Fld Z h0 y "com/example/restate/restate/plan/Item" "start" "I" (.int q)) (F_children_y : Fld Z h0 y "com/example/restate/restate/plan/Item" "children" "Ljava/util/List;" (.ref el)) (E_y : Exa Z h0 y "com/example/restate/restate/plan/Item") (O : Old Z n0 h0) :
    Met l Z M31 prog_20_method_5_code 5 (some .int) ws (Rm 4 2 8 57) #[(.ref a), (.int q)] h0 (Q_rm_dbP01 Z a q b y pr em el ea ke h0 n0) := by
  refine met_of (plainFor_of_name pn_com_example_restate_restate_plan_Item) (own := "com/example/restate/restate/plan/Item") rfl (fun m => ef_rm_dbP01 m a q) ?_
  intro p e s m below meth c s₁ hx hby hml hown hnm hZ X0 e0 hret hlk
  have N0 := Fr.nil n0
  have K0 := Keep.refl h0 []
  show Goes p e below s _ _ _ (s₁.setTop (mkF m 0 #[.val (.ref a), .val (.int q), .unset, .unset, .unset] []))
  refine Goes.pre (U' := s₁.setTop (mkF m 3 #[.val (.ref a), .val (.int q), .val (.int (0 : Int32)), .unset, .unset] [(.ref a)])) (fun t k => XS.iconst X0.here hx rfl (hb hby d31_0) (XS.istoreN X0.here hx rfl (hb hby d31_1) rfl (l' := #[.val (.ref a), .val (.int q), .val (.int (0 : Int32)), .unset, .unset]) rfl (XS.aloadN X0.here hx rfl (hb hby d31_2) rfl rfl k))) ?_
  obtain ⟨T1, X1, e1, st1⟩ := getF X0 hx hZ hown (host := "") (Or.inl (wq hw 109 rfl)) Via.refl e0 F_children_a (g := (mkF m 3 #[.val (.ref a), .val (.int q), .val (.int (0 : Int32)), .unset, .unset] [(.ref a)])) rfl rfl (hb hby d31_3)
  refine Goes.pre (U' := T1.setTop (mkF m 6 #[.val (.ref a), .val (.int q), .val (.int (0 : Int32)), .unset, .unset] [(.ref b)])) (fun t k => st1 t k) ?_
  have lt_a := F_children_a.lt
  have lt_b := E_b.lt
  have lt_ea := (V_ea.ext O.2).lt
  have lt_el := (E_el.ext O.2).lt
  have lt_y := F_label_y.lt
  obtain ⟨cq2, kq2, q2a, q2b, q2c⟩ := isOf hZ e1 E_b
  obtain ⟨_, _, ⟨T2, L2, k2, n2⟩, -, X2, ⟨Lc2, hQ2, l2, y2, z2⟩, st2⟩ := X1.interfaceBack hx (xi := (⟨"java/util/List", "iterator", "()Ljava/util/Iterator;"⟩ : MethodName)) (y := (⟨"java/util/ImmutableCollections$AbstractImmutableList", "iterator", "()Ljava/util/Iterator;"⟩ : MethodName)) hown (mvT hZ (wq hw 213 rfl)) (mvT hZ (wq hw 214 rfl)) (mvT hZ (wq hw 215 rfl)) (mvT hZ (wq hw 216 rfl)) (mvT hZ (wq hw 217 rfl)) (mvT hZ (wq hw 218 rfl)) (mvT hZ (wq hw 219 rfl)) (mvT hZ (wq hw 220 rfl)) (by decide) (backOf (W := 0) (rm_iter1 l Z a0 hw [] b em h0 n0 Z0 E_b F_e1_b S_EMPTY O) hZ (wq hw 221 rfl) (wq hw 184 rfl) (by decide) (by decide)) q2a q2b q2c (g := (mkF m 6 #[.val (.ref a), .val (.int q), .val (.int (0 : Int32)), .unset, .unset] [(.ref b)])) rfl (by rw [hml]; rfl) (Steps.refl _) (argsL := []) (rest := []) (lenOf pd__28_29Ljava_2futil_2fIterator_3b rfl) rfl (by show 2 * 0 + _ ≤ _; exact Nat.le_of_eq rfl) (hb hby d31_6) (fun _ _ => ⟨rfl, e1, (by decide : 0 + 1 ≤ _), (by decide : 0 + 4 ≤ _)⟩)
  dsimp only [Pt.U, Pt.locs, Pt.cells, Pt.slots] at X2 l2 y2 z2 st2 hQ2
  subst l2 y2 z2
  obtain ⟨r2, rfl, N2q, KQ2, fo0_2, fo1_2, fo2_2, fo3_2, g_r2, sl_r2⟩ := hQ2
  have N2 := Fr.app N0 N2q
  have F_children_a := F_children_a.keep KQ2 nin0
  have E_b := E_b.keep KQ2
  have F_e0_b := F_e0_b.keep KQ2 nin0
  have F_e1_b := F_e1_b.keep KQ2 nin0
  have F_label_y := F_label_y.keep KQ2 nin0
  have F_printed_y := F_printed_y.keep KQ2 nin0
  have F_start_y := F_start_y.keep KQ2 nin0
  have F_children_y := F_children_y.keep KQ2 nin0
  have E_y := E_y.keep KQ2
  have Z3 : n0 ≤ T2.heap.size := Nat.le_trans Z0 KQ2.1
  have O := O.keep KQ2 all0
  have K3 := K0.trans KQ2 all0
  have ne_a_r2 : a ≠ r2 := Nat.ne_of_lt (Nat.lt_of_lt_of_le lt_a sl_r2)
  have ne_r2_a := ne_a_r2.symm
  have ne_b_r2 : b ≠ r2 := Nat.ne_of_lt (Nat.lt_of_lt_of_le lt_b sl_r2)
  have ne_r2_b := ne_b_r2.symm
  have ne_ea_r2 : ea ≠ r2 := Nat.ne_of_lt (Nat.lt_of_lt_of_le lt_ea sl_r2)
  have ne_r2_ea := ne_ea_r2.symm
  have ne_el_r2 : el ≠ r2 := Nat.ne_of_lt (Nat.lt_of_lt_of_le lt_el sl_r2)
  have ne_r2_el := ne_el_r2.symm
  have ne_y_r2 : y ≠ r2 := Nat.ne_of_lt (Nat.lt_of_lt_of_le lt_y sl_r2)
  have ne_r2_y := ne_y_r2.symm
  have sz_r2 : h0.size ≤ r2 := Nat.le_trans K0.1 sl_r2
  have E_r2 := fo0_2
  have F_list_r2 := fo1_2
  have F_size_r2 := fo2_2
  have F_cursor_r2 := fo3_2
  refine Goes.pre (U' := T2.setTop (mkF m 13 #[.val (.ref a), .val (.int q), .val (.int (0 : Int32)), .val (.ref r2), .unset] [(.ref r2)])) (fun t k => st2.trans (XS.astoreN X2.here hx rfl (hb hby d31_11) rfl rfl (l' := #[.val (.ref a), .val (.int q), .val (.int (0 : Int32)), .val (.ref r2), .unset]) rfl (XS.aloadN X2.here hx rfl (hb hby d31_12) rfl rfl k))) ?_
  obtain ⟨cq4, kq4, q4a, q4b, q4c⟩ := isOf hZ rfl E_r2
  obtain ⟨_, _, ⟨T4, L4, k4, n4⟩, -, X4, ⟨Lc4, hQ4, l4, y4, z4⟩, st4⟩ := X2.interfaceBack hx (xi := (⟨"java/util/Iterator", "hasNext", "()Z"⟩ : MethodName)) (y := (⟨"java/util/ImmutableCollections$ListItr", "hasNext", "()Z"⟩ : MethodName)) hown (mvT hZ (wq hw 244 rfl)) (mvT hZ (wq hw 245 rfl)) (mvT hZ (wq hw 246 rfl)) (mvT hZ (wq hw 247 rfl)) (mvT hZ (wq hw 248 rfl)) (mvT hZ (wq hw 249 rfl)) (mvT hZ (wq hw 250 rfl)) (mvT hZ (wq hw 251 rfl)) (by decide) (backOf (W := 0) (rm_has10 l Z a0 hw [] r2 T2.heap n0 Z3 F_cursor_r2 F_size_r2) hZ (wq hw 252 rfl) (wq hw 224 rfl) (by decide) (by decide)) q4a q4b q4c (g := (mkF m 13 #[.val (.ref a), .val (.int q), .val (.int (0 : Int32)), .val (.ref r2), .unset] [(.ref r2)])) rfl (by rw [hml]; rfl) (Steps.refl _) (argsL := []) (rest := []) (lenOf pd__28_29Z rfl) rfl (by show 2 * 0 + _ ≤ _; exact Nat.le_of_eq rfl) (hb hby d31_13) (fun _ _ => ⟨rfl, rfl, (by decide : 1 + 0 ≤ _), (by decide : 4 + 0 ≤ _)⟩)
  dsimp only [Pt.U, Pt.locs, Pt.cells, Pt.slots] at X4 l4 y4 z4 st4 hQ4
  subst l4 y4 z4
  obtain ⟨rfl, N4q, HQ4⟩ := hQ4
  have N4 := Fr.app N2 N4q
  refine Goes.pre (U' := T4.setTop (mkF m 18 #[.val (.ref a), .val (.int q), .val (.int (0 : Int32)), .val (.ref r2), .unset] [(.int (1 : Int32))])) (fun t k => st4.trans k) ?_
  have hc18 : ¬ ((1 : Int32) = (0 : Int32)) := by decide
  refine Goes.pre (U' := T4.setTop (mkF m 22 #[.val (.ref a), .val (.int q), .val (.int (0 : Int32)), .val (.ref r2), .unset] [(.ref r2)])) (fun t k => XS.ifNo X4.here hx rfl (hb hby d31_18) rfl ((if0 _ _).trans (feq hc18).1) (XS.aloadN X4.here hx rfl (hb hby d31_21) rfl rfl k)) ?_
  obtain ⟨cq5, kq5, q5a, q5b, q5c⟩ := isOf hZ HQ4 E_r2
  obtain ⟨_, _, ⟨T5, L5, k5, n5⟩, -, X5, ⟨Lc5, hQ5, l5, y5, z5⟩, st5⟩ := X4.interfaceBack hx (xi := (⟨"java/util/Iterator", "next", "()Ljava/lang/Object;"⟩ : MethodName)) (y := (⟨"java/util/ImmutableCollections$ListItr", "next", "()Ljava/lang/Object;"⟩ : MethodName)) hown (mvT hZ (wq hw 253 rfl)) (mvT hZ (wq hw 254 rfl)) (mvT hZ (wq hw 255 rfl)) (mvT hZ (wq hw 256 rfl)) (mvT hZ (wq hw 257 rfl)) (mvT hZ (wq hw 258 rfl)) (mvT hZ (wq hw 259 rfl)) (mvT hZ (wq hw 251 rfl)) (by decide) (backOfWith (W := 0) (rm_next l Z a0 hw [] r2 b y T2.heap n0 Z3 E_r2 E_b F_e0_b F_list_r2 F_size_r2 F_cursor_r2 ne_b_r2 g_r2) hZ (wq hw 260 rfl) (wq hw 224 rfl) (by decide) (by decide)) q5a q5b q5c (g := (mkF m 22 #[.val (.ref a), .val (.int q), .val (.int (0 : Int32)), .val (.ref r2), .unset] [(.ref r2)])) rfl (by rw [hml]; rfl) (Steps.refl _) (argsL := []) (rest := []) (lenOf pd__28_29Ljava_2flang_2fObject_3b rfl) rfl (by show 2 * 0 + _ ≤ _; exact Nat.le_of_eq rfl) (hb hby d31_22) (fun _ _ => ⟨rfl, HQ4, (by decide : 1 + 0 ≤ _), (by decide : 4 + 0 ≤ _)⟩)
  dsimp only [Pt.U, Pt.locs, Pt.cells, Pt.slots] at X5 l5 y5 z5 st5 hQ5
  subst l5 y5 z5
  obtain ⟨rfl, N5q, KQ5, fo0_5, fo1_5, fo2_5⟩ := hQ5
  have N5 := Fr.app N4 N5q
  have F_children_a := F_children_a.keep KQ5 (ninS ne_a_r2 nin0)
  have E_b := E_b.keep KQ5
  have F_e0_b := F_e0_b.keep KQ5 (ninS ne_b_r2 nin0)
  have F_e1_b := F_e1_b.keep KQ5 (ninS ne_b_r2 nin0)
  have F_label_y := F_label_y.keep KQ5 (ninS ne_y_r2 nin0)
  have F_printed_y := F_printed_y.keep KQ5 (ninS ne_y_r2 nin0)
  have F_start_y := F_start_y.keep KQ5 (ninS ne_y_r2 nin0)
  have F_children_y := F_children_y.keep KQ5 (ninS ne_y_r2 nin0)
  have E_y := E_y.keep KQ5
  have E_r2 := E_r2.keep KQ5
  have Z6 : n0 ≤ T5.heap.size := Nat.le_trans Z3 KQ5.1
  have O := O.keep KQ5 (allS (P := fun x => n0 ≤ x) g_r2 all0)
  have K6 := K3.trans KQ5 (allS (P := fun x => x ∈ [] ∨ h0.size ≤ x) (Or.inr sz_r2) all0)
  have F_list_r2 := fo0_5
  have F_size_r2 := fo1_5
  have F_cursor_r2 := fo2_5
  refine Goes.pre (U' := T5.setTop (mkF m 27 #[.val (.ref a), .val (.int q), .val (.int (0 : Int32)), .val (.ref r2), .unset] [(.ref y)])) (fun t k => st5.trans k) ?_
  obtain ⟨T7, X7, e7, st7⟩ := castY X5 hx hZ hown (wq hw 269 rfl) rfl (Ins.self E_y) (g := (mkF m 27 #[.val (.ref a), .val (.int q), .val (.int (0 : Int32)), .val (.ref r2), .unset] [(.ref y)])) rfl rfl (hb hby d31_27)
  refine Goes.pre (U' := T7.setTop (mkF m 35 #[.val (.ref a), .val (.int q), .val (.int (0 : Int32)), .val (.ref r2), .val (.ref y)] [(.ref y), (.int (0 : Int32))])) (fun t k => st7 t (XS.astore X7.here hx rfl (hb hby d31_30) rfl rfl (l' := #[.val (.ref a), .val (.int q), .val (.int (0 : Int32)), .val (.ref r2), .val (.ref y)]) rfl (XS.iloadN X7.here hx rfl (hb hby d31_32) rfl (XS.aload X7.here hx rfl (hb hby d31_33) rfl rfl k)))) ?_
  obtain ⟨cq8, kq8, q8a, q8b, q8c⟩ := isOf hZ e7 E_y
  obtain ⟨_, _, ⟨T8, L8, k8, n8⟩, -, X8, ⟨Lc8, hQ8, l8, y8, z8⟩, st8⟩ := X7.virtualBack hx (y := (⟨"com/example/restate/restate/plan/Item", "deleted", "()Z"⟩ : MethodName)) (z := (⟨"com/example/restate/restate/plan/Item", "deleted", "()Z"⟩ : MethodName)) hown (mvT hZ (wq hw 271 rfl)) (mvT hZ (wq hw 204 rfl)) (notFace_of_selects (args := #[]) (mvT hZ (wq hw 206 rfl))) (mvT hZ (wq hw 206 rfl)) (mvT hZ (wq hw 205 rfl)) (by decide) (backOf (W := 1) (rm_del01 l Z a0 hw [] y pr T5.heap n0 Z6 F_label_y F_printed_y) hZ (wq hw 207 rfl) (wq hw 67 rfl) (by decide) (by decide)) q8a q8c (g := (mkF m 35 #[.val (.ref a), .val (.int q), .val (.int (0 : Int32)), .val (.ref r2), .val (.ref y)] [(.ref y), (.int (0 : Int32))])) rfl (by rw [hml]; rfl) (Steps.refl _) (argsL := []) (rest := [(.int (0 : Int32))]) (lenOf pd__28_29Z rfl) rfl (by show 2 * 0 + _ ≤ _; exact Nat.le_of_eq rfl) (hb hby d31_35) (fun _ _ => ⟨rfl, e7, (by decide : 1 + 0 ≤ _), (by decide : 4 + 0 ≤ _)⟩)
  dsimp only [Pt.U, Pt.locs, Pt.cells, Pt.slots] at X8 l8 y8 z8 st8 hQ8
  subst l8 y8 z8
  obtain ⟨rfl, N8q, HQ8⟩ := hQ8
  have N8 := Fr.app N5 N8q
  refine Goes.pre (U' := T8.setTop (mkF m 38 #[.val (.ref a), .val (.int q), .val (.int (0 : Int32)), .val (.ref r2), .val (.ref y)] [(.int (0 : Int32)), (.int (0 : Int32))])) (fun t k => st8.trans k) ?_
  have hc38 : (0 : Int32) = (0 : Int32) := rfl
  refine Goes.pre (U' := T8.setTop (mkF m 58 #[.val (.ref a), .val (.int q), .val (.int (0 : Int32)), .val (.ref r2), .val (.ref y)] [(.int q), (.ref y), (.int (0 : Int32)), (.int (0 : Int32))])) (fun t k => XS.ifYes X8.here hx rfl (pc0 := 38) (pc' := 54) rfl (hb hby d31_38) rfl ((if0 _ _).trans (teq hc38).1) (by decide) (by decide) (XS.iconst X8.here hx rfl (hb hby d31_54) (XS.aload X8.here hx rfl (hb hby d31_55) rfl rfl (XS.iloadN X8.here hx rfl (hb hby d31_57) rfl k)))) ?_
  obtain ⟨cq9, kq9, q9a, q9b, q9c⟩ := isOf hZ HQ8 E_y
  obtain ⟨_, _, ⟨T9, L9, k9, n9⟩, -, X9, ⟨Lc9, hQ9, l9, y9, z9⟩, st9⟩ := X8.virtualBack hx (y := (⟨"com/example/restate/restate/plan/Item", "deletedBefore", "(I)I"⟩ : MethodName)) (z := (⟨"com/example/restate/restate/plan/Item", "deletedBefore", "(I)I"⟩ : MethodName)) hown (mvT hZ (wq hw 272 rfl)) (mvT hZ (wq hw 209 rfl)) (notFace_of_selects (args := #[]) (mvT hZ (wq hw 211 rfl))) (mvT hZ (wq hw 211 rfl)) (mvT hZ (wq hw 210 rfl)) (by decide) (backOf (W := 2) (rm_db0 l Z a0 hw [] y q el ea ke T5.heap n0 Z6 F_children_y E_el F_elements_el V_ea O) hZ (wq hw 212 rfl) (wq hw 67 rfl) (by decide) (by decide)) q9a q9c (g := (mkF m 58 #[.val (.ref a), .val (.int q), .val (.int (0 : Int32)), .val (.ref r2), .val (.ref y)] [(.int q), (.ref y), (.int (0 : Int32)), (.int (0 : Int32))])) rfl (by rw [hml]; rfl) (Steps.refl _) (argsL := [(.int q)]) (rest := [(.int (0 : Int32)), (.int (0 : Int32))]) (lenOf pd__28I_29I rfl) rfl (by show 2 * 0 + _ ≤ _; exact Nat.le_of_eq rfl) (hb hby d31_58) (fun _ _ => ⟨rfl, HQ8, (by decide : 1 + 1 ≤ _), (by decide : 4 + 4 ≤ _)⟩)
  dsimp only [Pt.U, Pt.locs, Pt.cells, Pt.slots] at X9 l9 y9 z9 st9 hQ9
  subst l9 y9 z9
  obtain ⟨rfl, N9q, KQ9⟩ := hQ9
  have N9 := Fr.app N8 N9q
  have F_children_a := F_children_a.keep KQ9 nin0
  have E_b := E_b.keep KQ9
  have F_e0_b := F_e0_b.keep KQ9 nin0
  have F_e1_b := F_e1_b.keep KQ9 nin0
  have F_label_y := F_label_y.keep KQ9 nin0
  have F_printed_y := F_printed_y.keep KQ9 nin0
  have F_start_y := F_start_y.keep KQ9 nin0
  have F_children_y := F_children_y.keep KQ9 nin0
  have E_y := E_y.keep KQ9
  have E_r2 := E_r2.keep KQ9
  have F_list_r2 := F_list_r2.keep KQ9 nin0
  have F_size_r2 := F_size_r2.keep KQ9 nin0
  have F_cursor_r2 := F_cursor_r2.keep KQ9 nin0
  have Z10 : n0 ≤ T9.heap.size := Nat.le_trans Z6 KQ9.1
  have O := O.keep KQ9 all0
  have K10 := K6.trans KQ9 all0
  refine Goes.pre (U' := T9.setTop (mkF m 62 #[.val (.ref a), .val (.int q), .val (.int (0 : Int32)), .val (.ref r2), .val (.ref y)] [(.int ((0 : Int32) + (0 : Int32))), (.int (0 : Int32))])) (fun t k => st9.trans (XS.iadd X9.here hx rfl (hb hby d31_61) rfl k)) ?_
  rw [(by decide : ((0 : Int32) + (0 : Int32)) = (0 : Int32))]
  refine Goes.pre (U' := T9.setTop (mkF m 63 #[.val (.ref a), .val (.int q), .val (.int (0 : Int32)), .val (.ref r2), .val (.ref y)] [(.int ((0 : Int32) + (0 : Int32)))])) (fun t k => XS.iadd X9.here hx rfl (hb hby d31_62) rfl k) ?_
  rw [(by decide : ((0 : Int32) + (0 : Int32)) = (0 : Int32))]
  refine Goes.pre (U' := T9.setTop (mkF m 13 #[.val (.ref a), .val (.int q), .val (.int (0 : Int32)), .val (.ref r2), .val (.ref y)] [(.ref r2)])) (fun t k => XS.istoreN X9.here hx rfl (hb hby d31_63) rfl (l' := #[.val (.ref a), .val (.int q), .val (.int (0 : Int32)), .val (.ref r2), .val (.ref y)]) rfl (XS.goto X9.here hx rfl (pc0 := 64) (pc' := 12) rfl (hb hby d31_64) (by decide) (by decide) (XS.aloadN X9.here hx rfl (hb hby d31_12) rfl rfl k))) ?_
  obtain ⟨cq11, kq11, q11a, q11b, q11c⟩ := isOf hZ rfl E_r2
  obtain ⟨_, _, ⟨T11, L11, k11, n11⟩, -, X11, ⟨Lc11, hQ11, l11, y11, z11⟩, st11⟩ := X9.interfaceBack hx (xi := (⟨"java/util/Iterator", "hasNext", "()Z"⟩ : MethodName)) (y := (⟨"java/util/ImmutableCollections$ListItr", "hasNext", "()Z"⟩ : MethodName)) hown (mvT hZ (wq hw 244 rfl)) (mvT hZ (wq hw 245 rfl)) (mvT hZ (wq hw 246 rfl)) (mvT hZ (wq hw 247 rfl)) (mvT hZ (wq hw 248 rfl)) (mvT hZ (wq hw 249 rfl)) (mvT hZ (wq hw 250 rfl)) (mvT hZ (wq hw 251 rfl)) (by decide) (backOf (W := 0) (rm_has11 l Z a0 hw [] r2 T9.heap n0 Z10 F_cursor_r2 F_size_r2) hZ (wq hw 252 rfl) (wq hw 224 rfl) (by decide) (by decide)) q11a q11b q11c (g := (mkF m 13 #[.val (.ref a), .val (.int q), .val (.int (0 : Int32)), .val (.ref r2), .val (.ref y)] [(.ref r2)])) rfl (by rw [hml]; rfl) (Steps.refl _) (argsL := []) (rest := []) (lenOf pd__28_29Z rfl) rfl (by show 2 * 0 + _ ≤ _; exact Nat.le_of_eq rfl) (hb hby d31_13) (fun _ _ => ⟨rfl, rfl, (by decide : 2 + 0 ≤ _), (by decide : 8 + 0 ≤ _)⟩)
  dsimp only [Pt.U, Pt.locs, Pt.cells, Pt.slots] at X11 l11 y11 z11 st11 hQ11
  subst l11 y11 z11
  obtain ⟨rfl, N11q, HQ11⟩ := hQ11
  have N11 := Fr.app N9 N11q
  refine Goes.pre (U' := T11.setTop (mkF m 18 #[.val (.ref a), .val (.int q), .val (.int (0 : Int32)), .val (.ref r2), .val (.ref y)] [(.int (0 : Int32))])) (fun t k => st11.trans k) ?_
  have hc18 : (0 : Int32) = (0 : Int32) := rfl
  refine Goes.pre (U' := T11.setTop (mkF m 68 #[.val (.ref a), .val (.int q), .val (.int (0 : Int32)), .val (.ref r2), .val (.ref y)] [(.int (0 : Int32))])) (fun t k => XS.ifYes X11.here hx rfl (pc0 := 18) (pc' := 67) rfl (hb hby d31_18) rfl ((if0 _ _).trans (teq hc18).1) (by decide) (by decide) (XS.iloadN X11.here hx rfl (hb hby d31_67) rfl k)) ?_
  refine Goes.ret X11 (v := (some (.int (0 : Int32)))) (fun h => by rw [hret] at h; cases h) hlk (by decide) (by decide) HQ11 (fun fs hr => retI X11 hx hret (hb hby d31_68) hr) ?_
  exact ⟨rfl, N11, K10⟩
theorem own_lt255 (x : Int32) : ¬ ((255 : Int32) < (x &&& (255 : Int32)).toUInt32.toUInt16.toUInt32.toInt32) := by
  have h1 := c_i2c (x &&& 255)
  have h2 := c_and x 255 (by decide)
  have h3 : (255 : Int32).toInt = 255 := by decide
  rw [Int32.lt_iff_toInt_lt]
  omega
theorem ef_rm0 (m : MethodId) (x0 : Int32) (x1 : Int32) (x2 : Int32) (x3 : Int32) (x4 : Int32) : entryFrame m #[(.int x0), (.int x1), (.int x2), (.int x3), (.int x4)] maxLocals = mkF m 0 #[.val (.int x0), .val (.int x1), .val (.int x2), .val (.int x3), .val (.int x4), .unset, .unset, .unset, .unset, .unset, .unset, .unset, .unset, .unset, .unset] [] := by first | (simp [entryFrame, mkF, argsToLocals, Value.category, maxLocals]; done) | rfl
theorem pn_com_example_restate_restate_plan_ItemDeletedPinLaw : plainName "com/example/restate/restate/plan/ItemDeletedPinLaw" = true := by first | (simp [plainName, overriddenIn]; done) | decide +kernel
theorem pd__28C_29Ljava_2flang_2fString_3b : parseMethodDescriptor "(C)Ljava/lang/String;" = some ⟨[.char], some (.object "java/lang/String")⟩ := by decide +kernel
theorem pd__28Ljava_2flang_2fString_3b_29V : parseMethodDescriptor "(Ljava/lang/String;)V" = some ⟨[(.object "java/lang/String")], none⟩ := by decide +kernel
theorem pd__28Lcom_2fexample_2frestate_2frestate_2fplan_2fLabel_3bLcom_2fexample_2frestate_2frestate_2fplan_2fLabel_3bIILjava_2futil_2fList_3b_29V : parseMethodDescriptor "(Lcom/example/restate/restate/plan/Label;Lcom/example/restate/restate/plan/Label;IILjava/util/List;)V" = some ⟨[(.object "com/example/restate/restate/plan/Label"), (.object "com/example/restate/restate/plan/Label"), .int, .int, (.object "java/util/List")], none⟩ := by decide +kernel
theorem pd__28Ljava_2flang_2fObject_3b_29Z : parseMethodDescriptor "(Ljava/lang/Object;)Z" = some ⟨[(.object "java/lang/Object")], some .boolean⟩ := by decide +kernel
def Q_rm0 (Z : State) (p1 p2 p3 p4 p5 : Int32) (cs : Int32) (dce : Addr) (kd : ClassId) (el : Addr) (ea : Addr) (ke : ClassId) (em : Addr) (mr : Addr) (h0 : Heap) (n0 : Nat) (v : Option Value) (h : Heap) (L : List Loc) : Prop := v = some (.int 1) ∧ Fr n0 L
set_option maxRecDepth 65536 in
set_option maxHeartbeats 40000000 in
theorem rm0 (l : Launch) (Z : State) (a0 : Array Value) (hw : ∀ d ∈ tables_1, d.before a0 Z = true) (ws : List Jvm.Cond) (p1 p2 p3 p4 p5 : Int32) (cs : Int32) (dce : Addr) (kd : ClassId) (el : Addr) (ea : Addr) (ke : ClassId) (em : Addr) (mr : Addr) (h0 : Heap) (n0 : Nat) (Z0 : n0 ≤ h0.size) (S_COMPACT_STRINGS : Sta Z Z.heap "java/lang/String" "COMPACT_STRINGS" "Z" (.int cs)) (S_DEFAULTCAPACITY_EMPTY_ELEMENTDATA : Sta Z Z.heap "java/util/ArrayList" "DEFAULTCAPACITY_EMPTY_ELEMENTDATA" "[Ljava/lang/Object;" (.ref dce)) (S_EMPTY_LIST : Sta Z Z.heap "java/util/ImmutableCollections" "EMPTY_LIST" "Ljava/util/ImmutableCollections$ListN;" (.ref el)) (S_EMPTY : Sta Z Z.heap "java/util/ImmutableCollections" "EMPTY" "Ljava/lang/Object;" (.ref em)) (M__Ljava_lang_Object_ : OwnMir Z "[Ljava/lang/Object;" mr) (V_dce : Arv Z Z.heap dce kd (.object "java/lang/Object") (0 : Int32) [] .null) (E_el : Exa Z Z.heap el "java/util/ImmutableCollections$ListN") (F_elements_el : Fld Z Z.heap el "java/util/ImmutableCollections$ListN" "elements" "[Ljava/lang/Object;" (.ref ea)) (V_ea : Arv Z Z.heap ea ke (.object "java/lang/Object") (0 : Int32) [] .null) (hcs : ¬ (cs = (0 : Int32))) (O : Old Z n0 h0) :
    Met l Z x code maxLocals ret ws room_1 #[(.int p1), (.int p2), (.int p3), (.int p4), (.int p5)] h0 (Q_rm0 Z p1 p2 p3 p4 p5 cs dce kd el ea ke em mr h0 n0) := by
  refine met_of (plainFor_of_name pn_com_example_restate_restate_plan_ItemDeletedPinLaw) (own := "com/example/restate/restate/plan/ItemDeletedPinLaw") rfl (fun m => ef_rm0 m p1 p2 p3 p4 p5) ?_
  intro p e s m below meth c s₁ hx hby hml hown hnm hZ X0 e0 hret hlk
  have hml : c.maxLocals = 15 := hml
  have N0 := Fr.nil n0
  show Goes p e below s _ _ _ (s₁.setTop (mkF m 0 #[.val (.int p1), .val (.int p2), .val (.int p3), .val (.int p4), .val (.int p5), .unset, .unset, .unset, .unset, .unset, .unset, .unset, .unset, .unset, .unset] []))
  refine Goes.pre (U' := s₁.setTop (mkF m 8 #[.val (.int p1), .val (.int p2), .val (.int p3), .val (.int p4), .val (.int p5), .val (.int ((p1 &&& (2147483647 : Int32)) % (5 : Int32))), .unset, .unset, .unset, .unset, .unset, .unset, .unset, .unset, .unset] [])) (fun t k => XS.iloadN X0.here hx rfl (hb hby at_0) rfl (X0.ldcInt hx hown (mvT hZ (wq hw 0 rfl)) (g := (mkF m 1 #[.val (.int p1), .val (.int p2), .val (.int p3), .val (.int p4), .val (.int p5), .unset, .unset, .unset, .unset, .unset, .unset, .unset, .unset, .unset, .unset] [(.int p1)])) rfl (hb hby at_1) _ (XS.iand X0.here hx rfl (hb hby at_3) rfl (XS.iconst X0.here hx rfl (hb hby at_4) (Jvm.RoadKit.iremM X0 hx rfl (hb hby at_5) rfl (by decide) (XS.istore X0.here hx rfl (hb hby at_6) rfl (l' := #[.val (.int p1), .val (.int p2), .val (.int p3), .val (.int p4), .val (.int p5), .val (.int ((p1 &&& (2147483647 : Int32)) % (5 : Int32))), .unset, .unset, .unset, .unset, .unset, .unset, .unset, .unset, .unset]) rfl k)))))) ?_
  obtain ⟨kk, hkk⟩ : ∃ z : Int32, z = ((p1 &&& (2147483647 : Int32)) % (5 : Int32)) := ⟨_, rfl⟩
  rw [← hkk]
  obtain ⟨T1, h1, X1, e1, E1, A1, D1, -, st1⟩ := newO X0 hx hZ hown (wq hw 1 rfl) (wq hw 2 rfl) (wq hw 3 rfl) e0 (g := (mkF m 8 #[.val (.int p1), .val (.int p2), .val (.int p3), .val (.int p4), .val (.int p5), .val (.int kk), .unset, .unset, .unset, .unset, .unset, .unset, .unset, .unset, .unset] [])) rfl (hb hby at_8) (by decide) (by decide)
  obtain ⟨a, g1⟩ : ∃ z, z = h0.size := ⟨_, rfl⟩
  rw [← g1] at A1 D1 st1
  have ne_dce_a : dce ≠ a := Nat.ne_of_lt (Nat.lt_of_lt_of_le (V_dce.ext O.2).lt (Nat.le_of_eq g1.symm))
  have ne_a_dce := ne_dce_a.symm
  have ne_ea_a : ea ≠ a := Nat.ne_of_lt (Nat.lt_of_lt_of_le (V_ea.ext O.2).lt (Nat.le_of_eq g1.symm))
  have ne_a_ea := ne_ea_a.symm
  have ne_el_a : el ≠ a := Nat.ne_of_lt (Nat.lt_of_lt_of_le (E_el.ext O.2).lt (Nat.le_of_eq g1.symm))
  have ne_a_el := ne_el_a.symm
  have g_a : n0 ≤ a := Nat.le_trans Z0 (Nat.le_of_eq g1.symm)
  have O := O.ext E1
  have Z1 : n0 ≤ h1.size := Nat.le_trans Z0 E1.1
  have E_a := A1
  have F_text_a : Fld Z h1 a "com/example/restate/restate/plan/Label" "text" "Ljava/lang/String;" .null := D1 (Or.inr (wq hw 40 rfl)) (ty := (.object "java/lang/String")) (by decide)
  refine Goes.pre (U' := T1.setTop (mkF m 18 #[.val (.int p1), .val (.int p2), .val (.int p3), .val (.int p4), .val (.int p5), .val (.int kk), .unset, .unset, .unset, .unset, .unset, .unset, .unset, .unset, .unset] [(.int ((p2 &&& (255 : Int32)).toUInt32.toUInt16.toUInt32.toInt32)), (.ref a), (.ref a)])) (fun t k => st1 t (XS.dup X1.here hx rfl (hb hby at_11) rfl rfl (XS.iloadN X1.here hx rfl (hb hby at_12) rfl (XS.sipush X1.here hx rfl (hb hby at_13) (XS.iand X1.here hx rfl (hb hby at_16) rfl (XS.i2c X1.here hx rfl (hb hby at_17) rfl k)))))) ?_
  have lt_a := E_a.lt
  have lt_dce := (V_dce.ext O.2).lt
  have lt_ea := (V_ea.ext O.2).lt
  have lt_el := (E_el.ext O.2).lt
  obtain ⟨_, _, ⟨T2, L2, k2, n2⟩, -, X2, ⟨Lc2, hQ2, l2, y2, z2⟩, st2⟩ := Jvm.LawKit.callS X1 hx (y := (⟨"java/lang/String", "valueOf", "(C)Ljava/lang/String;"⟩ : MethodName)) hown (mvT hZ (wq hw 4 rfl)) (mvT hZ (wq hw 5 rfl)) (mvT hZ (wq hw 6 rfl)) (mvT hZ (wq hw 7 rfl)) (by decide) (backOf (W := 2) (rm_valueOf l Z a0 hw [] ((p2 &&& (255 : Int32)).toUInt32.toUInt16.toUInt32.toInt32) cs h1 n0 Z1 S_COMPACT_STRINGS (own_lt255 _) hcs O) hZ (wq hw 7 rfl) (wq hw 6 rfl) (by decide) (by decide)) (g := (mkF m 18 #[.val (.int p1), .val (.int p2), .val (.int p3), .val (.int p4), .val (.int p5), .val (.int kk), .unset, .unset, .unset, .unset, .unset, .unset, .unset, .unset, .unset] [(.int ((p2 &&& (255 : Int32)).toUInt32.toUInt16.toUInt32.toInt32)), (.ref a), (.ref a)])) rfl (by rw [hml]; rfl) (argsL := [(.int ((p2 &&& (255 : Int32)).toUInt32.toUInt16.toUInt32.toInt32))]) (rest := [(.ref a), (.ref a)]) (lenOf pd__28C_29Ljava_2flang_2fString_3b rfl) rfl (by show 2 * 0 + _ ≤ _; exact Nat.le_of_eq rfl) (hb hby at_18) (fun _ _ => ⟨rfl, e1, (by decide : 1 + 2 ≤ _), (by decide : 1 + 5 ≤ _)⟩)
  dsimp only [Pt.U, Pt.locs, Pt.cells, Pt.slots] at X2 l2 y2 z2 st2 hQ2
  subst l2 y2 z2
  obtain ⟨r2, rfl, N2q, KQ2, fo0_2, g_r2, sl_r2⟩ := hQ2
  have N2 := Fr.app N0 N2q
  have E_a := E_a.keep KQ2
  have F_text_a := F_text_a.keep KQ2 nin0
  have Z3 : n0 ≤ T2.heap.size := Nat.le_trans Z1 KQ2.1
  have O := O.keep KQ2 all0
  have ne_a_r2 : a ≠ r2 := Nat.ne_of_lt (Nat.lt_of_lt_of_le lt_a sl_r2)
  have ne_r2_a := ne_a_r2.symm
  have ne_dce_r2 : dce ≠ r2 := Nat.ne_of_lt (Nat.lt_of_lt_of_le lt_dce sl_r2)
  have ne_r2_dce := ne_dce_r2.symm
  have ne_ea_r2 : ea ≠ r2 := Nat.ne_of_lt (Nat.lt_of_lt_of_le lt_ea sl_r2)
  have ne_r2_ea := ne_ea_r2.symm
  have ne_el_r2 : el ≠ r2 := Nat.ne_of_lt (Nat.lt_of_lt_of_le lt_el sl_r2)
  have ne_r2_el := ne_el_r2.symm
  have E_r2 := fo0_2
  refine Goes.pre (U' := T2.setTop (mkF m 21 #[.val (.int p1), .val (.int p2), .val (.int p3), .val (.int p4), .val (.int p5), .val (.int kk), .unset, .unset, .unset, .unset, .unset, .unset, .unset, .unset, .unset] [(.ref r2), (.ref a), (.ref a)])) (fun t k => st2 t k) ?_
  obtain ⟨_, _, ⟨T4, L4, k4, n4⟩, -, X4, ⟨Lc4, hQ4, l4, y4, z4⟩, st4⟩ := X2.specialBack hx (y := (⟨"com/example/restate/restate/plan/Label", "<init>", "(Ljava/lang/String;)V"⟩ : MethodName)) rfl hown (mvT hZ (wq hw 30 rfl)) (mvT hZ (wq hw 31 rfl)) (mvT hZ (wq hw 32 rfl)) (by decide) (backOf (W := 1) (rm_label l Z a0 hw [] a r2 T2.heap n0 Z3 E_a F_text_a g_a) hZ (wq hw 32 rfl) (wq hw 3 rfl) (by decide) (by decide)) (g := (mkF m 21 #[.val (.int p1), .val (.int p2), .val (.int p3), .val (.int p4), .val (.int p5), .val (.int kk), .unset, .unset, .unset, .unset, .unset, .unset, .unset, .unset, .unset] [(.ref r2), (.ref a), (.ref a)])) rfl (by rw [hml]; rfl) (Steps.refl _) (a := a) (argsL := [(.ref r2)]) (rest := [(.ref a)]) (lenOf pd__28Ljava_2flang_2fString_3b_29V rfl) rfl (by show 2 * 0 + _ ≤ _; exact Nat.le_of_eq rfl) (hb hby at_21) (fun _ _ => ⟨rfl, rfl, (by decide : 3 + 0 ≤ _), (by decide : 6 + 0 ≤ _)⟩)
  dsimp only [Pt.U, Pt.locs, Pt.cells, Pt.slots] at X4 l4 y4 z4 st4 hQ4
  subst l4 y4 z4
  obtain ⟨rfl, N4q, KQ4⟩ := hQ4
  have N4 := Fr.app N2 N4q
  have E_a := E_a.keep KQ4
  have E_r2 := E_r2.keep KQ4
  have Z5 : n0 ≤ T4.heap.size := Nat.le_trans Z3 KQ4.1
  have O := O.keep KQ4 (allS (P := fun x => n0 ≤ x) g_a all0)
  refine Goes.pre (U' := T4.setTop (mkF m 26 #[.val (.int p1), .val (.int p2), .val (.int p3), .val (.int p4), .val (.int p5), .val (.int kk), .val (.ref a), .unset, .unset, .unset, .unset, .unset, .unset, .unset, .unset] [])) (fun t k => st4.trans (XS.astore X4.here hx rfl (hb hby at_24) rfl rfl (l' := #[.val (.int p1), .val (.int p2), .val (.int p3), .val (.int p4), .val (.int p5), .val (.int kk), .val (.ref a), .unset, .unset, .unset, .unset, .unset, .unset, .unset, .unset]) rfl k)) ?_
  obtain ⟨T6, h6, X6, e6, E6, A6, D6, -, st6⟩ := newO X4 hx hZ hown (wq hw 1 rfl) (wq hw 2 rfl) (wq hw 3 rfl) rfl (g := (mkF m 26 #[.val (.int p1), .val (.int p2), .val (.int p3), .val (.int p4), .val (.int p5), .val (.int kk), .val (.ref a), .unset, .unset, .unset, .unset, .unset, .unset, .unset, .unset] [])) rfl (hb hby at_26) (by decide) (by decide)
  obtain ⟨b, g6⟩ : ∃ z, z = T4.heap.size := ⟨_, rfl⟩
  rw [← g6] at A6 D6 st6
  have ne_a_b : a ≠ b := Nat.ne_of_lt (Nat.lt_of_lt_of_le E_a.lt (Nat.le_of_eq g6.symm))
  have ne_b_a := ne_a_b.symm
  have ne_dce_b : dce ≠ b := Nat.ne_of_lt (Nat.lt_of_lt_of_le (V_dce.ext O.2).lt (Nat.le_of_eq g6.symm))
  have ne_b_dce := ne_dce_b.symm
  have ne_ea_b : ea ≠ b := Nat.ne_of_lt (Nat.lt_of_lt_of_le (V_ea.ext O.2).lt (Nat.le_of_eq g6.symm))
  have ne_b_ea := ne_ea_b.symm
  have ne_el_b : el ≠ b := Nat.ne_of_lt (Nat.lt_of_lt_of_le (E_el.ext O.2).lt (Nat.le_of_eq g6.symm))
  have ne_b_el := ne_el_b.symm
  have ne_r2_b : r2 ≠ b := Nat.ne_of_lt (Nat.lt_of_lt_of_le E_r2.lt (Nat.le_of_eq g6.symm))
  have ne_b_r2 := ne_r2_b.symm
  have g_b : n0 ≤ b := Nat.le_trans Z5 (Nat.le_of_eq g6.symm)
  have E_a := E_a.ext E6
  have E_r2 := E_r2.ext E6
  have O := O.ext E6
  have Z6 : n0 ≤ h6.size := Nat.le_trans Z5 E6.1
  have E_b := A6
  have F_text_b : Fld Z h6 b "com/example/restate/restate/plan/Label" "text" "Ljava/lang/String;" .null := D6 (Or.inr (wq hw 40 rfl)) (ty := (.object "java/lang/String")) (by decide)
  refine Goes.pre (U' := T6.setTop (mkF m 36 #[.val (.int p1), .val (.int p2), .val (.int p3), .val (.int p4), .val (.int p5), .val (.int kk), .val (.ref a), .unset, .unset, .unset, .unset, .unset, .unset, .unset, .unset] [(.int ((p3 &&& (255 : Int32)).toUInt32.toUInt16.toUInt32.toInt32)), (.ref b), (.ref b)])) (fun t k => st6 t (XS.dup X6.here hx rfl (hb hby at_29) rfl rfl (XS.iloadN X6.here hx rfl (hb hby at_30) rfl (XS.sipush X6.here hx rfl (hb hby at_31) (XS.iand X6.here hx rfl (hb hby at_34) rfl (XS.i2c X6.here hx rfl (hb hby at_35) rfl k)))))) ?_
  have lt_a := E_a.lt
  have lt_b := E_b.lt
  have lt_dce := (V_dce.ext O.2).lt
  have lt_ea := (V_ea.ext O.2).lt
  have lt_el := (E_el.ext O.2).lt
  have lt_r2 := E_r2.lt
  obtain ⟨_, _, ⟨T7, L7, k7, n7⟩, -, X7, ⟨Lc7, hQ7, l7, y7, z7⟩, st7⟩ := Jvm.LawKit.callS X6 hx (y := (⟨"java/lang/String", "valueOf", "(C)Ljava/lang/String;"⟩ : MethodName)) hown (mvT hZ (wq hw 4 rfl)) (mvT hZ (wq hw 5 rfl)) (mvT hZ (wq hw 6 rfl)) (mvT hZ (wq hw 7 rfl)) (by decide) (backOf (W := 2) (rm_valueOf l Z a0 hw [] ((p3 &&& (255 : Int32)).toUInt32.toUInt16.toUInt32.toInt32) cs h6 n0 Z6 S_COMPACT_STRINGS (own_lt255 _) hcs O) hZ (wq hw 7 rfl) (wq hw 6 rfl) (by decide) (by decide)) (g := (mkF m 36 #[.val (.int p1), .val (.int p2), .val (.int p3), .val (.int p4), .val (.int p5), .val (.int kk), .val (.ref a), .unset, .unset, .unset, .unset, .unset, .unset, .unset, .unset] [(.int ((p3 &&& (255 : Int32)).toUInt32.toUInt16.toUInt32.toInt32)), (.ref b), (.ref b)])) rfl (by rw [hml]; rfl) (argsL := [(.int ((p3 &&& (255 : Int32)).toUInt32.toUInt16.toUInt32.toInt32))]) (rest := [(.ref b), (.ref b)]) (lenOf pd__28C_29Ljava_2flang_2fString_3b rfl) rfl (by show 2 * 0 + _ ≤ _; exact Nat.le_of_eq rfl) (hb hby at_36) (fun _ _ => ⟨rfl, e6, (by decide : 4 + 2 ≤ _), (by decide : 7 + 5 ≤ _)⟩)
  dsimp only [Pt.U, Pt.locs, Pt.cells, Pt.slots] at X7 l7 y7 z7 st7 hQ7
  subst l7 y7 z7
  obtain ⟨r7, rfl, N7q, KQ7, fo0_7, g_r7, sl_r7⟩ := hQ7
  have N7 := Fr.app N4 N7q
  have E_a := E_a.keep KQ7
  have E_r2 := E_r2.keep KQ7
  have E_b := E_b.keep KQ7
  have F_text_b := F_text_b.keep KQ7 nin0
  have Z8 : n0 ≤ T7.heap.size := Nat.le_trans Z6 KQ7.1
  have O := O.keep KQ7 all0
  have ne_a_r7 : a ≠ r7 := Nat.ne_of_lt (Nat.lt_of_lt_of_le lt_a sl_r7)
  have ne_r7_a := ne_a_r7.symm
  have ne_b_r7 : b ≠ r7 := Nat.ne_of_lt (Nat.lt_of_lt_of_le lt_b sl_r7)
  have ne_r7_b := ne_b_r7.symm
  have ne_dce_r7 : dce ≠ r7 := Nat.ne_of_lt (Nat.lt_of_lt_of_le lt_dce sl_r7)
  have ne_r7_dce := ne_dce_r7.symm
  have ne_ea_r7 : ea ≠ r7 := Nat.ne_of_lt (Nat.lt_of_lt_of_le lt_ea sl_r7)
  have ne_r7_ea := ne_ea_r7.symm
  have ne_el_r7 : el ≠ r7 := Nat.ne_of_lt (Nat.lt_of_lt_of_le lt_el sl_r7)
  have ne_r7_el := ne_el_r7.symm
  have ne_r2_r7 : r2 ≠ r7 := Nat.ne_of_lt (Nat.lt_of_lt_of_le lt_r2 sl_r7)
  have ne_r7_r2 := ne_r2_r7.symm
  have E_r7 := fo0_7
  refine Goes.pre (U' := T7.setTop (mkF m 39 #[.val (.int p1), .val (.int p2), .val (.int p3), .val (.int p4), .val (.int p5), .val (.int kk), .val (.ref a), .unset, .unset, .unset, .unset, .unset, .unset, .unset, .unset] [(.ref r7), (.ref b), (.ref b)])) (fun t k => st7 t k) ?_
  obtain ⟨_, _, ⟨T9, L9, k9, n9⟩, -, X9, ⟨Lc9, hQ9, l9, y9, z9⟩, st9⟩ := X7.specialBack hx (y := (⟨"com/example/restate/restate/plan/Label", "<init>", "(Ljava/lang/String;)V"⟩ : MethodName)) rfl hown (mvT hZ (wq hw 30 rfl)) (mvT hZ (wq hw 31 rfl)) (mvT hZ (wq hw 32 rfl)) (by decide) (backOf (W := 1) (rm_label l Z a0 hw [] b r7 T7.heap n0 Z8 E_b F_text_b g_b) hZ (wq hw 32 rfl) (wq hw 3 rfl) (by decide) (by decide)) (g := (mkF m 39 #[.val (.int p1), .val (.int p2), .val (.int p3), .val (.int p4), .val (.int p5), .val (.int kk), .val (.ref a), .unset, .unset, .unset, .unset, .unset, .unset, .unset, .unset] [(.ref r7), (.ref b), (.ref b)])) rfl (by rw [hml]; rfl) (Steps.refl _) (a := b) (argsL := [(.ref r7)]) (rest := [(.ref b)]) (lenOf pd__28Ljava_2flang_2fString_3b_29V rfl) rfl (by show 2 * 0 + _ ≤ _; exact Nat.le_of_eq rfl) (hb hby at_39) (fun _ _ => ⟨rfl, rfl, (by decide : 6 + 0 ≤ _), (by decide : 12 + 0 ≤ _)⟩)
  dsimp only [Pt.U, Pt.locs, Pt.cells, Pt.slots] at X9 l9 y9 z9 st9 hQ9
  subst l9 y9 z9
  obtain ⟨rfl, N9q, KQ9⟩ := hQ9
  have N9 := Fr.app N7 N9q
  have E_a := E_a.keep KQ9
  have E_r2 := E_r2.keep KQ9
  have E_b := E_b.keep KQ9
  have E_r7 := E_r7.keep KQ9
  have Z10 : n0 ≤ T9.heap.size := Nat.le_trans Z8 KQ9.1
  have O := O.keep KQ9 (allS (P := fun x => n0 ≤ x) g_b all0)
  refine Goes.pre (U' := T9.setTop (mkF m 46 #[.val (.int p1), .val (.int p2), .val (.int p3), .val (.int p4), .val (.int p5), .val (.int kk), .val (.ref a), .val (.ref b), .unset, .unset, .unset, .unset, .unset, .unset, .unset] [(.int kk)])) (fun t k => st9.trans (XS.astore X9.here hx rfl (hb hby at_42) rfl rfl (l' := #[.val (.int p1), .val (.int p2), .val (.int p3), .val (.int p4), .val (.int p5), .val (.int kk), .val (.ref a), .val (.ref b), .unset, .unset, .unset, .unset, .unset, .unset, .unset]) rfl (XS.iload X9.here hx rfl (hb hby at_44) rfl k))) ?_
  by_cases hc46 : kk = (0 : Int32)
  ·
    refine Goes.pre (U' := T9.setTop (mkF m 130 #[.val (.int p1), .val (.int p2), .val (.int p3), .val (.int p4), .val (.int p5), .val (.int kk), .val (.ref a), .val (.ref b), .val .null, .val .null, .val (.int (0 : Int32)), .unset, .unset, .unset, .unset] [])) (fun t k => XS.ifNo X9.here hx rfl (hb hby at_46) rfl ((if0 _ _).trans (teq hc46).2) (XS.aconstNull X9.here hx rfl (hb hby at_49) (XS.astore X9.here hx rfl (hb hby at_50) rfl rfl (l' := #[.val (.int p1), .val (.int p2), .val (.int p3), .val (.int p4), .val (.int p5), .val (.int kk), .val (.ref a), .val (.ref b), .val .null, .unset, .unset, .unset, .unset, .unset, .unset]) rfl (XS.aconstNull X9.here hx rfl (hb hby at_52) (XS.astore X9.here hx rfl (hb hby at_53) rfl rfl (l' := #[.val (.int p1), .val (.int p2), .val (.int p3), .val (.int p4), .val (.int p5), .val (.int kk), .val (.ref a), .val (.ref b), .val .null, .val .null, .unset, .unset, .unset, .unset, .unset]) rfl (XS.iconst X9.here hx rfl (hb hby at_55) (XS.istore X9.here hx rfl (hb hby at_56) rfl (l' := #[.val (.int p1), .val (.int p2), .val (.int p3), .val (.int p4), .val (.int p5), .val (.int kk), .val (.ref a), .val (.ref b), .val .null, .val .null, .val (.int (0 : Int32)), .unset, .unset, .unset, .unset]) rfl (XS.goto X9.here hx rfl (pc0 := 58) (pc' := 130) rfl (hb hby at_58) (by decide) (by decide) k)))))))) ?_
    obtain ⟨T11, h11, X11, e11, E11, A11, D11, -, st11⟩ := newO X9 hx hZ hown (wq hw 41 rfl) (wq hw 42 rfl) (wq hw 43 rfl) rfl (g := (mkF m 130 #[.val (.int p1), .val (.int p2), .val (.int p3), .val (.int p4), .val (.int p5), .val (.int kk), .val (.ref a), .val (.ref b), .val .null, .val .null, .val (.int (0 : Int32)), .unset, .unset, .unset, .unset] [])) rfl (hb hby at_130) (by decide) (by decide)
    obtain ⟨li, g11⟩ : ∃ z, z = T9.heap.size := ⟨_, rfl⟩
    rw [← g11] at A11 D11 st11
    have ne_a_li : a ≠ li := Nat.ne_of_lt (Nat.lt_of_lt_of_le E_a.lt (Nat.le_of_eq g11.symm))
    have ne_li_a := ne_a_li.symm
    have ne_b_li : b ≠ li := Nat.ne_of_lt (Nat.lt_of_lt_of_le E_b.lt (Nat.le_of_eq g11.symm))
    have ne_li_b := ne_b_li.symm
    have ne_dce_li : dce ≠ li := Nat.ne_of_lt (Nat.lt_of_lt_of_le (V_dce.ext O.2).lt (Nat.le_of_eq g11.symm))
    have ne_li_dce := ne_dce_li.symm
    have ne_ea_li : ea ≠ li := Nat.ne_of_lt (Nat.lt_of_lt_of_le (V_ea.ext O.2).lt (Nat.le_of_eq g11.symm))
    have ne_li_ea := ne_ea_li.symm
    have ne_el_li : el ≠ li := Nat.ne_of_lt (Nat.lt_of_lt_of_le (E_el.ext O.2).lt (Nat.le_of_eq g11.symm))
    have ne_li_el := ne_el_li.symm
    have ne_r2_li : r2 ≠ li := Nat.ne_of_lt (Nat.lt_of_lt_of_le E_r2.lt (Nat.le_of_eq g11.symm))
    have ne_li_r2 := ne_r2_li.symm
    have ne_r7_li : r7 ≠ li := Nat.ne_of_lt (Nat.lt_of_lt_of_le E_r7.lt (Nat.le_of_eq g11.symm))
    have ne_li_r7 := ne_r7_li.symm
    have g_li : n0 ≤ li := Nat.le_trans Z10 (Nat.le_of_eq g11.symm)
    have E_a := E_a.ext E11
    have E_r2 := E_r2.ext E11
    have E_b := E_b.ext E11
    have E_r7 := E_r7.ext E11
    have O := O.ext E11
    have Z11 : n0 ≤ h11.size := Nat.le_trans Z10 E11.1
    have E_li := A11
    have F_modCount_li : Fld Z h11 li "java/util/AbstractList" "modCount" "I" (.int (0 : Int32)) := D11 (Or.inl (wq hw 61 rfl)) (ty := .int) (by decide)
    have F_elementData_li : Fld Z h11 li "java/util/ArrayList" "elementData" "[Ljava/lang/Object;" .null := D11 (Or.inl (wq hw 64 rfl)) (ty := (.array (.object "java/lang/Object"))) (by decide)
    have F_size_li : Fld Z h11 li "java/util/ArrayList" "size" "I" (.int (0 : Int32)) := D11 (Or.inl (wq hw 96 rfl)) (ty := .int) (by decide)
    refine Goes.pre (U' := T11.setTop (mkF m 134 #[.val (.int p1), .val (.int p2), .val (.int p3), .val (.int p4), .val (.int p5), .val (.int kk), .val (.ref a), .val (.ref b), .val .null, .val .null, .val (.int (0 : Int32)), .unset, .unset, .unset, .unset] [(.ref li), (.ref li)])) (fun t k => st11 t (XS.dup X11.here hx rfl (hb hby at_133) rfl rfl k)) ?_
    obtain ⟨_, _, ⟨T12, L12, k12, n12⟩, -, X12, ⟨Lc12, hQ12, l12, y12, z12⟩, st12⟩ := X11.specialBack hx (y := (⟨"java/util/ArrayList", "<init>", "()V"⟩ : MethodName)) rfl hown (mvT hZ (wq hw 44 rfl)) (mvT hZ (wq hw 45 rfl)) (mvT hZ (wq hw 46 rfl)) (by decide) (backOf (W := 1) (rm_al l Z a0 hw [] li dce h11 n0 Z11 E_li F_modCount_li F_size_li F_elementData_li S_DEFAULTCAPACITY_EMPTY_ELEMENTDATA g_li O) hZ (wq hw 46 rfl) (wq hw 43 rfl) (by decide) (by decide)) (g := (mkF m 134 #[.val (.int p1), .val (.int p2), .val (.int p3), .val (.int p4), .val (.int p5), .val (.int kk), .val (.ref a), .val (.ref b), .val .null, .val .null, .val (.int (0 : Int32)), .unset, .unset, .unset, .unset] [(.ref li), (.ref li)])) rfl (by rw [hml]; rfl) (Steps.refl _) (a := li) (argsL := []) (rest := [(.ref li)]) (lenOf pd__28_29V rfl) rfl (by show 2 * 0 + _ ≤ _; exact Nat.le_of_eq rfl) (hb hby at_134) (fun _ _ => ⟨rfl, e11, (by decide : 7 + 0 ≤ _), (by decide : 15 + 0 ≤ _)⟩)
    dsimp only [Pt.U, Pt.locs, Pt.cells, Pt.slots] at X12 l12 y12 z12 st12 hQ12
    subst l12 y12 z12
    obtain ⟨rfl, N12q, KQ12, fo0_12, fo1_12, fo2_12⟩ := hQ12
    have N12 := Fr.app N9 N12q
    have E_a := E_a.keep KQ12
    have E_r2 := E_r2.keep KQ12
    have E_b := E_b.keep KQ12
    have E_r7 := E_r7.keep KQ12
    have E_li := E_li.keep KQ12
    have Z13 : n0 ≤ T12.heap.size := Nat.le_trans Z11 KQ12.1
    have O := O.keep KQ12 (allS (P := fun x => n0 ≤ x) g_li all0)
    have F_modCount_li := fo0_12
    have F_size_li := fo1_12
    have F_elementData_li := fo2_12
    refine Goes.pre (U' := T12.setTop (mkF m 139 #[.val (.int p1), .val (.int p2), .val (.int p3), .val (.int p4), .val (.int p5), .val (.int kk), .val (.ref a), .val (.ref b), .val .null, .val .null, .val (.int (0 : Int32)), .val (.ref li), .unset, .unset, .unset] [])) (fun t k => st12.trans (XS.astore X12.here hx rfl (hb hby at_137) rfl rfl (l' := #[.val (.int p1), .val (.int p2), .val (.int p3), .val (.int p4), .val (.int p5), .val (.int kk), .val (.ref a), .val (.ref b), .val .null, .val .null, .val (.int (0 : Int32)), .val (.ref li), .unset, .unset, .unset]) rfl k)) ?_
    obtain ⟨T14, h14, X14, e14, E14, A14, D14, -, st14⟩ := newO X12 hx hZ hown (wq hw 65 rfl) (wq hw 66 rfl) (wq hw 67 rfl) rfl (g := (mkF m 139 #[.val (.int p1), .val (.int p2), .val (.int p3), .val (.int p4), .val (.int p5), .val (.int kk), .val (.ref a), .val (.ref b), .val .null, .val .null, .val (.int (0 : Int32)), .val (.ref li), .unset, .unset, .unset] [])) rfl (hb hby at_139) (by decide) (by decide)
    obtain ⟨it, g14⟩ : ∃ z, z = T12.heap.size := ⟨_, rfl⟩
    rw [← g14] at A14 D14 st14
    have ne_a_it : a ≠ it := Nat.ne_of_lt (Nat.lt_of_lt_of_le E_a.lt (Nat.le_of_eq g14.symm))
    have ne_it_a := ne_a_it.symm
    have ne_b_it : b ≠ it := Nat.ne_of_lt (Nat.lt_of_lt_of_le E_b.lt (Nat.le_of_eq g14.symm))
    have ne_it_b := ne_b_it.symm
    have ne_dce_it : dce ≠ it := Nat.ne_of_lt (Nat.lt_of_lt_of_le (V_dce.ext O.2).lt (Nat.le_of_eq g14.symm))
    have ne_it_dce := ne_dce_it.symm
    have ne_ea_it : ea ≠ it := Nat.ne_of_lt (Nat.lt_of_lt_of_le (V_ea.ext O.2).lt (Nat.le_of_eq g14.symm))
    have ne_it_ea := ne_ea_it.symm
    have ne_el_it : el ≠ it := Nat.ne_of_lt (Nat.lt_of_lt_of_le (E_el.ext O.2).lt (Nat.le_of_eq g14.symm))
    have ne_it_el := ne_el_it.symm
    have ne_li_it : li ≠ it := Nat.ne_of_lt (Nat.lt_of_lt_of_le E_li.lt (Nat.le_of_eq g14.symm))
    have ne_it_li := ne_li_it.symm
    have ne_r2_it : r2 ≠ it := Nat.ne_of_lt (Nat.lt_of_lt_of_le E_r2.lt (Nat.le_of_eq g14.symm))
    have ne_it_r2 := ne_r2_it.symm
    have ne_r7_it : r7 ≠ it := Nat.ne_of_lt (Nat.lt_of_lt_of_le E_r7.lt (Nat.le_of_eq g14.symm))
    have ne_it_r7 := ne_r7_it.symm
    have g_it : n0 ≤ it := Nat.le_trans Z13 (Nat.le_of_eq g14.symm)
    have E_a := E_a.ext E14
    have E_r2 := E_r2.ext E14
    have E_b := E_b.ext E14
    have E_r7 := E_r7.ext E14
    have E_li := E_li.ext E14
    have F_modCount_li := F_modCount_li.ext E14
    have F_size_li := F_size_li.ext E14
    have F_elementData_li := F_elementData_li.ext E14
    have O := O.ext E14
    have Z14 : n0 ≤ h14.size := Nat.le_trans Z13 E14.1
    have E_it := A14
    have F_label_it : Fld Z h14 it "com/example/restate/restate/plan/Item" "label" "Lcom/example/restate/restate/plan/Label;" .null := D14 (Or.inr (wq hw 102 rfl)) (ty := (.object "com/example/restate/restate/plan/Label")) (by decide)
    have F_printed_it : Fld Z h14 it "com/example/restate/restate/plan/Item" "printed" "Lcom/example/restate/restate/plan/Label;" .null := D14 (Or.inr (wq hw 104 rfl)) (ty := (.object "com/example/restate/restate/plan/Label")) (by decide)
    have F_start_it : Fld Z h14 it "com/example/restate/restate/plan/Item" "start" "I" (.int (0 : Int32)) := D14 (Or.inr (wq hw 106 rfl)) (ty := .int) (by decide)
    have F_end_it : Fld Z h14 it "com/example/restate/restate/plan/Item" "end" "I" (.int (0 : Int32)) := D14 (Or.inr (wq hw 108 rfl)) (ty := .int) (by decide)
    have F_children_it : Fld Z h14 it "com/example/restate/restate/plan/Item" "children" "Ljava/util/List;" .null := D14 (Or.inr (wq hw 110 rfl)) (ty := (.object "java/util/List")) (by decide)
    refine Goes.pre (U' := T14.setTop (mkF m 152 #[.val (.int p1), .val (.int p2), .val (.int p3), .val (.int p4), .val (.int p5), .val (.int kk), .val (.ref a), .val (.ref b), .val .null, .val .null, .val (.int (0 : Int32)), .val (.ref li), .unset, .unset, .unset] [(.ref li), (.int p5), (.int p4), .null, .null, (.ref it), (.ref it)])) (fun t k => st14 t (XS.dup X14.here hx rfl (hb hby at_142) rfl rfl (XS.aload X14.here hx rfl (hb hby at_143) rfl rfl (XS.aload X14.here hx rfl (hb hby at_145) rfl rfl (XS.iloadN X14.here hx rfl (hb hby at_147) rfl (XS.iload X14.here hx rfl (hb hby at_148) rfl (XS.aload X14.here hx rfl (hb hby at_150) rfl rfl k))))))) ?_
    obtain ⟨_, _, ⟨T15, L15, k15, n15⟩, -, X15, ⟨Lc15, hQ15, l15, y15, z15⟩, st15⟩ := X14.specialBack hx (y := (⟨"com/example/restate/restate/plan/Item", "<init>", "(Lcom/example/restate/restate/plan/Label;Lcom/example/restate/restate/plan/Label;IILjava/util/List;)V"⟩ : MethodName)) rfl hown (mvT hZ (wq hw 68 rfl)) (mvT hZ (wq hw 69 rfl)) (mvT hZ (wq hw 70 rfl)) (by decide) (backOf (W := 1) (rm_item00 l Z a0 hw [] it p4 p5 li el h14 n0 Z14 E_it E_li F_size_li S_EMPTY_LIST F_label_it F_printed_it F_start_it F_end_it F_children_it ne_it_li ne_li_it g_it O) hZ (wq hw 70 rfl) (wq hw 67 rfl) (by decide) (by decide)) (g := (mkF m 152 #[.val (.int p1), .val (.int p2), .val (.int p3), .val (.int p4), .val (.int p5), .val (.int kk), .val (.ref a), .val (.ref b), .val .null, .val .null, .val (.int (0 : Int32)), .val (.ref li), .unset, .unset, .unset] [(.ref li), (.int p5), (.int p4), .null, .null, (.ref it), (.ref it)])) rfl (by rw [hml]; rfl) (Steps.refl _) (a := it) (argsL := [.null, .null, (.int p4), (.int p5), (.ref li)]) (rest := [(.ref it)]) (lenOf pd__28Lcom_2fexample_2frestate_2frestate_2fplan_2fLabel_3bLcom_2fexample_2frestate_2frestate_2fplan_2fLabel_3bIILjava_2futil_2fList_3b_29V rfl) rfl (by show 2 * 0 + _ ≤ _; exact Nat.le_of_eq rfl) (hb hby at_152) (fun _ _ => ⟨rfl, e14, (by decide : 8 + 0 ≤ _), (by decide : 20 + 0 ≤ _)⟩)
    dsimp only [Pt.U, Pt.locs, Pt.cells, Pt.slots] at X15 l15 y15 z15 st15 hQ15
    subst l15 y15 z15
    obtain ⟨rfl, N15q, KQ15, fo0_15, fo1_15, fo2_15, fo3_15, fo4_15⟩ := hQ15
    have N15 := Fr.app N12 N15q
    have E_a := E_a.keep KQ15
    have E_r2 := E_r2.keep KQ15
    have E_b := E_b.keep KQ15
    have E_r7 := E_r7.keep KQ15
    have E_li := E_li.keep KQ15
    have F_modCount_li := F_modCount_li.keep KQ15 (ninS ne_li_it nin0)
    have F_size_li := F_size_li.keep KQ15 (ninS ne_li_it nin0)
    have F_elementData_li := F_elementData_li.keep KQ15 (ninS ne_li_it nin0)
    have E_it := E_it.keep KQ15
    have Z16 : n0 ≤ T15.heap.size := Nat.le_trans Z14 KQ15.1
    have O := O.keep KQ15 (allS (P := fun x => n0 ≤ x) g_it all0)
    have F_label_it := fo0_15
    have F_printed_it := fo1_15
    have F_start_it := fo2_15
    have F_end_it := fo3_15
    have F_children_it := fo4_15
    refine Goes.pre (U' := T15.setTop (mkF m 157 #[.val (.int p1), .val (.int p2), .val (.int p3), .val (.int p4), .val (.int p5), .val (.int kk), .val (.ref a), .val (.ref b), .val .null, .val .null, .val (.int (0 : Int32)), .val (.ref li), .val (.ref it), .unset, .unset] [])) (fun t k => st15.trans (XS.astore X15.here hx rfl (hb hby at_155) rfl rfl (l' := #[.val (.int p1), .val (.int p2), .val (.int p3), .val (.int p4), .val (.int p5), .val (.int kk), .val (.ref a), .val (.ref b), .val .null, .val .null, .val (.int (0 : Int32)), .val (.ref li), .val (.ref it), .unset, .unset]) rfl k)) ?_
    obtain ⟨T17, h17, X17, e17, E17, A17, D17, -, st17⟩ := newO X15 hx hZ hown (wq hw 41 rfl) (wq hw 42 rfl) (wq hw 43 rfl) rfl (g := (mkF m 157 #[.val (.int p1), .val (.int p2), .val (.int p3), .val (.int p4), .val (.int p5), .val (.int kk), .val (.ref a), .val (.ref b), .val .null, .val .null, .val (.int (0 : Int32)), .val (.ref li), .val (.ref it), .unset, .unset] [])) rfl (hb hby at_157) (by decide) (by decide)
    obtain ⟨kids, g17⟩ : ∃ z, z = T15.heap.size := ⟨_, rfl⟩
    rw [← g17] at A17 D17 st17
    have ne_a_kids : a ≠ kids := Nat.ne_of_lt (Nat.lt_of_lt_of_le E_a.lt (Nat.le_of_eq g17.symm))
    have ne_kids_a := ne_a_kids.symm
    have ne_b_kids : b ≠ kids := Nat.ne_of_lt (Nat.lt_of_lt_of_le E_b.lt (Nat.le_of_eq g17.symm))
    have ne_kids_b := ne_b_kids.symm
    have ne_dce_kids : dce ≠ kids := Nat.ne_of_lt (Nat.lt_of_lt_of_le (V_dce.ext O.2).lt (Nat.le_of_eq g17.symm))
    have ne_kids_dce := ne_dce_kids.symm
    have ne_ea_kids : ea ≠ kids := Nat.ne_of_lt (Nat.lt_of_lt_of_le (V_ea.ext O.2).lt (Nat.le_of_eq g17.symm))
    have ne_kids_ea := ne_ea_kids.symm
    have ne_el_kids : el ≠ kids := Nat.ne_of_lt (Nat.lt_of_lt_of_le (E_el.ext O.2).lt (Nat.le_of_eq g17.symm))
    have ne_kids_el := ne_el_kids.symm
    have ne_it_kids : it ≠ kids := Nat.ne_of_lt (Nat.lt_of_lt_of_le E_it.lt (Nat.le_of_eq g17.symm))
    have ne_kids_it := ne_it_kids.symm
    have ne_li_kids : li ≠ kids := Nat.ne_of_lt (Nat.lt_of_lt_of_le E_li.lt (Nat.le_of_eq g17.symm))
    have ne_kids_li := ne_li_kids.symm
    have ne_r2_kids : r2 ≠ kids := Nat.ne_of_lt (Nat.lt_of_lt_of_le E_r2.lt (Nat.le_of_eq g17.symm))
    have ne_kids_r2 := ne_r2_kids.symm
    have ne_r7_kids : r7 ≠ kids := Nat.ne_of_lt (Nat.lt_of_lt_of_le E_r7.lt (Nat.le_of_eq g17.symm))
    have ne_kids_r7 := ne_r7_kids.symm
    have g_kids : n0 ≤ kids := Nat.le_trans Z16 (Nat.le_of_eq g17.symm)
    have E_a := E_a.ext E17
    have E_r2 := E_r2.ext E17
    have E_b := E_b.ext E17
    have E_r7 := E_r7.ext E17
    have E_li := E_li.ext E17
    have F_modCount_li := F_modCount_li.ext E17
    have F_size_li := F_size_li.ext E17
    have F_elementData_li := F_elementData_li.ext E17
    have E_it := E_it.ext E17
    have F_label_it := F_label_it.ext E17
    have F_printed_it := F_printed_it.ext E17
    have F_start_it := F_start_it.ext E17
    have F_end_it := F_end_it.ext E17
    have F_children_it := F_children_it.ext E17
    have O := O.ext E17
    have Z17 : n0 ≤ h17.size := Nat.le_trans Z16 E17.1
    have E_kids := A17
    have F_modCount_kids : Fld Z h17 kids "java/util/AbstractList" "modCount" "I" (.int (0 : Int32)) := D17 (Or.inl (wq hw 61 rfl)) (ty := .int) (by decide)
    have F_elementData_kids : Fld Z h17 kids "java/util/ArrayList" "elementData" "[Ljava/lang/Object;" .null := D17 (Or.inl (wq hw 64 rfl)) (ty := (.array (.object "java/lang/Object"))) (by decide)
    have F_size_kids : Fld Z h17 kids "java/util/ArrayList" "size" "I" (.int (0 : Int32)) := D17 (Or.inl (wq hw 96 rfl)) (ty := .int) (by decide)
    refine Goes.pre (U' := T17.setTop (mkF m 161 #[.val (.int p1), .val (.int p2), .val (.int p3), .val (.int p4), .val (.int p5), .val (.int kk), .val (.ref a), .val (.ref b), .val .null, .val .null, .val (.int (0 : Int32)), .val (.ref li), .val (.ref it), .unset, .unset] [(.ref kids), (.ref kids)])) (fun t k => st17 t (XS.dup X17.here hx rfl (hb hby at_160) rfl rfl k)) ?_
    obtain ⟨_, _, ⟨T18, L18, k18, n18⟩, -, X18, ⟨Lc18, hQ18, l18, y18, z18⟩, st18⟩ := X17.specialBack hx (y := (⟨"java/util/ArrayList", "<init>", "()V"⟩ : MethodName)) rfl hown (mvT hZ (wq hw 44 rfl)) (mvT hZ (wq hw 45 rfl)) (mvT hZ (wq hw 46 rfl)) (by decide) (backOf (W := 1) (rm_al l Z a0 hw [] kids dce h17 n0 Z17 E_kids F_modCount_kids F_size_kids F_elementData_kids S_DEFAULTCAPACITY_EMPTY_ELEMENTDATA g_kids O) hZ (wq hw 46 rfl) (wq hw 43 rfl) (by decide) (by decide)) (g := (mkF m 161 #[.val (.int p1), .val (.int p2), .val (.int p3), .val (.int p4), .val (.int p5), .val (.int kk), .val (.ref a), .val (.ref b), .val .null, .val .null, .val (.int (0 : Int32)), .val (.ref li), .val (.ref it), .unset, .unset] [(.ref kids), (.ref kids)])) rfl (by rw [hml]; rfl) (Steps.refl _) (a := kids) (argsL := []) (rest := [(.ref kids)]) (lenOf pd__28_29V rfl) rfl (by show 2 * 0 + _ ≤ _; exact Nat.le_of_eq rfl) (hb hby at_161) (fun _ _ => ⟨rfl, e17, (by decide : 9 + 0 ≤ _), (by decide : 23 + 0 ≤ _)⟩)
    dsimp only [Pt.U, Pt.locs, Pt.cells, Pt.slots] at X18 l18 y18 z18 st18 hQ18
    subst l18 y18 z18
    obtain ⟨rfl, N18q, KQ18, fo0_18, fo1_18, fo2_18⟩ := hQ18
    have N18 := Fr.app N15 N18q
    have E_a := E_a.keep KQ18
    have E_r2 := E_r2.keep KQ18
    have E_b := E_b.keep KQ18
    have E_r7 := E_r7.keep KQ18
    have E_li := E_li.keep KQ18
    have F_modCount_li := F_modCount_li.keep KQ18 (ninS ne_li_kids nin0)
    have F_size_li := F_size_li.keep KQ18 (ninS ne_li_kids nin0)
    have F_elementData_li := F_elementData_li.keep KQ18 (ninS ne_li_kids nin0)
    have E_it := E_it.keep KQ18
    have F_label_it := F_label_it.keep KQ18 (ninS ne_it_kids nin0)
    have F_printed_it := F_printed_it.keep KQ18 (ninS ne_it_kids nin0)
    have F_start_it := F_start_it.keep KQ18 (ninS ne_it_kids nin0)
    have F_end_it := F_end_it.keep KQ18 (ninS ne_it_kids nin0)
    have F_children_it := F_children_it.keep KQ18 (ninS ne_it_kids nin0)
    have E_kids := E_kids.keep KQ18
    have Z19 : n0 ≤ T18.heap.size := Nat.le_trans Z17 KQ18.1
    have O := O.keep KQ18 (allS (P := fun x => n0 ≤ x) g_kids all0)
    have F_modCount_kids := fo0_18
    have F_size_kids := fo1_18
    have F_elementData_kids := fo2_18
    refine Goes.pre (U' := T18.setTop (mkF m 170 #[.val (.int p1), .val (.int p2), .val (.int p3), .val (.int p4), .val (.int p5), .val (.int kk), .val (.ref a), .val (.ref b), .val .null, .val .null, .val (.int (0 : Int32)), .val (.ref li), .val (.ref it), .val (.ref kids), .unset] [(.ref it), (.ref kids)])) (fun t k => st18.trans (XS.astore X18.here hx rfl (hb hby at_164) rfl rfl (l' := #[.val (.int p1), .val (.int p2), .val (.int p3), .val (.int p4), .val (.int p5), .val (.int kk), .val (.ref a), .val (.ref b), .val .null, .val .null, .val (.int (0 : Int32)), .val (.ref li), .val (.ref it), .val (.ref kids), .unset]) rfl (XS.aload X18.here hx rfl (hb hby at_166) rfl rfl (XS.aload X18.here hx rfl (hb hby at_168) rfl rfl k)))) ?_
    have lt_a := E_a.lt
    have lt_b := E_b.lt
    have lt_dce := (V_dce.ext O.2).lt
    have lt_ea := (V_ea.ext O.2).lt
    have lt_el := (E_el.ext O.2).lt
    have lt_it := E_it.lt
    have lt_kids := E_kids.lt
    have lt_li := E_li.lt
    have lt_r2 := E_r2.lt
    have lt_r7 := E_r7.lt
    obtain ⟨cq20, kq20, q20a, q20b, q20c⟩ := isOf hZ rfl E_kids
    obtain ⟨_, _, ⟨T20, L20, k20, n20⟩, -, X20, ⟨Lc20, hQ20, l20, y20, z20⟩, st20⟩ := X18.virtualBack hx (y := (⟨"java/util/ArrayList", "add", "(Ljava/lang/Object;)Z"⟩ : MethodName)) (z := (⟨"java/util/ArrayList", "add", "(Ljava/lang/Object;)Z"⟩ : MethodName)) hown (mvT hZ (wq hw 111 rfl)) (mvT hZ (wq hw 112 rfl)) (notFace_of_selects (args := #[]) (mvT hZ (wq hw 114 rfl))) (mvT hZ (wq hw 114 rfl)) (mvT hZ (wq hw 113 rfl)) (by decide) (backOf (W := 0) (rm_add l Z a0 hw [] kids it dce kd T18.heap n0 Z19 E_kids F_modCount_kids F_size_kids F_elementData_kids S_DEFAULTCAPACITY_EMPTY_ELEMENTDATA V_dce E_it g_kids O) hZ (wq hw 115 rfl) (wq hw 43 rfl) (by decide) (by decide)) q20a q20c (g := (mkF m 170 #[.val (.int p1), .val (.int p2), .val (.int p3), .val (.int p4), .val (.int p5), .val (.int kk), .val (.ref a), .val (.ref b), .val .null, .val .null, .val (.int (0 : Int32)), .val (.ref li), .val (.ref it), .val (.ref kids), .unset] [(.ref it), (.ref kids)])) rfl (by rw [hml]; rfl) (Steps.refl _) (argsL := [(.ref it)]) (rest := []) (lenOf pd__28Ljava_2flang_2fObject_3b_29Z rfl) rfl (by show 2 * 0 + _ ≤ _; exact Nat.le_of_eq rfl) (hb hby at_170) (fun _ _ => ⟨rfl, rfl, (by decide : 9 + 1 ≤ _), (by decide : 23 + 10 ≤ _)⟩)
    dsimp only [Pt.U, Pt.locs, Pt.cells, Pt.slots] at X20 l20 y20 z20 st20 hQ20
    subst l20 y20 z20
    obtain ⟨r20, kr20, rfl, N20q, KQ20, fo0_20, fo1_20, fo2_20, fo3_20, fo4_20, g_r20, sl_r20⟩ := hQ20
    have N20 := Fr.app N18 N20q
    have E_a := E_a.keep KQ20
    have E_r2 := E_r2.keep KQ20
    have E_b := E_b.keep KQ20
    have E_r7 := E_r7.keep KQ20
    have E_li := E_li.keep KQ20
    have F_modCount_li := F_modCount_li.keep KQ20 (ninS ne_li_kids nin0)
    have F_size_li := F_size_li.keep KQ20 (ninS ne_li_kids nin0)
    have F_elementData_li := F_elementData_li.keep KQ20 (ninS ne_li_kids nin0)
    have E_it := E_it.keep KQ20
    have F_label_it := F_label_it.keep KQ20 (ninS ne_it_kids nin0)
    have F_printed_it := F_printed_it.keep KQ20 (ninS ne_it_kids nin0)
    have F_start_it := F_start_it.keep KQ20 (ninS ne_it_kids nin0)
    have F_end_it := F_end_it.keep KQ20 (ninS ne_it_kids nin0)
    have F_children_it := F_children_it.keep KQ20 (ninS ne_it_kids nin0)
    have E_kids := E_kids.keep KQ20
    have Z21 : n0 ≤ T20.heap.size := Nat.le_trans Z19 KQ20.1
    have O := O.keep KQ20 (allS (P := fun x => n0 ≤ x) g_kids all0)
    have ne_a_r20 : a ≠ r20 := Nat.ne_of_lt (Nat.lt_of_lt_of_le lt_a sl_r20)
    have ne_r20_a := ne_a_r20.symm
    have ne_b_r20 : b ≠ r20 := Nat.ne_of_lt (Nat.lt_of_lt_of_le lt_b sl_r20)
    have ne_r20_b := ne_b_r20.symm
    have ne_dce_r20 : dce ≠ r20 := Nat.ne_of_lt (Nat.lt_of_lt_of_le lt_dce sl_r20)
    have ne_r20_dce := ne_dce_r20.symm
    have ne_ea_r20 : ea ≠ r20 := Nat.ne_of_lt (Nat.lt_of_lt_of_le lt_ea sl_r20)
    have ne_r20_ea := ne_ea_r20.symm
    have ne_el_r20 : el ≠ r20 := Nat.ne_of_lt (Nat.lt_of_lt_of_le lt_el sl_r20)
    have ne_r20_el := ne_el_r20.symm
    have ne_it_r20 : it ≠ r20 := Nat.ne_of_lt (Nat.lt_of_lt_of_le lt_it sl_r20)
    have ne_r20_it := ne_it_r20.symm
    have ne_kids_r20 : kids ≠ r20 := Nat.ne_of_lt (Nat.lt_of_lt_of_le lt_kids sl_r20)
    have ne_r20_kids := ne_kids_r20.symm
    have ne_li_r20 : li ≠ r20 := Nat.ne_of_lt (Nat.lt_of_lt_of_le lt_li sl_r20)
    have ne_r20_li := ne_li_r20.symm
    have ne_r2_r20 : r2 ≠ r20 := Nat.ne_of_lt (Nat.lt_of_lt_of_le lt_r2 sl_r20)
    have ne_r20_r2 := ne_r2_r20.symm
    have ne_r7_r20 : r7 ≠ r20 := Nat.ne_of_lt (Nat.lt_of_lt_of_le lt_r7 sl_r20)
    have ne_r20_r7 := ne_r7_r20.symm
    have F_modCount_kids := fo0_20
    have F_size_kids := fo1_20
    have F_elementData_kids := fo2_20
    have E_r20 := fo3_20
    have V_r20 := fo4_20
    refine Goes.pre (U' := T20.setTop (mkF m 174 #[.val (.int p1), .val (.int p2), .val (.int p3), .val (.int p4), .val (.int p5), .val (.int kk), .val (.ref a), .val (.ref b), .val .null, .val .null, .val (.int (0 : Int32)), .val (.ref li), .val (.ref it), .val (.ref kids), .unset] [])) (fun t k => st20.trans (XS.pop X20.here hx rfl (hb hby at_173) rfl rfl k)) ?_
    obtain ⟨T22, h22, X22, e22, E22, A22, D22, -, st22⟩ := newO X20 hx hZ hown (wq hw 65 rfl) (wq hw 66 rfl) (wq hw 67 rfl) rfl (g := (mkF m 174 #[.val (.int p1), .val (.int p2), .val (.int p3), .val (.int p4), .val (.int p5), .val (.int kk), .val (.ref a), .val (.ref b), .val .null, .val .null, .val (.int (0 : Int32)), .val (.ref li), .val (.ref it), .val (.ref kids), .unset] [])) rfl (hb hby at_174) (by decide) (by decide)
    obtain ⟨pa, g22⟩ : ∃ z, z = T20.heap.size := ⟨_, rfl⟩
    rw [← g22] at A22 D22 st22
    have ne_a_pa : a ≠ pa := Nat.ne_of_lt (Nat.lt_of_lt_of_le E_a.lt (Nat.le_of_eq g22.symm))
    have ne_pa_a := ne_a_pa.symm
    have ne_b_pa : b ≠ pa := Nat.ne_of_lt (Nat.lt_of_lt_of_le E_b.lt (Nat.le_of_eq g22.symm))
    have ne_pa_b := ne_b_pa.symm
    have ne_dce_pa : dce ≠ pa := Nat.ne_of_lt (Nat.lt_of_lt_of_le (V_dce.ext O.2).lt (Nat.le_of_eq g22.symm))
    have ne_pa_dce := ne_dce_pa.symm
    have ne_ea_pa : ea ≠ pa := Nat.ne_of_lt (Nat.lt_of_lt_of_le (V_ea.ext O.2).lt (Nat.le_of_eq g22.symm))
    have ne_pa_ea := ne_ea_pa.symm
    have ne_el_pa : el ≠ pa := Nat.ne_of_lt (Nat.lt_of_lt_of_le (E_el.ext O.2).lt (Nat.le_of_eq g22.symm))
    have ne_pa_el := ne_el_pa.symm
    have ne_it_pa : it ≠ pa := Nat.ne_of_lt (Nat.lt_of_lt_of_le E_it.lt (Nat.le_of_eq g22.symm))
    have ne_pa_it := ne_it_pa.symm
    have ne_kids_pa : kids ≠ pa := Nat.ne_of_lt (Nat.lt_of_lt_of_le E_kids.lt (Nat.le_of_eq g22.symm))
    have ne_pa_kids := ne_kids_pa.symm
    have ne_li_pa : li ≠ pa := Nat.ne_of_lt (Nat.lt_of_lt_of_le E_li.lt (Nat.le_of_eq g22.symm))
    have ne_pa_li := ne_li_pa.symm
    have ne_r2_pa : r2 ≠ pa := Nat.ne_of_lt (Nat.lt_of_lt_of_le E_r2.lt (Nat.le_of_eq g22.symm))
    have ne_pa_r2 := ne_r2_pa.symm
    have ne_r20_pa : r20 ≠ pa := Nat.ne_of_lt (Nat.lt_of_lt_of_le E_r20.lt (Nat.le_of_eq g22.symm))
    have ne_pa_r20 := ne_r20_pa.symm
    have ne_r7_pa : r7 ≠ pa := Nat.ne_of_lt (Nat.lt_of_lt_of_le E_r7.lt (Nat.le_of_eq g22.symm))
    have ne_pa_r7 := ne_r7_pa.symm
    have g_pa : n0 ≤ pa := Nat.le_trans Z21 (Nat.le_of_eq g22.symm)
    have E_a := E_a.ext E22
    have E_r2 := E_r2.ext E22
    have E_b := E_b.ext E22
    have E_r7 := E_r7.ext E22
    have E_li := E_li.ext E22
    have F_modCount_li := F_modCount_li.ext E22
    have F_size_li := F_size_li.ext E22
    have F_elementData_li := F_elementData_li.ext E22
    have E_it := E_it.ext E22
    have F_label_it := F_label_it.ext E22
    have F_printed_it := F_printed_it.ext E22
    have F_start_it := F_start_it.ext E22
    have F_end_it := F_end_it.ext E22
    have F_children_it := F_children_it.ext E22
    have E_kids := E_kids.ext E22
    have F_modCount_kids := F_modCount_kids.ext E22
    have F_size_kids := F_size_kids.ext E22
    have F_elementData_kids := F_elementData_kids.ext E22
    have E_r20 := E_r20.ext E22
    have V_r20 := V_r20.ext E22
    have O := O.ext E22
    have Z22 : n0 ≤ h22.size := Nat.le_trans Z21 E22.1
    have E_pa := A22
    have F_label_pa : Fld Z h22 pa "com/example/restate/restate/plan/Item" "label" "Lcom/example/restate/restate/plan/Label;" .null := D22 (Or.inr (wq hw 102 rfl)) (ty := (.object "com/example/restate/restate/plan/Label")) (by decide)
    have F_printed_pa : Fld Z h22 pa "com/example/restate/restate/plan/Item" "printed" "Lcom/example/restate/restate/plan/Label;" .null := D22 (Or.inr (wq hw 104 rfl)) (ty := (.object "com/example/restate/restate/plan/Label")) (by decide)
    have F_start_pa : Fld Z h22 pa "com/example/restate/restate/plan/Item" "start" "I" (.int (0 : Int32)) := D22 (Or.inr (wq hw 106 rfl)) (ty := .int) (by decide)
    have F_end_pa : Fld Z h22 pa "com/example/restate/restate/plan/Item" "end" "I" (.int (0 : Int32)) := D22 (Or.inr (wq hw 108 rfl)) (ty := .int) (by decide)
    have F_children_pa : Fld Z h22 pa "com/example/restate/restate/plan/Item" "children" "Ljava/util/List;" .null := D22 (Or.inr (wq hw 110 rfl)) (ty := (.object "java/util/List")) (by decide)
    refine Goes.pre (U' := T22.setTop (mkF m 185 #[.val (.int p1), .val (.int p2), .val (.int p3), .val (.int p4), .val (.int p5), .val (.int kk), .val (.ref a), .val (.ref b), .val .null, .val .null, .val (.int (0 : Int32)), .val (.ref li), .val (.ref it), .val (.ref kids), .unset] [(.ref kids), (.int p5), (.int p4), .null, .null, (.ref pa), (.ref pa)])) (fun t k => st22 t (XS.dup X22.here hx rfl (hb hby at_177) rfl rfl (XS.aconstNull X22.here hx rfl (hb hby at_178) (XS.aconstNull X22.here hx rfl (hb hby at_179) (XS.iloadN X22.here hx rfl (hb hby at_180) rfl (XS.iload X22.here hx rfl (hb hby at_181) rfl (XS.aload X22.here hx rfl (hb hby at_183) rfl rfl k))))))) ?_
    have lt_a := E_a.lt
    have lt_b := E_b.lt
    have lt_dce := (V_dce.ext O.2).lt
    have lt_ea := (V_ea.ext O.2).lt
    have lt_el := (E_el.ext O.2).lt
    have lt_it := E_it.lt
    have lt_kids := E_kids.lt
    have lt_li := E_li.lt
    have lt_pa := E_pa.lt
    have lt_r2 := E_r2.lt
    have lt_r20 := E_r20.lt
    have lt_r7 := E_r7.lt
    obtain ⟨_, _, ⟨T23, L23, k23, n23⟩, -, X23, ⟨Lc23, hQ23, l23, y23, z23⟩, st23⟩ := X22.specialBack hx (y := (⟨"com/example/restate/restate/plan/Item", "<init>", "(Lcom/example/restate/restate/plan/Label;Lcom/example/restate/restate/plan/Label;IILjava/util/List;)V"⟩ : MethodName)) rfl hown (mvT hZ (wq hw 68 rfl)) (mvT hZ (wq hw 69 rfl)) (mvT hZ (wq hw 70 rfl)) (by decide) (backOf (W := 1) (rm_itemP l Z a0 hw [] pa p4 p5 kids r20 kr20 it mr em h22 n0 Z22 E_kids F_size_kids F_elementData_kids E_r20 V_r20 E_it M__Ljava_lang_Object_ S_EMPTY E_pa F_label_pa F_printed_pa F_start_pa F_end_pa F_children_pa ne_kids_pa ne_r20_pa ne_it_pa g_pa O) hZ (wq hw 70 rfl) (wq hw 67 rfl) (by decide) (by decide)) (g := (mkF m 185 #[.val (.int p1), .val (.int p2), .val (.int p3), .val (.int p4), .val (.int p5), .val (.int kk), .val (.ref a), .val (.ref b), .val .null, .val .null, .val (.int (0 : Int32)), .val (.ref li), .val (.ref it), .val (.ref kids), .unset] [(.ref kids), (.int p5), (.int p4), .null, .null, (.ref pa), (.ref pa)])) rfl (by rw [hml]; rfl) (Steps.refl _) (a := pa) (argsL := [.null, .null, (.int p4), (.int p5), (.ref kids)]) (rest := [(.ref pa)]) (lenOf pd__28Lcom_2fexample_2frestate_2frestate_2fplan_2fLabel_3bLcom_2fexample_2frestate_2frestate_2fplan_2fLabel_3bIILjava_2futil_2fList_3b_29V rfl) rfl (by show 2 * 0 + _ ≤ _; exact Nat.le_of_eq rfl) (hb hby at_185) (fun _ _ => ⟨rfl, e22, (by decide : 11 + 2 ≤ _), (by decide : 38 + 3 ≤ _)⟩)
    dsimp only [Pt.U, Pt.locs, Pt.cells, Pt.slots] at X23 l23 y23 z23 st23 hQ23
    subst l23 y23 z23
    obtain ⟨r23, rfl, N23q, KQ23, fo0_23, fo1_23, fo2_23, fo3_23, fo4_23, fo5_23, fo6_23, fo7_23, g_r23, sl_r23⟩ := hQ23
    have N23 := Fr.app N20 N23q
    have E_a := E_a.keep KQ23
    have E_r2 := E_r2.keep KQ23
    have E_b := E_b.keep KQ23
    have E_r7 := E_r7.keep KQ23
    have E_li := E_li.keep KQ23
    have F_modCount_li := F_modCount_li.keep KQ23 (ninS ne_li_pa nin0)
    have F_size_li := F_size_li.keep KQ23 (ninS ne_li_pa nin0)
    have F_elementData_li := F_elementData_li.keep KQ23 (ninS ne_li_pa nin0)
    have E_it := E_it.keep KQ23
    have F_label_it := F_label_it.keep KQ23 (ninS ne_it_pa nin0)
    have F_printed_it := F_printed_it.keep KQ23 (ninS ne_it_pa nin0)
    have F_start_it := F_start_it.keep KQ23 (ninS ne_it_pa nin0)
    have F_end_it := F_end_it.keep KQ23 (ninS ne_it_pa nin0)
    have F_children_it := F_children_it.keep KQ23 (ninS ne_it_pa nin0)
    have E_kids := E_kids.keep KQ23
    have F_modCount_kids := F_modCount_kids.keep KQ23 (ninS ne_kids_pa nin0)
    have F_size_kids := F_size_kids.keep KQ23 (ninS ne_kids_pa nin0)
    have F_elementData_kids := F_elementData_kids.keep KQ23 (ninS ne_kids_pa nin0)
    have E_r20 := E_r20.keep KQ23
    have V_r20 := V_r20.keep KQ23 (ninS ne_r20_pa nin0)
    have E_pa := E_pa.keep KQ23
    have Z24 : n0 ≤ T23.heap.size := Nat.le_trans Z22 KQ23.1
    have O := O.keep KQ23 (allS (P := fun x => n0 ≤ x) g_pa all0)
    have ne_a_r23 : a ≠ r23 := Nat.ne_of_lt (Nat.lt_of_lt_of_le lt_a sl_r23)
    have ne_r23_a := ne_a_r23.symm
    have ne_b_r23 : b ≠ r23 := Nat.ne_of_lt (Nat.lt_of_lt_of_le lt_b sl_r23)
    have ne_r23_b := ne_b_r23.symm
    have ne_dce_r23 : dce ≠ r23 := Nat.ne_of_lt (Nat.lt_of_lt_of_le lt_dce sl_r23)
    have ne_r23_dce := ne_dce_r23.symm
    have ne_ea_r23 : ea ≠ r23 := Nat.ne_of_lt (Nat.lt_of_lt_of_le lt_ea sl_r23)
    have ne_r23_ea := ne_ea_r23.symm
    have ne_el_r23 : el ≠ r23 := Nat.ne_of_lt (Nat.lt_of_lt_of_le lt_el sl_r23)
    have ne_r23_el := ne_el_r23.symm
    have ne_it_r23 : it ≠ r23 := Nat.ne_of_lt (Nat.lt_of_lt_of_le lt_it sl_r23)
    have ne_r23_it := ne_it_r23.symm
    have ne_kids_r23 : kids ≠ r23 := Nat.ne_of_lt (Nat.lt_of_lt_of_le lt_kids sl_r23)
    have ne_r23_kids := ne_kids_r23.symm
    have ne_li_r23 : li ≠ r23 := Nat.ne_of_lt (Nat.lt_of_lt_of_le lt_li sl_r23)
    have ne_r23_li := ne_li_r23.symm
    have ne_pa_r23 : pa ≠ r23 := Nat.ne_of_lt (Nat.lt_of_lt_of_le lt_pa sl_r23)
    have ne_r23_pa := ne_pa_r23.symm
    have ne_r2_r23 : r2 ≠ r23 := Nat.ne_of_lt (Nat.lt_of_lt_of_le lt_r2 sl_r23)
    have ne_r23_r2 := ne_r2_r23.symm
    have ne_r20_r23 : r20 ≠ r23 := Nat.ne_of_lt (Nat.lt_of_lt_of_le lt_r20 sl_r23)
    have ne_r23_r20 := ne_r20_r23.symm
    have ne_r7_r23 : r7 ≠ r23 := Nat.ne_of_lt (Nat.lt_of_lt_of_le lt_r7 sl_r23)
    have ne_r23_r7 := ne_r7_r23.symm
    have F_label_pa := fo0_23
    have F_printed_pa := fo1_23
    have F_start_pa := fo2_23
    have F_end_pa := fo3_23
    have F_children_pa := fo4_23
    have E_r23 := fo5_23
    have F_e0_r23 := fo6_23
    have F_e1_r23 := fo7_23
    refine Goes.pre (U' := T23.setTop (mkF m 192 #[.val (.int p1), .val (.int p2), .val (.int p3), .val (.int p4), .val (.int p5), .val (.int kk), .val (.ref a), .val (.ref b), .val .null, .val .null, .val (.int (0 : Int32)), .val (.ref li), .val (.ref it), .val (.ref kids), .val (.ref pa)] [(.ref it)])) (fun t k => st23.trans (XS.astore X23.here hx rfl (hb hby at_188) rfl rfl (l' := #[.val (.int p1), .val (.int p2), .val (.int p3), .val (.int p4), .val (.int p5), .val (.int kk), .val (.ref a), .val (.ref b), .val .null, .val .null, .val (.int (0 : Int32)), .val (.ref li), .val (.ref it), .val (.ref kids), .val (.ref pa)]) rfl (XS.aload X23.here hx rfl (hb hby at_190) rfl rfl k))) ?_
    obtain ⟨cq25, kq25, q25a, q25b, q25c⟩ := isOf hZ rfl E_it
    obtain ⟨_, _, ⟨T25, L25, k25, n25⟩, -, X25, ⟨Lc25, hQ25, l25, y25, z25⟩, st25⟩ := X23.virtualBack hx (y := (⟨"com/example/restate/restate/plan/Item", "deleted", "()Z"⟩ : MethodName)) (z := (⟨"com/example/restate/restate/plan/Item", "deleted", "()Z"⟩ : MethodName)) hown (mvT hZ (wq hw 203 rfl)) (mvT hZ (wq hw 204 rfl)) (notFace_of_selects (args := #[]) (mvT hZ (wq hw 206 rfl))) (mvT hZ (wq hw 206 rfl)) (mvT hZ (wq hw 205 rfl)) (by decide) (backOf (W := 0) (rm_del00 l Z a0 hw [] it T23.heap n0 Z24 F_label_it F_printed_it) hZ (wq hw 207 rfl) (wq hw 67 rfl) (by decide) (by decide)) q25a q25c (g := (mkF m 192 #[.val (.int p1), .val (.int p2), .val (.int p3), .val (.int p4), .val (.int p5), .val (.int kk), .val (.ref a), .val (.ref b), .val .null, .val .null, .val (.int (0 : Int32)), .val (.ref li), .val (.ref it), .val (.ref kids), .val (.ref pa)] [(.ref it)])) rfl (by rw [hml]; rfl) (Steps.refl _) (argsL := []) (rest := []) (lenOf pd__28_29Z rfl) rfl (by show 2 * 0 + _ ≤ _; exact Nat.le_of_eq rfl) (hb hby at_192) (fun _ _ => ⟨rfl, rfl, (by decide : 13 + 0 ≤ _), (by decide : 41 + 0 ≤ _)⟩)
    dsimp only [Pt.U, Pt.locs, Pt.cells, Pt.slots] at X25 l25 y25 z25 st25 hQ25
    subst l25 y25 z25
    obtain ⟨rfl, N25q, HQ25⟩ := hQ25
    have N25 := Fr.app N23 N25q
    refine Goes.pre (U' := T25.setTop (mkF m 197 #[.val (.int p1), .val (.int p2), .val (.int p3), .val (.int p4), .val (.int p5), .val (.int kk), .val (.ref a), .val (.ref b), .val .null, .val .null, .val (.int (0 : Int32)), .val (.ref li), .val (.ref it), .val (.ref kids), .val (.ref pa)] [(.int (0 : Int32)), (.int (0 : Int32))])) (fun t k => st25.trans (XS.iload X25.here hx rfl (hb hby at_195) rfl k)) ?_
    have hc197 : (0 : Int32) = (0 : Int32) := rfl
    refine Goes.pre (U' := T25.setTop (mkF m 203 #[.val (.int p1), .val (.int p2), .val (.int p3), .val (.int p4), .val (.int p5), .val (.int kk), .val (.ref a), .val (.ref b), .val .null, .val .null, .val (.int (0 : Int32)), .val (.ref li), .val (.ref it), .val (.ref kids), .val (.ref pa)] [(.int p4), (.ref pa)])) (fun t k => XS.icmpNo X25.here hx rfl (hb hby at_197) rfl (teq hc197).2 (XS.aload X25.here hx rfl (hb hby at_200) rfl rfl (XS.iloadN X25.here hx rfl (hb hby at_202) rfl k))) ?_
    obtain ⟨cq26, kq26, q26a, q26b, q26c⟩ := isOf hZ HQ25 E_pa
    obtain ⟨_, _, ⟨T26, L26, k26, n26⟩, -, X26, ⟨Lc26, hQ26, l26, y26, z26⟩, st26⟩ := X25.virtualBack hx (y := (⟨"com/example/restate/restate/plan/Item", "deletedBefore", "(I)I"⟩ : MethodName)) (z := (⟨"com/example/restate/restate/plan/Item", "deletedBefore", "(I)I"⟩ : MethodName)) hown (mvT hZ (wq hw 208 rfl)) (mvT hZ (wq hw 209 rfl)) (notFace_of_selects (args := #[]) (mvT hZ (wq hw 211 rfl))) (mvT hZ (wq hw 211 rfl)) (mvT hZ (wq hw 210 rfl)) (by decide) (backOf (W := 0) (rm_dbP00 l Z a0 hw [] pa p4 r23 it em el ea ke T23.heap n0 Z24 F_children_pa E_r23 F_e0_r23 F_e1_r23 S_EMPTY E_el F_elements_el V_ea F_label_it F_printed_it F_start_it F_children_it E_it O) hZ (wq hw 212 rfl) (wq hw 67 rfl) (by decide) (by decide)) q26a q26c (g := (mkF m 203 #[.val (.int p1), .val (.int p2), .val (.int p3), .val (.int p4), .val (.int p5), .val (.int kk), .val (.ref a), .val (.ref b), .val .null, .val .null, .val (.int (0 : Int32)), .val (.ref li), .val (.ref it), .val (.ref kids), .val (.ref pa)] [(.int p4), (.ref pa)])) rfl (by rw [hml]; rfl) (Steps.refl _) (argsL := [(.int p4)]) (rest := []) (lenOf pd__28I_29I rfl) rfl (by show 2 * 0 + _ ≤ _; exact Nat.le_of_eq rfl) (hb hby at_203) (fun _ _ => ⟨rfl, HQ25, (by decide : 13 + 2 ≤ _), (by decide : 41 + 8 ≤ _)⟩)
    dsimp only [Pt.U, Pt.locs, Pt.cells, Pt.slots] at X26 l26 y26 z26 st26 hQ26
    subst l26 y26 z26
    obtain ⟨rfl, N26q, KQ26⟩ := hQ26
    have N26 := Fr.app N25 N26q
    have E_a := E_a.keep KQ26
    have E_r2 := E_r2.keep KQ26
    have E_b := E_b.keep KQ26
    have E_r7 := E_r7.keep KQ26
    have E_li := E_li.keep KQ26
    have F_modCount_li := F_modCount_li.keep KQ26 nin0
    have F_size_li := F_size_li.keep KQ26 nin0
    have F_elementData_li := F_elementData_li.keep KQ26 nin0
    have E_it := E_it.keep KQ26
    have F_label_it := F_label_it.keep KQ26 nin0
    have F_printed_it := F_printed_it.keep KQ26 nin0
    have F_start_it := F_start_it.keep KQ26 nin0
    have F_end_it := F_end_it.keep KQ26 nin0
    have F_children_it := F_children_it.keep KQ26 nin0
    have E_kids := E_kids.keep KQ26
    have F_modCount_kids := F_modCount_kids.keep KQ26 nin0
    have F_size_kids := F_size_kids.keep KQ26 nin0
    have F_elementData_kids := F_elementData_kids.keep KQ26 nin0
    have E_r20 := E_r20.keep KQ26
    have V_r20 := V_r20.keep KQ26 nin0
    have E_pa := E_pa.keep KQ26
    have F_label_pa := F_label_pa.keep KQ26 nin0
    have F_printed_pa := F_printed_pa.keep KQ26 nin0
    have F_start_pa := F_start_pa.keep KQ26 nin0
    have F_end_pa := F_end_pa.keep KQ26 nin0
    have F_children_pa := F_children_pa.keep KQ26 nin0
    have E_r23 := E_r23.keep KQ26
    have F_e0_r23 := F_e0_r23.keep KQ26 nin0
    have F_e1_r23 := F_e1_r23.keep KQ26 nin0
    have Z27 : n0 ≤ T26.heap.size := Nat.le_trans Z24 KQ26.1
    have O := O.keep KQ26 all0
    refine Goes.pre (U' := T26.setTop (mkF m 208 #[.val (.int p1), .val (.int p2), .val (.int p3), .val (.int p4), .val (.int p5), .val (.int kk), .val (.ref a), .val (.ref b), .val .null, .val .null, .val (.int (0 : Int32)), .val (.ref li), .val (.ref it), .val (.ref kids), .val (.ref pa)] [(.int (0 : Int32)), (.int (0 : Int32))])) (fun t k => st26.trans (XS.iload X26.here hx rfl (hb hby at_206) rfl k)) ?_
    have hc208 : (0 : Int32) = (0 : Int32) := rfl
    refine Goes.pre (U' := T26.setTop (mkF m 216 #[.val (.int p1), .val (.int p2), .val (.int p3), .val (.int p4), .val (.int p5), .val (.int kk), .val (.ref a), .val (.ref b), .val .null, .val .null, .val (.int (0 : Int32)), .val (.ref li), .val (.ref it), .val (.ref kids), .val (.ref pa)] [(.int (0 : Int32)), (.int (0 : Int32))])) (fun t k => XS.ifYes X26.here hx rfl (pc0 := 208) (pc' := 215) rfl (hb hby at_208) rfl ((if0 _ _).trans (teq hc208).1) (by decide) (by decide) (XS.iconst X26.here hx rfl (hb hby at_215) k)) ?_
    have hc216 : (0 : Int32) = (0 : Int32) := rfl
    refine Goes.pre (U' := T26.setTop (mkF m 221 #[.val (.int p1), .val (.int p2), .val (.int p3), .val (.int p4), .val (.int p5), .val (.int kk), .val (.ref a), .val (.ref b), .val .null, .val .null, .val (.int (0 : Int32)), .val (.ref li), .val (.ref it), .val (.ref kids), .val (.ref pa)] [(.ref pa)])) (fun t k => XS.icmpNo X26.here hx rfl (hb hby at_216) rfl (teq hc216).2 (XS.aload X26.here hx rfl (hb hby at_219) rfl rfl k)) ?_
    obtain ⟨cq28, kq28, q28a, q28b, q28c⟩ := isOf hZ rfl E_pa
    obtain ⟨_, _, ⟨T28, L28, k28, n28⟩, -, X28, ⟨Lc28, hQ28, l28, y28, z28⟩, st28⟩ := X26.virtualBack hx (y := (⟨"com/example/restate/restate/plan/Item", "deleted", "()Z"⟩ : MethodName)) (z := (⟨"com/example/restate/restate/plan/Item", "deleted", "()Z"⟩ : MethodName)) hown (mvT hZ (wq hw 203 rfl)) (mvT hZ (wq hw 204 rfl)) (notFace_of_selects (args := #[]) (mvT hZ (wq hw 206 rfl))) (mvT hZ (wq hw 206 rfl)) (mvT hZ (wq hw 205 rfl)) (by decide) (backOf (W := 0) (rm_del00 l Z a0 hw [] pa T26.heap n0 Z27 F_label_pa F_printed_pa) hZ (wq hw 207 rfl) (wq hw 67 rfl) (by decide) (by decide)) q28a q28c (g := (mkF m 221 #[.val (.int p1), .val (.int p2), .val (.int p3), .val (.int p4), .val (.int p5), .val (.int kk), .val (.ref a), .val (.ref b), .val .null, .val .null, .val (.int (0 : Int32)), .val (.ref li), .val (.ref it), .val (.ref kids), .val (.ref pa)] [(.ref pa)])) rfl (by rw [hml]; rfl) (Steps.refl _) (argsL := []) (rest := []) (lenOf pd__28_29Z rfl) rfl (by show 2 * 0 + _ ≤ _; exact Nat.le_of_eq rfl) (hb hby at_221) (fun _ _ => ⟨rfl, rfl, (by decide : 15 + 0 ≤ _), (by decide : 49 + 0 ≤ _)⟩)
    dsimp only [Pt.U, Pt.locs, Pt.cells, Pt.slots] at X28 l28 y28 z28 st28 hQ28
    subst l28 y28 z28
    obtain ⟨rfl, N28q, HQ28⟩ := hQ28
    have N28 := Fr.app N26 N28q
    refine Goes.pre (U' := T28.setTop (mkF m 224 #[.val (.int p1), .val (.int p2), .val (.int p3), .val (.int p4), .val (.int p5), .val (.int kk), .val (.ref a), .val (.ref b), .val .null, .val .null, .val (.int (0 : Int32)), .val (.ref li), .val (.ref it), .val (.ref kids), .val (.ref pa)] [(.int (0 : Int32))])) (fun t k => st28.trans k) ?_
    have hc224 : (0 : Int32) = (0 : Int32) := rfl
    refine Goes.pre (U' := T28.setTop (mkF m 232 #[.val (.int p1), .val (.int p2), .val (.int p3), .val (.int p4), .val (.int p5), .val (.int kk), .val (.ref a), .val (.ref b), .val .null, .val .null, .val (.int (0 : Int32)), .val (.ref li), .val (.ref it), .val (.ref kids), .val (.ref pa)] [(.int (1 : Int32))])) (fun t k => XS.ifNo X28.here hx rfl (hb hby at_224) rfl ((if0 _ _).trans (teq hc224).2) (XS.iconst X28.here hx rfl (hb hby at_227) (XS.goto X28.here hx rfl (pc0 := 228) (pc' := 232) rfl (hb hby at_228) (by decide) (by decide) k))) ?_
    refine Goes.ret X28 (v := (some (.int (1 : Int32)))) (fun h => by rw [hret] at h; cases h) hlk (by decide) (by decide) HQ28 (fun fs hr => retN X28 hx (t := .boolean) hret (by simp) (hb hby at_232) hr) ?_
    exact ⟨rfl, N28⟩
  ·
    refine Goes.pre (U' := T9.setTop (mkF m 64 #[.val (.int p1), .val (.int p2), .val (.int p3), .val (.int p4), .val (.int p5), .val (.int kk), .val (.ref a), .val (.ref b), .unset, .unset, .unset, .unset, .unset, .unset, .unset] [(.int (1 : Int32)), (.int kk)])) (fun t k => XS.ifYes X9.here hx rfl (pc0 := 46) (pc' := 61) rfl (hb hby at_46) rfl ((if0 _ _).trans (feq hc46).2) (by decide) (by decide) (XS.iload X9.here hx rfl (hb hby at_61) rfl (XS.iconst X9.here hx rfl (hb hby at_63) k))) ?_
    by_cases hc64 : kk = (1 : Int32)
    ·
      refine Goes.pre (U' := T9.setTop (mkF m 130 #[.val (.int p1), .val (.int p2), .val (.int p3), .val (.int p4), .val (.int p5), .val (.int kk), .val (.ref a), .val (.ref b), .val (.ref a), .val (.ref a), .val (.int (0 : Int32)), .unset, .unset, .unset, .unset] [])) (fun t k => XS.icmpNo X9.here hx rfl (hb hby at_64) rfl (teq hc64).2 (XS.aload X9.here hx rfl (hb hby at_67) rfl rfl (XS.astore X9.here hx rfl (hb hby at_69) rfl rfl (l' := #[.val (.int p1), .val (.int p2), .val (.int p3), .val (.int p4), .val (.int p5), .val (.int kk), .val (.ref a), .val (.ref b), .val (.ref a), .unset, .unset, .unset, .unset, .unset, .unset]) rfl (XS.aload X9.here hx rfl (hb hby at_71) rfl rfl (XS.astore X9.here hx rfl (hb hby at_73) rfl rfl (l' := #[.val (.int p1), .val (.int p2), .val (.int p3), .val (.int p4), .val (.int p5), .val (.int kk), .val (.ref a), .val (.ref b), .val (.ref a), .val (.ref a), .unset, .unset, .unset, .unset, .unset]) rfl (XS.iconst X9.here hx rfl (hb hby at_75) (XS.istore X9.here hx rfl (hb hby at_76) rfl (l' := #[.val (.int p1), .val (.int p2), .val (.int p3), .val (.int p4), .val (.int p5), .val (.int kk), .val (.ref a), .val (.ref b), .val (.ref a), .val (.ref a), .val (.int (0 : Int32)), .unset, .unset, .unset, .unset]) rfl (XS.goto X9.here hx rfl (pc0 := 78) (pc' := 130) rfl (hb hby at_78) (by decide) (by decide) k)))))))) ?_
      obtain ⟨T29, h29, X29, e29, E29, A29, D29, -, st29⟩ := newO X9 hx hZ hown (wq hw 41 rfl) (wq hw 42 rfl) (wq hw 43 rfl) rfl (g := (mkF m 130 #[.val (.int p1), .val (.int p2), .val (.int p3), .val (.int p4), .val (.int p5), .val (.int kk), .val (.ref a), .val (.ref b), .val (.ref a), .val (.ref a), .val (.int (0 : Int32)), .unset, .unset, .unset, .unset] [])) rfl (hb hby at_130) (by decide) (by decide)
      obtain ⟨li, g29⟩ : ∃ z, z = T9.heap.size := ⟨_, rfl⟩
      rw [← g29] at A29 D29 st29
      have ne_a_li : a ≠ li := Nat.ne_of_lt (Nat.lt_of_lt_of_le E_a.lt (Nat.le_of_eq g29.symm))
      have ne_li_a := ne_a_li.symm
      have ne_b_li : b ≠ li := Nat.ne_of_lt (Nat.lt_of_lt_of_le E_b.lt (Nat.le_of_eq g29.symm))
      have ne_li_b := ne_b_li.symm
      have ne_dce_li : dce ≠ li := Nat.ne_of_lt (Nat.lt_of_lt_of_le (V_dce.ext O.2).lt (Nat.le_of_eq g29.symm))
      have ne_li_dce := ne_dce_li.symm
      have ne_ea_li : ea ≠ li := Nat.ne_of_lt (Nat.lt_of_lt_of_le (V_ea.ext O.2).lt (Nat.le_of_eq g29.symm))
      have ne_li_ea := ne_ea_li.symm
      have ne_el_li : el ≠ li := Nat.ne_of_lt (Nat.lt_of_lt_of_le (E_el.ext O.2).lt (Nat.le_of_eq g29.symm))
      have ne_li_el := ne_el_li.symm
      have ne_r2_li : r2 ≠ li := Nat.ne_of_lt (Nat.lt_of_lt_of_le E_r2.lt (Nat.le_of_eq g29.symm))
      have ne_li_r2 := ne_r2_li.symm
      have ne_r7_li : r7 ≠ li := Nat.ne_of_lt (Nat.lt_of_lt_of_le E_r7.lt (Nat.le_of_eq g29.symm))
      have ne_li_r7 := ne_r7_li.symm
      have g_li : n0 ≤ li := Nat.le_trans Z10 (Nat.le_of_eq g29.symm)
      have E_a := E_a.ext E29
      have E_r2 := E_r2.ext E29
      have E_b := E_b.ext E29
      have E_r7 := E_r7.ext E29
      have O := O.ext E29
      have Z29 : n0 ≤ h29.size := Nat.le_trans Z10 E29.1
      have E_li := A29
      have F_modCount_li : Fld Z h29 li "java/util/AbstractList" "modCount" "I" (.int (0 : Int32)) := D29 (Or.inl (wq hw 61 rfl)) (ty := .int) (by decide)
      have F_elementData_li : Fld Z h29 li "java/util/ArrayList" "elementData" "[Ljava/lang/Object;" .null := D29 (Or.inl (wq hw 64 rfl)) (ty := (.array (.object "java/lang/Object"))) (by decide)
      have F_size_li : Fld Z h29 li "java/util/ArrayList" "size" "I" (.int (0 : Int32)) := D29 (Or.inl (wq hw 96 rfl)) (ty := .int) (by decide)
      refine Goes.pre (U' := T29.setTop (mkF m 134 #[.val (.int p1), .val (.int p2), .val (.int p3), .val (.int p4), .val (.int p5), .val (.int kk), .val (.ref a), .val (.ref b), .val (.ref a), .val (.ref a), .val (.int (0 : Int32)), .unset, .unset, .unset, .unset] [(.ref li), (.ref li)])) (fun t k => st29 t (XS.dup X29.here hx rfl (hb hby at_133) rfl rfl k)) ?_
      obtain ⟨_, _, ⟨T30, L30, k30, n30⟩, -, X30, ⟨Lc30, hQ30, l30, y30, z30⟩, st30⟩ := X29.specialBack hx (y := (⟨"java/util/ArrayList", "<init>", "()V"⟩ : MethodName)) rfl hown (mvT hZ (wq hw 44 rfl)) (mvT hZ (wq hw 45 rfl)) (mvT hZ (wq hw 46 rfl)) (by decide) (backOf (W := 1) (rm_al l Z a0 hw [] li dce h29 n0 Z29 E_li F_modCount_li F_size_li F_elementData_li S_DEFAULTCAPACITY_EMPTY_ELEMENTDATA g_li O) hZ (wq hw 46 rfl) (wq hw 43 rfl) (by decide) (by decide)) (g := (mkF m 134 #[.val (.int p1), .val (.int p2), .val (.int p3), .val (.int p4), .val (.int p5), .val (.int kk), .val (.ref a), .val (.ref b), .val (.ref a), .val (.ref a), .val (.int (0 : Int32)), .unset, .unset, .unset, .unset] [(.ref li), (.ref li)])) rfl (by rw [hml]; rfl) (Steps.refl _) (a := li) (argsL := []) (rest := [(.ref li)]) (lenOf pd__28_29V rfl) rfl (by show 2 * 0 + _ ≤ _; exact Nat.le_of_eq rfl) (hb hby at_134) (fun _ _ => ⟨rfl, e29, (by decide : 7 + 0 ≤ _), (by decide : 15 + 0 ≤ _)⟩)
      dsimp only [Pt.U, Pt.locs, Pt.cells, Pt.slots] at X30 l30 y30 z30 st30 hQ30
      subst l30 y30 z30
      obtain ⟨rfl, N30q, KQ30, fo0_30, fo1_30, fo2_30⟩ := hQ30
      have N30 := Fr.app N9 N30q
      have E_a := E_a.keep KQ30
      have E_r2 := E_r2.keep KQ30
      have E_b := E_b.keep KQ30
      have E_r7 := E_r7.keep KQ30
      have E_li := E_li.keep KQ30
      have Z31 : n0 ≤ T30.heap.size := Nat.le_trans Z29 KQ30.1
      have O := O.keep KQ30 (allS (P := fun x => n0 ≤ x) g_li all0)
      have F_modCount_li := fo0_30
      have F_size_li := fo1_30
      have F_elementData_li := fo2_30
      refine Goes.pre (U' := T30.setTop (mkF m 139 #[.val (.int p1), .val (.int p2), .val (.int p3), .val (.int p4), .val (.int p5), .val (.int kk), .val (.ref a), .val (.ref b), .val (.ref a), .val (.ref a), .val (.int (0 : Int32)), .val (.ref li), .unset, .unset, .unset] [])) (fun t k => st30.trans (XS.astore X30.here hx rfl (hb hby at_137) rfl rfl (l' := #[.val (.int p1), .val (.int p2), .val (.int p3), .val (.int p4), .val (.int p5), .val (.int kk), .val (.ref a), .val (.ref b), .val (.ref a), .val (.ref a), .val (.int (0 : Int32)), .val (.ref li), .unset, .unset, .unset]) rfl k)) ?_
      obtain ⟨T32, h32, X32, e32, E32, A32, D32, -, st32⟩ := newO X30 hx hZ hown (wq hw 65 rfl) (wq hw 66 rfl) (wq hw 67 rfl) rfl (g := (mkF m 139 #[.val (.int p1), .val (.int p2), .val (.int p3), .val (.int p4), .val (.int p5), .val (.int kk), .val (.ref a), .val (.ref b), .val (.ref a), .val (.ref a), .val (.int (0 : Int32)), .val (.ref li), .unset, .unset, .unset] [])) rfl (hb hby at_139) (by decide) (by decide)
      obtain ⟨it, g32⟩ : ∃ z, z = T30.heap.size := ⟨_, rfl⟩
      rw [← g32] at A32 D32 st32
      have ne_a_it : a ≠ it := Nat.ne_of_lt (Nat.lt_of_lt_of_le E_a.lt (Nat.le_of_eq g32.symm))
      have ne_it_a := ne_a_it.symm
      have ne_b_it : b ≠ it := Nat.ne_of_lt (Nat.lt_of_lt_of_le E_b.lt (Nat.le_of_eq g32.symm))
      have ne_it_b := ne_b_it.symm
      have ne_dce_it : dce ≠ it := Nat.ne_of_lt (Nat.lt_of_lt_of_le (V_dce.ext O.2).lt (Nat.le_of_eq g32.symm))
      have ne_it_dce := ne_dce_it.symm
      have ne_ea_it : ea ≠ it := Nat.ne_of_lt (Nat.lt_of_lt_of_le (V_ea.ext O.2).lt (Nat.le_of_eq g32.symm))
      have ne_it_ea := ne_ea_it.symm
      have ne_el_it : el ≠ it := Nat.ne_of_lt (Nat.lt_of_lt_of_le (E_el.ext O.2).lt (Nat.le_of_eq g32.symm))
      have ne_it_el := ne_el_it.symm
      have ne_li_it : li ≠ it := Nat.ne_of_lt (Nat.lt_of_lt_of_le E_li.lt (Nat.le_of_eq g32.symm))
      have ne_it_li := ne_li_it.symm
      have ne_r2_it : r2 ≠ it := Nat.ne_of_lt (Nat.lt_of_lt_of_le E_r2.lt (Nat.le_of_eq g32.symm))
      have ne_it_r2 := ne_r2_it.symm
      have ne_r7_it : r7 ≠ it := Nat.ne_of_lt (Nat.lt_of_lt_of_le E_r7.lt (Nat.le_of_eq g32.symm))
      have ne_it_r7 := ne_r7_it.symm
      have g_it : n0 ≤ it := Nat.le_trans Z31 (Nat.le_of_eq g32.symm)
      have E_a := E_a.ext E32
      have E_r2 := E_r2.ext E32
      have E_b := E_b.ext E32
      have E_r7 := E_r7.ext E32
      have E_li := E_li.ext E32
      have F_modCount_li := F_modCount_li.ext E32
      have F_size_li := F_size_li.ext E32
      have F_elementData_li := F_elementData_li.ext E32
      have O := O.ext E32
      have Z32 : n0 ≤ h32.size := Nat.le_trans Z31 E32.1
      have E_it := A32
      have F_label_it : Fld Z h32 it "com/example/restate/restate/plan/Item" "label" "Lcom/example/restate/restate/plan/Label;" .null := D32 (Or.inr (wq hw 102 rfl)) (ty := (.object "com/example/restate/restate/plan/Label")) (by decide)
      have F_printed_it : Fld Z h32 it "com/example/restate/restate/plan/Item" "printed" "Lcom/example/restate/restate/plan/Label;" .null := D32 (Or.inr (wq hw 104 rfl)) (ty := (.object "com/example/restate/restate/plan/Label")) (by decide)
      have F_start_it : Fld Z h32 it "com/example/restate/restate/plan/Item" "start" "I" (.int (0 : Int32)) := D32 (Or.inr (wq hw 106 rfl)) (ty := .int) (by decide)
      have F_end_it : Fld Z h32 it "com/example/restate/restate/plan/Item" "end" "I" (.int (0 : Int32)) := D32 (Or.inr (wq hw 108 rfl)) (ty := .int) (by decide)
      have F_children_it : Fld Z h32 it "com/example/restate/restate/plan/Item" "children" "Ljava/util/List;" .null := D32 (Or.inr (wq hw 110 rfl)) (ty := (.object "java/util/List")) (by decide)
      refine Goes.pre (U' := T32.setTop (mkF m 152 #[.val (.int p1), .val (.int p2), .val (.int p3), .val (.int p4), .val (.int p5), .val (.int kk), .val (.ref a), .val (.ref b), .val (.ref a), .val (.ref a), .val (.int (0 : Int32)), .val (.ref li), .unset, .unset, .unset] [(.ref li), (.int p5), (.int p4), (.ref a), (.ref a), (.ref it), (.ref it)])) (fun t k => st32 t (XS.dup X32.here hx rfl (hb hby at_142) rfl rfl (XS.aload X32.here hx rfl (hb hby at_143) rfl rfl (XS.aload X32.here hx rfl (hb hby at_145) rfl rfl (XS.iloadN X32.here hx rfl (hb hby at_147) rfl (XS.iload X32.here hx rfl (hb hby at_148) rfl (XS.aload X32.here hx rfl (hb hby at_150) rfl rfl k))))))) ?_
      obtain ⟨_, _, ⟨T33, L33, k33, n33⟩, -, X33, ⟨Lc33, hQ33, l33, y33, z33⟩, st33⟩ := X32.specialBack hx (y := (⟨"com/example/restate/restate/plan/Item", "<init>", "(Lcom/example/restate/restate/plan/Label;Lcom/example/restate/restate/plan/Label;IILjava/util/List;)V"⟩ : MethodName)) rfl hown (mvT hZ (wq hw 68 rfl)) (mvT hZ (wq hw 69 rfl)) (mvT hZ (wq hw 70 rfl)) (by decide) (backOf (W := 1) (rm_item11 l Z a0 hw [] it a a p4 p5 li el h32 n0 Z32 E_it E_li F_size_li S_EMPTY_LIST F_label_it F_printed_it F_start_it F_end_it F_children_it ne_it_li ne_li_it g_it O) hZ (wq hw 70 rfl) (wq hw 67 rfl) (by decide) (by decide)) (g := (mkF m 152 #[.val (.int p1), .val (.int p2), .val (.int p3), .val (.int p4), .val (.int p5), .val (.int kk), .val (.ref a), .val (.ref b), .val (.ref a), .val (.ref a), .val (.int (0 : Int32)), .val (.ref li), .unset, .unset, .unset] [(.ref li), (.int p5), (.int p4), (.ref a), (.ref a), (.ref it), (.ref it)])) rfl (by rw [hml]; rfl) (Steps.refl _) (a := it) (argsL := [(.ref a), (.ref a), (.int p4), (.int p5), (.ref li)]) (rest := [(.ref it)]) (lenOf pd__28Lcom_2fexample_2frestate_2frestate_2fplan_2fLabel_3bLcom_2fexample_2frestate_2frestate_2fplan_2fLabel_3bIILjava_2futil_2fList_3b_29V rfl) rfl (by show 2 * 0 + _ ≤ _; exact Nat.le_of_eq rfl) (hb hby at_152) (fun _ _ => ⟨rfl, e32, (by decide : 8 + 0 ≤ _), (by decide : 20 + 0 ≤ _)⟩)
      dsimp only [Pt.U, Pt.locs, Pt.cells, Pt.slots] at X33 l33 y33 z33 st33 hQ33
      subst l33 y33 z33
      obtain ⟨rfl, N33q, KQ33, fo0_33, fo1_33, fo2_33, fo3_33, fo4_33⟩ := hQ33
      have N33 := Fr.app N30 N33q
      have E_a := E_a.keep KQ33
      have E_r2 := E_r2.keep KQ33
      have E_b := E_b.keep KQ33
      have E_r7 := E_r7.keep KQ33
      have E_li := E_li.keep KQ33
      have F_modCount_li := F_modCount_li.keep KQ33 (ninS ne_li_it nin0)
      have F_size_li := F_size_li.keep KQ33 (ninS ne_li_it nin0)
      have F_elementData_li := F_elementData_li.keep KQ33 (ninS ne_li_it nin0)
      have E_it := E_it.keep KQ33
      have Z34 : n0 ≤ T33.heap.size := Nat.le_trans Z32 KQ33.1
      have O := O.keep KQ33 (allS (P := fun x => n0 ≤ x) g_it all0)
      have F_label_it := fo0_33
      have F_printed_it := fo1_33
      have F_start_it := fo2_33
      have F_end_it := fo3_33
      have F_children_it := fo4_33
      refine Goes.pre (U' := T33.setTop (mkF m 157 #[.val (.int p1), .val (.int p2), .val (.int p3), .val (.int p4), .val (.int p5), .val (.int kk), .val (.ref a), .val (.ref b), .val (.ref a), .val (.ref a), .val (.int (0 : Int32)), .val (.ref li), .val (.ref it), .unset, .unset] [])) (fun t k => st33.trans (XS.astore X33.here hx rfl (hb hby at_155) rfl rfl (l' := #[.val (.int p1), .val (.int p2), .val (.int p3), .val (.int p4), .val (.int p5), .val (.int kk), .val (.ref a), .val (.ref b), .val (.ref a), .val (.ref a), .val (.int (0 : Int32)), .val (.ref li), .val (.ref it), .unset, .unset]) rfl k)) ?_
      obtain ⟨T35, h35, X35, e35, E35, A35, D35, -, st35⟩ := newO X33 hx hZ hown (wq hw 41 rfl) (wq hw 42 rfl) (wq hw 43 rfl) rfl (g := (mkF m 157 #[.val (.int p1), .val (.int p2), .val (.int p3), .val (.int p4), .val (.int p5), .val (.int kk), .val (.ref a), .val (.ref b), .val (.ref a), .val (.ref a), .val (.int (0 : Int32)), .val (.ref li), .val (.ref it), .unset, .unset] [])) rfl (hb hby at_157) (by decide) (by decide)
      obtain ⟨kids, g35⟩ : ∃ z, z = T33.heap.size := ⟨_, rfl⟩
      rw [← g35] at A35 D35 st35
      have ne_a_kids : a ≠ kids := Nat.ne_of_lt (Nat.lt_of_lt_of_le E_a.lt (Nat.le_of_eq g35.symm))
      have ne_kids_a := ne_a_kids.symm
      have ne_b_kids : b ≠ kids := Nat.ne_of_lt (Nat.lt_of_lt_of_le E_b.lt (Nat.le_of_eq g35.symm))
      have ne_kids_b := ne_b_kids.symm
      have ne_dce_kids : dce ≠ kids := Nat.ne_of_lt (Nat.lt_of_lt_of_le (V_dce.ext O.2).lt (Nat.le_of_eq g35.symm))
      have ne_kids_dce := ne_dce_kids.symm
      have ne_ea_kids : ea ≠ kids := Nat.ne_of_lt (Nat.lt_of_lt_of_le (V_ea.ext O.2).lt (Nat.le_of_eq g35.symm))
      have ne_kids_ea := ne_ea_kids.symm
      have ne_el_kids : el ≠ kids := Nat.ne_of_lt (Nat.lt_of_lt_of_le (E_el.ext O.2).lt (Nat.le_of_eq g35.symm))
      have ne_kids_el := ne_el_kids.symm
      have ne_it_kids : it ≠ kids := Nat.ne_of_lt (Nat.lt_of_lt_of_le E_it.lt (Nat.le_of_eq g35.symm))
      have ne_kids_it := ne_it_kids.symm
      have ne_li_kids : li ≠ kids := Nat.ne_of_lt (Nat.lt_of_lt_of_le E_li.lt (Nat.le_of_eq g35.symm))
      have ne_kids_li := ne_li_kids.symm
      have ne_r2_kids : r2 ≠ kids := Nat.ne_of_lt (Nat.lt_of_lt_of_le E_r2.lt (Nat.le_of_eq g35.symm))
      have ne_kids_r2 := ne_r2_kids.symm
      have ne_r7_kids : r7 ≠ kids := Nat.ne_of_lt (Nat.lt_of_lt_of_le E_r7.lt (Nat.le_of_eq g35.symm))
      have ne_kids_r7 := ne_r7_kids.symm
      have g_kids : n0 ≤ kids := Nat.le_trans Z34 (Nat.le_of_eq g35.symm)
      have E_a := E_a.ext E35
      have E_r2 := E_r2.ext E35
      have E_b := E_b.ext E35
      have E_r7 := E_r7.ext E35
      have E_li := E_li.ext E35
      have F_modCount_li := F_modCount_li.ext E35
      have F_size_li := F_size_li.ext E35
      have F_elementData_li := F_elementData_li.ext E35
      have E_it := E_it.ext E35
      have F_label_it := F_label_it.ext E35
      have F_printed_it := F_printed_it.ext E35
      have F_start_it := F_start_it.ext E35
      have F_end_it := F_end_it.ext E35
      have F_children_it := F_children_it.ext E35
      have O := O.ext E35
      have Z35 : n0 ≤ h35.size := Nat.le_trans Z34 E35.1
      have E_kids := A35
      have F_modCount_kids : Fld Z h35 kids "java/util/AbstractList" "modCount" "I" (.int (0 : Int32)) := D35 (Or.inl (wq hw 61 rfl)) (ty := .int) (by decide)
      have F_elementData_kids : Fld Z h35 kids "java/util/ArrayList" "elementData" "[Ljava/lang/Object;" .null := D35 (Or.inl (wq hw 64 rfl)) (ty := (.array (.object "java/lang/Object"))) (by decide)
      have F_size_kids : Fld Z h35 kids "java/util/ArrayList" "size" "I" (.int (0 : Int32)) := D35 (Or.inl (wq hw 96 rfl)) (ty := .int) (by decide)
      refine Goes.pre (U' := T35.setTop (mkF m 161 #[.val (.int p1), .val (.int p2), .val (.int p3), .val (.int p4), .val (.int p5), .val (.int kk), .val (.ref a), .val (.ref b), .val (.ref a), .val (.ref a), .val (.int (0 : Int32)), .val (.ref li), .val (.ref it), .unset, .unset] [(.ref kids), (.ref kids)])) (fun t k => st35 t (XS.dup X35.here hx rfl (hb hby at_160) rfl rfl k)) ?_
      obtain ⟨_, _, ⟨T36, L36, k36, n36⟩, -, X36, ⟨Lc36, hQ36, l36, y36, z36⟩, st36⟩ := X35.specialBack hx (y := (⟨"java/util/ArrayList", "<init>", "()V"⟩ : MethodName)) rfl hown (mvT hZ (wq hw 44 rfl)) (mvT hZ (wq hw 45 rfl)) (mvT hZ (wq hw 46 rfl)) (by decide) (backOf (W := 1) (rm_al l Z a0 hw [] kids dce h35 n0 Z35 E_kids F_modCount_kids F_size_kids F_elementData_kids S_DEFAULTCAPACITY_EMPTY_ELEMENTDATA g_kids O) hZ (wq hw 46 rfl) (wq hw 43 rfl) (by decide) (by decide)) (g := (mkF m 161 #[.val (.int p1), .val (.int p2), .val (.int p3), .val (.int p4), .val (.int p5), .val (.int kk), .val (.ref a), .val (.ref b), .val (.ref a), .val (.ref a), .val (.int (0 : Int32)), .val (.ref li), .val (.ref it), .unset, .unset] [(.ref kids), (.ref kids)])) rfl (by rw [hml]; rfl) (Steps.refl _) (a := kids) (argsL := []) (rest := [(.ref kids)]) (lenOf pd__28_29V rfl) rfl (by show 2 * 0 + _ ≤ _; exact Nat.le_of_eq rfl) (hb hby at_161) (fun _ _ => ⟨rfl, e35, (by decide : 9 + 0 ≤ _), (by decide : 23 + 0 ≤ _)⟩)
      dsimp only [Pt.U, Pt.locs, Pt.cells, Pt.slots] at X36 l36 y36 z36 st36 hQ36
      subst l36 y36 z36
      obtain ⟨rfl, N36q, KQ36, fo0_36, fo1_36, fo2_36⟩ := hQ36
      have N36 := Fr.app N33 N36q
      have E_a := E_a.keep KQ36
      have E_r2 := E_r2.keep KQ36
      have E_b := E_b.keep KQ36
      have E_r7 := E_r7.keep KQ36
      have E_li := E_li.keep KQ36
      have F_modCount_li := F_modCount_li.keep KQ36 (ninS ne_li_kids nin0)
      have F_size_li := F_size_li.keep KQ36 (ninS ne_li_kids nin0)
      have F_elementData_li := F_elementData_li.keep KQ36 (ninS ne_li_kids nin0)
      have E_it := E_it.keep KQ36
      have F_label_it := F_label_it.keep KQ36 (ninS ne_it_kids nin0)
      have F_printed_it := F_printed_it.keep KQ36 (ninS ne_it_kids nin0)
      have F_start_it := F_start_it.keep KQ36 (ninS ne_it_kids nin0)
      have F_end_it := F_end_it.keep KQ36 (ninS ne_it_kids nin0)
      have F_children_it := F_children_it.keep KQ36 (ninS ne_it_kids nin0)
      have E_kids := E_kids.keep KQ36
      have Z37 : n0 ≤ T36.heap.size := Nat.le_trans Z35 KQ36.1
      have O := O.keep KQ36 (allS (P := fun x => n0 ≤ x) g_kids all0)
      have F_modCount_kids := fo0_36
      have F_size_kids := fo1_36
      have F_elementData_kids := fo2_36
      refine Goes.pre (U' := T36.setTop (mkF m 170 #[.val (.int p1), .val (.int p2), .val (.int p3), .val (.int p4), .val (.int p5), .val (.int kk), .val (.ref a), .val (.ref b), .val (.ref a), .val (.ref a), .val (.int (0 : Int32)), .val (.ref li), .val (.ref it), .val (.ref kids), .unset] [(.ref it), (.ref kids)])) (fun t k => st36.trans (XS.astore X36.here hx rfl (hb hby at_164) rfl rfl (l' := #[.val (.int p1), .val (.int p2), .val (.int p3), .val (.int p4), .val (.int p5), .val (.int kk), .val (.ref a), .val (.ref b), .val (.ref a), .val (.ref a), .val (.int (0 : Int32)), .val (.ref li), .val (.ref it), .val (.ref kids), .unset]) rfl (XS.aload X36.here hx rfl (hb hby at_166) rfl rfl (XS.aload X36.here hx rfl (hb hby at_168) rfl rfl k)))) ?_
      have lt_a := E_a.lt
      have lt_b := E_b.lt
      have lt_dce := (V_dce.ext O.2).lt
      have lt_ea := (V_ea.ext O.2).lt
      have lt_el := (E_el.ext O.2).lt
      have lt_it := E_it.lt
      have lt_kids := E_kids.lt
      have lt_li := E_li.lt
      have lt_r2 := E_r2.lt
      have lt_r7 := E_r7.lt
      obtain ⟨cq38, kq38, q38a, q38b, q38c⟩ := isOf hZ rfl E_kids
      obtain ⟨_, _, ⟨T38, L38, k38, n38⟩, -, X38, ⟨Lc38, hQ38, l38, y38, z38⟩, st38⟩ := X36.virtualBack hx (y := (⟨"java/util/ArrayList", "add", "(Ljava/lang/Object;)Z"⟩ : MethodName)) (z := (⟨"java/util/ArrayList", "add", "(Ljava/lang/Object;)Z"⟩ : MethodName)) hown (mvT hZ (wq hw 111 rfl)) (mvT hZ (wq hw 112 rfl)) (notFace_of_selects (args := #[]) (mvT hZ (wq hw 114 rfl))) (mvT hZ (wq hw 114 rfl)) (mvT hZ (wq hw 113 rfl)) (by decide) (backOf (W := 0) (rm_add l Z a0 hw [] kids it dce kd T36.heap n0 Z37 E_kids F_modCount_kids F_size_kids F_elementData_kids S_DEFAULTCAPACITY_EMPTY_ELEMENTDATA V_dce E_it g_kids O) hZ (wq hw 115 rfl) (wq hw 43 rfl) (by decide) (by decide)) q38a q38c (g := (mkF m 170 #[.val (.int p1), .val (.int p2), .val (.int p3), .val (.int p4), .val (.int p5), .val (.int kk), .val (.ref a), .val (.ref b), .val (.ref a), .val (.ref a), .val (.int (0 : Int32)), .val (.ref li), .val (.ref it), .val (.ref kids), .unset] [(.ref it), (.ref kids)])) rfl (by rw [hml]; rfl) (Steps.refl _) (argsL := [(.ref it)]) (rest := []) (lenOf pd__28Ljava_2flang_2fObject_3b_29Z rfl) rfl (by show 2 * 0 + _ ≤ _; exact Nat.le_of_eq rfl) (hb hby at_170) (fun _ _ => ⟨rfl, rfl, (by decide : 9 + 1 ≤ _), (by decide : 23 + 10 ≤ _)⟩)
      dsimp only [Pt.U, Pt.locs, Pt.cells, Pt.slots] at X38 l38 y38 z38 st38 hQ38
      subst l38 y38 z38
      obtain ⟨r38, kr38, rfl, N38q, KQ38, fo0_38, fo1_38, fo2_38, fo3_38, fo4_38, g_r38, sl_r38⟩ := hQ38
      have N38 := Fr.app N36 N38q
      have E_a := E_a.keep KQ38
      have E_r2 := E_r2.keep KQ38
      have E_b := E_b.keep KQ38
      have E_r7 := E_r7.keep KQ38
      have E_li := E_li.keep KQ38
      have F_modCount_li := F_modCount_li.keep KQ38 (ninS ne_li_kids nin0)
      have F_size_li := F_size_li.keep KQ38 (ninS ne_li_kids nin0)
      have F_elementData_li := F_elementData_li.keep KQ38 (ninS ne_li_kids nin0)
      have E_it := E_it.keep KQ38
      have F_label_it := F_label_it.keep KQ38 (ninS ne_it_kids nin0)
      have F_printed_it := F_printed_it.keep KQ38 (ninS ne_it_kids nin0)
      have F_start_it := F_start_it.keep KQ38 (ninS ne_it_kids nin0)
      have F_end_it := F_end_it.keep KQ38 (ninS ne_it_kids nin0)
      have F_children_it := F_children_it.keep KQ38 (ninS ne_it_kids nin0)
      have E_kids := E_kids.keep KQ38
      have Z39 : n0 ≤ T38.heap.size := Nat.le_trans Z37 KQ38.1
      have O := O.keep KQ38 (allS (P := fun x => n0 ≤ x) g_kids all0)
      have ne_a_r38 : a ≠ r38 := Nat.ne_of_lt (Nat.lt_of_lt_of_le lt_a sl_r38)
      have ne_r38_a := ne_a_r38.symm
      have ne_b_r38 : b ≠ r38 := Nat.ne_of_lt (Nat.lt_of_lt_of_le lt_b sl_r38)
      have ne_r38_b := ne_b_r38.symm
      have ne_dce_r38 : dce ≠ r38 := Nat.ne_of_lt (Nat.lt_of_lt_of_le lt_dce sl_r38)
      have ne_r38_dce := ne_dce_r38.symm
      have ne_ea_r38 : ea ≠ r38 := Nat.ne_of_lt (Nat.lt_of_lt_of_le lt_ea sl_r38)
      have ne_r38_ea := ne_ea_r38.symm
      have ne_el_r38 : el ≠ r38 := Nat.ne_of_lt (Nat.lt_of_lt_of_le lt_el sl_r38)
      have ne_r38_el := ne_el_r38.symm
      have ne_it_r38 : it ≠ r38 := Nat.ne_of_lt (Nat.lt_of_lt_of_le lt_it sl_r38)
      have ne_r38_it := ne_it_r38.symm
      have ne_kids_r38 : kids ≠ r38 := Nat.ne_of_lt (Nat.lt_of_lt_of_le lt_kids sl_r38)
      have ne_r38_kids := ne_kids_r38.symm
      have ne_li_r38 : li ≠ r38 := Nat.ne_of_lt (Nat.lt_of_lt_of_le lt_li sl_r38)
      have ne_r38_li := ne_li_r38.symm
      have ne_r2_r38 : r2 ≠ r38 := Nat.ne_of_lt (Nat.lt_of_lt_of_le lt_r2 sl_r38)
      have ne_r38_r2 := ne_r2_r38.symm
      have ne_r7_r38 : r7 ≠ r38 := Nat.ne_of_lt (Nat.lt_of_lt_of_le lt_r7 sl_r38)
      have ne_r38_r7 := ne_r7_r38.symm
      have F_modCount_kids := fo0_38
      have F_size_kids := fo1_38
      have F_elementData_kids := fo2_38
      have E_r38 := fo3_38
      have V_r38 := fo4_38
      refine Goes.pre (U' := T38.setTop (mkF m 174 #[.val (.int p1), .val (.int p2), .val (.int p3), .val (.int p4), .val (.int p5), .val (.int kk), .val (.ref a), .val (.ref b), .val (.ref a), .val (.ref a), .val (.int (0 : Int32)), .val (.ref li), .val (.ref it), .val (.ref kids), .unset] [])) (fun t k => st38.trans (XS.pop X38.here hx rfl (hb hby at_173) rfl rfl k)) ?_
      obtain ⟨T40, h40, X40, e40, E40, A40, D40, -, st40⟩ := newO X38 hx hZ hown (wq hw 65 rfl) (wq hw 66 rfl) (wq hw 67 rfl) rfl (g := (mkF m 174 #[.val (.int p1), .val (.int p2), .val (.int p3), .val (.int p4), .val (.int p5), .val (.int kk), .val (.ref a), .val (.ref b), .val (.ref a), .val (.ref a), .val (.int (0 : Int32)), .val (.ref li), .val (.ref it), .val (.ref kids), .unset] [])) rfl (hb hby at_174) (by decide) (by decide)
      obtain ⟨pa, g40⟩ : ∃ z, z = T38.heap.size := ⟨_, rfl⟩
      rw [← g40] at A40 D40 st40
      have ne_a_pa : a ≠ pa := Nat.ne_of_lt (Nat.lt_of_lt_of_le E_a.lt (Nat.le_of_eq g40.symm))
      have ne_pa_a := ne_a_pa.symm
      have ne_b_pa : b ≠ pa := Nat.ne_of_lt (Nat.lt_of_lt_of_le E_b.lt (Nat.le_of_eq g40.symm))
      have ne_pa_b := ne_b_pa.symm
      have ne_dce_pa : dce ≠ pa := Nat.ne_of_lt (Nat.lt_of_lt_of_le (V_dce.ext O.2).lt (Nat.le_of_eq g40.symm))
      have ne_pa_dce := ne_dce_pa.symm
      have ne_ea_pa : ea ≠ pa := Nat.ne_of_lt (Nat.lt_of_lt_of_le (V_ea.ext O.2).lt (Nat.le_of_eq g40.symm))
      have ne_pa_ea := ne_ea_pa.symm
      have ne_el_pa : el ≠ pa := Nat.ne_of_lt (Nat.lt_of_lt_of_le (E_el.ext O.2).lt (Nat.le_of_eq g40.symm))
      have ne_pa_el := ne_el_pa.symm
      have ne_it_pa : it ≠ pa := Nat.ne_of_lt (Nat.lt_of_lt_of_le E_it.lt (Nat.le_of_eq g40.symm))
      have ne_pa_it := ne_it_pa.symm
      have ne_kids_pa : kids ≠ pa := Nat.ne_of_lt (Nat.lt_of_lt_of_le E_kids.lt (Nat.le_of_eq g40.symm))
      have ne_pa_kids := ne_kids_pa.symm
      have ne_li_pa : li ≠ pa := Nat.ne_of_lt (Nat.lt_of_lt_of_le E_li.lt (Nat.le_of_eq g40.symm))
      have ne_pa_li := ne_li_pa.symm
      have ne_r2_pa : r2 ≠ pa := Nat.ne_of_lt (Nat.lt_of_lt_of_le E_r2.lt (Nat.le_of_eq g40.symm))
      have ne_pa_r2 := ne_r2_pa.symm
      have ne_r38_pa : r38 ≠ pa := Nat.ne_of_lt (Nat.lt_of_lt_of_le E_r38.lt (Nat.le_of_eq g40.symm))
      have ne_pa_r38 := ne_r38_pa.symm
      have ne_r7_pa : r7 ≠ pa := Nat.ne_of_lt (Nat.lt_of_lt_of_le E_r7.lt (Nat.le_of_eq g40.symm))
      have ne_pa_r7 := ne_r7_pa.symm
      have g_pa : n0 ≤ pa := Nat.le_trans Z39 (Nat.le_of_eq g40.symm)
      have E_a := E_a.ext E40
      have E_r2 := E_r2.ext E40
      have E_b := E_b.ext E40
      have E_r7 := E_r7.ext E40
      have E_li := E_li.ext E40
      have F_modCount_li := F_modCount_li.ext E40
      have F_size_li := F_size_li.ext E40
      have F_elementData_li := F_elementData_li.ext E40
      have E_it := E_it.ext E40
      have F_label_it := F_label_it.ext E40
      have F_printed_it := F_printed_it.ext E40
      have F_start_it := F_start_it.ext E40
      have F_end_it := F_end_it.ext E40
      have F_children_it := F_children_it.ext E40
      have E_kids := E_kids.ext E40
      have F_modCount_kids := F_modCount_kids.ext E40
      have F_size_kids := F_size_kids.ext E40
      have F_elementData_kids := F_elementData_kids.ext E40
      have E_r38 := E_r38.ext E40
      have V_r38 := V_r38.ext E40
      have O := O.ext E40
      have Z40 : n0 ≤ h40.size := Nat.le_trans Z39 E40.1
      have E_pa := A40
      have F_label_pa : Fld Z h40 pa "com/example/restate/restate/plan/Item" "label" "Lcom/example/restate/restate/plan/Label;" .null := D40 (Or.inr (wq hw 102 rfl)) (ty := (.object "com/example/restate/restate/plan/Label")) (by decide)
      have F_printed_pa : Fld Z h40 pa "com/example/restate/restate/plan/Item" "printed" "Lcom/example/restate/restate/plan/Label;" .null := D40 (Or.inr (wq hw 104 rfl)) (ty := (.object "com/example/restate/restate/plan/Label")) (by decide)
      have F_start_pa : Fld Z h40 pa "com/example/restate/restate/plan/Item" "start" "I" (.int (0 : Int32)) := D40 (Or.inr (wq hw 106 rfl)) (ty := .int) (by decide)
      have F_end_pa : Fld Z h40 pa "com/example/restate/restate/plan/Item" "end" "I" (.int (0 : Int32)) := D40 (Or.inr (wq hw 108 rfl)) (ty := .int) (by decide)
      have F_children_pa : Fld Z h40 pa "com/example/restate/restate/plan/Item" "children" "Ljava/util/List;" .null := D40 (Or.inr (wq hw 110 rfl)) (ty := (.object "java/util/List")) (by decide)
      refine Goes.pre (U' := T40.setTop (mkF m 185 #[.val (.int p1), .val (.int p2), .val (.int p3), .val (.int p4), .val (.int p5), .val (.int kk), .val (.ref a), .val (.ref b), .val (.ref a), .val (.ref a), .val (.int (0 : Int32)), .val (.ref li), .val (.ref it), .val (.ref kids), .unset] [(.ref kids), (.int p5), (.int p4), .null, .null, (.ref pa), (.ref pa)])) (fun t k => st40 t (XS.dup X40.here hx rfl (hb hby at_177) rfl rfl (XS.aconstNull X40.here hx rfl (hb hby at_178) (XS.aconstNull X40.here hx rfl (hb hby at_179) (XS.iloadN X40.here hx rfl (hb hby at_180) rfl (XS.iload X40.here hx rfl (hb hby at_181) rfl (XS.aload X40.here hx rfl (hb hby at_183) rfl rfl k))))))) ?_
      have lt_a := E_a.lt
      have lt_b := E_b.lt
      have lt_dce := (V_dce.ext O.2).lt
      have lt_ea := (V_ea.ext O.2).lt
      have lt_el := (E_el.ext O.2).lt
      have lt_it := E_it.lt
      have lt_kids := E_kids.lt
      have lt_li := E_li.lt
      have lt_pa := E_pa.lt
      have lt_r2 := E_r2.lt
      have lt_r38 := E_r38.lt
      have lt_r7 := E_r7.lt
      obtain ⟨_, _, ⟨T41, L41, k41, n41⟩, -, X41, ⟨Lc41, hQ41, l41, y41, z41⟩, st41⟩ := X40.specialBack hx (y := (⟨"com/example/restate/restate/plan/Item", "<init>", "(Lcom/example/restate/restate/plan/Label;Lcom/example/restate/restate/plan/Label;IILjava/util/List;)V"⟩ : MethodName)) rfl hown (mvT hZ (wq hw 68 rfl)) (mvT hZ (wq hw 69 rfl)) (mvT hZ (wq hw 70 rfl)) (by decide) (backOf (W := 1) (rm_itemP l Z a0 hw [] pa p4 p5 kids r38 kr38 it mr em h40 n0 Z40 E_kids F_size_kids F_elementData_kids E_r38 V_r38 E_it M__Ljava_lang_Object_ S_EMPTY E_pa F_label_pa F_printed_pa F_start_pa F_end_pa F_children_pa ne_kids_pa ne_r38_pa ne_it_pa g_pa O) hZ (wq hw 70 rfl) (wq hw 67 rfl) (by decide) (by decide)) (g := (mkF m 185 #[.val (.int p1), .val (.int p2), .val (.int p3), .val (.int p4), .val (.int p5), .val (.int kk), .val (.ref a), .val (.ref b), .val (.ref a), .val (.ref a), .val (.int (0 : Int32)), .val (.ref li), .val (.ref it), .val (.ref kids), .unset] [(.ref kids), (.int p5), (.int p4), .null, .null, (.ref pa), (.ref pa)])) rfl (by rw [hml]; rfl) (Steps.refl _) (a := pa) (argsL := [.null, .null, (.int p4), (.int p5), (.ref kids)]) (rest := [(.ref pa)]) (lenOf pd__28Lcom_2fexample_2frestate_2frestate_2fplan_2fLabel_3bLcom_2fexample_2frestate_2frestate_2fplan_2fLabel_3bIILjava_2futil_2fList_3b_29V rfl) rfl (by show 2 * 0 + _ ≤ _; exact Nat.le_of_eq rfl) (hb hby at_185) (fun _ _ => ⟨rfl, e40, (by decide : 11 + 2 ≤ _), (by decide : 38 + 3 ≤ _)⟩)
      dsimp only [Pt.U, Pt.locs, Pt.cells, Pt.slots] at X41 l41 y41 z41 st41 hQ41
      subst l41 y41 z41
      obtain ⟨r41, rfl, N41q, KQ41, fo0_41, fo1_41, fo2_41, fo3_41, fo4_41, fo5_41, fo6_41, fo7_41, g_r41, sl_r41⟩ := hQ41
      have N41 := Fr.app N38 N41q
      have E_a := E_a.keep KQ41
      have E_r2 := E_r2.keep KQ41
      have E_b := E_b.keep KQ41
      have E_r7 := E_r7.keep KQ41
      have E_li := E_li.keep KQ41
      have F_modCount_li := F_modCount_li.keep KQ41 (ninS ne_li_pa nin0)
      have F_size_li := F_size_li.keep KQ41 (ninS ne_li_pa nin0)
      have F_elementData_li := F_elementData_li.keep KQ41 (ninS ne_li_pa nin0)
      have E_it := E_it.keep KQ41
      have F_label_it := F_label_it.keep KQ41 (ninS ne_it_pa nin0)
      have F_printed_it := F_printed_it.keep KQ41 (ninS ne_it_pa nin0)
      have F_start_it := F_start_it.keep KQ41 (ninS ne_it_pa nin0)
      have F_end_it := F_end_it.keep KQ41 (ninS ne_it_pa nin0)
      have F_children_it := F_children_it.keep KQ41 (ninS ne_it_pa nin0)
      have E_kids := E_kids.keep KQ41
      have F_modCount_kids := F_modCount_kids.keep KQ41 (ninS ne_kids_pa nin0)
      have F_size_kids := F_size_kids.keep KQ41 (ninS ne_kids_pa nin0)
      have F_elementData_kids := F_elementData_kids.keep KQ41 (ninS ne_kids_pa nin0)
      have E_r38 := E_r38.keep KQ41
      have V_r38 := V_r38.keep KQ41 (ninS ne_r38_pa nin0)
      have E_pa := E_pa.keep KQ41
      have Z42 : n0 ≤ T41.heap.size := Nat.le_trans Z40 KQ41.1
      have O := O.keep KQ41 (allS (P := fun x => n0 ≤ x) g_pa all0)
      have ne_a_r41 : a ≠ r41 := Nat.ne_of_lt (Nat.lt_of_lt_of_le lt_a sl_r41)
      have ne_r41_a := ne_a_r41.symm
      have ne_b_r41 : b ≠ r41 := Nat.ne_of_lt (Nat.lt_of_lt_of_le lt_b sl_r41)
      have ne_r41_b := ne_b_r41.symm
      have ne_dce_r41 : dce ≠ r41 := Nat.ne_of_lt (Nat.lt_of_lt_of_le lt_dce sl_r41)
      have ne_r41_dce := ne_dce_r41.symm
      have ne_ea_r41 : ea ≠ r41 := Nat.ne_of_lt (Nat.lt_of_lt_of_le lt_ea sl_r41)
      have ne_r41_ea := ne_ea_r41.symm
      have ne_el_r41 : el ≠ r41 := Nat.ne_of_lt (Nat.lt_of_lt_of_le lt_el sl_r41)
      have ne_r41_el := ne_el_r41.symm
      have ne_it_r41 : it ≠ r41 := Nat.ne_of_lt (Nat.lt_of_lt_of_le lt_it sl_r41)
      have ne_r41_it := ne_it_r41.symm
      have ne_kids_r41 : kids ≠ r41 := Nat.ne_of_lt (Nat.lt_of_lt_of_le lt_kids sl_r41)
      have ne_r41_kids := ne_kids_r41.symm
      have ne_li_r41 : li ≠ r41 := Nat.ne_of_lt (Nat.lt_of_lt_of_le lt_li sl_r41)
      have ne_r41_li := ne_li_r41.symm
      have ne_pa_r41 : pa ≠ r41 := Nat.ne_of_lt (Nat.lt_of_lt_of_le lt_pa sl_r41)
      have ne_r41_pa := ne_pa_r41.symm
      have ne_r2_r41 : r2 ≠ r41 := Nat.ne_of_lt (Nat.lt_of_lt_of_le lt_r2 sl_r41)
      have ne_r41_r2 := ne_r2_r41.symm
      have ne_r38_r41 : r38 ≠ r41 := Nat.ne_of_lt (Nat.lt_of_lt_of_le lt_r38 sl_r41)
      have ne_r41_r38 := ne_r38_r41.symm
      have ne_r7_r41 : r7 ≠ r41 := Nat.ne_of_lt (Nat.lt_of_lt_of_le lt_r7 sl_r41)
      have ne_r41_r7 := ne_r7_r41.symm
      have F_label_pa := fo0_41
      have F_printed_pa := fo1_41
      have F_start_pa := fo2_41
      have F_end_pa := fo3_41
      have F_children_pa := fo4_41
      have E_r41 := fo5_41
      have F_e0_r41 := fo6_41
      have F_e1_r41 := fo7_41
      refine Goes.pre (U' := T41.setTop (mkF m 192 #[.val (.int p1), .val (.int p2), .val (.int p3), .val (.int p4), .val (.int p5), .val (.int kk), .val (.ref a), .val (.ref b), .val (.ref a), .val (.ref a), .val (.int (0 : Int32)), .val (.ref li), .val (.ref it), .val (.ref kids), .val (.ref pa)] [(.ref it)])) (fun t k => st41.trans (XS.astore X41.here hx rfl (hb hby at_188) rfl rfl (l' := #[.val (.int p1), .val (.int p2), .val (.int p3), .val (.int p4), .val (.int p5), .val (.int kk), .val (.ref a), .val (.ref b), .val (.ref a), .val (.ref a), .val (.int (0 : Int32)), .val (.ref li), .val (.ref it), .val (.ref kids), .val (.ref pa)]) rfl (XS.aload X41.here hx rfl (hb hby at_190) rfl rfl k))) ?_
      obtain ⟨cq43, kq43, q43a, q43b, q43c⟩ := isOf hZ rfl E_it
      obtain ⟨_, _, ⟨T43, L43, k43, n43⟩, -, X43, ⟨Lc43, hQ43, l43, y43, z43⟩, st43⟩ := X41.virtualBack hx (y := (⟨"com/example/restate/restate/plan/Item", "deleted", "()Z"⟩ : MethodName)) (z := (⟨"com/example/restate/restate/plan/Item", "deleted", "()Z"⟩ : MethodName)) hown (mvT hZ (wq hw 203 rfl)) (mvT hZ (wq hw 204 rfl)) (notFace_of_selects (args := #[]) (mvT hZ (wq hw 206 rfl))) (mvT hZ (wq hw 206 rfl)) (mvT hZ (wq hw 205 rfl)) (by decide) (backOf (W := 0) (rm_del11 l Z a0 hw [] it a a T41.heap n0 Z42 F_label_it F_printed_it) hZ (wq hw 207 rfl) (wq hw 67 rfl) (by decide) (by decide)) q43a q43c (g := (mkF m 192 #[.val (.int p1), .val (.int p2), .val (.int p3), .val (.int p4), .val (.int p5), .val (.int kk), .val (.ref a), .val (.ref b), .val (.ref a), .val (.ref a), .val (.int (0 : Int32)), .val (.ref li), .val (.ref it), .val (.ref kids), .val (.ref pa)] [(.ref it)])) rfl (by rw [hml]; rfl) (Steps.refl _) (argsL := []) (rest := []) (lenOf pd__28_29Z rfl) rfl (by show 2 * 0 + _ ≤ _; exact Nat.le_of_eq rfl) (hb hby at_192) (fun _ _ => ⟨rfl, rfl, (by decide : 13 + 0 ≤ _), (by decide : 41 + 0 ≤ _)⟩)
      dsimp only [Pt.U, Pt.locs, Pt.cells, Pt.slots] at X43 l43 y43 z43 st43 hQ43
      subst l43 y43 z43
      obtain ⟨rfl, N43q, HQ43⟩ := hQ43
      have N43 := Fr.app N41 N43q
      refine Goes.pre (U' := T43.setTop (mkF m 197 #[.val (.int p1), .val (.int p2), .val (.int p3), .val (.int p4), .val (.int p5), .val (.int kk), .val (.ref a), .val (.ref b), .val (.ref a), .val (.ref a), .val (.int (0 : Int32)), .val (.ref li), .val (.ref it), .val (.ref kids), .val (.ref pa)] [(.int (0 : Int32)), (.int (0 : Int32))])) (fun t k => st43.trans (XS.iload X43.here hx rfl (hb hby at_195) rfl k)) ?_
      have hc197 : (0 : Int32) = (0 : Int32) := rfl
      refine Goes.pre (U' := T43.setTop (mkF m 203 #[.val (.int p1), .val (.int p2), .val (.int p3), .val (.int p4), .val (.int p5), .val (.int kk), .val (.ref a), .val (.ref b), .val (.ref a), .val (.ref a), .val (.int (0 : Int32)), .val (.ref li), .val (.ref it), .val (.ref kids), .val (.ref pa)] [(.int p4), (.ref pa)])) (fun t k => XS.icmpNo X43.here hx rfl (hb hby at_197) rfl (teq hc197).2 (XS.aload X43.here hx rfl (hb hby at_200) rfl rfl (XS.iloadN X43.here hx rfl (hb hby at_202) rfl k))) ?_
      obtain ⟨cq44, kq44, q44a, q44b, q44c⟩ := isOf hZ HQ43 E_pa
      obtain ⟨_, _, ⟨T44, L44, k44, n44⟩, -, X44, ⟨Lc44, hQ44, l44, y44, z44⟩, st44⟩ := X43.virtualBack hx (y := (⟨"com/example/restate/restate/plan/Item", "deletedBefore", "(I)I"⟩ : MethodName)) (z := (⟨"com/example/restate/restate/plan/Item", "deletedBefore", "(I)I"⟩ : MethodName)) hown (mvT hZ (wq hw 208 rfl)) (mvT hZ (wq hw 209 rfl)) (notFace_of_selects (args := #[]) (mvT hZ (wq hw 211 rfl))) (mvT hZ (wq hw 211 rfl)) (mvT hZ (wq hw 210 rfl)) (by decide) (backOf (W := 0) (rm_dbP11 l Z a0 hw [] pa p4 r41 it a a em el ea ke T41.heap n0 Z42 F_children_pa E_r41 F_e0_r41 F_e1_r41 S_EMPTY E_el F_elements_el V_ea F_label_it F_printed_it F_start_it F_children_it E_it O) hZ (wq hw 212 rfl) (wq hw 67 rfl) (by decide) (by decide)) q44a q44c (g := (mkF m 203 #[.val (.int p1), .val (.int p2), .val (.int p3), .val (.int p4), .val (.int p5), .val (.int kk), .val (.ref a), .val (.ref b), .val (.ref a), .val (.ref a), .val (.int (0 : Int32)), .val (.ref li), .val (.ref it), .val (.ref kids), .val (.ref pa)] [(.int p4), (.ref pa)])) rfl (by rw [hml]; rfl) (Steps.refl _) (argsL := [(.int p4)]) (rest := []) (lenOf pd__28I_29I rfl) rfl (by show 2 * 0 + _ ≤ _; exact Nat.le_of_eq rfl) (hb hby at_203) (fun _ _ => ⟨rfl, HQ43, (by decide : 13 + 2 ≤ _), (by decide : 41 + 8 ≤ _)⟩)
      dsimp only [Pt.U, Pt.locs, Pt.cells, Pt.slots] at X44 l44 y44 z44 st44 hQ44
      subst l44 y44 z44
      obtain ⟨rfl, N44q, KQ44⟩ := hQ44
      have N44 := Fr.app N43 N44q
      have E_a := E_a.keep KQ44
      have E_r2 := E_r2.keep KQ44
      have E_b := E_b.keep KQ44
      have E_r7 := E_r7.keep KQ44
      have E_li := E_li.keep KQ44
      have F_modCount_li := F_modCount_li.keep KQ44 nin0
      have F_size_li := F_size_li.keep KQ44 nin0
      have F_elementData_li := F_elementData_li.keep KQ44 nin0
      have E_it := E_it.keep KQ44
      have F_label_it := F_label_it.keep KQ44 nin0
      have F_printed_it := F_printed_it.keep KQ44 nin0
      have F_start_it := F_start_it.keep KQ44 nin0
      have F_end_it := F_end_it.keep KQ44 nin0
      have F_children_it := F_children_it.keep KQ44 nin0
      have E_kids := E_kids.keep KQ44
      have F_modCount_kids := F_modCount_kids.keep KQ44 nin0
      have F_size_kids := F_size_kids.keep KQ44 nin0
      have F_elementData_kids := F_elementData_kids.keep KQ44 nin0
      have E_r38 := E_r38.keep KQ44
      have V_r38 := V_r38.keep KQ44 nin0
      have E_pa := E_pa.keep KQ44
      have F_label_pa := F_label_pa.keep KQ44 nin0
      have F_printed_pa := F_printed_pa.keep KQ44 nin0
      have F_start_pa := F_start_pa.keep KQ44 nin0
      have F_end_pa := F_end_pa.keep KQ44 nin0
      have F_children_pa := F_children_pa.keep KQ44 nin0
      have E_r41 := E_r41.keep KQ44
      have F_e0_r41 := F_e0_r41.keep KQ44 nin0
      have F_e1_r41 := F_e1_r41.keep KQ44 nin0
      have Z45 : n0 ≤ T44.heap.size := Nat.le_trans Z42 KQ44.1
      have O := O.keep KQ44 all0
      refine Goes.pre (U' := T44.setTop (mkF m 208 #[.val (.int p1), .val (.int p2), .val (.int p3), .val (.int p4), .val (.int p5), .val (.int kk), .val (.ref a), .val (.ref b), .val (.ref a), .val (.ref a), .val (.int (0 : Int32)), .val (.ref li), .val (.ref it), .val (.ref kids), .val (.ref pa)] [(.int (0 : Int32)), (.int (0 : Int32))])) (fun t k => st44.trans (XS.iload X44.here hx rfl (hb hby at_206) rfl k)) ?_
      have hc208 : (0 : Int32) = (0 : Int32) := rfl
      refine Goes.pre (U' := T44.setTop (mkF m 216 #[.val (.int p1), .val (.int p2), .val (.int p3), .val (.int p4), .val (.int p5), .val (.int kk), .val (.ref a), .val (.ref b), .val (.ref a), .val (.ref a), .val (.int (0 : Int32)), .val (.ref li), .val (.ref it), .val (.ref kids), .val (.ref pa)] [(.int (0 : Int32)), (.int (0 : Int32))])) (fun t k => XS.ifYes X44.here hx rfl (pc0 := 208) (pc' := 215) rfl (hb hby at_208) rfl ((if0 _ _).trans (teq hc208).1) (by decide) (by decide) (XS.iconst X44.here hx rfl (hb hby at_215) k)) ?_
      have hc216 : (0 : Int32) = (0 : Int32) := rfl
      refine Goes.pre (U' := T44.setTop (mkF m 221 #[.val (.int p1), .val (.int p2), .val (.int p3), .val (.int p4), .val (.int p5), .val (.int kk), .val (.ref a), .val (.ref b), .val (.ref a), .val (.ref a), .val (.int (0 : Int32)), .val (.ref li), .val (.ref it), .val (.ref kids), .val (.ref pa)] [(.ref pa)])) (fun t k => XS.icmpNo X44.here hx rfl (hb hby at_216) rfl (teq hc216).2 (XS.aload X44.here hx rfl (hb hby at_219) rfl rfl k)) ?_
      obtain ⟨cq46, kq46, q46a, q46b, q46c⟩ := isOf hZ rfl E_pa
      obtain ⟨_, _, ⟨T46, L46, k46, n46⟩, -, X46, ⟨Lc46, hQ46, l46, y46, z46⟩, st46⟩ := X44.virtualBack hx (y := (⟨"com/example/restate/restate/plan/Item", "deleted", "()Z"⟩ : MethodName)) (z := (⟨"com/example/restate/restate/plan/Item", "deleted", "()Z"⟩ : MethodName)) hown (mvT hZ (wq hw 203 rfl)) (mvT hZ (wq hw 204 rfl)) (notFace_of_selects (args := #[]) (mvT hZ (wq hw 206 rfl))) (mvT hZ (wq hw 206 rfl)) (mvT hZ (wq hw 205 rfl)) (by decide) (backOf (W := 0) (rm_del00 l Z a0 hw [] pa T44.heap n0 Z45 F_label_pa F_printed_pa) hZ (wq hw 207 rfl) (wq hw 67 rfl) (by decide) (by decide)) q46a q46c (g := (mkF m 221 #[.val (.int p1), .val (.int p2), .val (.int p3), .val (.int p4), .val (.int p5), .val (.int kk), .val (.ref a), .val (.ref b), .val (.ref a), .val (.ref a), .val (.int (0 : Int32)), .val (.ref li), .val (.ref it), .val (.ref kids), .val (.ref pa)] [(.ref pa)])) rfl (by rw [hml]; rfl) (Steps.refl _) (argsL := []) (rest := []) (lenOf pd__28_29Z rfl) rfl (by show 2 * 0 + _ ≤ _; exact Nat.le_of_eq rfl) (hb hby at_221) (fun _ _ => ⟨rfl, rfl, (by decide : 15 + 0 ≤ _), (by decide : 49 + 0 ≤ _)⟩)
      dsimp only [Pt.U, Pt.locs, Pt.cells, Pt.slots] at X46 l46 y46 z46 st46 hQ46
      subst l46 y46 z46
      obtain ⟨rfl, N46q, HQ46⟩ := hQ46
      have N46 := Fr.app N44 N46q
      refine Goes.pre (U' := T46.setTop (mkF m 224 #[.val (.int p1), .val (.int p2), .val (.int p3), .val (.int p4), .val (.int p5), .val (.int kk), .val (.ref a), .val (.ref b), .val (.ref a), .val (.ref a), .val (.int (0 : Int32)), .val (.ref li), .val (.ref it), .val (.ref kids), .val (.ref pa)] [(.int (0 : Int32))])) (fun t k => st46.trans k) ?_
      have hc224 : (0 : Int32) = (0 : Int32) := rfl
      refine Goes.pre (U' := T46.setTop (mkF m 232 #[.val (.int p1), .val (.int p2), .val (.int p3), .val (.int p4), .val (.int p5), .val (.int kk), .val (.ref a), .val (.ref b), .val (.ref a), .val (.ref a), .val (.int (0 : Int32)), .val (.ref li), .val (.ref it), .val (.ref kids), .val (.ref pa)] [(.int (1 : Int32))])) (fun t k => XS.ifNo X46.here hx rfl (hb hby at_224) rfl ((if0 _ _).trans (teq hc224).2) (XS.iconst X46.here hx rfl (hb hby at_227) (XS.goto X46.here hx rfl (pc0 := 228) (pc' := 232) rfl (hb hby at_228) (by decide) (by decide) k))) ?_
      refine Goes.ret X46 (v := (some (.int (1 : Int32)))) (fun h => by rw [hret] at h; cases h) hlk (by decide) (by decide) HQ46 (fun fs hr => retN X46 hx (t := .boolean) hret (by simp) (hb hby at_232) hr) ?_
      exact ⟨rfl, N46⟩
    ·
      refine Goes.pre (U' := T9.setTop (mkF m 84 #[.val (.int p1), .val (.int p2), .val (.int p3), .val (.int p4), .val (.int p5), .val (.int kk), .val (.ref a), .val (.ref b), .unset, .unset, .unset, .unset, .unset, .unset, .unset] [(.int (2 : Int32)), (.int kk)])) (fun t k => XS.icmpYes X9.here hx rfl (pc0 := 64) (pc' := 81) rfl (hb hby at_64) rfl (feq hc64).2 (by decide) (by decide) (XS.iload X9.here hx rfl (hb hby at_81) rfl (XS.iconst X9.here hx rfl (hb hby at_83) k))) ?_
      by_cases hc84 : kk = (2 : Int32)
      ·
        refine Goes.pre (U' := T9.setTop (mkF m 130 #[.val (.int p1), .val (.int p2), .val (.int p3), .val (.int p4), .val (.int p5), .val (.int kk), .val (.ref a), .val (.ref b), .val (.ref a), .val (.ref b), .val (.int (0 : Int32)), .unset, .unset, .unset, .unset] [])) (fun t k => XS.icmpNo X9.here hx rfl (hb hby at_84) rfl (teq hc84).2 (XS.aload X9.here hx rfl (hb hby at_87) rfl rfl (XS.astore X9.here hx rfl (hb hby at_89) rfl rfl (l' := #[.val (.int p1), .val (.int p2), .val (.int p3), .val (.int p4), .val (.int p5), .val (.int kk), .val (.ref a), .val (.ref b), .val (.ref a), .unset, .unset, .unset, .unset, .unset, .unset]) rfl (XS.aload X9.here hx rfl (hb hby at_91) rfl rfl (XS.astore X9.here hx rfl (hb hby at_93) rfl rfl (l' := #[.val (.int p1), .val (.int p2), .val (.int p3), .val (.int p4), .val (.int p5), .val (.int kk), .val (.ref a), .val (.ref b), .val (.ref a), .val (.ref b), .unset, .unset, .unset, .unset, .unset]) rfl (XS.iconst X9.here hx rfl (hb hby at_95) (XS.istore X9.here hx rfl (hb hby at_96) rfl (l' := #[.val (.int p1), .val (.int p2), .val (.int p3), .val (.int p4), .val (.int p5), .val (.int kk), .val (.ref a), .val (.ref b), .val (.ref a), .val (.ref b), .val (.int (0 : Int32)), .unset, .unset, .unset, .unset]) rfl (XS.goto X9.here hx rfl (pc0 := 98) (pc' := 130) rfl (hb hby at_98) (by decide) (by decide) k)))))))) ?_
        obtain ⟨T47, h47, X47, e47, E47, A47, D47, -, st47⟩ := newO X9 hx hZ hown (wq hw 41 rfl) (wq hw 42 rfl) (wq hw 43 rfl) rfl (g := (mkF m 130 #[.val (.int p1), .val (.int p2), .val (.int p3), .val (.int p4), .val (.int p5), .val (.int kk), .val (.ref a), .val (.ref b), .val (.ref a), .val (.ref b), .val (.int (0 : Int32)), .unset, .unset, .unset, .unset] [])) rfl (hb hby at_130) (by decide) (by decide)
        obtain ⟨li, g47⟩ : ∃ z, z = T9.heap.size := ⟨_, rfl⟩
        rw [← g47] at A47 D47 st47
        have ne_a_li : a ≠ li := Nat.ne_of_lt (Nat.lt_of_lt_of_le E_a.lt (Nat.le_of_eq g47.symm))
        have ne_li_a := ne_a_li.symm
        have ne_b_li : b ≠ li := Nat.ne_of_lt (Nat.lt_of_lt_of_le E_b.lt (Nat.le_of_eq g47.symm))
        have ne_li_b := ne_b_li.symm
        have ne_dce_li : dce ≠ li := Nat.ne_of_lt (Nat.lt_of_lt_of_le (V_dce.ext O.2).lt (Nat.le_of_eq g47.symm))
        have ne_li_dce := ne_dce_li.symm
        have ne_ea_li : ea ≠ li := Nat.ne_of_lt (Nat.lt_of_lt_of_le (V_ea.ext O.2).lt (Nat.le_of_eq g47.symm))
        have ne_li_ea := ne_ea_li.symm
        have ne_el_li : el ≠ li := Nat.ne_of_lt (Nat.lt_of_lt_of_le (E_el.ext O.2).lt (Nat.le_of_eq g47.symm))
        have ne_li_el := ne_el_li.symm
        have ne_r2_li : r2 ≠ li := Nat.ne_of_lt (Nat.lt_of_lt_of_le E_r2.lt (Nat.le_of_eq g47.symm))
        have ne_li_r2 := ne_r2_li.symm
        have ne_r7_li : r7 ≠ li := Nat.ne_of_lt (Nat.lt_of_lt_of_le E_r7.lt (Nat.le_of_eq g47.symm))
        have ne_li_r7 := ne_r7_li.symm
        have g_li : n0 ≤ li := Nat.le_trans Z10 (Nat.le_of_eq g47.symm)
        have E_a := E_a.ext E47
        have E_r2 := E_r2.ext E47
        have E_b := E_b.ext E47
        have E_r7 := E_r7.ext E47
        have O := O.ext E47
        have Z47 : n0 ≤ h47.size := Nat.le_trans Z10 E47.1
        have E_li := A47
        have F_modCount_li : Fld Z h47 li "java/util/AbstractList" "modCount" "I" (.int (0 : Int32)) := D47 (Or.inl (wq hw 61 rfl)) (ty := .int) (by decide)
        have F_elementData_li : Fld Z h47 li "java/util/ArrayList" "elementData" "[Ljava/lang/Object;" .null := D47 (Or.inl (wq hw 64 rfl)) (ty := (.array (.object "java/lang/Object"))) (by decide)
        have F_size_li : Fld Z h47 li "java/util/ArrayList" "size" "I" (.int (0 : Int32)) := D47 (Or.inl (wq hw 96 rfl)) (ty := .int) (by decide)
        refine Goes.pre (U' := T47.setTop (mkF m 134 #[.val (.int p1), .val (.int p2), .val (.int p3), .val (.int p4), .val (.int p5), .val (.int kk), .val (.ref a), .val (.ref b), .val (.ref a), .val (.ref b), .val (.int (0 : Int32)), .unset, .unset, .unset, .unset] [(.ref li), (.ref li)])) (fun t k => st47 t (XS.dup X47.here hx rfl (hb hby at_133) rfl rfl k)) ?_
        obtain ⟨_, _, ⟨T48, L48, k48, n48⟩, -, X48, ⟨Lc48, hQ48, l48, y48, z48⟩, st48⟩ := X47.specialBack hx (y := (⟨"java/util/ArrayList", "<init>", "()V"⟩ : MethodName)) rfl hown (mvT hZ (wq hw 44 rfl)) (mvT hZ (wq hw 45 rfl)) (mvT hZ (wq hw 46 rfl)) (by decide) (backOf (W := 1) (rm_al l Z a0 hw [] li dce h47 n0 Z47 E_li F_modCount_li F_size_li F_elementData_li S_DEFAULTCAPACITY_EMPTY_ELEMENTDATA g_li O) hZ (wq hw 46 rfl) (wq hw 43 rfl) (by decide) (by decide)) (g := (mkF m 134 #[.val (.int p1), .val (.int p2), .val (.int p3), .val (.int p4), .val (.int p5), .val (.int kk), .val (.ref a), .val (.ref b), .val (.ref a), .val (.ref b), .val (.int (0 : Int32)), .unset, .unset, .unset, .unset] [(.ref li), (.ref li)])) rfl (by rw [hml]; rfl) (Steps.refl _) (a := li) (argsL := []) (rest := [(.ref li)]) (lenOf pd__28_29V rfl) rfl (by show 2 * 0 + _ ≤ _; exact Nat.le_of_eq rfl) (hb hby at_134) (fun _ _ => ⟨rfl, e47, (by decide : 7 + 0 ≤ _), (by decide : 15 + 0 ≤ _)⟩)
        dsimp only [Pt.U, Pt.locs, Pt.cells, Pt.slots] at X48 l48 y48 z48 st48 hQ48
        subst l48 y48 z48
        obtain ⟨rfl, N48q, KQ48, fo0_48, fo1_48, fo2_48⟩ := hQ48
        have N48 := Fr.app N9 N48q
        have E_a := E_a.keep KQ48
        have E_r2 := E_r2.keep KQ48
        have E_b := E_b.keep KQ48
        have E_r7 := E_r7.keep KQ48
        have E_li := E_li.keep KQ48
        have Z49 : n0 ≤ T48.heap.size := Nat.le_trans Z47 KQ48.1
        have O := O.keep KQ48 (allS (P := fun x => n0 ≤ x) g_li all0)
        have F_modCount_li := fo0_48
        have F_size_li := fo1_48
        have F_elementData_li := fo2_48
        refine Goes.pre (U' := T48.setTop (mkF m 139 #[.val (.int p1), .val (.int p2), .val (.int p3), .val (.int p4), .val (.int p5), .val (.int kk), .val (.ref a), .val (.ref b), .val (.ref a), .val (.ref b), .val (.int (0 : Int32)), .val (.ref li), .unset, .unset, .unset] [])) (fun t k => st48.trans (XS.astore X48.here hx rfl (hb hby at_137) rfl rfl (l' := #[.val (.int p1), .val (.int p2), .val (.int p3), .val (.int p4), .val (.int p5), .val (.int kk), .val (.ref a), .val (.ref b), .val (.ref a), .val (.ref b), .val (.int (0 : Int32)), .val (.ref li), .unset, .unset, .unset]) rfl k)) ?_
        obtain ⟨T50, h50, X50, e50, E50, A50, D50, -, st50⟩ := newO X48 hx hZ hown (wq hw 65 rfl) (wq hw 66 rfl) (wq hw 67 rfl) rfl (g := (mkF m 139 #[.val (.int p1), .val (.int p2), .val (.int p3), .val (.int p4), .val (.int p5), .val (.int kk), .val (.ref a), .val (.ref b), .val (.ref a), .val (.ref b), .val (.int (0 : Int32)), .val (.ref li), .unset, .unset, .unset] [])) rfl (hb hby at_139) (by decide) (by decide)
        obtain ⟨it, g50⟩ : ∃ z, z = T48.heap.size := ⟨_, rfl⟩
        rw [← g50] at A50 D50 st50
        have ne_a_it : a ≠ it := Nat.ne_of_lt (Nat.lt_of_lt_of_le E_a.lt (Nat.le_of_eq g50.symm))
        have ne_it_a := ne_a_it.symm
        have ne_b_it : b ≠ it := Nat.ne_of_lt (Nat.lt_of_lt_of_le E_b.lt (Nat.le_of_eq g50.symm))
        have ne_it_b := ne_b_it.symm
        have ne_dce_it : dce ≠ it := Nat.ne_of_lt (Nat.lt_of_lt_of_le (V_dce.ext O.2).lt (Nat.le_of_eq g50.symm))
        have ne_it_dce := ne_dce_it.symm
        have ne_ea_it : ea ≠ it := Nat.ne_of_lt (Nat.lt_of_lt_of_le (V_ea.ext O.2).lt (Nat.le_of_eq g50.symm))
        have ne_it_ea := ne_ea_it.symm
        have ne_el_it : el ≠ it := Nat.ne_of_lt (Nat.lt_of_lt_of_le (E_el.ext O.2).lt (Nat.le_of_eq g50.symm))
        have ne_it_el := ne_el_it.symm
        have ne_li_it : li ≠ it := Nat.ne_of_lt (Nat.lt_of_lt_of_le E_li.lt (Nat.le_of_eq g50.symm))
        have ne_it_li := ne_li_it.symm
        have ne_r2_it : r2 ≠ it := Nat.ne_of_lt (Nat.lt_of_lt_of_le E_r2.lt (Nat.le_of_eq g50.symm))
        have ne_it_r2 := ne_r2_it.symm
        have ne_r7_it : r7 ≠ it := Nat.ne_of_lt (Nat.lt_of_lt_of_le E_r7.lt (Nat.le_of_eq g50.symm))
        have ne_it_r7 := ne_r7_it.symm
        have g_it : n0 ≤ it := Nat.le_trans Z49 (Nat.le_of_eq g50.symm)
        have E_a := E_a.ext E50
        have E_r2 := E_r2.ext E50
        have E_b := E_b.ext E50
        have E_r7 := E_r7.ext E50
        have E_li := E_li.ext E50
        have F_modCount_li := F_modCount_li.ext E50
        have F_size_li := F_size_li.ext E50
        have F_elementData_li := F_elementData_li.ext E50
        have O := O.ext E50
        have Z50 : n0 ≤ h50.size := Nat.le_trans Z49 E50.1
        have E_it := A50
        have F_label_it : Fld Z h50 it "com/example/restate/restate/plan/Item" "label" "Lcom/example/restate/restate/plan/Label;" .null := D50 (Or.inr (wq hw 102 rfl)) (ty := (.object "com/example/restate/restate/plan/Label")) (by decide)
        have F_printed_it : Fld Z h50 it "com/example/restate/restate/plan/Item" "printed" "Lcom/example/restate/restate/plan/Label;" .null := D50 (Or.inr (wq hw 104 rfl)) (ty := (.object "com/example/restate/restate/plan/Label")) (by decide)
        have F_start_it : Fld Z h50 it "com/example/restate/restate/plan/Item" "start" "I" (.int (0 : Int32)) := D50 (Or.inr (wq hw 106 rfl)) (ty := .int) (by decide)
        have F_end_it : Fld Z h50 it "com/example/restate/restate/plan/Item" "end" "I" (.int (0 : Int32)) := D50 (Or.inr (wq hw 108 rfl)) (ty := .int) (by decide)
        have F_children_it : Fld Z h50 it "com/example/restate/restate/plan/Item" "children" "Ljava/util/List;" .null := D50 (Or.inr (wq hw 110 rfl)) (ty := (.object "java/util/List")) (by decide)
        refine Goes.pre (U' := T50.setTop (mkF m 152 #[.val (.int p1), .val (.int p2), .val (.int p3), .val (.int p4), .val (.int p5), .val (.int kk), .val (.ref a), .val (.ref b), .val (.ref a), .val (.ref b), .val (.int (0 : Int32)), .val (.ref li), .unset, .unset, .unset] [(.ref li), (.int p5), (.int p4), (.ref b), (.ref a), (.ref it), (.ref it)])) (fun t k => st50 t (XS.dup X50.here hx rfl (hb hby at_142) rfl rfl (XS.aload X50.here hx rfl (hb hby at_143) rfl rfl (XS.aload X50.here hx rfl (hb hby at_145) rfl rfl (XS.iloadN X50.here hx rfl (hb hby at_147) rfl (XS.iload X50.here hx rfl (hb hby at_148) rfl (XS.aload X50.here hx rfl (hb hby at_150) rfl rfl k))))))) ?_
        obtain ⟨_, _, ⟨T51, L51, k51, n51⟩, -, X51, ⟨Lc51, hQ51, l51, y51, z51⟩, st51⟩ := X50.specialBack hx (y := (⟨"com/example/restate/restate/plan/Item", "<init>", "(Lcom/example/restate/restate/plan/Label;Lcom/example/restate/restate/plan/Label;IILjava/util/List;)V"⟩ : MethodName)) rfl hown (mvT hZ (wq hw 68 rfl)) (mvT hZ (wq hw 69 rfl)) (mvT hZ (wq hw 70 rfl)) (by decide) (backOf (W := 1) (rm_item11 l Z a0 hw [] it a b p4 p5 li el h50 n0 Z50 E_it E_li F_size_li S_EMPTY_LIST F_label_it F_printed_it F_start_it F_end_it F_children_it ne_it_li ne_li_it g_it O) hZ (wq hw 70 rfl) (wq hw 67 rfl) (by decide) (by decide)) (g := (mkF m 152 #[.val (.int p1), .val (.int p2), .val (.int p3), .val (.int p4), .val (.int p5), .val (.int kk), .val (.ref a), .val (.ref b), .val (.ref a), .val (.ref b), .val (.int (0 : Int32)), .val (.ref li), .unset, .unset, .unset] [(.ref li), (.int p5), (.int p4), (.ref b), (.ref a), (.ref it), (.ref it)])) rfl (by rw [hml]; rfl) (Steps.refl _) (a := it) (argsL := [(.ref a), (.ref b), (.int p4), (.int p5), (.ref li)]) (rest := [(.ref it)]) (lenOf pd__28Lcom_2fexample_2frestate_2frestate_2fplan_2fLabel_3bLcom_2fexample_2frestate_2frestate_2fplan_2fLabel_3bIILjava_2futil_2fList_3b_29V rfl) rfl (by show 2 * 0 + _ ≤ _; exact Nat.le_of_eq rfl) (hb hby at_152) (fun _ _ => ⟨rfl, e50, (by decide : 8 + 0 ≤ _), (by decide : 20 + 0 ≤ _)⟩)
        dsimp only [Pt.U, Pt.locs, Pt.cells, Pt.slots] at X51 l51 y51 z51 st51 hQ51
        subst l51 y51 z51
        obtain ⟨rfl, N51q, KQ51, fo0_51, fo1_51, fo2_51, fo3_51, fo4_51⟩ := hQ51
        have N51 := Fr.app N48 N51q
        have E_a := E_a.keep KQ51
        have E_r2 := E_r2.keep KQ51
        have E_b := E_b.keep KQ51
        have E_r7 := E_r7.keep KQ51
        have E_li := E_li.keep KQ51
        have F_modCount_li := F_modCount_li.keep KQ51 (ninS ne_li_it nin0)
        have F_size_li := F_size_li.keep KQ51 (ninS ne_li_it nin0)
        have F_elementData_li := F_elementData_li.keep KQ51 (ninS ne_li_it nin0)
        have E_it := E_it.keep KQ51
        have Z52 : n0 ≤ T51.heap.size := Nat.le_trans Z50 KQ51.1
        have O := O.keep KQ51 (allS (P := fun x => n0 ≤ x) g_it all0)
        have F_label_it := fo0_51
        have F_printed_it := fo1_51
        have F_start_it := fo2_51
        have F_end_it := fo3_51
        have F_children_it := fo4_51
        refine Goes.pre (U' := T51.setTop (mkF m 157 #[.val (.int p1), .val (.int p2), .val (.int p3), .val (.int p4), .val (.int p5), .val (.int kk), .val (.ref a), .val (.ref b), .val (.ref a), .val (.ref b), .val (.int (0 : Int32)), .val (.ref li), .val (.ref it), .unset, .unset] [])) (fun t k => st51.trans (XS.astore X51.here hx rfl (hb hby at_155) rfl rfl (l' := #[.val (.int p1), .val (.int p2), .val (.int p3), .val (.int p4), .val (.int p5), .val (.int kk), .val (.ref a), .val (.ref b), .val (.ref a), .val (.ref b), .val (.int (0 : Int32)), .val (.ref li), .val (.ref it), .unset, .unset]) rfl k)) ?_
        obtain ⟨T53, h53, X53, e53, E53, A53, D53, -, st53⟩ := newO X51 hx hZ hown (wq hw 41 rfl) (wq hw 42 rfl) (wq hw 43 rfl) rfl (g := (mkF m 157 #[.val (.int p1), .val (.int p2), .val (.int p3), .val (.int p4), .val (.int p5), .val (.int kk), .val (.ref a), .val (.ref b), .val (.ref a), .val (.ref b), .val (.int (0 : Int32)), .val (.ref li), .val (.ref it), .unset, .unset] [])) rfl (hb hby at_157) (by decide) (by decide)
        obtain ⟨kids, g53⟩ : ∃ z, z = T51.heap.size := ⟨_, rfl⟩
        rw [← g53] at A53 D53 st53
        have ne_a_kids : a ≠ kids := Nat.ne_of_lt (Nat.lt_of_lt_of_le E_a.lt (Nat.le_of_eq g53.symm))
        have ne_kids_a := ne_a_kids.symm
        have ne_b_kids : b ≠ kids := Nat.ne_of_lt (Nat.lt_of_lt_of_le E_b.lt (Nat.le_of_eq g53.symm))
        have ne_kids_b := ne_b_kids.symm
        have ne_dce_kids : dce ≠ kids := Nat.ne_of_lt (Nat.lt_of_lt_of_le (V_dce.ext O.2).lt (Nat.le_of_eq g53.symm))
        have ne_kids_dce := ne_dce_kids.symm
        have ne_ea_kids : ea ≠ kids := Nat.ne_of_lt (Nat.lt_of_lt_of_le (V_ea.ext O.2).lt (Nat.le_of_eq g53.symm))
        have ne_kids_ea := ne_ea_kids.symm
        have ne_el_kids : el ≠ kids := Nat.ne_of_lt (Nat.lt_of_lt_of_le (E_el.ext O.2).lt (Nat.le_of_eq g53.symm))
        have ne_kids_el := ne_el_kids.symm
        have ne_it_kids : it ≠ kids := Nat.ne_of_lt (Nat.lt_of_lt_of_le E_it.lt (Nat.le_of_eq g53.symm))
        have ne_kids_it := ne_it_kids.symm
        have ne_li_kids : li ≠ kids := Nat.ne_of_lt (Nat.lt_of_lt_of_le E_li.lt (Nat.le_of_eq g53.symm))
        have ne_kids_li := ne_li_kids.symm
        have ne_r2_kids : r2 ≠ kids := Nat.ne_of_lt (Nat.lt_of_lt_of_le E_r2.lt (Nat.le_of_eq g53.symm))
        have ne_kids_r2 := ne_r2_kids.symm
        have ne_r7_kids : r7 ≠ kids := Nat.ne_of_lt (Nat.lt_of_lt_of_le E_r7.lt (Nat.le_of_eq g53.symm))
        have ne_kids_r7 := ne_r7_kids.symm
        have g_kids : n0 ≤ kids := Nat.le_trans Z52 (Nat.le_of_eq g53.symm)
        have E_a := E_a.ext E53
        have E_r2 := E_r2.ext E53
        have E_b := E_b.ext E53
        have E_r7 := E_r7.ext E53
        have E_li := E_li.ext E53
        have F_modCount_li := F_modCount_li.ext E53
        have F_size_li := F_size_li.ext E53
        have F_elementData_li := F_elementData_li.ext E53
        have E_it := E_it.ext E53
        have F_label_it := F_label_it.ext E53
        have F_printed_it := F_printed_it.ext E53
        have F_start_it := F_start_it.ext E53
        have F_end_it := F_end_it.ext E53
        have F_children_it := F_children_it.ext E53
        have O := O.ext E53
        have Z53 : n0 ≤ h53.size := Nat.le_trans Z52 E53.1
        have E_kids := A53
        have F_modCount_kids : Fld Z h53 kids "java/util/AbstractList" "modCount" "I" (.int (0 : Int32)) := D53 (Or.inl (wq hw 61 rfl)) (ty := .int) (by decide)
        have F_elementData_kids : Fld Z h53 kids "java/util/ArrayList" "elementData" "[Ljava/lang/Object;" .null := D53 (Or.inl (wq hw 64 rfl)) (ty := (.array (.object "java/lang/Object"))) (by decide)
        have F_size_kids : Fld Z h53 kids "java/util/ArrayList" "size" "I" (.int (0 : Int32)) := D53 (Or.inl (wq hw 96 rfl)) (ty := .int) (by decide)
        refine Goes.pre (U' := T53.setTop (mkF m 161 #[.val (.int p1), .val (.int p2), .val (.int p3), .val (.int p4), .val (.int p5), .val (.int kk), .val (.ref a), .val (.ref b), .val (.ref a), .val (.ref b), .val (.int (0 : Int32)), .val (.ref li), .val (.ref it), .unset, .unset] [(.ref kids), (.ref kids)])) (fun t k => st53 t (XS.dup X53.here hx rfl (hb hby at_160) rfl rfl k)) ?_
        obtain ⟨_, _, ⟨T54, L54, k54, n54⟩, -, X54, ⟨Lc54, hQ54, l54, y54, z54⟩, st54⟩ := X53.specialBack hx (y := (⟨"java/util/ArrayList", "<init>", "()V"⟩ : MethodName)) rfl hown (mvT hZ (wq hw 44 rfl)) (mvT hZ (wq hw 45 rfl)) (mvT hZ (wq hw 46 rfl)) (by decide) (backOf (W := 1) (rm_al l Z a0 hw [] kids dce h53 n0 Z53 E_kids F_modCount_kids F_size_kids F_elementData_kids S_DEFAULTCAPACITY_EMPTY_ELEMENTDATA g_kids O) hZ (wq hw 46 rfl) (wq hw 43 rfl) (by decide) (by decide)) (g := (mkF m 161 #[.val (.int p1), .val (.int p2), .val (.int p3), .val (.int p4), .val (.int p5), .val (.int kk), .val (.ref a), .val (.ref b), .val (.ref a), .val (.ref b), .val (.int (0 : Int32)), .val (.ref li), .val (.ref it), .unset, .unset] [(.ref kids), (.ref kids)])) rfl (by rw [hml]; rfl) (Steps.refl _) (a := kids) (argsL := []) (rest := [(.ref kids)]) (lenOf pd__28_29V rfl) rfl (by show 2 * 0 + _ ≤ _; exact Nat.le_of_eq rfl) (hb hby at_161) (fun _ _ => ⟨rfl, e53, (by decide : 9 + 0 ≤ _), (by decide : 23 + 0 ≤ _)⟩)
        dsimp only [Pt.U, Pt.locs, Pt.cells, Pt.slots] at X54 l54 y54 z54 st54 hQ54
        subst l54 y54 z54
        obtain ⟨rfl, N54q, KQ54, fo0_54, fo1_54, fo2_54⟩ := hQ54
        have N54 := Fr.app N51 N54q
        have E_a := E_a.keep KQ54
        have E_r2 := E_r2.keep KQ54
        have E_b := E_b.keep KQ54
        have E_r7 := E_r7.keep KQ54
        have E_li := E_li.keep KQ54
        have F_modCount_li := F_modCount_li.keep KQ54 (ninS ne_li_kids nin0)
        have F_size_li := F_size_li.keep KQ54 (ninS ne_li_kids nin0)
        have F_elementData_li := F_elementData_li.keep KQ54 (ninS ne_li_kids nin0)
        have E_it := E_it.keep KQ54
        have F_label_it := F_label_it.keep KQ54 (ninS ne_it_kids nin0)
        have F_printed_it := F_printed_it.keep KQ54 (ninS ne_it_kids nin0)
        have F_start_it := F_start_it.keep KQ54 (ninS ne_it_kids nin0)
        have F_end_it := F_end_it.keep KQ54 (ninS ne_it_kids nin0)
        have F_children_it := F_children_it.keep KQ54 (ninS ne_it_kids nin0)
        have E_kids := E_kids.keep KQ54
        have Z55 : n0 ≤ T54.heap.size := Nat.le_trans Z53 KQ54.1
        have O := O.keep KQ54 (allS (P := fun x => n0 ≤ x) g_kids all0)
        have F_modCount_kids := fo0_54
        have F_size_kids := fo1_54
        have F_elementData_kids := fo2_54
        refine Goes.pre (U' := T54.setTop (mkF m 170 #[.val (.int p1), .val (.int p2), .val (.int p3), .val (.int p4), .val (.int p5), .val (.int kk), .val (.ref a), .val (.ref b), .val (.ref a), .val (.ref b), .val (.int (0 : Int32)), .val (.ref li), .val (.ref it), .val (.ref kids), .unset] [(.ref it), (.ref kids)])) (fun t k => st54.trans (XS.astore X54.here hx rfl (hb hby at_164) rfl rfl (l' := #[.val (.int p1), .val (.int p2), .val (.int p3), .val (.int p4), .val (.int p5), .val (.int kk), .val (.ref a), .val (.ref b), .val (.ref a), .val (.ref b), .val (.int (0 : Int32)), .val (.ref li), .val (.ref it), .val (.ref kids), .unset]) rfl (XS.aload X54.here hx rfl (hb hby at_166) rfl rfl (XS.aload X54.here hx rfl (hb hby at_168) rfl rfl k)))) ?_
        have lt_a := E_a.lt
        have lt_b := E_b.lt
        have lt_dce := (V_dce.ext O.2).lt
        have lt_ea := (V_ea.ext O.2).lt
        have lt_el := (E_el.ext O.2).lt
        have lt_it := E_it.lt
        have lt_kids := E_kids.lt
        have lt_li := E_li.lt
        have lt_r2 := E_r2.lt
        have lt_r7 := E_r7.lt
        obtain ⟨cq56, kq56, q56a, q56b, q56c⟩ := isOf hZ rfl E_kids
        obtain ⟨_, _, ⟨T56, L56, k56, n56⟩, -, X56, ⟨Lc56, hQ56, l56, y56, z56⟩, st56⟩ := X54.virtualBack hx (y := (⟨"java/util/ArrayList", "add", "(Ljava/lang/Object;)Z"⟩ : MethodName)) (z := (⟨"java/util/ArrayList", "add", "(Ljava/lang/Object;)Z"⟩ : MethodName)) hown (mvT hZ (wq hw 111 rfl)) (mvT hZ (wq hw 112 rfl)) (notFace_of_selects (args := #[]) (mvT hZ (wq hw 114 rfl))) (mvT hZ (wq hw 114 rfl)) (mvT hZ (wq hw 113 rfl)) (by decide) (backOf (W := 0) (rm_add l Z a0 hw [] kids it dce kd T54.heap n0 Z55 E_kids F_modCount_kids F_size_kids F_elementData_kids S_DEFAULTCAPACITY_EMPTY_ELEMENTDATA V_dce E_it g_kids O) hZ (wq hw 115 rfl) (wq hw 43 rfl) (by decide) (by decide)) q56a q56c (g := (mkF m 170 #[.val (.int p1), .val (.int p2), .val (.int p3), .val (.int p4), .val (.int p5), .val (.int kk), .val (.ref a), .val (.ref b), .val (.ref a), .val (.ref b), .val (.int (0 : Int32)), .val (.ref li), .val (.ref it), .val (.ref kids), .unset] [(.ref it), (.ref kids)])) rfl (by rw [hml]; rfl) (Steps.refl _) (argsL := [(.ref it)]) (rest := []) (lenOf pd__28Ljava_2flang_2fObject_3b_29Z rfl) rfl (by show 2 * 0 + _ ≤ _; exact Nat.le_of_eq rfl) (hb hby at_170) (fun _ _ => ⟨rfl, rfl, (by decide : 9 + 1 ≤ _), (by decide : 23 + 10 ≤ _)⟩)
        dsimp only [Pt.U, Pt.locs, Pt.cells, Pt.slots] at X56 l56 y56 z56 st56 hQ56
        subst l56 y56 z56
        obtain ⟨r56, kr56, rfl, N56q, KQ56, fo0_56, fo1_56, fo2_56, fo3_56, fo4_56, g_r56, sl_r56⟩ := hQ56
        have N56 := Fr.app N54 N56q
        have E_a := E_a.keep KQ56
        have E_r2 := E_r2.keep KQ56
        have E_b := E_b.keep KQ56
        have E_r7 := E_r7.keep KQ56
        have E_li := E_li.keep KQ56
        have F_modCount_li := F_modCount_li.keep KQ56 (ninS ne_li_kids nin0)
        have F_size_li := F_size_li.keep KQ56 (ninS ne_li_kids nin0)
        have F_elementData_li := F_elementData_li.keep KQ56 (ninS ne_li_kids nin0)
        have E_it := E_it.keep KQ56
        have F_label_it := F_label_it.keep KQ56 (ninS ne_it_kids nin0)
        have F_printed_it := F_printed_it.keep KQ56 (ninS ne_it_kids nin0)
        have F_start_it := F_start_it.keep KQ56 (ninS ne_it_kids nin0)
        have F_end_it := F_end_it.keep KQ56 (ninS ne_it_kids nin0)
        have F_children_it := F_children_it.keep KQ56 (ninS ne_it_kids nin0)
        have E_kids := E_kids.keep KQ56
        have Z57 : n0 ≤ T56.heap.size := Nat.le_trans Z55 KQ56.1
        have O := O.keep KQ56 (allS (P := fun x => n0 ≤ x) g_kids all0)
        have ne_a_r56 : a ≠ r56 := Nat.ne_of_lt (Nat.lt_of_lt_of_le lt_a sl_r56)
        have ne_r56_a := ne_a_r56.symm
        have ne_b_r56 : b ≠ r56 := Nat.ne_of_lt (Nat.lt_of_lt_of_le lt_b sl_r56)
        have ne_r56_b := ne_b_r56.symm
        have ne_dce_r56 : dce ≠ r56 := Nat.ne_of_lt (Nat.lt_of_lt_of_le lt_dce sl_r56)
        have ne_r56_dce := ne_dce_r56.symm
        have ne_ea_r56 : ea ≠ r56 := Nat.ne_of_lt (Nat.lt_of_lt_of_le lt_ea sl_r56)
        have ne_r56_ea := ne_ea_r56.symm
        have ne_el_r56 : el ≠ r56 := Nat.ne_of_lt (Nat.lt_of_lt_of_le lt_el sl_r56)
        have ne_r56_el := ne_el_r56.symm
        have ne_it_r56 : it ≠ r56 := Nat.ne_of_lt (Nat.lt_of_lt_of_le lt_it sl_r56)
        have ne_r56_it := ne_it_r56.symm
        have ne_kids_r56 : kids ≠ r56 := Nat.ne_of_lt (Nat.lt_of_lt_of_le lt_kids sl_r56)
        have ne_r56_kids := ne_kids_r56.symm
        have ne_li_r56 : li ≠ r56 := Nat.ne_of_lt (Nat.lt_of_lt_of_le lt_li sl_r56)
        have ne_r56_li := ne_li_r56.symm
        have ne_r2_r56 : r2 ≠ r56 := Nat.ne_of_lt (Nat.lt_of_lt_of_le lt_r2 sl_r56)
        have ne_r56_r2 := ne_r2_r56.symm
        have ne_r7_r56 : r7 ≠ r56 := Nat.ne_of_lt (Nat.lt_of_lt_of_le lt_r7 sl_r56)
        have ne_r56_r7 := ne_r7_r56.symm
        have F_modCount_kids := fo0_56
        have F_size_kids := fo1_56
        have F_elementData_kids := fo2_56
        have E_r56 := fo3_56
        have V_r56 := fo4_56
        refine Goes.pre (U' := T56.setTop (mkF m 174 #[.val (.int p1), .val (.int p2), .val (.int p3), .val (.int p4), .val (.int p5), .val (.int kk), .val (.ref a), .val (.ref b), .val (.ref a), .val (.ref b), .val (.int (0 : Int32)), .val (.ref li), .val (.ref it), .val (.ref kids), .unset] [])) (fun t k => st56.trans (XS.pop X56.here hx rfl (hb hby at_173) rfl rfl k)) ?_
        obtain ⟨T58, h58, X58, e58, E58, A58, D58, -, st58⟩ := newO X56 hx hZ hown (wq hw 65 rfl) (wq hw 66 rfl) (wq hw 67 rfl) rfl (g := (mkF m 174 #[.val (.int p1), .val (.int p2), .val (.int p3), .val (.int p4), .val (.int p5), .val (.int kk), .val (.ref a), .val (.ref b), .val (.ref a), .val (.ref b), .val (.int (0 : Int32)), .val (.ref li), .val (.ref it), .val (.ref kids), .unset] [])) rfl (hb hby at_174) (by decide) (by decide)
        obtain ⟨pa, g58⟩ : ∃ z, z = T56.heap.size := ⟨_, rfl⟩
        rw [← g58] at A58 D58 st58
        have ne_a_pa : a ≠ pa := Nat.ne_of_lt (Nat.lt_of_lt_of_le E_a.lt (Nat.le_of_eq g58.symm))
        have ne_pa_a := ne_a_pa.symm
        have ne_b_pa : b ≠ pa := Nat.ne_of_lt (Nat.lt_of_lt_of_le E_b.lt (Nat.le_of_eq g58.symm))
        have ne_pa_b := ne_b_pa.symm
        have ne_dce_pa : dce ≠ pa := Nat.ne_of_lt (Nat.lt_of_lt_of_le (V_dce.ext O.2).lt (Nat.le_of_eq g58.symm))
        have ne_pa_dce := ne_dce_pa.symm
        have ne_ea_pa : ea ≠ pa := Nat.ne_of_lt (Nat.lt_of_lt_of_le (V_ea.ext O.2).lt (Nat.le_of_eq g58.symm))
        have ne_pa_ea := ne_ea_pa.symm
        have ne_el_pa : el ≠ pa := Nat.ne_of_lt (Nat.lt_of_lt_of_le (E_el.ext O.2).lt (Nat.le_of_eq g58.symm))
        have ne_pa_el := ne_el_pa.symm
        have ne_it_pa : it ≠ pa := Nat.ne_of_lt (Nat.lt_of_lt_of_le E_it.lt (Nat.le_of_eq g58.symm))
        have ne_pa_it := ne_it_pa.symm
        have ne_kids_pa : kids ≠ pa := Nat.ne_of_lt (Nat.lt_of_lt_of_le E_kids.lt (Nat.le_of_eq g58.symm))
        have ne_pa_kids := ne_kids_pa.symm
        have ne_li_pa : li ≠ pa := Nat.ne_of_lt (Nat.lt_of_lt_of_le E_li.lt (Nat.le_of_eq g58.symm))
        have ne_pa_li := ne_li_pa.symm
        have ne_r2_pa : r2 ≠ pa := Nat.ne_of_lt (Nat.lt_of_lt_of_le E_r2.lt (Nat.le_of_eq g58.symm))
        have ne_pa_r2 := ne_r2_pa.symm
        have ne_r56_pa : r56 ≠ pa := Nat.ne_of_lt (Nat.lt_of_lt_of_le E_r56.lt (Nat.le_of_eq g58.symm))
        have ne_pa_r56 := ne_r56_pa.symm
        have ne_r7_pa : r7 ≠ pa := Nat.ne_of_lt (Nat.lt_of_lt_of_le E_r7.lt (Nat.le_of_eq g58.symm))
        have ne_pa_r7 := ne_r7_pa.symm
        have g_pa : n0 ≤ pa := Nat.le_trans Z57 (Nat.le_of_eq g58.symm)
        have E_a := E_a.ext E58
        have E_r2 := E_r2.ext E58
        have E_b := E_b.ext E58
        have E_r7 := E_r7.ext E58
        have E_li := E_li.ext E58
        have F_modCount_li := F_modCount_li.ext E58
        have F_size_li := F_size_li.ext E58
        have F_elementData_li := F_elementData_li.ext E58
        have E_it := E_it.ext E58
        have F_label_it := F_label_it.ext E58
        have F_printed_it := F_printed_it.ext E58
        have F_start_it := F_start_it.ext E58
        have F_end_it := F_end_it.ext E58
        have F_children_it := F_children_it.ext E58
        have E_kids := E_kids.ext E58
        have F_modCount_kids := F_modCount_kids.ext E58
        have F_size_kids := F_size_kids.ext E58
        have F_elementData_kids := F_elementData_kids.ext E58
        have E_r56 := E_r56.ext E58
        have V_r56 := V_r56.ext E58
        have O := O.ext E58
        have Z58 : n0 ≤ h58.size := Nat.le_trans Z57 E58.1
        have E_pa := A58
        have F_label_pa : Fld Z h58 pa "com/example/restate/restate/plan/Item" "label" "Lcom/example/restate/restate/plan/Label;" .null := D58 (Or.inr (wq hw 102 rfl)) (ty := (.object "com/example/restate/restate/plan/Label")) (by decide)
        have F_printed_pa : Fld Z h58 pa "com/example/restate/restate/plan/Item" "printed" "Lcom/example/restate/restate/plan/Label;" .null := D58 (Or.inr (wq hw 104 rfl)) (ty := (.object "com/example/restate/restate/plan/Label")) (by decide)
        have F_start_pa : Fld Z h58 pa "com/example/restate/restate/plan/Item" "start" "I" (.int (0 : Int32)) := D58 (Or.inr (wq hw 106 rfl)) (ty := .int) (by decide)
        have F_end_pa : Fld Z h58 pa "com/example/restate/restate/plan/Item" "end" "I" (.int (0 : Int32)) := D58 (Or.inr (wq hw 108 rfl)) (ty := .int) (by decide)
        have F_children_pa : Fld Z h58 pa "com/example/restate/restate/plan/Item" "children" "Ljava/util/List;" .null := D58 (Or.inr (wq hw 110 rfl)) (ty := (.object "java/util/List")) (by decide)
        refine Goes.pre (U' := T58.setTop (mkF m 185 #[.val (.int p1), .val (.int p2), .val (.int p3), .val (.int p4), .val (.int p5), .val (.int kk), .val (.ref a), .val (.ref b), .val (.ref a), .val (.ref b), .val (.int (0 : Int32)), .val (.ref li), .val (.ref it), .val (.ref kids), .unset] [(.ref kids), (.int p5), (.int p4), .null, .null, (.ref pa), (.ref pa)])) (fun t k => st58 t (XS.dup X58.here hx rfl (hb hby at_177) rfl rfl (XS.aconstNull X58.here hx rfl (hb hby at_178) (XS.aconstNull X58.here hx rfl (hb hby at_179) (XS.iloadN X58.here hx rfl (hb hby at_180) rfl (XS.iload X58.here hx rfl (hb hby at_181) rfl (XS.aload X58.here hx rfl (hb hby at_183) rfl rfl k))))))) ?_
        have lt_a := E_a.lt
        have lt_b := E_b.lt
        have lt_dce := (V_dce.ext O.2).lt
        have lt_ea := (V_ea.ext O.2).lt
        have lt_el := (E_el.ext O.2).lt
        have lt_it := E_it.lt
        have lt_kids := E_kids.lt
        have lt_li := E_li.lt
        have lt_pa := E_pa.lt
        have lt_r2 := E_r2.lt
        have lt_r56 := E_r56.lt
        have lt_r7 := E_r7.lt
        obtain ⟨_, _, ⟨T59, L59, k59, n59⟩, -, X59, ⟨Lc59, hQ59, l59, y59, z59⟩, st59⟩ := X58.specialBack hx (y := (⟨"com/example/restate/restate/plan/Item", "<init>", "(Lcom/example/restate/restate/plan/Label;Lcom/example/restate/restate/plan/Label;IILjava/util/List;)V"⟩ : MethodName)) rfl hown (mvT hZ (wq hw 68 rfl)) (mvT hZ (wq hw 69 rfl)) (mvT hZ (wq hw 70 rfl)) (by decide) (backOf (W := 1) (rm_itemP l Z a0 hw [] pa p4 p5 kids r56 kr56 it mr em h58 n0 Z58 E_kids F_size_kids F_elementData_kids E_r56 V_r56 E_it M__Ljava_lang_Object_ S_EMPTY E_pa F_label_pa F_printed_pa F_start_pa F_end_pa F_children_pa ne_kids_pa ne_r56_pa ne_it_pa g_pa O) hZ (wq hw 70 rfl) (wq hw 67 rfl) (by decide) (by decide)) (g := (mkF m 185 #[.val (.int p1), .val (.int p2), .val (.int p3), .val (.int p4), .val (.int p5), .val (.int kk), .val (.ref a), .val (.ref b), .val (.ref a), .val (.ref b), .val (.int (0 : Int32)), .val (.ref li), .val (.ref it), .val (.ref kids), .unset] [(.ref kids), (.int p5), (.int p4), .null, .null, (.ref pa), (.ref pa)])) rfl (by rw [hml]; rfl) (Steps.refl _) (a := pa) (argsL := [.null, .null, (.int p4), (.int p5), (.ref kids)]) (rest := [(.ref pa)]) (lenOf pd__28Lcom_2fexample_2frestate_2frestate_2fplan_2fLabel_3bLcom_2fexample_2frestate_2frestate_2fplan_2fLabel_3bIILjava_2futil_2fList_3b_29V rfl) rfl (by show 2 * 0 + _ ≤ _; exact Nat.le_of_eq rfl) (hb hby at_185) (fun _ _ => ⟨rfl, e58, (by decide : 11 + 2 ≤ _), (by decide : 38 + 3 ≤ _)⟩)
        dsimp only [Pt.U, Pt.locs, Pt.cells, Pt.slots] at X59 l59 y59 z59 st59 hQ59
        subst l59 y59 z59
        obtain ⟨r59, rfl, N59q, KQ59, fo0_59, fo1_59, fo2_59, fo3_59, fo4_59, fo5_59, fo6_59, fo7_59, g_r59, sl_r59⟩ := hQ59
        have N59 := Fr.app N56 N59q
        have E_a := E_a.keep KQ59
        have E_r2 := E_r2.keep KQ59
        have E_b := E_b.keep KQ59
        have E_r7 := E_r7.keep KQ59
        have E_li := E_li.keep KQ59
        have F_modCount_li := F_modCount_li.keep KQ59 (ninS ne_li_pa nin0)
        have F_size_li := F_size_li.keep KQ59 (ninS ne_li_pa nin0)
        have F_elementData_li := F_elementData_li.keep KQ59 (ninS ne_li_pa nin0)
        have E_it := E_it.keep KQ59
        have F_label_it := F_label_it.keep KQ59 (ninS ne_it_pa nin0)
        have F_printed_it := F_printed_it.keep KQ59 (ninS ne_it_pa nin0)
        have F_start_it := F_start_it.keep KQ59 (ninS ne_it_pa nin0)
        have F_end_it := F_end_it.keep KQ59 (ninS ne_it_pa nin0)
        have F_children_it := F_children_it.keep KQ59 (ninS ne_it_pa nin0)
        have E_kids := E_kids.keep KQ59
        have F_modCount_kids := F_modCount_kids.keep KQ59 (ninS ne_kids_pa nin0)
        have F_size_kids := F_size_kids.keep KQ59 (ninS ne_kids_pa nin0)
        have F_elementData_kids := F_elementData_kids.keep KQ59 (ninS ne_kids_pa nin0)
        have E_r56 := E_r56.keep KQ59
        have V_r56 := V_r56.keep KQ59 (ninS ne_r56_pa nin0)
        have E_pa := E_pa.keep KQ59
        have Z60 : n0 ≤ T59.heap.size := Nat.le_trans Z58 KQ59.1
        have O := O.keep KQ59 (allS (P := fun x => n0 ≤ x) g_pa all0)
        have ne_a_r59 : a ≠ r59 := Nat.ne_of_lt (Nat.lt_of_lt_of_le lt_a sl_r59)
        have ne_r59_a := ne_a_r59.symm
        have ne_b_r59 : b ≠ r59 := Nat.ne_of_lt (Nat.lt_of_lt_of_le lt_b sl_r59)
        have ne_r59_b := ne_b_r59.symm
        have ne_dce_r59 : dce ≠ r59 := Nat.ne_of_lt (Nat.lt_of_lt_of_le lt_dce sl_r59)
        have ne_r59_dce := ne_dce_r59.symm
        have ne_ea_r59 : ea ≠ r59 := Nat.ne_of_lt (Nat.lt_of_lt_of_le lt_ea sl_r59)
        have ne_r59_ea := ne_ea_r59.symm
        have ne_el_r59 : el ≠ r59 := Nat.ne_of_lt (Nat.lt_of_lt_of_le lt_el sl_r59)
        have ne_r59_el := ne_el_r59.symm
        have ne_it_r59 : it ≠ r59 := Nat.ne_of_lt (Nat.lt_of_lt_of_le lt_it sl_r59)
        have ne_r59_it := ne_it_r59.symm
        have ne_kids_r59 : kids ≠ r59 := Nat.ne_of_lt (Nat.lt_of_lt_of_le lt_kids sl_r59)
        have ne_r59_kids := ne_kids_r59.symm
        have ne_li_r59 : li ≠ r59 := Nat.ne_of_lt (Nat.lt_of_lt_of_le lt_li sl_r59)
        have ne_r59_li := ne_li_r59.symm
        have ne_pa_r59 : pa ≠ r59 := Nat.ne_of_lt (Nat.lt_of_lt_of_le lt_pa sl_r59)
        have ne_r59_pa := ne_pa_r59.symm
        have ne_r2_r59 : r2 ≠ r59 := Nat.ne_of_lt (Nat.lt_of_lt_of_le lt_r2 sl_r59)
        have ne_r59_r2 := ne_r2_r59.symm
        have ne_r56_r59 : r56 ≠ r59 := Nat.ne_of_lt (Nat.lt_of_lt_of_le lt_r56 sl_r59)
        have ne_r59_r56 := ne_r56_r59.symm
        have ne_r7_r59 : r7 ≠ r59 := Nat.ne_of_lt (Nat.lt_of_lt_of_le lt_r7 sl_r59)
        have ne_r59_r7 := ne_r7_r59.symm
        have F_label_pa := fo0_59
        have F_printed_pa := fo1_59
        have F_start_pa := fo2_59
        have F_end_pa := fo3_59
        have F_children_pa := fo4_59
        have E_r59 := fo5_59
        have F_e0_r59 := fo6_59
        have F_e1_r59 := fo7_59
        refine Goes.pre (U' := T59.setTop (mkF m 192 #[.val (.int p1), .val (.int p2), .val (.int p3), .val (.int p4), .val (.int p5), .val (.int kk), .val (.ref a), .val (.ref b), .val (.ref a), .val (.ref b), .val (.int (0 : Int32)), .val (.ref li), .val (.ref it), .val (.ref kids), .val (.ref pa)] [(.ref it)])) (fun t k => st59.trans (XS.astore X59.here hx rfl (hb hby at_188) rfl rfl (l' := #[.val (.int p1), .val (.int p2), .val (.int p3), .val (.int p4), .val (.int p5), .val (.int kk), .val (.ref a), .val (.ref b), .val (.ref a), .val (.ref b), .val (.int (0 : Int32)), .val (.ref li), .val (.ref it), .val (.ref kids), .val (.ref pa)]) rfl (XS.aload X59.here hx rfl (hb hby at_190) rfl rfl k))) ?_
        obtain ⟨cq61, kq61, q61a, q61b, q61c⟩ := isOf hZ rfl E_it
        obtain ⟨_, _, ⟨T61, L61, k61, n61⟩, -, X61, ⟨Lc61, hQ61, l61, y61, z61⟩, st61⟩ := X59.virtualBack hx (y := (⟨"com/example/restate/restate/plan/Item", "deleted", "()Z"⟩ : MethodName)) (z := (⟨"com/example/restate/restate/plan/Item", "deleted", "()Z"⟩ : MethodName)) hown (mvT hZ (wq hw 203 rfl)) (mvT hZ (wq hw 204 rfl)) (notFace_of_selects (args := #[]) (mvT hZ (wq hw 206 rfl))) (mvT hZ (wq hw 206 rfl)) (mvT hZ (wq hw 205 rfl)) (by decide) (backOf (W := 0) (rm_del11 l Z a0 hw [] it a b T59.heap n0 Z60 F_label_it F_printed_it) hZ (wq hw 207 rfl) (wq hw 67 rfl) (by decide) (by decide)) q61a q61c (g := (mkF m 192 #[.val (.int p1), .val (.int p2), .val (.int p3), .val (.int p4), .val (.int p5), .val (.int kk), .val (.ref a), .val (.ref b), .val (.ref a), .val (.ref b), .val (.int (0 : Int32)), .val (.ref li), .val (.ref it), .val (.ref kids), .val (.ref pa)] [(.ref it)])) rfl (by rw [hml]; rfl) (Steps.refl _) (argsL := []) (rest := []) (lenOf pd__28_29Z rfl) rfl (by show 2 * 0 + _ ≤ _; exact Nat.le_of_eq rfl) (hb hby at_192) (fun _ _ => ⟨rfl, rfl, (by decide : 13 + 0 ≤ _), (by decide : 41 + 0 ≤ _)⟩)
        dsimp only [Pt.U, Pt.locs, Pt.cells, Pt.slots] at X61 l61 y61 z61 st61 hQ61
        subst l61 y61 z61
        obtain ⟨rfl, N61q, HQ61⟩ := hQ61
        have N61 := Fr.app N59 N61q
        refine Goes.pre (U' := T61.setTop (mkF m 197 #[.val (.int p1), .val (.int p2), .val (.int p3), .val (.int p4), .val (.int p5), .val (.int kk), .val (.ref a), .val (.ref b), .val (.ref a), .val (.ref b), .val (.int (0 : Int32)), .val (.ref li), .val (.ref it), .val (.ref kids), .val (.ref pa)] [(.int (0 : Int32)), (.int (0 : Int32))])) (fun t k => st61.trans (XS.iload X61.here hx rfl (hb hby at_195) rfl k)) ?_
        have hc197 : (0 : Int32) = (0 : Int32) := rfl
        refine Goes.pre (U' := T61.setTop (mkF m 203 #[.val (.int p1), .val (.int p2), .val (.int p3), .val (.int p4), .val (.int p5), .val (.int kk), .val (.ref a), .val (.ref b), .val (.ref a), .val (.ref b), .val (.int (0 : Int32)), .val (.ref li), .val (.ref it), .val (.ref kids), .val (.ref pa)] [(.int p4), (.ref pa)])) (fun t k => XS.icmpNo X61.here hx rfl (hb hby at_197) rfl (teq hc197).2 (XS.aload X61.here hx rfl (hb hby at_200) rfl rfl (XS.iloadN X61.here hx rfl (hb hby at_202) rfl k))) ?_
        obtain ⟨cq62, kq62, q62a, q62b, q62c⟩ := isOf hZ HQ61 E_pa
        obtain ⟨_, _, ⟨T62, L62, k62, n62⟩, -, X62, ⟨Lc62, hQ62, l62, y62, z62⟩, st62⟩ := X61.virtualBack hx (y := (⟨"com/example/restate/restate/plan/Item", "deletedBefore", "(I)I"⟩ : MethodName)) (z := (⟨"com/example/restate/restate/plan/Item", "deletedBefore", "(I)I"⟩ : MethodName)) hown (mvT hZ (wq hw 208 rfl)) (mvT hZ (wq hw 209 rfl)) (notFace_of_selects (args := #[]) (mvT hZ (wq hw 211 rfl))) (mvT hZ (wq hw 211 rfl)) (mvT hZ (wq hw 210 rfl)) (by decide) (backOf (W := 0) (rm_dbP11 l Z a0 hw [] pa p4 r59 it a b em el ea ke T59.heap n0 Z60 F_children_pa E_r59 F_e0_r59 F_e1_r59 S_EMPTY E_el F_elements_el V_ea F_label_it F_printed_it F_start_it F_children_it E_it O) hZ (wq hw 212 rfl) (wq hw 67 rfl) (by decide) (by decide)) q62a q62c (g := (mkF m 203 #[.val (.int p1), .val (.int p2), .val (.int p3), .val (.int p4), .val (.int p5), .val (.int kk), .val (.ref a), .val (.ref b), .val (.ref a), .val (.ref b), .val (.int (0 : Int32)), .val (.ref li), .val (.ref it), .val (.ref kids), .val (.ref pa)] [(.int p4), (.ref pa)])) rfl (by rw [hml]; rfl) (Steps.refl _) (argsL := [(.int p4)]) (rest := []) (lenOf pd__28I_29I rfl) rfl (by show 2 * 0 + _ ≤ _; exact Nat.le_of_eq rfl) (hb hby at_203) (fun _ _ => ⟨rfl, HQ61, (by decide : 13 + 2 ≤ _), (by decide : 41 + 8 ≤ _)⟩)
        dsimp only [Pt.U, Pt.locs, Pt.cells, Pt.slots] at X62 l62 y62 z62 st62 hQ62
        subst l62 y62 z62
        obtain ⟨rfl, N62q, KQ62⟩ := hQ62
        have N62 := Fr.app N61 N62q
        have E_a := E_a.keep KQ62
        have E_r2 := E_r2.keep KQ62
        have E_b := E_b.keep KQ62
        have E_r7 := E_r7.keep KQ62
        have E_li := E_li.keep KQ62
        have F_modCount_li := F_modCount_li.keep KQ62 nin0
        have F_size_li := F_size_li.keep KQ62 nin0
        have F_elementData_li := F_elementData_li.keep KQ62 nin0
        have E_it := E_it.keep KQ62
        have F_label_it := F_label_it.keep KQ62 nin0
        have F_printed_it := F_printed_it.keep KQ62 nin0
        have F_start_it := F_start_it.keep KQ62 nin0
        have F_end_it := F_end_it.keep KQ62 nin0
        have F_children_it := F_children_it.keep KQ62 nin0
        have E_kids := E_kids.keep KQ62
        have F_modCount_kids := F_modCount_kids.keep KQ62 nin0
        have F_size_kids := F_size_kids.keep KQ62 nin0
        have F_elementData_kids := F_elementData_kids.keep KQ62 nin0
        have E_r56 := E_r56.keep KQ62
        have V_r56 := V_r56.keep KQ62 nin0
        have E_pa := E_pa.keep KQ62
        have F_label_pa := F_label_pa.keep KQ62 nin0
        have F_printed_pa := F_printed_pa.keep KQ62 nin0
        have F_start_pa := F_start_pa.keep KQ62 nin0
        have F_end_pa := F_end_pa.keep KQ62 nin0
        have F_children_pa := F_children_pa.keep KQ62 nin0
        have E_r59 := E_r59.keep KQ62
        have F_e0_r59 := F_e0_r59.keep KQ62 nin0
        have F_e1_r59 := F_e1_r59.keep KQ62 nin0
        have Z63 : n0 ≤ T62.heap.size := Nat.le_trans Z60 KQ62.1
        have O := O.keep KQ62 all0
        refine Goes.pre (U' := T62.setTop (mkF m 208 #[.val (.int p1), .val (.int p2), .val (.int p3), .val (.int p4), .val (.int p5), .val (.int kk), .val (.ref a), .val (.ref b), .val (.ref a), .val (.ref b), .val (.int (0 : Int32)), .val (.ref li), .val (.ref it), .val (.ref kids), .val (.ref pa)] [(.int (0 : Int32)), (.int (0 : Int32))])) (fun t k => st62.trans (XS.iload X62.here hx rfl (hb hby at_206) rfl k)) ?_
        have hc208 : (0 : Int32) = (0 : Int32) := rfl
        refine Goes.pre (U' := T62.setTop (mkF m 216 #[.val (.int p1), .val (.int p2), .val (.int p3), .val (.int p4), .val (.int p5), .val (.int kk), .val (.ref a), .val (.ref b), .val (.ref a), .val (.ref b), .val (.int (0 : Int32)), .val (.ref li), .val (.ref it), .val (.ref kids), .val (.ref pa)] [(.int (0 : Int32)), (.int (0 : Int32))])) (fun t k => XS.ifYes X62.here hx rfl (pc0 := 208) (pc' := 215) rfl (hb hby at_208) rfl ((if0 _ _).trans (teq hc208).1) (by decide) (by decide) (XS.iconst X62.here hx rfl (hb hby at_215) k)) ?_
        have hc216 : (0 : Int32) = (0 : Int32) := rfl
        refine Goes.pre (U' := T62.setTop (mkF m 221 #[.val (.int p1), .val (.int p2), .val (.int p3), .val (.int p4), .val (.int p5), .val (.int kk), .val (.ref a), .val (.ref b), .val (.ref a), .val (.ref b), .val (.int (0 : Int32)), .val (.ref li), .val (.ref it), .val (.ref kids), .val (.ref pa)] [(.ref pa)])) (fun t k => XS.icmpNo X62.here hx rfl (hb hby at_216) rfl (teq hc216).2 (XS.aload X62.here hx rfl (hb hby at_219) rfl rfl k)) ?_
        obtain ⟨cq64, kq64, q64a, q64b, q64c⟩ := isOf hZ rfl E_pa
        obtain ⟨_, _, ⟨T64, L64, k64, n64⟩, -, X64, ⟨Lc64, hQ64, l64, y64, z64⟩, st64⟩ := X62.virtualBack hx (y := (⟨"com/example/restate/restate/plan/Item", "deleted", "()Z"⟩ : MethodName)) (z := (⟨"com/example/restate/restate/plan/Item", "deleted", "()Z"⟩ : MethodName)) hown (mvT hZ (wq hw 203 rfl)) (mvT hZ (wq hw 204 rfl)) (notFace_of_selects (args := #[]) (mvT hZ (wq hw 206 rfl))) (mvT hZ (wq hw 206 rfl)) (mvT hZ (wq hw 205 rfl)) (by decide) (backOf (W := 0) (rm_del00 l Z a0 hw [] pa T62.heap n0 Z63 F_label_pa F_printed_pa) hZ (wq hw 207 rfl) (wq hw 67 rfl) (by decide) (by decide)) q64a q64c (g := (mkF m 221 #[.val (.int p1), .val (.int p2), .val (.int p3), .val (.int p4), .val (.int p5), .val (.int kk), .val (.ref a), .val (.ref b), .val (.ref a), .val (.ref b), .val (.int (0 : Int32)), .val (.ref li), .val (.ref it), .val (.ref kids), .val (.ref pa)] [(.ref pa)])) rfl (by rw [hml]; rfl) (Steps.refl _) (argsL := []) (rest := []) (lenOf pd__28_29Z rfl) rfl (by show 2 * 0 + _ ≤ _; exact Nat.le_of_eq rfl) (hb hby at_221) (fun _ _ => ⟨rfl, rfl, (by decide : 15 + 0 ≤ _), (by decide : 49 + 0 ≤ _)⟩)
        dsimp only [Pt.U, Pt.locs, Pt.cells, Pt.slots] at X64 l64 y64 z64 st64 hQ64
        subst l64 y64 z64
        obtain ⟨rfl, N64q, HQ64⟩ := hQ64
        have N64 := Fr.app N62 N64q
        refine Goes.pre (U' := T64.setTop (mkF m 224 #[.val (.int p1), .val (.int p2), .val (.int p3), .val (.int p4), .val (.int p5), .val (.int kk), .val (.ref a), .val (.ref b), .val (.ref a), .val (.ref b), .val (.int (0 : Int32)), .val (.ref li), .val (.ref it), .val (.ref kids), .val (.ref pa)] [(.int (0 : Int32))])) (fun t k => st64.trans k) ?_
        have hc224 : (0 : Int32) = (0 : Int32) := rfl
        refine Goes.pre (U' := T64.setTop (mkF m 232 #[.val (.int p1), .val (.int p2), .val (.int p3), .val (.int p4), .val (.int p5), .val (.int kk), .val (.ref a), .val (.ref b), .val (.ref a), .val (.ref b), .val (.int (0 : Int32)), .val (.ref li), .val (.ref it), .val (.ref kids), .val (.ref pa)] [(.int (1 : Int32))])) (fun t k => XS.ifNo X64.here hx rfl (hb hby at_224) rfl ((if0 _ _).trans (teq hc224).2) (XS.iconst X64.here hx rfl (hb hby at_227) (XS.goto X64.here hx rfl (pc0 := 228) (pc' := 232) rfl (hb hby at_228) (by decide) (by decide) k))) ?_
        refine Goes.ret X64 (v := (some (.int (1 : Int32)))) (fun h => by rw [hret] at h; cases h) hlk (by decide) (by decide) HQ64 (fun fs hr => retN X64 hx (t := .boolean) hret (by simp) (hb hby at_232) hr) ?_
        exact ⟨rfl, N64⟩
      ·
        refine Goes.pre (U' := T9.setTop (mkF m 104 #[.val (.int p1), .val (.int p2), .val (.int p3), .val (.int p4), .val (.int p5), .val (.int kk), .val (.ref a), .val (.ref b), .unset, .unset, .unset, .unset, .unset, .unset, .unset] [(.int (3 : Int32)), (.int kk)])) (fun t k => XS.icmpYes X9.here hx rfl (pc0 := 84) (pc' := 101) rfl (hb hby at_84) rfl (feq hc84).2 (by decide) (by decide) (XS.iload X9.here hx rfl (hb hby at_101) rfl (XS.iconst X9.here hx rfl (hb hby at_103) k))) ?_
        by_cases hc104 : kk = (3 : Int32)
        ·
          refine Goes.pre (U' := T9.setTop (mkF m 130 #[.val (.int p1), .val (.int p2), .val (.int p3), .val (.int p4), .val (.int p5), .val (.int kk), .val (.ref a), .val (.ref b), .val (.ref a), .val .null, .val (.int (1 : Int32)), .unset, .unset, .unset, .unset] [])) (fun t k => XS.icmpNo X9.here hx rfl (hb hby at_104) rfl (teq hc104).2 (XS.aload X9.here hx rfl (hb hby at_107) rfl rfl (XS.astore X9.here hx rfl (hb hby at_109) rfl rfl (l' := #[.val (.int p1), .val (.int p2), .val (.int p3), .val (.int p4), .val (.int p5), .val (.int kk), .val (.ref a), .val (.ref b), .val (.ref a), .unset, .unset, .unset, .unset, .unset, .unset]) rfl (XS.aconstNull X9.here hx rfl (hb hby at_111) (XS.astore X9.here hx rfl (hb hby at_112) rfl rfl (l' := #[.val (.int p1), .val (.int p2), .val (.int p3), .val (.int p4), .val (.int p5), .val (.int kk), .val (.ref a), .val (.ref b), .val (.ref a), .val .null, .unset, .unset, .unset, .unset, .unset]) rfl (XS.iconst X9.here hx rfl (hb hby at_114) (XS.istore X9.here hx rfl (hb hby at_115) rfl (l' := #[.val (.int p1), .val (.int p2), .val (.int p3), .val (.int p4), .val (.int p5), .val (.int kk), .val (.ref a), .val (.ref b), .val (.ref a), .val .null, .val (.int (1 : Int32)), .unset, .unset, .unset, .unset]) rfl (XS.goto X9.here hx rfl (pc0 := 117) (pc' := 130) rfl (hb hby at_117) (by decide) (by decide) k)))))))) ?_
          obtain ⟨T65, h65, X65, e65, E65, A65, D65, -, st65⟩ := newO X9 hx hZ hown (wq hw 41 rfl) (wq hw 42 rfl) (wq hw 43 rfl) rfl (g := (mkF m 130 #[.val (.int p1), .val (.int p2), .val (.int p3), .val (.int p4), .val (.int p5), .val (.int kk), .val (.ref a), .val (.ref b), .val (.ref a), .val .null, .val (.int (1 : Int32)), .unset, .unset, .unset, .unset] [])) rfl (hb hby at_130) (by decide) (by decide)
          obtain ⟨li, g65⟩ : ∃ z, z = T9.heap.size := ⟨_, rfl⟩
          rw [← g65] at A65 D65 st65
          have ne_a_li : a ≠ li := Nat.ne_of_lt (Nat.lt_of_lt_of_le E_a.lt (Nat.le_of_eq g65.symm))
          have ne_li_a := ne_a_li.symm
          have ne_b_li : b ≠ li := Nat.ne_of_lt (Nat.lt_of_lt_of_le E_b.lt (Nat.le_of_eq g65.symm))
          have ne_li_b := ne_b_li.symm
          have ne_dce_li : dce ≠ li := Nat.ne_of_lt (Nat.lt_of_lt_of_le (V_dce.ext O.2).lt (Nat.le_of_eq g65.symm))
          have ne_li_dce := ne_dce_li.symm
          have ne_ea_li : ea ≠ li := Nat.ne_of_lt (Nat.lt_of_lt_of_le (V_ea.ext O.2).lt (Nat.le_of_eq g65.symm))
          have ne_li_ea := ne_ea_li.symm
          have ne_el_li : el ≠ li := Nat.ne_of_lt (Nat.lt_of_lt_of_le (E_el.ext O.2).lt (Nat.le_of_eq g65.symm))
          have ne_li_el := ne_el_li.symm
          have ne_r2_li : r2 ≠ li := Nat.ne_of_lt (Nat.lt_of_lt_of_le E_r2.lt (Nat.le_of_eq g65.symm))
          have ne_li_r2 := ne_r2_li.symm
          have ne_r7_li : r7 ≠ li := Nat.ne_of_lt (Nat.lt_of_lt_of_le E_r7.lt (Nat.le_of_eq g65.symm))
          have ne_li_r7 := ne_r7_li.symm
          have g_li : n0 ≤ li := Nat.le_trans Z10 (Nat.le_of_eq g65.symm)
          have E_a := E_a.ext E65
          have E_r2 := E_r2.ext E65
          have E_b := E_b.ext E65
          have E_r7 := E_r7.ext E65
          have O := O.ext E65
          have Z65 : n0 ≤ h65.size := Nat.le_trans Z10 E65.1
          have E_li := A65
          have F_modCount_li : Fld Z h65 li "java/util/AbstractList" "modCount" "I" (.int (0 : Int32)) := D65 (Or.inl (wq hw 61 rfl)) (ty := .int) (by decide)
          have F_elementData_li : Fld Z h65 li "java/util/ArrayList" "elementData" "[Ljava/lang/Object;" .null := D65 (Or.inl (wq hw 64 rfl)) (ty := (.array (.object "java/lang/Object"))) (by decide)
          have F_size_li : Fld Z h65 li "java/util/ArrayList" "size" "I" (.int (0 : Int32)) := D65 (Or.inl (wq hw 96 rfl)) (ty := .int) (by decide)
          refine Goes.pre (U' := T65.setTop (mkF m 134 #[.val (.int p1), .val (.int p2), .val (.int p3), .val (.int p4), .val (.int p5), .val (.int kk), .val (.ref a), .val (.ref b), .val (.ref a), .val .null, .val (.int (1 : Int32)), .unset, .unset, .unset, .unset] [(.ref li), (.ref li)])) (fun t k => st65 t (XS.dup X65.here hx rfl (hb hby at_133) rfl rfl k)) ?_
          obtain ⟨_, _, ⟨T66, L66, k66, n66⟩, -, X66, ⟨Lc66, hQ66, l66, y66, z66⟩, st66⟩ := X65.specialBack hx (y := (⟨"java/util/ArrayList", "<init>", "()V"⟩ : MethodName)) rfl hown (mvT hZ (wq hw 44 rfl)) (mvT hZ (wq hw 45 rfl)) (mvT hZ (wq hw 46 rfl)) (by decide) (backOf (W := 1) (rm_al l Z a0 hw [] li dce h65 n0 Z65 E_li F_modCount_li F_size_li F_elementData_li S_DEFAULTCAPACITY_EMPTY_ELEMENTDATA g_li O) hZ (wq hw 46 rfl) (wq hw 43 rfl) (by decide) (by decide)) (g := (mkF m 134 #[.val (.int p1), .val (.int p2), .val (.int p3), .val (.int p4), .val (.int p5), .val (.int kk), .val (.ref a), .val (.ref b), .val (.ref a), .val .null, .val (.int (1 : Int32)), .unset, .unset, .unset, .unset] [(.ref li), (.ref li)])) rfl (by rw [hml]; rfl) (Steps.refl _) (a := li) (argsL := []) (rest := [(.ref li)]) (lenOf pd__28_29V rfl) rfl (by show 2 * 0 + _ ≤ _; exact Nat.le_of_eq rfl) (hb hby at_134) (fun _ _ => ⟨rfl, e65, (by decide : 7 + 0 ≤ _), (by decide : 15 + 0 ≤ _)⟩)
          dsimp only [Pt.U, Pt.locs, Pt.cells, Pt.slots] at X66 l66 y66 z66 st66 hQ66
          subst l66 y66 z66
          obtain ⟨rfl, N66q, KQ66, fo0_66, fo1_66, fo2_66⟩ := hQ66
          have N66 := Fr.app N9 N66q
          have E_a := E_a.keep KQ66
          have E_r2 := E_r2.keep KQ66
          have E_b := E_b.keep KQ66
          have E_r7 := E_r7.keep KQ66
          have E_li := E_li.keep KQ66
          have Z67 : n0 ≤ T66.heap.size := Nat.le_trans Z65 KQ66.1
          have O := O.keep KQ66 (allS (P := fun x => n0 ≤ x) g_li all0)
          have F_modCount_li := fo0_66
          have F_size_li := fo1_66
          have F_elementData_li := fo2_66
          refine Goes.pre (U' := T66.setTop (mkF m 139 #[.val (.int p1), .val (.int p2), .val (.int p3), .val (.int p4), .val (.int p5), .val (.int kk), .val (.ref a), .val (.ref b), .val (.ref a), .val .null, .val (.int (1 : Int32)), .val (.ref li), .unset, .unset, .unset] [])) (fun t k => st66.trans (XS.astore X66.here hx rfl (hb hby at_137) rfl rfl (l' := #[.val (.int p1), .val (.int p2), .val (.int p3), .val (.int p4), .val (.int p5), .val (.int kk), .val (.ref a), .val (.ref b), .val (.ref a), .val .null, .val (.int (1 : Int32)), .val (.ref li), .unset, .unset, .unset]) rfl k)) ?_
          obtain ⟨T68, h68, X68, e68, E68, A68, D68, -, st68⟩ := newO X66 hx hZ hown (wq hw 65 rfl) (wq hw 66 rfl) (wq hw 67 rfl) rfl (g := (mkF m 139 #[.val (.int p1), .val (.int p2), .val (.int p3), .val (.int p4), .val (.int p5), .val (.int kk), .val (.ref a), .val (.ref b), .val (.ref a), .val .null, .val (.int (1 : Int32)), .val (.ref li), .unset, .unset, .unset] [])) rfl (hb hby at_139) (by decide) (by decide)
          obtain ⟨it, g68⟩ : ∃ z, z = T66.heap.size := ⟨_, rfl⟩
          rw [← g68] at A68 D68 st68
          have ne_a_it : a ≠ it := Nat.ne_of_lt (Nat.lt_of_lt_of_le E_a.lt (Nat.le_of_eq g68.symm))
          have ne_it_a := ne_a_it.symm
          have ne_b_it : b ≠ it := Nat.ne_of_lt (Nat.lt_of_lt_of_le E_b.lt (Nat.le_of_eq g68.symm))
          have ne_it_b := ne_b_it.symm
          have ne_dce_it : dce ≠ it := Nat.ne_of_lt (Nat.lt_of_lt_of_le (V_dce.ext O.2).lt (Nat.le_of_eq g68.symm))
          have ne_it_dce := ne_dce_it.symm
          have ne_ea_it : ea ≠ it := Nat.ne_of_lt (Nat.lt_of_lt_of_le (V_ea.ext O.2).lt (Nat.le_of_eq g68.symm))
          have ne_it_ea := ne_ea_it.symm
          have ne_el_it : el ≠ it := Nat.ne_of_lt (Nat.lt_of_lt_of_le (E_el.ext O.2).lt (Nat.le_of_eq g68.symm))
          have ne_it_el := ne_el_it.symm
          have ne_li_it : li ≠ it := Nat.ne_of_lt (Nat.lt_of_lt_of_le E_li.lt (Nat.le_of_eq g68.symm))
          have ne_it_li := ne_li_it.symm
          have ne_r2_it : r2 ≠ it := Nat.ne_of_lt (Nat.lt_of_lt_of_le E_r2.lt (Nat.le_of_eq g68.symm))
          have ne_it_r2 := ne_r2_it.symm
          have ne_r7_it : r7 ≠ it := Nat.ne_of_lt (Nat.lt_of_lt_of_le E_r7.lt (Nat.le_of_eq g68.symm))
          have ne_it_r7 := ne_r7_it.symm
          have g_it : n0 ≤ it := Nat.le_trans Z67 (Nat.le_of_eq g68.symm)
          have E_a := E_a.ext E68
          have E_r2 := E_r2.ext E68
          have E_b := E_b.ext E68
          have E_r7 := E_r7.ext E68
          have E_li := E_li.ext E68
          have F_modCount_li := F_modCount_li.ext E68
          have F_size_li := F_size_li.ext E68
          have F_elementData_li := F_elementData_li.ext E68
          have O := O.ext E68
          have Z68 : n0 ≤ h68.size := Nat.le_trans Z67 E68.1
          have E_it := A68
          have F_label_it : Fld Z h68 it "com/example/restate/restate/plan/Item" "label" "Lcom/example/restate/restate/plan/Label;" .null := D68 (Or.inr (wq hw 102 rfl)) (ty := (.object "com/example/restate/restate/plan/Label")) (by decide)
          have F_printed_it : Fld Z h68 it "com/example/restate/restate/plan/Item" "printed" "Lcom/example/restate/restate/plan/Label;" .null := D68 (Or.inr (wq hw 104 rfl)) (ty := (.object "com/example/restate/restate/plan/Label")) (by decide)
          have F_start_it : Fld Z h68 it "com/example/restate/restate/plan/Item" "start" "I" (.int (0 : Int32)) := D68 (Or.inr (wq hw 106 rfl)) (ty := .int) (by decide)
          have F_end_it : Fld Z h68 it "com/example/restate/restate/plan/Item" "end" "I" (.int (0 : Int32)) := D68 (Or.inr (wq hw 108 rfl)) (ty := .int) (by decide)
          have F_children_it : Fld Z h68 it "com/example/restate/restate/plan/Item" "children" "Ljava/util/List;" .null := D68 (Or.inr (wq hw 110 rfl)) (ty := (.object "java/util/List")) (by decide)
          refine Goes.pre (U' := T68.setTop (mkF m 152 #[.val (.int p1), .val (.int p2), .val (.int p3), .val (.int p4), .val (.int p5), .val (.int kk), .val (.ref a), .val (.ref b), .val (.ref a), .val .null, .val (.int (1 : Int32)), .val (.ref li), .unset, .unset, .unset] [(.ref li), (.int p5), (.int p4), .null, (.ref a), (.ref it), (.ref it)])) (fun t k => st68 t (XS.dup X68.here hx rfl (hb hby at_142) rfl rfl (XS.aload X68.here hx rfl (hb hby at_143) rfl rfl (XS.aload X68.here hx rfl (hb hby at_145) rfl rfl (XS.iloadN X68.here hx rfl (hb hby at_147) rfl (XS.iload X68.here hx rfl (hb hby at_148) rfl (XS.aload X68.here hx rfl (hb hby at_150) rfl rfl k))))))) ?_
          obtain ⟨_, _, ⟨T69, L69, k69, n69⟩, -, X69, ⟨Lc69, hQ69, l69, y69, z69⟩, st69⟩ := X68.specialBack hx (y := (⟨"com/example/restate/restate/plan/Item", "<init>", "(Lcom/example/restate/restate/plan/Label;Lcom/example/restate/restate/plan/Label;IILjava/util/List;)V"⟩ : MethodName)) rfl hown (mvT hZ (wq hw 68 rfl)) (mvT hZ (wq hw 69 rfl)) (mvT hZ (wq hw 70 rfl)) (by decide) (backOf (W := 1) (rm_item10 l Z a0 hw [] it a p4 p5 li el h68 n0 Z68 E_it E_li F_size_li S_EMPTY_LIST F_label_it F_printed_it F_start_it F_end_it F_children_it ne_it_li ne_li_it g_it O) hZ (wq hw 70 rfl) (wq hw 67 rfl) (by decide) (by decide)) (g := (mkF m 152 #[.val (.int p1), .val (.int p2), .val (.int p3), .val (.int p4), .val (.int p5), .val (.int kk), .val (.ref a), .val (.ref b), .val (.ref a), .val .null, .val (.int (1 : Int32)), .val (.ref li), .unset, .unset, .unset] [(.ref li), (.int p5), (.int p4), .null, (.ref a), (.ref it), (.ref it)])) rfl (by rw [hml]; rfl) (Steps.refl _) (a := it) (argsL := [(.ref a), .null, (.int p4), (.int p5), (.ref li)]) (rest := [(.ref it)]) (lenOf pd__28Lcom_2fexample_2frestate_2frestate_2fplan_2fLabel_3bLcom_2fexample_2frestate_2frestate_2fplan_2fLabel_3bIILjava_2futil_2fList_3b_29V rfl) rfl (by show 2 * 0 + _ ≤ _; exact Nat.le_of_eq rfl) (hb hby at_152) (fun _ _ => ⟨rfl, e68, (by decide : 8 + 0 ≤ _), (by decide : 20 + 0 ≤ _)⟩)
          dsimp only [Pt.U, Pt.locs, Pt.cells, Pt.slots] at X69 l69 y69 z69 st69 hQ69
          subst l69 y69 z69
          obtain ⟨rfl, N69q, KQ69, fo0_69, fo1_69, fo2_69, fo3_69, fo4_69⟩ := hQ69
          have N69 := Fr.app N66 N69q
          have E_a := E_a.keep KQ69
          have E_r2 := E_r2.keep KQ69
          have E_b := E_b.keep KQ69
          have E_r7 := E_r7.keep KQ69
          have E_li := E_li.keep KQ69
          have F_modCount_li := F_modCount_li.keep KQ69 (ninS ne_li_it nin0)
          have F_size_li := F_size_li.keep KQ69 (ninS ne_li_it nin0)
          have F_elementData_li := F_elementData_li.keep KQ69 (ninS ne_li_it nin0)
          have E_it := E_it.keep KQ69
          have Z70 : n0 ≤ T69.heap.size := Nat.le_trans Z68 KQ69.1
          have O := O.keep KQ69 (allS (P := fun x => n0 ≤ x) g_it all0)
          have F_label_it := fo0_69
          have F_printed_it := fo1_69
          have F_start_it := fo2_69
          have F_end_it := fo3_69
          have F_children_it := fo4_69
          refine Goes.pre (U' := T69.setTop (mkF m 157 #[.val (.int p1), .val (.int p2), .val (.int p3), .val (.int p4), .val (.int p5), .val (.int kk), .val (.ref a), .val (.ref b), .val (.ref a), .val .null, .val (.int (1 : Int32)), .val (.ref li), .val (.ref it), .unset, .unset] [])) (fun t k => st69.trans (XS.astore X69.here hx rfl (hb hby at_155) rfl rfl (l' := #[.val (.int p1), .val (.int p2), .val (.int p3), .val (.int p4), .val (.int p5), .val (.int kk), .val (.ref a), .val (.ref b), .val (.ref a), .val .null, .val (.int (1 : Int32)), .val (.ref li), .val (.ref it), .unset, .unset]) rfl k)) ?_
          obtain ⟨T71, h71, X71, e71, E71, A71, D71, -, st71⟩ := newO X69 hx hZ hown (wq hw 41 rfl) (wq hw 42 rfl) (wq hw 43 rfl) rfl (g := (mkF m 157 #[.val (.int p1), .val (.int p2), .val (.int p3), .val (.int p4), .val (.int p5), .val (.int kk), .val (.ref a), .val (.ref b), .val (.ref a), .val .null, .val (.int (1 : Int32)), .val (.ref li), .val (.ref it), .unset, .unset] [])) rfl (hb hby at_157) (by decide) (by decide)
          obtain ⟨kids, g71⟩ : ∃ z, z = T69.heap.size := ⟨_, rfl⟩
          rw [← g71] at A71 D71 st71
          have ne_a_kids : a ≠ kids := Nat.ne_of_lt (Nat.lt_of_lt_of_le E_a.lt (Nat.le_of_eq g71.symm))
          have ne_kids_a := ne_a_kids.symm
          have ne_b_kids : b ≠ kids := Nat.ne_of_lt (Nat.lt_of_lt_of_le E_b.lt (Nat.le_of_eq g71.symm))
          have ne_kids_b := ne_b_kids.symm
          have ne_dce_kids : dce ≠ kids := Nat.ne_of_lt (Nat.lt_of_lt_of_le (V_dce.ext O.2).lt (Nat.le_of_eq g71.symm))
          have ne_kids_dce := ne_dce_kids.symm
          have ne_ea_kids : ea ≠ kids := Nat.ne_of_lt (Nat.lt_of_lt_of_le (V_ea.ext O.2).lt (Nat.le_of_eq g71.symm))
          have ne_kids_ea := ne_ea_kids.symm
          have ne_el_kids : el ≠ kids := Nat.ne_of_lt (Nat.lt_of_lt_of_le (E_el.ext O.2).lt (Nat.le_of_eq g71.symm))
          have ne_kids_el := ne_el_kids.symm
          have ne_it_kids : it ≠ kids := Nat.ne_of_lt (Nat.lt_of_lt_of_le E_it.lt (Nat.le_of_eq g71.symm))
          have ne_kids_it := ne_it_kids.symm
          have ne_li_kids : li ≠ kids := Nat.ne_of_lt (Nat.lt_of_lt_of_le E_li.lt (Nat.le_of_eq g71.symm))
          have ne_kids_li := ne_li_kids.symm
          have ne_r2_kids : r2 ≠ kids := Nat.ne_of_lt (Nat.lt_of_lt_of_le E_r2.lt (Nat.le_of_eq g71.symm))
          have ne_kids_r2 := ne_r2_kids.symm
          have ne_r7_kids : r7 ≠ kids := Nat.ne_of_lt (Nat.lt_of_lt_of_le E_r7.lt (Nat.le_of_eq g71.symm))
          have ne_kids_r7 := ne_r7_kids.symm
          have g_kids : n0 ≤ kids := Nat.le_trans Z70 (Nat.le_of_eq g71.symm)
          have E_a := E_a.ext E71
          have E_r2 := E_r2.ext E71
          have E_b := E_b.ext E71
          have E_r7 := E_r7.ext E71
          have E_li := E_li.ext E71
          have F_modCount_li := F_modCount_li.ext E71
          have F_size_li := F_size_li.ext E71
          have F_elementData_li := F_elementData_li.ext E71
          have E_it := E_it.ext E71
          have F_label_it := F_label_it.ext E71
          have F_printed_it := F_printed_it.ext E71
          have F_start_it := F_start_it.ext E71
          have F_end_it := F_end_it.ext E71
          have F_children_it := F_children_it.ext E71
          have O := O.ext E71
          have Z71 : n0 ≤ h71.size := Nat.le_trans Z70 E71.1
          have E_kids := A71
          have F_modCount_kids : Fld Z h71 kids "java/util/AbstractList" "modCount" "I" (.int (0 : Int32)) := D71 (Or.inl (wq hw 61 rfl)) (ty := .int) (by decide)
          have F_elementData_kids : Fld Z h71 kids "java/util/ArrayList" "elementData" "[Ljava/lang/Object;" .null := D71 (Or.inl (wq hw 64 rfl)) (ty := (.array (.object "java/lang/Object"))) (by decide)
          have F_size_kids : Fld Z h71 kids "java/util/ArrayList" "size" "I" (.int (0 : Int32)) := D71 (Or.inl (wq hw 96 rfl)) (ty := .int) (by decide)
          refine Goes.pre (U' := T71.setTop (mkF m 161 #[.val (.int p1), .val (.int p2), .val (.int p3), .val (.int p4), .val (.int p5), .val (.int kk), .val (.ref a), .val (.ref b), .val (.ref a), .val .null, .val (.int (1 : Int32)), .val (.ref li), .val (.ref it), .unset, .unset] [(.ref kids), (.ref kids)])) (fun t k => st71 t (XS.dup X71.here hx rfl (hb hby at_160) rfl rfl k)) ?_
          obtain ⟨_, _, ⟨T72, L72, k72, n72⟩, -, X72, ⟨Lc72, hQ72, l72, y72, z72⟩, st72⟩ := X71.specialBack hx (y := (⟨"java/util/ArrayList", "<init>", "()V"⟩ : MethodName)) rfl hown (mvT hZ (wq hw 44 rfl)) (mvT hZ (wq hw 45 rfl)) (mvT hZ (wq hw 46 rfl)) (by decide) (backOf (W := 1) (rm_al l Z a0 hw [] kids dce h71 n0 Z71 E_kids F_modCount_kids F_size_kids F_elementData_kids S_DEFAULTCAPACITY_EMPTY_ELEMENTDATA g_kids O) hZ (wq hw 46 rfl) (wq hw 43 rfl) (by decide) (by decide)) (g := (mkF m 161 #[.val (.int p1), .val (.int p2), .val (.int p3), .val (.int p4), .val (.int p5), .val (.int kk), .val (.ref a), .val (.ref b), .val (.ref a), .val .null, .val (.int (1 : Int32)), .val (.ref li), .val (.ref it), .unset, .unset] [(.ref kids), (.ref kids)])) rfl (by rw [hml]; rfl) (Steps.refl _) (a := kids) (argsL := []) (rest := [(.ref kids)]) (lenOf pd__28_29V rfl) rfl (by show 2 * 0 + _ ≤ _; exact Nat.le_of_eq rfl) (hb hby at_161) (fun _ _ => ⟨rfl, e71, (by decide : 9 + 0 ≤ _), (by decide : 23 + 0 ≤ _)⟩)
          dsimp only [Pt.U, Pt.locs, Pt.cells, Pt.slots] at X72 l72 y72 z72 st72 hQ72
          subst l72 y72 z72
          obtain ⟨rfl, N72q, KQ72, fo0_72, fo1_72, fo2_72⟩ := hQ72
          have N72 := Fr.app N69 N72q
          have E_a := E_a.keep KQ72
          have E_r2 := E_r2.keep KQ72
          have E_b := E_b.keep KQ72
          have E_r7 := E_r7.keep KQ72
          have E_li := E_li.keep KQ72
          have F_modCount_li := F_modCount_li.keep KQ72 (ninS ne_li_kids nin0)
          have F_size_li := F_size_li.keep KQ72 (ninS ne_li_kids nin0)
          have F_elementData_li := F_elementData_li.keep KQ72 (ninS ne_li_kids nin0)
          have E_it := E_it.keep KQ72
          have F_label_it := F_label_it.keep KQ72 (ninS ne_it_kids nin0)
          have F_printed_it := F_printed_it.keep KQ72 (ninS ne_it_kids nin0)
          have F_start_it := F_start_it.keep KQ72 (ninS ne_it_kids nin0)
          have F_end_it := F_end_it.keep KQ72 (ninS ne_it_kids nin0)
          have F_children_it := F_children_it.keep KQ72 (ninS ne_it_kids nin0)
          have E_kids := E_kids.keep KQ72
          have Z73 : n0 ≤ T72.heap.size := Nat.le_trans Z71 KQ72.1
          have O := O.keep KQ72 (allS (P := fun x => n0 ≤ x) g_kids all0)
          have F_modCount_kids := fo0_72
          have F_size_kids := fo1_72
          have F_elementData_kids := fo2_72
          refine Goes.pre (U' := T72.setTop (mkF m 170 #[.val (.int p1), .val (.int p2), .val (.int p3), .val (.int p4), .val (.int p5), .val (.int kk), .val (.ref a), .val (.ref b), .val (.ref a), .val .null, .val (.int (1 : Int32)), .val (.ref li), .val (.ref it), .val (.ref kids), .unset] [(.ref it), (.ref kids)])) (fun t k => st72.trans (XS.astore X72.here hx rfl (hb hby at_164) rfl rfl (l' := #[.val (.int p1), .val (.int p2), .val (.int p3), .val (.int p4), .val (.int p5), .val (.int kk), .val (.ref a), .val (.ref b), .val (.ref a), .val .null, .val (.int (1 : Int32)), .val (.ref li), .val (.ref it), .val (.ref kids), .unset]) rfl (XS.aload X72.here hx rfl (hb hby at_166) rfl rfl (XS.aload X72.here hx rfl (hb hby at_168) rfl rfl k)))) ?_
          have lt_a := E_a.lt
          have lt_b := E_b.lt
          have lt_dce := (V_dce.ext O.2).lt
          have lt_ea := (V_ea.ext O.2).lt
          have lt_el := (E_el.ext O.2).lt
          have lt_it := E_it.lt
          have lt_kids := E_kids.lt
          have lt_li := E_li.lt
          have lt_r2 := E_r2.lt
          have lt_r7 := E_r7.lt
          obtain ⟨cq74, kq74, q74a, q74b, q74c⟩ := isOf hZ rfl E_kids
          obtain ⟨_, _, ⟨T74, L74, k74, n74⟩, -, X74, ⟨Lc74, hQ74, l74, y74, z74⟩, st74⟩ := X72.virtualBack hx (y := (⟨"java/util/ArrayList", "add", "(Ljava/lang/Object;)Z"⟩ : MethodName)) (z := (⟨"java/util/ArrayList", "add", "(Ljava/lang/Object;)Z"⟩ : MethodName)) hown (mvT hZ (wq hw 111 rfl)) (mvT hZ (wq hw 112 rfl)) (notFace_of_selects (args := #[]) (mvT hZ (wq hw 114 rfl))) (mvT hZ (wq hw 114 rfl)) (mvT hZ (wq hw 113 rfl)) (by decide) (backOf (W := 0) (rm_add l Z a0 hw [] kids it dce kd T72.heap n0 Z73 E_kids F_modCount_kids F_size_kids F_elementData_kids S_DEFAULTCAPACITY_EMPTY_ELEMENTDATA V_dce E_it g_kids O) hZ (wq hw 115 rfl) (wq hw 43 rfl) (by decide) (by decide)) q74a q74c (g := (mkF m 170 #[.val (.int p1), .val (.int p2), .val (.int p3), .val (.int p4), .val (.int p5), .val (.int kk), .val (.ref a), .val (.ref b), .val (.ref a), .val .null, .val (.int (1 : Int32)), .val (.ref li), .val (.ref it), .val (.ref kids), .unset] [(.ref it), (.ref kids)])) rfl (by rw [hml]; rfl) (Steps.refl _) (argsL := [(.ref it)]) (rest := []) (lenOf pd__28Ljava_2flang_2fObject_3b_29Z rfl) rfl (by show 2 * 0 + _ ≤ _; exact Nat.le_of_eq rfl) (hb hby at_170) (fun _ _ => ⟨rfl, rfl, (by decide : 9 + 1 ≤ _), (by decide : 23 + 10 ≤ _)⟩)
          dsimp only [Pt.U, Pt.locs, Pt.cells, Pt.slots] at X74 l74 y74 z74 st74 hQ74
          subst l74 y74 z74
          obtain ⟨r74, kr74, rfl, N74q, KQ74, fo0_74, fo1_74, fo2_74, fo3_74, fo4_74, g_r74, sl_r74⟩ := hQ74
          have N74 := Fr.app N72 N74q
          have E_a := E_a.keep KQ74
          have E_r2 := E_r2.keep KQ74
          have E_b := E_b.keep KQ74
          have E_r7 := E_r7.keep KQ74
          have E_li := E_li.keep KQ74
          have F_modCount_li := F_modCount_li.keep KQ74 (ninS ne_li_kids nin0)
          have F_size_li := F_size_li.keep KQ74 (ninS ne_li_kids nin0)
          have F_elementData_li := F_elementData_li.keep KQ74 (ninS ne_li_kids nin0)
          have E_it := E_it.keep KQ74
          have F_label_it := F_label_it.keep KQ74 (ninS ne_it_kids nin0)
          have F_printed_it := F_printed_it.keep KQ74 (ninS ne_it_kids nin0)
          have F_start_it := F_start_it.keep KQ74 (ninS ne_it_kids nin0)
          have F_end_it := F_end_it.keep KQ74 (ninS ne_it_kids nin0)
          have F_children_it := F_children_it.keep KQ74 (ninS ne_it_kids nin0)
          have E_kids := E_kids.keep KQ74
          have Z75 : n0 ≤ T74.heap.size := Nat.le_trans Z73 KQ74.1
          have O := O.keep KQ74 (allS (P := fun x => n0 ≤ x) g_kids all0)
          have ne_a_r74 : a ≠ r74 := Nat.ne_of_lt (Nat.lt_of_lt_of_le lt_a sl_r74)
          have ne_r74_a := ne_a_r74.symm
          have ne_b_r74 : b ≠ r74 := Nat.ne_of_lt (Nat.lt_of_lt_of_le lt_b sl_r74)
          have ne_r74_b := ne_b_r74.symm
          have ne_dce_r74 : dce ≠ r74 := Nat.ne_of_lt (Nat.lt_of_lt_of_le lt_dce sl_r74)
          have ne_r74_dce := ne_dce_r74.symm
          have ne_ea_r74 : ea ≠ r74 := Nat.ne_of_lt (Nat.lt_of_lt_of_le lt_ea sl_r74)
          have ne_r74_ea := ne_ea_r74.symm
          have ne_el_r74 : el ≠ r74 := Nat.ne_of_lt (Nat.lt_of_lt_of_le lt_el sl_r74)
          have ne_r74_el := ne_el_r74.symm
          have ne_it_r74 : it ≠ r74 := Nat.ne_of_lt (Nat.lt_of_lt_of_le lt_it sl_r74)
          have ne_r74_it := ne_it_r74.symm
          have ne_kids_r74 : kids ≠ r74 := Nat.ne_of_lt (Nat.lt_of_lt_of_le lt_kids sl_r74)
          have ne_r74_kids := ne_kids_r74.symm
          have ne_li_r74 : li ≠ r74 := Nat.ne_of_lt (Nat.lt_of_lt_of_le lt_li sl_r74)
          have ne_r74_li := ne_li_r74.symm
          have ne_r2_r74 : r2 ≠ r74 := Nat.ne_of_lt (Nat.lt_of_lt_of_le lt_r2 sl_r74)
          have ne_r74_r2 := ne_r2_r74.symm
          have ne_r7_r74 : r7 ≠ r74 := Nat.ne_of_lt (Nat.lt_of_lt_of_le lt_r7 sl_r74)
          have ne_r74_r7 := ne_r7_r74.symm
          have F_modCount_kids := fo0_74
          have F_size_kids := fo1_74
          have F_elementData_kids := fo2_74
          have E_r74 := fo3_74
          have V_r74 := fo4_74
          refine Goes.pre (U' := T74.setTop (mkF m 174 #[.val (.int p1), .val (.int p2), .val (.int p3), .val (.int p4), .val (.int p5), .val (.int kk), .val (.ref a), .val (.ref b), .val (.ref a), .val .null, .val (.int (1 : Int32)), .val (.ref li), .val (.ref it), .val (.ref kids), .unset] [])) (fun t k => st74.trans (XS.pop X74.here hx rfl (hb hby at_173) rfl rfl k)) ?_
          obtain ⟨T76, h76, X76, e76, E76, A76, D76, -, st76⟩ := newO X74 hx hZ hown (wq hw 65 rfl) (wq hw 66 rfl) (wq hw 67 rfl) rfl (g := (mkF m 174 #[.val (.int p1), .val (.int p2), .val (.int p3), .val (.int p4), .val (.int p5), .val (.int kk), .val (.ref a), .val (.ref b), .val (.ref a), .val .null, .val (.int (1 : Int32)), .val (.ref li), .val (.ref it), .val (.ref kids), .unset] [])) rfl (hb hby at_174) (by decide) (by decide)
          obtain ⟨pa, g76⟩ : ∃ z, z = T74.heap.size := ⟨_, rfl⟩
          rw [← g76] at A76 D76 st76
          have ne_a_pa : a ≠ pa := Nat.ne_of_lt (Nat.lt_of_lt_of_le E_a.lt (Nat.le_of_eq g76.symm))
          have ne_pa_a := ne_a_pa.symm
          have ne_b_pa : b ≠ pa := Nat.ne_of_lt (Nat.lt_of_lt_of_le E_b.lt (Nat.le_of_eq g76.symm))
          have ne_pa_b := ne_b_pa.symm
          have ne_dce_pa : dce ≠ pa := Nat.ne_of_lt (Nat.lt_of_lt_of_le (V_dce.ext O.2).lt (Nat.le_of_eq g76.symm))
          have ne_pa_dce := ne_dce_pa.symm
          have ne_ea_pa : ea ≠ pa := Nat.ne_of_lt (Nat.lt_of_lt_of_le (V_ea.ext O.2).lt (Nat.le_of_eq g76.symm))
          have ne_pa_ea := ne_ea_pa.symm
          have ne_el_pa : el ≠ pa := Nat.ne_of_lt (Nat.lt_of_lt_of_le (E_el.ext O.2).lt (Nat.le_of_eq g76.symm))
          have ne_pa_el := ne_el_pa.symm
          have ne_it_pa : it ≠ pa := Nat.ne_of_lt (Nat.lt_of_lt_of_le E_it.lt (Nat.le_of_eq g76.symm))
          have ne_pa_it := ne_it_pa.symm
          have ne_kids_pa : kids ≠ pa := Nat.ne_of_lt (Nat.lt_of_lt_of_le E_kids.lt (Nat.le_of_eq g76.symm))
          have ne_pa_kids := ne_kids_pa.symm
          have ne_li_pa : li ≠ pa := Nat.ne_of_lt (Nat.lt_of_lt_of_le E_li.lt (Nat.le_of_eq g76.symm))
          have ne_pa_li := ne_li_pa.symm
          have ne_r2_pa : r2 ≠ pa := Nat.ne_of_lt (Nat.lt_of_lt_of_le E_r2.lt (Nat.le_of_eq g76.symm))
          have ne_pa_r2 := ne_r2_pa.symm
          have ne_r7_pa : r7 ≠ pa := Nat.ne_of_lt (Nat.lt_of_lt_of_le E_r7.lt (Nat.le_of_eq g76.symm))
          have ne_pa_r7 := ne_r7_pa.symm
          have ne_r74_pa : r74 ≠ pa := Nat.ne_of_lt (Nat.lt_of_lt_of_le E_r74.lt (Nat.le_of_eq g76.symm))
          have ne_pa_r74 := ne_r74_pa.symm
          have g_pa : n0 ≤ pa := Nat.le_trans Z75 (Nat.le_of_eq g76.symm)
          have E_a := E_a.ext E76
          have E_r2 := E_r2.ext E76
          have E_b := E_b.ext E76
          have E_r7 := E_r7.ext E76
          have E_li := E_li.ext E76
          have F_modCount_li := F_modCount_li.ext E76
          have F_size_li := F_size_li.ext E76
          have F_elementData_li := F_elementData_li.ext E76
          have E_it := E_it.ext E76
          have F_label_it := F_label_it.ext E76
          have F_printed_it := F_printed_it.ext E76
          have F_start_it := F_start_it.ext E76
          have F_end_it := F_end_it.ext E76
          have F_children_it := F_children_it.ext E76
          have E_kids := E_kids.ext E76
          have F_modCount_kids := F_modCount_kids.ext E76
          have F_size_kids := F_size_kids.ext E76
          have F_elementData_kids := F_elementData_kids.ext E76
          have E_r74 := E_r74.ext E76
          have V_r74 := V_r74.ext E76
          have O := O.ext E76
          have Z76 : n0 ≤ h76.size := Nat.le_trans Z75 E76.1
          have E_pa := A76
          have F_label_pa : Fld Z h76 pa "com/example/restate/restate/plan/Item" "label" "Lcom/example/restate/restate/plan/Label;" .null := D76 (Or.inr (wq hw 102 rfl)) (ty := (.object "com/example/restate/restate/plan/Label")) (by decide)
          have F_printed_pa : Fld Z h76 pa "com/example/restate/restate/plan/Item" "printed" "Lcom/example/restate/restate/plan/Label;" .null := D76 (Or.inr (wq hw 104 rfl)) (ty := (.object "com/example/restate/restate/plan/Label")) (by decide)
          have F_start_pa : Fld Z h76 pa "com/example/restate/restate/plan/Item" "start" "I" (.int (0 : Int32)) := D76 (Or.inr (wq hw 106 rfl)) (ty := .int) (by decide)
          have F_end_pa : Fld Z h76 pa "com/example/restate/restate/plan/Item" "end" "I" (.int (0 : Int32)) := D76 (Or.inr (wq hw 108 rfl)) (ty := .int) (by decide)
          have F_children_pa : Fld Z h76 pa "com/example/restate/restate/plan/Item" "children" "Ljava/util/List;" .null := D76 (Or.inr (wq hw 110 rfl)) (ty := (.object "java/util/List")) (by decide)
          refine Goes.pre (U' := T76.setTop (mkF m 185 #[.val (.int p1), .val (.int p2), .val (.int p3), .val (.int p4), .val (.int p5), .val (.int kk), .val (.ref a), .val (.ref b), .val (.ref a), .val .null, .val (.int (1 : Int32)), .val (.ref li), .val (.ref it), .val (.ref kids), .unset] [(.ref kids), (.int p5), (.int p4), .null, .null, (.ref pa), (.ref pa)])) (fun t k => st76 t (XS.dup X76.here hx rfl (hb hby at_177) rfl rfl (XS.aconstNull X76.here hx rfl (hb hby at_178) (XS.aconstNull X76.here hx rfl (hb hby at_179) (XS.iloadN X76.here hx rfl (hb hby at_180) rfl (XS.iload X76.here hx rfl (hb hby at_181) rfl (XS.aload X76.here hx rfl (hb hby at_183) rfl rfl k))))))) ?_
          have lt_a := E_a.lt
          have lt_b := E_b.lt
          have lt_dce := (V_dce.ext O.2).lt
          have lt_ea := (V_ea.ext O.2).lt
          have lt_el := (E_el.ext O.2).lt
          have lt_it := E_it.lt
          have lt_kids := E_kids.lt
          have lt_li := E_li.lt
          have lt_pa := E_pa.lt
          have lt_r2 := E_r2.lt
          have lt_r7 := E_r7.lt
          have lt_r74 := E_r74.lt
          obtain ⟨_, _, ⟨T77, L77, k77, n77⟩, -, X77, ⟨Lc77, hQ77, l77, y77, z77⟩, st77⟩ := X76.specialBack hx (y := (⟨"com/example/restate/restate/plan/Item", "<init>", "(Lcom/example/restate/restate/plan/Label;Lcom/example/restate/restate/plan/Label;IILjava/util/List;)V"⟩ : MethodName)) rfl hown (mvT hZ (wq hw 68 rfl)) (mvT hZ (wq hw 69 rfl)) (mvT hZ (wq hw 70 rfl)) (by decide) (backOf (W := 1) (rm_itemP l Z a0 hw [] pa p4 p5 kids r74 kr74 it mr em h76 n0 Z76 E_kids F_size_kids F_elementData_kids E_r74 V_r74 E_it M__Ljava_lang_Object_ S_EMPTY E_pa F_label_pa F_printed_pa F_start_pa F_end_pa F_children_pa ne_kids_pa ne_r74_pa ne_it_pa g_pa O) hZ (wq hw 70 rfl) (wq hw 67 rfl) (by decide) (by decide)) (g := (mkF m 185 #[.val (.int p1), .val (.int p2), .val (.int p3), .val (.int p4), .val (.int p5), .val (.int kk), .val (.ref a), .val (.ref b), .val (.ref a), .val .null, .val (.int (1 : Int32)), .val (.ref li), .val (.ref it), .val (.ref kids), .unset] [(.ref kids), (.int p5), (.int p4), .null, .null, (.ref pa), (.ref pa)])) rfl (by rw [hml]; rfl) (Steps.refl _) (a := pa) (argsL := [.null, .null, (.int p4), (.int p5), (.ref kids)]) (rest := [(.ref pa)]) (lenOf pd__28Lcom_2fexample_2frestate_2frestate_2fplan_2fLabel_3bLcom_2fexample_2frestate_2frestate_2fplan_2fLabel_3bIILjava_2futil_2fList_3b_29V rfl) rfl (by show 2 * 0 + _ ≤ _; exact Nat.le_of_eq rfl) (hb hby at_185) (fun _ _ => ⟨rfl, e76, (by decide : 11 + 2 ≤ _), (by decide : 38 + 3 ≤ _)⟩)
          dsimp only [Pt.U, Pt.locs, Pt.cells, Pt.slots] at X77 l77 y77 z77 st77 hQ77
          subst l77 y77 z77
          obtain ⟨r77, rfl, N77q, KQ77, fo0_77, fo1_77, fo2_77, fo3_77, fo4_77, fo5_77, fo6_77, fo7_77, g_r77, sl_r77⟩ := hQ77
          have N77 := Fr.app N74 N77q
          have E_a := E_a.keep KQ77
          have E_r2 := E_r2.keep KQ77
          have E_b := E_b.keep KQ77
          have E_r7 := E_r7.keep KQ77
          have E_li := E_li.keep KQ77
          have F_modCount_li := F_modCount_li.keep KQ77 (ninS ne_li_pa nin0)
          have F_size_li := F_size_li.keep KQ77 (ninS ne_li_pa nin0)
          have F_elementData_li := F_elementData_li.keep KQ77 (ninS ne_li_pa nin0)
          have E_it := E_it.keep KQ77
          have F_label_it := F_label_it.keep KQ77 (ninS ne_it_pa nin0)
          have F_printed_it := F_printed_it.keep KQ77 (ninS ne_it_pa nin0)
          have F_start_it := F_start_it.keep KQ77 (ninS ne_it_pa nin0)
          have F_end_it := F_end_it.keep KQ77 (ninS ne_it_pa nin0)
          have F_children_it := F_children_it.keep KQ77 (ninS ne_it_pa nin0)
          have E_kids := E_kids.keep KQ77
          have F_modCount_kids := F_modCount_kids.keep KQ77 (ninS ne_kids_pa nin0)
          have F_size_kids := F_size_kids.keep KQ77 (ninS ne_kids_pa nin0)
          have F_elementData_kids := F_elementData_kids.keep KQ77 (ninS ne_kids_pa nin0)
          have E_r74 := E_r74.keep KQ77
          have V_r74 := V_r74.keep KQ77 (ninS ne_r74_pa nin0)
          have E_pa := E_pa.keep KQ77
          have Z78 : n0 ≤ T77.heap.size := Nat.le_trans Z76 KQ77.1
          have O := O.keep KQ77 (allS (P := fun x => n0 ≤ x) g_pa all0)
          have ne_a_r77 : a ≠ r77 := Nat.ne_of_lt (Nat.lt_of_lt_of_le lt_a sl_r77)
          have ne_r77_a := ne_a_r77.symm
          have ne_b_r77 : b ≠ r77 := Nat.ne_of_lt (Nat.lt_of_lt_of_le lt_b sl_r77)
          have ne_r77_b := ne_b_r77.symm
          have ne_dce_r77 : dce ≠ r77 := Nat.ne_of_lt (Nat.lt_of_lt_of_le lt_dce sl_r77)
          have ne_r77_dce := ne_dce_r77.symm
          have ne_ea_r77 : ea ≠ r77 := Nat.ne_of_lt (Nat.lt_of_lt_of_le lt_ea sl_r77)
          have ne_r77_ea := ne_ea_r77.symm
          have ne_el_r77 : el ≠ r77 := Nat.ne_of_lt (Nat.lt_of_lt_of_le lt_el sl_r77)
          have ne_r77_el := ne_el_r77.symm
          have ne_it_r77 : it ≠ r77 := Nat.ne_of_lt (Nat.lt_of_lt_of_le lt_it sl_r77)
          have ne_r77_it := ne_it_r77.symm
          have ne_kids_r77 : kids ≠ r77 := Nat.ne_of_lt (Nat.lt_of_lt_of_le lt_kids sl_r77)
          have ne_r77_kids := ne_kids_r77.symm
          have ne_li_r77 : li ≠ r77 := Nat.ne_of_lt (Nat.lt_of_lt_of_le lt_li sl_r77)
          have ne_r77_li := ne_li_r77.symm
          have ne_pa_r77 : pa ≠ r77 := Nat.ne_of_lt (Nat.lt_of_lt_of_le lt_pa sl_r77)
          have ne_r77_pa := ne_pa_r77.symm
          have ne_r2_r77 : r2 ≠ r77 := Nat.ne_of_lt (Nat.lt_of_lt_of_le lt_r2 sl_r77)
          have ne_r77_r2 := ne_r2_r77.symm
          have ne_r7_r77 : r7 ≠ r77 := Nat.ne_of_lt (Nat.lt_of_lt_of_le lt_r7 sl_r77)
          have ne_r77_r7 := ne_r7_r77.symm
          have ne_r74_r77 : r74 ≠ r77 := Nat.ne_of_lt (Nat.lt_of_lt_of_le lt_r74 sl_r77)
          have ne_r77_r74 := ne_r74_r77.symm
          have F_label_pa := fo0_77
          have F_printed_pa := fo1_77
          have F_start_pa := fo2_77
          have F_end_pa := fo3_77
          have F_children_pa := fo4_77
          have E_r77 := fo5_77
          have F_e0_r77 := fo6_77
          have F_e1_r77 := fo7_77
          refine Goes.pre (U' := T77.setTop (mkF m 192 #[.val (.int p1), .val (.int p2), .val (.int p3), .val (.int p4), .val (.int p5), .val (.int kk), .val (.ref a), .val (.ref b), .val (.ref a), .val .null, .val (.int (1 : Int32)), .val (.ref li), .val (.ref it), .val (.ref kids), .val (.ref pa)] [(.ref it)])) (fun t k => st77.trans (XS.astore X77.here hx rfl (hb hby at_188) rfl rfl (l' := #[.val (.int p1), .val (.int p2), .val (.int p3), .val (.int p4), .val (.int p5), .val (.int kk), .val (.ref a), .val (.ref b), .val (.ref a), .val .null, .val (.int (1 : Int32)), .val (.ref li), .val (.ref it), .val (.ref kids), .val (.ref pa)]) rfl (XS.aload X77.here hx rfl (hb hby at_190) rfl rfl k))) ?_
          obtain ⟨cq79, kq79, q79a, q79b, q79c⟩ := isOf hZ rfl E_it
          obtain ⟨_, _, ⟨T79, L79, k79, n79⟩, -, X79, ⟨Lc79, hQ79, l79, y79, z79⟩, st79⟩ := X77.virtualBack hx (y := (⟨"com/example/restate/restate/plan/Item", "deleted", "()Z"⟩ : MethodName)) (z := (⟨"com/example/restate/restate/plan/Item", "deleted", "()Z"⟩ : MethodName)) hown (mvT hZ (wq hw 203 rfl)) (mvT hZ (wq hw 204 rfl)) (notFace_of_selects (args := #[]) (mvT hZ (wq hw 206 rfl))) (mvT hZ (wq hw 206 rfl)) (mvT hZ (wq hw 205 rfl)) (by decide) (backOf (W := 0) (rm_del10 l Z a0 hw [] it a T77.heap n0 Z78 F_label_it F_printed_it) hZ (wq hw 207 rfl) (wq hw 67 rfl) (by decide) (by decide)) q79a q79c (g := (mkF m 192 #[.val (.int p1), .val (.int p2), .val (.int p3), .val (.int p4), .val (.int p5), .val (.int kk), .val (.ref a), .val (.ref b), .val (.ref a), .val .null, .val (.int (1 : Int32)), .val (.ref li), .val (.ref it), .val (.ref kids), .val (.ref pa)] [(.ref it)])) rfl (by rw [hml]; rfl) (Steps.refl _) (argsL := []) (rest := []) (lenOf pd__28_29Z rfl) rfl (by show 2 * 0 + _ ≤ _; exact Nat.le_of_eq rfl) (hb hby at_192) (fun _ _ => ⟨rfl, rfl, (by decide : 13 + 0 ≤ _), (by decide : 41 + 0 ≤ _)⟩)
          dsimp only [Pt.U, Pt.locs, Pt.cells, Pt.slots] at X79 l79 y79 z79 st79 hQ79
          subst l79 y79 z79
          obtain ⟨rfl, N79q, HQ79⟩ := hQ79
          have N79 := Fr.app N77 N79q
          refine Goes.pre (U' := T79.setTop (mkF m 197 #[.val (.int p1), .val (.int p2), .val (.int p3), .val (.int p4), .val (.int p5), .val (.int kk), .val (.ref a), .val (.ref b), .val (.ref a), .val .null, .val (.int (1 : Int32)), .val (.ref li), .val (.ref it), .val (.ref kids), .val (.ref pa)] [(.int (1 : Int32)), (.int (1 : Int32))])) (fun t k => st79.trans (XS.iload X79.here hx rfl (hb hby at_195) rfl k)) ?_
          have hc197 : (1 : Int32) = (1 : Int32) := rfl
          refine Goes.pre (U' := T79.setTop (mkF m 203 #[.val (.int p1), .val (.int p2), .val (.int p3), .val (.int p4), .val (.int p5), .val (.int kk), .val (.ref a), .val (.ref b), .val (.ref a), .val .null, .val (.int (1 : Int32)), .val (.ref li), .val (.ref it), .val (.ref kids), .val (.ref pa)] [(.int p4), (.ref pa)])) (fun t k => XS.icmpNo X79.here hx rfl (hb hby at_197) rfl (teq hc197).2 (XS.aload X79.here hx rfl (hb hby at_200) rfl rfl (XS.iloadN X79.here hx rfl (hb hby at_202) rfl k))) ?_
          obtain ⟨cq80, kq80, q80a, q80b, q80c⟩ := isOf hZ HQ79 E_pa
          obtain ⟨_, _, ⟨T80, L80, k80, n80⟩, -, X80, ⟨Lc80, hQ80, l80, y80, z80⟩, st80⟩ := X79.virtualBack hx (y := (⟨"com/example/restate/restate/plan/Item", "deletedBefore", "(I)I"⟩ : MethodName)) (z := (⟨"com/example/restate/restate/plan/Item", "deletedBefore", "(I)I"⟩ : MethodName)) hown (mvT hZ (wq hw 208 rfl)) (mvT hZ (wq hw 209 rfl)) (notFace_of_selects (args := #[]) (mvT hZ (wq hw 211 rfl))) (mvT hZ (wq hw 211 rfl)) (mvT hZ (wq hw 210 rfl)) (by decide) (backOf (W := 0) (rm_dbP10 l Z a0 hw [] pa p4 r77 it a em el ea ke T77.heap n0 Z78 F_children_pa E_r77 F_e0_r77 F_e1_r77 S_EMPTY E_el F_elements_el V_ea F_label_it F_printed_it F_start_it F_children_it E_it O) hZ (wq hw 212 rfl) (wq hw 67 rfl) (by decide) (by decide)) q80a q80c (g := (mkF m 203 #[.val (.int p1), .val (.int p2), .val (.int p3), .val (.int p4), .val (.int p5), .val (.int kk), .val (.ref a), .val (.ref b), .val (.ref a), .val .null, .val (.int (1 : Int32)), .val (.ref li), .val (.ref it), .val (.ref kids), .val (.ref pa)] [(.int p4), (.ref pa)])) rfl (by rw [hml]; rfl) (Steps.refl _) (argsL := [(.int p4)]) (rest := []) (lenOf pd__28I_29I rfl) rfl (by show 2 * 0 + _ ≤ _; exact Nat.le_of_eq rfl) (hb hby at_203) (fun _ _ => ⟨rfl, HQ79, (by decide : 13 + 2 ≤ _), (by decide : 41 + 8 ≤ _)⟩)
          dsimp only [Pt.U, Pt.locs, Pt.cells, Pt.slots] at X80 l80 y80 z80 st80 hQ80
          subst l80 y80 z80
          obtain ⟨rfl, N80q, KQ80⟩ := hQ80
          have N80 := Fr.app N79 N80q
          have E_a := E_a.keep KQ80
          have E_r2 := E_r2.keep KQ80
          have E_b := E_b.keep KQ80
          have E_r7 := E_r7.keep KQ80
          have E_li := E_li.keep KQ80
          have F_modCount_li := F_modCount_li.keep KQ80 nin0
          have F_size_li := F_size_li.keep KQ80 nin0
          have F_elementData_li := F_elementData_li.keep KQ80 nin0
          have E_it := E_it.keep KQ80
          have F_label_it := F_label_it.keep KQ80 nin0
          have F_printed_it := F_printed_it.keep KQ80 nin0
          have F_start_it := F_start_it.keep KQ80 nin0
          have F_end_it := F_end_it.keep KQ80 nin0
          have F_children_it := F_children_it.keep KQ80 nin0
          have E_kids := E_kids.keep KQ80
          have F_modCount_kids := F_modCount_kids.keep KQ80 nin0
          have F_size_kids := F_size_kids.keep KQ80 nin0
          have F_elementData_kids := F_elementData_kids.keep KQ80 nin0
          have E_r74 := E_r74.keep KQ80
          have V_r74 := V_r74.keep KQ80 nin0
          have E_pa := E_pa.keep KQ80
          have F_label_pa := F_label_pa.keep KQ80 nin0
          have F_printed_pa := F_printed_pa.keep KQ80 nin0
          have F_start_pa := F_start_pa.keep KQ80 nin0
          have F_end_pa := F_end_pa.keep KQ80 nin0
          have F_children_pa := F_children_pa.keep KQ80 nin0
          have E_r77 := E_r77.keep KQ80
          have F_e0_r77 := F_e0_r77.keep KQ80 nin0
          have F_e1_r77 := F_e1_r77.keep KQ80 nin0
          have Z81 : n0 ≤ T80.heap.size := Nat.le_trans Z78 KQ80.1
          have O := O.keep KQ80 all0
          refine Goes.pre (U' := T80.setTop (mkF m 208 #[.val (.int p1), .val (.int p2), .val (.int p3), .val (.int p4), .val (.int p5), .val (.int kk), .val (.ref a), .val (.ref b), .val (.ref a), .val .null, .val (.int (1 : Int32)), .val (.ref li), .val (.ref it), .val (.ref kids), .val (.ref pa)] [(.int (1 : Int32)), (.int (1 : Int32))])) (fun t k => st80.trans (XS.iload X80.here hx rfl (hb hby at_206) rfl k)) ?_
          have hc208 : ¬ ((1 : Int32) = (0 : Int32)) := by decide
          refine Goes.pre (U' := T80.setTop (mkF m 216 #[.val (.int p1), .val (.int p2), .val (.int p3), .val (.int p4), .val (.int p5), .val (.int kk), .val (.ref a), .val (.ref b), .val (.ref a), .val .null, .val (.int (1 : Int32)), .val (.ref li), .val (.ref it), .val (.ref kids), .val (.ref pa)] [(.int (1 : Int32)), (.int (1 : Int32))])) (fun t k => XS.ifNo X80.here hx rfl (hb hby at_208) rfl ((if0 _ _).trans (feq hc208).1) (XS.iconst X80.here hx rfl (hb hby at_211) (XS.goto X80.here hx rfl (pc0 := 212) (pc' := 216) rfl (hb hby at_212) (by decide) (by decide) k))) ?_
          have hc216 : (1 : Int32) = (1 : Int32) := rfl
          refine Goes.pre (U' := T80.setTop (mkF m 221 #[.val (.int p1), .val (.int p2), .val (.int p3), .val (.int p4), .val (.int p5), .val (.int kk), .val (.ref a), .val (.ref b), .val (.ref a), .val .null, .val (.int (1 : Int32)), .val (.ref li), .val (.ref it), .val (.ref kids), .val (.ref pa)] [(.ref pa)])) (fun t k => XS.icmpNo X80.here hx rfl (hb hby at_216) rfl (teq hc216).2 (XS.aload X80.here hx rfl (hb hby at_219) rfl rfl k)) ?_
          obtain ⟨cq82, kq82, q82a, q82b, q82c⟩ := isOf hZ rfl E_pa
          obtain ⟨_, _, ⟨T82, L82, k82, n82⟩, -, X82, ⟨Lc82, hQ82, l82, y82, z82⟩, st82⟩ := X80.virtualBack hx (y := (⟨"com/example/restate/restate/plan/Item", "deleted", "()Z"⟩ : MethodName)) (z := (⟨"com/example/restate/restate/plan/Item", "deleted", "()Z"⟩ : MethodName)) hown (mvT hZ (wq hw 203 rfl)) (mvT hZ (wq hw 204 rfl)) (notFace_of_selects (args := #[]) (mvT hZ (wq hw 206 rfl))) (mvT hZ (wq hw 206 rfl)) (mvT hZ (wq hw 205 rfl)) (by decide) (backOf (W := 0) (rm_del00 l Z a0 hw [] pa T80.heap n0 Z81 F_label_pa F_printed_pa) hZ (wq hw 207 rfl) (wq hw 67 rfl) (by decide) (by decide)) q82a q82c (g := (mkF m 221 #[.val (.int p1), .val (.int p2), .val (.int p3), .val (.int p4), .val (.int p5), .val (.int kk), .val (.ref a), .val (.ref b), .val (.ref a), .val .null, .val (.int (1 : Int32)), .val (.ref li), .val (.ref it), .val (.ref kids), .val (.ref pa)] [(.ref pa)])) rfl (by rw [hml]; rfl) (Steps.refl _) (argsL := []) (rest := []) (lenOf pd__28_29Z rfl) rfl (by show 2 * 0 + _ ≤ _; exact Nat.le_of_eq rfl) (hb hby at_221) (fun _ _ => ⟨rfl, rfl, (by decide : 15 + 0 ≤ _), (by decide : 49 + 0 ≤ _)⟩)
          dsimp only [Pt.U, Pt.locs, Pt.cells, Pt.slots] at X82 l82 y82 z82 st82 hQ82
          subst l82 y82 z82
          obtain ⟨rfl, N82q, HQ82⟩ := hQ82
          have N82 := Fr.app N80 N82q
          refine Goes.pre (U' := T82.setTop (mkF m 224 #[.val (.int p1), .val (.int p2), .val (.int p3), .val (.int p4), .val (.int p5), .val (.int kk), .val (.ref a), .val (.ref b), .val (.ref a), .val .null, .val (.int (1 : Int32)), .val (.ref li), .val (.ref it), .val (.ref kids), .val (.ref pa)] [(.int (0 : Int32))])) (fun t k => st82.trans k) ?_
          have hc224 : (0 : Int32) = (0 : Int32) := rfl
          refine Goes.pre (U' := T82.setTop (mkF m 232 #[.val (.int p1), .val (.int p2), .val (.int p3), .val (.int p4), .val (.int p5), .val (.int kk), .val (.ref a), .val (.ref b), .val (.ref a), .val .null, .val (.int (1 : Int32)), .val (.ref li), .val (.ref it), .val (.ref kids), .val (.ref pa)] [(.int (1 : Int32))])) (fun t k => XS.ifNo X82.here hx rfl (hb hby at_224) rfl ((if0 _ _).trans (teq hc224).2) (XS.iconst X82.here hx rfl (hb hby at_227) (XS.goto X82.here hx rfl (pc0 := 228) (pc' := 232) rfl (hb hby at_228) (by decide) (by decide) k))) ?_
          refine Goes.ret X82 (v := (some (.int (1 : Int32)))) (fun h => by rw [hret] at h; cases h) hlk (by decide) (by decide) HQ82 (fun fs hr => retN X82 hx (t := .boolean) hret (by simp) (hb hby at_232) hr) ?_
          exact ⟨rfl, N82⟩
        ·
          refine Goes.pre (U' := T9.setTop (mkF m 130 #[.val (.int p1), .val (.int p2), .val (.int p3), .val (.int p4), .val (.int p5), .val (.int kk), .val (.ref a), .val (.ref b), .val .null, .val (.ref b), .val (.int (0 : Int32)), .unset, .unset, .unset, .unset] [])) (fun t k => XS.icmpYes X9.here hx rfl (pc0 := 104) (pc' := 120) rfl (hb hby at_104) rfl (feq hc104).2 (by decide) (by decide) (XS.aconstNull X9.here hx rfl (hb hby at_120) (XS.astore X9.here hx rfl (hb hby at_121) rfl rfl (l' := #[.val (.int p1), .val (.int p2), .val (.int p3), .val (.int p4), .val (.int p5), .val (.int kk), .val (.ref a), .val (.ref b), .val .null, .unset, .unset, .unset, .unset, .unset, .unset]) rfl (XS.aload X9.here hx rfl (hb hby at_123) rfl rfl (XS.astore X9.here hx rfl (hb hby at_125) rfl rfl (l' := #[.val (.int p1), .val (.int p2), .val (.int p3), .val (.int p4), .val (.int p5), .val (.int kk), .val (.ref a), .val (.ref b), .val .null, .val (.ref b), .unset, .unset, .unset, .unset, .unset]) rfl (XS.iconst X9.here hx rfl (hb hby at_127) (XS.istore X9.here hx rfl (hb hby at_128) rfl (l' := #[.val (.int p1), .val (.int p2), .val (.int p3), .val (.int p4), .val (.int p5), .val (.int kk), .val (.ref a), .val (.ref b), .val .null, .val (.ref b), .val (.int (0 : Int32)), .unset, .unset, .unset, .unset]) rfl k))))))) ?_
          obtain ⟨T83, h83, X83, e83, E83, A83, D83, -, st83⟩ := newO X9 hx hZ hown (wq hw 41 rfl) (wq hw 42 rfl) (wq hw 43 rfl) rfl (g := (mkF m 130 #[.val (.int p1), .val (.int p2), .val (.int p3), .val (.int p4), .val (.int p5), .val (.int kk), .val (.ref a), .val (.ref b), .val .null, .val (.ref b), .val (.int (0 : Int32)), .unset, .unset, .unset, .unset] [])) rfl (hb hby at_130) (by decide) (by decide)
          obtain ⟨li, g83⟩ : ∃ z, z = T9.heap.size := ⟨_, rfl⟩
          rw [← g83] at A83 D83 st83
          have ne_a_li : a ≠ li := Nat.ne_of_lt (Nat.lt_of_lt_of_le E_a.lt (Nat.le_of_eq g83.symm))
          have ne_li_a := ne_a_li.symm
          have ne_b_li : b ≠ li := Nat.ne_of_lt (Nat.lt_of_lt_of_le E_b.lt (Nat.le_of_eq g83.symm))
          have ne_li_b := ne_b_li.symm
          have ne_dce_li : dce ≠ li := Nat.ne_of_lt (Nat.lt_of_lt_of_le (V_dce.ext O.2).lt (Nat.le_of_eq g83.symm))
          have ne_li_dce := ne_dce_li.symm
          have ne_ea_li : ea ≠ li := Nat.ne_of_lt (Nat.lt_of_lt_of_le (V_ea.ext O.2).lt (Nat.le_of_eq g83.symm))
          have ne_li_ea := ne_ea_li.symm
          have ne_el_li : el ≠ li := Nat.ne_of_lt (Nat.lt_of_lt_of_le (E_el.ext O.2).lt (Nat.le_of_eq g83.symm))
          have ne_li_el := ne_el_li.symm
          have ne_r2_li : r2 ≠ li := Nat.ne_of_lt (Nat.lt_of_lt_of_le E_r2.lt (Nat.le_of_eq g83.symm))
          have ne_li_r2 := ne_r2_li.symm
          have ne_r7_li : r7 ≠ li := Nat.ne_of_lt (Nat.lt_of_lt_of_le E_r7.lt (Nat.le_of_eq g83.symm))
          have ne_li_r7 := ne_r7_li.symm
          have g_li : n0 ≤ li := Nat.le_trans Z10 (Nat.le_of_eq g83.symm)
          have E_a := E_a.ext E83
          have E_r2 := E_r2.ext E83
          have E_b := E_b.ext E83
          have E_r7 := E_r7.ext E83
          have O := O.ext E83
          have Z83 : n0 ≤ h83.size := Nat.le_trans Z10 E83.1
          have E_li := A83
          have F_modCount_li : Fld Z h83 li "java/util/AbstractList" "modCount" "I" (.int (0 : Int32)) := D83 (Or.inl (wq hw 61 rfl)) (ty := .int) (by decide)
          have F_elementData_li : Fld Z h83 li "java/util/ArrayList" "elementData" "[Ljava/lang/Object;" .null := D83 (Or.inl (wq hw 64 rfl)) (ty := (.array (.object "java/lang/Object"))) (by decide)
          have F_size_li : Fld Z h83 li "java/util/ArrayList" "size" "I" (.int (0 : Int32)) := D83 (Or.inl (wq hw 96 rfl)) (ty := .int) (by decide)
          refine Goes.pre (U' := T83.setTop (mkF m 134 #[.val (.int p1), .val (.int p2), .val (.int p3), .val (.int p4), .val (.int p5), .val (.int kk), .val (.ref a), .val (.ref b), .val .null, .val (.ref b), .val (.int (0 : Int32)), .unset, .unset, .unset, .unset] [(.ref li), (.ref li)])) (fun t k => st83 t (XS.dup X83.here hx rfl (hb hby at_133) rfl rfl k)) ?_
          obtain ⟨_, _, ⟨T84, L84, k84, n84⟩, -, X84, ⟨Lc84, hQ84, l84, y84, z84⟩, st84⟩ := X83.specialBack hx (y := (⟨"java/util/ArrayList", "<init>", "()V"⟩ : MethodName)) rfl hown (mvT hZ (wq hw 44 rfl)) (mvT hZ (wq hw 45 rfl)) (mvT hZ (wq hw 46 rfl)) (by decide) (backOf (W := 1) (rm_al l Z a0 hw [] li dce h83 n0 Z83 E_li F_modCount_li F_size_li F_elementData_li S_DEFAULTCAPACITY_EMPTY_ELEMENTDATA g_li O) hZ (wq hw 46 rfl) (wq hw 43 rfl) (by decide) (by decide)) (g := (mkF m 134 #[.val (.int p1), .val (.int p2), .val (.int p3), .val (.int p4), .val (.int p5), .val (.int kk), .val (.ref a), .val (.ref b), .val .null, .val (.ref b), .val (.int (0 : Int32)), .unset, .unset, .unset, .unset] [(.ref li), (.ref li)])) rfl (by rw [hml]; rfl) (Steps.refl _) (a := li) (argsL := []) (rest := [(.ref li)]) (lenOf pd__28_29V rfl) rfl (by show 2 * 0 + _ ≤ _; exact Nat.le_of_eq rfl) (hb hby at_134) (fun _ _ => ⟨rfl, e83, (by decide : 7 + 0 ≤ _), (by decide : 15 + 0 ≤ _)⟩)
          dsimp only [Pt.U, Pt.locs, Pt.cells, Pt.slots] at X84 l84 y84 z84 st84 hQ84
          subst l84 y84 z84
          obtain ⟨rfl, N84q, KQ84, fo0_84, fo1_84, fo2_84⟩ := hQ84
          have N84 := Fr.app N9 N84q
          have E_a := E_a.keep KQ84
          have E_r2 := E_r2.keep KQ84
          have E_b := E_b.keep KQ84
          have E_r7 := E_r7.keep KQ84
          have E_li := E_li.keep KQ84
          have Z85 : n0 ≤ T84.heap.size := Nat.le_trans Z83 KQ84.1
          have O := O.keep KQ84 (allS (P := fun x => n0 ≤ x) g_li all0)
          have F_modCount_li := fo0_84
          have F_size_li := fo1_84
          have F_elementData_li := fo2_84
          refine Goes.pre (U' := T84.setTop (mkF m 139 #[.val (.int p1), .val (.int p2), .val (.int p3), .val (.int p4), .val (.int p5), .val (.int kk), .val (.ref a), .val (.ref b), .val .null, .val (.ref b), .val (.int (0 : Int32)), .val (.ref li), .unset, .unset, .unset] [])) (fun t k => st84.trans (XS.astore X84.here hx rfl (hb hby at_137) rfl rfl (l' := #[.val (.int p1), .val (.int p2), .val (.int p3), .val (.int p4), .val (.int p5), .val (.int kk), .val (.ref a), .val (.ref b), .val .null, .val (.ref b), .val (.int (0 : Int32)), .val (.ref li), .unset, .unset, .unset]) rfl k)) ?_
          obtain ⟨T86, h86, X86, e86, E86, A86, D86, -, st86⟩ := newO X84 hx hZ hown (wq hw 65 rfl) (wq hw 66 rfl) (wq hw 67 rfl) rfl (g := (mkF m 139 #[.val (.int p1), .val (.int p2), .val (.int p3), .val (.int p4), .val (.int p5), .val (.int kk), .val (.ref a), .val (.ref b), .val .null, .val (.ref b), .val (.int (0 : Int32)), .val (.ref li), .unset, .unset, .unset] [])) rfl (hb hby at_139) (by decide) (by decide)
          obtain ⟨it, g86⟩ : ∃ z, z = T84.heap.size := ⟨_, rfl⟩
          rw [← g86] at A86 D86 st86
          have ne_a_it : a ≠ it := Nat.ne_of_lt (Nat.lt_of_lt_of_le E_a.lt (Nat.le_of_eq g86.symm))
          have ne_it_a := ne_a_it.symm
          have ne_b_it : b ≠ it := Nat.ne_of_lt (Nat.lt_of_lt_of_le E_b.lt (Nat.le_of_eq g86.symm))
          have ne_it_b := ne_b_it.symm
          have ne_dce_it : dce ≠ it := Nat.ne_of_lt (Nat.lt_of_lt_of_le (V_dce.ext O.2).lt (Nat.le_of_eq g86.symm))
          have ne_it_dce := ne_dce_it.symm
          have ne_ea_it : ea ≠ it := Nat.ne_of_lt (Nat.lt_of_lt_of_le (V_ea.ext O.2).lt (Nat.le_of_eq g86.symm))
          have ne_it_ea := ne_ea_it.symm
          have ne_el_it : el ≠ it := Nat.ne_of_lt (Nat.lt_of_lt_of_le (E_el.ext O.2).lt (Nat.le_of_eq g86.symm))
          have ne_it_el := ne_el_it.symm
          have ne_li_it : li ≠ it := Nat.ne_of_lt (Nat.lt_of_lt_of_le E_li.lt (Nat.le_of_eq g86.symm))
          have ne_it_li := ne_li_it.symm
          have ne_r2_it : r2 ≠ it := Nat.ne_of_lt (Nat.lt_of_lt_of_le E_r2.lt (Nat.le_of_eq g86.symm))
          have ne_it_r2 := ne_r2_it.symm
          have ne_r7_it : r7 ≠ it := Nat.ne_of_lt (Nat.lt_of_lt_of_le E_r7.lt (Nat.le_of_eq g86.symm))
          have ne_it_r7 := ne_r7_it.symm
          have g_it : n0 ≤ it := Nat.le_trans Z85 (Nat.le_of_eq g86.symm)
          have E_a := E_a.ext E86
          have E_r2 := E_r2.ext E86
          have E_b := E_b.ext E86
          have E_r7 := E_r7.ext E86
          have E_li := E_li.ext E86
          have F_modCount_li := F_modCount_li.ext E86
          have F_size_li := F_size_li.ext E86
          have F_elementData_li := F_elementData_li.ext E86
          have O := O.ext E86
          have Z86 : n0 ≤ h86.size := Nat.le_trans Z85 E86.1
          have E_it := A86
          have F_label_it : Fld Z h86 it "com/example/restate/restate/plan/Item" "label" "Lcom/example/restate/restate/plan/Label;" .null := D86 (Or.inr (wq hw 102 rfl)) (ty := (.object "com/example/restate/restate/plan/Label")) (by decide)
          have F_printed_it : Fld Z h86 it "com/example/restate/restate/plan/Item" "printed" "Lcom/example/restate/restate/plan/Label;" .null := D86 (Or.inr (wq hw 104 rfl)) (ty := (.object "com/example/restate/restate/plan/Label")) (by decide)
          have F_start_it : Fld Z h86 it "com/example/restate/restate/plan/Item" "start" "I" (.int (0 : Int32)) := D86 (Or.inr (wq hw 106 rfl)) (ty := .int) (by decide)
          have F_end_it : Fld Z h86 it "com/example/restate/restate/plan/Item" "end" "I" (.int (0 : Int32)) := D86 (Or.inr (wq hw 108 rfl)) (ty := .int) (by decide)
          have F_children_it : Fld Z h86 it "com/example/restate/restate/plan/Item" "children" "Ljava/util/List;" .null := D86 (Or.inr (wq hw 110 rfl)) (ty := (.object "java/util/List")) (by decide)
          refine Goes.pre (U' := T86.setTop (mkF m 152 #[.val (.int p1), .val (.int p2), .val (.int p3), .val (.int p4), .val (.int p5), .val (.int kk), .val (.ref a), .val (.ref b), .val .null, .val (.ref b), .val (.int (0 : Int32)), .val (.ref li), .unset, .unset, .unset] [(.ref li), (.int p5), (.int p4), (.ref b), .null, (.ref it), (.ref it)])) (fun t k => st86 t (XS.dup X86.here hx rfl (hb hby at_142) rfl rfl (XS.aload X86.here hx rfl (hb hby at_143) rfl rfl (XS.aload X86.here hx rfl (hb hby at_145) rfl rfl (XS.iloadN X86.here hx rfl (hb hby at_147) rfl (XS.iload X86.here hx rfl (hb hby at_148) rfl (XS.aload X86.here hx rfl (hb hby at_150) rfl rfl k))))))) ?_
          obtain ⟨_, _, ⟨T87, L87, k87, n87⟩, -, X87, ⟨Lc87, hQ87, l87, y87, z87⟩, st87⟩ := X86.specialBack hx (y := (⟨"com/example/restate/restate/plan/Item", "<init>", "(Lcom/example/restate/restate/plan/Label;Lcom/example/restate/restate/plan/Label;IILjava/util/List;)V"⟩ : MethodName)) rfl hown (mvT hZ (wq hw 68 rfl)) (mvT hZ (wq hw 69 rfl)) (mvT hZ (wq hw 70 rfl)) (by decide) (backOf (W := 1) (rm_item01 l Z a0 hw [] it b p4 p5 li el h86 n0 Z86 E_it E_li F_size_li S_EMPTY_LIST F_label_it F_printed_it F_start_it F_end_it F_children_it ne_it_li ne_li_it g_it O) hZ (wq hw 70 rfl) (wq hw 67 rfl) (by decide) (by decide)) (g := (mkF m 152 #[.val (.int p1), .val (.int p2), .val (.int p3), .val (.int p4), .val (.int p5), .val (.int kk), .val (.ref a), .val (.ref b), .val .null, .val (.ref b), .val (.int (0 : Int32)), .val (.ref li), .unset, .unset, .unset] [(.ref li), (.int p5), (.int p4), (.ref b), .null, (.ref it), (.ref it)])) rfl (by rw [hml]; rfl) (Steps.refl _) (a := it) (argsL := [.null, (.ref b), (.int p4), (.int p5), (.ref li)]) (rest := [(.ref it)]) (lenOf pd__28Lcom_2fexample_2frestate_2frestate_2fplan_2fLabel_3bLcom_2fexample_2frestate_2frestate_2fplan_2fLabel_3bIILjava_2futil_2fList_3b_29V rfl) rfl (by show 2 * 0 + _ ≤ _; exact Nat.le_of_eq rfl) (hb hby at_152) (fun _ _ => ⟨rfl, e86, (by decide : 8 + 0 ≤ _), (by decide : 20 + 0 ≤ _)⟩)
          dsimp only [Pt.U, Pt.locs, Pt.cells, Pt.slots] at X87 l87 y87 z87 st87 hQ87
          subst l87 y87 z87
          obtain ⟨rfl, N87q, KQ87, fo0_87, fo1_87, fo2_87, fo3_87, fo4_87⟩ := hQ87
          have N87 := Fr.app N84 N87q
          have E_a := E_a.keep KQ87
          have E_r2 := E_r2.keep KQ87
          have E_b := E_b.keep KQ87
          have E_r7 := E_r7.keep KQ87
          have E_li := E_li.keep KQ87
          have F_modCount_li := F_modCount_li.keep KQ87 (ninS ne_li_it nin0)
          have F_size_li := F_size_li.keep KQ87 (ninS ne_li_it nin0)
          have F_elementData_li := F_elementData_li.keep KQ87 (ninS ne_li_it nin0)
          have E_it := E_it.keep KQ87
          have Z88 : n0 ≤ T87.heap.size := Nat.le_trans Z86 KQ87.1
          have O := O.keep KQ87 (allS (P := fun x => n0 ≤ x) g_it all0)
          have F_label_it := fo0_87
          have F_printed_it := fo1_87
          have F_start_it := fo2_87
          have F_end_it := fo3_87
          have F_children_it := fo4_87
          refine Goes.pre (U' := T87.setTop (mkF m 157 #[.val (.int p1), .val (.int p2), .val (.int p3), .val (.int p4), .val (.int p5), .val (.int kk), .val (.ref a), .val (.ref b), .val .null, .val (.ref b), .val (.int (0 : Int32)), .val (.ref li), .val (.ref it), .unset, .unset] [])) (fun t k => st87.trans (XS.astore X87.here hx rfl (hb hby at_155) rfl rfl (l' := #[.val (.int p1), .val (.int p2), .val (.int p3), .val (.int p4), .val (.int p5), .val (.int kk), .val (.ref a), .val (.ref b), .val .null, .val (.ref b), .val (.int (0 : Int32)), .val (.ref li), .val (.ref it), .unset, .unset]) rfl k)) ?_
          obtain ⟨T89, h89, X89, e89, E89, A89, D89, -, st89⟩ := newO X87 hx hZ hown (wq hw 41 rfl) (wq hw 42 rfl) (wq hw 43 rfl) rfl (g := (mkF m 157 #[.val (.int p1), .val (.int p2), .val (.int p3), .val (.int p4), .val (.int p5), .val (.int kk), .val (.ref a), .val (.ref b), .val .null, .val (.ref b), .val (.int (0 : Int32)), .val (.ref li), .val (.ref it), .unset, .unset] [])) rfl (hb hby at_157) (by decide) (by decide)
          obtain ⟨kids, g89⟩ : ∃ z, z = T87.heap.size := ⟨_, rfl⟩
          rw [← g89] at A89 D89 st89
          have ne_a_kids : a ≠ kids := Nat.ne_of_lt (Nat.lt_of_lt_of_le E_a.lt (Nat.le_of_eq g89.symm))
          have ne_kids_a := ne_a_kids.symm
          have ne_b_kids : b ≠ kids := Nat.ne_of_lt (Nat.lt_of_lt_of_le E_b.lt (Nat.le_of_eq g89.symm))
          have ne_kids_b := ne_b_kids.symm
          have ne_dce_kids : dce ≠ kids := Nat.ne_of_lt (Nat.lt_of_lt_of_le (V_dce.ext O.2).lt (Nat.le_of_eq g89.symm))
          have ne_kids_dce := ne_dce_kids.symm
          have ne_ea_kids : ea ≠ kids := Nat.ne_of_lt (Nat.lt_of_lt_of_le (V_ea.ext O.2).lt (Nat.le_of_eq g89.symm))
          have ne_kids_ea := ne_ea_kids.symm
          have ne_el_kids : el ≠ kids := Nat.ne_of_lt (Nat.lt_of_lt_of_le (E_el.ext O.2).lt (Nat.le_of_eq g89.symm))
          have ne_kids_el := ne_el_kids.symm
          have ne_it_kids : it ≠ kids := Nat.ne_of_lt (Nat.lt_of_lt_of_le E_it.lt (Nat.le_of_eq g89.symm))
          have ne_kids_it := ne_it_kids.symm
          have ne_li_kids : li ≠ kids := Nat.ne_of_lt (Nat.lt_of_lt_of_le E_li.lt (Nat.le_of_eq g89.symm))
          have ne_kids_li := ne_li_kids.symm
          have ne_r2_kids : r2 ≠ kids := Nat.ne_of_lt (Nat.lt_of_lt_of_le E_r2.lt (Nat.le_of_eq g89.symm))
          have ne_kids_r2 := ne_r2_kids.symm
          have ne_r7_kids : r7 ≠ kids := Nat.ne_of_lt (Nat.lt_of_lt_of_le E_r7.lt (Nat.le_of_eq g89.symm))
          have ne_kids_r7 := ne_r7_kids.symm
          have g_kids : n0 ≤ kids := Nat.le_trans Z88 (Nat.le_of_eq g89.symm)
          have E_a := E_a.ext E89
          have E_r2 := E_r2.ext E89
          have E_b := E_b.ext E89
          have E_r7 := E_r7.ext E89
          have E_li := E_li.ext E89
          have F_modCount_li := F_modCount_li.ext E89
          have F_size_li := F_size_li.ext E89
          have F_elementData_li := F_elementData_li.ext E89
          have E_it := E_it.ext E89
          have F_label_it := F_label_it.ext E89
          have F_printed_it := F_printed_it.ext E89
          have F_start_it := F_start_it.ext E89
          have F_end_it := F_end_it.ext E89
          have F_children_it := F_children_it.ext E89
          have O := O.ext E89
          have Z89 : n0 ≤ h89.size := Nat.le_trans Z88 E89.1
          have E_kids := A89
          have F_modCount_kids : Fld Z h89 kids "java/util/AbstractList" "modCount" "I" (.int (0 : Int32)) := D89 (Or.inl (wq hw 61 rfl)) (ty := .int) (by decide)
          have F_elementData_kids : Fld Z h89 kids "java/util/ArrayList" "elementData" "[Ljava/lang/Object;" .null := D89 (Or.inl (wq hw 64 rfl)) (ty := (.array (.object "java/lang/Object"))) (by decide)
          have F_size_kids : Fld Z h89 kids "java/util/ArrayList" "size" "I" (.int (0 : Int32)) := D89 (Or.inl (wq hw 96 rfl)) (ty := .int) (by decide)
          refine Goes.pre (U' := T89.setTop (mkF m 161 #[.val (.int p1), .val (.int p2), .val (.int p3), .val (.int p4), .val (.int p5), .val (.int kk), .val (.ref a), .val (.ref b), .val .null, .val (.ref b), .val (.int (0 : Int32)), .val (.ref li), .val (.ref it), .unset, .unset] [(.ref kids), (.ref kids)])) (fun t k => st89 t (XS.dup X89.here hx rfl (hb hby at_160) rfl rfl k)) ?_
          obtain ⟨_, _, ⟨T90, L90, k90, n90⟩, -, X90, ⟨Lc90, hQ90, l90, y90, z90⟩, st90⟩ := X89.specialBack hx (y := (⟨"java/util/ArrayList", "<init>", "()V"⟩ : MethodName)) rfl hown (mvT hZ (wq hw 44 rfl)) (mvT hZ (wq hw 45 rfl)) (mvT hZ (wq hw 46 rfl)) (by decide) (backOf (W := 1) (rm_al l Z a0 hw [] kids dce h89 n0 Z89 E_kids F_modCount_kids F_size_kids F_elementData_kids S_DEFAULTCAPACITY_EMPTY_ELEMENTDATA g_kids O) hZ (wq hw 46 rfl) (wq hw 43 rfl) (by decide) (by decide)) (g := (mkF m 161 #[.val (.int p1), .val (.int p2), .val (.int p3), .val (.int p4), .val (.int p5), .val (.int kk), .val (.ref a), .val (.ref b), .val .null, .val (.ref b), .val (.int (0 : Int32)), .val (.ref li), .val (.ref it), .unset, .unset] [(.ref kids), (.ref kids)])) rfl (by rw [hml]; rfl) (Steps.refl _) (a := kids) (argsL := []) (rest := [(.ref kids)]) (lenOf pd__28_29V rfl) rfl (by show 2 * 0 + _ ≤ _; exact Nat.le_of_eq rfl) (hb hby at_161) (fun _ _ => ⟨rfl, e89, (by decide : 9 + 0 ≤ _), (by decide : 23 + 0 ≤ _)⟩)
          dsimp only [Pt.U, Pt.locs, Pt.cells, Pt.slots] at X90 l90 y90 z90 st90 hQ90
          subst l90 y90 z90
          obtain ⟨rfl, N90q, KQ90, fo0_90, fo1_90, fo2_90⟩ := hQ90
          have N90 := Fr.app N87 N90q
          have E_a := E_a.keep KQ90
          have E_r2 := E_r2.keep KQ90
          have E_b := E_b.keep KQ90
          have E_r7 := E_r7.keep KQ90
          have E_li := E_li.keep KQ90
          have F_modCount_li := F_modCount_li.keep KQ90 (ninS ne_li_kids nin0)
          have F_size_li := F_size_li.keep KQ90 (ninS ne_li_kids nin0)
          have F_elementData_li := F_elementData_li.keep KQ90 (ninS ne_li_kids nin0)
          have E_it := E_it.keep KQ90
          have F_label_it := F_label_it.keep KQ90 (ninS ne_it_kids nin0)
          have F_printed_it := F_printed_it.keep KQ90 (ninS ne_it_kids nin0)
          have F_start_it := F_start_it.keep KQ90 (ninS ne_it_kids nin0)
          have F_end_it := F_end_it.keep KQ90 (ninS ne_it_kids nin0)
          have F_children_it := F_children_it.keep KQ90 (ninS ne_it_kids nin0)
          have E_kids := E_kids.keep KQ90
          have Z91 : n0 ≤ T90.heap.size := Nat.le_trans Z89 KQ90.1
          have O := O.keep KQ90 (allS (P := fun x => n0 ≤ x) g_kids all0)
          have F_modCount_kids := fo0_90
          have F_size_kids := fo1_90
          have F_elementData_kids := fo2_90
          refine Goes.pre (U' := T90.setTop (mkF m 170 #[.val (.int p1), .val (.int p2), .val (.int p3), .val (.int p4), .val (.int p5), .val (.int kk), .val (.ref a), .val (.ref b), .val .null, .val (.ref b), .val (.int (0 : Int32)), .val (.ref li), .val (.ref it), .val (.ref kids), .unset] [(.ref it), (.ref kids)])) (fun t k => st90.trans (XS.astore X90.here hx rfl (hb hby at_164) rfl rfl (l' := #[.val (.int p1), .val (.int p2), .val (.int p3), .val (.int p4), .val (.int p5), .val (.int kk), .val (.ref a), .val (.ref b), .val .null, .val (.ref b), .val (.int (0 : Int32)), .val (.ref li), .val (.ref it), .val (.ref kids), .unset]) rfl (XS.aload X90.here hx rfl (hb hby at_166) rfl rfl (XS.aload X90.here hx rfl (hb hby at_168) rfl rfl k)))) ?_
          have lt_a := E_a.lt
          have lt_b := E_b.lt
          have lt_dce := (V_dce.ext O.2).lt
          have lt_ea := (V_ea.ext O.2).lt
          have lt_el := (E_el.ext O.2).lt
          have lt_it := E_it.lt
          have lt_kids := E_kids.lt
          have lt_li := E_li.lt
          have lt_r2 := E_r2.lt
          have lt_r7 := E_r7.lt
          obtain ⟨cq92, kq92, q92a, q92b, q92c⟩ := isOf hZ rfl E_kids
          obtain ⟨_, _, ⟨T92, L92, k92, n92⟩, -, X92, ⟨Lc92, hQ92, l92, y92, z92⟩, st92⟩ := X90.virtualBack hx (y := (⟨"java/util/ArrayList", "add", "(Ljava/lang/Object;)Z"⟩ : MethodName)) (z := (⟨"java/util/ArrayList", "add", "(Ljava/lang/Object;)Z"⟩ : MethodName)) hown (mvT hZ (wq hw 111 rfl)) (mvT hZ (wq hw 112 rfl)) (notFace_of_selects (args := #[]) (mvT hZ (wq hw 114 rfl))) (mvT hZ (wq hw 114 rfl)) (mvT hZ (wq hw 113 rfl)) (by decide) (backOf (W := 0) (rm_add l Z a0 hw [] kids it dce kd T90.heap n0 Z91 E_kids F_modCount_kids F_size_kids F_elementData_kids S_DEFAULTCAPACITY_EMPTY_ELEMENTDATA V_dce E_it g_kids O) hZ (wq hw 115 rfl) (wq hw 43 rfl) (by decide) (by decide)) q92a q92c (g := (mkF m 170 #[.val (.int p1), .val (.int p2), .val (.int p3), .val (.int p4), .val (.int p5), .val (.int kk), .val (.ref a), .val (.ref b), .val .null, .val (.ref b), .val (.int (0 : Int32)), .val (.ref li), .val (.ref it), .val (.ref kids), .unset] [(.ref it), (.ref kids)])) rfl (by rw [hml]; rfl) (Steps.refl _) (argsL := [(.ref it)]) (rest := []) (lenOf pd__28Ljava_2flang_2fObject_3b_29Z rfl) rfl (by show 2 * 0 + _ ≤ _; exact Nat.le_of_eq rfl) (hb hby at_170) (fun _ _ => ⟨rfl, rfl, (by decide : 9 + 1 ≤ _), (by decide : 23 + 10 ≤ _)⟩)
          dsimp only [Pt.U, Pt.locs, Pt.cells, Pt.slots] at X92 l92 y92 z92 st92 hQ92
          subst l92 y92 z92
          obtain ⟨r92, kr92, rfl, N92q, KQ92, fo0_92, fo1_92, fo2_92, fo3_92, fo4_92, g_r92, sl_r92⟩ := hQ92
          have N92 := Fr.app N90 N92q
          have E_a := E_a.keep KQ92
          have E_r2 := E_r2.keep KQ92
          have E_b := E_b.keep KQ92
          have E_r7 := E_r7.keep KQ92
          have E_li := E_li.keep KQ92
          have F_modCount_li := F_modCount_li.keep KQ92 (ninS ne_li_kids nin0)
          have F_size_li := F_size_li.keep KQ92 (ninS ne_li_kids nin0)
          have F_elementData_li := F_elementData_li.keep KQ92 (ninS ne_li_kids nin0)
          have E_it := E_it.keep KQ92
          have F_label_it := F_label_it.keep KQ92 (ninS ne_it_kids nin0)
          have F_printed_it := F_printed_it.keep KQ92 (ninS ne_it_kids nin0)
          have F_start_it := F_start_it.keep KQ92 (ninS ne_it_kids nin0)
          have F_end_it := F_end_it.keep KQ92 (ninS ne_it_kids nin0)
          have F_children_it := F_children_it.keep KQ92 (ninS ne_it_kids nin0)
          have E_kids := E_kids.keep KQ92
          have Z93 : n0 ≤ T92.heap.size := Nat.le_trans Z91 KQ92.1
          have O := O.keep KQ92 (allS (P := fun x => n0 ≤ x) g_kids all0)
          have ne_a_r92 : a ≠ r92 := Nat.ne_of_lt (Nat.lt_of_lt_of_le lt_a sl_r92)
          have ne_r92_a := ne_a_r92.symm
          have ne_b_r92 : b ≠ r92 := Nat.ne_of_lt (Nat.lt_of_lt_of_le lt_b sl_r92)
          have ne_r92_b := ne_b_r92.symm
          have ne_dce_r92 : dce ≠ r92 := Nat.ne_of_lt (Nat.lt_of_lt_of_le lt_dce sl_r92)
          have ne_r92_dce := ne_dce_r92.symm
          have ne_ea_r92 : ea ≠ r92 := Nat.ne_of_lt (Nat.lt_of_lt_of_le lt_ea sl_r92)
          have ne_r92_ea := ne_ea_r92.symm
          have ne_el_r92 : el ≠ r92 := Nat.ne_of_lt (Nat.lt_of_lt_of_le lt_el sl_r92)
          have ne_r92_el := ne_el_r92.symm
          have ne_it_r92 : it ≠ r92 := Nat.ne_of_lt (Nat.lt_of_lt_of_le lt_it sl_r92)
          have ne_r92_it := ne_it_r92.symm
          have ne_kids_r92 : kids ≠ r92 := Nat.ne_of_lt (Nat.lt_of_lt_of_le lt_kids sl_r92)
          have ne_r92_kids := ne_kids_r92.symm
          have ne_li_r92 : li ≠ r92 := Nat.ne_of_lt (Nat.lt_of_lt_of_le lt_li sl_r92)
          have ne_r92_li := ne_li_r92.symm
          have ne_r2_r92 : r2 ≠ r92 := Nat.ne_of_lt (Nat.lt_of_lt_of_le lt_r2 sl_r92)
          have ne_r92_r2 := ne_r2_r92.symm
          have ne_r7_r92 : r7 ≠ r92 := Nat.ne_of_lt (Nat.lt_of_lt_of_le lt_r7 sl_r92)
          have ne_r92_r7 := ne_r7_r92.symm
          have F_modCount_kids := fo0_92
          have F_size_kids := fo1_92
          have F_elementData_kids := fo2_92
          have E_r92 := fo3_92
          have V_r92 := fo4_92
          refine Goes.pre (U' := T92.setTop (mkF m 174 #[.val (.int p1), .val (.int p2), .val (.int p3), .val (.int p4), .val (.int p5), .val (.int kk), .val (.ref a), .val (.ref b), .val .null, .val (.ref b), .val (.int (0 : Int32)), .val (.ref li), .val (.ref it), .val (.ref kids), .unset] [])) (fun t k => st92.trans (XS.pop X92.here hx rfl (hb hby at_173) rfl rfl k)) ?_
          obtain ⟨T94, h94, X94, e94, E94, A94, D94, -, st94⟩ := newO X92 hx hZ hown (wq hw 65 rfl) (wq hw 66 rfl) (wq hw 67 rfl) rfl (g := (mkF m 174 #[.val (.int p1), .val (.int p2), .val (.int p3), .val (.int p4), .val (.int p5), .val (.int kk), .val (.ref a), .val (.ref b), .val .null, .val (.ref b), .val (.int (0 : Int32)), .val (.ref li), .val (.ref it), .val (.ref kids), .unset] [])) rfl (hb hby at_174) (by decide) (by decide)
          obtain ⟨pa, g94⟩ : ∃ z, z = T92.heap.size := ⟨_, rfl⟩
          rw [← g94] at A94 D94 st94
          have ne_a_pa : a ≠ pa := Nat.ne_of_lt (Nat.lt_of_lt_of_le E_a.lt (Nat.le_of_eq g94.symm))
          have ne_pa_a := ne_a_pa.symm
          have ne_b_pa : b ≠ pa := Nat.ne_of_lt (Nat.lt_of_lt_of_le E_b.lt (Nat.le_of_eq g94.symm))
          have ne_pa_b := ne_b_pa.symm
          have ne_dce_pa : dce ≠ pa := Nat.ne_of_lt (Nat.lt_of_lt_of_le (V_dce.ext O.2).lt (Nat.le_of_eq g94.symm))
          have ne_pa_dce := ne_dce_pa.symm
          have ne_ea_pa : ea ≠ pa := Nat.ne_of_lt (Nat.lt_of_lt_of_le (V_ea.ext O.2).lt (Nat.le_of_eq g94.symm))
          have ne_pa_ea := ne_ea_pa.symm
          have ne_el_pa : el ≠ pa := Nat.ne_of_lt (Nat.lt_of_lt_of_le (E_el.ext O.2).lt (Nat.le_of_eq g94.symm))
          have ne_pa_el := ne_el_pa.symm
          have ne_it_pa : it ≠ pa := Nat.ne_of_lt (Nat.lt_of_lt_of_le E_it.lt (Nat.le_of_eq g94.symm))
          have ne_pa_it := ne_it_pa.symm
          have ne_kids_pa : kids ≠ pa := Nat.ne_of_lt (Nat.lt_of_lt_of_le E_kids.lt (Nat.le_of_eq g94.symm))
          have ne_pa_kids := ne_kids_pa.symm
          have ne_li_pa : li ≠ pa := Nat.ne_of_lt (Nat.lt_of_lt_of_le E_li.lt (Nat.le_of_eq g94.symm))
          have ne_pa_li := ne_li_pa.symm
          have ne_r2_pa : r2 ≠ pa := Nat.ne_of_lt (Nat.lt_of_lt_of_le E_r2.lt (Nat.le_of_eq g94.symm))
          have ne_pa_r2 := ne_r2_pa.symm
          have ne_r7_pa : r7 ≠ pa := Nat.ne_of_lt (Nat.lt_of_lt_of_le E_r7.lt (Nat.le_of_eq g94.symm))
          have ne_pa_r7 := ne_r7_pa.symm
          have ne_r92_pa : r92 ≠ pa := Nat.ne_of_lt (Nat.lt_of_lt_of_le E_r92.lt (Nat.le_of_eq g94.symm))
          have ne_pa_r92 := ne_r92_pa.symm
          have g_pa : n0 ≤ pa := Nat.le_trans Z93 (Nat.le_of_eq g94.symm)
          have E_a := E_a.ext E94
          have E_r2 := E_r2.ext E94
          have E_b := E_b.ext E94
          have E_r7 := E_r7.ext E94
          have E_li := E_li.ext E94
          have F_modCount_li := F_modCount_li.ext E94
          have F_size_li := F_size_li.ext E94
          have F_elementData_li := F_elementData_li.ext E94
          have E_it := E_it.ext E94
          have F_label_it := F_label_it.ext E94
          have F_printed_it := F_printed_it.ext E94
          have F_start_it := F_start_it.ext E94
          have F_end_it := F_end_it.ext E94
          have F_children_it := F_children_it.ext E94
          have E_kids := E_kids.ext E94
          have F_modCount_kids := F_modCount_kids.ext E94
          have F_size_kids := F_size_kids.ext E94
          have F_elementData_kids := F_elementData_kids.ext E94
          have E_r92 := E_r92.ext E94
          have V_r92 := V_r92.ext E94
          have O := O.ext E94
          have Z94 : n0 ≤ h94.size := Nat.le_trans Z93 E94.1
          have E_pa := A94
          have F_label_pa : Fld Z h94 pa "com/example/restate/restate/plan/Item" "label" "Lcom/example/restate/restate/plan/Label;" .null := D94 (Or.inr (wq hw 102 rfl)) (ty := (.object "com/example/restate/restate/plan/Label")) (by decide)
          have F_printed_pa : Fld Z h94 pa "com/example/restate/restate/plan/Item" "printed" "Lcom/example/restate/restate/plan/Label;" .null := D94 (Or.inr (wq hw 104 rfl)) (ty := (.object "com/example/restate/restate/plan/Label")) (by decide)
          have F_start_pa : Fld Z h94 pa "com/example/restate/restate/plan/Item" "start" "I" (.int (0 : Int32)) := D94 (Or.inr (wq hw 106 rfl)) (ty := .int) (by decide)
          have F_end_pa : Fld Z h94 pa "com/example/restate/restate/plan/Item" "end" "I" (.int (0 : Int32)) := D94 (Or.inr (wq hw 108 rfl)) (ty := .int) (by decide)
          have F_children_pa : Fld Z h94 pa "com/example/restate/restate/plan/Item" "children" "Ljava/util/List;" .null := D94 (Or.inr (wq hw 110 rfl)) (ty := (.object "java/util/List")) (by decide)
          refine Goes.pre (U' := T94.setTop (mkF m 185 #[.val (.int p1), .val (.int p2), .val (.int p3), .val (.int p4), .val (.int p5), .val (.int kk), .val (.ref a), .val (.ref b), .val .null, .val (.ref b), .val (.int (0 : Int32)), .val (.ref li), .val (.ref it), .val (.ref kids), .unset] [(.ref kids), (.int p5), (.int p4), .null, .null, (.ref pa), (.ref pa)])) (fun t k => st94 t (XS.dup X94.here hx rfl (hb hby at_177) rfl rfl (XS.aconstNull X94.here hx rfl (hb hby at_178) (XS.aconstNull X94.here hx rfl (hb hby at_179) (XS.iloadN X94.here hx rfl (hb hby at_180) rfl (XS.iload X94.here hx rfl (hb hby at_181) rfl (XS.aload X94.here hx rfl (hb hby at_183) rfl rfl k))))))) ?_
          have lt_a := E_a.lt
          have lt_b := E_b.lt
          have lt_dce := (V_dce.ext O.2).lt
          have lt_ea := (V_ea.ext O.2).lt
          have lt_el := (E_el.ext O.2).lt
          have lt_it := E_it.lt
          have lt_kids := E_kids.lt
          have lt_li := E_li.lt
          have lt_pa := E_pa.lt
          have lt_r2 := E_r2.lt
          have lt_r7 := E_r7.lt
          have lt_r92 := E_r92.lt
          obtain ⟨_, _, ⟨T95, L95, k95, n95⟩, -, X95, ⟨Lc95, hQ95, l95, y95, z95⟩, st95⟩ := X94.specialBack hx (y := (⟨"com/example/restate/restate/plan/Item", "<init>", "(Lcom/example/restate/restate/plan/Label;Lcom/example/restate/restate/plan/Label;IILjava/util/List;)V"⟩ : MethodName)) rfl hown (mvT hZ (wq hw 68 rfl)) (mvT hZ (wq hw 69 rfl)) (mvT hZ (wq hw 70 rfl)) (by decide) (backOf (W := 1) (rm_itemP l Z a0 hw [] pa p4 p5 kids r92 kr92 it mr em h94 n0 Z94 E_kids F_size_kids F_elementData_kids E_r92 V_r92 E_it M__Ljava_lang_Object_ S_EMPTY E_pa F_label_pa F_printed_pa F_start_pa F_end_pa F_children_pa ne_kids_pa ne_r92_pa ne_it_pa g_pa O) hZ (wq hw 70 rfl) (wq hw 67 rfl) (by decide) (by decide)) (g := (mkF m 185 #[.val (.int p1), .val (.int p2), .val (.int p3), .val (.int p4), .val (.int p5), .val (.int kk), .val (.ref a), .val (.ref b), .val .null, .val (.ref b), .val (.int (0 : Int32)), .val (.ref li), .val (.ref it), .val (.ref kids), .unset] [(.ref kids), (.int p5), (.int p4), .null, .null, (.ref pa), (.ref pa)])) rfl (by rw [hml]; rfl) (Steps.refl _) (a := pa) (argsL := [.null, .null, (.int p4), (.int p5), (.ref kids)]) (rest := [(.ref pa)]) (lenOf pd__28Lcom_2fexample_2frestate_2frestate_2fplan_2fLabel_3bLcom_2fexample_2frestate_2frestate_2fplan_2fLabel_3bIILjava_2futil_2fList_3b_29V rfl) rfl (by show 2 * 0 + _ ≤ _; exact Nat.le_of_eq rfl) (hb hby at_185) (fun _ _ => ⟨rfl, e94, (by decide : 11 + 2 ≤ _), (by decide : 38 + 3 ≤ _)⟩)
          dsimp only [Pt.U, Pt.locs, Pt.cells, Pt.slots] at X95 l95 y95 z95 st95 hQ95
          subst l95 y95 z95
          obtain ⟨r95, rfl, N95q, KQ95, fo0_95, fo1_95, fo2_95, fo3_95, fo4_95, fo5_95, fo6_95, fo7_95, g_r95, sl_r95⟩ := hQ95
          have N95 := Fr.app N92 N95q
          have E_a := E_a.keep KQ95
          have E_r2 := E_r2.keep KQ95
          have E_b := E_b.keep KQ95
          have E_r7 := E_r7.keep KQ95
          have E_li := E_li.keep KQ95
          have F_modCount_li := F_modCount_li.keep KQ95 (ninS ne_li_pa nin0)
          have F_size_li := F_size_li.keep KQ95 (ninS ne_li_pa nin0)
          have F_elementData_li := F_elementData_li.keep KQ95 (ninS ne_li_pa nin0)
          have E_it := E_it.keep KQ95
          have F_label_it := F_label_it.keep KQ95 (ninS ne_it_pa nin0)
          have F_printed_it := F_printed_it.keep KQ95 (ninS ne_it_pa nin0)
          have F_start_it := F_start_it.keep KQ95 (ninS ne_it_pa nin0)
          have F_end_it := F_end_it.keep KQ95 (ninS ne_it_pa nin0)
          have F_children_it := F_children_it.keep KQ95 (ninS ne_it_pa nin0)
          have E_kids := E_kids.keep KQ95
          have F_modCount_kids := F_modCount_kids.keep KQ95 (ninS ne_kids_pa nin0)
          have F_size_kids := F_size_kids.keep KQ95 (ninS ne_kids_pa nin0)
          have F_elementData_kids := F_elementData_kids.keep KQ95 (ninS ne_kids_pa nin0)
          have E_r92 := E_r92.keep KQ95
          have V_r92 := V_r92.keep KQ95 (ninS ne_r92_pa nin0)
          have E_pa := E_pa.keep KQ95
          have Z96 : n0 ≤ T95.heap.size := Nat.le_trans Z94 KQ95.1
          have O := O.keep KQ95 (allS (P := fun x => n0 ≤ x) g_pa all0)
          have ne_a_r95 : a ≠ r95 := Nat.ne_of_lt (Nat.lt_of_lt_of_le lt_a sl_r95)
          have ne_r95_a := ne_a_r95.symm
          have ne_b_r95 : b ≠ r95 := Nat.ne_of_lt (Nat.lt_of_lt_of_le lt_b sl_r95)
          have ne_r95_b := ne_b_r95.symm
          have ne_dce_r95 : dce ≠ r95 := Nat.ne_of_lt (Nat.lt_of_lt_of_le lt_dce sl_r95)
          have ne_r95_dce := ne_dce_r95.symm
          have ne_ea_r95 : ea ≠ r95 := Nat.ne_of_lt (Nat.lt_of_lt_of_le lt_ea sl_r95)
          have ne_r95_ea := ne_ea_r95.symm
          have ne_el_r95 : el ≠ r95 := Nat.ne_of_lt (Nat.lt_of_lt_of_le lt_el sl_r95)
          have ne_r95_el := ne_el_r95.symm
          have ne_it_r95 : it ≠ r95 := Nat.ne_of_lt (Nat.lt_of_lt_of_le lt_it sl_r95)
          have ne_r95_it := ne_it_r95.symm
          have ne_kids_r95 : kids ≠ r95 := Nat.ne_of_lt (Nat.lt_of_lt_of_le lt_kids sl_r95)
          have ne_r95_kids := ne_kids_r95.symm
          have ne_li_r95 : li ≠ r95 := Nat.ne_of_lt (Nat.lt_of_lt_of_le lt_li sl_r95)
          have ne_r95_li := ne_li_r95.symm
          have ne_pa_r95 : pa ≠ r95 := Nat.ne_of_lt (Nat.lt_of_lt_of_le lt_pa sl_r95)
          have ne_r95_pa := ne_pa_r95.symm
          have ne_r2_r95 : r2 ≠ r95 := Nat.ne_of_lt (Nat.lt_of_lt_of_le lt_r2 sl_r95)
          have ne_r95_r2 := ne_r2_r95.symm
          have ne_r7_r95 : r7 ≠ r95 := Nat.ne_of_lt (Nat.lt_of_lt_of_le lt_r7 sl_r95)
          have ne_r95_r7 := ne_r7_r95.symm
          have ne_r92_r95 : r92 ≠ r95 := Nat.ne_of_lt (Nat.lt_of_lt_of_le lt_r92 sl_r95)
          have ne_r95_r92 := ne_r92_r95.symm
          have F_label_pa := fo0_95
          have F_printed_pa := fo1_95
          have F_start_pa := fo2_95
          have F_end_pa := fo3_95
          have F_children_pa := fo4_95
          have E_r95 := fo5_95
          have F_e0_r95 := fo6_95
          have F_e1_r95 := fo7_95
          refine Goes.pre (U' := T95.setTop (mkF m 192 #[.val (.int p1), .val (.int p2), .val (.int p3), .val (.int p4), .val (.int p5), .val (.int kk), .val (.ref a), .val (.ref b), .val .null, .val (.ref b), .val (.int (0 : Int32)), .val (.ref li), .val (.ref it), .val (.ref kids), .val (.ref pa)] [(.ref it)])) (fun t k => st95.trans (XS.astore X95.here hx rfl (hb hby at_188) rfl rfl (l' := #[.val (.int p1), .val (.int p2), .val (.int p3), .val (.int p4), .val (.int p5), .val (.int kk), .val (.ref a), .val (.ref b), .val .null, .val (.ref b), .val (.int (0 : Int32)), .val (.ref li), .val (.ref it), .val (.ref kids), .val (.ref pa)]) rfl (XS.aload X95.here hx rfl (hb hby at_190) rfl rfl k))) ?_
          obtain ⟨cq97, kq97, q97a, q97b, q97c⟩ := isOf hZ rfl E_it
          obtain ⟨_, _, ⟨T97, L97, k97, n97⟩, -, X97, ⟨Lc97, hQ97, l97, y97, z97⟩, st97⟩ := X95.virtualBack hx (y := (⟨"com/example/restate/restate/plan/Item", "deleted", "()Z"⟩ : MethodName)) (z := (⟨"com/example/restate/restate/plan/Item", "deleted", "()Z"⟩ : MethodName)) hown (mvT hZ (wq hw 203 rfl)) (mvT hZ (wq hw 204 rfl)) (notFace_of_selects (args := #[]) (mvT hZ (wq hw 206 rfl))) (mvT hZ (wq hw 206 rfl)) (mvT hZ (wq hw 205 rfl)) (by decide) (backOf (W := 0) (rm_del01 l Z a0 hw [] it b T95.heap n0 Z96 F_label_it F_printed_it) hZ (wq hw 207 rfl) (wq hw 67 rfl) (by decide) (by decide)) q97a q97c (g := (mkF m 192 #[.val (.int p1), .val (.int p2), .val (.int p3), .val (.int p4), .val (.int p5), .val (.int kk), .val (.ref a), .val (.ref b), .val .null, .val (.ref b), .val (.int (0 : Int32)), .val (.ref li), .val (.ref it), .val (.ref kids), .val (.ref pa)] [(.ref it)])) rfl (by rw [hml]; rfl) (Steps.refl _) (argsL := []) (rest := []) (lenOf pd__28_29Z rfl) rfl (by show 2 * 0 + _ ≤ _; exact Nat.le_of_eq rfl) (hb hby at_192) (fun _ _ => ⟨rfl, rfl, (by decide : 13 + 0 ≤ _), (by decide : 41 + 0 ≤ _)⟩)
          dsimp only [Pt.U, Pt.locs, Pt.cells, Pt.slots] at X97 l97 y97 z97 st97 hQ97
          subst l97 y97 z97
          obtain ⟨rfl, N97q, HQ97⟩ := hQ97
          have N97 := Fr.app N95 N97q
          refine Goes.pre (U' := T97.setTop (mkF m 197 #[.val (.int p1), .val (.int p2), .val (.int p3), .val (.int p4), .val (.int p5), .val (.int kk), .val (.ref a), .val (.ref b), .val .null, .val (.ref b), .val (.int (0 : Int32)), .val (.ref li), .val (.ref it), .val (.ref kids), .val (.ref pa)] [(.int (0 : Int32)), (.int (0 : Int32))])) (fun t k => st97.trans (XS.iload X97.here hx rfl (hb hby at_195) rfl k)) ?_
          have hc197 : (0 : Int32) = (0 : Int32) := rfl
          refine Goes.pre (U' := T97.setTop (mkF m 203 #[.val (.int p1), .val (.int p2), .val (.int p3), .val (.int p4), .val (.int p5), .val (.int kk), .val (.ref a), .val (.ref b), .val .null, .val (.ref b), .val (.int (0 : Int32)), .val (.ref li), .val (.ref it), .val (.ref kids), .val (.ref pa)] [(.int p4), (.ref pa)])) (fun t k => XS.icmpNo X97.here hx rfl (hb hby at_197) rfl (teq hc197).2 (XS.aload X97.here hx rfl (hb hby at_200) rfl rfl (XS.iloadN X97.here hx rfl (hb hby at_202) rfl k))) ?_
          obtain ⟨cq98, kq98, q98a, q98b, q98c⟩ := isOf hZ HQ97 E_pa
          obtain ⟨_, _, ⟨T98, L98, k98, n98⟩, -, X98, ⟨Lc98, hQ98, l98, y98, z98⟩, st98⟩ := X97.virtualBack hx (y := (⟨"com/example/restate/restate/plan/Item", "deletedBefore", "(I)I"⟩ : MethodName)) (z := (⟨"com/example/restate/restate/plan/Item", "deletedBefore", "(I)I"⟩ : MethodName)) hown (mvT hZ (wq hw 208 rfl)) (mvT hZ (wq hw 209 rfl)) (notFace_of_selects (args := #[]) (mvT hZ (wq hw 211 rfl))) (mvT hZ (wq hw 211 rfl)) (mvT hZ (wq hw 210 rfl)) (by decide) (backOf (W := 0) (rm_dbP01 l Z a0 hw [] pa p4 r95 it b em el ea ke T95.heap n0 Z96 F_children_pa E_r95 F_e0_r95 F_e1_r95 S_EMPTY E_el F_elements_el V_ea F_label_it F_printed_it F_start_it F_children_it E_it O) hZ (wq hw 212 rfl) (wq hw 67 rfl) (by decide) (by decide)) q98a q98c (g := (mkF m 203 #[.val (.int p1), .val (.int p2), .val (.int p3), .val (.int p4), .val (.int p5), .val (.int kk), .val (.ref a), .val (.ref b), .val .null, .val (.ref b), .val (.int (0 : Int32)), .val (.ref li), .val (.ref it), .val (.ref kids), .val (.ref pa)] [(.int p4), (.ref pa)])) rfl (by rw [hml]; rfl) (Steps.refl _) (argsL := [(.int p4)]) (rest := []) (lenOf pd__28I_29I rfl) rfl (by show 2 * 0 + _ ≤ _; exact Nat.le_of_eq rfl) (hb hby at_203) (fun _ _ => ⟨rfl, HQ97, (by decide : 13 + 2 ≤ _), (by decide : 41 + 8 ≤ _)⟩)
          dsimp only [Pt.U, Pt.locs, Pt.cells, Pt.slots] at X98 l98 y98 z98 st98 hQ98
          subst l98 y98 z98
          obtain ⟨rfl, N98q, KQ98⟩ := hQ98
          have N98 := Fr.app N97 N98q
          have E_a := E_a.keep KQ98
          have E_r2 := E_r2.keep KQ98
          have E_b := E_b.keep KQ98
          have E_r7 := E_r7.keep KQ98
          have E_li := E_li.keep KQ98
          have F_modCount_li := F_modCount_li.keep KQ98 nin0
          have F_size_li := F_size_li.keep KQ98 nin0
          have F_elementData_li := F_elementData_li.keep KQ98 nin0
          have E_it := E_it.keep KQ98
          have F_label_it := F_label_it.keep KQ98 nin0
          have F_printed_it := F_printed_it.keep KQ98 nin0
          have F_start_it := F_start_it.keep KQ98 nin0
          have F_end_it := F_end_it.keep KQ98 nin0
          have F_children_it := F_children_it.keep KQ98 nin0
          have E_kids := E_kids.keep KQ98
          have F_modCount_kids := F_modCount_kids.keep KQ98 nin0
          have F_size_kids := F_size_kids.keep KQ98 nin0
          have F_elementData_kids := F_elementData_kids.keep KQ98 nin0
          have E_r92 := E_r92.keep KQ98
          have V_r92 := V_r92.keep KQ98 nin0
          have E_pa := E_pa.keep KQ98
          have F_label_pa := F_label_pa.keep KQ98 nin0
          have F_printed_pa := F_printed_pa.keep KQ98 nin0
          have F_start_pa := F_start_pa.keep KQ98 nin0
          have F_end_pa := F_end_pa.keep KQ98 nin0
          have F_children_pa := F_children_pa.keep KQ98 nin0
          have E_r95 := E_r95.keep KQ98
          have F_e0_r95 := F_e0_r95.keep KQ98 nin0
          have F_e1_r95 := F_e1_r95.keep KQ98 nin0
          have Z99 : n0 ≤ T98.heap.size := Nat.le_trans Z96 KQ98.1
          have O := O.keep KQ98 all0
          refine Goes.pre (U' := T98.setTop (mkF m 208 #[.val (.int p1), .val (.int p2), .val (.int p3), .val (.int p4), .val (.int p5), .val (.int kk), .val (.ref a), .val (.ref b), .val .null, .val (.ref b), .val (.int (0 : Int32)), .val (.ref li), .val (.ref it), .val (.ref kids), .val (.ref pa)] [(.int (0 : Int32)), (.int (0 : Int32))])) (fun t k => st98.trans (XS.iload X98.here hx rfl (hb hby at_206) rfl k)) ?_
          have hc208 : (0 : Int32) = (0 : Int32) := rfl
          refine Goes.pre (U' := T98.setTop (mkF m 216 #[.val (.int p1), .val (.int p2), .val (.int p3), .val (.int p4), .val (.int p5), .val (.int kk), .val (.ref a), .val (.ref b), .val .null, .val (.ref b), .val (.int (0 : Int32)), .val (.ref li), .val (.ref it), .val (.ref kids), .val (.ref pa)] [(.int (0 : Int32)), (.int (0 : Int32))])) (fun t k => XS.ifYes X98.here hx rfl (pc0 := 208) (pc' := 215) rfl (hb hby at_208) rfl ((if0 _ _).trans (teq hc208).1) (by decide) (by decide) (XS.iconst X98.here hx rfl (hb hby at_215) k)) ?_
          have hc216 : (0 : Int32) = (0 : Int32) := rfl
          refine Goes.pre (U' := T98.setTop (mkF m 221 #[.val (.int p1), .val (.int p2), .val (.int p3), .val (.int p4), .val (.int p5), .val (.int kk), .val (.ref a), .val (.ref b), .val .null, .val (.ref b), .val (.int (0 : Int32)), .val (.ref li), .val (.ref it), .val (.ref kids), .val (.ref pa)] [(.ref pa)])) (fun t k => XS.icmpNo X98.here hx rfl (hb hby at_216) rfl (teq hc216).2 (XS.aload X98.here hx rfl (hb hby at_219) rfl rfl k)) ?_
          obtain ⟨cq100, kq100, q100a, q100b, q100c⟩ := isOf hZ rfl E_pa
          obtain ⟨_, _, ⟨T100, L100, k100, n100⟩, -, X100, ⟨Lc100, hQ100, l100, y100, z100⟩, st100⟩ := X98.virtualBack hx (y := (⟨"com/example/restate/restate/plan/Item", "deleted", "()Z"⟩ : MethodName)) (z := (⟨"com/example/restate/restate/plan/Item", "deleted", "()Z"⟩ : MethodName)) hown (mvT hZ (wq hw 203 rfl)) (mvT hZ (wq hw 204 rfl)) (notFace_of_selects (args := #[]) (mvT hZ (wq hw 206 rfl))) (mvT hZ (wq hw 206 rfl)) (mvT hZ (wq hw 205 rfl)) (by decide) (backOf (W := 0) (rm_del00 l Z a0 hw [] pa T98.heap n0 Z99 F_label_pa F_printed_pa) hZ (wq hw 207 rfl) (wq hw 67 rfl) (by decide) (by decide)) q100a q100c (g := (mkF m 221 #[.val (.int p1), .val (.int p2), .val (.int p3), .val (.int p4), .val (.int p5), .val (.int kk), .val (.ref a), .val (.ref b), .val .null, .val (.ref b), .val (.int (0 : Int32)), .val (.ref li), .val (.ref it), .val (.ref kids), .val (.ref pa)] [(.ref pa)])) rfl (by rw [hml]; rfl) (Steps.refl _) (argsL := []) (rest := []) (lenOf pd__28_29Z rfl) rfl (by show 2 * 0 + _ ≤ _; exact Nat.le_of_eq rfl) (hb hby at_221) (fun _ _ => ⟨rfl, rfl, (by decide : 15 + 0 ≤ _), (by decide : 49 + 0 ≤ _)⟩)
          dsimp only [Pt.U, Pt.locs, Pt.cells, Pt.slots] at X100 l100 y100 z100 st100 hQ100
          subst l100 y100 z100
          obtain ⟨rfl, N100q, HQ100⟩ := hQ100
          have N100 := Fr.app N98 N100q
          refine Goes.pre (U' := T100.setTop (mkF m 224 #[.val (.int p1), .val (.int p2), .val (.int p3), .val (.int p4), .val (.int p5), .val (.int kk), .val (.ref a), .val (.ref b), .val .null, .val (.ref b), .val (.int (0 : Int32)), .val (.ref li), .val (.ref it), .val (.ref kids), .val (.ref pa)] [(.int (0 : Int32))])) (fun t k => st100.trans k) ?_
          have hc224 : (0 : Int32) = (0 : Int32) := rfl
          refine Goes.pre (U' := T100.setTop (mkF m 232 #[.val (.int p1), .val (.int p2), .val (.int p3), .val (.int p4), .val (.int p5), .val (.int kk), .val (.ref a), .val (.ref b), .val .null, .val (.ref b), .val (.int (0 : Int32)), .val (.ref li), .val (.ref it), .val (.ref kids), .val (.ref pa)] [(.int (1 : Int32))])) (fun t k => XS.ifNo X100.here hx rfl (hb hby at_224) rfl ((if0 _ _).trans (teq hc224).2) (XS.iconst X100.here hx rfl (hb hby at_227) (XS.goto X100.here hx rfl (pc0 := 228) (pc' := 232) rfl (hb hby at_228) (by decide) (by decide) k))) ?_
          refine Goes.ret X100 (v := (some (.int (1 : Int32)))) (fun h => by rw [hret] at h; cases h) hlk (by decide) (by decide) HQ100 (fun fs hr => retN X100 hx (t := .boolean) hret (by simp) (hb hby at_232) hr) ?_
          exact ⟨rfl, N100⟩
theorem own_zero {Z : State} {args : Array Value} {t : Term} {a : Addr} {ty : FieldType} (ev : t.eval args Z none [] Z = some (.ref a)) (w : (Cond.arrayOf t ty).value args Z none Z [] = some true) (wl : (Cond.eq (Term.length t) (Term.int 0)).value args Z none Z [] = some true) :
    ∃ k, Arv Z Z.heap a k ty 0 [] .null := by
  obtain ⟨cl, A⟩ := Arr.start ev w
  have h1 := Arr.fin (Vm.Alike.refl _) A
  have hz : cl.slots.size = 0 := by
    by_cases hb : cl.slots.size < 2 ^ 31
    · have hl := len_f (first := Z) (o := none) (idx := []) ev h1 hb
      have hq := congrArg Int32.toInt (gotT (Cond.eq_ints hl (Term.int_eval (0))) wl)
      rw [len_toInt hb] at hq
      have h0 : (0 : Int32).toInt = 0 := by decide
      omega
    · exfalso
      obtain ⟨x, y, e1, -⟩ := cmp_v (Or.inl wl)
      simp [Term.eval, ev, h1] at e1
      omega
  exact ⟨cl.cls, cl, A, rfl, by rw [hz]; rfl, by decide, fun k hk => by omega, fun k hk => by omega⟩
set_option maxRecDepth 65536 in
set_option maxHeartbeats 40000000 in
theorem comes_1 {Post : Tables → Env → Array Value → State → Outcome → State → Prop} (hpost : ∀ tb e args s v u, (limb_1_1.after args s (.returned v) u = true ∧ limb_1_2.after args s (.returned v) u = true ∧ True) → FrameEnd s (.returned v) u (Jvm.fieldLocs frame_1_writes args s ++ Jvm.arrayLocs frame_1_arrays args s ++ Jvm.staticLocs frame_1_statics s) 40 192 → Post tb e args s (.returned v) u) :
    ArmFor flags0 classFile x code maxLocals ret World_1 tables_1 room_1 Calls_1 rest_1 Pre_1 Post := by
  intro l hfl _ _ p e ha hc hk s m args below hf hA hF happ hP
  obtain ⟨hcalls, hrest, hpre⟩ := hP
  obtain ⟨-, -, -, hnamed, -, -, -, hat⟩ := (Spec.applies_iff hf).mp happ
  obtain ⟨hg, hn⟩ := and_e (Cond.before_iff.mp (show (Jvm.Cond.and given_1 narrow_1).before args s = true from hpre))
  obtain ⟨g1, g2⟩ := and_e hg
  obtain ⟨g3, g4⟩ := and_e g2
  obtain ⟨g5, g6⟩ := and_e g4
  obtain ⟨g7, g8⟩ := and_e g6
  obtain ⟨g9, g10⟩ := and_e g8
  obtain ⟨w0, w1, w2, w3, w4, rfl⟩ : ∃ w0 w1 w2 w3 w4 : Value, args = #[w0, w1, w2, w3, w4] := by
    have hs : args.size = 5 := by simpa [Cond.value, given_1] using g1
    obtain ⟨L⟩ := args
    match L, hs with
    | [w0, w1, w2, w3, w4], _ => exact ⟨w0, w1, w2, w3, w4, rfl⟩
  have hw := fun d (hd : d ∈ tables_1) => atoms_spec (ws := Jvm.Cond.code x code maxLocals ret :: tables_1) hat d (List.mem_cons_of_mem _ hd)
  have hfit : Fit s := fun {y c} hc i hi => by
    obtain ⟨ha, rfl⟩ := Array.getElem?_eq_some_iff.mp hc
    have q := List.all_eq_true.mp ((Array.all_eq_true_iff_forall_mem.mp hF) _ (Array.getElem_mem ha)) i (List.mem_range.mpr hi)
    simpa [Array.getElem?_eq_getElem hi] using q
  obtain ⟨hsets, hown0⟩ := atoms_of _ (rest_1_c_eq ▸ (show rest_1_c.before _ s = true from hrest))
  have hr0 := Cond.before_iff.mp hown0
  obtain ⟨i0, ei0⟩ := is_v g3
  obtain rfl : w0 = (.int i0) := Option.some.inj ei0
  obtain ⟨i1, ei1⟩ := is_v g5
  obtain rfl : w1 = (.int i1) := Option.some.inj ei1
  obtain ⟨i2, ei2⟩ := is_v g7
  obtain rfl : w2 = (.int i2) := Option.some.inj ei2
  obtain ⟨i3, ei3⟩ := is_v g9
  obtain rfl : w3 = (.int i3) := Option.some.inj ei3
  obtain ⟨i4, ei4⟩ := is_v g10
  obtain rfl : w4 = (.int i4) := Option.some.inj ei4
  obtain ⟨cs, ecs⟩ := is_v (Cond.before_iff.mp (hsets _ (List.mem_of_getElem? (i := 1) rfl)))
  have S_CS : Sta s s.heap "java/lang/String" "COMPACT_STRINGS" "Z" (.int cs) := Sta.start ecs (Or.inl (hsets _ (List.mem_of_getElem? (i := 0) rfl)))
  have hcs : ¬ (cs = (0 : Int32)) := gotF (Cond.eq_ints ecs (Term.int_eval (0))) (not_v (Cond.before_iff.mp (hsets _ (List.mem_of_getElem? (i := 2) rfl))))
  obtain ⟨dce, edce⟩ := exa_v (Cond.before_iff.mp (hsets _ (List.mem_of_getElem? (i := 16) rfl)))
  have S_DC : Sta s s.heap "java/util/ArrayList" "DEFAULTCAPACITY_EMPTY_ELEMENTDATA" "[Ljava/lang/Object;" (.ref dce) := Sta.start edce (Or.inr ⟨(wq hw 43 rfl), (hsets _ (List.mem_of_getElem? (i := 11) rfl))⟩)
  obtain ⟨kd, V_dce⟩ := own_zero edce (Cond.before_iff.mp (hsets _ (List.mem_of_getElem? (i := 15) rfl))) (Cond.before_iff.mp (hsets _ (List.mem_of_getElem? (i := 17) rfl)))
  obtain ⟨el, eel⟩ := exa_v (Cond.before_iff.mp (hsets _ (List.mem_of_getElem? (i := 20) rfl)))
  have S_EL : Sta s s.heap "java/util/ImmutableCollections" "EMPTY_LIST" "Ljava/util/ImmutableCollections$ListN;" (.ref el) := Sta.start eel (Or.inl (hsets _ (List.mem_of_getElem? (i := 19) rfl)))
  have E_el := Exa.start eel (Cond.before_iff.mp (hsets _ (List.mem_of_getElem? (i := 20) rfl)))
  obtain ⟨ea, eea⟩ := arr_v (Cond.before_iff.mp (hsets _ (List.mem_of_getElem? (i := 21) rfl)))
  obtain ⟨ke, V_ea⟩ := own_zero eea (Cond.before_iff.mp (hsets _ (List.mem_of_getElem? (i := 21) rfl))) (Cond.before_iff.mp (hsets _ (List.mem_of_getElem? (i := 23) rfl)))
  have F_el : Fld s s.heap el "java/util/ImmutableCollections$ListN" "elements" "[Ljava/lang/Object;" (.ref ea) := Fld.start (by rw [← fld_at eel]; exact eea)
  obtain ⟨em, eem⟩ := exa_v (Cond.before_iff.mp (hsets _ (List.mem_of_getElem? (i := 27) rfl)))
  have S_EM : Sta s s.heap "java/util/ImmutableCollections" "EMPTY" "Ljava/lang/Object;" (.ref em) := Sta.start eem (Or.inl (hsets _ (List.mem_of_getElem? (i := 26) rfl)))
  obtain ⟨cM, kM, mr, hm1, hm2, hm3⟩ := hcalls.1
  have M_ : OwnMir s "[Ljava/lang/Object;" mr := ⟨cM, kM, hm1, hm2, by first | exact hm3 | exact hm3.1⟩
  obtain ⟨n, o, h1, h2, h3, _, L, rfl, ⟨rfl, N⟩, hq⟩ := rm0 l s _ hw tables_1 i0 i1 i2 i3 i4 cs dce kd el ea ke em mr s.heap s.heap.size (Nat.le_refl _) S_CS S_DC S_EL S_EM M_ V_dce E_el F_el V_ea hcs (Old.start s) p e ha hc hk s m _ below hf ((Spec.applies_iff_loose hf).mp happ).1 ⟨rfl, State.Warmed39.refl s, rfl⟩ trivial
  refine ⟨n, _, h1, h2, h3, hpost _ _ _ _ _ _ ⟨Cond.after_iff.mpr rfl, Cond.after_iff.mpr (eq_i res_at (Term.int_eval (1)) rfl), trivial⟩ ⟨hq.1, hq.2.1, (hq.2.2.sift fun y hy => Or.inr (N y hy)).mono (by decide) (by decide)⟩⟩
theorem main_1_1 : Claimed_1_1 := comes_1 fun _ _ _ _ _ _ h hF => ⟨h.1, hF⟩
theorem main_1_2 : Claimed_1_2 := comes_1 fun _ _ _ _ _ _ h hF => ⟨h.2.1, hF⟩
end Jvm.Pilot.@@N@@
namespace Jvm.Pilot.@@N@@
open Jvm Jvm.ClassFile Sem Op Lib Jvm.Free Jvm.Stand Jvm.Pilot.@@N@@.Jvm.D
/-! MADE BY PROGRAM (witnessworld.py) out of the Statement's table words and the real class files: 41 classes; the members and pool entries that the words name. The judged class is class 1, her method 1. -/
namespace start1
open Jvm.ClassFile
def u (s : String) : CpInfo := .utf8 (stringToUtf16 s)
/-- a pool by its gaps: so many unusable entries, then the entry; so many at the end -/
def gap : Nat → List CpInfo → List CpInfo
  | 0, r => r
  | n + 1, r => .unusable :: gap n r
def poolList (es : List (Nat × CpInfo)) (last : Nat) : List CpInfo := es.foldr (fun e r => gap e.1 (e.2 :: r)) (gap last [])
def pool (es : List (Nat × CpInfo)) (last : Nat) : Array CpInfo := ⟨poolList es last⟩
def fileOf (pool : Array CpInfo) (this : Nat) (attrs : Array Attribute := #[]) (ms : Array MethodInfo := #[]) (fl : Nat := 33) (sup : Nat := 0) (ifs : Array Nat := #[]) (fds : Array FieldInfo := #[]) : ClassFile where
  minorVersion := 0
  majorVersion := 65
  constantPool := pool
  accessFlags := fl
  thisClass := this
  superClass := sup
  interfaces := ifs
  fields := fds
  methods := ms
  attributes := attrs
def plain (name : String) (sup : Option ClassId) : Class where
  name := name
  kind := .ordinary
  loader := none
  accessFlags := 33
  super := sup
  interfaces := #[]
  cf := none
  fields := #[]
  methods := #[]
  instanceTypes := #[]
  staticTypes := #[]
  resolved := #[]
  callSites := []
  init := .initialized
  statics := none
  mirror := none

def pool0 : Array CpInfo := pool [(5, u "<init>"), (0, u "()V"), (1, .class_ 10), (1, u "java/lang/Object"), (0, u "getClass"), (0, u "()Ljava/lang/Class;")] 111

def k0c0 : Code := { maxStack := 0, maxLocals := 1, code := object_method_1_code, exceptionTable := #[], attributes := #[] }
def k0m0 : Method := { name := "<init>", desc := "()V", sig := { parameters := [], returnType := none }, accessFlags := 1, code := some k0c0 }
def k0m1 : Method := { name := "getClass", desc := "()Ljava/lang/Class;", sig := { parameters := [], returnType := some (.object "java/lang/Class") }, accessFlags := 273, code := none }
/-- java/lang/Object -/
def k0 : Class := { plain "java/lang/Object" none with
  accessFlags := 33
  interfaces := #[]
  cf := some (fileOf pool0 8 #[] #[{ accessFlags := 1, nameIndex := 5, descriptorIndex := 6, attributes := #[] }, { accessFlags := 273, nameIndex := 11, descriptorIndex := 12, attributes := #[] }] 33 0 #[] #[])
  fields := #[]
  methods := #[k0m0, k0m1]
  instanceTypes := #[]
  staticTypes := #[]
  resolved := Array.replicate 124 none
  statics := none }

def pool1 : Array CpInfo := pool [(2, .class_ 4), (0, .nameAndType 5 6), (0, u "java/lang/Object"), (0, u "<init>"), (0, u "()V"), (0, .integer 2147483647), (0, .class_ 9), (0, u "com/example/restate/restate/plan/Label"), (0, .methodref 11 12), (0, .class_ 13), (0, .nameAndType 14 15), (0, u "java/lang/String"), (0, u "valueOf"), (0, u "(C)Ljava/lang/String;"), (0, .methodref 8 17), (0, .nameAndType 5 18), (0, u "(Ljava/lang/String;)V"), (0, .class_ 20), (0, u "java/util/ArrayList"), (0, .methodref 19 3), (0, .class_ 23), (0, u "com/example/restate/restate/plan/Item"), (0, .methodref 22 25), (0, .nameAndType 5 26), (0, u "(Lcom/example/restate/restate/plan/Label;Lcom/example/restate/restate/plan/Label;IILjava/util/List;)V"), (0, .methodref 19 28), (0, .nameAndType 29 30), (0, u "add"), (0, u "(Ljava/lang/Object;)Z"), (0, .methodref 22 32), (0, .nameAndType 33 34), (0, u "deleted"), (0, u "()Z"), (0, .methodref 22 36), (0, .nameAndType 37 38), (0, u "deletedBefore"), (0, u "(I)I"), (0, .class_ 40), (0, u "com/example/restate/restate/plan/ItemDeletedPinLaw"), (2, u "law"), (0, u "(IIIII)Z")] 3

def k1m0 : Method := { name := "<init>", desc := "()V", sig := { parameters := [], returnType := none }, accessFlags := 1, code := none }
def k1c1 : Code := { maxStack := 7, maxLocals := 15, code := code, exceptionTable := #[], attributes := #[] }
def k1m1 : Method := { name := "law", desc := "(IIIII)Z", sig := { parameters := [.int, .int, .int, .int, .int], returnType := some .boolean }, accessFlags := 9, code := some k1c1 }
/-- com/example/restate/restate/plan/ItemDeletedPinLaw -/
def k1 : Class := { plain "com/example/restate/restate/plan/ItemDeletedPinLaw" (some 0) with
  accessFlags := 49
  interfaces := #[]
  cf := some (fileOf pool1 39 #[] #[{ accessFlags := 1, nameIndex := 5, descriptorIndex := 6, attributes := #[] }, { accessFlags := 9, nameIndex := 43, descriptorIndex := 44, attributes := #[] }] 49 2 #[] #[])
  fields := #[]
  methods := #[k1m0, k1m1]
  instanceTypes := #[]
  staticTypes := #[]
  resolved := Array.replicate 48 none
  statics := none }

def pool2 : Array CpInfo := pool [(1, .methodref 2 3), (0, .class_ 4), (0, .nameAndType 5 6), (0, u "java/lang/Object"), (0, u "<init>"), (0, u "()V"), (0, .class_ 8), (0, u "java/lang/Record")] 13

def k2c0 : Code := { maxStack := 1, maxLocals := 1, code := jdk_30_method_1_code, exceptionTable := #[], attributes := #[] }
def k2m0 : Method := { name := "<init>", desc := "()V", sig := { parameters := [], returnType := none }, accessFlags := 4, code := some k2c0 }
/-- java/lang/Record -/
def k2 : Class := { plain "java/lang/Record" (some 0) with
  accessFlags := 1057
  interfaces := #[]
  cf := some (fileOf pool2 7 #[] #[{ accessFlags := 4, nameIndex := 5, descriptorIndex := 6, attributes := #[] }] 1057 2 #[] #[])
  fields := #[]
  methods := #[k2m0]
  instanceTypes := #[]
  staticTypes := #[]
  resolved := Array.replicate 22 none
  statics := none }

def pool3 : Array CpInfo := pool [(1, .class_ 2), (0, u "com/example/restate/restate/plan/Label"), (0, .methodref 4 5), (0, .class_ 6), (0, .nameAndType 7 8), (0, u "java/lang/Record"), (0, u "<init>"), (0, u "()V"), (0, .fieldref 1 10), (0, .nameAndType 11 12), (0, u "text"), (0, u "Ljava/lang/String;"), (2, u "(Ljava/lang/String;)V"), (6, u "AT_START"), (0, u "Ljava/util/regex/Pattern;"), (46, .class_ 72), (1, u "com/example/restate/restate/plan/Label$Series"), (15, u "SERIES"), (0, u "Ljava/util/Map;"), (38, u "ROMAN_DIGITS"), (53, u "TEXT"), (3, u "BRACKETED")] 45

def k3c0 : Code := { maxStack := 2, maxLocals := 2, code := prog_25_method_1_code, exceptionTable := #[], attributes := #[] }
def k3m0 : Method := { name := "<init>", desc := "(Ljava/lang/String;)V", sig := { parameters := [(.object "java/lang/String")], returnType := none }, accessFlags := 0, code := some k3c0 }
/-- com/example/restate/restate/plan/Label -/
def k3 : Class := { plain "com/example/restate/restate/plan/Label" (some 2) with
  accessFlags := 48
  interfaces := #[]
  cf := some (fileOf pool3 1 #[.nestMembers #[70]] #[{ accessFlags := 0, nameIndex := 7, descriptorIndex := 15, attributes := #[] }] 48 4 #[] #[{ accessFlags := 18, nameIndex := 11, descriptorIndex := 12, attributes := #[] }, { accessFlags := 24, nameIndex := 182, descriptorIndex := 12, attributes := #[] }, { accessFlags := 24, nameIndex := 186, descriptorIndex := 12, attributes := #[] }, { accessFlags := 26, nameIndex := 22, descriptorIndex := 23, attributes := #[] }, { accessFlags := 26, nameIndex := 88, descriptorIndex := 89, attributes := #[] }, { accessFlags := 26, nameIndex := 128, descriptorIndex := 89, attributes := #[] }])
  fields := #[{ name := "text", type := (.object "java/lang/String"), accessFlags := 18, slot := 0, constantValue := 0 }, { name := "TEXT", type := (.object "java/lang/String"), accessFlags := 24, slot := 0, constantValue := 0 }, { name := "BRACKETED", type := (.object "java/lang/String"), accessFlags := 24, slot := 1, constantValue := 0 }, { name := "AT_START", type := (.object "java/util/regex/Pattern"), accessFlags := 26, slot := 2, constantValue := 0 }, { name := "SERIES", type := (.object "java/util/Map"), accessFlags := 26, slot := 3, constantValue := 0 }, { name := "ROMAN_DIGITS", type := (.object "java/util/Map"), accessFlags := 26, slot := 4, constantValue := 0 }]
  methods := #[k3m0]
  instanceTypes := #[(.object "java/lang/String")]
  staticTypes := #[(.object "java/lang/String"), (.object "java/lang/String"), (.object "java/util/regex/Pattern"), (.object "java/util/Map"), (.object "java/util/Map")]
  resolved := Array.replicate 232 none
  statics := none }

def pool4 : Array CpInfo := pool [(1, .class_ 2), (0, u "java/io/Serializable"), (0, .class_ 4), (0, u "java/lang/Object")] 2

/-- java/io/Serializable -/
def k4 : Class := { plain "java/io/Serializable" (some 0) with
  accessFlags := 1537
  interfaces := #[]
  cf := some (fileOf pool4 1 #[] #[] 1537 3 #[] #[])
  fields := #[]
  methods := #[]
  instanceTypes := #[]
  staticTypes := #[]
  resolved := Array.replicate 7 none
  statics := none }

def pool5 : Array CpInfo := pool [(1, .class_ 2), (0, u "java/lang/Comparable"), (0, .class_ 4), (0, u "java/lang/Object")] 7

/-- java/lang/Comparable -/
def k5 : Class := { plain "java/lang/Comparable" (some 0) with
  accessFlags := 1537
  interfaces := #[]
  cf := some (fileOf pool5 1 #[] #[] 1537 3 #[] #[])
  fields := #[]
  methods := #[]
  instanceTypes := #[]
  staticTypes := #[]
  resolved := Array.replicate 12 none
  statics := none }

def pool6 : Array CpInfo := pool [(2, .class_ 4), (1, u "java/lang/CharSequence"), (42, .class_ 48), (0, u "java/lang/CharSequence$1CodePointIterator"), (10, .class_ 60), (0, u "java/lang/CharSequence$1CharIterator"), (5, .class_ 67), (0, u "java/lang/Object")] 63

/-- java/lang/CharSequence -/
def k6 : Class := { plain "java/lang/CharSequence" (some 0) with
  accessFlags := 1537
  interfaces := #[]
  cf := some (fileOf pool6 2 #[.nestMembers #[47, 59]] #[] 1537 66 #[] #[])
  fields := #[]
  methods := #[]
  instanceTypes := #[]
  staticTypes := #[]
  resolved := Array.replicate 131 none
  statics := none }

def pool7 : Array CpInfo := pool [(1, .class_ 2), (0, u "java/lang/constant/Constable"), (0, .class_ 4), (0, u "java/lang/Object")] 6

/-- java/lang/constant/Constable -/
def k7 : Class := { plain "java/lang/constant/Constable" (some 0) with
  accessFlags := 1537
  interfaces := #[]
  cf := some (fileOf pool7 1 #[] #[] 1537 3 #[] #[])
  fields := #[]
  methods := #[]
  instanceTypes := #[]
  staticTypes := #[]
  resolved := Array.replicate 11 none
  statics := none }

def pool8 : Array CpInfo := pool [(1, .class_ 2), (0, u "java/lang/constant/ConstantDesc"), (0, .class_ 4), (0, u "java/lang/Object")] 32

/-- java/lang/constant/ConstantDesc -/
def k8 : Class := { plain "java/lang/constant/ConstantDesc" (some 0) with
  accessFlags := 1537
  interfaces := #[]
  cf := some (fileOf pool8 1 #[] #[] 1537 3 #[] #[])
  fields := #[]
  methods := #[]
  instanceTypes := #[]
  staticTypes := #[]
  resolved := Array.replicate 37 none
  statics := none }

def pool9 : Array CpInfo := pool [(1, .methodref 2 3), (0, .class_ 4), (0, .nameAndType 5 6), (0, u "java/lang/Object"), (0, u "<init>"), (0, u "()V"), (2, .fieldref 10 11), (0, .class_ 12), (0, .nameAndType 13 14), (0, u "java/lang/String"), (0, u "value"), (0, u "[B"), (0, .fieldref 10 16), (0, .nameAndType 17 18), (0, u "coder"), (0, u "B"), (2, u "hash"), (0, u "I"), (2, u "hashIsZero"), (0, u "Z"), (11, .fieldref 10 39), (0, .nameAndType 40 26), (0, u "COMPACT_STRINGS"), (12, u "toBytes"), (53, .class_ 109), (1, u "java/lang/StringLatin1"), (99, .methodref 10 210), (0, .nameAndType 5 211), (0, u "([BB)V"), (157, u "(C)Z"), (205, .class_ 576), (0, u "java/lang/CharSequence"), (22, u "CASE_INSENSITIVE_ORDER"), (0, u "Ljava/util/Comparator;"), (181, u "valueOf"), (0, u "(C)Ljava/lang/String;"), (231, .methodref 107 1016), (0, .nameAndType 1017 369), (0, u "canEncode"), (0, .methodref 107 1019), (0, .nameAndType 53 1020), (0, u "(C)[B"), (80, u "serialPersistentFields"), (0, u "[Ljava/io/ObjectStreamField;"), (0, .class_ 1104), (0, u "java/lang/String$CaseInsensitiveComparator"), (1, .class_ 1107), (0, u "java/io/Serializable"), (0, .class_ 1109), (0, u "java/lang/Comparable"), (0, .class_ 1111), (0, u "java/lang/constant/Constable"), (0, .class_ 1113), (0, u "java/lang/constant/ConstantDesc"), (2, u "serialVersionUID"), (0, u "J"), (3, u "REPL"), (0, u "C"), (2, u "LATIN1"), (1, u "UTF16")] 323

def k9m0 : Method := { name := "<init>", desc := "()V", sig := { parameters := [], returnType := none }, accessFlags := 1, code := none }
def k9c1 : Code := { maxStack := 4, maxLocals := 1, code := jdk_42_method_139_code, exceptionTable := #[], attributes := #[] }
def k9m1 : Method := { name := "valueOf", desc := "(C)Ljava/lang/String;", sig := { parameters := [.char], returnType := some (.object "java/lang/String") }, accessFlags := 9, code := some k9c1 }
def k9c2 : Code := { maxStack := 2, maxLocals := 3, code := jdk_42_method_151_code, exceptionTable := #[], attributes := #[] }
def k9m2 : Method := { name := "<init>", desc := "([BB)V", sig := { parameters := [(.array .byte), .byte], returnType := none }, accessFlags := 0, code := some k9c2 }
/-- java/lang/String -/
def k9 : Class := { plain "java/lang/String" (some 0) with
  accessFlags := 49
  interfaces := #[4, 5, 6, 7, 8]
  cf := some (fileOf pool9 10 #[.nestMembers #[1103]] #[{ accessFlags := 1, nameIndex := 5, descriptorIndex := 6, attributes := #[] }, { accessFlags := 9, nameIndex := 782, descriptorIndex := 783, attributes := #[] }, { accessFlags := 0, nameIndex := 5, descriptorIndex := 211, attributes := #[] }] 49 2 #[1106, 1108, 575, 1110, 1112] #[{ accessFlags := 18, nameIndex := 13, descriptorIndex := 14, attributes := #[] }, { accessFlags := 18, nameIndex := 17, descriptorIndex := 18, attributes := #[] }, { accessFlags := 2, nameIndex := 21, descriptorIndex := 22, attributes := #[] }, { accessFlags := 2, nameIndex := 25, descriptorIndex := 26, attributes := #[] }, { accessFlags := 26, nameIndex := 1116, descriptorIndex := 1117, attributes := #[] }, { accessFlags := 24, nameIndex := 40, descriptorIndex := 26, attributes := #[] }, { accessFlags := 26, nameIndex := 1101, descriptorIndex := 1102, attributes := #[] }, { accessFlags := 26, nameIndex := 1121, descriptorIndex := 1122, attributes := #[] }, { accessFlags := 25, nameIndex := 599, descriptorIndex := 600, attributes := #[] }, { accessFlags := 24, nameIndex := 1125, descriptorIndex := 18, attributes := #[] }, { accessFlags := 24, nameIndex := 1127, descriptorIndex := 18, attributes := #[] }])
  fields := #[{ name := "value", type := (.array .byte), accessFlags := 18, slot := 0, constantValue := 0 }, { name := "coder", type := .byte, accessFlags := 18, slot := 1, constantValue := 0 }, { name := "hash", type := .int, accessFlags := 2, slot := 2, constantValue := 0 }, { name := "hashIsZero", type := .boolean, accessFlags := 2, slot := 3, constantValue := 0 }, { name := "serialVersionUID", type := .long, accessFlags := 26, slot := 0, constantValue := 0 }, { name := "COMPACT_STRINGS", type := .boolean, accessFlags := 24, slot := 1, constantValue := 0 }, { name := "serialPersistentFields", type := (.array (.object "java/io/ObjectStreamField")), accessFlags := 26, slot := 2, constantValue := 0 }, { name := "REPL", type := .char, accessFlags := 26, slot := 3, constantValue := 0 }, { name := "CASE_INSENSITIVE_ORDER", type := (.object "java/util/Comparator"), accessFlags := 25, slot := 4, constantValue := 0 }, { name := "LATIN1", type := .byte, accessFlags := 24, slot := 5, constantValue := 0 }, { name := "UTF16", type := .byte, accessFlags := 24, slot := 6, constantValue := 0 }]
  methods := #[k9m0, k9m1, k9m2]
  instanceTypes := #[(.array .byte), .byte, .int, .boolean]
  staticTypes := #[.long, .boolean, (.array (.object "java/io/ObjectStreamField")), .char, (.object "java/util/Comparator"), .byte, .byte]
  resolved := Array.replicate 1451 none
  statics := some 0 }

def pool10 : Array CpInfo := pool [(4, .class_ 6), (1, u "java/lang/Object"), (0, u "<init>"), (0, u "()V"), (5, .class_ 16), (1, u "java/lang/StringLatin1"), (73, u "canEncode"), (14, u "(C)Z"), (15, u "$assertionsDisabled"), (0, u "Z"), (98, .class_ 223), (1, u "java/lang/StringLatin1$LinesSpliterator"), (156, u "toBytes"), (1, u "(C)[B"), (7, .class_ 391), (0, u "java/lang/StringLatin1$CharsSpliterator")] 3

def k10m0 : Method := { name := "<init>", desc := "()V", sig := { parameters := [], returnType := none }, accessFlags := 0, code := none }
def k10c1 : Code := { maxStack := 2, maxLocals := 1, code := jdk_43_method_3_code, exceptionTable := #[], attributes := #[] }
def k10m1 : Method := { name := "canEncode", desc := "(C)Z", sig := { parameters := [.char], returnType := some .boolean }, accessFlags := 9, code := some k10c1 }
def k10c2 : Code := { maxStack := 4, maxLocals := 1, code := jdk_43_method_46_code, exceptionTable := #[], attributes := #[] }
def k10m2 : Method := { name := "toBytes", desc := "(C)[B", sig := { parameters := [.char], returnType := some (.array .byte) }, accessFlags := 9, code := some k10c2 }
/-- java/lang/StringLatin1 -/
def k10 : Class := { plain "java/lang/StringLatin1" (some 0) with
  accessFlags := 48
  interfaces := #[]
  cf := some (fileOf pool10 14 #[.nestMembers #[390, 221]] #[{ accessFlags := 0, nameIndex := 7, descriptorIndex := 8, attributes := #[] }, { accessFlags := 9, nameIndex := 90, descriptorIndex := 105, attributes := #[] }, { accessFlags := 9, nameIndex := 380, descriptorIndex := 382, attributes := #[] }] 48 4 #[] #[{ accessFlags := 4120, nameIndex := 121, descriptorIndex := 122, attributes := #[] }])
  fields := #[{ name := "$assertionsDisabled", type := .boolean, accessFlags := 4120, slot := 0, constantValue := 0 }]
  methods := #[k10m0, k10m1, k10m2]
  instanceTypes := #[]
  staticTypes := #[.boolean]
  resolved := Array.replicate 395 none
  statics := none }

def pool11 : Array CpInfo := pool [(8, .class_ 10), (1, u "java/lang/Iterable"), (24, .class_ 36), (0, u "java/lang/Object")] 25

/-- java/lang/Iterable -/
def k11 : Class := { plain "java/lang/Iterable" (some 0) with
  accessFlags := 1537
  interfaces := #[]
  cf := some (fileOf pool11 8 #[] #[] 1537 35 #[] #[])
  fields := #[]
  methods := #[]
  instanceTypes := #[]
  staticTypes := #[]
  resolved := Array.replicate 62 none
  statics := none }

def pool12 : Array CpInfo := pool [(10, .class_ 12), (1, u "java/util/Collection"), (0, u "toArray"), (16, u "()Z"), (29, .class_ 61), (0, u "java/lang/Object"), (0, .class_ 63), (0, u "java/lang/Iterable"), (2, u "isEmpty"), (3, u "()[Ljava/lang/Object;")] 44

def k12m0 : Method := { name := "isEmpty", desc := "()Z", sig := { parameters := [], returnType := some .boolean }, accessFlags := 1025, code := none }
def k12m1 : Method := { name := "toArray", desc := "()[Ljava/lang/Object;", sig := { parameters := [], returnType := some (.array (.object "java/lang/Object")) }, accessFlags := 1025, code := none }
/-- java/util/Collection -/
def k12 : Class := { plain "java/util/Collection" (some 0) with
  accessFlags := 1537
  interfaces := #[11]
  cf := some (fileOf pool12 10 #[] #[{ accessFlags := 1025, nameIndex := 66, descriptorIndex := 30, attributes := #[] }, { accessFlags := 1025, nameIndex := 13, descriptorIndex := 70, attributes := #[] }] 1537 60 #[62] #[])
  fields := #[]
  methods := #[k12m0, k12m1]
  instanceTypes := #[]
  staticTypes := #[]
  resolved := Array.replicate 115 none
  statics := none }

def pool13 : Array CpInfo := pool [(1, .methodref 2 3), (0, .class_ 4), (0, .nameAndType 5 6), (0, u "java/lang/Object"), (0, u "<init>"), (0, u "()V"), (1, .class_ 10), (1, u "java/util/AbstractCollection"), (0, u "size"), (0, u "()I"), (64, .class_ 78), (0, u "java/util/Collection")] 81

def k13c0 : Code := { maxStack := 1, maxLocals := 1, code := jdk_22_method_1_code, exceptionTable := #[], attributes := #[] }
def k13m0 : Method := { name := "<init>", desc := "()V", sig := { parameters := [], returnType := none }, accessFlags := 4, code := some k13c0 }
def k13m1 : Method := { name := "size", desc := "()I", sig := { parameters := [], returnType := some .int }, accessFlags := 1025, code := none }
/-- java/util/AbstractCollection -/
def k13 : Class := { plain "java/util/AbstractCollection" (some 0) with
  accessFlags := 1057
  interfaces := #[12]
  cf := some (fileOf pool13 8 #[] #[{ accessFlags := 4, nameIndex := 5, descriptorIndex := 6, attributes := #[] }, { accessFlags := 1025, nameIndex := 11, descriptorIndex := 12, attributes := #[] }] 1057 2 #[77] #[])
  fields := #[]
  methods := #[k13m0, k13m1]
  instanceTypes := #[]
  staticTypes := #[]
  resolved := Array.replicate 160 none
  statics := none }

def pool14 : Array CpInfo := pool [(8, .class_ 10), (1, u "java/util/SequencedCollection"), (15, .class_ 27), (0, u "java/lang/Object"), (0, .class_ 29), (0, u "java/util/Collection")] 27

/-- java/util/SequencedCollection -/
def k14 : Class := { plain "java/util/SequencedCollection" (some 0) with
  accessFlags := 1537
  interfaces := #[12]
  cf := some (fileOf pool14 8 #[] #[] 1537 26 #[28] #[])
  fields := #[]
  methods := #[]
  instanceTypes := #[]
  staticTypes := #[]
  resolved := Array.replicate 57 none
  statics := none }

def pool15 : Array CpInfo := pool [(8, .class_ 10), (1, u "java/util/List"), (20, u "(Ljava/lang/Object;)V"), (16, u "<init>"), (26, u "get"), (0, u "(I)Ljava/lang/Object;"), (11, u "of"), (1, .fieldref 91 92), (0, .class_ 93), (0, .nameAndType 94 95), (0, u "java/util/ImmutableCollections"), (0, u "EMPTY_LIST"), (0, u "Ljava/util/ImmutableCollections$ListN;"), (0, .class_ 97), (0, u "java/util/ImmutableCollections$List12"), (0, .methodref 96 99), (0, .nameAndType 48 31), (3, .class_ 104), (0, u "java/lang/Object"), (3, u "([Ljava/lang/Object;)Ljava/util/List;"), (3, .methodref 91 113), (0, .nameAndType 114 115), (0, u "listCopy"), (0, u "(Ljava/util/Collection;)Ljava/util/List;"), (3, u "()Ljava/util/List;"), (0, .class_ 121), (0, u "java/util/SequencedCollection"), (1, u "iterator"), (0, u "()Ljava/util/Iterator;"), (109, u "copyOf")] 16

def k15m0 : Method := { name := "iterator", desc := "()Ljava/util/Iterator;", sig := { parameters := [], returnType := some (.object "java/util/Iterator") }, accessFlags := 1025, code := none }
def k15m1 : Method := { name := "get", desc := "(I)Ljava/lang/Object;", sig := { parameters := [.int], returnType := some (.object "java/lang/Object") }, accessFlags := 1025, code := none }
def k15c2 : Code := { maxStack := 1, maxLocals := 0, code := jdk_40_method_36_code, exceptionTable := #[], attributes := #[] }
def k15m2 : Method := { name := "of", desc := "()Ljava/util/List;", sig := { parameters := [], returnType := some (.object "java/util/List") }, accessFlags := 9, code := some k15c2 }
def k15c3 : Code := { maxStack := 5, maxLocals := 2, code := jdk_40_method_47_code, exceptionTable := #[], attributes := #[] }
def k15m3 : Method := { name := "of", desc := "([Ljava/lang/Object;)Ljava/util/List;", sig := { parameters := [(.array (.object "java/lang/Object"))], returnType := some (.object "java/util/List") }, accessFlags := 137, code := some k15c3 }
def k15c4 : Code := { maxStack := 1, maxLocals := 1, code := jdk_40_method_48_code, exceptionTable := #[], attributes := #[] }
def k15m4 : Method := { name := "copyOf", desc := "(Ljava/util/Collection;)Ljava/util/List;", sig := { parameters := [(.object "java/util/Collection")], returnType := some (.object "java/util/List") }, accessFlags := 9, code := some k15c4 }
/-- java/util/List -/
def k15 : Class := { plain "java/util/List" (some 0) with
  accessFlags := 1537
  interfaces := #[14]
  cf := some (fileOf pool15 8 #[] #[{ accessFlags := 1025, nameIndex := 123, descriptorIndex := 124, attributes := #[] }, { accessFlags := 1025, nameIndex := 75, descriptorIndex := 76, attributes := #[] }, { accessFlags := 9, nameIndex := 88, descriptorIndex := 119, attributes := #[] }, { accessFlags := 137, nameIndex := 88, descriptorIndex := 108, attributes := #[] }, { accessFlags := 9, nameIndex := 234, descriptorIndex := 115, attributes := #[] }] 1537 103 #[120] #[])
  fields := #[]
  methods := #[k15m0, k15m1, k15m2, k15m3, k15m4]
  instanceTypes := #[]
  staticTypes := #[]
  resolved := Array.replicate 251 none
  statics := none }

def pool16 : Array CpInfo := pool [(1, .methodref 2 3), (0, .class_ 4), (0, .nameAndType 5 6), (0, u "java/util/AbstractCollection"), (0, u "<init>"), (0, u "()V"), (0, .fieldref 8 9), (0, .class_ 10), (0, .nameAndType 11 12), (0, u "java/util/AbstractList"), (0, u "modCount"), (0, u "I"), (64, .class_ 78), (0, u "java/util/AbstractList$Itr"), (3, .class_ 83), (0, u "java/util/AbstractList$ListItr"), (9, .class_ 94), (0, u "java/util/AbstractList$RandomAccessSubList"), (3, .class_ 99), (0, u "java/util/AbstractList$SubList"), (33, .class_ 134), (0, u "java/util/List"), (73, .class_ 209), (0, u "java/util/AbstractList$SubList$1"), (0, .class_ 211), (0, u "java/util/AbstractList$RandomAccessSpliterator")] 6

def k16c0 : Code := { maxStack := 2, maxLocals := 1, code := jdk_39_method_1_code, exceptionTable := #[], attributes := #[] }
def k16m0 : Method := { name := "<init>", desc := "()V", sig := { parameters := [], returnType := none }, accessFlags := 4, code := some k16c0 }
/-- java/util/AbstractList -/
def k16 : Class := { plain "java/util/AbstractList" (some 13) with
  accessFlags := 1057
  interfaces := #[15]
  cf := some (fileOf pool16 8 #[.nestMembers #[93, 98, 208, 210, 82, 77]] #[{ accessFlags := 4, nameIndex := 5, descriptorIndex := 6, attributes := #[] }] 1057 2 #[133] #[{ accessFlags := 132, nameIndex := 11, descriptorIndex := 12, attributes := #[] }])
  fields := #[{ name := "modCount", type := .int, accessFlags := 132, slot := 0, constantValue := 0 }]
  methods := #[k16m0]
  instanceTypes := #[.int]
  staticTypes := #[]
  resolved := Array.replicate 218 none
  statics := none }

def pool17 : Array CpInfo := pool [(1, .class_ 2), (0, u "java/util/RandomAccess"), (0, .class_ 4), (0, u "java/lang/Object")] 2

/-- java/util/RandomAccess -/
def k17 : Class := { plain "java/util/RandomAccess" (some 0) with
  accessFlags := 1537
  interfaces := #[]
  cf := some (fileOf pool17 1 #[] #[] 1537 3 #[] #[])
  fields := #[]
  methods := #[]
  instanceTypes := #[]
  staticTypes := #[]
  resolved := Array.replicate 7 none
  statics := none }

def pool18 : Array CpInfo := pool [(1, .class_ 2), (0, u "java/lang/Cloneable"), (0, .class_ 4), (0, u "java/lang/Object")] 2

/-- java/lang/Cloneable -/
def k18 : Class := { plain "java/lang/Cloneable" (some 0) with
  accessFlags := 1537
  interfaces := #[]
  cf := some (fileOf pool18 1 #[] #[] 1537 3 #[] #[])
  fields := #[]
  methods := #[]
  instanceTypes := #[]
  staticTypes := #[]
  resolved := Array.replicate 7 none
  statics := none }

def pool19 : Array CpInfo := pool [(1, .methodref 2 3), (0, .class_ 4), (0, .nameAndType 5 6), (0, u "java/util/AbstractList"), (0, u "<init>"), (0, u "()V"), (0, .class_ 8), (0, u "java/lang/Object"), (0, .fieldref 10 11), (0, .class_ 12), (0, .nameAndType 13 14), (0, u "java/util/ArrayList"), (0, u "elementData"), (0, u "[Ljava/lang/Object;"), (2, u "EMPTY_ELEMENTDATA"), (21, .fieldref 10 40), (0, .nameAndType 41 14), (0, u "DEFAULTCAPACITY_EMPTY_ELEMENTDATA"), (4, u "toArray"), (0, u "()[Ljava/lang/Object;"), (0, .fieldref 10 49), (0, .nameAndType 50 51), (0, u "size"), (0, u "I"), (6, .class_ 60), (1, u "java/util/Arrays"), (0, u "copyOf"), (1, .fieldref 10 64), (0, .nameAndType 65 51), (0, u "modCount"), (0, .methodref 58 67), (0, .nameAndType 61 68), (0, u "([Ljava/lang/Object;I)[Ljava/lang/Object;"), (0, .methodref 10 70), (0, .nameAndType 71 72), (0, u "grow"), (0, u "(I)[Ljava/lang/Object;"), (6, .methodref 80 81), (0, .class_ 82), (0, .nameAndType 83 84), (0, u "java/lang/Math"), (0, u "max"), (0, u "(II)I"), (11, u "(Ljava/lang/Object;)Z"), (32, .methodref 10 130), (0, .nameAndType 71 47), (0, .methodref 10 132), (0, .nameAndType 133 134), (0, u "add"), (0, u "(Ljava/lang/Object;[Ljava/lang/Object;I)V"), (13, .class_ 149), (0, u "java/util/List"), (23, u "()Z"), (88, .class_ 263), (0, u "java/util/ArrayList$ListItr"), (3, .class_ 268), (0, u "java/util/ArrayList$Itr"), (7, .class_ 277), (0, u "java/util/ArrayList$SubList"), (12, .class_ 291), (0, u "java/util/ArrayList$ArrayListSpliterator"), (37, .class_ 330), (0, u "java/util/RandomAccess"), (0, .class_ 332), (0, u "java/lang/Cloneable"), (0, .class_ 334), (0, u "java/io/Serializable"), (0, u "serialVersionUID"), (0, u "J"), (3, u "DEFAULT_CAPACITY"), (22, u "isEmpty"), (136, .class_ 501), (0, u "java/util/ArrayList$SubList$2"), (0, .class_ 503), (0, u "java/util/ArrayList$SubList$1")] 5

def k19c0 : Code := { maxStack := 2, maxLocals := 1, code := jdk_38_method_2_code, exceptionTable := #[], attributes := #[] }
def k19m0 : Method := { name := "<init>", desc := "()V", sig := { parameters := [], returnType := none }, accessFlags := 1, code := some k19c0 }
def k19c1 : Code := { maxStack := 4, maxLocals := 4, code := jdk_38_method_6_code, exceptionTable := #[], attributes := #[] }
def k19m1 : Method := { name := "grow", desc := "(I)[Ljava/lang/Object;", sig := { parameters := [.int], returnType := some (.array (.object "java/lang/Object")) }, accessFlags := 2, code := some k19c1 }
def k19c2 : Code := { maxStack := 3, maxLocals := 1, code := jdk_38_method_7_code, exceptionTable := #[], attributes := #[] }
def k19m2 : Method := { name := "grow", desc := "()[Ljava/lang/Object;", sig := { parameters := [], returnType := some (.array (.object "java/lang/Object")) }, accessFlags := 2, code := some k19c2 }
def k19c3 : Code := { maxStack := 1, maxLocals := 1, code := jdk_38_method_9_code, exceptionTable := #[], attributes := #[] }
def k19m3 : Method := { name := "isEmpty", desc := "()Z", sig := { parameters := [], returnType := some .boolean }, accessFlags := 1, code := some k19c3 }
def k19c4 : Code := { maxStack := 2, maxLocals := 1, code := jdk_38_method_16_code, exceptionTable := #[], attributes := #[] }
def k19m4 : Method := { name := "toArray", desc := "()[Ljava/lang/Object;", sig := { parameters := [], returnType := some (.array (.object "java/lang/Object")) }, accessFlags := 1, code := some k19c4 }
def k19c5 : Code := { maxStack := 3, maxLocals := 4, code := jdk_38_method_24_code, exceptionTable := #[], attributes := #[] }
def k19m5 : Method := { name := "add", desc := "(Ljava/lang/Object;[Ljava/lang/Object;I)V", sig := { parameters := [(.object "java/lang/Object"), (.array (.object "java/lang/Object")), .int], returnType := none }, accessFlags := 2, code := some k19c5 }
def k19c6 : Code := { maxStack := 4, maxLocals := 2, code := jdk_38_method_25_code, exceptionTable := #[], attributes := #[] }
def k19m6 : Method := { name := "add", desc := "(Ljava/lang/Object;)Z", sig := { parameters := [(.object "java/lang/Object")], returnType := some .boolean }, accessFlags := 1, code := some k19c6 }
/-- java/util/ArrayList -/
def k19 : Class := { plain "java/util/ArrayList" (some 16) with
  accessFlags := 33
  interfaces := #[15, 17, 18, 4]
  cf := some (fileOf pool19 10 #[.nestMembers #[290, 276, 500, 502, 262, 267]] #[{ accessFlags := 1, nameIndex := 5, descriptorIndex := 6, attributes := #[] }, { accessFlags := 2, nameIndex := 71, descriptorIndex := 72, attributes := #[] }, { accessFlags := 2, nameIndex := 71, descriptorIndex := 47, attributes := #[] }, { accessFlags := 1, nameIndex := 363, descriptorIndex := 173, attributes := #[] }, { accessFlags := 1, nameIndex := 46, descriptorIndex := 47, attributes := #[] }, { accessFlags := 2, nameIndex := 133, descriptorIndex := 134, attributes := #[] }, { accessFlags := 1, nameIndex := 133, descriptorIndex := 96, attributes := #[] }] 33 2 #[148, 329, 331, 333] #[{ accessFlags := 26, nameIndex := 335, descriptorIndex := 336, attributes := #[] }, { accessFlags := 26, nameIndex := 340, descriptorIndex := 51, attributes := #[] }, { accessFlags := 26, nameIndex := 17, descriptorIndex := 14, attributes := #[] }, { accessFlags := 26, nameIndex := 41, descriptorIndex := 14, attributes := #[] }, { accessFlags := 128, nameIndex := 13, descriptorIndex := 14, attributes := #[] }, { accessFlags := 2, nameIndex := 50, descriptorIndex := 51, attributes := #[] }])
  fields := #[{ name := "serialVersionUID", type := .long, accessFlags := 26, slot := 0, constantValue := 0 }, { name := "DEFAULT_CAPACITY", type := .int, accessFlags := 26, slot := 1, constantValue := 0 }, { name := "EMPTY_ELEMENTDATA", type := (.array (.object "java/lang/Object")), accessFlags := 26, slot := 2, constantValue := 0 }, { name := "DEFAULTCAPACITY_EMPTY_ELEMENTDATA", type := (.array (.object "java/lang/Object")), accessFlags := 26, slot := 3, constantValue := 0 }, { name := "elementData", type := (.array (.object "java/lang/Object")), accessFlags := 128, slot := 1, constantValue := 0 }, { name := "size", type := .int, accessFlags := 2, slot := 2, constantValue := 0 }]
  methods := #[k19m0, k19m1, k19m2, k19m3, k19m4, k19m5, k19m6]
  instanceTypes := #[.int, (.array (.object "java/lang/Object")), .int]
  staticTypes := #[.long, .int, (.array (.object "java/lang/Object")), (.array (.object "java/lang/Object"))]
  resolved := Array.replicate 509 none
  statics := some 1 }

def pool20 : Array CpInfo := pool [(1, .methodref 2 3), (0, .class_ 4), (0, .nameAndType 5 6), (0, u "java/lang/Record"), (0, u "<init>"), (0, u "()V"), (0, .interfaceMethodref 8 9), (0, .class_ 10), (0, .nameAndType 11 12), (0, u "java/util/List"), (0, u "copyOf"), (0, u "(Ljava/util/Collection;)Ljava/util/List;"), (0, .fieldref 14 15), (0, .class_ 16), (0, .nameAndType 17 18), (0, u "com/example/restate/restate/plan/Item"), (0, u "label"), (0, u "Lcom/example/restate/restate/plan/Label;"), (0, .fieldref 14 20), (0, .nameAndType 21 18), (0, u "printed"), (0, .fieldref 14 23), (0, .nameAndType 24 25), (0, u "start"), (0, u "I"), (0, .fieldref 14 27), (0, .nameAndType 28 25), (0, u "end"), (0, .fieldref 14 30), (0, .nameAndType 31 32), (0, u "children"), (0, u "Ljava/util/List;"), (19, .interfaceMethodref 8 53), (0, .nameAndType 54 55), (0, u "iterator"), (0, u "()Ljava/util/Iterator;"), (0, .interfaceMethodref 57 58), (0, .class_ 59), (0, .nameAndType 60 61), (0, u "java/util/Iterator"), (0, u "hasNext"), (0, u "()Z"), (0, .interfaceMethodref 57 63), (0, .nameAndType 64 65), (0, u "next"), (0, u "()Ljava/lang/Object;"), (33, u "(Lcom/example/restate/restate/plan/Label;Lcom/example/restate/restate/plan/Label;IILjava/util/List;)V"), (27, .methodref 14 128), (0, .nameAndType 129 61), (0, u "deleted"), (0, .methodref 14 131), (0, .nameAndType 132 133), (0, u "deletedBefore"), (0, u "(I)I"), (1, .class_ 136), (0, u "com/example/restate/restate/plan/Item$Open"), (27, .class_ 165), (0, u "com/example/restate/restate/plan/Item$Placed"), (31, .class_ 198), (0, u "com/example/restate/restate/plan/Item$Choice")] 203

def k20c0 : Code := { maxStack := 2, maxLocals := 6, code := prog_20_method_1_code, exceptionTable := #[], attributes := #[] }
def k20m0 : Method := { name := "<init>", desc := "(Lcom/example/restate/restate/plan/Label;Lcom/example/restate/restate/plan/Label;IILjava/util/List;)V", sig := { parameters := [(.object "com/example/restate/restate/plan/Label"), (.object "com/example/restate/restate/plan/Label"), .int, .int, (.object "java/util/List")], returnType := none }, accessFlags := 0, code := some k20c0 }
def k20c1 : Code := { maxStack := 1, maxLocals := 1, code := prog_20_method_2_code, exceptionTable := #[], attributes := #[] }
def k20m1 : Method := { name := "deleted", desc := "()Z", sig := { parameters := [], returnType := some .boolean }, accessFlags := 0, code := some k20c1 }
def k20c2 : Code := { maxStack := 4, maxLocals := 5, code := prog_20_method_5_code, exceptionTable := #[], attributes := #[] }
def k20m2 : Method := { name := "deletedBefore", desc := "(I)I", sig := { parameters := [.int], returnType := some .int }, accessFlags := 0, code := some k20c2 }
/-- com/example/restate/restate/plan/Item -/
def k20 : Class := { plain "com/example/restate/restate/plan/Item" (some 2) with
  accessFlags := 48
  interfaces := #[]
  cf := some (fileOf pool20 14 #[.nestMembers #[135, 164, 197]] #[{ accessFlags := 0, nameIndex := 5, descriptorIndex := 99, attributes := #[] }, { accessFlags := 0, nameIndex := 129, descriptorIndex := 61, attributes := #[] }, { accessFlags := 0, nameIndex := 132, descriptorIndex := 133, attributes := #[] }] 48 2 #[] #[{ accessFlags := 18, nameIndex := 17, descriptorIndex := 18, attributes := #[] }, { accessFlags := 18, nameIndex := 21, descriptorIndex := 18, attributes := #[] }, { accessFlags := 18, nameIndex := 24, descriptorIndex := 25, attributes := #[] }, { accessFlags := 18, nameIndex := 28, descriptorIndex := 25, attributes := #[] }, { accessFlags := 18, nameIndex := 31, descriptorIndex := 32, attributes := #[] }])
  fields := #[{ name := "label", type := (.object "com/example/restate/restate/plan/Label"), accessFlags := 18, slot := 0, constantValue := 0 }, { name := "printed", type := (.object "com/example/restate/restate/plan/Label"), accessFlags := 18, slot := 1, constantValue := 0 }, { name := "start", type := .int, accessFlags := 18, slot := 2, constantValue := 0 }, { name := "end", type := .int, accessFlags := 18, slot := 3, constantValue := 0 }, { name := "children", type := (.object "java/util/List"), accessFlags := 18, slot := 4, constantValue := 0 }]
  methods := #[k20m0, k20m1, k20m2]
  instanceTypes := #[(.object "com/example/restate/restate/plan/Label"), (.object "com/example/restate/restate/plan/Label"), .int, .int, (.object "java/util/List")]
  staticTypes := #[]
  resolved := Array.replicate 402 none
  statics := none }

def pool21 : Array CpInfo := pool [(2, .class_ 4), (1, u "java/lang/Object"), (0, u "<init>"), (0, u "()V"), (3, .class_ 11), (0, u "java/util/ImmutableCollections$List12"), (0, .class_ 13), (0, u "java/util/ImmutableCollections$ListN"), (3, u "Z"), (0, .class_ 19), (0, u "java/util/List"), (0, .interfaceMethodref 21 22), (0, .class_ 23), (0, .nameAndType 24 25), (0, u "java/util/Collection"), (0, u "isEmpty"), (0, u "()Z"), (0, .interfaceMethodref 18 27), (0, .nameAndType 28 29), (0, u "of"), (0, u "()Ljava/util/List;"), (0, .interfaceMethodref 21 31), (0, .nameAndType 32 33), (0, u "toArray"), (0, u "()[Ljava/lang/Object;"), (0, .interfaceMethodref 18 35), (0, .nameAndType 28 36), (0, u "([Ljava/lang/Object;)Ljava/util/List;"), (10, .class_ 49), (1, u "java/util/ImmutableCollections"), (0, u "$assertionsDisabled"), (5, u "[Ljava/lang/Object;"), (5, u "EMPTY_LIST"), (0, u "Ljava/util/ImmutableCollections$ListN;"), (8, u "EMPTY_LIST_NULLS"), (22, u "SALT32L"), (0, u "J"), (2, u "REVERSE"), (6, u "archivedObjects"), (2, u "EMPTY"), (0, u "Ljava/lang/Object;"), (0, .class_ 112), (0, u "java/util/ImmutableCollections$SetN"), (5, u "EMPTY_SET"), (0, u "Ljava/util/ImmutableCollections$SetN;"), (0, .class_ 121), (0, u "java/util/ImmutableCollections$MapN"), (3, u "EMPTY_MAP"), (0, u "Ljava/util/ImmutableCollections$MapN;"), (4, u "EXPAND_FACTOR"), (0, u "I"), (9, u "listCopy"), (0, u "(Ljava/util/Collection;)Ljava/util/List;"), (25, .class_ 170), (0, u "java/util/ImmutableCollections$MapN$MapNIterator"), (0, .class_ 172), (0, u "java/util/ImmutableCollections$MapN$1"), (0, .class_ 174), (0, u "java/util/ImmutableCollections$Map1"), (0, .class_ 176), (0, u "java/util/ImmutableCollections$AbstractImmutableMap"), (0, .class_ 178), (0, u "java/util/ImmutableCollections$SetN$SetNIterator"), (0, .class_ 180), (0, u "java/util/ImmutableCollections$Set12"), (0, .class_ 182), (0, u "java/util/ImmutableCollections$Set12$1"), (0, .class_ 184), (0, u "java/util/ImmutableCollections$AbstractImmutableSet"), (0, .class_ 186), (0, u "java/util/ImmutableCollections$SubList"), (0, .class_ 188), (0, u "java/util/ImmutableCollections$ListItr"), (0, .class_ 190), (0, u "java/util/ImmutableCollections$AbstractImmutableList"), (0, .class_ 192), (0, u "java/util/ImmutableCollections$AbstractImmutableCollection"), (0, .class_ 194), (0, u "java/util/ImmutableCollections$Access"), (0, .class_ 196), (0, u "java/util/ImmutableCollections$Access$1")] 16

def k21m0 : Method := { name := "<init>", desc := "()V", sig := { parameters := [], returnType := none }, accessFlags := 2, code := none }
def k21c1 : Code := { maxStack := 1, maxLocals := 2, code := jdk_56_method_3_code, exceptionTable := #[], attributes := #[] }
def k21m1 : Method := { name := "listCopy", desc := "(Ljava/util/Collection;)Ljava/util/List;", sig := { parameters := [(.object "java/util/Collection")], returnType := some (.object "java/util/List") }, accessFlags := 8, code := some k21c1 }
/-- java/util/ImmutableCollections -/
def k21 : Class := { plain "java/util/ImmutableCollections" (some 0) with
  accessFlags := 32
  interfaces := #[]
  cf := some (fileOf pool21 47 #[.nestMembers #[120, 169, 171, 173, 175, 111, 177, 179, 181, 183, 12, 10, 185, 187, 189, 191, 193, 195]] #[{ accessFlags := 2, nameIndex := 5, descriptorIndex := 6, attributes := #[] }, { accessFlags := 8, nameIndex := 142, descriptorIndex := 143, attributes := #[] }] 32 2 #[] #[{ accessFlags := 26, nameIndex := 95, descriptorIndex := 96, attributes := #[] }, { accessFlags := 26, nameIndex := 99, descriptorIndex := 17, attributes := #[] }, { accessFlags := 10, nameIndex := 106, descriptorIndex := 56, attributes := #[] }, { accessFlags := 26, nameIndex := 109, descriptorIndex := 110, attributes := #[] }, { accessFlags := 24, nameIndex := 62, descriptorIndex := 63, attributes := #[] }, { accessFlags := 24, nameIndex := 72, descriptorIndex := 63, attributes := #[] }, { accessFlags := 24, nameIndex := 118, descriptorIndex := 119, attributes := #[] }, { accessFlags := 24, nameIndex := 125, descriptorIndex := 126, attributes := #[] }, { accessFlags := 24, nameIndex := 131, descriptorIndex := 132, attributes := #[] }, { accessFlags := 4120, nameIndex := 50, descriptorIndex := 17, attributes := #[] }])
  fields := #[{ name := "SALT32L", type := .long, accessFlags := 26, slot := 0, constantValue := 0 }, { name := "REVERSE", type := .boolean, accessFlags := 26, slot := 1, constantValue := 0 }, { name := "archivedObjects", type := (.array (.object "java/lang/Object")), accessFlags := 10, slot := 2, constantValue := 0 }, { name := "EMPTY", type := (.object "java/lang/Object"), accessFlags := 26, slot := 3, constantValue := 0 }, { name := "EMPTY_LIST", type := (.object "java/util/ImmutableCollections$ListN"), accessFlags := 24, slot := 4, constantValue := 0 }, { name := "EMPTY_LIST_NULLS", type := (.object "java/util/ImmutableCollections$ListN"), accessFlags := 24, slot := 5, constantValue := 0 }, { name := "EMPTY_SET", type := (.object "java/util/ImmutableCollections$SetN"), accessFlags := 24, slot := 6, constantValue := 0 }, { name := "EMPTY_MAP", type := (.object "java/util/ImmutableCollections$MapN"), accessFlags := 24, slot := 7, constantValue := 0 }, { name := "EXPAND_FACTOR", type := .int, accessFlags := 24, slot := 8, constantValue := 0 }, { name := "$assertionsDisabled", type := .boolean, accessFlags := 4120, slot := 9, constantValue := 0 }]
  methods := #[k21m0, k21m1]
  instanceTypes := #[]
  staticTypes := #[.long, .boolean, (.array (.object "java/lang/Object")), (.object "java/lang/Object"), (.object "java/util/ImmutableCollections$ListN"), (.object "java/util/ImmutableCollections$ListN"), (.object "java/util/ImmutableCollections$SetN"), (.object "java/util/ImmutableCollections$MapN"), .int, .boolean]
  resolved := Array.replicate 213 none
  statics := some 2 }

def pool22 : Array CpInfo := pool [(1, .methodref 2 3), (0, .class_ 4), (0, .nameAndType 5 6), (0, u "java/util/AbstractCollection"), (0, u "<init>"), (0, u "()V"), (1, .class_ 10), (1, u "java/util/ImmutableCollections"), (2, .class_ 14), (0, u "java/util/ImmutableCollections$AbstractImmutableCollection")] 41

def k22c0 : Code := { maxStack := 1, maxLocals := 1, code := jdk_47_method_1_code, exceptionTable := #[], attributes := #[] }
def k22m0 : Method := { name := "<init>", desc := "()V", sig := { parameters := [], returnType := none }, accessFlags := 0, code := some k22c0 }
/-- java/util/ImmutableCollections$AbstractImmutableCollection -/
def k22 : Class := { plain "java/util/ImmutableCollections$AbstractImmutableCollection" (some 13) with
  accessFlags := 1056
  interfaces := #[]
  cf := some (fileOf pool22 13 #[.nestHost 8] #[{ accessFlags := 0, nameIndex := 5, descriptorIndex := 6, attributes := #[] }] 1056 2 #[] #[])
  fields := #[]
  methods := #[k22m0]
  instanceTypes := #[]
  staticTypes := #[]
  resolved := Array.replicate 56 none
  statics := none }

def pool23 : Array CpInfo := pool [(1, .methodref 2 3), (0, .class_ 4), (0, .nameAndType 5 6), (0, u "java/util/ImmutableCollections$AbstractImmutableCollection"), (0, u "<init>"), (0, u "()V"), (1, .class_ 10), (1, u "java/util/ImmutableCollections"), (2, .methodref 14 15), (0, .class_ 16), (0, .nameAndType 17 18), (0, u "java/util/ImmutableCollections$AbstractImmutableList"), (0, u "size"), (0, u "()I"), (42, .class_ 62), (0, u "java/util/ImmutableCollections$ListItr"), (0, .methodref 61 64), (0, .nameAndType 5 65), (0, u "(Ljava/util/List;I)V"), (11, .class_ 78), (0, u "java/util/List"), (2, u "iterator"), (0, u "()Ljava/util/Iterator;"), (41, .class_ 125), (0, u "java/util/RandomAccess")] 70

def k23c0 : Code := { maxStack := 1, maxLocals := 1, code := jdk_46_method_1_code, exceptionTable := #[], attributes := #[] }
def k23m0 : Method := { name := "<init>", desc := "()V", sig := { parameters := [], returnType := none }, accessFlags := 0, code := some k23c0 }
def k23c1 : Code := { maxStack := 4, maxLocals := 1, code := jdk_46_method_10_code, exceptionTable := #[], attributes := #[] }
def k23m1 : Method := { name := "iterator", desc := "()Ljava/util/Iterator;", sig := { parameters := [], returnType := some (.object "java/util/Iterator") }, accessFlags := 1, code := some k23c1 }
/-- java/util/ImmutableCollections$AbstractImmutableList -/
def k23 : Class := { plain "java/util/ImmutableCollections$AbstractImmutableList" (some 22) with
  accessFlags := 1056
  interfaces := #[15, 17]
  cf := some (fileOf pool23 14 #[.nestHost 8] #[{ accessFlags := 0, nameIndex := 5, descriptorIndex := 6, attributes := #[] }, { accessFlags := 1, nameIndex := 81, descriptorIndex := 82, attributes := #[] }] 1056 2 #[77, 124] #[])
  fields := #[]
  methods := #[k23m0, k23m1]
  instanceTypes := #[]
  staticTypes := #[]
  resolved := Array.replicate 196 none
  statics := none }

def pool24 : Array CpInfo := pool [(1, .methodref 2 3), (0, .class_ 4), (0, .nameAndType 5 6), (0, u "java/util/ImmutableCollections$AbstractImmutableList"), (0, u "<init>"), (0, u "()V"), (0, .methodref 8 9), (0, .class_ 10), (0, .nameAndType 11 12), (0, u "java/util/Objects"), (0, u "requireNonNull"), (0, u "(Ljava/lang/Object;)Ljava/lang/Object;"), (0, .fieldref 14 15), (0, .class_ 16), (0, .nameAndType 17 18), (0, u "java/util/ImmutableCollections$List12"), (0, u "e0"), (0, u "Ljava/lang/Object;"), (0, .fieldref 20 21), (0, .class_ 22), (0, .nameAndType 23 18), (0, u "java/util/ImmutableCollections"), (0, u "EMPTY"), (0, .fieldref 14 25), (0, .nameAndType 26 18), (0, u "e1"), (24, u "size"), (0, u "()I"), (17, .class_ 71), (0, u "java/io/Serializable"), (4, u "(Ljava/lang/Object;)V"), (13, u "get"), (0, u "(I)Ljava/lang/Object;")] 33

def k24c0 : Code := { maxStack := 2, maxLocals := 2, code := jdk_44_method_1_code, exceptionTable := #[], attributes := #[] }
def k24m0 : Method := { name := "<init>", desc := "(Ljava/lang/Object;)V", sig := { parameters := [(.object "java/lang/Object")], returnType := none }, accessFlags := 0, code := some k24c0 }
def k24c1 : Code := { maxStack := 2, maxLocals := 1, code := jdk_44_method_3_code, exceptionTable := #[], attributes := #[] }
def k24m1 : Method := { name := "size", desc := "()I", sig := { parameters := [], returnType := some .int }, accessFlags := 1, code := some k24c1 }
def k24c2 : Code := { maxStack := 2, maxLocals := 2, code := jdk_44_method_5_code, exceptionTable := #[], attributes := #[] }
def k24m2 : Method := { name := "get", desc := "(I)Ljava/lang/Object;", sig := { parameters := [.int], returnType := some (.object "java/lang/Object") }, accessFlags := 1, code := some k24c2 }
/-- java/util/ImmutableCollections$List12 -/
def k24 : Class := { plain "java/util/ImmutableCollections$List12" (some 23) with
  accessFlags := 48
  interfaces := #[4]
  cf := some (fileOf pool24 14 #[.nestHost 20] #[{ accessFlags := 0, nameIndex := 5, descriptorIndex := 76, attributes := #[] }, { accessFlags := 1, nameIndex := 51, descriptorIndex := 52, attributes := #[] }, { accessFlags := 1, nameIndex := 90, descriptorIndex := 91, attributes := #[] }] 48 2 #[70] #[{ accessFlags := 18, nameIndex := 17, descriptorIndex := 18, attributes := #[] }, { accessFlags := 18, nameIndex := 26, descriptorIndex := 18, attributes := #[] }])
  fields := #[{ name := "e0", type := (.object "java/lang/Object"), accessFlags := 18, slot := 0, constantValue := 0 }, { name := "e1", type := (.object "java/lang/Object"), accessFlags := 18, slot := 1, constantValue := 0 }]
  methods := #[k24m0, k24m1, k24m2]
  instanceTypes := #[(.object "java/lang/Object"), (.object "java/lang/Object")]
  staticTypes := #[]
  resolved := Array.replicate 125 none
  statics := none }

def pool25 : Array CpInfo := pool [(2, .class_ 4), (1, u "java/util/ImmutableCollections$AbstractImmutableList"), (2, .fieldref 8 9), (0, .class_ 10), (0, .nameAndType 11 12), (0, u "java/util/ImmutableCollections$ListN"), (0, u "elements"), (0, u "[Ljava/lang/Object;"), (2, u "allowNulls"), (0, u "Z"), (42, .class_ 60), (0, u "java/io/Serializable"), (16, u "size"), (0, u "()I"), (35, .class_ 115), (0, u "java/util/ImmutableCollections")] 3

def k25c0 : Code := { maxStack := 1, maxLocals := 1, code := jdk_45_method_3_code, exceptionTable := #[], attributes := #[] }
def k25m0 : Method := { name := "size", desc := "()I", sig := { parameters := [], returnType := some .int }, accessFlags := 1, code := some k25c0 }
/-- java/util/ImmutableCollections$ListN -/
def k25 : Class := { plain "java/util/ImmutableCollections$ListN" (some 23) with
  accessFlags := 48
  interfaces := #[4]
  cf := some (fileOf pool25 8 #[.nestHost 114] #[{ accessFlags := 1, nameIndex := 77, descriptorIndex := 78, attributes := #[] }] 48 2 #[59] #[{ accessFlags := 18, nameIndex := 11, descriptorIndex := 12, attributes := #[] }, { accessFlags := 18, nameIndex := 15, descriptorIndex := 16, attributes := #[] }])
  fields := #[{ name := "elements", type := (.array (.object "java/lang/Object")), accessFlags := 18, slot := 0, constantValue := 0 }, { name := "allowNulls", type := .boolean, accessFlags := 18, slot := 1, constantValue := 0 }]
  methods := #[k25m0]
  instanceTypes := #[(.array (.object "java/lang/Object")), .boolean]
  staticTypes := #[]
  resolved := Array.replicate 119 none
  statics := none }

def pool26 : Array CpInfo := pool [(1, .class_ 2), (0, u "java/lang/Math"), (1, .class_ 6), (1, u "java/lang/Object"), (0, u "<init>"), (0, u "()V"), (89, .class_ 100), (1, u "java/lang/Math$RandomNumberGeneratorHolder"), (71, u "negativeZeroFloatBits"), (0, u "J"), (2, u "negativeZeroDoubleBits"), (21, u "max"), (2, u "min"), (43, u "$assertionsDisabled"), (0, u "Z"), (88, u "(II)I"), (2, u "twoToTheDoubleScaleDown"), (0, u "D"), (4, u "twoToTheDoubleScaleUp"), (9, u "E"), (3, u "PI"), (2, u "TAU"), (2, u "DEGREES_TO_RADIANS"), (0, u "RADIANS_TO_DEGREES")] 94

def k26m0 : Method := { name := "<init>", desc := "()V", sig := { parameters := [], returnType := none }, accessFlags := 2, code := none }
def k26c1 : Code := { maxStack := 2, maxLocals := 2, code := jdk_29_method_65_code, exceptionTable := #[], attributes := #[] }
def k26m1 : Method := { name := "max", desc := "(II)I", sig := { parameters := [.int, .int], returnType := some .int }, accessFlags := 9, code := some k26c1 }
def k26c2 : Code := { maxStack := 2, maxLocals := 2, code := jdk_29_method_69_code, exceptionTable := #[], attributes := #[] }
def k26m2 : Method := { name := "min", desc := "(II)I", sig := { parameters := [.int, .int], returnType := some .int }, accessFlags := 9, code := some k26c2 }
/-- java/lang/Math -/
def k26 : Class := { plain "java/lang/Math" (some 0) with
  accessFlags := 49
  interfaces := #[]
  cf := some (fileOf pool26 1 #[.nestMembers #[98]] #[{ accessFlags := 2, nameIndex := 7, descriptorIndex := 8, attributes := #[] }, { accessFlags := 9, nameIndex := 198, descriptorIndex := 335, attributes := #[] }, { accessFlags := 9, nameIndex := 201, descriptorIndex := 335, attributes := #[] }] 49 4 #[] #[{ accessFlags := 25, nameIndex := 354, descriptorIndex := 339, attributes := #[] }, { accessFlags := 25, nameIndex := 358, descriptorIndex := 339, attributes := #[] }, { accessFlags := 25, nameIndex := 361, descriptorIndex := 339, attributes := #[] }, { accessFlags := 26, nameIndex := 364, descriptorIndex := 339, attributes := #[] }, { accessFlags := 26, nameIndex := 365, descriptorIndex := 339, attributes := #[] }, { accessFlags := 26, nameIndex := 172, descriptorIndex := 173, attributes := #[] }, { accessFlags := 26, nameIndex := 176, descriptorIndex := 173, attributes := #[] }, { accessFlags := 8, nameIndex := 344, descriptorIndex := 339, attributes := #[] }, { accessFlags := 8, nameIndex := 338, descriptorIndex := 339, attributes := #[] }, { accessFlags := 4120, nameIndex := 245, descriptorIndex := 246, attributes := #[] }])
  fields := #[{ name := "E", type := .double, accessFlags := 25, slot := 0, constantValue := 0 }, { name := "PI", type := .double, accessFlags := 25, slot := 1, constantValue := 0 }, { name := "TAU", type := .double, accessFlags := 25, slot := 2, constantValue := 0 }, { name := "DEGREES_TO_RADIANS", type := .double, accessFlags := 26, slot := 3, constantValue := 0 }, { name := "RADIANS_TO_DEGREES", type := .double, accessFlags := 26, slot := 4, constantValue := 0 }, { name := "negativeZeroFloatBits", type := .long, accessFlags := 26, slot := 5, constantValue := 0 }, { name := "negativeZeroDoubleBits", type := .long, accessFlags := 26, slot := 6, constantValue := 0 }, { name := "twoToTheDoubleScaleUp", type := .double, accessFlags := 8, slot := 7, constantValue := 0 }, { name := "twoToTheDoubleScaleDown", type := .double, accessFlags := 8, slot := 8, constantValue := 0 }, { name := "$assertionsDisabled", type := .boolean, accessFlags := 4120, slot := 9, constantValue := 0 }]
  methods := #[k26m0, k26m1, k26m2]
  instanceTypes := #[]
  staticTypes := #[.double, .double, .double, .double, .double, .long, .long, .double, .double, .boolean]
  resolved := Array.replicate 460 none
  statics := none }

def pool27 : Array CpInfo := pool [(2, .class_ 4), (1, u "java/lang/Object"), (0, u "<init>"), (0, u "()V"), (7, .class_ 16), (1, u "java/util/Arrays"), (57, .class_ 76), (1, u "java/util/Arrays$NaturalOrder"), (9, .methodref 2 87), (0, .nameAndType 88 89), (0, u "getClass"), (0, u "()Ljava/lang/Class;"), (20, .class_ 111), (0, u "[Ljava/lang/Object;"), (1, .class_ 115), (1, u "java/util/Arrays$LegacyMergeSort"), (1, u "Z"), (32, .methodref 151 152), (0, .class_ 153), (0, .nameAndType 154 155), (0, u "java/lang/System"), (0, u "arraycopy"), (0, u "(Ljava/lang/Object;ILjava/lang/Object;II)V"), (144, .methodref 14 301), (0, .nameAndType 302 303), (0, u "copyOf"), (0, u "([Ljava/lang/Object;ILjava/lang/Class;)[Ljava/lang/Object;"), (0, .methodref 305 306), (0, .class_ 307), (0, .nameAndType 308 309), (0, u "java/lang/Math"), (0, u "min"), (0, u "(II)I"), (65, .class_ 376), (0, u "java/util/Arrays$ArrayList"), (68, u "$assertionsDisabled"), (269, u "MIN_ARRAY_SORT_GRAN"), (0, u "I"), (2, u "INSERTIONSORT_THRESHOLD"), (140, u "([Ljava/lang/Object;I)[Ljava/lang/Object;"), (114, .class_ 976), (0, u "java/util/Arrays$ArrayItr")] 52

def k27m0 : Method := { name := "<init>", desc := "()V", sig := { parameters := [], returnType := none }, accessFlags := 2, code := none }
def k27c1 : Code := { maxStack := 3, maxLocals := 2, code := jdk_65_method_119_code, exceptionTable := #[], attributes := #[] }
def k27m1 : Method := { name := "copyOf", desc := "([Ljava/lang/Object;I)[Ljava/lang/Object;", sig := { parameters := [(.array (.object "java/lang/Object")), .int], returnType := some (.array (.object "java/lang/Object")) }, accessFlags := 9, code := some k27c1 }
def k27c2 : Code := { maxStack := 6, maxLocals := 4, code := jdk_65_method_120_code, exceptionTable := #[], attributes := #[] }
def k27m2 : Method := { name := "copyOf", desc := "([Ljava/lang/Object;ILjava/lang/Class;)[Ljava/lang/Object;", sig := { parameters := [(.array (.object "java/lang/Object")), .int, (.object "java/lang/Class")], returnType := some (.array (.object "java/lang/Object")) }, accessFlags := 9, code := some k27c2 }
/-- java/util/Arrays -/
def k27 : Class := { plain "java/util/Arrays" (some 0) with
  accessFlags := 49
  interfaces := #[]
  cf := some (fileOf pool27 14 #[.nestMembers #[975, 375, 113, 74]] #[{ accessFlags := 2, nameIndex := 5, descriptorIndex := 6, attributes := #[] }, { accessFlags := 9, nameIndex := 302, descriptorIndex := 860, attributes := #[] }, { accessFlags := 9, nameIndex := 302, descriptorIndex := 303, attributes := #[] }] 49 2 #[] #[{ accessFlags := 26, nameIndex := 715, descriptorIndex := 716, attributes := #[] }, { accessFlags := 26, nameIndex := 719, descriptorIndex := 716, attributes := #[] }, { accessFlags := 4120, nameIndex := 445, descriptorIndex := 117, attributes := #[] }])
  fields := #[{ name := "MIN_ARRAY_SORT_GRAN", type := .int, accessFlags := 26, slot := 0, constantValue := 0 }, { name := "INSERTIONSORT_THRESHOLD", type := .int, accessFlags := 26, slot := 1, constantValue := 0 }, { name := "$assertionsDisabled", type := .boolean, accessFlags := 4120, slot := 2, constantValue := 0 }]
  methods := #[k27m0, k27m1, k27m2]
  instanceTypes := #[]
  staticTypes := #[.int, .int, .boolean]
  resolved := Array.replicate 1029 none
  statics := none }

def pool28 : Array CpInfo := pool [(2, .class_ 4), (1, u "java/lang/Object"), (0, u "<init>"), (0, u "()V"), (1, .class_ 10), (1, u "java/lang/System"), (0, u "allowSecurityManager"), (0, u "I"), (16, u "cons"), (0, u "Ljava/io/Console;"), (77, .class_ 110), (1, u "java/lang/System$CallersHolder"), (43, u "initialErrStream"), (0, u "Ljava/io/PrintStream;"), (19, u "security"), (0, u "Ljava/lang/SecurityManager;"), (31, .class_ 209), (0, u "java/lang/System$1"), (7, u "props"), (0, u "Ljava/util/Properties;"), (2, u "lineSeparator"), (0, u "Ljava/lang/String;"), (96, .class_ 321), (1, u "java/lang/System$LoggerFinder"), (5, .class_ 328), (0, u "java/lang/System$Logger"), (67, u "err"), (2, u "out"), (91, u "notSupportedJnuEncoding"), (15, u "in"), (17, u "initialIn"), (0, u "Ljava/io/InputStream;"), (35, u "bootLayer"), (0, u "Ljava/lang/ModuleLayer;"), (99, .class_ 664), (0, u "java/lang/System$2"), (9, u "NEVER"), (2, u "MAYBE"), (49, u "arraycopy"), (0, u "(Ljava/lang/Object;ILjava/lang/Object;II)V"), (72, .class_ 802), (0, u "java/lang/System$Logger$Level")] 31

def k28m0 : Method := { name := "<init>", desc := "()V", sig := { parameters := [], returnType := none }, accessFlags := 2, code := none }
def k28m1 : Method := { name := "arraycopy", desc := "(Ljava/lang/Object;ILjava/lang/Object;II)V", sig := { parameters := [(.object "java/lang/Object"), .int, (.object "java/lang/Object"), .int, .int], returnType := none }, accessFlags := 265, code := none }
/-- java/lang/System -/
def k28 : Class := { plain "java/lang/System" (some 0) with
  accessFlags := 49
  interfaces := #[]
  cf := some (fileOf pool28 8 #[.nestMembers #[319, 327, 801, 108, 663, 208]] #[{ accessFlags := 2, nameIndex := 5, descriptorIndex := 6, attributes := #[] }, { accessFlags := 265, nameIndex := 727, descriptorIndex := 728, attributes := #[] }] 49 2 #[] #[{ accessFlags := 25, nameIndex := 507, descriptorIndex := 526, attributes := #[] }, { accessFlags := 25, nameIndex := 399, descriptorIndex := 155, attributes := #[] }, { accessFlags := 25, nameIndex := 396, descriptorIndex := 155, attributes := #[] }, { accessFlags := 10, nameIndex := 525, descriptorIndex := 526, attributes := #[] }, { accessFlags := 26, nameIndex := 674, descriptorIndex := 12, attributes := #[] }, { accessFlags := 26, nameIndex := 677, descriptorIndex := 12, attributes := #[] }, { accessFlags := 10, nameIndex := 11, descriptorIndex := 12, attributes := #[] }, { accessFlags := 74, nameIndex := 175, descriptorIndex := 176, attributes := #[] }, { accessFlags := 10, nameIndex := 491, descriptorIndex := 222, attributes := #[] }, { accessFlags := 74, nameIndex := 29, descriptorIndex := 30, attributes := #[] }, { accessFlags := 74, nameIndex := 154, descriptorIndex := 155, attributes := #[] }, { accessFlags := 10, nameIndex := 217, descriptorIndex := 218, attributes := #[] }, { accessFlags := 10, nameIndex := 221, descriptorIndex := 222, attributes := #[] }, { accessFlags := 8, nameIndex := 562, descriptorIndex := 563, attributes := #[] }])
  fields := #[{ name := "in", type := (.object "java/io/InputStream"), accessFlags := 25, slot := 0, constantValue := 0 }, { name := "out", type := (.object "java/io/PrintStream"), accessFlags := 25, slot := 1, constantValue := 0 }, { name := "err", type := (.object "java/io/PrintStream"), accessFlags := 25, slot := 2, constantValue := 0 }, { name := "initialIn", type := (.object "java/io/InputStream"), accessFlags := 10, slot := 3, constantValue := 0 }, { name := "NEVER", type := .int, accessFlags := 26, slot := 4, constantValue := 0 }, { name := "MAYBE", type := .int, accessFlags := 26, slot := 5, constantValue := 0 }, { name := "allowSecurityManager", type := .int, accessFlags := 10, slot := 6, constantValue := 0 }, { name := "security", type := (.object "java/lang/SecurityManager"), accessFlags := 74, slot := 7, constantValue := 0 }, { name := "notSupportedJnuEncoding", type := (.object "java/lang/String"), accessFlags := 10, slot := 8, constantValue := 0 }, { name := "cons", type := (.object "java/io/Console"), accessFlags := 74, slot := 9, constantValue := 0 }, { name := "initialErrStream", type := (.object "java/io/PrintStream"), accessFlags := 74, slot := 10, constantValue := 0 }, { name := "props", type := (.object "java/util/Properties"), accessFlags := 10, slot := 11, constantValue := 0 }, { name := "lineSeparator", type := (.object "java/lang/String"), accessFlags := 10, slot := 12, constantValue := 0 }, { name := "bootLayer", type := (.object "java/lang/ModuleLayer"), accessFlags := 8, slot := 13, constantValue := 0 }]
  methods := #[k28m0, k28m1]
  instanceTypes := #[]
  staticTypes := #[(.object "java/io/InputStream"), (.object "java/io/PrintStream"), (.object "java/io/PrintStream"), (.object "java/io/InputStream"), .int, .int, .int, (.object "java/lang/SecurityManager"), (.object "java/lang/String"), (.object "java/io/Console"), (.object "java/io/PrintStream"), (.object "java/util/Properties"), (.object "java/lang/String"), (.object "java/lang/ModuleLayer")]
  resolved := Array.replicate 834 none
  statics := none }

def pool29 : Array CpInfo := pool [(2, .class_ 4), (1, u "java/lang/Object"), (0, u "<init>"), (0, u "()V"), (35, .class_ 44), (1, u "java/util/Objects"), (0, u "requireNonNull"), (0, u "(Ljava/lang/Object;)Ljava/lang/Object;")] 137

def k29m0 : Method := { name := "<init>", desc := "()V", sig := { parameters := [], returnType := none }, accessFlags := 2, code := none }
def k29c1 : Code := { maxStack := 2, maxLocals := 1, code := jdk_31_method_10_code, exceptionTable := #[], attributes := #[] }
def k29m1 : Method := { name := "requireNonNull", desc := "(Ljava/lang/Object;)Ljava/lang/Object;", sig := { parameters := [(.object "java/lang/Object")], returnType := some (.object "java/lang/Object") }, accessFlags := 9, code := some k29c1 }
/-- java/util/Objects -/
def k29 : Class := { plain "java/util/Objects" (some 0) with
  accessFlags := 49
  interfaces := #[]
  cf := some (fileOf pool29 42 #[] #[{ accessFlags := 2, nameIndex := 5, descriptorIndex := 6, attributes := #[] }, { accessFlags := 9, nameIndex := 45, descriptorIndex := 46, attributes := #[] }] 49 2 #[] #[])
  fields := #[]
  methods := #[k29m0, k29m1]
  instanceTypes := #[]
  staticTypes := #[]
  resolved := Array.replicate 184 none
  statics := none }

def pool30 : Array CpInfo := pool [(16, .class_ 18), (1, u "java/util/Iterator"), (0, u "hasNext"), (0, u "()Z"), (2, u "next"), (0, u "()Ljava/lang/Object;"), (6, .class_ 32), (0, u "java/lang/Object")] 20

def k30m0 : Method := { name := "hasNext", desc := "()Z", sig := { parameters := [], returnType := some .boolean }, accessFlags := 1025, code := none }
def k30m1 : Method := { name := "next", desc := "()Ljava/lang/Object;", sig := { parameters := [], returnType := some (.object "java/lang/Object") }, accessFlags := 1025, code := none }
/-- java/util/Iterator -/
def k30 : Class := { plain "java/util/Iterator" (some 0) with
  accessFlags := 1537
  interfaces := #[]
  cf := some (fileOf pool30 16 #[] #[{ accessFlags := 1025, nameIndex := 19, descriptorIndex := 20, attributes := #[] }, { accessFlags := 1025, nameIndex := 23, descriptorIndex := 24, attributes := #[] }] 1537 31 #[] #[])
  fields := #[]
  methods := #[k30m0, k30m1]
  instanceTypes := #[]
  staticTypes := #[]
  resolved := Array.replicate 53 none
  statics := none }

def pool31 : Array CpInfo := pool [(1, .class_ 2), (0, u "java/util/ListIterator"), (0, .class_ 4), (0, u "java/lang/Object"), (0, .class_ 6), (0, u "java/util/Iterator")] 20

/-- java/util/ListIterator -/
def k31 : Class := { plain "java/util/ListIterator" (some 0) with
  accessFlags := 1537
  interfaces := #[30]
  cf := some (fileOf pool31 1 #[] #[] 1537 3 #[5] #[])
  fields := #[]
  methods := #[]
  instanceTypes := #[]
  staticTypes := #[]
  resolved := Array.replicate 27 none
  statics := none }

def pool32 : Array CpInfo := pool [(1, .methodref 2 3), (0, .class_ 4), (0, .nameAndType 5 6), (0, u "java/lang/Object"), (0, u "<init>"), (0, u "()V"), (0, .fieldref 8 9), (0, .class_ 10), (0, .nameAndType 11 12), (0, u "java/util/ImmutableCollections$ListItr"), (0, u "list"), (0, u "Ljava/util/List;"), (0, .fieldref 8 14), (0, .nameAndType 15 16), (0, u "size"), (0, u "I"), (0, .fieldref 8 18), (0, .nameAndType 19 16), (0, u "cursor"), (0, .fieldref 8 21), (0, .nameAndType 22 23), (0, u "isListIterator"), (0, u "Z"), (0, .interfaceMethodref 25 26), (0, .class_ 27), (0, .nameAndType 28 29), (0, u "java/util/List"), (0, u "get"), (0, u "(I)Ljava/lang/Object;"), (6, .class_ 38), (1, u "java/util/ImmutableCollections"), (2, .class_ 42), (0, u "java/util/ListIterator"), (4, u "(Ljava/util/List;I)V"), (11, u "hasNext"), (0, u "()Z"), (1, u "next"), (0, u "()Ljava/lang/Object;")] 22

def k32c0 : Code := { maxStack := 2, maxLocals := 3, code := jdk_53_method_1_code, exceptionTable := #[], attributes := #[] }
def k32m0 : Method := { name := "<init>", desc := "(Ljava/util/List;I)V", sig := { parameters := [(.object "java/util/List"), .int], returnType := none }, accessFlags := 0, code := some k32c0 }
def k32c1 : Code := { maxStack := 2, maxLocals := 1, code := jdk_53_method_3_code, exceptionTable := #[], attributes := #[] }
def k32m1 : Method := { name := "hasNext", desc := "()Z", sig := { parameters := [], returnType := some .boolean }, accessFlags := 1, code := some k32c1 }
def k32c2 : Code := { maxStack := 3, maxLocals := 3, code := jdk_53_method_4_code, exceptionTable := #[{ startPc := 0, endPc := 24, handlerPc := 25, catchType := 30 }], attributes := #[] }
def k32m2 : Method := { name := "next", desc := "()Ljava/lang/Object;", sig := { parameters := [], returnType := some (.object "java/lang/Object") }, accessFlags := 1, code := some k32c2 }
/-- java/util/ImmutableCollections$ListItr -/
def k32 : Class := { plain "java/util/ImmutableCollections$ListItr" (some 0) with
  accessFlags := 48
  interfaces := #[31]
  cf := some (fileOf pool32 8 #[.nestHost 36] #[{ accessFlags := 0, nameIndex := 5, descriptorIndex := 47, attributes := #[] }, { accessFlags := 1, nameIndex := 59, descriptorIndex := 60, attributes := #[] }, { accessFlags := 1, nameIndex := 62, descriptorIndex := 63, attributes := #[] }] 48 2 #[41] #[{ accessFlags := 18, nameIndex := 11, descriptorIndex := 12, attributes := #[] }, { accessFlags := 18, nameIndex := 15, descriptorIndex := 16, attributes := #[] }, { accessFlags := 18, nameIndex := 22, descriptorIndex := 23, attributes := #[] }, { accessFlags := 2, nameIndex := 19, descriptorIndex := 16, attributes := #[] }])
  fields := #[{ name := "list", type := (.object "java/util/List"), accessFlags := 18, slot := 0, constantValue := 0 }, { name := "size", type := .int, accessFlags := 18, slot := 1, constantValue := 0 }, { name := "isListIterator", type := .boolean, accessFlags := 18, slot := 2, constantValue := 0 }, { name := "cursor", type := .int, accessFlags := 2, slot := 3, constantValue := 0 }]
  methods := #[k32m0, k32m1, k32m2]
  instanceTypes := #[(.object "java/util/List"), .int, .boolean, .int]
  staticTypes := #[]
  resolved := Array.replicate 86 none
  statics := none }

def pool33 : Array CpInfo := pool [(2, .class_ 4), (1, u "java/lang/Object"), (0, u "<init>"), (0, u "()V"), (17, .class_ 26), (1, u "jdk/internal/util/Preconditions"), (28, .class_ 56), (0, u "jdk/internal/util/Preconditions$4"), (57, .class_ 115), (0, u "jdk/internal/util/Preconditions$1"), (7, u "SIOOBE_FORMATTER"), (0, u "Ljava/util/function/BiFunction;"), (0, .class_ 126), (0, u "jdk/internal/util/Preconditions$2"), (3, u "AIOOBE_FORMATTER"), (0, .class_ 132), (0, u "jdk/internal/util/Preconditions$3"), (3, u "IOOBE_FORMATTER")] 57

def k33m0 : Method := { name := "<init>", desc := "()V", sig := { parameters := [], returnType := none }, accessFlags := 1, code := none }
/-- jdk/internal/util/Preconditions -/
def k33 : Class := { plain "jdk/internal/util/Preconditions" (some 0) with
  accessFlags := 33
  interfaces := #[]
  cf := some (fileOf pool33 24 #[.nestMembers #[55, 131, 125, 114]] #[{ accessFlags := 1, nameIndex := 5, descriptorIndex := 6, attributes := #[] }] 33 2 #[] #[{ accessFlags := 25, nameIndex := 123, descriptorIndex := 124, attributes := #[] }, { accessFlags := 25, nameIndex := 130, descriptorIndex := 124, attributes := #[] }, { accessFlags := 25, nameIndex := 136, descriptorIndex := 124, attributes := #[] }])
  fields := #[{ name := "SIOOBE_FORMATTER", type := (.object "java/util/function/BiFunction"), accessFlags := 25, slot := 0, constantValue := 0 }, { name := "AIOOBE_FORMATTER", type := (.object "java/util/function/BiFunction"), accessFlags := 25, slot := 1, constantValue := 0 }, { name := "IOOBE_FORMATTER", type := (.object "java/util/function/BiFunction"), accessFlags := 25, slot := 2, constantValue := 0 }]
  methods := #[k33m0]
  instanceTypes := #[]
  staticTypes := #[(.object "java/util/function/BiFunction"), (.object "java/util/function/BiFunction"), (.object "java/util/function/BiFunction")]
  resolved := Array.replicate 194 none
  statics := some 3 }

def pool34 : Array CpInfo := pool [(9, u "<init>"), (6, .class_ 18), (1, u "java/lang/Object"), (0, u "()V"), (1, .class_ 23), (1, u "jdk/internal/util/ArraysSupport"), (0, u "LOG2_ARRAY_LONG_INDEX_SCALE"), (0, u "I"), (2, u "U"), (0, u "Ljdk/internal/misc/Unsafe;"), (8, u "BIG_ENDIAN"), (0, u "Z"), (8, u "LOG2_BYTE_BIT_SIZE"), (4, u "LOG2_ARRAY_INT_INDEX_SCALE"), (54, u "JLA"), (0, u "Ljdk/internal/access/JavaLangAccess;"), (11, u "LOG2_ARRAY_BOOLEAN_INDEX_SCALE"), (9, u "LOG2_ARRAY_BYTE_INDEX_SCALE"), (5, u "LOG2_ARRAY_CHAR_INDEX_SCALE"), (5, u "LOG2_ARRAY_SHORT_INDEX_SCALE"), (18, u "LOG2_ARRAY_FLOAT_INDEX_SCALE"), (24, u "LOG2_ARRAY_DOUBLE_INDEX_SCALE"), (89, u "T_BOOLEAN"), (2, u "T_CHAR"), (1, u "T_FLOAT"), (1, u "T_DOUBLE"), (1, u "T_BYTE"), (1, u "T_SHORT"), (1, u "T_INT"), (1, u "T_LONG"), (1, u "SOFT_MAX_ARRAY_LENGTH")] 83

def k34m0 : Method := { name := "<init>", desc := "()V", sig := { parameters := [], returnType := none }, accessFlags := 2, code := none }
/-- jdk/internal/util/ArraysSupport -/
def k34 : Class := { plain "jdk/internal/util/ArraysSupport" (some 0) with
  accessFlags := 33
  interfaces := #[]
  cf := some (fileOf pool34 21 #[] #[{ accessFlags := 2, nameIndex := 9, descriptorIndex := 19, attributes := #[] }] 33 16 #[] #[{ accessFlags := 24, nameIndex := 28, descriptorIndex := 29, attributes := #[] }, { accessFlags := 26, nameIndex := 38, descriptorIndex := 39, attributes := #[] }, { accessFlags := 25, nameIndex := 121, descriptorIndex := 25, attributes := #[] }, { accessFlags := 25, nameIndex := 131, descriptorIndex := 25, attributes := #[] }, { accessFlags := 25, nameIndex := 137, descriptorIndex := 25, attributes := #[] }, { accessFlags := 25, nameIndex := 143, descriptorIndex := 25, attributes := #[] }, { accessFlags := 25, nameIndex := 53, descriptorIndex := 25, attributes := #[] }, { accessFlags := 25, nameIndex := 24, descriptorIndex := 25, attributes := #[] }, { accessFlags := 25, nameIndex := 162, descriptorIndex := 25, attributes := #[] }, { accessFlags := 25, nameIndex := 187, descriptorIndex := 25, attributes := #[] }, { accessFlags := 26, nameIndex := 48, descriptorIndex := 25, attributes := #[] }, { accessFlags := 25, nameIndex := 277, descriptorIndex := 25, attributes := #[] }, { accessFlags := 25, nameIndex := 280, descriptorIndex := 25, attributes := #[] }, { accessFlags := 25, nameIndex := 282, descriptorIndex := 25, attributes := #[] }, { accessFlags := 25, nameIndex := 284, descriptorIndex := 25, attributes := #[] }, { accessFlags := 25, nameIndex := 286, descriptorIndex := 25, attributes := #[] }, { accessFlags := 25, nameIndex := 288, descriptorIndex := 25, attributes := #[] }, { accessFlags := 25, nameIndex := 290, descriptorIndex := 25, attributes := #[] }, { accessFlags := 25, nameIndex := 292, descriptorIndex := 25, attributes := #[] }, { accessFlags := 26, nameIndex := 108, descriptorIndex := 109, attributes := #[] }, { accessFlags := 25, nameIndex := 294, descriptorIndex := 25, attributes := #[] }])
  fields := #[{ name := "U", type := (.object "jdk/internal/misc/Unsafe"), accessFlags := 24, slot := 0, constantValue := 0 }, { name := "BIG_ENDIAN", type := .boolean, accessFlags := 26, slot := 1, constantValue := 0 }, { name := "LOG2_ARRAY_BOOLEAN_INDEX_SCALE", type := .int, accessFlags := 25, slot := 2, constantValue := 0 }, { name := "LOG2_ARRAY_BYTE_INDEX_SCALE", type := .int, accessFlags := 25, slot := 3, constantValue := 0 }, { name := "LOG2_ARRAY_CHAR_INDEX_SCALE", type := .int, accessFlags := 25, slot := 4, constantValue := 0 }, { name := "LOG2_ARRAY_SHORT_INDEX_SCALE", type := .int, accessFlags := 25, slot := 5, constantValue := 0 }, { name := "LOG2_ARRAY_INT_INDEX_SCALE", type := .int, accessFlags := 25, slot := 6, constantValue := 0 }, { name := "LOG2_ARRAY_LONG_INDEX_SCALE", type := .int, accessFlags := 25, slot := 7, constantValue := 0 }, { name := "LOG2_ARRAY_FLOAT_INDEX_SCALE", type := .int, accessFlags := 25, slot := 8, constantValue := 0 }, { name := "LOG2_ARRAY_DOUBLE_INDEX_SCALE", type := .int, accessFlags := 25, slot := 9, constantValue := 0 }, { name := "LOG2_BYTE_BIT_SIZE", type := .int, accessFlags := 26, slot := 10, constantValue := 0 }, { name := "T_BOOLEAN", type := .int, accessFlags := 25, slot := 11, constantValue := 0 }, { name := "T_CHAR", type := .int, accessFlags := 25, slot := 12, constantValue := 0 }, { name := "T_FLOAT", type := .int, accessFlags := 25, slot := 13, constantValue := 0 }, { name := "T_DOUBLE", type := .int, accessFlags := 25, slot := 14, constantValue := 0 }, { name := "T_BYTE", type := .int, accessFlags := 25, slot := 15, constantValue := 0 }, { name := "T_SHORT", type := .int, accessFlags := 25, slot := 16, constantValue := 0 }, { name := "T_INT", type := .int, accessFlags := 25, slot := 17, constantValue := 0 }, { name := "T_LONG", type := .int, accessFlags := 25, slot := 18, constantValue := 0 }, { name := "JLA", type := (.object "jdk/internal/access/JavaLangAccess"), accessFlags := 26, slot := 19, constantValue := 0 }, { name := "SOFT_MAX_ARRAY_LENGTH", type := .int, accessFlags := 25, slot := 20, constantValue := 0 }]
  methods := #[k34m0]
  instanceTypes := #[]
  staticTypes := #[(.object "jdk/internal/misc/Unsafe"), .boolean, .int, .int, .int, .int, .int, .int, .int, .int, .int, .int, .int, .int, .int, .int, .int, .int, .int, (.object "jdk/internal/access/JavaLangAccess"), .int]
  resolved := Array.replicate 378 none
  statics := none }

def pool35 : Array CpInfo := pool [(1, .class_ 2), (0, u "java/lang/Class"), (0, .class_ 4), (0, u "java/lang/Object")] 0

/-- java/lang/Class -/
def k35 : Class := { plain "java/lang/Class" (some 0) with
  accessFlags := 49
  interfaces := #[]
  cf := some (fileOf pool35 1 #[] #[] 49 3 #[] #[])
  fields := #[]
  methods := #[]
  instanceTypes := #[]
  staticTypes := #[]
  resolved := Array.replicate 5 none
  statics := none }

/-- the primitive byte -/
def k36 : Class := { plain "byte" none with kind := .primitive 'B', accessFlags := 0x411 }
/-- [B -/
def k37 : Class := { plain "[B" (some 0) with kind := .array 36 .byte, interfaces := #[18, 4], accessFlags := 1041 }

/-- the primitive int -/
def k38 : Class := { plain "int" none with kind := .primitive 'I', accessFlags := 0x411 }
/-- [I -/
def k39 : Class := { plain "[I" (some 0) with kind := .array 38 .int, interfaces := #[18, 4], accessFlags := 1041 }

/-- [Ljava/lang/Object; -/
def k40 : Class := { plain "[Ljava/lang/Object;" (some 0) with kind := .array 0 (.object "java/lang/Object"), interfaces := #[18, 4], accessFlags := 1041, mirror := some 4 }

def heap : Heap := #[{ cls := 9, slots := #[.long 0, .int 1, .null, .int 0, .null, .int 0, .int 0], vm := .statics 9 },
  { cls := 19, slots := #[.long 0, .int 0, .ref 5, .ref 6], vm := .statics 19 },
  { cls := 21, slots := #[.long 0, .int 0, .null, .ref 8, .ref 7, .null, .null, .null, .int 0, .int 1], vm := .statics 21 },
  { cls := 33, slots := #[.null, .null, .null], vm := .statics 33 },
  { cls := 35, slots := #[], vm := .mirror 40 },
  { cls := 40, slots := #[], vm := .none },
  { cls := 40, slots := #[], vm := .none },
  { cls := 25, slots := #[.ref 5, .int 0], vm := .none },
  { cls := 0, slots := #[], vm := .none }]
def classes : Array Class := #[k0, k1, k2, k3, k4, k5, k6, k7, k8, k9, k10, k11, k12, k13, k14, k15, k16, k17, k18, k19, k20, k21, k22, k23, k24, k25, k26, k27, k28, k29, k30, k31, k32, k33, k34, k35, k36, k37, k38, k39, k40]
def interned : List (Array UInt16 × Addr) := []
def slotsUsed : Nat := 26
def theMethod : MethodId := ⟨1, 1⟩
def args0 : Array Value := #[.int 3, .int 65, .int 66, .int 1, .int 2]
def aboutOver (below : List Frame) : State where
  vm := { classes := classes, interned := interned.toArray }
  heap := heap
  slotsUsed := slotsUsed
  threads := #[{ frames := .invoking theMethod args0 :: below }]
def below0 : List Frame := [.native { method := ⟨0, 0⟩, args := #[] }]
def about1 : State := aboutOver below0
def p0 : Program := .bare "" "" ""
def e0 : Env := launch0.env 0 0 0
theorem w_frames : about1.frames = Frame.invoking theMethod args0 :: below0 := rfl
set_option maxRecDepth 65536 in
theorem w_args : argsFit about1.vm theMethod args0 = true := by decide +kernel
set_option maxRecDepth 65536 in
theorem w_heap : heapFits about1 = true := by decide +kernel
set_option maxRecDepth 65536 in
theorem w_runnable : about1.curStatus? = some .runnable := by decide +kernel
set_option maxRecDepth 65536 in
theorem w_alone : about1.alone = true := by decide +kernel
set_option maxRecDepth 65536 in
theorem w_named : about1.methodNamed? x = some theMethod := by decide +kernel
set_option maxRecDepth 65536 in
theorem w_hears : about1.hears theMethod below0 = true := by decide +kernel
set_option maxRecDepth 65536 in
theorem w_ripe : about1.ripe theMethod args0 below0 = true := by decide +kernel
theorem w_running : about1.status = .running := rfl
set_option maxRecDepth 65536 in
theorem w_room : about1.hasRoom e0.platform room_1 = true :=
  launch0.hasRoom_least _ room_1 (by decide +kernel) (by decide +kernel) (by decide +kernel) (by decide +kernel) (by decide +kernel) (by decide +kernel)
theorem allAtoms_all (ts : List Jvm.Cond) (a : Array Jvm.Value) (st : Jvm.State) : (allAtoms ts).before a st = ts.all (fun c => c.before a st) := by
  induction ts with
  | nil => rfl
  | cons c t ih =>
    show (Jvm.Cond.and c (allAtoms t)).before a st = _
    rw [Jvm.Cond.before_and, ih, List.all_cons]
def words1 : List Jvm.Cond := Jvm.Cond.code x code maxLocals ret :: tables_1
/-- a 'code' word, met by the world's own term for the bytes: nothing is compared byte by byte -/
theorem code_word {y : MethodName} {bytes : ByteArray} {mx : Nat} {rt : Option FieldType} {a : Array Value} {s : State} {m : MethodId} {meth : Method} {c : Code} (h1 : s.methodNamed? y = some m) (h2 : s.vm.method? m = some meth) (h3 : meth.code = some c) (h4 : c.code = bytes)
    (h5 : (c.maxLocals == mx && c.exceptionTable.isEmpty && decide (c.maxStack ≤ mostOperands) && decide (meth.sig.returnType = rt) && !meth.locks && decide (parseMethodDescriptor y.desc = some meth.sig)) = true) : (Jvm.Cond.code y bytes mx rt).before a s = true := by
  simp only [Bool.and_eq_true, beq_iff_eq, Bool.not_eq_true', decide_eq_true_eq] at h5
  obtain ⟨⟨⟨⟨⟨g1, g2⟩, g3⟩, g4⟩, g5⟩, g6⟩ := h5
  simp [Cond.before, Cond.holds, Cond.value, h1, h2, h3, h4, g1, g2, g3, g4, g5, g6]
def isCode : Jvm.Cond → Bool
  | .code _ _ _ _ => true
  | _ => false
theorem all_split {L : List Jvm.Cond} {P : Jvm.Cond → Bool} (h1 : L.all (fun c => isCode c || P c) = true) (h2 : ∀ c ∈ L.filter isCode, P c = true) : L.all P = true := by
  refine List.all_eq_true.mpr fun c hc => ?_
  have h := List.all_eq_true.mp h1 c hc
  rcases Bool.eq_false_or_eq_true (isCode c) with hi | hi
  · exact h2 c (List.mem_filter.mpr ⟨hc, hi⟩)
  · simpa [hi] using h
set_option maxRecDepth 65536 in
theorem w_c0 : (Jvm.Cond.code x code maxLocals ret).before args0 about1 = true := code_word (m := ⟨1, 1⟩) (meth := k1m1) (c := k1c1) (by decide +kernel) rfl rfl rfl (by decide +kernel)
set_option maxRecDepth 65536 in
theorem w_c1 : (Jvm.Cond.code ({ cls := "java/lang/String", name := "valueOf", desc := "(C)Ljava/lang/String;" } : Jvm.MethodName) jdk_42_method_139_code (1 : Nat) (Option.some (Jvm.ClassFile.FieldType.object "java/lang/String"))).before args0 about1 = true := code_word (m := ⟨9, 1⟩) (meth := k9m1) (c := k9c1) (by decide +kernel) rfl rfl rfl (by decide +kernel)
set_option maxRecDepth 65536 in
theorem w_c2 : (Jvm.Cond.code ({ cls := "java/lang/StringLatin1", name := "canEncode", desc := "(C)Z" } : Jvm.MethodName) jdk_43_method_3_code (1 : Nat) (Option.some Jvm.ClassFile.FieldType.boolean)).before args0 about1 = true := code_word (m := ⟨10, 1⟩) (meth := k10m1) (c := k10c1) (by decide +kernel) rfl rfl rfl (by decide +kernel)
set_option maxRecDepth 65536 in
theorem w_c3 : (Jvm.Cond.code ({ cls := "java/lang/StringLatin1", name := "toBytes", desc := "(C)[B" } : Jvm.MethodName) jdk_43_method_46_code (1 : Nat) (Option.some (Jvm.ClassFile.FieldType.array Jvm.ClassFile.FieldType.byte))).before args0 about1 = true := code_word (m := ⟨10, 2⟩) (meth := k10m2) (c := k10c2) (by decide +kernel) rfl rfl rfl (by decide +kernel)
set_option maxRecDepth 65536 in
theorem w_c4 : (Jvm.Cond.code ({ cls := "java/lang/String", name := "<init>", desc := "([BB)V" } : Jvm.MethodName) jdk_42_method_151_code (3 : Nat) (Option.none : Option Jvm.ClassFile.FieldType)).before args0 about1 = true := code_word (m := ⟨9, 2⟩) (meth := k9m2) (c := k9c2) (by decide +kernel) rfl rfl rfl (by decide +kernel)
set_option maxRecDepth 65536 in
theorem w_c5 : (Jvm.Cond.code ({ cls := "java/lang/Object", name := "<init>", desc := "()V" } : Jvm.MethodName) object_method_1_code (1 : Nat) (Option.none : Option Jvm.ClassFile.FieldType)).before args0 about1 = true := code_word (m := ⟨0, 0⟩) (meth := k0m0) (c := k0c0) (by decide +kernel) rfl rfl rfl (by decide +kernel)
set_option maxRecDepth 65536 in
theorem w_c6 : (Jvm.Cond.code ({ cls := "com/example/restate/restate/plan/Label", name := "<init>", desc := "(Ljava/lang/String;)V" } : Jvm.MethodName) prog_25_method_1_code (2 : Nat) (Option.none : Option Jvm.ClassFile.FieldType)).before args0 about1 = true := code_word (m := ⟨3, 0⟩) (meth := k3m0) (c := k3c0) (by decide +kernel) rfl rfl rfl (by decide +kernel)
set_option maxRecDepth 65536 in
theorem w_c7 : (Jvm.Cond.code ({ cls := "java/lang/Record", name := "<init>", desc := "()V" } : Jvm.MethodName) jdk_30_method_1_code (1 : Nat) (Option.none : Option Jvm.ClassFile.FieldType)).before args0 about1 = true := code_word (m := ⟨2, 0⟩) (meth := k2m0) (c := k2c0) (by decide +kernel) rfl rfl rfl (by decide +kernel)
set_option maxRecDepth 65536 in
theorem w_c8 : (Jvm.Cond.code ({ cls := "java/util/ArrayList", name := "<init>", desc := "()V" } : Jvm.MethodName) jdk_38_method_2_code (1 : Nat) (Option.none : Option Jvm.ClassFile.FieldType)).before args0 about1 = true := code_word (m := ⟨19, 0⟩) (meth := k19m0) (c := k19c0) (by decide +kernel) rfl rfl rfl (by decide +kernel)
set_option maxRecDepth 65536 in
theorem w_c9 : (Jvm.Cond.code ({ cls := "java/util/AbstractList", name := "<init>", desc := "()V" } : Jvm.MethodName) jdk_39_method_1_code (1 : Nat) (Option.none : Option Jvm.ClassFile.FieldType)).before args0 about1 = true := code_word (m := ⟨16, 0⟩) (meth := k16m0) (c := k16c0) (by decide +kernel) rfl rfl rfl (by decide +kernel)
set_option maxRecDepth 65536 in
theorem w_c10 : (Jvm.Cond.code ({ cls := "java/util/AbstractCollection", name := "<init>", desc := "()V" } : Jvm.MethodName) jdk_22_method_1_code (1 : Nat) (Option.none : Option Jvm.ClassFile.FieldType)).before args0 about1 = true := code_word (m := ⟨13, 0⟩) (meth := k13m0) (c := k13c0) (by decide +kernel) rfl rfl rfl (by decide +kernel)
set_option maxRecDepth 65536 in
theorem w_c11 : (Jvm.Cond.code ({ cls := "com/example/restate/restate/plan/Item", name := "<init>", desc := "(Lcom/example/restate/restate/plan/Label;Lcom/example/restate/restate/plan/Label;IILjava/util/List;)V" } : Jvm.MethodName) prog_20_method_1_code (6 : Nat) (Option.none : Option Jvm.ClassFile.FieldType)).before args0 about1 = true := code_word (m := ⟨20, 0⟩) (meth := k20m0) (c := k20c0) (by decide +kernel) rfl rfl rfl (by decide +kernel)
set_option maxRecDepth 65536 in
theorem w_c12 : (Jvm.Cond.code ({ cls := "java/util/List", name := "copyOf", desc := "(Ljava/util/Collection;)Ljava/util/List;" } : Jvm.MethodName) jdk_40_method_48_code (1 : Nat) (Option.some (Jvm.ClassFile.FieldType.object "java/util/List"))).before args0 about1 = true := code_word (m := ⟨15, 4⟩) (meth := k15m4) (c := k15c4) (by decide +kernel) rfl rfl rfl (by decide +kernel)
set_option maxRecDepth 65536 in
theorem w_c13 : (Jvm.Cond.code ({ cls := "java/util/ImmutableCollections", name := "listCopy", desc := "(Ljava/util/Collection;)Ljava/util/List;" } : Jvm.MethodName) jdk_56_method_3_code (2 : Nat) (Option.some (Jvm.ClassFile.FieldType.object "java/util/List"))).before args0 about1 = true := code_word (m := ⟨21, 1⟩) (meth := k21m1) (c := k21c1) (by decide +kernel) rfl rfl rfl (by decide +kernel)
set_option maxRecDepth 65536 in
theorem w_c14 : (Jvm.Cond.code ({ cls := "java/util/ArrayList", name := "isEmpty", desc := "()Z" } : Jvm.MethodName) jdk_38_method_9_code (1 : Nat) (Option.some Jvm.ClassFile.FieldType.boolean)).before args0 about1 = true := code_word (m := ⟨19, 3⟩) (meth := k19m3) (c := k19c3) (by decide +kernel) rfl rfl rfl (by decide +kernel)
set_option maxRecDepth 65536 in
theorem w_c15 : (Jvm.Cond.code ({ cls := "java/util/List", name := "of", desc := "()Ljava/util/List;" } : Jvm.MethodName) jdk_40_method_36_code (0 : Nat) (Option.some (Jvm.ClassFile.FieldType.object "java/util/List"))).before args0 about1 = true := code_word (m := ⟨15, 2⟩) (meth := k15m2) (c := k15c2) (by decide +kernel) rfl rfl rfl (by decide +kernel)
set_option maxRecDepth 65536 in
theorem w_c16 : (Jvm.Cond.code ({ cls := "java/util/ArrayList", name := "add", desc := "(Ljava/lang/Object;)Z" } : Jvm.MethodName) jdk_38_method_25_code (2 : Nat) (Option.some Jvm.ClassFile.FieldType.boolean)).before args0 about1 = true := code_word (m := ⟨19, 6⟩) (meth := k19m6) (c := k19c6) (by decide +kernel) rfl rfl rfl (by decide +kernel)
set_option maxRecDepth 65536 in
theorem w_c17 : (Jvm.Cond.code ({ cls := "java/util/ArrayList", name := "add", desc := "(Ljava/lang/Object;[Ljava/lang/Object;I)V" } : Jvm.MethodName) jdk_38_method_24_code (4 : Nat) (Option.none : Option Jvm.ClassFile.FieldType)).before args0 about1 = true := code_word (m := ⟨19, 5⟩) (meth := k19m5) (c := k19c5) (by decide +kernel) rfl rfl rfl (by decide +kernel)
set_option maxRecDepth 65536 in
theorem w_c18 : (Jvm.Cond.code ({ cls := "java/util/ArrayList", name := "grow", desc := "()[Ljava/lang/Object;" } : Jvm.MethodName) jdk_38_method_7_code (1 : Nat) (Option.some (Jvm.ClassFile.FieldType.array (Jvm.ClassFile.FieldType.object "java/lang/Object")))).before args0 about1 = true := code_word (m := ⟨19, 2⟩) (meth := k19m2) (c := k19c2) (by decide +kernel) rfl rfl rfl (by decide +kernel)
set_option maxRecDepth 65536 in
theorem w_c19 : (Jvm.Cond.code ({ cls := "java/util/ArrayList", name := "grow", desc := "(I)[Ljava/lang/Object;" } : Jvm.MethodName) jdk_38_method_6_code (4 : Nat) (Option.some (Jvm.ClassFile.FieldType.array (Jvm.ClassFile.FieldType.object "java/lang/Object")))).before args0 about1 = true := code_word (m := ⟨19, 1⟩) (meth := k19m1) (c := k19c1) (by decide +kernel) rfl rfl rfl (by decide +kernel)
set_option maxRecDepth 65536 in
theorem w_c20 : (Jvm.Cond.code ({ cls := "java/lang/Math", name := "max", desc := "(II)I" } : Jvm.MethodName) jdk_29_method_65_code (2 : Nat) (Option.some Jvm.ClassFile.FieldType.int)).before args0 about1 = true := code_word (m := ⟨26, 1⟩) (meth := k26m1) (c := k26c1) (by decide +kernel) rfl rfl rfl (by decide +kernel)
set_option maxRecDepth 65536 in
theorem w_c21 : (Jvm.Cond.code ({ cls := "java/util/ArrayList", name := "toArray", desc := "()[Ljava/lang/Object;" } : Jvm.MethodName) jdk_38_method_16_code (1 : Nat) (Option.some (Jvm.ClassFile.FieldType.array (Jvm.ClassFile.FieldType.object "java/lang/Object")))).before args0 about1 = true := code_word (m := ⟨19, 4⟩) (meth := k19m4) (c := k19c4) (by decide +kernel) rfl rfl rfl (by decide +kernel)
set_option maxRecDepth 65536 in
theorem w_c22 : (Jvm.Cond.code ({ cls := "java/util/Arrays", name := "copyOf", desc := "([Ljava/lang/Object;I)[Ljava/lang/Object;" } : Jvm.MethodName) jdk_65_method_119_code (2 : Nat) (Option.some (Jvm.ClassFile.FieldType.array (Jvm.ClassFile.FieldType.object "java/lang/Object")))).before args0 about1 = true := code_word (m := ⟨27, 1⟩) (meth := k27m1) (c := k27c1) (by decide +kernel) rfl rfl rfl (by decide +kernel)
set_option maxRecDepth 65536 in
theorem w_c23 : (Jvm.Cond.code ({ cls := "java/util/Arrays", name := "copyOf", desc := "([Ljava/lang/Object;ILjava/lang/Class;)[Ljava/lang/Object;" } : Jvm.MethodName) jdk_65_method_120_code (4 : Nat) (Option.some (Jvm.ClassFile.FieldType.array (Jvm.ClassFile.FieldType.object "java/lang/Object")))).before args0 about1 = true := code_word (m := ⟨27, 2⟩) (meth := k27m2) (c := k27c2) (by decide +kernel) rfl rfl rfl (by decide +kernel)
set_option maxRecDepth 65536 in
theorem w_c24 : (Jvm.Cond.code ({ cls := "java/lang/Math", name := "min", desc := "(II)I" } : Jvm.MethodName) jdk_29_method_69_code (2 : Nat) (Option.some Jvm.ClassFile.FieldType.int)).before args0 about1 = true := code_word (m := ⟨26, 2⟩) (meth := k26m2) (c := k26c2) (by decide +kernel) rfl rfl rfl (by decide +kernel)
set_option maxRecDepth 65536 in
theorem w_c25 : (Jvm.Cond.code ({ cls := "java/util/List", name := "of", desc := "([Ljava/lang/Object;)Ljava/util/List;" } : Jvm.MethodName) jdk_40_method_47_code (2 : Nat) (Option.some (Jvm.ClassFile.FieldType.object "java/util/List"))).before args0 about1 = true := code_word (m := ⟨15, 3⟩) (meth := k15m3) (c := k15c3) (by decide +kernel) rfl rfl rfl (by decide +kernel)
set_option maxRecDepth 65536 in
theorem w_c26 : (Jvm.Cond.code ({ cls := "java/util/ImmutableCollections$List12", name := "<init>", desc := "(Ljava/lang/Object;)V" } : Jvm.MethodName) jdk_44_method_1_code (2 : Nat) (Option.none : Option Jvm.ClassFile.FieldType)).before args0 about1 = true := code_word (m := ⟨24, 0⟩) (meth := k24m0) (c := k24c0) (by decide +kernel) rfl rfl rfl (by decide +kernel)
set_option maxRecDepth 65536 in
theorem w_c27 : (Jvm.Cond.code ({ cls := "java/util/ImmutableCollections$AbstractImmutableList", name := "<init>", desc := "()V" } : Jvm.MethodName) jdk_46_method_1_code (1 : Nat) (Option.none : Option Jvm.ClassFile.FieldType)).before args0 about1 = true := code_word (m := ⟨23, 0⟩) (meth := k23m0) (c := k23c0) (by decide +kernel) rfl rfl rfl (by decide +kernel)
set_option maxRecDepth 65536 in
theorem w_c28 : (Jvm.Cond.code ({ cls := "java/util/ImmutableCollections$AbstractImmutableCollection", name := "<init>", desc := "()V" } : Jvm.MethodName) jdk_47_method_1_code (1 : Nat) (Option.none : Option Jvm.ClassFile.FieldType)).before args0 about1 = true := code_word (m := ⟨22, 0⟩) (meth := k22m0) (c := k22c0) (by decide +kernel) rfl rfl rfl (by decide +kernel)
set_option maxRecDepth 65536 in
theorem w_c29 : (Jvm.Cond.code ({ cls := "java/util/Objects", name := "requireNonNull", desc := "(Ljava/lang/Object;)Ljava/lang/Object;" } : Jvm.MethodName) jdk_31_method_10_code (1 : Nat) (Option.some (Jvm.ClassFile.FieldType.object "java/lang/Object"))).before args0 about1 = true := code_word (m := ⟨29, 1⟩) (meth := k29m1) (c := k29c1) (by decide +kernel) rfl rfl rfl (by decide +kernel)
set_option maxRecDepth 65536 in
theorem w_c30 : (Jvm.Cond.code ({ cls := "com/example/restate/restate/plan/Item", name := "deleted", desc := "()Z" } : Jvm.MethodName) prog_20_method_2_code (1 : Nat) (Option.some Jvm.ClassFile.FieldType.boolean)).before args0 about1 = true := code_word (m := ⟨20, 1⟩) (meth := k20m1) (c := k20c1) (by decide +kernel) rfl rfl rfl (by decide +kernel)
set_option maxRecDepth 65536 in
theorem w_c31 : (Jvm.Cond.code ({ cls := "com/example/restate/restate/plan/Item", name := "deletedBefore", desc := "(I)I" } : Jvm.MethodName) prog_20_method_5_code (5 : Nat) (Option.some Jvm.ClassFile.FieldType.int)).before args0 about1 = true := code_word (m := ⟨20, 2⟩) (meth := k20m2) (c := k20c2) (by decide +kernel) rfl rfl rfl (by decide +kernel)
set_option maxRecDepth 65536 in
theorem w_c32 : (Jvm.Cond.code ({ cls := "java/util/ImmutableCollections$AbstractImmutableList", name := "iterator", desc := "()Ljava/util/Iterator;" } : Jvm.MethodName) jdk_46_method_10_code (1 : Nat) (Option.some (Jvm.ClassFile.FieldType.object "java/util/Iterator"))).before args0 about1 = true := code_word (m := ⟨23, 1⟩) (meth := k23m1) (c := k23c1) (by decide +kernel) rfl rfl rfl (by decide +kernel)
set_option maxRecDepth 65536 in
theorem w_c33 : (Jvm.Cond.code ({ cls := "java/util/ImmutableCollections$List12", name := "size", desc := "()I" } : Jvm.MethodName) jdk_44_method_3_code (1 : Nat) (Option.some Jvm.ClassFile.FieldType.int)).before args0 about1 = true := code_word (m := ⟨24, 1⟩) (meth := k24m1) (c := k24c1) (by decide +kernel) rfl rfl rfl (by decide +kernel)
set_option maxRecDepth 65536 in
theorem w_c34 : (Jvm.Cond.code ({ cls := "java/util/ImmutableCollections$ListItr", name := "<init>", desc := "(Ljava/util/List;I)V" } : Jvm.MethodName) jdk_53_method_1_code (3 : Nat) (Option.none : Option Jvm.ClassFile.FieldType)).before args0 about1 = true := code_word (m := ⟨32, 0⟩) (meth := k32m0) (c := k32c0) (by decide +kernel) rfl rfl rfl (by decide +kernel)
set_option maxRecDepth 65536 in
theorem w_c35 : (Jvm.Cond.code ({ cls := "java/util/ImmutableCollections$ListItr", name := "hasNext", desc := "()Z" } : Jvm.MethodName) jdk_53_method_3_code (1 : Nat) (Option.some Jvm.ClassFile.FieldType.boolean)).before args0 about1 = true := code_word (m := ⟨32, 1⟩) (meth := k32m1) (c := k32c1) (by decide +kernel) rfl rfl rfl (by decide +kernel)
set_option maxRecDepth 65536 in
theorem w_c36 : (Jvm.Cond.code ({ cls := "java/util/ImmutableCollections$List12", name := "get", desc := "(I)Ljava/lang/Object;" } : Jvm.MethodName) jdk_44_method_5_code (2 : Nat) (Option.some (Jvm.ClassFile.FieldType.object "java/lang/Object"))).before args0 about1 = true := code_word (m := ⟨24, 2⟩) (meth := k24m2) (c := k24c2) (by decide +kernel) rfl rfl rfl (by decide +kernel)
set_option maxRecDepth 65536 in
theorem w_c37 : (Jvm.Cond.code ({ cls := "java/util/ImmutableCollections$ListN", name := "size", desc := "()I" } : Jvm.MethodName) jdk_45_method_3_code (1 : Nat) (Option.some Jvm.ClassFile.FieldType.int)).before args0 about1 = true := code_word (m := ⟨25, 0⟩) (meth := k25m0) (c := k25c0) (by decide +kernel) rfl rfl rfl (by decide +kernel)
def codes1 : List Jvm.Cond := [Jvm.Cond.code x code maxLocals ret, Jvm.Cond.code ({ cls := "java/lang/String", name := "valueOf", desc := "(C)Ljava/lang/String;" } : Jvm.MethodName) jdk_42_method_139_code (1 : Nat) (Option.some (Jvm.ClassFile.FieldType.object "java/lang/String")), Jvm.Cond.code ({ cls := "java/lang/StringLatin1", name := "canEncode", desc := "(C)Z" } : Jvm.MethodName) jdk_43_method_3_code (1 : Nat) (Option.some Jvm.ClassFile.FieldType.boolean), Jvm.Cond.code ({ cls := "java/lang/StringLatin1", name := "toBytes", desc := "(C)[B" } : Jvm.MethodName) jdk_43_method_46_code (1 : Nat) (Option.some (Jvm.ClassFile.FieldType.array Jvm.ClassFile.FieldType.byte)), Jvm.Cond.code ({ cls := "java/lang/String", name := "<init>", desc := "([BB)V" } : Jvm.MethodName) jdk_42_method_151_code (3 : Nat) (Option.none : Option Jvm.ClassFile.FieldType), Jvm.Cond.code ({ cls := "java/lang/Object", name := "<init>", desc := "()V" } : Jvm.MethodName) object_method_1_code (1 : Nat) (Option.none : Option Jvm.ClassFile.FieldType), Jvm.Cond.code ({ cls := "com/example/restate/restate/plan/Label", name := "<init>", desc := "(Ljava/lang/String;)V" } : Jvm.MethodName) prog_25_method_1_code (2 : Nat) (Option.none : Option Jvm.ClassFile.FieldType), Jvm.Cond.code ({ cls := "java/lang/Record", name := "<init>", desc := "()V" } : Jvm.MethodName) jdk_30_method_1_code (1 : Nat) (Option.none : Option Jvm.ClassFile.FieldType), Jvm.Cond.code ({ cls := "java/util/ArrayList", name := "<init>", desc := "()V" } : Jvm.MethodName) jdk_38_method_2_code (1 : Nat) (Option.none : Option Jvm.ClassFile.FieldType), Jvm.Cond.code ({ cls := "java/util/AbstractList", name := "<init>", desc := "()V" } : Jvm.MethodName) jdk_39_method_1_code (1 : Nat) (Option.none : Option Jvm.ClassFile.FieldType), Jvm.Cond.code ({ cls := "java/util/AbstractCollection", name := "<init>", desc := "()V" } : Jvm.MethodName) jdk_22_method_1_code (1 : Nat) (Option.none : Option Jvm.ClassFile.FieldType), Jvm.Cond.code ({ cls := "com/example/restate/restate/plan/Item", name := "<init>", desc := "(Lcom/example/restate/restate/plan/Label;Lcom/example/restate/restate/plan/Label;IILjava/util/List;)V" } : Jvm.MethodName) prog_20_method_1_code (6 : Nat) (Option.none : Option Jvm.ClassFile.FieldType), Jvm.Cond.code ({ cls := "java/util/List", name := "copyOf", desc := "(Ljava/util/Collection;)Ljava/util/List;" } : Jvm.MethodName) jdk_40_method_48_code (1 : Nat) (Option.some (Jvm.ClassFile.FieldType.object "java/util/List")), Jvm.Cond.code ({ cls := "java/util/ImmutableCollections", name := "listCopy", desc := "(Ljava/util/Collection;)Ljava/util/List;" } : Jvm.MethodName) jdk_56_method_3_code (2 : Nat) (Option.some (Jvm.ClassFile.FieldType.object "java/util/List")), Jvm.Cond.code ({ cls := "java/util/ArrayList", name := "isEmpty", desc := "()Z" } : Jvm.MethodName) jdk_38_method_9_code (1 : Nat) (Option.some Jvm.ClassFile.FieldType.boolean), Jvm.Cond.code ({ cls := "java/util/List", name := "of", desc := "()Ljava/util/List;" } : Jvm.MethodName) jdk_40_method_36_code (0 : Nat) (Option.some (Jvm.ClassFile.FieldType.object "java/util/List")), Jvm.Cond.code ({ cls := "java/util/ArrayList", name := "add", desc := "(Ljava/lang/Object;)Z" } : Jvm.MethodName) jdk_38_method_25_code (2 : Nat) (Option.some Jvm.ClassFile.FieldType.boolean), Jvm.Cond.code ({ cls := "java/util/ArrayList", name := "add", desc := "(Ljava/lang/Object;[Ljava/lang/Object;I)V" } : Jvm.MethodName) jdk_38_method_24_code (4 : Nat) (Option.none : Option Jvm.ClassFile.FieldType), Jvm.Cond.code ({ cls := "java/util/ArrayList", name := "grow", desc := "()[Ljava/lang/Object;" } : Jvm.MethodName) jdk_38_method_7_code (1 : Nat) (Option.some (Jvm.ClassFile.FieldType.array (Jvm.ClassFile.FieldType.object "java/lang/Object"))), Jvm.Cond.code ({ cls := "java/util/ArrayList", name := "grow", desc := "(I)[Ljava/lang/Object;" } : Jvm.MethodName) jdk_38_method_6_code (4 : Nat) (Option.some (Jvm.ClassFile.FieldType.array (Jvm.ClassFile.FieldType.object "java/lang/Object"))), Jvm.Cond.code ({ cls := "java/lang/Math", name := "max", desc := "(II)I" } : Jvm.MethodName) jdk_29_method_65_code (2 : Nat) (Option.some Jvm.ClassFile.FieldType.int), Jvm.Cond.code ({ cls := "java/util/ArrayList", name := "toArray", desc := "()[Ljava/lang/Object;" } : Jvm.MethodName) jdk_38_method_16_code (1 : Nat) (Option.some (Jvm.ClassFile.FieldType.array (Jvm.ClassFile.FieldType.object "java/lang/Object"))), Jvm.Cond.code ({ cls := "java/util/Arrays", name := "copyOf", desc := "([Ljava/lang/Object;I)[Ljava/lang/Object;" } : Jvm.MethodName) jdk_65_method_119_code (2 : Nat) (Option.some (Jvm.ClassFile.FieldType.array (Jvm.ClassFile.FieldType.object "java/lang/Object"))), Jvm.Cond.code ({ cls := "java/util/Arrays", name := "copyOf", desc := "([Ljava/lang/Object;ILjava/lang/Class;)[Ljava/lang/Object;" } : Jvm.MethodName) jdk_65_method_120_code (4 : Nat) (Option.some (Jvm.ClassFile.FieldType.array (Jvm.ClassFile.FieldType.object "java/lang/Object"))), Jvm.Cond.code ({ cls := "java/lang/Math", name := "min", desc := "(II)I" } : Jvm.MethodName) jdk_29_method_69_code (2 : Nat) (Option.some Jvm.ClassFile.FieldType.int), Jvm.Cond.code ({ cls := "java/util/List", name := "of", desc := "([Ljava/lang/Object;)Ljava/util/List;" } : Jvm.MethodName) jdk_40_method_47_code (2 : Nat) (Option.some (Jvm.ClassFile.FieldType.object "java/util/List")), Jvm.Cond.code ({ cls := "java/util/ImmutableCollections$List12", name := "<init>", desc := "(Ljava/lang/Object;)V" } : Jvm.MethodName) jdk_44_method_1_code (2 : Nat) (Option.none : Option Jvm.ClassFile.FieldType), Jvm.Cond.code ({ cls := "java/util/ImmutableCollections$AbstractImmutableList", name := "<init>", desc := "()V" } : Jvm.MethodName) jdk_46_method_1_code (1 : Nat) (Option.none : Option Jvm.ClassFile.FieldType), Jvm.Cond.code ({ cls := "java/util/ImmutableCollections$AbstractImmutableCollection", name := "<init>", desc := "()V" } : Jvm.MethodName) jdk_47_method_1_code (1 : Nat) (Option.none : Option Jvm.ClassFile.FieldType), Jvm.Cond.code ({ cls := "java/util/Objects", name := "requireNonNull", desc := "(Ljava/lang/Object;)Ljava/lang/Object;" } : Jvm.MethodName) jdk_31_method_10_code (1 : Nat) (Option.some (Jvm.ClassFile.FieldType.object "java/lang/Object")), Jvm.Cond.code ({ cls := "com/example/restate/restate/plan/Item", name := "deleted", desc := "()Z" } : Jvm.MethodName) prog_20_method_2_code (1 : Nat) (Option.some Jvm.ClassFile.FieldType.boolean), Jvm.Cond.code ({ cls := "com/example/restate/restate/plan/Item", name := "deletedBefore", desc := "(I)I" } : Jvm.MethodName) prog_20_method_5_code (5 : Nat) (Option.some Jvm.ClassFile.FieldType.int), Jvm.Cond.code ({ cls := "java/util/ImmutableCollections$AbstractImmutableList", name := "iterator", desc := "()Ljava/util/Iterator;" } : Jvm.MethodName) jdk_46_method_10_code (1 : Nat) (Option.some (Jvm.ClassFile.FieldType.object "java/util/Iterator")), Jvm.Cond.code ({ cls := "java/util/ImmutableCollections$List12", name := "size", desc := "()I" } : Jvm.MethodName) jdk_44_method_3_code (1 : Nat) (Option.some Jvm.ClassFile.FieldType.int), Jvm.Cond.code ({ cls := "java/util/ImmutableCollections$ListItr", name := "<init>", desc := "(Ljava/util/List;I)V" } : Jvm.MethodName) jdk_53_method_1_code (3 : Nat) (Option.none : Option Jvm.ClassFile.FieldType), Jvm.Cond.code ({ cls := "java/util/ImmutableCollections$ListItr", name := "hasNext", desc := "()Z" } : Jvm.MethodName) jdk_53_method_3_code (1 : Nat) (Option.some Jvm.ClassFile.FieldType.boolean), Jvm.Cond.code ({ cls := "java/util/ImmutableCollections$List12", name := "get", desc := "(I)Ljava/lang/Object;" } : Jvm.MethodName) jdk_44_method_5_code (2 : Nat) (Option.some (Jvm.ClassFile.FieldType.object "java/lang/Object")), Jvm.Cond.code ({ cls := "java/util/ImmutableCollections$ListN", name := "size", desc := "()I" } : Jvm.MethodName) jdk_45_method_3_code (1 : Nat) (Option.some Jvm.ClassFile.FieldType.int)]
set_option maxRecDepth 65536 in
theorem codes_eq : words1.filter isCode = codes1 := rfl
theorem w_codes : ∀ c ∈ words1.filter isCode, c.before args0 about1 = true := by
  rw [codes_eq]
  intro c hc
  simp only [codes1, List.mem_cons, List.not_mem_nil, or_false] at hc
  rcases hc with rfl | rfl | rfl | rfl | rfl | rfl | rfl | rfl | rfl | rfl | rfl | rfl | rfl | rfl | rfl | rfl | rfl | rfl | rfl | rfl | rfl | rfl | rfl | rfl | rfl | rfl | rfl | rfl | rfl | rfl | rfl | rfl | rfl | rfl | rfl | rfl | rfl | rfl
  · exact w_c0
  · exact w_c1
  · exact w_c2
  · exact w_c3
  · exact w_c4
  · exact w_c5
  · exact w_c6
  · exact w_c7
  · exact w_c8
  · exact w_c9
  · exact w_c10
  · exact w_c11
  · exact w_c12
  · exact w_c13
  · exact w_c14
  · exact w_c15
  · exact w_c16
  · exact w_c17
  · exact w_c18
  · exact w_c19
  · exact w_c20
  · exact w_c21
  · exact w_c22
  · exact w_c23
  · exact w_c24
  · exact w_c25
  · exact w_c26
  · exact w_c27
  · exact w_c28
  · exact w_c29
  · exact w_c30
  · exact w_c31
  · exact w_c32
  · exact w_c33
  · exact w_c34
  · exact w_c35
  · exact w_c36
  · exact w_c37
set_option maxRecDepth 65536 in
theorem w_t1 : (words1.take 24).all (fun c => isCode c || c.before args0 about1) = true := by decide +kernel
set_option maxRecDepth 65536 in
theorem w_t2 : ((words1.drop 24).take 24).all (fun c => isCode c || c.before args0 about1) = true := by decide +kernel
set_option maxRecDepth 65536 in
theorem w_t3 : (((words1.drop 24).drop 24).take 24).all (fun c => isCode c || c.before args0 about1) = true := by decide +kernel
set_option maxRecDepth 65536 in
theorem w_t4 : ((((words1.drop 24).drop 24).drop 24).take 24).all (fun c => isCode c || c.before args0 about1) = true := by decide +kernel
set_option maxRecDepth 65536 in
theorem w_t5 : (((((words1.drop 24).drop 24).drop 24).drop 24).take 24).all (fun c => isCode c || c.before args0 about1) = true := by decide +kernel
set_option maxRecDepth 65536 in
theorem w_t6 : ((((((words1.drop 24).drop 24).drop 24).drop 24).drop 24).take 24).all (fun c => isCode c || c.before args0 about1) = true := by decide +kernel
set_option maxRecDepth 65536 in
theorem w_t7 : (((((((words1.drop 24).drop 24).drop 24).drop 24).drop 24).drop 24).take 24).all (fun c => isCode c || c.before args0 about1) = true := by decide +kernel
set_option maxRecDepth 65536 in
theorem w_t8 : ((((((((words1.drop 24).drop 24).drop 24).drop 24).drop 24).drop 24).drop 24).take 24).all (fun c => isCode c || c.before args0 about1) = true := by decide +kernel
set_option maxRecDepth 65536 in
theorem w_t9 : (((((((((words1.drop 24).drop 24).drop 24).drop 24).drop 24).drop 24).drop 24).drop 24).take 24).all (fun c => isCode c || c.before args0 about1) = true := by decide +kernel
set_option maxRecDepth 65536 in
theorem w_t10 : ((((((((((words1.drop 24).drop 24).drop 24).drop 24).drop 24).drop 24).drop 24).drop 24).drop 24).take 24).all (fun c => isCode c || c.before args0 about1) = true := by decide +kernel
set_option maxRecDepth 65536 in
theorem w_t11 : (((((((((((words1.drop 24).drop 24).drop 24).drop 24).drop 24).drop 24).drop 24).drop 24).drop 24).drop 24).take 24).all (fun c => isCode c || c.before args0 about1) = true := by decide +kernel
set_option maxRecDepth 65536 in
theorem w_t12 : (((((((((((words1.drop 24).drop 24).drop 24).drop 24).drop 24).drop 24).drop 24).drop 24).drop 24).drop 24).drop 24).all (fun c => isCode c || c.before args0 about1) = true := by decide +kernel
theorem w_tables : (allAtoms (Jvm.Cond.code x code maxLocals ret :: tables_1)).before args0 about1 = true := by
  rw [allAtoms_all]
  show words1.all (fun c => c.before args0 about1) = true
  refine all_split ?_ w_codes
  rw [← List.take_append_drop 24 words1, List.all_append, w_t1, ← List.take_append_drop 24 (words1.drop 24), List.all_append, w_t2, ← List.take_append_drop 24 ((words1.drop 24).drop 24), List.all_append, w_t3, ← List.take_append_drop 24 (((words1.drop 24).drop 24).drop 24), List.all_append, w_t4, ← List.take_append_drop 24 ((((words1.drop 24).drop 24).drop 24).drop 24), List.all_append, w_t5, ← List.take_append_drop 24 (((((words1.drop 24).drop 24).drop 24).drop 24).drop 24), List.all_append, w_t6, ← List.take_append_drop 24 ((((((words1.drop 24).drop 24).drop 24).drop 24).drop 24).drop 24), List.all_append, w_t7, ← List.take_append_drop 24 (((((((words1.drop 24).drop 24).drop 24).drop 24).drop 24).drop 24).drop 24), List.all_append, w_t8, ← List.take_append_drop 24 ((((((((words1.drop 24).drop 24).drop 24).drop 24).drop 24).drop 24).drop 24).drop 24), List.all_append, w_t9, ← List.take_append_drop 24 (((((((((words1.drop 24).drop 24).drop 24).drop 24).drop 24).drop 24).drop 24).drop 24).drop 24), List.all_append, w_t10, ← List.take_append_drop 24 ((((((((((words1.drop 24).drop 24).drop 24).drop 24).drop 24).drop 24).drop 24).drop 24).drop 24).drop 24), List.all_append, w_t11, w_t12]
  rfl
set_option maxRecDepth 65536 in
theorem w_rest : rest_1_c.before args0 about1 = true := by decide +kernel
set_option maxRecDepth 65536 in
theorem w_case : (Jvm.Cond.and given_1 narrow_1).before args0 about1 = true := by decide +kernel
theorem w_applies : (headSpec (Jvm.Cond.code x code maxLocals ret :: tables_1) room_1).applies x e0.platform about1 = true :=
  (Spec.applies_iff w_frames).mpr ⟨w_running, w_runnable, w_alone, w_named, w_hears, w_ripe, w_room, w_tables⟩
theorem atStart : AtStart classFile x code maxLocals ret World_1 tables_1 room_1 Calls_1 rest_1 Pre_1 launch0 p0 e0 about1 theMethod args0 below0 :=
  ⟨lists_1, trivial, launch0.admits_env _ _ _, launch0.least_env, fairChoices_fair.cas, fairChoices_fair.clock, w_frames, w_args, w_heap, w_applies, ⟨(by first | exact ⟨40, k40, 4, by decide +kernel, rfl, rfl⟩ | exact ⟨40, k40, 4, by decide +kernel, rfl, rfl, _, rfl, rfl⟩), trivial⟩, w_rest, w_case⟩
end start1
theorem witness_1 : WitnessClaimed_1 := ⟨start1.p0, start1.e0, start1.about1, start1.theMethod, start1.args0, start1.below0, start1.atStart⟩
end Jvm.Pilot.@@N@@
