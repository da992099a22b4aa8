import JvmDerived
import JvmDerived.Pilot.@@N@@Statement
import JvmDerived.Pilot.@@N@@Code
set_option linter.unusedVariables false
set_option linter.unusedSimpArgs false
namespace Jvm.RoadKit
open Sem ClassFile Op Lib Jvm.Stand Jvm.Free Jvm.LawKit
section New
variable {p : Program} {l : Launch} {e : Env} {R : Room} {s : State} {m : MethodId} {args : Array Value} {below : List Frame} {meth : Method} {c : Code} {T : State} {locs : List Loc} {cells slots : Nat}
theorem retI (X : Stand p l e R s m args below meth c T locs cells slots) (hx : p.tables.exec = Jvm.exec) {pc : Nat} {Ls : Array Slot} {z : Int32} {rest : List Value} (hret : meth.sig.returnType = some .int) (hd : decode c.code pc = .ok (.ireturn, 1)) {fs : List Frame}
    (hl : ∀ (f : JFrame) (acts : List Action), f.method = m → f.locked = none → f.entered = [] → (doReturn e (T.setTop f) acts (some (.int z))).1 = T.setFrames fs) : Steps p.tables e below (T.setTop (mkF m pc Ls (.int z :: rest))) (T.setFrames fs) := by
  have hm' : T.vm.method? m = some meth := X.method'
  have hn : narrow .int (.int z) = .int z := rfl
  show Steps p.tables e below (T.setTop { method := m, pc := pc, locals := Ls, stack := _ :: rest, locked := none }) _
  jvm_step X.here [X.here.top, hx, hd, hm', hret, hn]
  first | (intro acts; rw [hl _ acts rfl rfl rfl]) | rw [hl _ _ rfl rfl rfl]
  exact Steps.refl _
end New
end Jvm.RoadKit
namespace Jvm.Pilot.@@N@@
open Jvm Jvm.ClassFile Sem Op Lib Jvm.Free Jvm.Stand Jvm.LawKit Jvm.RoadKit Bundle Jvm.Pilot.@@N@@.Jvm.D
/-- from U the run comes back to its caller; what it returns, the heap and the places written meet Q -/
def Goes (p : Program) (e : Env) (below : List Frame) (s : State) (Q : Option Value → Heap → List Loc → Prop) (C S : Nat) (U : State) : Prop :=
  ∃ s₂ o, Steps p.tables e below U s₂ ∧ s₂.status = .running ∧ Ended s₂ below o ∧ ∃ v L, o = .returned v ∧ Q v s₂.heap L ∧ FrameEnd s o s₂ L C S
section Own
variable {p : Program} {l : Launch} {e : Env} {R : Room} {s : State} {m : MethodId} {args : Array Value} {below : List Frame} {meth : Method} {c : Code} {T : State} {locs : List Loc} {cells slots : Nat} {Q : Option Value → Heap → List Loc → Prop} {C S : Nat} {U U' : State}
theorem Goes.pre (f : ∀ t, Steps p.tables e below U' t → Steps p.tables e below U t) (g : Goes p e below s Q C S U') : Goes p e below s Q C S U := by
  obtain ⟨s₂, o, h1, r⟩ := g
  exact ⟨s₂, o, f _ h1, r⟩
theorem Goes.enter {g g' : JFrame} (q : g = g') (h : Goes p e below s Q C S (U.setTop g')) : Goes p e below s Q C S (U.setTop g) := q ▸ h
theorem Goes.ret (X : Stand p l e R s m args below meth c T locs cells slots) {v : Option Value} (hv : meth.sig.returnType = none → v = none) (hlocks : meth.locks = false) (hc : cells ≤ C) (hs : slots ≤ S) {h : Heap} (eT : T.heap = h)
    (step : ∀ fs, (∀ (f : JFrame) (acts : List Action), f.method = m → f.locked = none → f.entered = [] → (doReturn e (T.setTop f) acts v).1 = T.setFrames fs) → Steps p.tables e below U (T.setFrames fs)) (q : Q v h locs) : Goes p e below s Q C S U := by
  obtain ⟨fs, hr, hrun, hended, hW, hsame⟩ := X.leave hv hlocks
  refine ⟨_, _, step fs hr, hrun, hended, _, _, rfl, ?_, ⟨_, rfl⟩, hW, hsame.mono hc hs⟩
  show Q v T.heap locs
  rw [eT]
  exact q
end Own
theorem own_lsw {tb : Tables} [Ours tb] {e : Env} {below : List Frame} {T target : State} {m : MethodId} {c : Code} {g : JFrame} (h : At T m c below) (hx : tb.exec = Jvm.exec) (hg : g.method = m) {dflt : Int} {prs : Array (Int × Int)} {len : Nat} {o : Int} {pc0 pc' : Nat} (hpc : g.pc = pc0) (hd : decode c.code g.pc = .ok (.lookupswitch dflt prs, len)) {i : Int32} {rest : List Value} (hs : g.stack = .int i :: rest)
    (hso : ∀ (a b a_1 b_1 : Int), ((a, b), a_1, b_1) ∈ prs.toList.zip prs.toList.tail → a < a_1) (hoff : lookupswitch.offset prs.toList dflt i.toInt = o) (ho : 0 ≤ (pc0 : Int) + o) (hp : ((pc0 : Int) + o).toNat = pc')
    (hr : Steps tb e below (T.setTop { g with pc := pc', stack := rest }) target) : Steps tb e below (T.setTop g) target := by
  subst hg hpc hp
  jvm_step h [h.top, hx, hd, hs, lookupswitch.wp_chain, hoff, ho]
  exact ⟨hso, hr⟩
theorem ef_rm_space (m : MethodId) (x0 : Int32) : entryFrame m #[(.int x0)] 1 = mkF m 0 #[.val (.int x0)] [] := by first | (simp [entryFrame, mkF, argsToLocals, Value.category]; done) | rfl
theorem pn_com_example_restate_restate_plan_Spaces : plainName "com/example/restate/restate/plan/Spaces" = true := by first | (simp [plainName, overriddenIn]; done) | decide +kernel
theorem d1_0 : decode prog_34_method_2_code 0 = .ok (.iload_n 0, 1) := by decide +kernel
theorem d1_1 : decode prog_34_method_2_code 1 = .ok (.sipush 160, 3) := by decide +kernel
theorem d1_4 : decode prog_34_method_2_code 4 = .ok (.if_icmp .ge 23, 3) := by decide +kernel
theorem d1_7 : decode prog_34_method_2_code 7 = .ok (.iload_n 0, 1) := by decide +kernel
theorem d1_8 : decode prog_34_method_2_code 8 = .ok (.bipush 32, 2) := by decide +kernel
theorem d1_10 : decode prog_34_method_2_code 10 = .ok (.if_icmp .eq 9, 3) := by decide +kernel
theorem d1_19 : decode prog_34_method_2_code 19 = .ok (.iconst 1, 1) := by decide +kernel
theorem d1_20 : decode prog_34_method_2_code 20 = .ok (.goto 68, 3) := by decide +kernel
theorem d1_88 : decode prog_34_method_2_code 88 = .ok (.ireturn, 1) := by decide +kernel
theorem d1_13 : decode prog_34_method_2_code 13 = .ok (.iload_n 0, 1) := by decide +kernel
theorem d1_14 : decode prog_34_method_2_code 14 = .ok (.bipush 9, 2) := by decide +kernel
theorem d1_16 : decode prog_34_method_2_code 16 = .ok (.if_icmp .ne 7, 3) := by decide +kernel
theorem d1_23 : decode prog_34_method_2_code 23 = .ok (.iconst 0, 1) := by decide +kernel
theorem d1_24 : decode prog_34_method_2_code 24 = .ok (.goto 64, 3) := by decide +kernel
theorem d1_27 : decode prog_34_method_2_code 27 = .ok (.iload_n 0, 1) := by decide +kernel
theorem d1_28 : decode prog_34_method_2_code 28 = .ok (.sipush 160, 3) := by decide +kernel
theorem d1_31 : decode prog_34_method_2_code 31 = .ok (.if_icmp .eq 52, 3) := by decide +kernel
theorem d1_83 : decode prog_34_method_2_code 83 = .ok (.iconst 1, 1) := by decide +kernel
theorem d1_84 : decode prog_34_method_2_code 84 = .ok (.goto 4, 3) := by decide +kernel
theorem d1_34 : decode prog_34_method_2_code 34 = .ok (.iload_n 0, 1) := by decide +kernel
theorem d1_35 : decode prog_34_method_2_code 35 = .ok (.sipush 5760, 3) := by decide +kernel
theorem d1_38 : decode prog_34_method_2_code 38 = .ok (.if_icmp .eq 45, 3) := by decide +kernel
theorem d1_41 : decode prog_34_method_2_code 41 = .ok (.iload_n 0, 1) := by decide +kernel
theorem d1_42 : decode prog_34_method_2_code 42 = .ok (.sipush 6158, 3) := by decide +kernel
theorem d1_45 : decode prog_34_method_2_code 45 = .ok (.if_icmp .eq 38, 3) := by decide +kernel
theorem d1_48 : decode prog_34_method_2_code 48 = .ok (.iload_n 0, 1) := by decide +kernel
theorem d1_49 : decode prog_34_method_2_code 49 = .ok (.sipush 8192, 3) := by decide +kernel
theorem d1_52 : decode prog_34_method_2_code 52 = .ok (.if_icmp .lt 10, 3) := by decide +kernel
theorem d1_62 : decode prog_34_method_2_code 62 = .ok (.iload_n 0, 1) := by decide +kernel
theorem d1_63 : decode prog_34_method_2_code 63 = .ok (.sipush 8239, 3) := by decide +kernel
theorem d1_66 : decode prog_34_method_2_code 66 = .ok (.if_icmp .eq 17, 3) := by decide +kernel
theorem d1_69 : decode prog_34_method_2_code 69 = .ok (.iload_n 0, 1) := by decide +kernel
theorem d1_70 : decode prog_34_method_2_code 70 = .ok (.sipush 8287, 3) := by decide +kernel
theorem d1_73 : decode prog_34_method_2_code 73 = .ok (.if_icmp .eq 10, 3) := by decide +kernel
theorem d1_76 : decode prog_34_method_2_code 76 = .ok (.iload_n 0, 1) := by decide +kernel
theorem d1_77 : decode prog_34_method_2_code 77 = .ok (.sipush 12288, 3) := by decide +kernel
theorem d1_80 : decode prog_34_method_2_code 80 = .ok (.if_icmp .ne 7, 3) := by decide +kernel
theorem d1_87 : decode prog_34_method_2_code 87 = .ok (.iconst 0, 1) := by decide +kernel
theorem d1_55 : decode prog_34_method_2_code 55 = .ok (.iload_n 0, 1) := by decide +kernel
theorem d1_56 : decode prog_34_method_2_code 56 = .ok (.sipush 8202, 3) := by decide +kernel
theorem d1_59 : decode prog_34_method_2_code 59 = .ok (.if_icmp .le 24, 3) := by decide +kernel
def own_space (q : Int32) : Int32 := (if q < (160 : Int32) then (if q = (32 : Int32) then (1 : Int32) else (if q = (9 : Int32) then (1 : Int32) else (0 : Int32))) else (if q = (160 : Int32) then (1 : Int32) else (if q = (5760 : Int32) then (1 : Int32) else (if q = (6158 : Int32) then (1 : Int32) else (if q < (8192 : Int32) then (if q = (8239 : Int32) then (1 : Int32) else (if q = (8287 : Int32) then (1 : Int32) else (if q = (12288 : Int32) then (1 : Int32) else (0 : Int32)))) else (if (8202 : Int32) < q then (if q = (8239 : Int32) then (1 : Int32) else (if q = (8287 : Int32) then (1 : Int32) else (if q = (12288 : Int32) then (1 : Int32) else (0 : Int32)))) else (1 : Int32)))))))
def Q_rm_space (Z : State) (q : Int32) (h0 : Heap) (n0 : Nat) (v : Option Value) (h : Heap) (L : List Loc) : Prop := v = some (.int (own_space q)) ∧ Fr n0 L ∧ h = h0
set_option maxRecDepth 65536 in
set_option maxHeartbeats 40000000 in
theorem rm_space (l : Launch) (Z : State) (a0 : Array Value) (hw : ∀ d ∈ tables_1, d.before a0 Z = true) (ws : List Jvm.Cond) (q : Int32) (h0 : Heap) (n0 : Nat) (Z0 : n0 ≤ h0.size)  :
    MetFree l (⟨"com/example/restate/restate/plan/Spaces", "space", "(C)Z"⟩ : MethodName) (head1 (Jvm.Cond.code (⟨"com/example/restate/restate/plan/Spaces", "space", "(C)Z"⟩ : MethodName) prog_34_method_2_code 1 (some .boolean) :: ws) ({ frames := 0, cells := 0, slots := 0, locals := 0 } : Room)) (fun argv U => argv = #[(.int q)] ∧ Z.Warmed39 U.vm ∧ U.heap = h0) (fun _ _ _ _ _ => True) (fun _ U o U' => ∃ v L, o = .returned v ∧ Q_rm_space Z q h0 n0 v U'.heap L ∧ FrameEnd U o U' L ({ frames := 0, cells := 0, slots := 0, locals := 0 } : Room).cells ({ frames := 0, cells := 0, slots := 0, locals := 0 } : Room).slots) := by
  refine MetFree.of_bodySF (plainFor_of_name pn_com_example_restate_restate_plan_Spaces) hisR ?_
  intro p e s m args below meth c s₁ Bd hml0 hP hK
  obtain ⟨rfl, hZ, hh⟩ := hP
  have hx := Bd.exec
  have hby := Bd.bytes
  have hml : c.maxLocals = 1 := hml0
  have hown : s.vm.findClass "com/example/restate/restate/plan/Spaces" = some m.cls := findClass_of_methodNamed Bd.named
  have hnm := (name_of_methodNamed Bd.named Bd.method).1
  have X0 : Stand p l e ({ frames := 0, cells := 0, slots := 0, locals := 0 } : Room) s m #[(.int q)] below meth c s₁ [] 0 0 := Stand.of_body Bd
  have e0 : s₁.heap = h0 := by rw [← hh, Bd.state]; rfl
  have N0 := Fr.nil n0
  refine Goes.enter (Q := fun v h L => Q_rm_space Z q h0 n0 v h L) (C := ({ frames := 0, cells := 0, slots := 0, locals := 0 } : Room).cells) (S := ({ frames := 0, cells := 0, slots := 0, locals := 0 } : Room).slots) (ef_rm_space m q) ?_
  show Goes p e below s _ _ _ (s₁.setTop (mkF m 0 #[.val (.int q)] []))
  refine Goes.pre (U' := s₁.setTop (mkF m 1 #[.val (.int q)] [(.int q)])) (fun t k => XS.iloadN X0.here hx rfl (hb hby d1_0) rfl k) ?_
  refine Goes.pre (U' := s₁.setTop (mkF m 4 #[.val (.int q)] [(.int (160 : Int32)), (.int q)])) (fun t k => XS.sipush X0.here hx rfl (hb hby d1_1) k) ?_
  by_cases hc4 : q < (160 : Int32)
  ·
    refine Goes.pre (U' := s₁.setTop (mkF m 7 #[.val (.int q)] [])) (fun t k => XS.icmpNo X0.here hx rfl (hb hby d1_4) rfl (tlt hc4).2.1 k) ?_
    refine Goes.pre (U' := s₁.setTop (mkF m 8 #[.val (.int q)] [(.int q)])) (fun t k => XS.iloadN X0.here hx rfl (hb hby d1_7) rfl k) ?_
    refine Goes.pre (U' := s₁.setTop (mkF m 10 #[.val (.int q)] [(.int (32 : Int32)), (.int q)])) (fun t k => XS.bipush X0.here hx rfl (hb hby d1_8) k) ?_
    by_cases hc10 : q = (32 : Int32)
    ·
      refine Goes.pre (U' := s₁.setTop (mkF m 19 #[.val (.int q)] [])) (fun t k => XS.icmpYes X0.here hx rfl (pc0 := 10) (pc' := 19) rfl (hb hby d1_10) rfl (teq hc10).1 (by decide) (by decide) k) ?_
      refine Goes.pre (U' := s₁.setTop (mkF m 20 #[.val (.int q)] [(.int (1 : Int32))])) (fun t k => XS.iconst X0.here hx rfl (hb hby d1_19) k) ?_
      refine Goes.pre (U' := s₁.setTop (mkF m 88 #[.val (.int q)] [(.int (1 : Int32))])) (fun t k => XS.goto X0.here hx rfl (pc0 := 20) (pc' := 88) rfl (hb hby d1_20) (by decide) (by decide) k) ?_
      refine Goes.ret X0 (v := (some (.int (1 : Int32)))) (fun h => by rw [Bd.returns] at h; cases h) Bd.notSynchronized (by decide) (by decide) e0 (fun fs hr => retN X0 hx (t := .boolean) Bd.returns (by simp) (hb hby d1_88) hr) ?_
      exact ⟨congrArg (fun z => some (Value.int z)) (show (1 : Int32) = own_space q from (show own_space q = (1 : Int32) from by unfold own_space; rw [if_pos hc4, if_pos hc10]).symm), N0, rfl⟩
    ·
      refine Goes.pre (U' := s₁.setTop (mkF m 13 #[.val (.int q)] [])) (fun t k => XS.icmpNo X0.here hx rfl (hb hby d1_10) rfl (feq hc10).1 k) ?_
      refine Goes.pre (U' := s₁.setTop (mkF m 14 #[.val (.int q)] [(.int q)])) (fun t k => XS.iloadN X0.here hx rfl (hb hby d1_13) rfl k) ?_
      refine Goes.pre (U' := s₁.setTop (mkF m 16 #[.val (.int q)] [(.int (9 : Int32)), (.int q)])) (fun t k => XS.bipush X0.here hx rfl (hb hby d1_14) k) ?_
      by_cases hc16 : q = (9 : Int32)
      ·
        refine Goes.pre (U' := s₁.setTop (mkF m 19 #[.val (.int q)] [])) (fun t k => XS.icmpNo X0.here hx rfl (hb hby d1_16) rfl (teq hc16).2 k) ?_
        refine Goes.pre (U' := s₁.setTop (mkF m 20 #[.val (.int q)] [(.int (1 : Int32))])) (fun t k => XS.iconst X0.here hx rfl (hb hby d1_19) k) ?_
        refine Goes.pre (U' := s₁.setTop (mkF m 88 #[.val (.int q)] [(.int (1 : Int32))])) (fun t k => XS.goto X0.here hx rfl (pc0 := 20) (pc' := 88) rfl (hb hby d1_20) (by decide) (by decide) k) ?_
        refine Goes.ret X0 (v := (some (.int (1 : Int32)))) (fun h => by rw [Bd.returns] at h; cases h) Bd.notSynchronized (by decide) (by decide) e0 (fun fs hr => retN X0 hx (t := .boolean) Bd.returns (by simp) (hb hby d1_88) hr) ?_
        exact ⟨congrArg (fun z => some (Value.int z)) (show (1 : Int32) = own_space q from (show own_space q = (1 : Int32) from by unfold own_space; rw [if_pos hc4, if_neg hc10, if_pos hc16]).symm), N0, rfl⟩
      ·
        refine Goes.pre (U' := s₁.setTop (mkF m 23 #[.val (.int q)] [])) (fun t k => XS.icmpYes X0.here hx rfl (pc0 := 16) (pc' := 23) rfl (hb hby d1_16) rfl (feq hc16).2 (by decide) (by decide) k) ?_
        refine Goes.pre (U' := s₁.setTop (mkF m 24 #[.val (.int q)] [(.int (0 : Int32))])) (fun t k => XS.iconst X0.here hx rfl (hb hby d1_23) k) ?_
        refine Goes.pre (U' := s₁.setTop (mkF m 88 #[.val (.int q)] [(.int (0 : Int32))])) (fun t k => XS.goto X0.here hx rfl (pc0 := 24) (pc' := 88) rfl (hb hby d1_24) (by decide) (by decide) k) ?_
        refine Goes.ret X0 (v := (some (.int (0 : Int32)))) (fun h => by rw [Bd.returns] at h; cases h) Bd.notSynchronized (by decide) (by decide) e0 (fun fs hr => retN X0 hx (t := .boolean) Bd.returns (by simp) (hb hby d1_88) hr) ?_
        exact ⟨congrArg (fun z => some (Value.int z)) (show (0 : Int32) = own_space q from (show own_space q = (0 : Int32) from by unfold own_space; rw [if_pos hc4, if_neg hc10, if_neg hc16]).symm), N0, rfl⟩
  ·
    refine Goes.pre (U' := s₁.setTop (mkF m 27 #[.val (.int q)] [])) (fun t k => XS.icmpYes X0.here hx rfl (pc0 := 4) (pc' := 27) rfl (hb hby d1_4) rfl (flt hc4).2.1 (by decide) (by decide) k) ?_
    refine Goes.pre (U' := s₁.setTop (mkF m 28 #[.val (.int q)] [(.int q)])) (fun t k => XS.iloadN X0.here hx rfl (hb hby d1_27) rfl k) ?_
    refine Goes.pre (U' := s₁.setTop (mkF m 31 #[.val (.int q)] [(.int (160 : Int32)), (.int q)])) (fun t k => XS.sipush X0.here hx rfl (hb hby d1_28) k) ?_
    by_cases hc31 : q = (160 : Int32)
    ·
      refine Goes.pre (U' := s₁.setTop (mkF m 83 #[.val (.int q)] [])) (fun t k => XS.icmpYes X0.here hx rfl (pc0 := 31) (pc' := 83) rfl (hb hby d1_31) rfl (teq hc31).1 (by decide) (by decide) k) ?_
      refine Goes.pre (U' := s₁.setTop (mkF m 84 #[.val (.int q)] [(.int (1 : Int32))])) (fun t k => XS.iconst X0.here hx rfl (hb hby d1_83) k) ?_
      refine Goes.pre (U' := s₁.setTop (mkF m 88 #[.val (.int q)] [(.int (1 : Int32))])) (fun t k => XS.goto X0.here hx rfl (pc0 := 84) (pc' := 88) rfl (hb hby d1_84) (by decide) (by decide) k) ?_
      refine Goes.ret X0 (v := (some (.int (1 : Int32)))) (fun h => by rw [Bd.returns] at h; cases h) Bd.notSynchronized (by decide) (by decide) e0 (fun fs hr => retN X0 hx (t := .boolean) Bd.returns (by simp) (hb hby d1_88) hr) ?_
      exact ⟨congrArg (fun z => some (Value.int z)) (show (1 : Int32) = own_space q from (show own_space q = (1 : Int32) from by unfold own_space; rw [if_neg hc4, if_pos hc31]).symm), N0, rfl⟩
    ·
      refine Goes.pre (U' := s₁.setTop (mkF m 34 #[.val (.int q)] [])) (fun t k => XS.icmpNo X0.here hx rfl (hb hby d1_31) rfl (feq hc31).1 k) ?_
      refine Goes.pre (U' := s₁.setTop (mkF m 35 #[.val (.int q)] [(.int q)])) (fun t k => XS.iloadN X0.here hx rfl (hb hby d1_34) rfl k) ?_
      refine Goes.pre (U' := s₁.setTop (mkF m 38 #[.val (.int q)] [(.int (5760 : Int32)), (.int q)])) (fun t k => XS.sipush X0.here hx rfl (hb hby d1_35) k) ?_
      by_cases hc38 : q = (5760 : Int32)
      ·
        refine Goes.pre (U' := s₁.setTop (mkF m 83 #[.val (.int q)] [])) (fun t k => XS.icmpYes X0.here hx rfl (pc0 := 38) (pc' := 83) rfl (hb hby d1_38) rfl (teq hc38).1 (by decide) (by decide) k) ?_
        refine Goes.pre (U' := s₁.setTop (mkF m 84 #[.val (.int q)] [(.int (1 : Int32))])) (fun t k => XS.iconst X0.here hx rfl (hb hby d1_83) k) ?_
        refine Goes.pre (U' := s₁.setTop (mkF m 88 #[.val (.int q)] [(.int (1 : Int32))])) (fun t k => XS.goto X0.here hx rfl (pc0 := 84) (pc' := 88) rfl (hb hby d1_84) (by decide) (by decide) k) ?_
        refine Goes.ret X0 (v := (some (.int (1 : Int32)))) (fun h => by rw [Bd.returns] at h; cases h) Bd.notSynchronized (by decide) (by decide) e0 (fun fs hr => retN X0 hx (t := .boolean) Bd.returns (by simp) (hb hby d1_88) hr) ?_
        exact ⟨congrArg (fun z => some (Value.int z)) (show (1 : Int32) = own_space q from (show own_space q = (1 : Int32) from by unfold own_space; rw [if_neg hc4, if_neg hc31, if_pos hc38]).symm), N0, rfl⟩
      ·
        refine Goes.pre (U' := s₁.setTop (mkF m 41 #[.val (.int q)] [])) (fun t k => XS.icmpNo X0.here hx rfl (hb hby d1_38) rfl (feq hc38).1 k) ?_
        refine Goes.pre (U' := s₁.setTop (mkF m 42 #[.val (.int q)] [(.int q)])) (fun t k => XS.iloadN X0.here hx rfl (hb hby d1_41) rfl k) ?_
        refine Goes.pre (U' := s₁.setTop (mkF m 45 #[.val (.int q)] [(.int (6158 : Int32)), (.int q)])) (fun t k => XS.sipush X0.here hx rfl (hb hby d1_42) k) ?_
        by_cases hc45 : q = (6158 : Int32)
        ·
          refine Goes.pre (U' := s₁.setTop (mkF m 83 #[.val (.int q)] [])) (fun t k => XS.icmpYes X0.here hx rfl (pc0 := 45) (pc' := 83) rfl (hb hby d1_45) rfl (teq hc45).1 (by decide) (by decide) k) ?_
          refine Goes.pre (U' := s₁.setTop (mkF m 84 #[.val (.int q)] [(.int (1 : Int32))])) (fun t k => XS.iconst X0.here hx rfl (hb hby d1_83) k) ?_
          refine Goes.pre (U' := s₁.setTop (mkF m 88 #[.val (.int q)] [(.int (1 : Int32))])) (fun t k => XS.goto X0.here hx rfl (pc0 := 84) (pc' := 88) rfl (hb hby d1_84) (by decide) (by decide) k) ?_
          refine Goes.ret X0 (v := (some (.int (1 : Int32)))) (fun h => by rw [Bd.returns] at h; cases h) Bd.notSynchronized (by decide) (by decide) e0 (fun fs hr => retN X0 hx (t := .boolean) Bd.returns (by simp) (hb hby d1_88) hr) ?_
          exact ⟨congrArg (fun z => some (Value.int z)) (show (1 : Int32) = own_space q from (show own_space q = (1 : Int32) from by unfold own_space; rw [if_neg hc4, if_neg hc31, if_neg hc38, if_pos hc45]).symm), N0, rfl⟩
        ·
          refine Goes.pre (U' := s₁.setTop (mkF m 48 #[.val (.int q)] [])) (fun t k => XS.icmpNo X0.here hx rfl (hb hby d1_45) rfl (feq hc45).1 k) ?_
          refine Goes.pre (U' := s₁.setTop (mkF m 49 #[.val (.int q)] [(.int q)])) (fun t k => XS.iloadN X0.here hx rfl (hb hby d1_48) rfl k) ?_
          refine Goes.pre (U' := s₁.setTop (mkF m 52 #[.val (.int q)] [(.int (8192 : Int32)), (.int q)])) (fun t k => XS.sipush X0.here hx rfl (hb hby d1_49) k) ?_
          by_cases hc52 : q < (8192 : Int32)
          ·
            refine Goes.pre (U' := s₁.setTop (mkF m 62 #[.val (.int q)] [])) (fun t k => XS.icmpYes X0.here hx rfl (pc0 := 52) (pc' := 62) rfl (hb hby d1_52) rfl (tlt hc52).1 (by decide) (by decide) k) ?_
            refine Goes.pre (U' := s₁.setTop (mkF m 63 #[.val (.int q)] [(.int q)])) (fun t k => XS.iloadN X0.here hx rfl (hb hby d1_62) rfl k) ?_
            refine Goes.pre (U' := s₁.setTop (mkF m 66 #[.val (.int q)] [(.int (8239 : Int32)), (.int q)])) (fun t k => XS.sipush X0.here hx rfl (hb hby d1_63) k) ?_
            by_cases hc66 : q = (8239 : Int32)
            ·
              refine Goes.pre (U' := s₁.setTop (mkF m 83 #[.val (.int q)] [])) (fun t k => XS.icmpYes X0.here hx rfl (pc0 := 66) (pc' := 83) rfl (hb hby d1_66) rfl (teq hc66).1 (by decide) (by decide) k) ?_
              refine Goes.pre (U' := s₁.setTop (mkF m 84 #[.val (.int q)] [(.int (1 : Int32))])) (fun t k => XS.iconst X0.here hx rfl (hb hby d1_83) k) ?_
              refine Goes.pre (U' := s₁.setTop (mkF m 88 #[.val (.int q)] [(.int (1 : Int32))])) (fun t k => XS.goto X0.here hx rfl (pc0 := 84) (pc' := 88) rfl (hb hby d1_84) (by decide) (by decide) k) ?_
              refine Goes.ret X0 (v := (some (.int (1 : Int32)))) (fun h => by rw [Bd.returns] at h; cases h) Bd.notSynchronized (by decide) (by decide) e0 (fun fs hr => retN X0 hx (t := .boolean) Bd.returns (by simp) (hb hby d1_88) hr) ?_
              exact ⟨congrArg (fun z => some (Value.int z)) (show (1 : Int32) = own_space q from (show own_space q = (1 : Int32) from by unfold own_space; rw [if_neg hc4, if_neg hc31, if_neg hc38, if_neg hc45, if_pos hc52, if_pos hc66]).symm), N0, rfl⟩
            ·
              refine Goes.pre (U' := s₁.setTop (mkF m 69 #[.val (.int q)] [])) (fun t k => XS.icmpNo X0.here hx rfl (hb hby d1_66) rfl (feq hc66).1 k) ?_
              refine Goes.pre (U' := s₁.setTop (mkF m 70 #[.val (.int q)] [(.int q)])) (fun t k => XS.iloadN X0.here hx rfl (hb hby d1_69) rfl k) ?_
              refine Goes.pre (U' := s₁.setTop (mkF m 73 #[.val (.int q)] [(.int (8287 : Int32)), (.int q)])) (fun t k => XS.sipush X0.here hx rfl (hb hby d1_70) k) ?_
              by_cases hc73 : q = (8287 : Int32)
              ·
                refine Goes.pre (U' := s₁.setTop (mkF m 83 #[.val (.int q)] [])) (fun t k => XS.icmpYes X0.here hx rfl (pc0 := 73) (pc' := 83) rfl (hb hby d1_73) rfl (teq hc73).1 (by decide) (by decide) k) ?_
                refine Goes.pre (U' := s₁.setTop (mkF m 84 #[.val (.int q)] [(.int (1 : Int32))])) (fun t k => XS.iconst X0.here hx rfl (hb hby d1_83) k) ?_
                refine Goes.pre (U' := s₁.setTop (mkF m 88 #[.val (.int q)] [(.int (1 : Int32))])) (fun t k => XS.goto X0.here hx rfl (pc0 := 84) (pc' := 88) rfl (hb hby d1_84) (by decide) (by decide) k) ?_
                refine Goes.ret X0 (v := (some (.int (1 : Int32)))) (fun h => by rw [Bd.returns] at h; cases h) Bd.notSynchronized (by decide) (by decide) e0 (fun fs hr => retN X0 hx (t := .boolean) Bd.returns (by simp) (hb hby d1_88) hr) ?_
                exact ⟨congrArg (fun z => some (Value.int z)) (show (1 : Int32) = own_space q from (show own_space q = (1 : Int32) from by unfold own_space; rw [if_neg hc4, if_neg hc31, if_neg hc38, if_neg hc45, if_pos hc52, if_neg hc66, if_pos hc73]).symm), N0, rfl⟩
              ·
                refine Goes.pre (U' := s₁.setTop (mkF m 76 #[.val (.int q)] [])) (fun t k => XS.icmpNo X0.here hx rfl (hb hby d1_73) rfl (feq hc73).1 k) ?_
                refine Goes.pre (U' := s₁.setTop (mkF m 77 #[.val (.int q)] [(.int q)])) (fun t k => XS.iloadN X0.here hx rfl (hb hby d1_76) rfl k) ?_
                refine Goes.pre (U' := s₁.setTop (mkF m 80 #[.val (.int q)] [(.int (12288 : Int32)), (.int q)])) (fun t k => XS.sipush X0.here hx rfl (hb hby d1_77) k) ?_
                by_cases hc80 : q = (12288 : Int32)
                ·
                  refine Goes.pre (U' := s₁.setTop (mkF m 83 #[.val (.int q)] [])) (fun t k => XS.icmpNo X0.here hx rfl (hb hby d1_80) rfl (teq hc80).2 k) ?_
                  refine Goes.pre (U' := s₁.setTop (mkF m 84 #[.val (.int q)] [(.int (1 : Int32))])) (fun t k => XS.iconst X0.here hx rfl (hb hby d1_83) k) ?_
                  refine Goes.pre (U' := s₁.setTop (mkF m 88 #[.val (.int q)] [(.int (1 : Int32))])) (fun t k => XS.goto X0.here hx rfl (pc0 := 84) (pc' := 88) rfl (hb hby d1_84) (by decide) (by decide) k) ?_
                  refine Goes.ret X0 (v := (some (.int (1 : Int32)))) (fun h => by rw [Bd.returns] at h; cases h) Bd.notSynchronized (by decide) (by decide) e0 (fun fs hr => retN X0 hx (t := .boolean) Bd.returns (by simp) (hb hby d1_88) hr) ?_
                  exact ⟨congrArg (fun z => some (Value.int z)) (show (1 : Int32) = own_space q from (show own_space q = (1 : Int32) from by unfold own_space; rw [if_neg hc4, if_neg hc31, if_neg hc38, if_neg hc45, if_pos hc52, if_neg hc66, if_neg hc73, if_pos hc80]).symm), N0, rfl⟩
                ·
                  refine Goes.pre (U' := s₁.setTop (mkF m 87 #[.val (.int q)] [])) (fun t k => XS.icmpYes X0.here hx rfl (pc0 := 80) (pc' := 87) rfl (hb hby d1_80) rfl (feq hc80).2 (by decide) (by decide) k) ?_
                  refine Goes.pre (U' := s₁.setTop (mkF m 88 #[.val (.int q)] [(.int (0 : Int32))])) (fun t k => XS.iconst X0.here hx rfl (hb hby d1_87) k) ?_
                  refine Goes.ret X0 (v := (some (.int (0 : Int32)))) (fun h => by rw [Bd.returns] at h; cases h) Bd.notSynchronized (by decide) (by decide) e0 (fun fs hr => retN X0 hx (t := .boolean) Bd.returns (by simp) (hb hby d1_88) hr) ?_
                  exact ⟨congrArg (fun z => some (Value.int z)) (show (0 : Int32) = own_space q from (show own_space q = (0 : Int32) from by unfold own_space; rw [if_neg hc4, if_neg hc31, if_neg hc38, if_neg hc45, if_pos hc52, if_neg hc66, if_neg hc73, if_neg hc80]).symm), N0, rfl⟩
          ·
            refine Goes.pre (U' := s₁.setTop (mkF m 55 #[.val (.int q)] [])) (fun t k => XS.icmpNo X0.here hx rfl (hb hby d1_52) rfl (flt hc52).1 k) ?_
            refine Goes.pre (U' := s₁.setTop (mkF m 56 #[.val (.int q)] [(.int q)])) (fun t k => XS.iloadN X0.here hx rfl (hb hby d1_55) rfl k) ?_
            refine Goes.pre (U' := s₁.setTop (mkF m 59 #[.val (.int q)] [(.int (8202 : Int32)), (.int q)])) (fun t k => XS.sipush X0.here hx rfl (hb hby d1_56) k) ?_
            by_cases hc59 : (8202 : Int32) < q
            ·
              refine Goes.pre (U' := s₁.setTop (mkF m 62 #[.val (.int q)] [])) (fun t k => XS.icmpNo X0.here hx rfl (hb hby d1_59) rfl (tlt hc59).2.2.2 k) ?_
              refine Goes.pre (U' := s₁.setTop (mkF m 63 #[.val (.int q)] [(.int q)])) (fun t k => XS.iloadN X0.here hx rfl (hb hby d1_62) rfl k) ?_
              refine Goes.pre (U' := s₁.setTop (mkF m 66 #[.val (.int q)] [(.int (8239 : Int32)), (.int q)])) (fun t k => XS.sipush X0.here hx rfl (hb hby d1_63) k) ?_
              by_cases hc66 : q = (8239 : Int32)
              ·
                refine Goes.pre (U' := s₁.setTop (mkF m 83 #[.val (.int q)] [])) (fun t k => XS.icmpYes X0.here hx rfl (pc0 := 66) (pc' := 83) rfl (hb hby d1_66) rfl (teq hc66).1 (by decide) (by decide) k) ?_
                refine Goes.pre (U' := s₁.setTop (mkF m 84 #[.val (.int q)] [(.int (1 : Int32))])) (fun t k => XS.iconst X0.here hx rfl (hb hby d1_83) k) ?_
                refine Goes.pre (U' := s₁.setTop (mkF m 88 #[.val (.int q)] [(.int (1 : Int32))])) (fun t k => XS.goto X0.here hx rfl (pc0 := 84) (pc' := 88) rfl (hb hby d1_84) (by decide) (by decide) k) ?_
                refine Goes.ret X0 (v := (some (.int (1 : Int32)))) (fun h => by rw [Bd.returns] at h; cases h) Bd.notSynchronized (by decide) (by decide) e0 (fun fs hr => retN X0 hx (t := .boolean) Bd.returns (by simp) (hb hby d1_88) hr) ?_
                exact ⟨congrArg (fun z => some (Value.int z)) (show (1 : Int32) = own_space q from (show own_space q = (1 : Int32) from by unfold own_space; rw [if_neg hc4, if_neg hc31, if_neg hc38, if_neg hc45, if_neg hc52, if_pos hc59, if_pos hc66]).symm), N0, rfl⟩
              ·
                refine Goes.pre (U' := s₁.setTop (mkF m 69 #[.val (.int q)] [])) (fun t k => XS.icmpNo X0.here hx rfl (hb hby d1_66) rfl (feq hc66).1 k) ?_
                refine Goes.pre (U' := s₁.setTop (mkF m 70 #[.val (.int q)] [(.int q)])) (fun t k => XS.iloadN X0.here hx rfl (hb hby d1_69) rfl k) ?_
                refine Goes.pre (U' := s₁.setTop (mkF m 73 #[.val (.int q)] [(.int (8287 : Int32)), (.int q)])) (fun t k => XS.sipush X0.here hx rfl (hb hby d1_70) k) ?_
                by_cases hc73 : q = (8287 : Int32)
                ·
                  refine Goes.pre (U' := s₁.setTop (mkF m 83 #[.val (.int q)] [])) (fun t k => XS.icmpYes X0.here hx rfl (pc0 := 73) (pc' := 83) rfl (hb hby d1_73) rfl (teq hc73).1 (by decide) (by decide) k) ?_
                  refine Goes.pre (U' := s₁.setTop (mkF m 84 #[.val (.int q)] [(.int (1 : Int32))])) (fun t k => XS.iconst X0.here hx rfl (hb hby d1_83) k) ?_
                  refine Goes.pre (U' := s₁.setTop (mkF m 88 #[.val (.int q)] [(.int (1 : Int32))])) (fun t k => XS.goto X0.here hx rfl (pc0 := 84) (pc' := 88) rfl (hb hby d1_84) (by decide) (by decide) k) ?_
                  refine Goes.ret X0 (v := (some (.int (1 : Int32)))) (fun h => by rw [Bd.returns] at h; cases h) Bd.notSynchronized (by decide) (by decide) e0 (fun fs hr => retN X0 hx (t := .boolean) Bd.returns (by simp) (hb hby d1_88) hr) ?_
                  exact ⟨congrArg (fun z => some (Value.int z)) (show (1 : Int32) = own_space q from (show own_space q = (1 : Int32) from by unfold own_space; rw [if_neg hc4, if_neg hc31, if_neg hc38, if_neg hc45, if_neg hc52, if_pos hc59, if_neg hc66, if_pos hc73]).symm), N0, rfl⟩
                ·
                  refine Goes.pre (U' := s₁.setTop (mkF m 76 #[.val (.int q)] [])) (fun t k => XS.icmpNo X0.here hx rfl (hb hby d1_73) rfl (feq hc73).1 k) ?_
                  refine Goes.pre (U' := s₁.setTop (mkF m 77 #[.val (.int q)] [(.int q)])) (fun t k => XS.iloadN X0.here hx rfl (hb hby d1_76) rfl k) ?_
                  refine Goes.pre (U' := s₁.setTop (mkF m 80 #[.val (.int q)] [(.int (12288 : Int32)), (.int q)])) (fun t k => XS.sipush X0.here hx rfl (hb hby d1_77) k) ?_
                  by_cases hc80 : q = (12288 : Int32)
                  ·
                    refine Goes.pre (U' := s₁.setTop (mkF m 83 #[.val (.int q)] [])) (fun t k => XS.icmpNo X0.here hx rfl (hb hby d1_80) rfl (teq hc80).2 k) ?_
                    refine Goes.pre (U' := s₁.setTop (mkF m 84 #[.val (.int q)] [(.int (1 : Int32))])) (fun t k => XS.iconst X0.here hx rfl (hb hby d1_83) k) ?_
                    refine Goes.pre (U' := s₁.setTop (mkF m 88 #[.val (.int q)] [(.int (1 : Int32))])) (fun t k => XS.goto X0.here hx rfl (pc0 := 84) (pc' := 88) rfl (hb hby d1_84) (by decide) (by decide) k) ?_
                    refine Goes.ret X0 (v := (some (.int (1 : Int32)))) (fun h => by rw [Bd.returns] at h; cases h) Bd.notSynchronized (by decide) (by decide) e0 (fun fs hr => retN X0 hx (t := .boolean) Bd.returns (by simp) (hb hby d1_88) hr) ?_
                    exact ⟨congrArg (fun z => some (Value.int z)) (show (1 : Int32) = own_space q from (show own_space q = (1 : Int32) from by unfold own_space; rw [if_neg hc4, if_neg hc31, if_neg hc38, if_neg hc45, if_neg hc52, if_pos hc59, if_neg hc66, if_neg hc73, if_pos hc80]).symm), N0, rfl⟩
                  ·
                    refine Goes.pre (U' := s₁.setTop (mkF m 87 #[.val (.int q)] [])) (fun t k => XS.icmpYes X0.here hx rfl (pc0 := 80) (pc' := 87) rfl (hb hby d1_80) rfl (feq hc80).2 (by decide) (by decide) k) ?_
                    refine Goes.pre (U' := s₁.setTop (mkF m 88 #[.val (.int q)] [(.int (0 : Int32))])) (fun t k => XS.iconst X0.here hx rfl (hb hby d1_87) k) ?_
                    refine Goes.ret X0 (v := (some (.int (0 : Int32)))) (fun h => by rw [Bd.returns] at h; cases h) Bd.notSynchronized (by decide) (by decide) e0 (fun fs hr => retN X0 hx (t := .boolean) Bd.returns (by simp) (hb hby d1_88) hr) ?_
                    exact ⟨congrArg (fun z => some (Value.int z)) (show (0 : Int32) = own_space q from (show own_space q = (0 : Int32) from by unfold own_space; rw [if_neg hc4, if_neg hc31, if_neg hc38, if_neg hc45, if_neg hc52, if_pos hc59, if_neg hc66, if_neg hc73, if_neg hc80]).symm), N0, rfl⟩
            ·
              refine Goes.pre (U' := s₁.setTop (mkF m 83 #[.val (.int q)] [])) (fun t k => XS.icmpYes X0.here hx rfl (pc0 := 59) (pc' := 83) rfl (hb hby d1_59) rfl (flt hc59).2.2.2 (by decide) (by decide) k) ?_
              refine Goes.pre (U' := s₁.setTop (mkF m 84 #[.val (.int q)] [(.int (1 : Int32))])) (fun t k => XS.iconst X0.here hx rfl (hb hby d1_83) k) ?_
              refine Goes.pre (U' := s₁.setTop (mkF m 88 #[.val (.int q)] [(.int (1 : Int32))])) (fun t k => XS.goto X0.here hx rfl (pc0 := 84) (pc' := 88) rfl (hb hby d1_84) (by decide) (by decide) k) ?_
              refine Goes.ret X0 (v := (some (.int (1 : Int32)))) (fun h => by rw [Bd.returns] at h; cases h) Bd.notSynchronized (by decide) (by decide) e0 (fun fs hr => retN X0 hx (t := .boolean) Bd.returns (by simp) (hb hby d1_88) hr) ?_
              exact ⟨congrArg (fun z => some (Value.int z)) (show (1 : Int32) = own_space q from (show own_space q = (1 : Int32) from by unfold own_space; rw [if_neg hc4, if_neg hc31, if_neg hc38, if_neg hc45, if_neg hc52, if_neg hc59]).symm), N0, rfl⟩
theorem ef_rm_horiz (m : MethodId) (x0 : Int32) : entryFrame m #[(.int x0)] 1 = mkF m 0 #[.val (.int x0)] [] := by first | (simp [entryFrame, mkF, argsToLocals, Value.category]; done) | rfl
theorem pn_com_example_restate_restate_plan_SpacesSpacePinLaw : plainName "com/example/restate/restate/plan/SpacesSpacePinLaw" = true := by first | (simp [plainName, overriddenIn]; done) | decide +kernel
theorem d2_0 : decode method_2_code 0 = .ok (.iload_n 0, 1) := by decide +kernel
theorem d2_1 : decode method_2_code 1 = .ok (.sipush 8192, 3) := by decide +kernel
theorem d2_4 : decode method_2_code 4 = .ok (.if_icmp .lt 12, 3) := by decide +kernel
theorem d2_16 : decode method_2_code 16 = .ok (.iload_n 0, 1) := by decide +kernel
theorem d2_17 : decode method_2_code 17 = .ok (.lookupswitch 77 #[(9, 75), (32, 75), (160, 75), (5760, 75), (6158, 75), (8239, 75), (8287, 75), (12288, 75)], 75) := by decide +kernel
theorem d2_92 : decode method_2_code 92 = .ok (.iconst 1, 1) := by decide +kernel
theorem d2_93 : decode method_2_code 93 = .ok (.ireturn, 1) := by decide +kernel
theorem d2_94 : decode method_2_code 94 = .ok (.iconst 0, 1) := by decide +kernel
theorem d2_95 : decode method_2_code 95 = .ok (.ireturn, 1) := by decide +kernel
theorem d2_7 : decode method_2_code 7 = .ok (.iload_n 0, 1) := by decide +kernel
theorem d2_8 : decode method_2_code 8 = .ok (.sipush 8202, 3) := by decide +kernel
theorem d2_11 : decode method_2_code 11 = .ok (.if_icmp .gt 5, 3) := by decide +kernel
theorem d2_14 : decode method_2_code 14 = .ok (.iconst 1, 1) := by decide +kernel
theorem d2_15 : decode method_2_code 15 = .ok (.ireturn, 1) := by decide +kernel
def own_horiz (q : Int32) : Int32 := (if q < (8192 : Int32) then (if (9 : Int) = q.toInt then (1 : Int32) else (if (32 : Int) = q.toInt then (1 : Int32) else (if (160 : Int) = q.toInt then (1 : Int32) else (if (5760 : Int) = q.toInt then (1 : Int32) else (if (6158 : Int) = q.toInt then (1 : Int32) else (if (8239 : Int) = q.toInt then (1 : Int32) else (if (8287 : Int) = q.toInt then (1 : Int32) else (if (12288 : Int) = q.toInt then (1 : Int32) else (0 : Int32))))))))) else (if (8202 : Int32) < q then (if (9 : Int) = q.toInt then (1 : Int32) else (if (32 : Int) = q.toInt then (1 : Int32) else (if (160 : Int) = q.toInt then (1 : Int32) else (if (5760 : Int) = q.toInt then (1 : Int32) else (if (6158 : Int) = q.toInt then (1 : Int32) else (if (8239 : Int) = q.toInt then (1 : Int32) else (if (8287 : Int) = q.toInt then (1 : Int32) else (if (12288 : Int) = q.toInt then (1 : Int32) else (0 : Int32))))))))) else (1 : Int32)))
def Q_rm_horiz (Z : State) (q : Int32) (h0 : Heap) (n0 : Nat) (v : Option Value) (h : Heap) (L : List Loc) : Prop := v = some (.int (own_horiz q)) ∧ Fr n0 L ∧ h = h0
set_option maxRecDepth 65536 in
set_option maxHeartbeats 40000000 in
theorem rm_horiz (l : Launch) (Z : State) (a0 : Array Value) (hw : ∀ d ∈ tables_1, d.before a0 Z = true) (ws : List Jvm.Cond) (q : Int32) (h0 : Heap) (n0 : Nat) (Z0 : n0 ≤ h0.size)  :
    MetFree l (⟨"com/example/restate/restate/plan/SpacesSpacePinLaw", "horizontal", "(I)Z"⟩ : MethodName) (head1 (Jvm.Cond.code (⟨"com/example/restate/restate/plan/SpacesSpacePinLaw", "horizontal", "(I)Z"⟩ : MethodName) method_2_code 1 (some .boolean) :: ws) ({ frames := 0, cells := 0, slots := 0, locals := 0 } : Room)) (fun argv U => argv = #[(.int q)] ∧ Z.Warmed39 U.vm ∧ U.heap = h0) (fun _ _ _ _ _ => True) (fun _ U o U' => ∃ v L, o = .returned v ∧ Q_rm_horiz Z q h0 n0 v U'.heap L ∧ FrameEnd U o U' L ({ frames := 0, cells := 0, slots := 0, locals := 0 } : Room).cells ({ frames := 0, cells := 0, slots := 0, locals := 0 } : Room).slots) := by
  refine MetFree.of_bodySF (plainFor_of_name pn_com_example_restate_restate_plan_SpacesSpacePinLaw) hisR ?_
  intro p e s m args below meth c s₁ Bd hml0 hP hK
  obtain ⟨rfl, hZ, hh⟩ := hP
  have hx := Bd.exec
  have hby := Bd.bytes
  have hml : c.maxLocals = 1 := hml0
  have hown : s.vm.findClass "com/example/restate/restate/plan/SpacesSpacePinLaw" = some m.cls := findClass_of_methodNamed Bd.named
  have hnm := (name_of_methodNamed Bd.named Bd.method).1
  have X0 : Stand p l e ({ frames := 0, cells := 0, slots := 0, locals := 0 } : Room) s m #[(.int q)] below meth c s₁ [] 0 0 := Stand.of_body Bd
  have e0 : s₁.heap = h0 := by rw [← hh, Bd.state]; rfl
  have N0 := Fr.nil n0
  refine Goes.enter (Q := fun v h L => Q_rm_horiz Z q h0 n0 v h L) (C := ({ frames := 0, cells := 0, slots := 0, locals := 0 } : Room).cells) (S := ({ frames := 0, cells := 0, slots := 0, locals := 0 } : Room).slots) (ef_rm_horiz m q) ?_
  show Goes p e below s _ _ _ (s₁.setTop (mkF m 0 #[.val (.int q)] []))
  refine Goes.pre (U' := s₁.setTop (mkF m 1 #[.val (.int q)] [(.int q)])) (fun t k => XS.iloadN X0.here hx rfl (hb hby d2_0) rfl k) ?_
  refine Goes.pre (U' := s₁.setTop (mkF m 4 #[.val (.int q)] [(.int (8192 : Int32)), (.int q)])) (fun t k => XS.sipush X0.here hx rfl (hb hby d2_1) k) ?_
  by_cases hc4 : q < (8192 : Int32)
  ·
    refine Goes.pre (U' := s₁.setTop (mkF m 16 #[.val (.int q)] [])) (fun t k => XS.icmpYes X0.here hx rfl (pc0 := 4) (pc' := 16) rfl (hb hby d2_4) rfl (tlt hc4).1 (by decide) (by decide) k) ?_
    refine Goes.pre (U' := s₁.setTop (mkF m 17 #[.val (.int q)] [(.int q)])) (fun t k => XS.iloadN X0.here hx rfl (hb hby d2_16) rfl k) ?_
    by_cases hs17_0 : (9 : Int) = q.toInt
    ·
      refine Goes.pre (U' := s₁.setTop (mkF m 92 #[.val (.int q)] [])) (fun t k => own_lsw X0.here hx rfl (pc0 := 17) (pc' := 92) rfl (hb hby d2_17) rfl (o := 75) (by intro a b a' b' h; simp at h; omega) (by simp only [lookupswitch.offset]; simp [hs17_0]) (by decide) (by decide) k) ?_
      refine Goes.pre (U' := s₁.setTop (mkF m 93 #[.val (.int q)] [(.int (1 : Int32))])) (fun t k => XS.iconst X0.here hx rfl (hb hby d2_92) k) ?_
      refine Goes.ret X0 (v := (some (.int (1 : Int32)))) (fun h => by rw [Bd.returns] at h; cases h) Bd.notSynchronized (by decide) (by decide) e0 (fun fs hr => retN X0 hx (t := .boolean) Bd.returns (by simp) (hb hby d2_93) hr) ?_
      exact ⟨congrArg (fun z => some (Value.int z)) (show (1 : Int32) = own_horiz q from (show own_horiz q = (1 : Int32) from by unfold own_horiz; rw [if_pos hc4, if_pos hs17_0]).symm), N0, rfl⟩
    ·
      by_cases hs17_1 : (32 : Int) = q.toInt
      ·
        refine Goes.pre (U' := s₁.setTop (mkF m 92 #[.val (.int q)] [])) (fun t k => own_lsw X0.here hx rfl (pc0 := 17) (pc' := 92) rfl (hb hby d2_17) rfl (o := 75) (by intro a b a' b' h; simp at h; omega) (by simp only [lookupswitch.offset]; simp [hs17_0, hs17_1]) (by decide) (by decide) k) ?_
        refine Goes.pre (U' := s₁.setTop (mkF m 93 #[.val (.int q)] [(.int (1 : Int32))])) (fun t k => XS.iconst X0.here hx rfl (hb hby d2_92) k) ?_
        refine Goes.ret X0 (v := (some (.int (1 : Int32)))) (fun h => by rw [Bd.returns] at h; cases h) Bd.notSynchronized (by decide) (by decide) e0 (fun fs hr => retN X0 hx (t := .boolean) Bd.returns (by simp) (hb hby d2_93) hr) ?_
        exact ⟨congrArg (fun z => some (Value.int z)) (show (1 : Int32) = own_horiz q from (show own_horiz q = (1 : Int32) from by unfold own_horiz; rw [if_pos hc4, if_neg hs17_0, if_pos hs17_1]).symm), N0, rfl⟩
      ·
        by_cases hs17_2 : (160 : Int) = q.toInt
        ·
          refine Goes.pre (U' := s₁.setTop (mkF m 92 #[.val (.int q)] [])) (fun t k => own_lsw X0.here hx rfl (pc0 := 17) (pc' := 92) rfl (hb hby d2_17) rfl (o := 75) (by intro a b a' b' h; simp at h; omega) (by simp only [lookupswitch.offset]; simp [hs17_0, hs17_1, hs17_2]) (by decide) (by decide) k) ?_
          refine Goes.pre (U' := s₁.setTop (mkF m 93 #[.val (.int q)] [(.int (1 : Int32))])) (fun t k => XS.iconst X0.here hx rfl (hb hby d2_92) k) ?_
          refine Goes.ret X0 (v := (some (.int (1 : Int32)))) (fun h => by rw [Bd.returns] at h; cases h) Bd.notSynchronized (by decide) (by decide) e0 (fun fs hr => retN X0 hx (t := .boolean) Bd.returns (by simp) (hb hby d2_93) hr) ?_
          exact ⟨congrArg (fun z => some (Value.int z)) (show (1 : Int32) = own_horiz q from (show own_horiz q = (1 : Int32) from by unfold own_horiz; rw [if_pos hc4, if_neg hs17_0, if_neg hs17_1, if_pos hs17_2]).symm), N0, rfl⟩
        ·
          by_cases hs17_3 : (5760 : Int) = q.toInt
          ·
            refine Goes.pre (U' := s₁.setTop (mkF m 92 #[.val (.int q)] [])) (fun t k => own_lsw X0.here hx rfl (pc0 := 17) (pc' := 92) rfl (hb hby d2_17) rfl (o := 75) (by intro a b a' b' h; simp at h; omega) (by simp only [lookupswitch.offset]; simp [hs17_0, hs17_1, hs17_2, hs17_3]) (by decide) (by decide) k) ?_
            refine Goes.pre (U' := s₁.setTop (mkF m 93 #[.val (.int q)] [(.int (1 : Int32))])) (fun t k => XS.iconst X0.here hx rfl (hb hby d2_92) k) ?_
            refine Goes.ret X0 (v := (some (.int (1 : Int32)))) (fun h => by rw [Bd.returns] at h; cases h) Bd.notSynchronized (by decide) (by decide) e0 (fun fs hr => retN X0 hx (t := .boolean) Bd.returns (by simp) (hb hby d2_93) hr) ?_
            exact ⟨congrArg (fun z => some (Value.int z)) (show (1 : Int32) = own_horiz q from (show own_horiz q = (1 : Int32) from by unfold own_horiz; rw [if_pos hc4, if_neg hs17_0, if_neg hs17_1, if_neg hs17_2, if_pos hs17_3]).symm), N0, rfl⟩
          ·
            by_cases hs17_4 : (6158 : Int) = q.toInt
            ·
              refine Goes.pre (U' := s₁.setTop (mkF m 92 #[.val (.int q)] [])) (fun t k => own_lsw X0.here hx rfl (pc0 := 17) (pc' := 92) rfl (hb hby d2_17) rfl (o := 75) (by intro a b a' b' h; simp at h; omega) (by simp only [lookupswitch.offset]; simp [hs17_0, hs17_1, hs17_2, hs17_3, hs17_4]) (by decide) (by decide) k) ?_
              refine Goes.pre (U' := s₁.setTop (mkF m 93 #[.val (.int q)] [(.int (1 : Int32))])) (fun t k => XS.iconst X0.here hx rfl (hb hby d2_92) k) ?_
              refine Goes.ret X0 (v := (some (.int (1 : Int32)))) (fun h => by rw [Bd.returns] at h; cases h) Bd.notSynchronized (by decide) (by decide) e0 (fun fs hr => retN X0 hx (t := .boolean) Bd.returns (by simp) (hb hby d2_93) hr) ?_
              exact ⟨congrArg (fun z => some (Value.int z)) (show (1 : Int32) = own_horiz q from (show own_horiz q = (1 : Int32) from by unfold own_horiz; rw [if_pos hc4, if_neg hs17_0, if_neg hs17_1, if_neg hs17_2, if_neg hs17_3, if_pos hs17_4]).symm), N0, rfl⟩
            ·
              by_cases hs17_5 : (8239 : Int) = q.toInt
              ·
                refine Goes.pre (U' := s₁.setTop (mkF m 92 #[.val (.int q)] [])) (fun t k => own_lsw X0.here hx rfl (pc0 := 17) (pc' := 92) rfl (hb hby d2_17) rfl (o := 75) (by intro a b a' b' h; simp at h; omega) (by simp only [lookupswitch.offset]; simp [hs17_0, hs17_1, hs17_2, hs17_3, hs17_4, hs17_5]) (by decide) (by decide) k) ?_
                refine Goes.pre (U' := s₁.setTop (mkF m 93 #[.val (.int q)] [(.int (1 : Int32))])) (fun t k => XS.iconst X0.here hx rfl (hb hby d2_92) k) ?_
                refine Goes.ret X0 (v := (some (.int (1 : Int32)))) (fun h => by rw [Bd.returns] at h; cases h) Bd.notSynchronized (by decide) (by decide) e0 (fun fs hr => retN X0 hx (t := .boolean) Bd.returns (by simp) (hb hby d2_93) hr) ?_
                exact ⟨congrArg (fun z => some (Value.int z)) (show (1 : Int32) = own_horiz q from (show own_horiz q = (1 : Int32) from by unfold own_horiz; rw [if_pos hc4, if_neg hs17_0, if_neg hs17_1, if_neg hs17_2, if_neg hs17_3, if_neg hs17_4, if_pos hs17_5]).symm), N0, rfl⟩
              ·
                by_cases hs17_6 : (8287 : Int) = q.toInt
                ·
                  refine Goes.pre (U' := s₁.setTop (mkF m 92 #[.val (.int q)] [])) (fun t k => own_lsw X0.here hx rfl (pc0 := 17) (pc' := 92) rfl (hb hby d2_17) rfl (o := 75) (by intro a b a' b' h; simp at h; omega) (by simp only [lookupswitch.offset]; simp [hs17_0, hs17_1, hs17_2, hs17_3, hs17_4, hs17_5, hs17_6]) (by decide) (by decide) k) ?_
                  refine Goes.pre (U' := s₁.setTop (mkF m 93 #[.val (.int q)] [(.int (1 : Int32))])) (fun t k => XS.iconst X0.here hx rfl (hb hby d2_92) k) ?_
                  refine Goes.ret X0 (v := (some (.int (1 : Int32)))) (fun h => by rw [Bd.returns] at h; cases h) Bd.notSynchronized (by decide) (by decide) e0 (fun fs hr => retN X0 hx (t := .boolean) Bd.returns (by simp) (hb hby d2_93) hr) ?_
                  exact ⟨congrArg (fun z => some (Value.int z)) (show (1 : Int32) = own_horiz q from (show own_horiz q = (1 : Int32) from by unfold own_horiz; rw [if_pos hc4, if_neg hs17_0, if_neg hs17_1, if_neg hs17_2, if_neg hs17_3, if_neg hs17_4, if_neg hs17_5, if_pos hs17_6]).symm), N0, rfl⟩
                ·
                  by_cases hs17_7 : (12288 : Int) = q.toInt
                  ·
                    refine Goes.pre (U' := s₁.setTop (mkF m 92 #[.val (.int q)] [])) (fun t k => own_lsw X0.here hx rfl (pc0 := 17) (pc' := 92) rfl (hb hby d2_17) rfl (o := 75) (by intro a b a' b' h; simp at h; omega) (by simp only [lookupswitch.offset]; simp [hs17_0, hs17_1, hs17_2, hs17_3, hs17_4, hs17_5, hs17_6, hs17_7]) (by decide) (by decide) k) ?_
                    refine Goes.pre (U' := s₁.setTop (mkF m 93 #[.val (.int q)] [(.int (1 : Int32))])) (fun t k => XS.iconst X0.here hx rfl (hb hby d2_92) k) ?_
                    refine Goes.ret X0 (v := (some (.int (1 : Int32)))) (fun h => by rw [Bd.returns] at h; cases h) Bd.notSynchronized (by decide) (by decide) e0 (fun fs hr => retN X0 hx (t := .boolean) Bd.returns (by simp) (hb hby d2_93) hr) ?_
                    exact ⟨congrArg (fun z => some (Value.int z)) (show (1 : Int32) = own_horiz q from (show own_horiz q = (1 : Int32) from by unfold own_horiz; rw [if_pos hc4, if_neg hs17_0, if_neg hs17_1, if_neg hs17_2, if_neg hs17_3, if_neg hs17_4, if_neg hs17_5, if_neg hs17_6, if_pos hs17_7]).symm), N0, rfl⟩
                  ·
                    refine Goes.pre (U' := s₁.setTop (mkF m 94 #[.val (.int q)] [])) (fun t k => own_lsw X0.here hx rfl (pc0 := 17) (pc' := 94) rfl (hb hby d2_17) rfl (o := 77) (by intro a b a' b' h; simp at h; omega) (by simp only [lookupswitch.offset]; simp [hs17_0, hs17_1, hs17_2, hs17_3, hs17_4, hs17_5, hs17_6, hs17_7]) (by decide) (by decide) k) ?_
                    refine Goes.pre (U' := s₁.setTop (mkF m 95 #[.val (.int q)] [(.int (0 : Int32))])) (fun t k => XS.iconst X0.here hx rfl (hb hby d2_94) k) ?_
                    refine Goes.ret X0 (v := (some (.int (0 : Int32)))) (fun h => by rw [Bd.returns] at h; cases h) Bd.notSynchronized (by decide) (by decide) e0 (fun fs hr => retN X0 hx (t := .boolean) Bd.returns (by simp) (hb hby d2_95) hr) ?_
                    exact ⟨congrArg (fun z => some (Value.int z)) (show (0 : Int32) = own_horiz q from (show own_horiz q = (0 : Int32) from by unfold own_horiz; rw [if_pos hc4, if_neg hs17_0, if_neg hs17_1, if_neg hs17_2, if_neg hs17_3, if_neg hs17_4, if_neg hs17_5, if_neg hs17_6, if_neg hs17_7]).symm), N0, rfl⟩
  ·
    refine Goes.pre (U' := s₁.setTop (mkF m 7 #[.val (.int q)] [])) (fun t k => XS.icmpNo X0.here hx rfl (hb hby d2_4) rfl (flt hc4).1 k) ?_
    refine Goes.pre (U' := s₁.setTop (mkF m 8 #[.val (.int q)] [(.int q)])) (fun t k => XS.iloadN X0.here hx rfl (hb hby d2_7) rfl k) ?_
    refine Goes.pre (U' := s₁.setTop (mkF m 11 #[.val (.int q)] [(.int (8202 : Int32)), (.int q)])) (fun t k => XS.sipush X0.here hx rfl (hb hby d2_8) k) ?_
    by_cases hc11 : (8202 : Int32) < q
    ·
      refine Goes.pre (U' := s₁.setTop (mkF m 16 #[.val (.int q)] [])) (fun t k => XS.icmpYes X0.here hx rfl (pc0 := 11) (pc' := 16) rfl (hb hby d2_11) rfl (tlt hc11).2.2.1 (by decide) (by decide) k) ?_
      refine Goes.pre (U' := s₁.setTop (mkF m 17 #[.val (.int q)] [(.int q)])) (fun t k => XS.iloadN X0.here hx rfl (hb hby d2_16) rfl k) ?_
      by_cases hs17_0 : (9 : Int) = q.toInt
      ·
        refine Goes.pre (U' := s₁.setTop (mkF m 92 #[.val (.int q)] [])) (fun t k => own_lsw X0.here hx rfl (pc0 := 17) (pc' := 92) rfl (hb hby d2_17) rfl (o := 75) (by intro a b a' b' h; simp at h; omega) (by simp only [lookupswitch.offset]; simp [hs17_0]) (by decide) (by decide) k) ?_
        refine Goes.pre (U' := s₁.setTop (mkF m 93 #[.val (.int q)] [(.int (1 : Int32))])) (fun t k => XS.iconst X0.here hx rfl (hb hby d2_92) k) ?_
        refine Goes.ret X0 (v := (some (.int (1 : Int32)))) (fun h => by rw [Bd.returns] at h; cases h) Bd.notSynchronized (by decide) (by decide) e0 (fun fs hr => retN X0 hx (t := .boolean) Bd.returns (by simp) (hb hby d2_93) hr) ?_
        exact ⟨congrArg (fun z => some (Value.int z)) (show (1 : Int32) = own_horiz q from (show own_horiz q = (1 : Int32) from by unfold own_horiz; rw [if_neg hc4, if_pos hc11, if_pos hs17_0]).symm), N0, rfl⟩
      ·
        by_cases hs17_1 : (32 : Int) = q.toInt
        ·
          refine Goes.pre (U' := s₁.setTop (mkF m 92 #[.val (.int q)] [])) (fun t k => own_lsw X0.here hx rfl (pc0 := 17) (pc' := 92) rfl (hb hby d2_17) rfl (o := 75) (by intro a b a' b' h; simp at h; omega) (by simp only [lookupswitch.offset]; simp [hs17_0, hs17_1]) (by decide) (by decide) k) ?_
          refine Goes.pre (U' := s₁.setTop (mkF m 93 #[.val (.int q)] [(.int (1 : Int32))])) (fun t k => XS.iconst X0.here hx rfl (hb hby d2_92) k) ?_
          refine Goes.ret X0 (v := (some (.int (1 : Int32)))) (fun h => by rw [Bd.returns] at h; cases h) Bd.notSynchronized (by decide) (by decide) e0 (fun fs hr => retN X0 hx (t := .boolean) Bd.returns (by simp) (hb hby d2_93) hr) ?_
          exact ⟨congrArg (fun z => some (Value.int z)) (show (1 : Int32) = own_horiz q from (show own_horiz q = (1 : Int32) from by unfold own_horiz; rw [if_neg hc4, if_pos hc11, if_neg hs17_0, if_pos hs17_1]).symm), N0, rfl⟩
        ·
          by_cases hs17_2 : (160 : Int) = q.toInt
          ·
            refine Goes.pre (U' := s₁.setTop (mkF m 92 #[.val (.int q)] [])) (fun t k => own_lsw X0.here hx rfl (pc0 := 17) (pc' := 92) rfl (hb hby d2_17) rfl (o := 75) (by intro a b a' b' h; simp at h; omega) (by simp only [lookupswitch.offset]; simp [hs17_0, hs17_1, hs17_2]) (by decide) (by decide) k) ?_
            refine Goes.pre (U' := s₁.setTop (mkF m 93 #[.val (.int q)] [(.int (1 : Int32))])) (fun t k => XS.iconst X0.here hx rfl (hb hby d2_92) k) ?_
            refine Goes.ret X0 (v := (some (.int (1 : Int32)))) (fun h => by rw [Bd.returns] at h; cases h) Bd.notSynchronized (by decide) (by decide) e0 (fun fs hr => retN X0 hx (t := .boolean) Bd.returns (by simp) (hb hby d2_93) hr) ?_
            exact ⟨congrArg (fun z => some (Value.int z)) (show (1 : Int32) = own_horiz q from (show own_horiz q = (1 : Int32) from by unfold own_horiz; rw [if_neg hc4, if_pos hc11, if_neg hs17_0, if_neg hs17_1, if_pos hs17_2]).symm), N0, rfl⟩
          ·
            by_cases hs17_3 : (5760 : Int) = q.toInt
            ·
              refine Goes.pre (U' := s₁.setTop (mkF m 92 #[.val (.int q)] [])) (fun t k => own_lsw X0.here hx rfl (pc0 := 17) (pc' := 92) rfl (hb hby d2_17) rfl (o := 75) (by intro a b a' b' h; simp at h; omega) (by simp only [lookupswitch.offset]; simp [hs17_0, hs17_1, hs17_2, hs17_3]) (by decide) (by decide) k) ?_
              refine Goes.pre (U' := s₁.setTop (mkF m 93 #[.val (.int q)] [(.int (1 : Int32))])) (fun t k => XS.iconst X0.here hx rfl (hb hby d2_92) k) ?_
              refine Goes.ret X0 (v := (some (.int (1 : Int32)))) (fun h => by rw [Bd.returns] at h; cases h) Bd.notSynchronized (by decide) (by decide) e0 (fun fs hr => retN X0 hx (t := .boolean) Bd.returns (by simp) (hb hby d2_93) hr) ?_
              exact ⟨congrArg (fun z => some (Value.int z)) (show (1 : Int32) = own_horiz q from (show own_horiz q = (1 : Int32) from by unfold own_horiz; rw [if_neg hc4, if_pos hc11, if_neg hs17_0, if_neg hs17_1, if_neg hs17_2, if_pos hs17_3]).symm), N0, rfl⟩
            ·
              by_cases hs17_4 : (6158 : Int) = q.toInt
              ·
                refine Goes.pre (U' := s₁.setTop (mkF m 92 #[.val (.int q)] [])) (fun t k => own_lsw X0.here hx rfl (pc0 := 17) (pc' := 92) rfl (hb hby d2_17) rfl (o := 75) (by intro a b a' b' h; simp at h; omega) (by simp only [lookupswitch.offset]; simp [hs17_0, hs17_1, hs17_2, hs17_3, hs17_4]) (by decide) (by decide) k) ?_
                refine Goes.pre (U' := s₁.setTop (mkF m 93 #[.val (.int q)] [(.int (1 : Int32))])) (fun t k => XS.iconst X0.here hx rfl (hb hby d2_92) k) ?_
                refine Goes.ret X0 (v := (some (.int (1 : Int32)))) (fun h => by rw [Bd.returns] at h; cases h) Bd.notSynchronized (by decide) (by decide) e0 (fun fs hr => retN X0 hx (t := .boolean) Bd.returns (by simp) (hb hby d2_93) hr) ?_
                exact ⟨congrArg (fun z => some (Value.int z)) (show (1 : Int32) = own_horiz q from (show own_horiz q = (1 : Int32) from by unfold own_horiz; rw [if_neg hc4, if_pos hc11, if_neg hs17_0, if_neg hs17_1, if_neg hs17_2, if_neg hs17_3, if_pos hs17_4]).symm), N0, rfl⟩
              ·
                by_cases hs17_5 : (8239 : Int) = q.toInt
                ·
                  refine Goes.pre (U' := s₁.setTop (mkF m 92 #[.val (.int q)] [])) (fun t k => own_lsw X0.here hx rfl (pc0 := 17) (pc' := 92) rfl (hb hby d2_17) rfl (o := 75) (by intro a b a' b' h; simp at h; omega) (by simp only [lookupswitch.offset]; simp [hs17_0, hs17_1, hs17_2, hs17_3, hs17_4, hs17_5]) (by decide) (by decide) k) ?_
                  refine Goes.pre (U' := s₁.setTop (mkF m 93 #[.val (.int q)] [(.int (1 : Int32))])) (fun t k => XS.iconst X0.here hx rfl (hb hby d2_92) k) ?_
                  refine Goes.ret X0 (v := (some (.int (1 : Int32)))) (fun h => by rw [Bd.returns] at h; cases h) Bd.notSynchronized (by decide) (by decide) e0 (fun fs hr => retN X0 hx (t := .boolean) Bd.returns (by simp) (hb hby d2_93) hr) ?_
                  exact ⟨congrArg (fun z => some (Value.int z)) (show (1 : Int32) = own_horiz q from (show own_horiz q = (1 : Int32) from by unfold own_horiz; rw [if_neg hc4, if_pos hc11, if_neg hs17_0, if_neg hs17_1, if_neg hs17_2, if_neg hs17_3, if_neg hs17_4, if_pos hs17_5]).symm), N0, rfl⟩
                ·
                  by_cases hs17_6 : (8287 : Int) = q.toInt
                  ·
                    refine Goes.pre (U' := s₁.setTop (mkF m 92 #[.val (.int q)] [])) (fun t k => own_lsw X0.here hx rfl (pc0 := 17) (pc' := 92) rfl (hb hby d2_17) rfl (o := 75) (by intro a b a' b' h; simp at h; omega) (by simp only [lookupswitch.offset]; simp [hs17_0, hs17_1, hs17_2, hs17_3, hs17_4, hs17_5, hs17_6]) (by decide) (by decide) k) ?_
                    refine Goes.pre (U' := s₁.setTop (mkF m 93 #[.val (.int q)] [(.int (1 : Int32))])) (fun t k => XS.iconst X0.here hx rfl (hb hby d2_92) k) ?_
                    refine Goes.ret X0 (v := (some (.int (1 : Int32)))) (fun h => by rw [Bd.returns] at h; cases h) Bd.notSynchronized (by decide) (by decide) e0 (fun fs hr => retN X0 hx (t := .boolean) Bd.returns (by simp) (hb hby d2_93) hr) ?_
                    exact ⟨congrArg (fun z => some (Value.int z)) (show (1 : Int32) = own_horiz q from (show own_horiz q = (1 : Int32) from by unfold own_horiz; rw [if_neg hc4, if_pos hc11, if_neg hs17_0, if_neg hs17_1, if_neg hs17_2, if_neg hs17_3, if_neg hs17_4, if_neg hs17_5, if_pos hs17_6]).symm), N0, rfl⟩
                  ·
                    by_cases hs17_7 : (12288 : Int) = q.toInt
                    ·
                      refine Goes.pre (U' := s₁.setTop (mkF m 92 #[.val (.int q)] [])) (fun t k => own_lsw X0.here hx rfl (pc0 := 17) (pc' := 92) rfl (hb hby d2_17) rfl (o := 75) (by intro a b a' b' h; simp at h; omega) (by simp only [lookupswitch.offset]; simp [hs17_0, hs17_1, hs17_2, hs17_3, hs17_4, hs17_5, hs17_6, hs17_7]) (by decide) (by decide) k) ?_
                      refine Goes.pre (U' := s₁.setTop (mkF m 93 #[.val (.int q)] [(.int (1 : Int32))])) (fun t k => XS.iconst X0.here hx rfl (hb hby d2_92) k) ?_
                      refine Goes.ret X0 (v := (some (.int (1 : Int32)))) (fun h => by rw [Bd.returns] at h; cases h) Bd.notSynchronized (by decide) (by decide) e0 (fun fs hr => retN X0 hx (t := .boolean) Bd.returns (by simp) (hb hby d2_93) hr) ?_
                      exact ⟨congrArg (fun z => some (Value.int z)) (show (1 : Int32) = own_horiz q from (show own_horiz q = (1 : Int32) from by unfold own_horiz; rw [if_neg hc4, if_pos hc11, if_neg hs17_0, if_neg hs17_1, if_neg hs17_2, if_neg hs17_3, if_neg hs17_4, if_neg hs17_5, if_neg hs17_6, if_pos hs17_7]).symm), N0, rfl⟩
                    ·
                      refine Goes.pre (U' := s₁.setTop (mkF m 94 #[.val (.int q)] [])) (fun t k => own_lsw X0.here hx rfl (pc0 := 17) (pc' := 94) rfl (hb hby d2_17) rfl (o := 77) (by intro a b a' b' h; simp at h; omega) (by simp only [lookupswitch.offset]; simp [hs17_0, hs17_1, hs17_2, hs17_3, hs17_4, hs17_5, hs17_6, hs17_7]) (by decide) (by decide) k) ?_
                      refine Goes.pre (U' := s₁.setTop (mkF m 95 #[.val (.int q)] [(.int (0 : Int32))])) (fun t k => XS.iconst X0.here hx rfl (hb hby d2_94) k) ?_
                      refine Goes.ret X0 (v := (some (.int (0 : Int32)))) (fun h => by rw [Bd.returns] at h; cases h) Bd.notSynchronized (by decide) (by decide) e0 (fun fs hr => retN X0 hx (t := .boolean) Bd.returns (by simp) (hb hby d2_95) hr) ?_
                      exact ⟨congrArg (fun z => some (Value.int z)) (show (0 : Int32) = own_horiz q from (show own_horiz q = (0 : Int32) from by unfold own_horiz; rw [if_neg hc4, if_pos hc11, if_neg hs17_0, if_neg hs17_1, if_neg hs17_2, if_neg hs17_3, if_neg hs17_4, if_neg hs17_5, if_neg hs17_6, if_neg hs17_7]).symm), N0, rfl⟩
    ·
      refine Goes.pre (U' := s₁.setTop (mkF m 14 #[.val (.int q)] [])) (fun t k => XS.icmpNo X0.here hx rfl (hb hby d2_11) rfl (flt hc11).2.2.1 k) ?_
      refine Goes.pre (U' := s₁.setTop (mkF m 15 #[.val (.int q)] [(.int (1 : Int32))])) (fun t k => XS.iconst X0.here hx rfl (hb hby d2_14) k) ?_
      refine Goes.ret X0 (v := (some (.int (1 : Int32)))) (fun h => by rw [Bd.returns] at h; cases h) Bd.notSynchronized (by decide) (by decide) e0 (fun fs hr => retN X0 hx (t := .boolean) Bd.returns (by simp) (hb hby d2_15) hr) ?_
      exact ⟨congrArg (fun z => some (Value.int z)) (show (1 : Int32) = own_horiz q from (show own_horiz q = (1 : Int32) from by unfold own_horiz; rw [if_neg hc4, if_neg hc11]).symm), N0, rfl⟩
set_option maxHeartbeats 40000000 in
theorem own_same (q : Int32) : own_space q = own_horiz q := by
  unfold own_space own_horiz
  simp only [Int32.lt_iff_toInt_lt, ← Int32.toInt_inj, show (160 : Int32).toInt = 160 from by decide, show (32 : Int32).toInt = 32 from by decide, show (9 : Int32).toInt = 9 from by decide, show (5760 : Int32).toInt = 5760 from by decide, show (6158 : Int32).toInt = 6158 from by decide, show (8192 : Int32).toInt = 8192 from by decide, show (8202 : Int32).toInt = 8202 from by decide, show (8239 : Int32).toInt = 8239 from by decide, show (8287 : Int32).toInt = 8287 from by decide, show (12288 : Int32).toInt = 12288 from by decide]
  generalize q.toInt = z
  repeat' split
  all_goals first | rfl | (exfalso; omega)
theorem own_i2c (x : Int32) : (x &&& 65535).toUInt32.toUInt16.toUInt32.toInt32 = x &&& 65535 := by
  have h1 := c_i2c (x &&& 65535)
  have h2 := c_and x 65535 (by decide)
  have h3 : (65535 : Int32).toInt = 65535 := by decide
  apply Int32.toInt_inj.mp
  omega
theorem ef_rm0 (m : MethodId) (x0 : Int32) : entryFrame m #[(.int x0)] maxLocals = mkF m 0 #[.val (.int x0), .unset, .unset] [] := by first | (simp [entryFrame, mkF, argsToLocals, Value.category, maxLocals]; done) | rfl
theorem pd__28C_29Z : parseMethodDescriptor "(C)Z" = some ⟨[.char], some .boolean⟩ := by decide +kernel
theorem pd__28I_29Z : parseMethodDescriptor "(I)Z" = some ⟨[.int], some .boolean⟩ := by decide +kernel
def Q_rm0 (Z : State) (p1 : Int32) (h0 : Heap) (n0 : Nat) (v : Option Value) (h : Heap) (L : List Loc) : Prop := v = some (.int 1) ∧ Fr n0 L
set_option maxRecDepth 65536 in
set_option maxHeartbeats 40000000 in
theorem rm0 (l : Launch) (Z : State) (a0 : Array Value) (hw : ∀ d ∈ tables_1, d.before a0 Z = true) (ws : List Jvm.Cond) (p1 : Int32) (h0 : Heap) (n0 : Nat) (Z0 : n0 ≤ h0.size)  :
    MetFree l x (head1 (Jvm.Cond.code x code maxLocals ret :: ws) room_1) (fun argv U => argv = #[(.int p1)] ∧ Z.Warmed39 U.vm ∧ U.heap = h0) (fun _ _ _ _ _ => True) (fun _ U o U' => ∃ v L, o = .returned v ∧ Q_rm0 Z p1 h0 n0 v U'.heap L ∧ FrameEnd U o U' L room_1.cells room_1.slots) := by
  refine MetFree.of_bodySF (plainFor_of_name pn_com_example_restate_restate_plan_SpacesSpacePinLaw) hisR ?_
  intro p e s m args below meth c s₁ Bd hml0 hP hK
  obtain ⟨rfl, hZ, hh⟩ := hP
  have hx := Bd.exec
  have hby := Bd.bytes
  have hml : c.maxLocals = 3 := hml0
  have hown : s.vm.findClass "com/example/restate/restate/plan/SpacesSpacePinLaw" = some m.cls := findClass_of_methodNamed Bd.named
  have hnm := (name_of_methodNamed Bd.named Bd.method).1
  have X0 : Stand p l e room_1 s m #[(.int p1)] below meth c s₁ [] 0 0 := Stand.of_body Bd
  have e0 : s₁.heap = h0 := by rw [← hh, Bd.state]; rfl
  have N0 := Fr.nil n0
  refine Goes.enter (Q := fun v h L => Q_rm0 Z p1 h0 n0 v h L) (C := room_1.cells) (S := room_1.slots) (ef_rm0 m p1) ?_
  show Goes p e below s _ _ _ (s₁.setTop (mkF m 0 #[.val (.int p1), .unset, .unset] []))
  refine Goes.pre (U' := s₁.setTop (mkF m 1 #[.val (.int p1), .unset, .unset] [(.int p1)])) (fun t k => XS.iloadN X0.here hx rfl (hb hby at_0) rfl k) ?_
  refine Goes.pre (U' := s₁.setTop (mkF m 3 #[.val (.int p1), .unset, .unset] [(.int (65535 : Int32)), (.int p1)])) (fun t k => X0.ldcInt hx hown (mvT hZ (hw _ (List.mem_of_getElem? (i := 0) rfl))) (g := (mkF m 1 #[.val (.int p1), .unset, .unset] [(.int p1)])) rfl (hb hby at_1) _ k) ?_
  refine Goes.pre (U' := s₁.setTop (mkF m 4 #[.val (.int p1), .unset, .unset] [(.int (p1 &&& (65535 : Int32)))])) (fun t k => XS.iand X0.here hx rfl (hb hby at_3) rfl k) ?_
  refine Goes.pre (U' := s₁.setTop (mkF m 5 #[.val (.int p1), .val (.int (p1 &&& (65535 : Int32))), .unset] [])) (fun t k => XS.istoreN X0.here hx rfl (hb hby at_4) rfl (l' := #[.val (.int p1), .val (.int (p1 &&& (65535 : Int32))), .unset]) rfl k) ?_
  refine Goes.pre (U' := s₁.setTop (mkF m 6 #[.val (.int p1), .val (.int (p1 &&& (65535 : Int32))), .unset] [(.int (p1 &&& (65535 : Int32)))])) (fun t k => XS.iloadN X0.here hx rfl (hb hby at_5) rfl k) ?_
  refine Goes.pre (U' := s₁.setTop (mkF m 7 #[.val (.int p1), .val (.int (p1 &&& (65535 : Int32))), .unset] [(.int ((p1 &&& (65535 : Int32)).toUInt32.toUInt16.toUInt32.toInt32))])) (fun t k => XS.i2c X0.here hx rfl (hb hby at_6) rfl k) ?_
  refine Goes.pre (U' := s₁.setTop (mkF m 8 #[.val (.int p1), .val (.int (p1 &&& (65535 : Int32))), .val (.int ((p1 &&& (65535 : Int32)).toUInt32.toUInt16.toUInt32.toInt32))] [])) (fun t k => XS.istoreN X0.here hx rfl (hb hby at_7) rfl (l' := #[.val (.int p1), .val (.int (p1 &&& (65535 : Int32))), .val (.int ((p1 &&& (65535 : Int32)).toUInt32.toUInt16.toUInt32.toInt32))]) rfl k) ?_
  rw [own_i2c p1]
  refine Goes.pre (U' := s₁.setTop (mkF m 9 #[.val (.int p1), .val (.int (p1 &&& (65535 : Int32))), .val (.int (p1 &&& (65535 : Int32)))] [(.int (p1 &&& (65535 : Int32)))])) (fun t k => XS.iloadN X0.here hx rfl (hb hby at_8) rfl k) ?_
  obtain ⟨_, _, ⟨T1, L1, k1, n1⟩, -, X1, ⟨Lc1, hQ1, l1, y1, z1⟩, st1⟩ := Jvm.LawKit.callS X0 hx (y := (⟨"com/example/restate/restate/plan/Spaces", "space", "(C)Z"⟩ : MethodName)) hown (mvT hZ (hw _ (List.mem_of_getElem? (i := 1) rfl))) (mvT hZ (hw _ (List.mem_of_getElem? (i := 2) rfl))) (mvT hZ (hw _ (List.mem_of_getElem? (i := 3) rfl))) (mvT hZ (hw _ (List.mem_of_getElem? (i := 4) rfl))) (by decide) (backOf (W := 0) (rm_space l Z a0 hw [] (p1 &&& (65535 : Int32)) h0 n0 Z0) hZ (hw _ (List.mem_of_getElem? (i := 4) rfl)) (hw _ (List.mem_of_getElem? (i := 3) rfl)) (by decide) (by decide)) (g := (mkF m 9 #[.val (.int p1), .val (.int (p1 &&& (65535 : Int32))), .val (.int (p1 &&& (65535 : Int32)))] [(.int (p1 &&& (65535 : Int32)))])) rfl (by rw [hml]; rfl) (argsL := [(.int (p1 &&& (65535 : Int32)))]) (rest := []) (lenOf pd__28C_29Z rfl) rfl (by show 2 * 0 + _ ≤ _; exact Nat.le_of_eq rfl) (hb hby at_9) (fun _ _ => ⟨rfl, e0, (by decide : 0 + 0 ≤ _), (by decide : 0 + 0 ≤ _)⟩)
  dsimp only [Pt.U, Pt.locs, Pt.cells, Pt.slots] at X1 l1 y1 z1 st1 hQ1
  subst l1 y1 z1
  obtain ⟨rfl, N1q, HQ1⟩ := hQ1
  have N1 := Fr.app N0 N1q
  refine Goes.pre (U' := T1.setTop (mkF m 12 #[.val (.int p1), .val (.int (p1 &&& (65535 : Int32))), .val (.int (p1 &&& (65535 : Int32)))] [(.int (own_space (p1 &&& (65535 : Int32))))])) (fun t k => st1 t k) ?_
  refine Goes.pre (U' := T1.setTop (mkF m 13 #[.val (.int p1), .val (.int (p1 &&& (65535 : Int32))), .val (.int (p1 &&& (65535 : Int32)))] [(.int (p1 &&& (65535 : Int32))), (.int (own_space (p1 &&& (65535 : Int32))))])) (fun t k => XS.iloadN X1.here hx rfl (hb hby at_12) rfl k) ?_
  obtain ⟨_, _, ⟨T2, L2, k2, n2⟩, -, X2, ⟨Lc2, hQ2, l2, y2, z2⟩, st2⟩ := Jvm.LawKit.callS X1 hx (y := (⟨"com/example/restate/restate/plan/SpacesSpacePinLaw", "horizontal", "(I)Z"⟩ : MethodName)) hown (mvT hZ (hw _ (List.mem_of_getElem? (i := 5) rfl))) (mvT hZ (hw _ (List.mem_of_getElem? (i := 6) rfl))) (mvT hZ (hw _ (List.mem_of_getElem? (i := 7) rfl))) (mvT hZ (hw _ (List.mem_of_getElem? (i := 8) rfl))) (by decide) (backOf (W := 1) (rm_horiz l Z a0 hw [] (p1 &&& (65535 : Int32)) h0 n0 Z0) hZ (hw _ (List.mem_of_getElem? (i := 8) rfl)) (hw _ (List.mem_of_getElem? (i := 7) rfl)) (by decide) (by decide)) (g := (mkF m 13 #[.val (.int p1), .val (.int (p1 &&& (65535 : Int32))), .val (.int (p1 &&& (65535 : Int32)))] [(.int (p1 &&& (65535 : Int32))), (.int (own_space (p1 &&& (65535 : Int32))))])) rfl (by rw [hml]; rfl) (argsL := [(.int (p1 &&& (65535 : Int32)))]) (rest := [(.int (own_space (p1 &&& (65535 : Int32))))]) (lenOf pd__28I_29Z rfl) rfl (by show 2 * 0 + _ ≤ _; exact Nat.le_of_eq rfl) (hb hby at_13) (fun _ _ => ⟨rfl, HQ1, (by decide : 0 + 0 ≤ _), (by decide : 0 + 0 ≤ _)⟩)
  dsimp only [Pt.U, Pt.locs, Pt.cells, Pt.slots] at X2 l2 y2 z2 st2 hQ2
  subst l2 y2 z2
  obtain ⟨rfl, N2q, HQ2⟩ := hQ2
  have N2 := Fr.app N1 N2q
  refine Goes.pre (U' := T2.setTop (mkF m 16 #[.val (.int p1), .val (.int (p1 &&& (65535 : Int32))), .val (.int (p1 &&& (65535 : Int32)))] [(.int (own_horiz (p1 &&& (65535 : Int32)))), (.int (own_space (p1 &&& (65535 : Int32))))])) (fun t k => st2 t k) ?_
  have hc16 : (own_space (p1 &&& (65535 : Int32))) = (own_horiz (p1 &&& (65535 : Int32))) := own_same _
  refine Goes.pre (U' := T2.setTop (mkF m 19 #[.val (.int p1), .val (.int (p1 &&& (65535 : Int32))), .val (.int (p1 &&& (65535 : Int32)))] [])) (fun t k => XS.icmpNo X2.here hx rfl (hb hby at_16) rfl (teq hc16).2 k) ?_
  refine Goes.pre (U' := T2.setTop (mkF m 20 #[.val (.int p1), .val (.int (p1 &&& (65535 : Int32))), .val (.int (p1 &&& (65535 : Int32)))] [(.int (1 : Int32))])) (fun t k => XS.iconst X2.here hx rfl (hb hby at_19) k) ?_
  refine Goes.pre (U' := T2.setTop (mkF m 24 #[.val (.int p1), .val (.int (p1 &&& (65535 : Int32))), .val (.int (p1 &&& (65535 : Int32)))] [(.int (1 : Int32))])) (fun t k => XS.goto X2.here hx rfl (pc0 := 20) (pc' := 24) rfl (hb hby at_20) (by decide) (by decide) k) ?_
  refine Goes.ret X2 (v := (some (.int (1 : Int32)))) (fun h => by rw [Bd.returns] at h; cases h) Bd.notSynchronized (by decide) (by decide) HQ2 (fun fs hr => retN X2 hx (t := .boolean) Bd.returns (by simp) (hb hby at_24) hr) ?_
  exact ⟨rfl, N2⟩
set_option maxRecDepth 65536 in
set_option maxHeartbeats 40000000 in
theorem comes_1 {Post : Tables → Env → Array Value → State → Outcome → State → Prop} (hpost : ∀ tb e args s v u, (limb_1_1.after args s (.returned v) u = true ∧ limb_1_2.after args s (.returned v) u = true ∧ True) → FrameEnd s (.returned v) u (Jvm.fieldLocs frame_1_writes args s ++ Jvm.arrayLocs frame_1_arrays args s ++ Jvm.staticLocs frame_1_statics s) 0 0 → Post tb e args s (.returned v) u) :
    ArmFor flags0 classFile x code maxLocals ret World_1 tables_1 room_1 Calls_1 rest_1 Pre_1 Post := by
  intro l hfl _ _ p e ha hc hk s m args below hf hA hF happ hP
  obtain ⟨hcalls, hrest, hpre⟩ := hP
  obtain ⟨-, -, -, hnamed, -, -, -, hat⟩ := (Spec.applies_iff hf).mp happ
  obtain ⟨hg, hn⟩ := and_e (Cond.before_iff.mp (show (Jvm.Cond.and given_1 narrow_1).before args s = true from hpre))
  obtain ⟨g1, g2⟩ := and_e hg
  obtain ⟨w0, rfl⟩ : ∃ w0 : Value, args = #[w0] := by
    have hs : args.size = 1 := by simpa [Cond.value, given_1] using g1
    obtain ⟨L⟩ := args
    match L, hs with
    | [w0], _ => exact ⟨w0, rfl⟩
  have hw := fun d (hd : d ∈ tables_1) => atoms_spec (ws := Jvm.Cond.code x code maxLocals ret :: tables_1) hat d (List.mem_cons_of_mem _ hd)
  have hfit : Fit s := fun {y c} hc i hi => by
    obtain ⟨ha, rfl⟩ := Array.getElem?_eq_some_iff.mp hc
    have q := List.all_eq_true.mp ((Array.all_eq_true_iff_forall_mem.mp hF) _ (Array.getElem_mem ha)) i (List.mem_range.mpr hi)
    simpa [Array.getElem?_eq_getElem hi] using q
  obtain ⟨i0, ei0⟩ := is_v g2
  obtain rfl : w0 = (.int i0) := Option.some.inj ei0
  obtain ⟨n, o, h1, h2, h3, _, L, rfl, ⟨rfl, N⟩, hq⟩ := rm0 l s _ hw tables_1 i0 s.heap s.heap.size (Nat.le_refl _) p e ha hc hk s m _ below hf ((Spec.applies_iff_loose hf).mp happ).1 ⟨rfl, State.Warmed39.refl s, rfl⟩ trivial
  refine ⟨n, _, h1, h2, h3, hpost _ _ _ _ _ _ ⟨Cond.after_iff.mpr rfl, Cond.after_iff.mpr (eq_i res_at (Term.int_eval (1)) rfl), trivial⟩ ⟨hq.1, hq.2.1, (hq.2.2.sift fun y hy => Or.inr (N y hy)).mono (by decide) (by decide)⟩⟩
theorem main_1_1 : Claimed_1_1 := comes_1 fun _ _ _ _ _ _ h hF => ⟨h.1, hF⟩
theorem main_1_2 : Claimed_1_2 := comes_1 fun _ _ _ _ _ _ h hF => ⟨h.2.1, hF⟩
end Jvm.Pilot.@@N@@
namespace Jvm.Pilot.@@N@@
open Jvm Jvm.ClassFile Sem Op Lib Jvm.Free Jvm.Stand Jvm.Pilot.@@N@@.Jvm.D
/-! MADE BY PROGRAM (witnessworld.py) out of the Statement's table words and the real class files: 9 classes; the members and pool entries that the words name. The judged class is class 1, her method 2. -/
namespace start1
open Jvm.ClassFile
def u (s : String) : CpInfo := .utf8 (stringToUtf16 s)
/-- a pool by its gaps: so many unusable entries, then the entry; so many at the end -/
def gap : Nat → List CpInfo → List CpInfo
  | 0, r => r
  | n + 1, r => .unusable :: gap n r
def poolList (es : List (Nat × CpInfo)) (last : Nat) : List CpInfo := es.foldr (fun e r => gap e.1 (e.2 :: r)) (gap last [])
def pool (es : List (Nat × CpInfo)) (last : Nat) : Array CpInfo := ⟨poolList es last⟩
def fileOf (pool : Array CpInfo) (this : Nat) (attrs : Array Attribute := #[]) (ms : Array MethodInfo := #[]) (fl : Nat := 33) (sup : Nat := 0) (ifs : Array Nat := #[]) (fds : Array FieldInfo := #[]) : ClassFile where
  minorVersion := 0
  majorVersion := 65
  constantPool := pool
  accessFlags := fl
  thisClass := this
  superClass := sup
  interfaces := ifs
  fields := fds
  methods := ms
  attributes := attrs
def plain (name : String) (sup : Option ClassId) : Class where
  name := name
  kind := .ordinary
  loader := none
  accessFlags := 33
  super := sup
  interfaces := #[]
  cf := none
  fields := #[]
  methods := #[]
  instanceTypes := #[]
  staticTypes := #[]
  resolved := #[]
  callSites := []
  init := .initialized
  statics := none
  mirror := none

def pool0 : Array CpInfo := pool [(5, u "<init>"), (0, u "()V"), (1, .class_ 10), (1, u "java/lang/Object")] 113

def k0m0 : Method := { name := "<init>", desc := "()V", sig := { parameters := [], returnType := none }, accessFlags := 1, code := none }
/-- java/lang/Object -/
def k0 : Class := { plain "java/lang/Object" none with
  accessFlags := 33
  interfaces := #[]
  cf := some (fileOf pool0 8 #[] #[{ accessFlags := 1, nameIndex := 5, descriptorIndex := 6, attributes := #[] }] 33 0 #[] #[])
  fields := #[]
  methods := #[k0m0]
  instanceTypes := #[]
  staticTypes := #[]
  resolved := Array.replicate 124 none
  statics := none }

def pool1 : Array CpInfo := pool [(2, .class_ 4), (1, u "java/lang/Object"), (0, u "<init>"), (0, u "()V"), (0, .integer 65535), (0, .methodref 9 10), (0, .class_ 11), (0, .nameAndType 12 13), (0, u "com/example/restate/restate/plan/Spaces"), (0, u "space"), (0, u "(C)Z"), (0, .methodref 15 16), (0, .class_ 17), (0, .nameAndType 18 19), (0, u "com/example/restate/restate/plan/SpacesSpacePinLaw"), (0, u "horizontal"), (0, u "(I)Z"), (3, u "law")] 2

def k1m0 : Method := { name := "<init>", desc := "()V", sig := { parameters := [], returnType := none }, accessFlags := 2, code := none }
def k1c1 : Code := { maxStack := 2, maxLocals := 1, code := method_2_code, exceptionTable := #[], attributes := #[] }
def k1m1 : Method := { name := "horizontal", desc := "(I)Z", sig := { parameters := [.int], returnType := some .boolean }, accessFlags := 10, code := some k1c1 }
def k1c2 : Code := { maxStack := 2, maxLocals := 3, code := code, exceptionTable := #[], attributes := #[] }
def k1m2 : Method := { name := "law", desc := "(I)Z", sig := { parameters := [.int], returnType := some .boolean }, accessFlags := 9, code := some k1c2 }
/-- com/example/restate/restate/plan/SpacesSpacePinLaw -/
def k1 : Class := { plain "com/example/restate/restate/plan/SpacesSpacePinLaw" (some 0) with
  accessFlags := 49
  interfaces := #[]
  cf := some (fileOf pool1 15 #[] #[{ accessFlags := 2, nameIndex := 5, descriptorIndex := 6, attributes := #[] }, { accessFlags := 10, nameIndex := 18, descriptorIndex := 19, attributes := #[] }, { accessFlags := 9, nameIndex := 23, descriptorIndex := 19, attributes := #[] }] 49 2 #[] #[])
  fields := #[]
  methods := #[k1m0, k1m1, k1m2]
  instanceTypes := #[]
  staticTypes := #[]
  resolved := Array.replicate 26 none
  statics := none }

def pool2 : Array CpInfo := pool [(2, .class_ 4), (1, u "java/lang/Object"), (0, u "<init>"), (0, u "()V"), (11, .class_ 20), (1, u "com/example/restate/restate/plan/Spaces"), (0, u "space"), (0, u "(C)Z")] 32

def k2m0 : Method := { name := "<init>", desc := "()V", sig := { parameters := [], returnType := none }, accessFlags := 2, code := none }
def k2c1 : Code := { maxStack := 2, maxLocals := 1, code := prog_34_method_2_code, exceptionTable := #[], attributes := #[] }
def k2m1 : Method := { name := "space", desc := "(C)Z", sig := { parameters := [.char], returnType := some .boolean }, accessFlags := 8, code := some k2c1 }
/-- com/example/restate/restate/plan/Spaces -/
def k2 : Class := { plain "com/example/restate/restate/plan/Spaces" (some 0) with
  accessFlags := 48
  interfaces := #[]
  cf := some (fileOf pool2 18 #[] #[{ accessFlags := 2, nameIndex := 5, descriptorIndex := 6, attributes := #[] }, { accessFlags := 8, nameIndex := 21, descriptorIndex := 22, attributes := #[] }] 48 2 #[] #[])
  fields := #[]
  methods := #[k2m0, k2m1]
  instanceTypes := #[]
  staticTypes := #[]
  resolved := Array.replicate 55 none
  statics := none }

def pool3 : Array CpInfo := pool [(1, u "java/lang/Cloneable"), (0, .class_ 1), (0, u "java/lang/Object"), (0, .class_ 3)] 3

/-- java/lang/Cloneable -/
def k3 : Class := { plain "java/lang/Cloneable" (some 0) with
  accessFlags := 1537
  interfaces := #[]
  cf := some (fileOf pool3 2 #[] #[] 1537 4 #[] #[])
  fields := #[]
  methods := #[]
  instanceTypes := #[]
  staticTypes := #[]
  resolved := Array.replicate 8 none
  statics := none }

def pool4 : Array CpInfo := pool [(1, u "java/io/Serializable"), (0, .class_ 1), (0, u "java/lang/Object"), (0, .class_ 3)] 3

/-- java/io/Serializable -/
def k4 : Class := { plain "java/io/Serializable" (some 0) with
  accessFlags := 1537
  interfaces := #[]
  cf := some (fileOf pool4 2 #[] #[] 1537 4 #[] #[])
  fields := #[]
  methods := #[]
  instanceTypes := #[]
  staticTypes := #[]
  resolved := Array.replicate 8 none
  statics := none }

/-- the primitive byte -/
def k5 : Class := { plain "byte" none with kind := .primitive 'B', accessFlags := 0x411 }
/-- [B -/
def k6 : Class := { plain "[B" (some 0) with kind := .array 5 .byte, interfaces := #[3, 4], accessFlags := 1041 }

/-- the primitive int -/
def k7 : Class := { plain "int" none with kind := .primitive 'I', accessFlags := 0x411 }
/-- [I -/
def k8 : Class := { plain "[I" (some 0) with kind := .array 7 .int, interfaces := #[3, 4], accessFlags := 1041 }

def heap : Heap := #[]
def classes : Array Class := #[k0, k1, k2, k3, k4, k5, k6, k7, k8]
def interned : List (Array UInt16 × Addr) := []
def slotsUsed : Nat := 0
def theMethod : MethodId := ⟨1, 2⟩
def args0 : Array Value := #[.int 5]
def aboutOver (below : List Frame) : State where
  vm := { classes := classes, interned := interned.toArray }
  heap := heap
  slotsUsed := slotsUsed
  threads := #[{ frames := .invoking theMethod args0 :: below }]
def below0 : List Frame := [.native { method := ⟨0, 0⟩, args := #[] }]
def about1 : State := aboutOver below0
def p0 : Program := .bare "" "" ""
def e0 : Env := launch0.env 0 0 0
theorem w_frames : about1.frames = Frame.invoking theMethod args0 :: below0 := rfl
set_option maxRecDepth 65536 in
theorem w_args : argsFit about1.vm theMethod args0 = true := by decide +kernel
set_option maxRecDepth 65536 in
theorem w_heap : heapFits about1 = true := by decide +kernel
set_option maxRecDepth 65536 in
theorem w_runnable : about1.curStatus? = some .runnable := by decide +kernel
set_option maxRecDepth 65536 in
theorem w_alone : about1.alone = true := by decide +kernel
set_option maxRecDepth 65536 in
theorem w_named : about1.methodNamed? x = some theMethod := by decide +kernel
set_option maxRecDepth 65536 in
theorem w_hears : about1.hears theMethod below0 = true := by decide +kernel
set_option maxRecDepth 65536 in
theorem w_ripe : about1.ripe theMethod args0 below0 = true := by decide +kernel
theorem w_running : about1.status = .running := rfl
set_option maxRecDepth 65536 in
theorem w_room : about1.hasRoom e0.platform room_1 = true :=
  launch0.hasRoom_least _ room_1 (by decide +kernel) (by decide +kernel) (by decide +kernel) (by decide +kernel) (by decide +kernel) (by decide +kernel)
theorem allAtoms_all (ts : List Jvm.Cond) (a : Array Jvm.Value) (st : Jvm.State) : (allAtoms ts).before a st = ts.all (fun c => c.before a st) := by
  induction ts with
  | nil => rfl
  | cons c t ih =>
    show (Jvm.Cond.and c (allAtoms t)).before a st = _
    rw [Jvm.Cond.before_and, ih, List.all_cons]
def words1 : List Jvm.Cond := Jvm.Cond.code x code maxLocals ret :: tables_1
/-- a 'code' word, met by the world's own term for the bytes: nothing is compared byte by byte -/
theorem code_word {y : MethodName} {bytes : ByteArray} {mx : Nat} {rt : Option FieldType} {a : Array Value} {s : State} {m : MethodId} {meth : Method} {c : Code} (h1 : s.methodNamed? y = some m) (h2 : s.vm.method? m = some meth) (h3 : meth.code = some c) (h4 : c.code = bytes)
    (h5 : (c.maxLocals == mx && c.exceptionTable.isEmpty && decide (c.maxStack ≤ mostOperands) && decide (meth.sig.returnType = rt) && !meth.locks && decide (parseMethodDescriptor y.desc = some meth.sig)) = true) : (Jvm.Cond.code y bytes mx rt).before a s = true := by
  simp only [Bool.and_eq_true, beq_iff_eq, Bool.not_eq_true', decide_eq_true_eq] at h5
  obtain ⟨⟨⟨⟨⟨g1, g2⟩, g3⟩, g4⟩, g5⟩, g6⟩ := h5
  simp [Cond.before, Cond.holds, Cond.value, h1, h2, h3, h4, g1, g2, g3, g4, g5, g6]
def isCode : Jvm.Cond → Bool
  | .code _ _ _ _ => true
  | _ => false
theorem all_split {L : List Jvm.Cond} {P : Jvm.Cond → Bool} (h1 : L.all (fun c => isCode c || P c) = true) (h2 : ∀ c ∈ L.filter isCode, P c = true) : L.all P = true := by
  refine List.all_eq_true.mpr fun c hc => ?_
  have h := List.all_eq_true.mp h1 c hc
  rcases Bool.eq_false_or_eq_true (isCode c) with hi | hi
  · exact h2 c (List.mem_filter.mpr ⟨hc, hi⟩)
  · simpa [hi] using h
set_option maxRecDepth 65536 in
theorem w_c0 : (Jvm.Cond.code x code maxLocals ret).before args0 about1 = true := code_word (m := ⟨1, 2⟩) (meth := k1m2) (c := k1c2) (by decide +kernel) rfl rfl rfl (by decide +kernel)
set_option maxRecDepth 65536 in
theorem w_c1 : (Jvm.Cond.code ({ cls := "com/example/restate/restate/plan/Spaces", name := "space", desc := "(C)Z" } : Jvm.MethodName) prog_34_method_2_code (1 : Nat) (Option.some Jvm.ClassFile.FieldType.boolean)).before args0 about1 = true := code_word (m := ⟨2, 1⟩) (meth := k2m1) (c := k2c1) (by decide +kernel) rfl rfl rfl (by decide +kernel)
set_option maxRecDepth 65536 in
theorem w_c2 : (Jvm.Cond.code ({ cls := "com/example/restate/restate/plan/SpacesSpacePinLaw", name := "horizontal", desc := "(I)Z" } : Jvm.MethodName) method_2_code (1 : Nat) (Option.some Jvm.ClassFile.FieldType.boolean)).before args0 about1 = true := code_word (m := ⟨1, 1⟩) (meth := k1m1) (c := k1c1) (by decide +kernel) rfl rfl rfl (by decide +kernel)
def codes1 : List Jvm.Cond := [Jvm.Cond.code x code maxLocals ret, Jvm.Cond.code ({ cls := "com/example/restate/restate/plan/Spaces", name := "space", desc := "(C)Z" } : Jvm.MethodName) prog_34_method_2_code (1 : Nat) (Option.some Jvm.ClassFile.FieldType.boolean), Jvm.Cond.code ({ cls := "com/example/restate/restate/plan/SpacesSpacePinLaw", name := "horizontal", desc := "(I)Z" } : Jvm.MethodName) method_2_code (1 : Nat) (Option.some Jvm.ClassFile.FieldType.boolean)]
set_option maxRecDepth 65536 in
theorem codes_eq : words1.filter isCode = codes1 := rfl
theorem w_codes : ∀ c ∈ words1.filter isCode, c.before args0 about1 = true := by
  rw [codes_eq]
  intro c hc
  simp only [codes1, List.mem_cons, List.not_mem_nil, or_false] at hc
  rcases hc with rfl | rfl | rfl
  · exact w_c0
  · exact w_c1
  · exact w_c2
set_option maxRecDepth 65536 in
theorem w_t1 : words1.all (fun c => isCode c || c.before args0 about1) = true := by decide +kernel
theorem w_tables : (allAtoms (Jvm.Cond.code x code maxLocals ret :: tables_1)).before args0 about1 = true := by
  rw [allAtoms_all]
  show words1.all (fun c => c.before args0 about1) = true
  refine all_split ?_ w_codes
  rw [w_t1]
set_option maxRecDepth 65536 in
theorem w_case : (Jvm.Cond.and given_1 narrow_1).before args0 about1 = true := by decide +kernel
theorem w_applies : (headSpec (Jvm.Cond.code x code maxLocals ret :: tables_1) room_1).applies x e0.platform about1 = true :=
  (Spec.applies_iff w_frames).mpr ⟨w_running, w_runnable, w_alone, w_named, w_hears, w_ripe, w_room, w_tables⟩
theorem atStart : AtStart classFile x code maxLocals ret World_1 tables_1 room_1 Calls_1 rest_1 Pre_1 launch0 p0 e0 about1 theMethod args0 below0 :=
  ⟨lists_1, trivial, launch0.admits_env _ _ _, launch0.least_env, fairChoices_fair.cas, fairChoices_fair.clock, w_frames, w_args, w_heap, w_applies, trivial, trivial, w_case⟩
end start1
theorem witness_1 : WitnessClaimed_1 := ⟨start1.p0, start1.e0, start1.about1, start1.theMethod, start1.args0, start1.below0, start1.atStart⟩
end Jvm.Pilot.@@N@@
