import JvmDerived
import JvmDerived.Pilot.@@N@@Statement
import JvmDerived.Pilot.@@N@@Code
set_option linter.unusedVariables false
set_option linter.unusedSimpArgs false
namespace Jvm.RoadKit
open Sem ClassFile Op Lib Jvm.Stand Jvm.Free Jvm.LawKit
section New
variable {p : Program} {l : Launch} {e : Env} {R : Room} {s : State} {m : MethodId} {args : Array Value} {below : List Frame} {meth : Method} {c : Code} {T : State} {locs : List Loc} {cells slots : Nat}
theorem retI (X : Stand p l e R s m args below meth c T locs cells slots) (hx : p.tables.exec = Jvm.exec) {pc : Nat} {Ls : Array Slot} {z : Int32} {rest : List Value} (hret : meth.sig.returnType = some .int) (hd : decode c.code pc = .ok (.ireturn, 1)) {fs : List Frame}
    (hl : ∀ (f : JFrame) (acts : List Action), f.method = m → f.locked = none → f.entered = [] → (doReturn e (T.setTop f) acts (some (.int z))).1 = T.setFrames fs) : Steps p.tables e below (T.setTop (mkF m pc Ls (.int z :: rest))) (T.setFrames fs) := by
  have hm' : T.vm.method? m = some meth := X.method'
  have hn : narrow .int (.int z) = .int z := rfl
  show Steps p.tables e below (T.setTop { method := m, pc := pc, locals := Ls, stack := _ :: rest, locked := none }) _
  jvm_step X.here [X.here.top, hx, hd, hm', hret, hn]
  first | (intro acts; rw [hl _ acts rfl rfl rfl]) | rw [hl _ _ rfl rfl rfl]
  exact Steps.refl _
end New
end Jvm.RoadKit
namespace Jvm.Pilot.@@N@@
open Jvm Jvm.ClassFile Sem Op Lib Jvm.Free Jvm.Stand Jvm.LawKit Jvm.RoadKit Bundle Jvm.Pilot.@@N@@.Jvm.D
theorem wq {a0 : Array Value} {Z : State} (hw : ∀ d ∈ tables_1, d.before a0 Z = true) (i : Nat) {d : Jvm.Cond} (h : tables_1[i]? = some d) : d.before a0 Z = true := hw d (List.mem_of_getElem? h)
/-- from U the run comes back to its caller; what it returns, the heap and the places written meet Q -/
def Goes (p : Program) (e : Env) (below : List Frame) (s : State) (Q : Option Value → Heap → List Loc → Prop) (C S : Nat) (U : State) : Prop :=
  ∃ s₂ o, Steps p.tables e below U s₂ ∧ s₂.status = .running ∧ Ended s₂ below o ∧ ∃ v L, o = .returned v ∧ Q v s₂.heap L ∧ FrameEnd s o s₂ L C S
section Own
variable {p : Program} {l : Launch} {e : Env} {R : Room} {s : State} {m : MethodId} {args : Array Value} {below : List Frame} {meth : Method} {c : Code} {T : State} {locs : List Loc} {cells slots : Nat} {Q : Option Value → Heap → List Loc → Prop} {C S : Nat} {U U' : State}
theorem Goes.pre (f : ∀ t, Steps p.tables e below U' t → Steps p.tables e below U t) (g : Goes p e below s Q C S U') : Goes p e below s Q C S U := by
  obtain ⟨s₂, o, h1, r⟩ := g
  exact ⟨s₂, o, f _ h1, r⟩
theorem Goes.enter {g g' : JFrame} (q : g = g') (h : Goes p e below s Q C S (U.setTop g')) : Goes p e below s Q C S (U.setTop g) := q ▸ h
theorem Goes.ret (X : Stand p l e R s m args below meth c T locs cells slots) {v : Option Value} (hv : meth.sig.returnType = none → v = none) (hlocks : meth.locks = false) (hc : cells ≤ C) (hs : slots ≤ S) {h : Heap} (eT : T.heap = h)
    (step : ∀ fs, (∀ (f : JFrame) (acts : List Action), f.method = m → f.locked = none → f.entered = [] → (doReturn e (T.setTop f) acts v).1 = T.setFrames fs) → Steps p.tables e below U (T.setFrames fs)) (q : Q v h locs) : Goes p e below s Q C S U := by
  obtain ⟨fs, hr, hrun, hended, hW, hsame⟩ := X.leave hv hlocks
  refine ⟨_, _, step fs hr, hrun, hended, _, _, rfl, ?_, ⟨_, rfl⟩, hW, hsame.mono hc hs⟩
  show Q v T.heap locs
  rw [eT]
  exact q
end Own
abbrev Rm (f c s l : Nat) : Room := { frames := f, cells := c, slots := s, locals := l }
/-- the contract of a body: called with these values at the heap h0, it comes back and Q holds of what it leaves -/
abbrev Met (l : Launch) (Z : State) (y : MethodName) (bytes : ByteArray) (maxL : Nat) (ret : Option FieldType) (ws : List Jvm.Cond) (rm : Room) (as' : Array Value) (h0 : Heap) (Q : Option Value → Heap → List Loc → Prop) : Prop :=
  MetFree l y (head1 (Jvm.Cond.code y bytes maxL ret :: ws) rm) (fun argv U => argv = as' ∧ Z.Warmed39 U.vm ∧ U.heap = h0) (fun _ _ _ _ _ => True) (fun _ U o U' => ∃ v L, o = .returned v ∧ Q v U'.heap L ∧ FrameEnd U o U' L rm.cells rm.slots)
theorem met_of {l : Launch} {Z : State} {y : MethodName} {bytes : ByteArray} {maxL : Nat} {ret : Option FieldType} {ws : List Jvm.Cond} {rm : Room} {as' : Array Value} {h0 : Heap} {Q : Option Value → Heap → List Loc → Prop} {L0 : Array Slot} {own : String}
    (hp : plainFor y = true) (ho : y.cls = own) (ef : ∀ m, entryFrame m as' maxL = mkF m 0 L0 [])
    (body : ∀ (p : Program) (e : Env) (s : State) (m : MethodId) (below : List Frame) (meth : Method) (c : Code) (s₁ : State), p.tables.exec = Jvm.exec → c.code = bytes → c.maxLocals = maxL → s.vm.findClass own = some m.cls → meth.name = y.name → Z.Warmed39 s.vm → Stand p l e rm s m as' below meth c s₁ [] 0 0 → s₁.heap = h0 → meth.sig.returnType = ret → meth.locks = false → Goes p e below s Q rm.cells rm.slots (s₁.setTop (mkF m 0 L0 []))) :
    Met l Z y bytes maxL ret ws rm as' h0 Q := by
  refine MetFree.of_bodySF hp hisR ?_
  intro p e s m args below meth c s₁ Bd hml0 hP hK
  obtain ⟨rfl, hZ, hh⟩ := hP
  refine Goes.enter (ef m) (body p e s m below meth c s₁ Bd.exec Bd.bytes hml0 (ho ▸ findClass_of_methodNamed Bd.named) (name_of_methodNamed Bd.named Bd.method).1 hZ (Stand.of_body Bd) (by rw [← hh, Bd.state]; rfl) Bd.returns Bd.notSynchronized)
theorem own_lsw {tb : Tables} [Ours tb] {e : Env} {below : List Frame} {T target : State} {m : MethodId} {c : Code} {g : JFrame} (h : At T m c below) (hx : tb.exec = Jvm.exec) (hg : g.method = m) {dflt : Int} {prs : Array (Int × Int)} {len : Nat} {o : Int} {pc0 pc' : Nat} (hpc : g.pc = pc0) (hd : decode c.code g.pc = .ok (.lookupswitch dflt prs, len)) {i : Int32} {rest : List Value} (hs : g.stack = .int i :: rest)
    (hso : ∀ (a b a_1 b_1 : Int), ((a, b), a_1, b_1) ∈ prs.toList.zip prs.toList.tail → a < a_1) (hoff : lookupswitch.offset prs.toList dflt i.toInt = o) (ho : 0 ≤ (pc0 : Int) + o) (hp : ((pc0 : Int) + o).toNat = pc')
    (hr : Steps tb e below (T.setTop { g with pc := pc', stack := rest }) target) : Steps tb e below (T.setTop g) target := by
  subst hg hpc hp
  jvm_step h [h.top, hx, hd, hs, lookupswitch.wp_chain, hoff, ho]
  exact ⟨hso, hr⟩
section OwnDy
open Jvm.FP.Core hiding dadd dmul ddiv dneg i2d
def own_D (n e : Int) : UInt64 := of64 (round b64 (.fin (decide (n < 0)) n.natAbs e))
def own_R (n e : Int) : Prop := n.natAbs < 9007199254740992 ∧ -1000 ≤ e ∧ e ≤ 900
theorem own_cancel {A B : Nat} {x y b : Int} (hx : 0 ≤ x + b) (hy : 0 ≤ y + b) (h : A * 2 ^ (x + b).toNat = B * 2 ^ (y + b).toNat) : A * 2 ^ (x - y).toNat = B * 2 ^ (y - x).toNat := by
  rcases Int.le_total x y with q | q
  · rw [show (x - y).toNat = 0 by omega, Nat.pow_zero, Nat.mul_one]
    rw [show (y + b).toNat = (y - x).toNat + (x + b).toNat by omega, Nat.pow_add, ← Nat.mul_assoc] at h
    exact Nat.mul_right_cancel (Nat.two_pow_pos _) h
  · rw [show (y - x).toNat = 0 by omega, Nat.pow_zero, Nat.mul_one]
    rw [show (x + b).toNat = (x - y).toNat + (y + b).toNat by omega, Nat.pow_add, ← Nat.mul_assoc] at h
    exact Nat.mul_right_cancel (Nat.two_pow_pos _) h
theorem own_D_val {n e : Int} (h : own_R n e) : ∃ c q, val64 (own_D n e) = .fin (decide (n < 0)) c q ∧ -1074 ≤ q ∧ c * 2 ^ (q + 1074).toNat = n.natAbs * 2 ^ (e + 1074).toNat := by
  obtain ⟨h1, h2, h3⟩ := h
  have hq : b64.qmin = -1074 := qmin_b64
  have hm : b64.qmax = 971 := by decide
  obtain ⟨c, q, e1, e2⟩ := round_exact good_b64 (decide (n < 0)) (c := n.natAbs) (q := e) (show _ < 2 ^ 53 by omega) (by omega) (by omega)
  have e3 : val64 (own_D n e) = .fin (decide (n < 0)) c q := by
    unfold own_D; rw [val64_of64 (round_fits good_b64 _)]; exact e1
  have ft := val64_fits (own_D n e)
  rw [e3] at ft
  have f2 := ft.2.1
  refine ⟨c, q, e3, by omega, ?_⟩
  unfold inUnits at e2
  rw [hq] at e2
  rw [show q + 1074 = q - -1074 by omega, show e + 1074 = e - -1074 by omega]
  exact e2
theorem own_D_nn {n e : Int} (h : own_R n e) : val64 (own_D n e) ≠ .nan := by
  obtain ⟨c, q, e1, -⟩ := own_D_val h
  rw [e1]; intro k; cases k
theorem own_D_fin {n e : Int} (h : own_R n e) : DFin (own_D n e) := by
  obtain ⟨c, q, e1, -⟩ := own_D_val h
  exact ⟨_, _, _, e1⟩
theorem own_signed (n : Int) (k : Nat) : signed (decide (n < 0)) (n.natAbs * k) = n * (k : Int) := by
  rw [signed_mul]; unfold signed
  by_cases q : n < 0
  · simp only [q, decide_true, if_true]; congr 1; omega
  · simp only [q, decide_false, Bool.false_eq_true, if_false]; congr 1; omega
theorem own_dadd {n m e : Int} (hn : own_R n e) (hm : own_R m e) : Jvm.FP.Core.dadd (own_D n e) (own_D m e) = own_D (n + m) e := by
  obtain ⟨c, q, e1, g1, u1⟩ := own_D_val hn
  obtain ⟨d, r, e2, g2, u2⟩ := own_D_val hm
  obtain ⟨-, h2, h3⟩ := hn
  show of64 (round b64 (exactSum (val64 (own_D n e)) (val64 (own_D m e)))) = of64 (round b64 (.fin (decide (n + m < 0)) (n + m).natAbs e))
  rw [e1, e2]
  congr 1
  have V1 : sumUnits (decide (n < 0)) c q (decide (m < 0)) d r (min q r) * ((2 ^ (min q r + 1074).toNat : Nat) : Int) = (n + m) * ((2 ^ (e + 1074).toNat : Nat) : Int) := by
    unfold sumUnits
    rw [Int.add_mul, ← signed_mul, ← signed_mul, Int.add_mul, ← own_signed n, ← own_signed m, ← u1, ← u2]
    unfold inUnits
    rw [Nat.mul_assoc, Nat.mul_assoc, ← Nat.pow_add, ← Nat.pow_add, show (q - min q r).toNat + (min q r + 1074).toNat = (q + 1074).toNat by omega, show (r - min q r).toNat + (min q r + 1074).toNat = (r + 1074).toNat by omega]
  show round b64 (.fin (sumSign (decide (n < 0)) (decide (m < 0)) (sumUnits (decide (n < 0)) c q (decide (m < 0)) d r (min q r))) (sumUnits (decide (n < 0)) c q (decide (m < 0)) d r (min q r)).natAbs (min q r)) = _
  generalize sumUnits (decide (n < 0)) c q (decide (m < 0)) d r (min q r) = V at V1
  have P1 : (0 : Int) < ((2 ^ (min q r + 1074).toNat : Nat) : Int) := Int.natCast_pos.mpr (Nat.two_pow_pos _)
  have P2 : (0 : Int) < ((2 ^ (e + 1074).toNat : Nat) : Int) := Int.natCast_pos.mpr (Nat.two_pow_pos _)
  have V2 : V.natAbs * 2 ^ (min q r + 1074).toNat = (n + m).natAbs * 2 ^ (e + 1074).toNat := by
    have := congrArg Int.natAbs V1
    rwa [Int.natAbs_mul, Int.natAbs_mul, Int.natAbs_natCast, Int.natAbs_natCast] at this
  have S : sumSign (decide (n < 0)) (decide (m < 0)) V = decide (n + m < 0) := by
    unfold sumSign
    rcases Int.lt_trichotomy V 0 with w | w | w
    · have : (n + m) * ((2 ^ (e + 1074).toNat : Nat) : Int) < 0 := by rw [← V1]; exact Int.mul_neg_of_neg_of_pos w P1
      have : n + m < 0 := by
        rcases Int.lt_or_le (n + m) 0 with z | z
        · exact z
        · exact absurd (Int.mul_nonneg z (Int.le_of_lt P2)) (Int.not_le.mpr this)
      simp [this, w, Int.ne_of_lt w]
    · subst w
      rw [Int.zero_mul] at V1
      have : n + m = 0 := by
        rcases Int.mul_eq_zero.mp V1.symm with z | z
        · exact z
        · exact absurd z (Int.ne_of_gt P2)
      rw [if_pos rfl, Bool.eq_iff_iff]
      simp
      omega
    · have : 0 < (n + m) * ((2 ^ (e + 1074).toNat : Nat) : Int) := by rw [← V1]; exact Int.mul_pos w P1
      have : ¬ n + m < 0 := by
        intro z
        exact absurd (Int.mul_neg_of_neg_of_pos z P2) (Int.not_lt.mpr (Int.le_of_lt this))
      have w1 : ¬ V = 0 := by omega
      have w2 : ¬ V < 0 := by omega
      simp [this, w1, w2]
  rw [S]
  refine roundRatio_congr (by decide) (by decide) ?_
  rw [Nat.mul_one, Nat.mul_one]
  exact own_cancel (b := 1074) (by omega) (by omega) V2
theorem own_xor {n m : Int} (hz : (n ≠ 0 ∧ m ≠ 0) ∨ (0 ≤ n ∧ 0 ≤ m)) : (decide (n < 0) != decide (m < 0)) = decide (n * m < 0) := by
  by_cases a : n < 0 <;> by_cases b : m < 0
  · have := Int.mul_pos_of_neg_of_neg a b
    have w : ¬ n * m < 0 := by omega
    simp [a, b, w]
  · have b' : 0 < m := by omega
    have := Int.mul_neg_of_neg_of_pos a b'
    simp [a, b, this]
  · have a' : 0 < n := by omega
    have := Int.mul_neg_of_pos_of_neg a' b
    simp [a, b, this]
  · have := Int.mul_nonneg (show 0 ≤ n by omega) (show 0 ≤ m by omega)
    have w : ¬ n * m < 0 := by omega
    simp [a, b, w]
theorem own_dmul {n m e f : Int} (hn : own_R n e) (hm : own_R m f) (hz : (n ≠ 0 ∧ m ≠ 0) ∨ (0 ≤ n ∧ 0 ≤ m)) : Jvm.FP.Core.dmul (own_D n e) (own_D m f) = own_D (n * m) (e + f) := by
  obtain ⟨c, q, e1, g1, u1⟩ := own_D_val hn
  obtain ⟨d, r, e2, g2, u2⟩ := own_D_val hm
  obtain ⟨-, h2, h3⟩ := hn
  obtain ⟨-, k2, k3⟩ := hm
  show of64 (round b64 (exactProduct (val64 (own_D n e)) (val64 (own_D m f)))) = of64 (round b64 (.fin (decide (n * m < 0)) (n * m).natAbs (e + f)))
  rw [e1, e2]
  congr 1
  show roundRatio b64 (decide (n < 0) != decide (m < 0)) (c * d) 1 (q + r) = roundRatio b64 (decide (n * m < 0)) (n * m).natAbs 1 (e + f)
  rw [own_xor hz]
  refine roundRatio_congr (by decide) (by decide) ?_
  rw [Nat.mul_one, Nat.mul_one, Int.natAbs_mul]
  refine own_cancel (b := 2148) (by omega) (by omega) ?_
  rw [show (q + r + 2148).toNat = (q + 1074).toNat + (r + 1074).toNat by omega, show (e + f + 2148).toNat = (e + 1074).toNat + (f + 1074).toNat by omega, Nat.pow_add, Nat.pow_add, Nat.mul_mul_mul_comm, u1, u2, Nat.mul_mul_mul_comm]
theorem own_ddiv {k m e f : Int} (hn : own_R (k * m) e) (hm : own_R m f) (h0 : m ≠ 0) (hz : k ≠ 0 ∨ 0 < m) : Jvm.FP.Core.ddiv (own_D (k * m) e) (own_D m f) = own_D k (e - f) := by
  obtain ⟨c, q, e1, g1, u1⟩ := own_D_val hn
  obtain ⟨d, r, e2, g2, u2⟩ := own_D_val hm
  obtain ⟨-, h2, h3⟩ := hn
  obtain ⟨-, k2, k3⟩ := hm
  have hd : d ≠ 0 := by
    rintro rfl
    rw [Nat.zero_mul] at u2
    rcases Nat.mul_eq_zero.mp u2.symm with z | z
    · omega
    · have := Nat.two_pow_pos (f + 1074).toNat; omega
  show of64 (quotient b64 (val64 (own_D (k * m) e)) (val64 (own_D m f))) = of64 (round b64 (.fin (decide (k < 0)) k.natAbs (e - f)))
  rw [e1, e2]
  congr 1
  show (if d = 0 then _ else roundRatio b64 (decide (k * m < 0) != decide (m < 0)) c d (q - r)) = roundRatio b64 (decide (k < 0)) k.natAbs 1 (e - f)
  rw [if_neg hd]
  have S : (decide (k * m < 0) != decide (m < 0)) = decide (k < 0) := by
    rcases Int.lt_trichotomy k 0 with a | a | a
    · rcases Int.lt_or_gt_of_ne h0 with b | b
      · have := Int.mul_pos_of_neg_of_neg a b
        have w : ¬ k * m < 0 := by omega
        simp [a, b, w]
      · have := Int.mul_neg_of_neg_of_pos a b
        have w : ¬ m < 0 := by omega
        simp [a, w, this]
    · subst a
      have w : ¬ m < 0 := by omega
      simp [w]
    · have w0 : ¬ k < 0 := by omega
      rcases Int.lt_or_gt_of_ne h0 with b | b
      · have := Int.mul_neg_of_pos_of_neg a b
        simp [b, this, w0]
      · have := Int.mul_pos a b
        have w : ¬ k * m < 0 := by omega
        have w' : ¬ m < 0 := by omega
        simp [w, w', w0]
  rw [S]
  refine roundRatio_congr (by omega) (by decide) ?_
  rw [Nat.mul_one]
  have := own_cancel (A := c) (B := k.natAbs * d) (x := q + f) (y := r + e) (b := 2148) (by omega) (by omega) (by
    rw [show (q + f + 2148).toNat = (q + 1074).toNat + (f + 1074).toNat by omega, show (r + e + 2148).toNat = (r + 1074).toNat + (e + 1074).toNat by omega, Nat.pow_add, Nat.pow_add, ← Nat.mul_assoc, u1, ← Nat.mul_assoc, Nat.mul_assoc k.natAbs d, u2, Int.natAbs_mul]
    ac_rfl)
  rwa [show q + f - (r + e) = q - r - (e - f) by omega, show r + e - (q + f) = e - f - (q - r) by omega] at this
theorem own_D_shift {n e : Int} (k : Nat) : own_D n e = own_D (n * ((2 ^ k : Nat) : Int)) (e - k) := by
  have P : (0 : Int) < ((2 ^ k : Nat) : Int) := Int.natCast_pos.mpr (Nat.two_pow_pos _)
  unfold own_D
  congr 1
  have S : decide (n < 0) = decide (n * ((2 ^ k : Nat) : Int) < 0) := by
    by_cases a : n < 0
    · have := Int.mul_neg_of_neg_of_pos a P
      simp only [a, this]
    · have := Int.mul_nonneg (show 0 ≤ n by omega) (Int.le_of_lt P)
      have w : ¬ n * ((2 ^ k : Nat) : Int) < 0 := by omega
      simp only [a, w]
  rw [← S, Int.natAbs_mul, Int.natAbs_natCast]
  refine roundRatio_congr (by decide) (by decide) ?_
  rw [show (e - (e - (k : Int))).toNat = k by omega, show (e - (k : Int) - e).toNat = 0 by omega]
  simp
theorem own_i2d (x : Int32) : Jvm.FP.Core.i2d x = own_D x.toInt 0 := rfl
theorem own_dneg {n e : Int} (h : n ≠ 0) : Jvm.FP.Core.dneg (own_D n e) = own_D (-n) e := by
  show of64 (negate (val64 (own_D n e))) = of64 (round b64 (.fin (decide (-n < 0)) (-n).natAbs e))
  rw [show val64 (own_D n e) = round b64 (.fin (decide (n < 0)) n.natAbs e) from val64_of64 (round_fits good_b64 _), negate_round]
  congr 2
  show Datum.fin (!decide (n < 0)) n.natAbs e = _
  rw [Int.natAbs_neg]
  congr 1
  rw [Bool.eq_iff_iff]; simp; omega
end OwnDy
def own_op (x v : UInt64) : Prop := x = v ∧ Jvm.Free.Fl.NoNaN64 x
theorem own_opD {x : UInt64} {n e : Int} (h : own_R n e) (q : x = own_D n e) : own_op x (own_D n e) := ⟨q, q ▸ Jvm.Free.Fl.noNaN64_no.mpr (FP.Core.DFin.notNaN (own_D_fin h))⟩
theorem own_one : (4607182418800017408 : UInt64) = own_D 1 0 := by decide +kernel
theorem own_quarter : (4598175219545276416 : UInt64) = own_D 1 (-2) := by decide +kernel
theorem own_four : (4616189618054758400 : UInt64) = own_D 4 0 := by decide +kernel
theorem own_z (e : Int) : (0 : UInt64) = own_D 0 e := by
  have h1 : (0 : UInt64) = own_D 0 0 := by decide +kernel
  have h2 : FP.Core.round FP.Core.b64 (.fin (decide ((0 : Int) < 0)) (0 : Int).natAbs e) = FP.Core.round FP.Core.b64 (.fin (decide ((0 : Int) < 0)) (0 : Int).natAbs 0) := by
    show FP.Core.roundRatio FP.Core.b64 _ 0 1 e = FP.Core.roundRatio FP.Core.b64 _ 0 1 0
    unfold FP.Core.roundRatio
    rw [if_pos rfl, if_pos rfl]
  exact h1.trans (congrArg FP.Core.of64 h2).symm
theorem own_xtop (a : UInt64) : a.toNat = (FP.dneg a).toNat + 2 ^ 63 ∨ (FP.dneg a).toNat = a.toNat + 2 ^ 63 := by
  have hn : (FP.dneg a).toNat = a.toNat ^^^ 2 ^ 63 := by
    show (a ^^^ 0x8000000000000000).toNat = _
    rw [UInt64.toNat_xor]
    rfl
  have d1 : (FP.dneg a).toNat / 2 ^ 63 = (a.toNat / 2 ^ 63) ^^^ 1 := by rw [hn, Nat.xor_div_two_pow]
  have d2 : (FP.dneg a).toNat % 2 ^ 63 = a.toNat % 2 ^ 63 := by
    rw [hn, Nat.xor_mod_two_pow]
    show a.toNat % 2 ^ 63 ^^^ 0 = _
    rw [Nat.xor_zero]
  have h1 := a.toNat_lt
  have h2 := (FP.dneg a).toNat_lt
  have q : a.toNat / 2 ^ 63 = 0 ∨ a.toNat / 2 ^ 63 = 1 := by omega
  rcases q with q | q
  · rw [q] at d1
    have d1' : (FP.dneg a).toNat / 2 ^ 63 = 1 := d1
    omega
  · rw [q] at d1
    have d1' : (FP.dneg a).toNat / 2 ^ 63 = 0 := d1
    omega
theorem own_dnegX {n e : Int} (h : n ≠ 0) (hr : own_R n e) (hr' : own_R (-n) e) : FP.dneg (own_D n e) = own_D (-n) e := by
  have h1 := FP.Core.val64_neg_bits (own_xtop (own_D n e))
  have h2 : FP.Core.val64 (own_D (-n) e) = FP.Core.negate (FP.Core.val64 (own_D n e)) := by
    rw [← own_dneg h]
    exact FP.Core.val64_dneg _
  exact (FP.Core.val64_inj (own_D_nn hr') (h2.trans h1.symm)).symm
theorem own_sub0 {x : UInt64} (h : FP.Core.val64 x ≠ .nan) : FP.dsub x 0 = x := by
  have h1 : FP.Core.dsub x 0 = FP.Core.dadd x (FP.Core.dneg 0) := FP.Core.dsub_eq _ _
  rw [show FP.Core.dneg 0 = FP.Core.dzeroNeg by decide +kernel, FP.Core.dadd_zeroNeg h] at h1
  exact h1
def own_obs (EX E2 E3 E4 EQ D1 D2 : UInt64) : Prop := own_op (FP.dmul EX 4607182418800017408) EX ∧ own_op (FP.dadd EX 0) EX ∧ own_op (FP.dadd 0 EX) EX ∧ own_op (FP.dmul 4607182418800017408 EX) EX ∧ own_op (FP.dadd EX EX) E2 ∧ own_op (FP.dadd E2 EX) E3 ∧ own_op (FP.dadd E3 EX) E4 ∧ own_op (FP.ddiv EX E4) 4598175219545276416 ∧ own_op (FP.dmul 4598175219545276416 EX) EQ ∧ own_op (FP.dsub EX EQ) D1 ∧ own_op (FP.dsub 0 EQ) D2
def own_obm (M4 M : UInt64) : Prop := own_op (FP.dsub M4 0) M4 ∧ own_op (FP.dmul 4598175219545276416 M4) M ∧ own_op (FP.dadd 0 M) M
theorem own_rng {n e : Int} (h1 : -9007199254740992 < n) (h2 : n < 9007199254740992) (h3 : -1000 ≤ e) (h4 : e ≤ 900) : own_R n e := ⟨by omega, h3, h4⟩
theorem own_obs_of {x : Int} (h1 : 1 ≤ x) (h2 : x ≤ 1099511627776) : ∃ E2 E3 E4 EQ D1 D2, own_obs (own_D x (-3)) E2 E3 E4 EQ D1 D2 := by
  have R : ∀ {n : Int} {e : Int}, -9007199254740992 < n → n < 9007199254740992 → -1000 ≤ e → e ≤ 900 → own_R n e := fun a b c d => own_rng a b c d
  have Rx : own_R x (-3) := R (by omega) (by omega) (by omega) (by omega)
  have fx := own_D_fin Rx
  have RQ : own_R x (-5) := R (by omega) (by omega) (by omega) (by omega)
  have q4 : FP.dmul 4598175219545276416 (own_D x (-3)) = own_D x (-5) := by
    rw [own_quarter]
    have := own_dmul (n := 1) (m := x) (e := -2) (f := -3) (R (by omega) (by omega) (by omega) (by omega)) Rx (Or.inr ⟨by omega, by omega⟩)
    rw [Int.one_mul] at this
    exact this
  refine ⟨own_D (x + x) (-3), own_D (x + x + x) (-3), own_D (x + x + x + x) (-3), own_D x (-5), _, _, ?_, ?_, ?_, ?_, ?_, ?_, ?_, ?_, own_opD RQ q4, ⟨rfl, ?_⟩, ⟨rfl, ?_⟩⟩
  · refine own_opD Rx ?_
    rw [own_one]
    have := own_dmul (n := x) (m := 1) (e := -3) (f := 0) Rx (R (by omega) (by omega) (by omega) (by omega)) (Or.inr ⟨by omega, by omega⟩)
    rw [Int.mul_one] at this
    exact this
  · refine own_opD Rx ?_
    rw [own_z (-3)]
    have := own_dadd (n := x) (m := 0) (e := -3) Rx (R (by omega) (by omega) (by omega) (by omega))
    rw [Int.add_zero] at this
    exact this
  · refine own_opD Rx ?_
    rw [own_z (-3)]
    have := own_dadd (n := 0) (m := x) (e := -3) (R (by omega) (by omega) (by omega) (by omega)) Rx
    rw [Int.zero_add] at this
    exact this
  · refine own_opD Rx ?_
    rw [own_one]
    have := own_dmul (n := 1) (m := x) (e := 0) (f := -3) (R (by omega) (by omega) (by omega) (by omega)) Rx (Or.inr ⟨by omega, by omega⟩)
    rw [Int.one_mul] at this
    exact this
  · exact own_opD (R (by omega) (by omega) (by omega) (by omega)) (own_dadd Rx Rx)
  · exact own_opD (R (by omega) (by omega) (by omega) (by omega)) (own_dadd (own_rng (by omega) (by omega) (by omega) (by omega)) Rx)
  · exact own_opD (R (by omega) (by omega) (by omega) (by omega)) (own_dadd (own_rng (by omega) (by omega) (by omega) (by omega)) Rx)
  · rw [own_quarter]
    refine own_opD (R (by omega) (by omega) (by omega) (by omega)) ?_
    have s := own_D_shift (n := x) (e := -3) 2
    have := own_ddiv (k := 1) (m := x + x + x + x) (e := -5) (f := -3) (R (by omega) (by omega) (by omega) (by omega)) (R (by omega) (by omega) (by omega) (by omega)) (by omega) (Or.inl (by omega))
    rw [show (1 : Int) * (x + x + x + x) = x * ((2 ^ 2 : Nat) : Int) by omega] at this
    rw [s]
    exact this
  · exact Jvm.Free.Fl.noNaN64_no.mpr (FP.Core.dsub_out fx.notNaN (own_D_fin RQ))
  · exact Jvm.Free.Fl.noNaN64_no.mpr (FP.Core.dsub_out (by decide +kernel) (own_D_fin RQ))
theorem own_obm_of {i : Int32} (h : ¬ i = 0) : ∃ M M4, FP.i2d i = M ∧ Jvm.Free.Fl.NoNaN64 M ∧ own_op (FP.dmul 4616189618054758400 M) M4 ∧ own_obm M4 M := by
  have b1 := i.toInt_lt
  have b2 := i.le_toInt
  have b3 : i.toInt ≠ 0 := fun q => h (Int32.toInt_inj.mp q)
  have R : ∀ {n : Int} {e : Int}, -9007199254740992 < n → n < 9007199254740992 → -1000 ≤ e → e ≤ 900 → own_R n e := fun a b c d => own_rng a b c d
  have RM : own_R i.toInt 0 := R (by omega) (by omega) (by omega) (by omega)
  have R4 : own_R (4 * i.toInt) 0 := R (by omega) (by omega) (by omega) (by omega)
  refine ⟨own_D i.toInt 0, own_D (4 * i.toInt) 0, own_i2d i, Jvm.Free.Fl.noNaN64_no.mpr (own_D_fin RM).notNaN, ?_, ?_, ?_, ?_⟩
  · refine own_opD R4 ?_
    rw [own_four]
    exact own_dmul (n := 4) (m := i.toInt) (e := 0) (f := 0) (R (by omega) (by omega) (by omega) (by omega)) RM (Or.inl ⟨by omega, b3⟩)
  · exact own_opD R4 (own_sub0 (own_D_nn R4))
  · refine own_opD RM ?_
    rw [own_quarter]
    have := own_dmul (n := 1) (m := 4 * i.toInt) (e := -2) (f := 0) (R (by omega) (by omega) (by omega) (by omega)) R4 (Or.inl ⟨by omega, by omega⟩)
    rw [own_D_shift (n := i.toInt) (e := 0) 2, show i.toInt * ((2 ^ 2 : Nat) : Int) = 1 * (4 * i.toInt) by omega]
    exact this
  · refine own_opD RM ?_
    rw [own_z 0]
    have := own_dadd (n := 0) (m := i.toInt) (e := 0) (R (by omega) (by omega) (by omega) (by omega)) RM
    rw [Int.zero_add] at this
    exact this
theorem own_and255 (x : Int32) : 0 ≤ (x &&& 255).toInt ∧ (x &&& 255).toInt ≤ 255 := by
  have h : (x &&& 255).toBitVec.toNat ≤ 255 := by
    rw [Int32.toBitVec_and, BitVec.toNat_and]
    exact Nat.and_le_right
  have : (x &&& 255).toInt = (x &&& 255).toBitVec.toInt := rfl
  rw [this, BitVec.toInt_eq_toNat_cond]
  split <;> omega
theorem own_and3 (x : Int32) : x &&& 3 = 0 ∨ x &&& 3 = 1 ∨ x &&& 3 = 2 ∨ x &&& 3 = 3 := by
  have h : (x &&& 3).toBitVec.toNat ≤ 3 := by
    rw [Int32.toBitVec_and, BitVec.toNat_and]
    exact Nat.and_le_right
  have e : ∀ k : Int32, (x &&& 3).toBitVec.toNat = k.toBitVec.toNat → x &&& 3 = k := fun k q => Int32.toBitVec_inj.mp (BitVec.eq_of_toNat_eq q)
  have : (x &&& 3).toBitVec.toNat = 0 ∨ (x &&& 3).toBitVec.toNat = 1 ∨ (x &&& 3).toBitVec.toNat = 2 ∨ (x &&& 3).toBitVec.toNat = 3 := by omega
  rcases this with q | q | q | q
  · exact Or.inl (e 0 q)
  · exact Or.inr (Or.inl (e 1 q))
  · exact Or.inr (Or.inr (Or.inl (e 2 q)))
  · exact Or.inr (Or.inr (Or.inr (e 3 q)))
theorem own_a1 (x : Int32) : 1 ≤ ((x &&& 255) + 1).toInt ∧ ((x &&& 255) + 1).toInt ≤ 256 := by
  have h := own_and255 x
  have : ((x &&& 255) + 1).toInt = (x &&& 255).toInt + 1 := by
    rw [Int32.toInt_add, show (1 : Int32).toInt = 1 from rfl]
    exact Int.bmod_eq_of_le (by omega) (by omega)
  omega
def own_bas (ai pi fi ki : Int32) (A NA P Fv K SQ SP G KG EX C1 C2 C3 : UInt64) : Prop :=
  FP.i2d ai = A ∧ FP.dneg A = NA ∧ FP.i2d pi = P ∧ FP.i2d fi = Fv ∧ FP.i2d ki = K ∧ own_op (FP.dmul A A) SQ ∧ own_op (FP.dmul NA NA) SQ ∧ own_op (FP.dmul SQ P) SP ∧ own_op (FP.ddiv SP Fv) G ∧ own_op (FP.dmul K G) KG ∧ own_op (FP.dadd SQ KG) EX ∧ own_op (FP.dadd SQ G) C1 ∧ own_op (FP.dadd C1 G) C2 ∧ own_op (FP.dadd C2 G) C3 ∧ (ki = 0 → SQ = EX) ∧ (ki = 1 → C1 = EX) ∧ (ki = 2 → C2 = EX) ∧ (ki = 3 → C3 = EX)
theorem own_bas_of {ai pi fi ki : Int32} {j : Nat} (ha : 1 ≤ ai.toInt ∧ ai.toInt ≤ 256) (hp : 1 ≤ pi.toInt ∧ pi.toInt ≤ 256) (hj : j ≤ 3) (hf : fi.toInt = ((2 ^ j : Nat) : Int)) (hk : ki = 0 ∨ ki = 1 ∨ ki = 2 ∨ ki = 3) :
    ∃ A NA P Fv K SQ SP G KG EX C1 C2 C3 E2 E3 E4 EQ D1 D2, own_bas ai pi fi ki A NA P Fv K SQ SP G KG EX C1 C2 C3 ∧ own_obs EX E2 E3 E4 EQ D1 D2 := by
  have R : ∀ {n : Int} {e : Int}, -9007199254740992 < n → n < 9007199254740992 → -1000 ≤ e → e ≤ 900 → own_R n e := fun a b c d => own_rng a b c d
  have hK : 0 ≤ ki.toInt ∧ ki.toInt ≤ 3 := by rcases hk with q | q | q | q <;> subst q <;> decide
  generalize hA : ai.toInt = a at ha
  generalize hP : pi.toInt = p at hp
  generalize hKi : ki.toInt = k at hK
  obtain ⟨sq, hsq⟩ : ∃ z, z = a * a := ⟨_, rfl⟩
  have sq1 : 1 ≤ sq := by rw [hsq]; have := Int.mul_le_mul ha.1 ha.1 (by omega) (by omega); omega
  have sq2 : sq ≤ 65536 := by rw [hsq]; have := Int.mul_le_mul ha.2 ha.2 (by omega) (by omega); omega
  obtain ⟨sp, hsp⟩ : ∃ z, z = sq * p := ⟨_, rfl⟩
  have sp1 : 1 ≤ sp := by rw [hsp]; have := Int.mul_le_mul sq1 hp.1 (by omega) (by omega); omega
  have sp2 : sp ≤ 16777216 := by rw [hsp]; have := Int.mul_le_mul sq2 hp.2 (by omega) (by omega); omega
  have f1 : (1 : Int) ≤ ((2 ^ j : Nat) : Int) ∧ ((2 ^ j : Nat) : Int) ≤ 8 := by
    have : j = 0 ∨ j = 1 ∨ j = 2 ∨ j = 3 := by omega
    rcases this with q | q | q | q <;> subst q <;> decide
  have f2 : (1 : Int) ≤ ((2 ^ (3 - j) : Nat) : Int) ∧ ((2 ^ (3 - j) : Nat) : Int) ≤ 8 := by
    have : j = 0 ∨ j = 1 ∨ j = 2 ∨ j = 3 := by omega
    rcases this with q | q | q | q <;> subst q <;> decide
  obtain ⟨g, hg⟩ : ∃ z, z = sp * ((2 ^ (3 - j) : Nat) : Int) := ⟨_, rfl⟩
  have g1 : 1 ≤ g := by rw [hg]; have := Int.mul_le_mul sp1 f2.1 (by omega) (by omega); omega
  have g2 : g ≤ 134217728 := by rw [hg]; have := Int.mul_le_mul sp2 f2.2 (by omega) (by omega); omega
  obtain ⟨spj, hspj⟩ : ∃ z, z = sp * ((2 ^ j : Nat) : Int) := ⟨_, rfl⟩
  have j1 : 1 ≤ spj := by rw [hspj]; have := Int.mul_le_mul sp1 f1.1 (by omega) (by omega); omega
  have j2 : spj ≤ 134217728 := by rw [hspj]; have := Int.mul_le_mul sp2 f1.2 (by omega) (by omega); omega
  obtain ⟨kg, hkg⟩ : ∃ z, z = k * g := ⟨_, rfl⟩
  have k1 : 0 ≤ kg := by rw [hkg]; exact Int.mul_nonneg hK.1 (by omega)
  have k2 : kg ≤ 402653184 := by rw [hkg]; have := Int.mul_le_mul hK.2 g2 (by omega) (by omega); omega
  obtain ⟨s8, hs8⟩ : ∃ z, z = 8 * sq := ⟨_, rfl⟩
  have SQe : own_D sq 0 = own_D s8 (-3) := by
    rw [own_D_shift (n := sq) (e := 0) 3, hs8, show sq * ((2 ^ 3 : Nat) : Int) = 8 * sq by omega]
    rfl
  have Ge : own_D sp (-(j : Int)) = own_D g (-3) := by
    rw [own_D_shift (n := sp) (e := -(j : Int)) (3 - j), hg, show -(j : Int) - ((3 - j : Nat) : Int) = -3 by omega]
  obtain ⟨E2, E3, E4, EQ, D1, D2, ho⟩ := own_obs_of (x := s8 + kg) (by omega) (by omega)
  have Ra : own_R a 0 := R (by omega) (by omega) (by omega) (by omega)
  have Rq : own_R sq 0 := R (by omega) (by omega) (by omega) (by omega)
  have Rs : own_R s8 (-3) := R (by omega) (by omega) (by omega) (by omega)
  have Rg : own_R g (-3) := R (by omega) (by omega) (by omega) (by omega)
  refine ⟨own_D a 0, own_D (-a) 0, own_D p 0, own_D ((2 ^ j : Nat) : Int) 0, own_D k 0, own_D s8 (-3), own_D sp 0, own_D g (-3), own_D kg (-3), own_D (s8 + kg) (-3), own_D (s8 + g) (-3), own_D (s8 + g + g) (-3), own_D (s8 + g + g + g) (-3), E2, E3, E4, EQ, D1, D2, ⟨?_, ?_, ?_, ?_, ?_, ?_, ?_, ?_, ?_, ?_, ?_, ?_, ?_, ?_, ?_, ?_, ?_, ?_⟩, ho⟩
  · rw [← hA]; exact own_i2d ai
  · exact own_dnegX (by omega) Ra (R (by omega) (by omega) (by omega) (by omega))
  · rw [← hP]; exact own_i2d pi
  · rw [← hf]; exact own_i2d fi
  · rw [← hKi]; exact own_i2d ki
  · refine own_opD Rs ?_
    rw [← SQe, hsq]
    exact own_dmul Ra Ra (Or.inl ⟨by omega, by omega⟩)
  · refine own_opD Rs ?_
    have := own_dmul (n := -a) (m := -a) (e := 0) (f := 0) (R (by omega) (by omega) (by omega) (by omega)) (R (by omega) (by omega) (by omega) (by omega)) (Or.inl ⟨by omega, by omega⟩)
    rw [Int.neg_mul_neg] at this
    rw [← SQe, hsq]
    exact this
  · refine own_opD (R (by omega) (by omega) (by omega) (by omega)) ?_
    rw [← SQe, hsp]
    exact own_dmul Rq (R (by omega) (by omega) (by omega) (by omega)) (Or.inr ⟨by omega, by omega⟩)
  · refine own_opD Rg ?_
    have := own_ddiv (k := sp) (m := ((2 ^ j : Nat) : Int)) (e := -(j : Int)) (f := 0) (by rw [← hspj]; exact R (by omega) (by omega) (by omega) (by omega)) (R (by omega) (by omega) (by omega) (by omega)) (by omega) (Or.inr (by omega))
    rw [own_D_shift (n := sp) (e := 0) j, Int.zero_sub, ← Ge]
    rw [Int.sub_zero] at this
    exact this
  · refine own_opD (R (by omega) (by omega) (by omega) (by omega)) ?_
    rw [hkg]
    have := own_dmul (n := k) (m := g) (e := 0) (f := -3) (R (by omega) (by omega) (by omega) (by omega)) Rg (Or.inr ⟨by omega, by omega⟩)
    exact this
  · exact own_opD (R (by omega) (by omega) (by omega) (by omega)) (own_dadd Rs (R (by omega) (by omega) (by omega) (by omega)))
  · exact own_opD (R (by omega) (by omega) (by omega) (by omega)) (own_dadd Rs Rg)
  · exact own_opD (R (by omega) (by omega) (by omega) (by omega)) (own_dadd (R (by omega) (by omega) (by omega) (by omega)) Rg)
  · exact own_opD (R (by omega) (by omega) (by omega) (by omega)) (own_dadd (R (by omega) (by omega) (by omega) (by omega)) Rg)
  · intro q; subst q
    have : k = 0 := hKi.symm
    rw [hkg, this, Int.zero_mul, Int.add_zero]
  · intro q; subst q
    have : k = 1 := hKi.symm
    rw [hkg, this, Int.one_mul]
  · intro q; subst q
    have : k = 2 := hKi.symm
    rw [hkg, this, show s8 + g + g = s8 + 2 * g by omega]
  · intro q; subst q
    have : k = 3 := hKi.symm
    rw [hkg, this, show s8 + g + g + g = s8 + 3 * g by omega]
theorem own_z1 : own_op (FP.dmul 0 4607182418800017408) 0 := ⟨by decide +kernel, by unfold Jvm.Free.Fl.NoNaN64; decide +kernel⟩
theorem own_1z : own_op (FP.dmul 4607182418800017408 0) 0 := ⟨by decide +kernel, by unfold Jvm.Free.Fl.NoNaN64; decide +kernel⟩
theorem own_zz : own_op (FP.dadd 0 0) 0 := ⟨by decide +kernel, by unfold Jvm.Free.Fl.NoNaN64; decide +kernel⟩
theorem own_law {x y z w ai pi fi ki : Int32} (ha : ai = ((x &&& 255) + 1)) (hp : pi = ((y &&& 255) + 1)) (hf : fi = (1 <<< ((z &&& 3) &&& 31))) (hk : ki = (w &&& 3)) :
    ∃ A NA P Fv K SQ SP G KG EX C1 C2 C3 E2 E3 E4 EQ D1 D2, own_bas ai pi fi ki A NA P Fv K SQ SP G KG EX C1 C2 C3 ∧ own_obs EX E2 E3 E4 EQ D1 D2 := by
  have q1 := own_a1 x
  have q2 := own_a1 y
  have q4 := own_and3 w
  have q3 : ∃ j : Nat, j ≤ 3 ∧ fi.toInt = ((2 ^ j : Nat) : Int) := by
    subst hf
    rcases own_and3 z with q | q | q | q <;> rw [q]
    · exact ⟨0, by decide, by decide⟩
    · exact ⟨1, by decide, by decide⟩
    · exact ⟨2, by decide, by decide⟩
    · exact ⟨3, by decide, by decide⟩
  obtain ⟨j, j1, j2⟩ := q3
  subst ha hp hk
  exact own_bas_of q1 q2 j1 j2 q4
theorem own_k0 {w k : Int32} (e : k = (w &&& 3)) (h : k < 1) : k = 0 := by rcases own_and3 w with q | q | q | q <;> rw [← e] at q <;> subst q <;> first | rfl | exact absurd h (by decide)
theorem own_k1 {w k : Int32} (e : k = (w &&& 3)) (g : ¬ k < 1) (h : k < 2) : k = 1 := by rcases own_and3 w with q | q | q | q <;> rw [← e] at q <;> subst q <;> first | rfl | exact absurd h (by decide) | exact absurd g (by decide)
theorem own_k2 {w k : Int32} (e : k = (w &&& 3)) (g : ¬ k < 2) (h : k < 3) : k = 2 := by rcases own_and3 w with q | q | q | q <;> rw [← e] at q <;> subst q <;> first | rfl | exact absurd h (by decide) | exact absurd g (by decide)
theorem own_k3 {w k : Int32} (e : k = (w &&& 3)) (g : ¬ k < 3) : k = 3 := by rcases own_and3 w with q | q | q | q <;> rw [← e] at q <;> subst q <;> first | rfl | exact absurd g (by decide)
theorem own_l12 {k : Int32} (h : k < 1) : k < 2 := by rw [Int32.lt_iff_toInt_lt] at h ⊢; exact Int.lt_trans h (by decide)
theorem own_l23 {k : Int32} (h : k < 2) : k < 3 := by rw [Int32.lt_iff_toInt_lt] at h ⊢; exact Int.lt_trans h (by decide)
theorem ef_rm_record (m : MethodId) (x0 : Addr) : entryFrame m #[(.ref x0)] 1 = mkF m 0 #[.val (.ref x0)] [] := by first | (simp [entryFrame, mkF, argsToLocals, Value.category]; done) | rfl
theorem pn_java_lang_Record : plainName "java/lang/Record" = true := by first | (simp [plainName, overriddenIn]; done) | decide +kernel
abbrev M5 : MethodName := ⟨"java/lang/Record", "<init>", "()V"⟩
theorem d5_0 : decode jdk_30_method_1_code 0 = .ok (.aload_n 0, 1) := by decide +kernel
theorem d5_1 : decode jdk_30_method_1_code 1 = .ok (.invokespecial 1, 3) := by decide +kernel
theorem d5_4 : decode jdk_30_method_1_code 4 = .ok (.return_, 1) := by decide +kernel
def Q_rm_record (Z : State) (a : Addr) (h0 : Heap) (n0 : Nat) (v : Option Value) (h : Heap) (L : List Loc) : Prop := v = none ∧ Fr n0 L ∧ h = h0
set_option maxRecDepth 65536 in
set_option maxHeartbeats 40000000 in
theorem rm_record (l : Launch) (Z : State) (a0 : Array Value) (hw : ∀ d ∈ tables_1, d.before a0 Z = true) (ws : List Jvm.Cond) (a : Addr) (h0 : Heap) (n0 : Nat) (Z0 : n0 ≤ h0.size)  :
    Met l Z M5 jdk_30_method_1_code 1 none ws (Rm 1 0 0 12) #[(.ref a)] h0 (Q_rm_record Z a h0 n0) := by
  refine met_of (plainFor_of_name pn_java_lang_Record) (own := "java/lang/Record") rfl (fun m => ef_rm_record m a) ?_
  intro p e s m below meth c s₁ hx hby hml hown hnm hZ X0 e0 hret hlk
  have N0 := Fr.nil n0
  show Goes p e below s _ _ _ (s₁.setTop (mkF m 0 #[.val (.ref a)] []))
  refine Goes.pre (U' := s₁.setTop (mkF m 1 #[.val (.ref a)] [(.ref a)])) (fun t k => XS.aloadN X0.here hx rfl (hb hby d5_0) rfl rfl k) ?_
  obtain ⟨T1, X1, e1, st1⟩ := initO X0 hx hZ hown (wq hw 34 rfl) (wq hw 7 rfl) (wq hw 8 rfl) e0 (g := (mkF m 1 #[.val (.ref a)] [(.ref a)])) rfl (by rw [hml]; rfl) rfl (hb hby d5_1) (by decide) (W := 0) (by show 2 * 0 + _ ≤ _; exact Nat.le_of_eq rfl) (by decide)
  refine Goes.pre (U' := T1.setTop (mkF m 4 #[.val (.ref a)] [])) (fun t k => st1 t k) ?_
  refine Goes.ret X1 (v := none) (fun _ => rfl) hlk (by decide) (by decide) e1 (fun fs hr => X1.returnOut hx hret (hb hby d5_4) hr) ?_
  exact ⟨rfl, N0, rfl⟩
theorem ef_rm_v3 (m : MethodId) (x0 : Addr) (x1 : UInt64) (x2 : UInt64) (x3 : UInt64) : entryFrame m #[(.ref x0), (.double x1), (.double x2), (.double x3)] 7 = mkF m 0 #[.val (.ref x0), .val (.double x1), .second, .val (.double x2), .second, .val (.double x3), .second] [] := by first | (simp [entryFrame, mkF, argsToLocals, Value.category]; done) | rfl
theorem pn_com_example_corpo_corpo_samples_Vector3 : plainName "com/example/corpo/corpo/samples/Vector3" = true := by first | (simp [plainName, overriddenIn]; done) | decide +kernel
abbrev M4 : MethodName := ⟨"com/example/corpo/corpo/samples/Vector3", "<init>", "(DDD)V"⟩
theorem d4_0 : decode prog_37_method_1_code 0 = .ok (.aload_n 0, 1) := by decide +kernel
theorem d4_1 : decode prog_37_method_1_code 1 = .ok (.invokespecial 1, 3) := by decide +kernel
theorem pd__28_29V : parseMethodDescriptor "()V" = some ⟨[], none⟩ := by decide +kernel
theorem d4_4 : decode prog_37_method_1_code 4 = .ok (.aload_n 0, 1) := by decide +kernel
theorem d4_5 : decode prog_37_method_1_code 5 = .ok (.dload_n 1, 1) := by decide +kernel
theorem d4_6 : decode prog_37_method_1_code 6 = .ok (.putfield 7, 3) := by decide +kernel
theorem d4_9 : decode prog_37_method_1_code 9 = .ok (.aload_n 0, 1) := by decide +kernel
theorem d4_10 : decode prog_37_method_1_code 10 = .ok (.dload_n 3, 1) := by decide +kernel
theorem d4_11 : decode prog_37_method_1_code 11 = .ok (.putfield 13, 3) := by decide +kernel
theorem d4_14 : decode prog_37_method_1_code 14 = .ok (.aload_n 0, 1) := by decide +kernel
theorem d4_15 : decode prog_37_method_1_code 15 = .ok (.dload 5, 2) := by decide +kernel
theorem d4_17 : decode prog_37_method_1_code 17 = .ok (.putfield 16, 3) := by decide +kernel
theorem d4_20 : decode prog_37_method_1_code 20 = .ok (.return_, 1) := by decide +kernel
def Q_rm_v3 (Z : State) (a : Addr) (xx : UInt64) (yy : UInt64) (zz : UInt64) (h0 : Heap) (n0 : Nat) (v : Option Value) (h : Heap) (L : List Loc) : Prop := v = none ∧ Fr n0 L ∧ Keep h0 h [a] ∧ Fld Z h a "com/example/corpo/corpo/samples/Vector3" "x" "D" (.double xx) ∧ Fld Z h a "com/example/corpo/corpo/samples/Vector3" "y" "D" (.double yy) ∧ Fld Z h a "com/example/corpo/corpo/samples/Vector3" "z" "D" (.double zz)
set_option maxRecDepth 65536 in
set_option maxHeartbeats 40000000 in
theorem rm_v3 (l : Launch) (Z : State) (a0 : Array Value) (hw : ∀ d ∈ tables_1, d.before a0 Z = true) (ws : List Jvm.Cond) (a : Addr) (xx : UInt64) (yy : UInt64) (zz : UInt64) (h0 : Heap) (n0 : Nat) (Z0 : n0 ≤ h0.size) (E_a : Exa Z h0 a "com/example/corpo/corpo/samples/Vector3") (F_x_a : Fld Z h0 a "com/example/corpo/corpo/samples/Vector3" "x" "D" (.double (0 : UInt64))) (F_y_a : Fld Z h0 a "com/example/corpo/corpo/samples/Vector3" "y" "D" (.double (0 : UInt64))) (F_z_a : Fld Z h0 a "com/example/corpo/corpo/samples/Vector3" "z" "D" (.double (0 : UInt64))) (g_a : n0 ≤ a) :
    Met l Z M4 prog_37_method_1_code 7 none ws (Rm 2 0 0 24) #[(.ref a), (.double xx), (.double yy), (.double zz)] h0 (Q_rm_v3 Z a xx yy zz h0 n0) := by
  refine met_of (plainFor_of_name pn_com_example_corpo_corpo_samples_Vector3) (own := "com/example/corpo/corpo/samples/Vector3") rfl (fun m => ef_rm_v3 m a xx yy zz) ?_
  intro p e s m below meth c s₁ hx hby hml hown hnm hZ X0 e0 hret hlk
  have N0 := Fr.nil n0
  have K0 := Keep.refl h0 [a]
  show Goes p e below s _ _ _ (s₁.setTop (mkF m 0 #[.val (.ref a), .val (.double xx), .second, .val (.double yy), .second, .val (.double zz), .second] []))
  refine Goes.pre (U' := s₁.setTop (mkF m 1 #[.val (.ref a), .val (.double xx), .second, .val (.double yy), .second, .val (.double zz), .second] [(.ref a)])) (fun t k => XS.aloadN X0.here hx rfl (hb hby d4_0) rfl rfl k) ?_
  obtain ⟨_, _, ⟨T1, L1, k1, n1⟩, -, X1, ⟨Lc1, hQ1, l1, y1, z1⟩, st1⟩ := X0.specialBack hx (y := (⟨"java/lang/Record", "<init>", "()V"⟩ : MethodName)) rfl hown (mvT hZ (wq hw 29 rfl)) (mvT hZ (wq hw 30 rfl)) (mvT hZ (wq hw 33 rfl)) (by decide) (backOf (W := 0) (rm_record l Z a0 hw [] a h0 n0 Z0) hZ (wq hw 33 rfl) (wq hw 32 rfl) (by decide) (by decide)) (g := (mkF m 1 #[.val (.ref a), .val (.double xx), .second, .val (.double yy), .second, .val (.double zz), .second] [(.ref a)])) rfl (by rw [hml]; rfl) (Steps.refl _) (a := a) (argsL := []) (rest := []) (lenOf pd__28_29V rfl) rfl (by show 2 * 0 + _ ≤ _; exact Nat.le_of_eq rfl) (hb hby d4_1) (fun _ _ => ⟨rfl, e0, (by decide : 0 + 0 ≤ _), (by decide : 0 + 0 ≤ _)⟩)
  dsimp only [Pt.U, Pt.locs, Pt.cells, Pt.slots] at X1 l1 y1 z1 st1 hQ1
  subst l1 y1 z1
  obtain ⟨rfl, N1q, HQ1⟩ := hQ1
  have N1 := Fr.app N0 N1q
  refine Goes.pre (U' := T1.setTop (mkF m 6 #[.val (.ref a), .val (.double xx), .second, .val (.double yy), .second, .val (.double zz), .second] [(.double xx), (.ref a)])) (fun t k => st1.trans (XS.aloadN X1.here hx rfl (hb hby d4_4) rfl rfl (XS.dloadN X1.here hx rfl (hb hby d4_5) rfl k))) ?_
  obtain ⟨T2, h2, X2, e2, W2, st2⟩ := putF X1 hx hZ hown (host := "") (Or.inl (wq hw 35 rfl)) Via.refl HQ1 F_x_a E_a (Or.inr ⟨(wq hw 36 rfl), rfl, hnm⟩) (wq hw 24 rfl) (ty := .double) (by decide) rfl rfl (g := (mkF m 6 #[.val (.ref a), .val (.double xx), .second, .val (.double yy), .second, .val (.double zz), .second] [(.double xx), (.ref a)])) rfl rfl (hb hby d4_6)
  have E_a := E_a.wr W2
  have F_y_a := F_y_a.other W2 (Or.inr (slot_ne (Or.inr (wq hw 38 rfl)) (Or.inr (wq hw 36 rfl)) (by decide) (t := .double) (t' := .double) (by decide) (by decide)))
  have F_z_a := F_z_a.other W2 (Or.inr (slot_ne (Or.inr (wq hw 40 rfl)) (Or.inr (wq hw 36 rfl)) (by decide) (t := .double) (t' := .double) (by decide) (by decide)))
  have Z2 : n0 ≤ h2.size := Nat.le_trans Z0 (Keep.of_wr W2).1
  have F_x_a := F_x_a.same W2
  have K2 := K0.wr W2 (Or.inl (List.mem_of_getElem? (i := 0) rfl))
  have N2 := Fr.snoc X2 N1 g_a
  refine Goes.pre (U' := T2.setTop (mkF m 11 #[.val (.ref a), .val (.double xx), .second, .val (.double yy), .second, .val (.double zz), .second] [(.double yy), (.ref a)])) (fun t k => st2 t (XS.aloadN X2.here hx rfl (hb hby d4_9) rfl rfl (XS.dloadN X2.here hx rfl (hb hby d4_10) rfl k))) ?_
  obtain ⟨T3, h3, X3, e3, W3, st3⟩ := putF X2 hx hZ hown (host := "") (Or.inl (wq hw 37 rfl)) Via.refl e2 F_y_a E_a (Or.inr ⟨(wq hw 38 rfl), rfl, hnm⟩) (wq hw 24 rfl) (ty := .double) (by decide) rfl rfl (g := (mkF m 11 #[.val (.ref a), .val (.double xx), .second, .val (.double yy), .second, .val (.double zz), .second] [(.double yy), (.ref a)])) rfl rfl (hb hby d4_11)
  have E_a := E_a.wr W3
  have F_x_a := F_x_a.other W3 (Or.inr (slot_ne (Or.inr (wq hw 36 rfl)) (Or.inr (wq hw 38 rfl)) (by decide) (t := .double) (t' := .double) (by decide) (by decide)))
  have F_z_a := F_z_a.other W3 (Or.inr (slot_ne (Or.inr (wq hw 40 rfl)) (Or.inr (wq hw 38 rfl)) (by decide) (t := .double) (t' := .double) (by decide) (by decide)))
  have Z3 : n0 ≤ h3.size := Nat.le_trans Z2 (Keep.of_wr W3).1
  have F_y_a := F_y_a.same W3
  have K3 := K2.wr W3 (Or.inl (List.mem_of_getElem? (i := 0) rfl))
  have N3 := Fr.snoc X3 N2 g_a
  refine Goes.pre (U' := T3.setTop (mkF m 17 #[.val (.ref a), .val (.double xx), .second, .val (.double yy), .second, .val (.double zz), .second] [(.double zz), (.ref a)])) (fun t k => st3 t (XS.aloadN X3.here hx rfl (hb hby d4_14) rfl rfl (XS.dload X3.here hx rfl (hb hby d4_15) rfl k))) ?_
  obtain ⟨T4, h4, X4, e4, W4, st4⟩ := putF X3 hx hZ hown (host := "") (Or.inl (wq hw 39 rfl)) Via.refl e3 F_z_a E_a (Or.inr ⟨(wq hw 40 rfl), rfl, hnm⟩) (wq hw 24 rfl) (ty := .double) (by decide) rfl rfl (g := (mkF m 17 #[.val (.ref a), .val (.double xx), .second, .val (.double yy), .second, .val (.double zz), .second] [(.double zz), (.ref a)])) rfl rfl (hb hby d4_17)
  have E_a := E_a.wr W4
  have F_x_a := F_x_a.other W4 (Or.inr (slot_ne (Or.inr (wq hw 36 rfl)) (Or.inr (wq hw 40 rfl)) (by decide) (t := .double) (t' := .double) (by decide) (by decide)))
  have F_y_a := F_y_a.other W4 (Or.inr (slot_ne (Or.inr (wq hw 38 rfl)) (Or.inr (wq hw 40 rfl)) (by decide) (t := .double) (t' := .double) (by decide) (by decide)))
  have Z4 : n0 ≤ h4.size := Nat.le_trans Z3 (Keep.of_wr W4).1
  have F_z_a := F_z_a.same W4
  have K4 := K3.wr W4 (Or.inl (List.mem_of_getElem? (i := 0) rfl))
  have N4 := Fr.snoc X4 N3 g_a
  refine Goes.pre (U' := T4.setTop (mkF m 20 #[.val (.ref a), .val (.double xx), .second, .val (.double yy), .second, .val (.double zz), .second] [])) (fun t k => st4 t k) ?_
  refine Goes.ret X4 (v := none) (fun _ => rfl) hlk (by decide) (by decide) e4 (fun fs hr => X4.returnOut hx hret (hb hby d4_20) hr) ?_
  exact ⟨rfl, N4, K4, F_x_a, F_y_a, F_z_a⟩
theorem ef_rm_vx (m : MethodId) (x0 : Addr) : entryFrame m #[(.ref x0)] 1 = mkF m 0 #[.val (.ref x0)] [] := by first | (simp [entryFrame, mkF, argsToLocals, Value.category]; done) | rfl
abbrev M7 : MethodName := ⟨"com/example/corpo/corpo/samples/Vector3", "x", "()D"⟩
theorem d7_0 : decode prog_37_method_8_code 0 = .ok (.aload_n 0, 1) := by decide +kernel
theorem d7_1 : decode prog_37_method_8_code 1 = .ok (.getfield 7, 3) := by decide +kernel
theorem d7_4 : decode prog_37_method_8_code 4 = .ok (.dreturn, 1) := by decide +kernel
def Q_rm_vx (Z : State) (a : Addr) (xx : UInt64) (h0 : Heap) (n0 : Nat) (v : Option Value) (h : Heap) (L : List Loc) : Prop := v = some (.double xx) ∧ Fr n0 L ∧ h = h0
set_option maxRecDepth 65536 in
set_option maxHeartbeats 40000000 in
theorem rm_vx (l : Launch) (Z : State) (a0 : Array Value) (hw : ∀ d ∈ tables_1, d.before a0 Z = true) (ws : List Jvm.Cond) (a : Addr) (xx : UInt64) (h0 : Heap) (n0 : Nat) (Z0 : n0 ≤ h0.size) (F_x_a : Fld Z h0 a "com/example/corpo/corpo/samples/Vector3" "x" "D" (.double xx)) :
    Met l Z M7 prog_37_method_8_code 1 (some .double) ws (Rm 0 0 0 0) #[(.ref a)] h0 (Q_rm_vx Z a xx h0 n0) := by
  refine met_of (plainFor_of_name pn_com_example_corpo_corpo_samples_Vector3) (own := "com/example/corpo/corpo/samples/Vector3") rfl (fun m => ef_rm_vx m a) ?_
  intro p e s m below meth c s₁ hx hby hml hown hnm hZ X0 e0 hret hlk
  have N0 := Fr.nil n0
  show Goes p e below s _ _ _ (s₁.setTop (mkF m 0 #[.val (.ref a)] []))
  refine Goes.pre (U' := s₁.setTop (mkF m 1 #[.val (.ref a)] [(.ref a)])) (fun t k => XS.aloadN X0.here hx rfl (hb hby d7_0) rfl rfl k) ?_
  obtain ⟨T1, X1, e1, st1⟩ := getF X0 hx hZ hown (host := "") (Or.inl (wq hw 35 rfl)) Via.refl e0 F_x_a (g := (mkF m 1 #[.val (.ref a)] [(.ref a)])) rfl rfl (hb hby d7_1)
  refine Goes.pre (U' := T1.setTop (mkF m 4 #[.val (.ref a)] [(.double xx)])) (fun t k => st1 t k) ?_
  refine Goes.ret X1 (v := (some (.double xx))) (fun h => by rw [hret] at h; cases h) hlk (by decide) (by decide) e1 (fun fs hr => retOut X1 hx hret rfl (Or.inr (Or.inr (Or.inl ⟨rfl, rfl, _, rfl⟩))) (hb hby d7_4) hr) ?_
  exact ⟨rfl, N0, rfl⟩
theorem ef_rm_vy (m : MethodId) (x0 : Addr) : entryFrame m #[(.ref x0)] 1 = mkF m 0 #[.val (.ref x0)] [] := by first | (simp [entryFrame, mkF, argsToLocals, Value.category]; done) | rfl
abbrev M8 : MethodName := ⟨"com/example/corpo/corpo/samples/Vector3", "y", "()D"⟩
theorem d8_0 : decode prog_37_method_9_code 0 = .ok (.aload_n 0, 1) := by decide +kernel
theorem d8_1 : decode prog_37_method_9_code 1 = .ok (.getfield 13, 3) := by decide +kernel
theorem d8_4 : decode prog_37_method_9_code 4 = .ok (.dreturn, 1) := by decide +kernel
def Q_rm_vy (Z : State) (a : Addr) (xx : UInt64) (h0 : Heap) (n0 : Nat) (v : Option Value) (h : Heap) (L : List Loc) : Prop := v = some (.double xx) ∧ Fr n0 L ∧ h = h0
set_option maxRecDepth 65536 in
set_option maxHeartbeats 40000000 in
theorem rm_vy (l : Launch) (Z : State) (a0 : Array Value) (hw : ∀ d ∈ tables_1, d.before a0 Z = true) (ws : List Jvm.Cond) (a : Addr) (xx : UInt64) (h0 : Heap) (n0 : Nat) (Z0 : n0 ≤ h0.size) (F_y_a : Fld Z h0 a "com/example/corpo/corpo/samples/Vector3" "y" "D" (.double xx)) :
    Met l Z M8 prog_37_method_9_code 1 (some .double) ws (Rm 0 0 0 0) #[(.ref a)] h0 (Q_rm_vy Z a xx h0 n0) := by
  refine met_of (plainFor_of_name pn_com_example_corpo_corpo_samples_Vector3) (own := "com/example/corpo/corpo/samples/Vector3") rfl (fun m => ef_rm_vy m a) ?_
  intro p e s m below meth c s₁ hx hby hml hown hnm hZ X0 e0 hret hlk
  have N0 := Fr.nil n0
  show Goes p e below s _ _ _ (s₁.setTop (mkF m 0 #[.val (.ref a)] []))
  refine Goes.pre (U' := s₁.setTop (mkF m 1 #[.val (.ref a)] [(.ref a)])) (fun t k => XS.aloadN X0.here hx rfl (hb hby d8_0) rfl rfl k) ?_
  obtain ⟨T1, X1, e1, st1⟩ := getF X0 hx hZ hown (host := "") (Or.inl (wq hw 37 rfl)) Via.refl e0 F_y_a (g := (mkF m 1 #[.val (.ref a)] [(.ref a)])) rfl rfl (hb hby d8_1)
  refine Goes.pre (U' := T1.setTop (mkF m 4 #[.val (.ref a)] [(.double xx)])) (fun t k => st1 t k) ?_
  refine Goes.ret X1 (v := (some (.double xx))) (fun h => by rw [hret] at h; cases h) hlk (by decide) (by decide) e1 (fun fs hr => retOut X1 hx hret rfl (Or.inr (Or.inr (Or.inl ⟨rfl, rfl, _, rfl⟩))) (hb hby d8_4) hr) ?_
  exact ⟨rfl, N0, rfl⟩
theorem ef_rm_vz (m : MethodId) (x0 : Addr) : entryFrame m #[(.ref x0)] 1 = mkF m 0 #[.val (.ref x0)] [] := by first | (simp [entryFrame, mkF, argsToLocals, Value.category]; done) | rfl
abbrev M9 : MethodName := ⟨"com/example/corpo/corpo/samples/Vector3", "z", "()D"⟩
theorem d9_0 : decode prog_37_method_10_code 0 = .ok (.aload_n 0, 1) := by decide +kernel
theorem d9_1 : decode prog_37_method_10_code 1 = .ok (.getfield 16, 3) := by decide +kernel
theorem d9_4 : decode prog_37_method_10_code 4 = .ok (.dreturn, 1) := by decide +kernel
def Q_rm_vz (Z : State) (a : Addr) (xx : UInt64) (h0 : Heap) (n0 : Nat) (v : Option Value) (h : Heap) (L : List Loc) : Prop := v = some (.double xx) ∧ Fr n0 L ∧ h = h0
set_option maxRecDepth 65536 in
set_option maxHeartbeats 40000000 in
theorem rm_vz (l : Launch) (Z : State) (a0 : Array Value) (hw : ∀ d ∈ tables_1, d.before a0 Z = true) (ws : List Jvm.Cond) (a : Addr) (xx : UInt64) (h0 : Heap) (n0 : Nat) (Z0 : n0 ≤ h0.size) (F_z_a : Fld Z h0 a "com/example/corpo/corpo/samples/Vector3" "z" "D" (.double xx)) :
    Met l Z M9 prog_37_method_10_code 1 (some .double) ws (Rm 0 0 0 0) #[(.ref a)] h0 (Q_rm_vz Z a xx h0 n0) := by
  refine met_of (plainFor_of_name pn_com_example_corpo_corpo_samples_Vector3) (own := "com/example/corpo/corpo/samples/Vector3") rfl (fun m => ef_rm_vz m a) ?_
  intro p e s m below meth c s₁ hx hby hml hown hnm hZ X0 e0 hret hlk
  have N0 := Fr.nil n0
  show Goes p e below s _ _ _ (s₁.setTop (mkF m 0 #[.val (.ref a)] []))
  refine Goes.pre (U' := s₁.setTop (mkF m 1 #[.val (.ref a)] [(.ref a)])) (fun t k => XS.aloadN X0.here hx rfl (hb hby d9_0) rfl rfl k) ?_
  obtain ⟨T1, X1, e1, st1⟩ := getF X0 hx hZ hown (host := "") (Or.inl (wq hw 39 rfl)) Via.refl e0 F_z_a (g := (mkF m 1 #[.val (.ref a)] [(.ref a)])) rfl rfl (hb hby d9_1)
  refine Goes.pre (U' := T1.setTop (mkF m 4 #[.val (.ref a)] [(.double xx)])) (fun t k => st1 t k) ?_
  refine Goes.ret X1 (v := (some (.double xx))) (fun h => by rw [hret] at h; cases h) hlk (by decide) (by decide) e1 (fun fs hr => retOut X1 hx hret rfl (Or.inr (Or.inr (Or.inl ⟨rfl, rfl, _, rfl⟩))) (hb hby d9_4) hr) ?_
  exact ⟨rfl, N0, rfl⟩
theorem ef_rm_dot (m : MethodId) (x0 : Addr) (x1 : Addr) : entryFrame m #[(.ref x0), (.ref x1)] 2 = mkF m 0 #[.val (.ref x0), .val (.ref x1)] [] := by first | (simp [entryFrame, mkF, argsToLocals, Value.category]; done) | rfl
theorem pn_com_example_corpo_corpo_orientation_GyroBias : plainName "com/example/corpo/corpo/orientation/GyroBias" = true := by first | (simp [plainName, overriddenIn]; done) | decide +kernel
abbrev M10 : MethodName := ⟨"com/example/corpo/corpo/orientation/GyroBias", "dot", "([D[D)D"⟩
theorem d10_0 : decode prog_8_method_6_code 0 = .ok (.aload_n 0, 1) := by decide +kernel
theorem d10_1 : decode prog_8_method_6_code 1 = .ok (.iconst 0, 1) := by decide +kernel
theorem d10_2 : decode prog_8_method_6_code 2 = .ok (.daload, 1) := by decide +kernel
theorem d10_3 : decode prog_8_method_6_code 3 = .ok (.aload_n 1, 1) := by decide +kernel
theorem d10_4 : decode prog_8_method_6_code 4 = .ok (.iconst 0, 1) := by decide +kernel
theorem d10_5 : decode prog_8_method_6_code 5 = .ok (.daload, 1) := by decide +kernel
theorem d10_6 : decode prog_8_method_6_code 6 = .ok (.dmul, 1) := by decide +kernel
theorem d10_7 : decode prog_8_method_6_code 7 = .ok (.aload_n 0, 1) := by decide +kernel
theorem d10_8 : decode prog_8_method_6_code 8 = .ok (.iconst 1, 1) := by decide +kernel
theorem d10_9 : decode prog_8_method_6_code 9 = .ok (.daload, 1) := by decide +kernel
theorem d10_10 : decode prog_8_method_6_code 10 = .ok (.aload_n 1, 1) := by decide +kernel
theorem d10_11 : decode prog_8_method_6_code 11 = .ok (.iconst 1, 1) := by decide +kernel
theorem d10_12 : decode prog_8_method_6_code 12 = .ok (.daload, 1) := by decide +kernel
theorem d10_13 : decode prog_8_method_6_code 13 = .ok (.dmul, 1) := by decide +kernel
theorem d10_14 : decode prog_8_method_6_code 14 = .ok (.dadd, 1) := by decide +kernel
theorem d10_15 : decode prog_8_method_6_code 15 = .ok (.aload_n 0, 1) := by decide +kernel
theorem d10_16 : decode prog_8_method_6_code 16 = .ok (.iconst 2, 1) := by decide +kernel
theorem d10_17 : decode prog_8_method_6_code 17 = .ok (.daload, 1) := by decide +kernel
theorem d10_18 : decode prog_8_method_6_code 18 = .ok (.aload_n 1, 1) := by decide +kernel
theorem d10_19 : decode prog_8_method_6_code 19 = .ok (.iconst 2, 1) := by decide +kernel
theorem d10_20 : decode prog_8_method_6_code 20 = .ok (.daload, 1) := by decide +kernel
theorem d10_21 : decode prog_8_method_6_code 21 = .ok (.dmul, 1) := by decide +kernel
theorem d10_22 : decode prog_8_method_6_code 22 = .ok (.dadd, 1) := by decide +kernel
theorem d10_23 : decode prog_8_method_6_code 23 = .ok (.dreturn, 1) := by decide +kernel
def Q_rm_dot (Z : State) (x : Addr) (y : Addr) (kx : ClassId) (ky : ClassId) (xa : UInt64) (xb : UInt64) (xc : UInt64) (ya : UInt64) (yb : UInt64) (yc : UInt64) (pa : UInt64) (pb : UInt64) (pc : UInt64) (sa : UInt64) (sb : UInt64) (h0 : Heap) (n0 : Nat) (v : Option Value) (h : Heap) (L : List Loc) : Prop := v = some (.double sb) ∧ Fr n0 L ∧ h = h0
set_option maxRecDepth 65536 in
set_option maxHeartbeats 40000000 in
theorem rm_dot (l : Launch) (Z : State) (a0 : Array Value) (hw : ∀ d ∈ tables_1, d.before a0 Z = true) (ws : List Jvm.Cond) (x : Addr) (y : Addr) (kx : ClassId) (ky : ClassId) (xa : UInt64) (xb : UInt64) (xc : UInt64) (ya : UInt64) (yb : UInt64) (yc : UInt64) (pa : UInt64) (pb : UInt64) (pc : UInt64) (sa : UInt64) (sb : UInt64) (h0 : Heap) (n0 : Nat) (Z0 : n0 ≤ h0.size) (V_x : Arv Z h0 x kx .double (3 : Int32) [(.double xa), (.double xb), (.double xc)] (.double (0 : UInt64))) (V_y : Arv Z h0 y ky .double (3 : Int32) [(.double ya), (.double yb), (.double yc)] (.double (0 : UInt64))) (o1 : own_op (FP.dmul xa ya) pa) (o2 : own_op (FP.dmul xb yb) pb) (o3 : own_op (FP.dadd pa pb) sa) (o4 : own_op (FP.dmul xc yc) pc) (o5 : own_op (FP.dadd sa pc) sb) :
    Met l Z M10 prog_8_method_6_code 2 (some .double) ws (Rm 0 0 0 0) #[(.ref x), (.ref y)] h0 (Q_rm_dot Z x y kx ky xa xb xc ya yb yc pa pb pc sa sb h0 n0) := by
  refine met_of (plainFor_of_name pn_com_example_corpo_corpo_orientation_GyroBias) (own := "com/example/corpo/corpo/orientation/GyroBias") rfl (fun m => ef_rm_dot m x y) ?_
  intro p e s m below meth c s₁ hx hby hml hown hnm hZ X0 e0 hret hlk
  have N0 := Fr.nil n0
  show Goes p e below s _ _ _ (s₁.setTop (mkF m 0 #[.val (.ref x), .val (.ref y)] []))
  refine Goes.pre (U' := s₁.setTop (mkF m 2 #[.val (.ref x), .val (.ref y)] [(.int (0 : Int32)), (.ref x)])) (fun t k => XS.aloadN X0.here hx rfl (hb hby d10_0) rfl rfl (XS.iconst X0.here hx rfl (hb hby d10_1) k)) ?_
  obtain ⟨cl1, Ar1, q1, Sz1, Ng1, Hs1, Ft1⟩ := id V_x
  have hin1 := inb_of (j := (0 : Int32)) Sz1 ⟨by decide, by decide⟩
  refine Goes.pre (U' := s₁.setTop (mkF m 5 #[.val (.ref x), .val (.ref y)] [(.int (0 : Int32)), (.ref y), (.double xa)])) (fun t k => X0.daload hx (j := (0 : Int32)) (v := (.double xa)) (by rw [e0]; exact Ar1.1) (State.isArrayOf_alike hZ.alike Ar1.2.1) Ar1.2.2 hin1 (Has.at Hs1 hin1 rfl) (g := (mkF m 2 #[.val (.ref x), .val (.ref y)] [(.int (0 : Int32)), (.ref x)])) rfl rfl (hb hby d10_2) _ (XS.aloadN X0.here hx rfl (hb hby d10_3) rfl rfl (XS.iconst X0.here hx rfl (hb hby d10_4) k))) ?_
  obtain ⟨cl2, Ar2, q2, Sz2, Ng2, Hs2, Ft2⟩ := id V_y
  have hin2 := inb_of (j := (0 : Int32)) Sz2 ⟨by decide, by decide⟩
  refine Goes.pre (U' := s₁.setTop (mkF m 9 #[.val (.ref x), .val (.ref y)] [(.int (1 : Int32)), (.ref x), (.double pa)])) (fun t k => X0.daload hx (j := (0 : Int32)) (v := (.double ya)) (by rw [e0]; exact Ar2.1) (State.isArrayOf_alike hZ.alike Ar2.2.1) Ar2.2.2 hin2 (Has.at Hs2 hin2 rfl) (g := (mkF m 5 #[.val (.ref x), .val (.ref y)] [(.int (0 : Int32)), (.ref y), (.double xa)])) rfl rfl (hb hby d10_5) _ (XS.dmulS X0.here hx rfl (v := pa) (hb hby d10_6) rfl o1.2 o1.1 (XS.aloadN X0.here hx rfl (hb hby d10_7) rfl rfl (XS.iconst X0.here hx rfl (hb hby d10_8) k)))) ?_
  obtain ⟨cl3, Ar3, q3, Sz3, Ng3, Hs3, Ft3⟩ := id V_x
  have hin3 := inb_of (j := (1 : Int32)) Sz3 ⟨by decide, by decide⟩
  refine Goes.pre (U' := s₁.setTop (mkF m 12 #[.val (.ref x), .val (.ref y)] [(.int (1 : Int32)), (.ref y), (.double xb), (.double pa)])) (fun t k => X0.daload hx (j := (1 : Int32)) (v := (.double xb)) (by rw [e0]; exact Ar3.1) (State.isArrayOf_alike hZ.alike Ar3.2.1) Ar3.2.2 hin3 (Has.at Hs3 hin3 rfl) (g := (mkF m 9 #[.val (.ref x), .val (.ref y)] [(.int (1 : Int32)), (.ref x), (.double pa)])) rfl rfl (hb hby d10_9) _ (XS.aloadN X0.here hx rfl (hb hby d10_10) rfl rfl (XS.iconst X0.here hx rfl (hb hby d10_11) k))) ?_
  obtain ⟨cl4, Ar4, q4, Sz4, Ng4, Hs4, Ft4⟩ := id V_y
  have hin4 := inb_of (j := (1 : Int32)) Sz4 ⟨by decide, by decide⟩
  refine Goes.pre (U' := s₁.setTop (mkF m 17 #[.val (.ref x), .val (.ref y)] [(.int (2 : Int32)), (.ref x), (.double sa)])) (fun t k => X0.daload hx (j := (1 : Int32)) (v := (.double yb)) (by rw [e0]; exact Ar4.1) (State.isArrayOf_alike hZ.alike Ar4.2.1) Ar4.2.2 hin4 (Has.at Hs4 hin4 rfl) (g := (mkF m 12 #[.val (.ref x), .val (.ref y)] [(.int (1 : Int32)), (.ref y), (.double xb), (.double pa)])) rfl rfl (hb hby d10_12) _ (XS.dmulS X0.here hx rfl (v := pb) (hb hby d10_13) rfl o2.2 o2.1 (XS.daddS X0.here hx rfl (v := sa) (hb hby d10_14) rfl o3.2 o3.1 (XS.aloadN X0.here hx rfl (hb hby d10_15) rfl rfl (XS.iconst X0.here hx rfl (hb hby d10_16) k))))) ?_
  obtain ⟨cl5, Ar5, q5, Sz5, Ng5, Hs5, Ft5⟩ := id V_x
  have hin5 := inb_of (j := (2 : Int32)) Sz5 ⟨by decide, by decide⟩
  refine Goes.pre (U' := s₁.setTop (mkF m 20 #[.val (.ref x), .val (.ref y)] [(.int (2 : Int32)), (.ref y), (.double xc), (.double sa)])) (fun t k => X0.daload hx (j := (2 : Int32)) (v := (.double xc)) (by rw [e0]; exact Ar5.1) (State.isArrayOf_alike hZ.alike Ar5.2.1) Ar5.2.2 hin5 (Has.at Hs5 hin5 rfl) (g := (mkF m 17 #[.val (.ref x), .val (.ref y)] [(.int (2 : Int32)), (.ref x), (.double sa)])) rfl rfl (hb hby d10_17) _ (XS.aloadN X0.here hx rfl (hb hby d10_18) rfl rfl (XS.iconst X0.here hx rfl (hb hby d10_19) k))) ?_
  obtain ⟨cl6, Ar6, q6, Sz6, Ng6, Hs6, Ft6⟩ := id V_y
  have hin6 := inb_of (j := (2 : Int32)) Sz6 ⟨by decide, by decide⟩
  refine Goes.pre (U' := s₁.setTop (mkF m 23 #[.val (.ref x), .val (.ref y)] [(.double sb)])) (fun t k => X0.daload hx (j := (2 : Int32)) (v := (.double yc)) (by rw [e0]; exact Ar6.1) (State.isArrayOf_alike hZ.alike Ar6.2.1) Ar6.2.2 hin6 (Has.at Hs6 hin6 rfl) (g := (mkF m 20 #[.val (.ref x), .val (.ref y)] [(.int (2 : Int32)), (.ref y), (.double xc), (.double sa)])) rfl rfl (hb hby d10_20) _ (XS.dmulS X0.here hx rfl (v := pc) (hb hby d10_21) rfl o4.2 o4.1 (XS.daddS X0.here hx rfl (v := sb) (hb hby d10_22) rfl o5.2 o5.1 k))) ?_
  refine Goes.ret X0 (v := (some (.double sb))) (fun h => by rw [hret] at h; cases h) hlk (by decide) (by decide) e0 (fun fs hr => retOut X0 hx hret rfl (Or.inr (Or.inr (Or.inl ⟨rfl, rfl, _, rfl⟩))) (hb hby d10_23) hr) ?_
  exact ⟨rfl, N0, rfl⟩
theorem ef_rm_gb (m : MethodId) (x0 : Addr) (x1 : UInt64) (x2 : UInt64) (x3 : UInt64) : entryFrame m #[(.ref x0), (.double x1), (.double x2), (.double x3)] 8 = mkF m 0 #[.val (.ref x0), .val (.double x1), .second, .val (.double x2), .second, .val (.double x3), .second, .unset] [] := by first | (simp [entryFrame, mkF, argsToLocals, Value.category]; done) | rfl
abbrev M1 : MethodName := ⟨"com/example/corpo/corpo/orientation/GyroBias", "<init>", "(DDD)V"⟩
theorem d1_0 : decode prog_8_method_1_code 0 = .ok (.aload_n 0, 1) := by decide +kernel
theorem d1_1 : decode prog_8_method_1_code 1 = .ok (.invokespecial 1, 3) := by decide +kernel
theorem d1_4 : decode prog_8_method_1_code 4 = .ok (.aload_n 0, 1) := by decide +kernel
theorem d1_5 : decode prog_8_method_1_code 5 = .ok (.iconst 3, 1) := by decide +kernel
theorem d1_6 : decode prog_8_method_1_code 6 = .ok (.newarray .double, 2) := by decide +kernel
theorem d1_8 : decode prog_8_method_1_code 8 = .ok (.putfield 7, 3) := by decide +kernel
theorem d1_11 : decode prog_8_method_1_code 11 = .ok (.aload_n 0, 1) := by decide +kernel
theorem d1_12 : decode prog_8_method_1_code 12 = .ok (.iconst 3, 1) := by decide +kernel
theorem d1_13 : decode prog_8_method_1_code 13 = .ok (.iconst 3, 1) := by decide +kernel
theorem d1_14 : decode prog_8_method_1_code 14 = .ok (.multianewarray 13 2, 4) := by decide +kernel
theorem d1_18 : decode prog_8_method_1_code 18 = .ok (.putfield 15, 3) := by decide +kernel
theorem d1_21 : decode prog_8_method_1_code 21 = .ok (.iconst 0, 1) := by decide +kernel
theorem d1_22 : decode prog_8_method_1_code 22 = .ok (.istore 7, 2) := by decide +kernel
theorem d1_24 : decode prog_8_method_1_code 24 = .ok (.iload 7, 2) := by decide +kernel
theorem d1_26 : decode prog_8_method_1_code 26 = .ok (.iconst 3, 1) := by decide +kernel
theorem d1_27 : decode prog_8_method_1_code 27 = .ok (.if_icmp .ge 22, 3) := by decide +kernel
theorem d1_30 : decode prog_8_method_1_code 30 = .ok (.aload_n 0, 1) := by decide +kernel
theorem d1_31 : decode prog_8_method_1_code 31 = .ok (.getfield 15, 3) := by decide +kernel
theorem d1_34 : decode prog_8_method_1_code 34 = .ok (.iload 7, 2) := by decide +kernel
theorem d1_36 : decode prog_8_method_1_code 36 = .ok (.aaload, 1) := by decide +kernel
theorem d1_37 : decode prog_8_method_1_code 37 = .ok (.iload 7, 2) := by decide +kernel
theorem d1_39 : decode prog_8_method_1_code 39 = .ok (.dload_n 1, 1) := by decide +kernel
theorem d1_40 : decode prog_8_method_1_code 40 = .ok (.dload_n 1, 1) := by decide +kernel
theorem d1_41 : decode prog_8_method_1_code 41 = .ok (.dmul, 1) := by decide +kernel
theorem d1_42 : decode prog_8_method_1_code 42 = .ok (.dastore, 1) := by decide +kernel
theorem d1_43 : decode prog_8_method_1_code 43 = .ok (.iinc 7 1, 3) := by decide +kernel
theorem d1_46 : decode prog_8_method_1_code 46 = .ok (.goto (-22), 3) := by decide +kernel
theorem d1_49 : decode prog_8_method_1_code 49 = .ok (.aload_n 0, 1) := by decide +kernel
theorem d1_50 : decode prog_8_method_1_code 50 = .ok (.dload_n 1, 1) := by decide +kernel
theorem d1_51 : decode prog_8_method_1_code 51 = .ok (.dload_n 1, 1) := by decide +kernel
theorem d1_52 : decode prog_8_method_1_code 52 = .ok (.dmul, 1) := by decide +kernel
theorem d1_53 : decode prog_8_method_1_code 53 = .ok (.dload 5, 2) := by decide +kernel
theorem d1_55 : decode prog_8_method_1_code 55 = .ok (.dmul, 1) := by decide +kernel
theorem d1_56 : decode prog_8_method_1_code 56 = .ok (.dload_n 3, 1) := by decide +kernel
theorem d1_57 : decode prog_8_method_1_code 57 = .ok (.ddiv, 1) := by decide +kernel
theorem d1_58 : decode prog_8_method_1_code 58 = .ok (.putfield 18, 3) := by decide +kernel
theorem d1_61 : decode prog_8_method_1_code 61 = .ok (.return_, 1) := by decide +kernel
def Q_rm_gb (Z : State) (a : Addr) (iv : UInt64) (ff : UInt64) (pp : UInt64) (ya : UInt64) (yb : UInt64) (yc : UInt64) (h0 : Heap) (n0 : Nat) (v : Option Value) (h : Heap) (L : List Loc) : Prop := ∃ (va : Addr) (gr : Addr) (r0 : Addr) (r1 : Addr) (r2 : Addr) (kv : ClassId) (kg : ClassId) (kr : ClassId), v = none ∧ Fr n0 L ∧ Keep h0 h [a] ∧ Fld Z h a "com/example/corpo/corpo/orientation/GyroBias" "value" "[D" (.ref va) ∧ Fld Z h a "com/example/corpo/corpo/orientation/GyroBias" "covariance" "[[D" (.ref gr) ∧ Fld Z h a "com/example/corpo/corpo/orientation/GyroBias" "growth" "D" (.double yc) ∧ Arv Z h va kv .double (3 : Int32) [(.double (0 : UInt64)), (.double (0 : UInt64)), (.double (0 : UInt64))] (.double (0 : UInt64)) ∧ Arv Z h gr kg (.array .double) (3 : Int32) [(.ref r0), (.ref r1), (.ref r2)] .null ∧ Arv Z h r0 kr .double (3 : Int32) [(.double ya), (.double (0 : UInt64)), (.double (0 : UInt64))] (.double (0 : UInt64)) ∧ Arv Z h r1 kr .double (3 : Int32) [(.double (0 : UInt64)), (.double ya), (.double (0 : UInt64))] (.double (0 : UInt64)) ∧ Arv Z h r2 kr .double (3 : Int32) [(.double (0 : UInt64)), (.double (0 : UInt64)), (.double ya)] (.double (0 : UInt64)) ∧ n0 ≤ va ∧ h0.size ≤ va ∧ n0 ≤ gr ∧ h0.size ≤ gr ∧ n0 ≤ r0 ∧ h0.size ≤ r0 ∧ n0 ≤ r1 ∧ h0.size ≤ r1 ∧ n0 ≤ r2 ∧ h0.size ≤ r2 ∧ va ≠ gr ∧ va ≠ r0 ∧ va ≠ r1 ∧ va ≠ r2 ∧ gr ≠ r0 ∧ gr ≠ r1 ∧ gr ≠ r2 ∧ r0 ≠ r1 ∧ r0 ≠ r2 ∧ r1 ≠ r2
set_option maxRecDepth 65536 in
set_option maxHeartbeats 40000000 in
theorem rm_gb (l : Launch) (Z : State) (a0 : Array Value) (hw : ∀ d ∈ tables_1, d.before a0 Z = true) (ws : List Jvm.Cond) (a : Addr) (iv : UInt64) (ff : UInt64) (pp : UInt64) (ya : UInt64) (yb : UInt64) (yc : UInt64) (h0 : Heap) (n0 : Nat) (Z0 : n0 ≤ h0.size) (E_a : Exa Z h0 a "com/example/corpo/corpo/orientation/GyroBias") (F_value_a : Fld Z h0 a "com/example/corpo/corpo/orientation/GyroBias" "value" "[D" .null) (F_covariance_a : Fld Z h0 a "com/example/corpo/corpo/orientation/GyroBias" "covariance" "[[D" .null) (F_growth_a : Fld Z h0 a "com/example/corpo/corpo/orientation/GyroBias" "growth" "D" (.double (0 : UInt64))) (ha1 : own_op (FP.dmul iv iv) ya) (ha2 : own_op (FP.dmul ya pp) yb) (ha3 : own_op (FP.ddiv yb ff) yc) (g_a : n0 ≤ a) :
    Met l Z M1 prog_8_method_1_code 8 none ws (Rm 1 5 15 12) #[(.ref a), (.double iv), (.double ff), (.double pp)] h0 (Q_rm_gb Z a iv ff pp ya yb yc h0 n0) := by
  refine met_of (plainFor_of_name pn_com_example_corpo_corpo_orientation_GyroBias) (own := "com/example/corpo/corpo/orientation/GyroBias") rfl (fun m => ef_rm_gb m a iv ff pp) ?_
  intro p e s m below meth c s₁ hx hby hml hown hnm hZ X0 e0 hret hlk
  have N0 := Fr.nil n0
  have K0 := Keep.refl h0 [a]
  show Goes p e below s _ _ _ (s₁.setTop (mkF m 0 #[.val (.ref a), .val (.double iv), .second, .val (.double ff), .second, .val (.double pp), .second, .unset] []))
  refine Goes.pre (U' := s₁.setTop (mkF m 1 #[.val (.ref a), .val (.double iv), .second, .val (.double ff), .second, .val (.double pp), .second, .unset] [(.ref a)])) (fun t k => XS.aloadN X0.here hx rfl (hb hby d1_0) rfl rfl k) ?_
  obtain ⟨T1, X1, e1, st1⟩ := initO X0 hx hZ hown (wq hw 6 rfl) (wq hw 7 rfl) (wq hw 8 rfl) e0 (g := (mkF m 1 #[.val (.ref a), .val (.double iv), .second, .val (.double ff), .second, .val (.double pp), .second, .unset] [(.ref a)])) rfl (by rw [hml]; rfl) rfl (hb hby d1_1) (by decide) (W := 0) (by show 2 * 0 + _ ≤ _; exact Nat.le_of_eq rfl) (by decide)
  refine Goes.pre (U' := T1.setTop (mkF m 6 #[.val (.ref a), .val (.double iv), .second, .val (.double ff), .second, .val (.double pp), .second, .unset] [(.int (3 : Int32)), (.ref a)])) (fun t k => st1 t (XS.aloadN X1.here hx rfl (hb hby d1_4) rfl rfl (XS.iconst X1.here hx rfl (hb hby d1_5) k))) ?_
  obtain ⟨T2, h2, k2, X2, e2, E2, A2, B2, st2⟩ := newPE X1 hx hZ (wq hw 9 rfl) e1 (g := (mkF m 6 #[.val (.ref a), .val (.double iv), .second, .val (.double ff), .second, .val (.double pp), .second, .unset] [(.int (3 : Int32)), (.ref a)])) rfl (hb hby d1_6) rfl (by decide) (cap := 3) (by decide) (by decide) (by decide) (by decide) (ad := "[D") (by decide)
  obtain ⟨va0, g2⟩ : ∃ z, z = h0.size := ⟨_, rfl⟩
  rw [← g2] at A2 B2 st2
  have ne_a_va0 : a ≠ va0 := Nat.ne_of_lt (Nat.lt_of_lt_of_le E_a.lt (Nat.le_of_eq g2.symm))
  have ne_va0_a := ne_a_va0.symm
  have g_va0 : n0 ≤ va0 := Nat.le_trans Z0 (Nat.le_of_eq g2.symm)
  have sz_va0 : h0.size ≤ va0 := Nat.le_trans K0.1 (Nat.le_of_eq g2.symm)
  have E_a := E_a.ext E2
  have F_value_a := F_value_a.ext E2
  have F_covariance_a := F_covariance_a.ext E2
  have F_growth_a := F_growth_a.ext E2
  have Z2 : n0 ≤ h2.size := Nat.le_trans Z0 E2.1
  have K2 := K0.ext E2
  have E_va0 := B2
  have V_va0 : Arv Z h2 va0 k2 .double (3 : Int32) [(.double (0 : UInt64)), (.double (0 : UInt64)), (.double (0 : UInt64))] (.double (0 : UInt64)) := (Arv.new A2 (by decide)).pad (pad_rep [] (.double (0 : UInt64)) 3)
  refine Goes.pre (U' := T2.setTop (mkF m 8 #[.val (.ref a), .val (.double iv), .second, .val (.double ff), .second, .val (.double pp), .second, .unset] [(.ref va0), (.ref a)])) (fun t k => st2 t k) ?_
  obtain ⟨T3, h3, X3, e3, W3, st3⟩ := putF X2 hx hZ hown (host := "") (Or.inl (wq hw 10 rfl)) Via.refl e2 F_value_a E_a (Or.inr ⟨(wq hw 11 rfl), rfl, hnm⟩) (wq hw 1 rfl) (ty := (.array .double)) (by decide) rfl rfl (g := (mkF m 8 #[.val (.ref a), .val (.double iv), .second, .val (.double ff), .second, .val (.double pp), .second, .unset] [(.ref va0), (.ref a)])) rfl rfl (hb hby d1_8)
  have E_a := E_a.wr W3
  have F_covariance_a := F_covariance_a.other W3 (Or.inr (slot_ne (Or.inr (wq hw 15 rfl)) (Or.inr (wq hw 11 rfl)) (by decide) (t := (.array (.array .double))) (t' := (.array .double)) (by decide) (by decide)))
  have F_growth_a := F_growth_a.other W3 (Or.inr (slot_ne (Or.inr (wq hw 17 rfl)) (Or.inr (wq hw 11 rfl)) (by decide) (t := .double) (t' := (.array .double)) (by decide) (by decide)))
  have E_va0 := E_va0.wr W3
  have V_va0 := V_va0.other W3 ne_va0_a
  have Z3 : n0 ≤ h3.size := Nat.le_trans Z2 (Keep.of_wr W3).1
  have F_value_a := F_value_a.same W3
  have K3 := K2.wr W3 (Or.inl (List.mem_of_getElem? (i := 0) rfl))
  have N3 := Fr.snoc X3 N0 g_a
  refine Goes.pre (U' := T3.setTop (mkF m 14 #[.val (.ref a), .val (.double iv), .second, .val (.double ff), .second, .val (.double pp), .second, .unset] [(.int (3 : Int32)), (.int (3 : Int32)), (.ref a)])) (fun t k => st3 t (XS.aloadN X3.here hx rfl (hb hby d1_11) rfl rfl (XS.iconst X3.here hx rfl (hb hby d1_12) (XS.iconst X3.here hx rfl (hb hby d1_13) k)))) ?_
  obtain ⟨ra, gr4_0⟩ : ∃ z, z = h3.size + 1 + 0 := ⟨_, rfl⟩
  obtain ⟨rb, gr4_1⟩ : ∃ z, z = h3.size + 1 + 1 := ⟨_, rfl⟩
  obtain ⟨rc, gr4_2⟩ : ∃ z, z = h3.size + 1 + 2 := ⟨_, rfl⟩
  obtain ⟨T4, h4, k4, kc4, X4, e4, E4, A4, OV4, B4, IN4, st4⟩ := gridM X3 hx hZ (ty := .double) (C := "[D") (ad := "[[D") hown (by decide) (by decide) (wq hw 12 rfl) (wq hw 13 rfl) (wq hw 9 rfl) e3 (g := (mkF m 14 #[.val (.ref a), .val (.double iv), .second, .val (.double ff), .second, .val (.double pp), .second, .unset] [(.int (3 : Int32)), (.int (3 : Int32)), (.ref a)])) rfl (hb hby d1_14) rfl (by decide) (by decide) (xs := [ra, rb, rc]) (N := 3) (by decide) (by rw [gr4_0, gr4_1, gr4_2]; rfl) (cap := 3) (by decide) (by decide) (by decide) rfl rfl (by decide) (by decide)
  obtain ⟨ga, g4⟩ : ∃ z, z = h3.size := ⟨_, rfl⟩
  rw [← g4] at A4 B4 st4
  have ne_a_ga : a ≠ ga := Nat.ne_of_lt (Nat.lt_of_lt_of_le E_a.lt (Nat.le_of_eq g4.symm))
  have ne_ga_a := ne_a_ga.symm
  have ne_va0_ga : va0 ≠ ga := Nat.ne_of_lt (Nat.lt_of_lt_of_le E_va0.lt (Nat.le_of_eq g4.symm))
  have ne_ga_va0 := ne_va0_ga.symm
  have g_ga : n0 ≤ ga := Nat.le_trans Z3 (Nat.le_of_eq g4.symm)
  have sz_ga : h0.size ≤ ga := Nat.le_trans K3.1 (Nat.le_of_eq g4.symm)
  have gl4_0 : h3.size ≤ ra := by rw [gr4_0, Nat.add_assoc]; exact Nat.le_add_right _ _
  have ne_a_ra : a ≠ ra := Nat.ne_of_lt (Nat.lt_of_lt_of_le E_a.lt gl4_0)
  have ne_ra_a := ne_a_ra.symm
  have ne_va0_ra : va0 ≠ ra := Nat.ne_of_lt (Nat.lt_of_lt_of_le E_va0.lt gl4_0)
  have ne_ra_va0 := ne_va0_ra.symm
  have g_ra : n0 ≤ ra := Nat.le_trans Z3 gl4_0
  have sz_ra : h0.size ≤ ra := Nat.le_trans K3.1 gl4_0
  have ne_ga_ra : ga ≠ ra := by omega
  have ne_ra_ga := ne_ga_ra.symm
  have gl4_1 : h3.size ≤ rb := by rw [gr4_1, Nat.add_assoc]; exact Nat.le_add_right _ _
  have ne_a_rb : a ≠ rb := Nat.ne_of_lt (Nat.lt_of_lt_of_le E_a.lt gl4_1)
  have ne_rb_a := ne_a_rb.symm
  have ne_va0_rb : va0 ≠ rb := Nat.ne_of_lt (Nat.lt_of_lt_of_le E_va0.lt gl4_1)
  have ne_rb_va0 := ne_va0_rb.symm
  have g_rb : n0 ≤ rb := Nat.le_trans Z3 gl4_1
  have sz_rb : h0.size ≤ rb := Nat.le_trans K3.1 gl4_1
  have ne_ga_rb : ga ≠ rb := by omega
  have ne_rb_ga := ne_ga_rb.symm
  have ne_ra_rb : ra ≠ rb := by omega
  have ne_rb_ra := ne_ra_rb.symm
  have gl4_2 : h3.size ≤ rc := by rw [gr4_2, Nat.add_assoc]; exact Nat.le_add_right _ _
  have ne_a_rc : a ≠ rc := Nat.ne_of_lt (Nat.lt_of_lt_of_le E_a.lt gl4_2)
  have ne_rc_a := ne_a_rc.symm
  have ne_va0_rc : va0 ≠ rc := Nat.ne_of_lt (Nat.lt_of_lt_of_le E_va0.lt gl4_2)
  have ne_rc_va0 := ne_va0_rc.symm
  have g_rc : n0 ≤ rc := Nat.le_trans Z3 gl4_2
  have sz_rc : h0.size ≤ rc := Nat.le_trans K3.1 gl4_2
  have ne_ga_rc : ga ≠ rc := by omega
  have ne_rc_ga := ne_ga_rc.symm
  have ne_ra_rc : ra ≠ rc := by omega
  have ne_rc_ra := ne_ra_rc.symm
  have ne_rb_rc : rb ≠ rc := by omega
  have ne_rc_rb := ne_rb_rc.symm
  have E_a := E_a.ext E4
  have F_value_a := F_value_a.ext E4
  have F_covariance_a := F_covariance_a.ext E4
  have F_growth_a := F_growth_a.ext E4
  have E_va0 := E_va0.ext E4
  have V_va0 := V_va0.ext E4
  have Z4 : n0 ≤ h4.size := Nat.le_trans Z3 E4.1
  have K4 := K3.ext E4
  have E_ga := B4
  have V_ga : Arv Z h4 ga k4 (.array .double) (3 : Int32) [.ref ra, .ref rb, .ref rc] .null := A4
  have E_ra := (IN4 0 ra rfl).2
  have V_ra : Arv Z h4 ra kc4 .double (3 : Int32) [(.double (0 : UInt64)), (.double (0 : UInt64)), (.double (0 : UInt64))] (.double (0 : UInt64)) := (Arv.new (IN4 0 ra rfl).1 (by decide)).pad (pad_rep [] (.double (0 : UInt64)) 3)
  have E_rb := (IN4 1 rb rfl).2
  have V_rb : Arv Z h4 rb kc4 .double (3 : Int32) [(.double (0 : UInt64)), (.double (0 : UInt64)), (.double (0 : UInt64))] (.double (0 : UInt64)) := (Arv.new (IN4 1 rb rfl).1 (by decide)).pad (pad_rep [] (.double (0 : UInt64)) 3)
  have E_rc := (IN4 2 rc rfl).2
  have V_rc : Arv Z h4 rc kc4 .double (3 : Int32) [(.double (0 : UInt64)), (.double (0 : UInt64)), (.double (0 : UInt64))] (.double (0 : UInt64)) := (Arv.new (IN4 2 rc rfl).1 (by decide)).pad (pad_rep [] (.double (0 : UInt64)) 3)
  refine Goes.pre (U' := T4.setTop (mkF m 18 #[.val (.ref a), .val (.double iv), .second, .val (.double ff), .second, .val (.double pp), .second, .unset] [(.ref ga), (.ref a)])) (fun t k => st4 t k) ?_
  obtain ⟨T5, h5, X5, e5, W5, st5⟩ := putF X4 hx hZ hown (host := "") (Or.inl (wq hw 14 rfl)) Via.refl e4 F_covariance_a E_a (Or.inr ⟨(wq hw 15 rfl), rfl, hnm⟩) (wq hw 1 rfl) (ty := (.array (.array .double))) (by decide) rfl rfl (g := (mkF m 18 #[.val (.ref a), .val (.double iv), .second, .val (.double ff), .second, .val (.double pp), .second, .unset] [(.ref ga), (.ref a)])) rfl rfl (hb hby d1_18)
  have E_a := E_a.wr W5
  have F_value_a := F_value_a.other W5 (Or.inr (slot_ne (Or.inr (wq hw 11 rfl)) (Or.inr (wq hw 15 rfl)) (by decide) (t := (.array .double)) (t' := (.array (.array .double))) (by decide) (by decide)))
  have F_growth_a := F_growth_a.other W5 (Or.inr (slot_ne (Or.inr (wq hw 17 rfl)) (Or.inr (wq hw 15 rfl)) (by decide) (t := .double) (t' := (.array (.array .double))) (by decide) (by decide)))
  have E_va0 := E_va0.wr W5
  have V_va0 := V_va0.other W5 ne_va0_a
  have E_ga := E_ga.wr W5
  have V_ga := V_ga.other W5 ne_ga_a
  have E_ra := E_ra.wr W5
  have V_ra := V_ra.other W5 ne_ra_a
  have E_rb := E_rb.wr W5
  have V_rb := V_rb.other W5 ne_rb_a
  have E_rc := E_rc.wr W5
  have V_rc := V_rc.other W5 ne_rc_a
  have Z5 : n0 ≤ h5.size := Nat.le_trans Z4 (Keep.of_wr W5).1
  have F_covariance_a := F_covariance_a.same W5
  have K5 := K4.wr W5 (Or.inl (List.mem_of_getElem? (i := 0) rfl))
  have N5 := Fr.snoc X5 N3 g_a
  refine Goes.pre (U' := T5.setTop (mkF m 27 #[.val (.ref a), .val (.double iv), .second, .val (.double ff), .second, .val (.double pp), .second, .val (.int (0 : Int32))] [(.int (3 : Int32)), (.int (0 : Int32))])) (fun t k => st5 t (XS.iconst X5.here hx rfl (hb hby d1_21) (XS.istore X5.here hx rfl (hb hby d1_22) rfl (l' := #[.val (.ref a), .val (.double iv), .second, .val (.double ff), .second, .val (.double pp), .second, .val (.int (0 : Int32))]) rfl (XS.iload X5.here hx rfl (hb hby d1_24) rfl (XS.iconst X5.here hx rfl (hb hby d1_26) k))))) ?_
  have hc27 : (0 : Int32) < (3 : Int32) := by decide
  refine Goes.pre (U' := T5.setTop (mkF m 31 #[.val (.ref a), .val (.double iv), .second, .val (.double ff), .second, .val (.double pp), .second, .val (.int (0 : Int32))] [(.ref a)])) (fun t k => XS.icmpNo X5.here hx rfl (hb hby d1_27) rfl (tlt hc27).2.1 (XS.aloadN X5.here hx rfl (hb hby d1_30) rfl rfl k)) ?_
  obtain ⟨T6, X6, e6, st6⟩ := getF X5 hx hZ hown (host := "") (Or.inl (wq hw 14 rfl)) Via.refl e5 F_covariance_a (g := (mkF m 31 #[.val (.ref a), .val (.double iv), .second, .val (.double ff), .second, .val (.double pp), .second, .val (.int (0 : Int32))] [(.ref a)])) rfl rfl (hb hby d1_31)
  refine Goes.pre (U' := T6.setTop (mkF m 36 #[.val (.ref a), .val (.double iv), .second, .val (.double ff), .second, .val (.double pp), .second, .val (.int (0 : Int32))] [(.int (0 : Int32)), (.ref ga)])) (fun t k => st6 t (XS.iload X6.here hx rfl (hb hby d1_34) rfl k)) ?_
  obtain ⟨cl7, Ar7, q7, Sz7, Ng7, Hs7, Ft7⟩ := id V_ga
  have hin7 := inb_of (j := (0 : Int32)) Sz7 ⟨by decide, by decide⟩
  refine Goes.pre (U' := T6.setTop (mkF m 42 #[.val (.ref a), .val (.double iv), .second, .val (.double ff), .second, .val (.double pp), .second, .val (.int (0 : Int32))] [(.double ya), (.int (0 : Int32)), (.ref ra)])) (fun t k => X6.aaload hx (j := (0 : Int32)) (v := (.ref ra)) (by rw [e6]; exact Ar7.1) (State.isArrayOf_alike hZ.alike Ar7.2.1) rfl Ar7.2.2 hin7 (Has.at Hs7 hin7 rfl) (g := (mkF m 36 #[.val (.ref a), .val (.double iv), .second, .val (.double ff), .second, .val (.double pp), .second, .val (.int (0 : Int32))] [(.int (0 : Int32)), (.ref ga)])) rfl rfl (hb hby d1_36) _ (XS.iload X6.here hx rfl (hb hby d1_37) rfl (XS.dloadN X6.here hx rfl (hb hby d1_39) rfl (XS.dloadN X6.here hx rfl (hb hby d1_40) rfl (XS.dmulS X6.here hx rfl (v := ya) (hb hby d1_41) rfl ha1.2 ha1.1 k))))) ?_
  obtain ⟨cl8, Ar8, q8, Sz8, Ng8, Hs8, Ft8⟩ := id V_ra
  obtain ⟨T8, h8, X8, e8, W8, st8⟩ := stD X6 hx hZ e6 Ar8 (j := (0 : Int32)) (inb_of Sz8 ⟨by decide, by decide⟩) (g := (mkF m 42 #[.val (.ref a), .val (.double iv), .second, .val (.double ff), .second, .val (.double pp), .second, .val (.int (0 : Int32))] [(.double ya), (.int (0 : Int32)), (.ref ra)])) rfl rfl (hb hby d1_42)
  have E_a := E_a.wr W8
  have F_value_a := F_value_a.other W8 (Or.inl ne_a_ra)
  have F_covariance_a := F_covariance_a.other W8 (Or.inl ne_a_ra)
  have F_growth_a := F_growth_a.other W8 (Or.inl ne_a_ra)
  have E_va0 := E_va0.wr W8
  have V_va0 := V_va0.other W8 ne_va0_ra
  have E_ga := E_ga.wr W8
  have V_ga := V_ga.other W8 ne_ga_ra
  have E_ra := E_ra.wr W8
  have E_rb := E_rb.wr W8
  have V_rb := V_rb.other W8 ne_rb_ra
  have E_rc := E_rc.wr W8
  have V_rc := V_rc.other W8 ne_rc_ra
  have Z8 : n0 ≤ h8.size := Nat.le_trans Z5 (Keep.of_wr W8).1
  have V_ra : Arv Z h8 ra kc4 .double (3 : Int32) [(.double ya), (.double (0 : UInt64)), (.double (0 : UInt64))] (.double (0 : UInt64)) := Arv.set Ar8 q8 Sz8 Ng8 Hs8 Ft8 rfl W8 0 rfl (Nat.le_of_ble_eq_true rfl)
  have K8 := K5.wr W8 (Or.inr sz_ra)
  have N8 := Fr.snoc X8 N5 g_ra
  refine Goes.pre (U' := T8.setTop (mkF m 46 #[.val (.ref a), .val (.double iv), .second, .val (.double ff), .second, .val (.double pp), .second, .val (.int ((0 : Int32) + (1 : Int32)))] [])) (fun t k => st8 t (XT.iincV X8.here hx rfl (1 : Int32) (hb hby d1_43) (by decide) rfl (l' := #[.val (.ref a), .val (.double iv), .second, .val (.double ff), .second, .val (.double pp), .second, .val (.int ((0 : Int32) + (1 : Int32)))]) rfl k)) ?_
  rw [(by decide : ((0 : Int32) + (1 : Int32)) = (1 : Int32))]
  refine Goes.pre (U' := T8.setTop (mkF m 27 #[.val (.ref a), .val (.double iv), .second, .val (.double ff), .second, .val (.double pp), .second, .val (.int (1 : Int32))] [(.int (3 : Int32)), (.int (1 : Int32))])) (fun t k => XS.goto X8.here hx rfl (pc0 := 46) (pc' := 24) rfl (hb hby d1_46) (by decide) (by decide) (XS.iload X8.here hx rfl (hb hby d1_24) rfl (XS.iconst X8.here hx rfl (hb hby d1_26) k))) ?_
  have hc27 : (1 : Int32) < (3 : Int32) := by decide
  refine Goes.pre (U' := T8.setTop (mkF m 31 #[.val (.ref a), .val (.double iv), .second, .val (.double ff), .second, .val (.double pp), .second, .val (.int (1 : Int32))] [(.ref a)])) (fun t k => XS.icmpNo X8.here hx rfl (hb hby d1_27) rfl (tlt hc27).2.1 (XS.aloadN X8.here hx rfl (hb hby d1_30) rfl rfl k)) ?_
  obtain ⟨T9, X9, e9, st9⟩ := getF X8 hx hZ hown (host := "") (Or.inl (wq hw 14 rfl)) Via.refl e8 F_covariance_a (g := (mkF m 31 #[.val (.ref a), .val (.double iv), .second, .val (.double ff), .second, .val (.double pp), .second, .val (.int (1 : Int32))] [(.ref a)])) rfl rfl (hb hby d1_31)
  refine Goes.pre (U' := T9.setTop (mkF m 36 #[.val (.ref a), .val (.double iv), .second, .val (.double ff), .second, .val (.double pp), .second, .val (.int (1 : Int32))] [(.int (1 : Int32)), (.ref ga)])) (fun t k => st9 t (XS.iload X9.here hx rfl (hb hby d1_34) rfl k)) ?_
  obtain ⟨cl10, Ar10, q10, Sz10, Ng10, Hs10, Ft10⟩ := id V_ga
  have hin10 := inb_of (j := (1 : Int32)) Sz10 ⟨by decide, by decide⟩
  refine Goes.pre (U' := T9.setTop (mkF m 42 #[.val (.ref a), .val (.double iv), .second, .val (.double ff), .second, .val (.double pp), .second, .val (.int (1 : Int32))] [(.double ya), (.int (1 : Int32)), (.ref rb)])) (fun t k => X9.aaload hx (j := (1 : Int32)) (v := (.ref rb)) (by rw [e9]; exact Ar10.1) (State.isArrayOf_alike hZ.alike Ar10.2.1) rfl Ar10.2.2 hin10 (Has.at Hs10 hin10 rfl) (g := (mkF m 36 #[.val (.ref a), .val (.double iv), .second, .val (.double ff), .second, .val (.double pp), .second, .val (.int (1 : Int32))] [(.int (1 : Int32)), (.ref ga)])) rfl rfl (hb hby d1_36) _ (XS.iload X9.here hx rfl (hb hby d1_37) rfl (XS.dloadN X9.here hx rfl (hb hby d1_39) rfl (XS.dloadN X9.here hx rfl (hb hby d1_40) rfl (XS.dmulS X9.here hx rfl (v := ya) (hb hby d1_41) rfl ha1.2 ha1.1 k))))) ?_
  obtain ⟨cl11, Ar11, q11, Sz11, Ng11, Hs11, Ft11⟩ := id V_rb
  obtain ⟨T11, h11, X11, e11, W11, st11⟩ := stD X9 hx hZ e9 Ar11 (j := (1 : Int32)) (inb_of Sz11 ⟨by decide, by decide⟩) (g := (mkF m 42 #[.val (.ref a), .val (.double iv), .second, .val (.double ff), .second, .val (.double pp), .second, .val (.int (1 : Int32))] [(.double ya), (.int (1 : Int32)), (.ref rb)])) rfl rfl (hb hby d1_42)
  have E_a := E_a.wr W11
  have F_value_a := F_value_a.other W11 (Or.inl ne_a_rb)
  have F_covariance_a := F_covariance_a.other W11 (Or.inl ne_a_rb)
  have F_growth_a := F_growth_a.other W11 (Or.inl ne_a_rb)
  have E_va0 := E_va0.wr W11
  have V_va0 := V_va0.other W11 ne_va0_rb
  have E_ga := E_ga.wr W11
  have V_ga := V_ga.other W11 ne_ga_rb
  have E_ra := E_ra.wr W11
  have V_ra := V_ra.other W11 ne_ra_rb
  have E_rb := E_rb.wr W11
  have E_rc := E_rc.wr W11
  have V_rc := V_rc.other W11 ne_rc_rb
  have Z11 : n0 ≤ h11.size := Nat.le_trans Z8 (Keep.of_wr W11).1
  have V_rb : Arv Z h11 rb kc4 .double (3 : Int32) [(.double (0 : UInt64)), (.double ya), (.double (0 : UInt64))] (.double (0 : UInt64)) := Arv.set Ar11 q11 Sz11 Ng11 Hs11 Ft11 rfl W11 1 rfl (Nat.le_of_ble_eq_true rfl)
  have K11 := K8.wr W11 (Or.inr sz_rb)
  have N11 := Fr.snoc X11 N8 g_rb
  refine Goes.pre (U' := T11.setTop (mkF m 46 #[.val (.ref a), .val (.double iv), .second, .val (.double ff), .second, .val (.double pp), .second, .val (.int ((1 : Int32) + (1 : Int32)))] [])) (fun t k => st11 t (XT.iincV X11.here hx rfl (1 : Int32) (hb hby d1_43) (by decide) rfl (l' := #[.val (.ref a), .val (.double iv), .second, .val (.double ff), .second, .val (.double pp), .second, .val (.int ((1 : Int32) + (1 : Int32)))]) rfl k)) ?_
  rw [(by decide : ((1 : Int32) + (1 : Int32)) = (2 : Int32))]
  refine Goes.pre (U' := T11.setTop (mkF m 27 #[.val (.ref a), .val (.double iv), .second, .val (.double ff), .second, .val (.double pp), .second, .val (.int (2 : Int32))] [(.int (3 : Int32)), (.int (2 : Int32))])) (fun t k => XS.goto X11.here hx rfl (pc0 := 46) (pc' := 24) rfl (hb hby d1_46) (by decide) (by decide) (XS.iload X11.here hx rfl (hb hby d1_24) rfl (XS.iconst X11.here hx rfl (hb hby d1_26) k))) ?_
  have hc27 : (2 : Int32) < (3 : Int32) := by decide
  refine Goes.pre (U' := T11.setTop (mkF m 31 #[.val (.ref a), .val (.double iv), .second, .val (.double ff), .second, .val (.double pp), .second, .val (.int (2 : Int32))] [(.ref a)])) (fun t k => XS.icmpNo X11.here hx rfl (hb hby d1_27) rfl (tlt hc27).2.1 (XS.aloadN X11.here hx rfl (hb hby d1_30) rfl rfl k)) ?_
  obtain ⟨T12, X12, e12, st12⟩ := getF X11 hx hZ hown (host := "") (Or.inl (wq hw 14 rfl)) Via.refl e11 F_covariance_a (g := (mkF m 31 #[.val (.ref a), .val (.double iv), .second, .val (.double ff), .second, .val (.double pp), .second, .val (.int (2 : Int32))] [(.ref a)])) rfl rfl (hb hby d1_31)
  refine Goes.pre (U' := T12.setTop (mkF m 36 #[.val (.ref a), .val (.double iv), .second, .val (.double ff), .second, .val (.double pp), .second, .val (.int (2 : Int32))] [(.int (2 : Int32)), (.ref ga)])) (fun t k => st12 t (XS.iload X12.here hx rfl (hb hby d1_34) rfl k)) ?_
  obtain ⟨cl13, Ar13, q13, Sz13, Ng13, Hs13, Ft13⟩ := id V_ga
  have hin13 := inb_of (j := (2 : Int32)) Sz13 ⟨by decide, by decide⟩
  refine Goes.pre (U' := T12.setTop (mkF m 42 #[.val (.ref a), .val (.double iv), .second, .val (.double ff), .second, .val (.double pp), .second, .val (.int (2 : Int32))] [(.double ya), (.int (2 : Int32)), (.ref rc)])) (fun t k => X12.aaload hx (j := (2 : Int32)) (v := (.ref rc)) (by rw [e12]; exact Ar13.1) (State.isArrayOf_alike hZ.alike Ar13.2.1) rfl Ar13.2.2 hin13 (Has.at Hs13 hin13 rfl) (g := (mkF m 36 #[.val (.ref a), .val (.double iv), .second, .val (.double ff), .second, .val (.double pp), .second, .val (.int (2 : Int32))] [(.int (2 : Int32)), (.ref ga)])) rfl rfl (hb hby d1_36) _ (XS.iload X12.here hx rfl (hb hby d1_37) rfl (XS.dloadN X12.here hx rfl (hb hby d1_39) rfl (XS.dloadN X12.here hx rfl (hb hby d1_40) rfl (XS.dmulS X12.here hx rfl (v := ya) (hb hby d1_41) rfl ha1.2 ha1.1 k))))) ?_
  obtain ⟨cl14, Ar14, q14, Sz14, Ng14, Hs14, Ft14⟩ := id V_rc
  obtain ⟨T14, h14, X14, e14, W14, st14⟩ := stD X12 hx hZ e12 Ar14 (j := (2 : Int32)) (inb_of Sz14 ⟨by decide, by decide⟩) (g := (mkF m 42 #[.val (.ref a), .val (.double iv), .second, .val (.double ff), .second, .val (.double pp), .second, .val (.int (2 : Int32))] [(.double ya), (.int (2 : Int32)), (.ref rc)])) rfl rfl (hb hby d1_42)
  have E_a := E_a.wr W14
  have F_value_a := F_value_a.other W14 (Or.inl ne_a_rc)
  have F_covariance_a := F_covariance_a.other W14 (Or.inl ne_a_rc)
  have F_growth_a := F_growth_a.other W14 (Or.inl ne_a_rc)
  have E_va0 := E_va0.wr W14
  have V_va0 := V_va0.other W14 ne_va0_rc
  have E_ga := E_ga.wr W14
  have V_ga := V_ga.other W14 ne_ga_rc
  have E_ra := E_ra.wr W14
  have V_ra := V_ra.other W14 ne_ra_rc
  have E_rb := E_rb.wr W14
  have V_rb := V_rb.other W14 ne_rb_rc
  have E_rc := E_rc.wr W14
  have Z14 : n0 ≤ h14.size := Nat.le_trans Z11 (Keep.of_wr W14).1
  have V_rc : Arv Z h14 rc kc4 .double (3 : Int32) [(.double (0 : UInt64)), (.double (0 : UInt64)), (.double ya)] (.double (0 : UInt64)) := Arv.set Ar14 q14 Sz14 Ng14 Hs14 Ft14 rfl W14 2 rfl (Nat.le_of_ble_eq_true rfl)
  have K14 := K11.wr W14 (Or.inr sz_rc)
  have N14 := Fr.snoc X14 N11 g_rc
  refine Goes.pre (U' := T14.setTop (mkF m 46 #[.val (.ref a), .val (.double iv), .second, .val (.double ff), .second, .val (.double pp), .second, .val (.int ((2 : Int32) + (1 : Int32)))] [])) (fun t k => st14 t (XT.iincV X14.here hx rfl (1 : Int32) (hb hby d1_43) (by decide) rfl (l' := #[.val (.ref a), .val (.double iv), .second, .val (.double ff), .second, .val (.double pp), .second, .val (.int ((2 : Int32) + (1 : Int32)))]) rfl k)) ?_
  rw [(by decide : ((2 : Int32) + (1 : Int32)) = (3 : Int32))]
  refine Goes.pre (U' := T14.setTop (mkF m 27 #[.val (.ref a), .val (.double iv), .second, .val (.double ff), .second, .val (.double pp), .second, .val (.int (3 : Int32))] [(.int (3 : Int32)), (.int (3 : Int32))])) (fun t k => XS.goto X14.here hx rfl (pc0 := 46) (pc' := 24) rfl (hb hby d1_46) (by decide) (by decide) (XS.iload X14.here hx rfl (hb hby d1_24) rfl (XS.iconst X14.here hx rfl (hb hby d1_26) k))) ?_
  have hc27 : ¬ ((3 : Int32) < (3 : Int32)) := by decide
  refine Goes.pre (U' := T14.setTop (mkF m 58 #[.val (.ref a), .val (.double iv), .second, .val (.double ff), .second, .val (.double pp), .second, .val (.int (3 : Int32))] [(.double yc), (.ref a)])) (fun t k => XS.icmpYes X14.here hx rfl (pc0 := 27) (pc' := 49) rfl (hb hby d1_27) rfl (flt hc27).2.1 (by decide) (by decide) (XS.aloadN X14.here hx rfl (hb hby d1_49) rfl rfl (XS.dloadN X14.here hx rfl (hb hby d1_50) rfl (XS.dloadN X14.here hx rfl (hb hby d1_51) rfl (XS.dmulS X14.here hx rfl (v := ya) (hb hby d1_52) rfl ha1.2 ha1.1 (XS.dload X14.here hx rfl (hb hby d1_53) rfl (XS.dmulS X14.here hx rfl (v := yb) (hb hby d1_55) rfl ha2.2 ha2.1 (XS.dloadN X14.here hx rfl (hb hby d1_56) rfl (XS.ddivS X14.here hx rfl (v := yc) (hb hby d1_57) rfl ha3.2 ha3.1 k))))))))) ?_
  obtain ⟨T15, h15, X15, e15, W15, st15⟩ := putF X14 hx hZ hown (host := "") (Or.inl (wq hw 16 rfl)) Via.refl e14 F_growth_a E_a (Or.inr ⟨(wq hw 17 rfl), rfl, hnm⟩) (wq hw 1 rfl) (ty := .double) (by decide) rfl rfl (g := (mkF m 58 #[.val (.ref a), .val (.double iv), .second, .val (.double ff), .second, .val (.double pp), .second, .val (.int (3 : Int32))] [(.double yc), (.ref a)])) rfl rfl (hb hby d1_58)
  have E_a := E_a.wr W15
  have F_value_a := F_value_a.other W15 (Or.inr (slot_ne (Or.inr (wq hw 11 rfl)) (Or.inr (wq hw 17 rfl)) (by decide) (t := (.array .double)) (t' := .double) (by decide) (by decide)))
  have F_covariance_a := F_covariance_a.other W15 (Or.inr (slot_ne (Or.inr (wq hw 15 rfl)) (Or.inr (wq hw 17 rfl)) (by decide) (t := (.array (.array .double))) (t' := .double) (by decide) (by decide)))
  have E_va0 := E_va0.wr W15
  have V_va0 := V_va0.other W15 ne_va0_a
  have E_ga := E_ga.wr W15
  have V_ga := V_ga.other W15 ne_ga_a
  have E_ra := E_ra.wr W15
  have V_ra := V_ra.other W15 ne_ra_a
  have E_rb := E_rb.wr W15
  have V_rb := V_rb.other W15 ne_rb_a
  have E_rc := E_rc.wr W15
  have V_rc := V_rc.other W15 ne_rc_a
  have Z15 : n0 ≤ h15.size := Nat.le_trans Z14 (Keep.of_wr W15).1
  have F_growth_a := F_growth_a.same W15
  have K15 := K14.wr W15 (Or.inl (List.mem_of_getElem? (i := 0) rfl))
  have N15 := Fr.snoc X15 N14 g_a
  refine Goes.pre (U' := T15.setTop (mkF m 61 #[.val (.ref a), .val (.double iv), .second, .val (.double ff), .second, .val (.double pp), .second, .val (.int (3 : Int32))] [])) (fun t k => st15 t k) ?_
  refine Goes.ret X15 (v := none) (fun _ => rfl) hlk (by decide) (by decide) e15 (fun fs hr => X15.returnOut hx hret (hb hby d1_61) hr) ?_
  exact ⟨va0, ga, ra, rb, rc, k2, k4, kc4, rfl, N15, K15, F_value_a, F_covariance_a, F_growth_a, V_va0, V_ga, V_ra, V_rb, V_rc, g_va0, sz_va0, g_ga, sz_ga, g_ra, sz_ra, g_rb, sz_rb, g_rc, sz_rc, ⟨ne_va0_ga, ne_va0_ra, ne_va0_rb, ne_va0_rc, ne_ga_ra, ne_ga_rb, ne_ga_rc, ne_ra_rb, ne_ra_rc, ne_rb_rc⟩⟩
theorem ef_rm_age (m : MethodId) (x0 : Addr) : entryFrame m #[(.ref x0)] 2 = mkF m 0 #[.val (.ref x0), .unset] [] := by first | (simp [entryFrame, mkF, argsToLocals, Value.category]; done) | rfl
abbrev M3 : MethodName := ⟨"com/example/corpo/corpo/orientation/GyroBias", "age", "()V"⟩
theorem d3_0 : decode prog_8_method_4_code 0 = .ok (.iconst 0, 1) := by decide +kernel
theorem d3_1 : decode prog_8_method_4_code 1 = .ok (.istore_n 1, 1) := by decide +kernel
theorem d3_2 : decode prog_8_method_4_code 2 = .ok (.iload_n 1, 1) := by decide +kernel
theorem d3_3 : decode prog_8_method_4_code 3 = .ok (.iconst 3, 1) := by decide +kernel
theorem d3_4 : decode prog_8_method_4_code 4 = .ok (.if_icmp .ge 24, 3) := by decide +kernel
theorem d3_7 : decode prog_8_method_4_code 7 = .ok (.aload_n 0, 1) := by decide +kernel
theorem d3_8 : decode prog_8_method_4_code 8 = .ok (.getfield 15, 3) := by decide +kernel
theorem d3_11 : decode prog_8_method_4_code 11 = .ok (.iload_n 1, 1) := by decide +kernel
theorem d3_12 : decode prog_8_method_4_code 12 = .ok (.aaload, 1) := by decide +kernel
theorem d3_13 : decode prog_8_method_4_code 13 = .ok (.iload_n 1, 1) := by decide +kernel
theorem d3_14 : decode prog_8_method_4_code 14 = .ok (.dup2, 1) := by decide +kernel
theorem d3_15 : decode prog_8_method_4_code 15 = .ok (.daload, 1) := by decide +kernel
theorem d3_16 : decode prog_8_method_4_code 16 = .ok (.aload_n 0, 1) := by decide +kernel
theorem d3_17 : decode prog_8_method_4_code 17 = .ok (.getfield 18, 3) := by decide +kernel
theorem d3_20 : decode prog_8_method_4_code 20 = .ok (.dadd, 1) := by decide +kernel
theorem d3_21 : decode prog_8_method_4_code 21 = .ok (.dastore, 1) := by decide +kernel
theorem d3_22 : decode prog_8_method_4_code 22 = .ok (.iinc 1 1, 3) := by decide +kernel
theorem d3_25 : decode prog_8_method_4_code 25 = .ok (.goto (-23), 3) := by decide +kernel
theorem d3_28 : decode prog_8_method_4_code 28 = .ok (.return_, 1) := by decide +kernel
def Q_rm_age (Z : State) (a : Addr) (gr : Addr) (r0 : Addr) (r1 : Addr) (r2 : Addr) (kg : ClassId) (kr : ClassId) (cc : UInt64) (gg : UInt64) (cn : UInt64) (h0 : Heap) (n0 : Nat) (v : Option Value) (h : Heap) (L : List Loc) : Prop := v = none ∧ Fr n0 L ∧ Keep h0 h [r0, r1, r2] ∧ Arv Z h r0 kr .double (3 : Int32) [(.double cn), (.double (0 : UInt64)), (.double (0 : UInt64))] (.double (0 : UInt64)) ∧ Arv Z h r1 kr .double (3 : Int32) [(.double (0 : UInt64)), (.double cn), (.double (0 : UInt64))] (.double (0 : UInt64)) ∧ Arv Z h r2 kr .double (3 : Int32) [(.double (0 : UInt64)), (.double (0 : UInt64)), (.double cn)] (.double (0 : UInt64))
set_option maxRecDepth 65536 in
set_option maxHeartbeats 40000000 in
theorem rm_age (l : Launch) (Z : State) (a0 : Array Value) (hw : ∀ d ∈ tables_1, d.before a0 Z = true) (ws : List Jvm.Cond) (a : Addr) (gr : Addr) (r0 : Addr) (r1 : Addr) (r2 : Addr) (kg : ClassId) (kr : ClassId) (cc : UInt64) (gg : UInt64) (cn : UInt64) (h0 : Heap) (n0 : Nat) (Z0 : n0 ≤ h0.size) (F_covariance_a : Fld Z h0 a "com/example/corpo/corpo/orientation/GyroBias" "covariance" "[[D" (.ref gr)) (F_growth_a : Fld Z h0 a "com/example/corpo/corpo/orientation/GyroBias" "growth" "D" (.double gg)) (V_gr : Arv Z h0 gr kg (.array .double) (3 : Int32) [(.ref r0), (.ref r1), (.ref r2)] .null) (V_r0 : Arv Z h0 r0 kr .double (3 : Int32) [(.double cc), (.double (0 : UInt64)), (.double (0 : UInt64))] (.double (0 : UInt64))) (V_r1 : Arv Z h0 r1 kr .double (3 : Int32) [(.double (0 : UInt64)), (.double cc), (.double (0 : UInt64))] (.double (0 : UInt64))) (V_r2 : Arv Z h0 r2 kr .double (3 : Int32) [(.double (0 : UInt64)), (.double (0 : UInt64)), (.double cc)] (.double (0 : UInt64))) (ho : own_op (FP.dadd cc gg) cn) (ne_a_r0 : a ≠ r0) (ne_gr_r0 : gr ≠ r0) (ne_r1_r0 : r1 ≠ r0) (ne_r2_r0 : r2 ≠ r0) (ne_a_r1 : a ≠ r1) (ne_gr_r1 : gr ≠ r1) (ne_r0_r1 : r0 ≠ r1) (ne_r2_r1 : r2 ≠ r1) (ne_a_r2 : a ≠ r2) (ne_gr_r2 : gr ≠ r2) (ne_r0_r2 : r0 ≠ r2) (ne_r1_r2 : r1 ≠ r2) (g_r0 : n0 ≤ r0) (g_r1 : n0 ≤ r1) (g_r2 : n0 ≤ r2) :
    Met l Z M3 prog_8_method_4_code 2 none ws (Rm 0 0 0 0) #[(.ref a)] h0 (Q_rm_age Z a gr r0 r1 r2 kg kr cc gg cn h0 n0) := by
  refine met_of (plainFor_of_name pn_com_example_corpo_corpo_orientation_GyroBias) (own := "com/example/corpo/corpo/orientation/GyroBias") rfl (fun m => ef_rm_age m a) ?_
  intro p e s m below meth c s₁ hx hby hml hown hnm hZ X0 e0 hret hlk
  have N0 := Fr.nil n0
  have K0 := Keep.refl h0 [r0, r1, r2]
  show Goes p e below s _ _ _ (s₁.setTop (mkF m 0 #[.val (.ref a), .unset] []))
  refine Goes.pre (U' := s₁.setTop (mkF m 4 #[.val (.ref a), .val (.int (0 : Int32))] [(.int (3 : Int32)), (.int (0 : Int32))])) (fun t k => XS.iconst X0.here hx rfl (hb hby d3_0) (XS.istoreN X0.here hx rfl (hb hby d3_1) rfl (l' := #[.val (.ref a), .val (.int (0 : Int32))]) rfl (XS.iloadN X0.here hx rfl (hb hby d3_2) rfl (XS.iconst X0.here hx rfl (hb hby d3_3) k)))) ?_
  have hc4 : (0 : Int32) < (3 : Int32) := by decide
  refine Goes.pre (U' := s₁.setTop (mkF m 8 #[.val (.ref a), .val (.int (0 : Int32))] [(.ref a)])) (fun t k => XS.icmpNo X0.here hx rfl (hb hby d3_4) rfl (tlt hc4).2.1 (XS.aloadN X0.here hx rfl (hb hby d3_7) rfl rfl k)) ?_
  obtain ⟨T1, X1, e1, st1⟩ := getF X0 hx hZ hown (host := "") (Or.inl (wq hw 14 rfl)) Via.refl e0 F_covariance_a (g := (mkF m 8 #[.val (.ref a), .val (.int (0 : Int32))] [(.ref a)])) rfl rfl (hb hby d3_8)
  refine Goes.pre (U' := T1.setTop (mkF m 12 #[.val (.ref a), .val (.int (0 : Int32))] [(.int (0 : Int32)), (.ref gr)])) (fun t k => st1 t (XS.iloadN X1.here hx rfl (hb hby d3_11) rfl k)) ?_
  obtain ⟨cl2, Ar2, q2, Sz2, Ng2, Hs2, Ft2⟩ := id V_gr
  have hin2 := inb_of (j := (0 : Int32)) Sz2 ⟨by decide, by decide⟩
  refine Goes.pre (U' := T1.setTop (mkF m 15 #[.val (.ref a), .val (.int (0 : Int32))] [(.int (0 : Int32)), (.ref r0), (.int (0 : Int32)), (.ref r0)])) (fun t k => X1.aaload hx (j := (0 : Int32)) (v := (.ref r0)) (by rw [e1]; exact Ar2.1) (State.isArrayOf_alike hZ.alike Ar2.2.1) rfl Ar2.2.2 hin2 (Has.at Hs2 hin2 rfl) (g := (mkF m 12 #[.val (.ref a), .val (.int (0 : Int32))] [(.int (0 : Int32)), (.ref gr)])) rfl rfl (hb hby d3_12) _ (XS.iloadN X1.here hx rfl (hb hby d3_13) rfl (XT.dup2 X1.here hx rfl (hb hby d3_14) rfl rfl rfl k))) ?_
  obtain ⟨cl3, Ar3, q3, Sz3, Ng3, Hs3, Ft3⟩ := id V_r0
  have hin3 := inb_of (j := (0 : Int32)) Sz3 ⟨by decide, by decide⟩
  refine Goes.pre (U' := T1.setTop (mkF m 17 #[.val (.ref a), .val (.int (0 : Int32))] [(.ref a), (.double cc), (.int (0 : Int32)), (.ref r0)])) (fun t k => X1.daload hx (j := (0 : Int32)) (v := (.double cc)) (by rw [e1]; exact Ar3.1) (State.isArrayOf_alike hZ.alike Ar3.2.1) Ar3.2.2 hin3 (Has.at Hs3 hin3 rfl) (g := (mkF m 15 #[.val (.ref a), .val (.int (0 : Int32))] [(.int (0 : Int32)), (.ref r0), (.int (0 : Int32)), (.ref r0)])) rfl rfl (hb hby d3_15) _ (XS.aloadN X1.here hx rfl (hb hby d3_16) rfl rfl k)) ?_
  obtain ⟨T4, X4, e4, st4⟩ := getF X1 hx hZ hown (host := "") (Or.inl (wq hw 16 rfl)) Via.refl e1 F_growth_a (g := (mkF m 17 #[.val (.ref a), .val (.int (0 : Int32))] [(.ref a), (.double cc), (.int (0 : Int32)), (.ref r0)])) rfl rfl (hb hby d3_17)
  refine Goes.pre (U' := T4.setTop (mkF m 21 #[.val (.ref a), .val (.int (0 : Int32))] [(.double cn), (.int (0 : Int32)), (.ref r0)])) (fun t k => st4 t (XS.daddS X4.here hx rfl (v := cn) (hb hby d3_20) rfl ho.2 ho.1 k)) ?_
  obtain ⟨cl5, Ar5, q5, Sz5, Ng5, Hs5, Ft5⟩ := id V_r0
  obtain ⟨T5, h5, X5, e5, W5, st5⟩ := stD X4 hx hZ e4 Ar5 (j := (0 : Int32)) (inb_of Sz5 ⟨by decide, by decide⟩) (g := (mkF m 21 #[.val (.ref a), .val (.int (0 : Int32))] [(.double cn), (.int (0 : Int32)), (.ref r0)])) rfl rfl (hb hby d3_21)
  have F_covariance_a := F_covariance_a.other W5 (Or.inl ne_a_r0)
  have F_growth_a := F_growth_a.other W5 (Or.inl ne_a_r0)
  have V_gr := V_gr.other W5 ne_gr_r0
  have V_r1 := V_r1.other W5 ne_r1_r0
  have V_r2 := V_r2.other W5 ne_r2_r0
  have Z5 : n0 ≤ h5.size := Nat.le_trans Z0 (Keep.of_wr W5).1
  have V_r0 : Arv Z h5 r0 kr .double (3 : Int32) [(.double cn), (.double (0 : UInt64)), (.double (0 : UInt64))] (.double (0 : UInt64)) := Arv.set Ar5 q5 Sz5 Ng5 Hs5 Ft5 rfl W5 0 rfl (Nat.le_of_ble_eq_true rfl)
  have K5 := K0.wr W5 (Or.inl (List.mem_of_getElem? (i := 0) rfl))
  have N5 := Fr.snoc X5 N0 g_r0
  refine Goes.pre (U' := T5.setTop (mkF m 25 #[.val (.ref a), .val (.int ((0 : Int32) + (1 : Int32)))] [])) (fun t k => st5 t (XT.iincV X5.here hx rfl (1 : Int32) (hb hby d3_22) (by decide) rfl (l' := #[.val (.ref a), .val (.int ((0 : Int32) + (1 : Int32)))]) rfl k)) ?_
  rw [(by decide : ((0 : Int32) + (1 : Int32)) = (1 : Int32))]
  refine Goes.pre (U' := T5.setTop (mkF m 4 #[.val (.ref a), .val (.int (1 : Int32))] [(.int (3 : Int32)), (.int (1 : Int32))])) (fun t k => XS.goto X5.here hx rfl (pc0 := 25) (pc' := 2) rfl (hb hby d3_25) (by decide) (by decide) (XS.iloadN X5.here hx rfl (hb hby d3_2) rfl (XS.iconst X5.here hx rfl (hb hby d3_3) k))) ?_
  have hc4 : (1 : Int32) < (3 : Int32) := by decide
  refine Goes.pre (U' := T5.setTop (mkF m 8 #[.val (.ref a), .val (.int (1 : Int32))] [(.ref a)])) (fun t k => XS.icmpNo X5.here hx rfl (hb hby d3_4) rfl (tlt hc4).2.1 (XS.aloadN X5.here hx rfl (hb hby d3_7) rfl rfl k)) ?_
  obtain ⟨T6, X6, e6, st6⟩ := getF X5 hx hZ hown (host := "") (Or.inl (wq hw 14 rfl)) Via.refl e5 F_covariance_a (g := (mkF m 8 #[.val (.ref a), .val (.int (1 : Int32))] [(.ref a)])) rfl rfl (hb hby d3_8)
  refine Goes.pre (U' := T6.setTop (mkF m 12 #[.val (.ref a), .val (.int (1 : Int32))] [(.int (1 : Int32)), (.ref gr)])) (fun t k => st6 t (XS.iloadN X6.here hx rfl (hb hby d3_11) rfl k)) ?_
  obtain ⟨cl7, Ar7, q7, Sz7, Ng7, Hs7, Ft7⟩ := id V_gr
  have hin7 := inb_of (j := (1 : Int32)) Sz7 ⟨by decide, by decide⟩
  refine Goes.pre (U' := T6.setTop (mkF m 15 #[.val (.ref a), .val (.int (1 : Int32))] [(.int (1 : Int32)), (.ref r1), (.int (1 : Int32)), (.ref r1)])) (fun t k => X6.aaload hx (j := (1 : Int32)) (v := (.ref r1)) (by rw [e6]; exact Ar7.1) (State.isArrayOf_alike hZ.alike Ar7.2.1) rfl Ar7.2.2 hin7 (Has.at Hs7 hin7 rfl) (g := (mkF m 12 #[.val (.ref a), .val (.int (1 : Int32))] [(.int (1 : Int32)), (.ref gr)])) rfl rfl (hb hby d3_12) _ (XS.iloadN X6.here hx rfl (hb hby d3_13) rfl (XT.dup2 X6.here hx rfl (hb hby d3_14) rfl rfl rfl k))) ?_
  obtain ⟨cl8, Ar8, q8, Sz8, Ng8, Hs8, Ft8⟩ := id V_r1
  have hin8 := inb_of (j := (1 : Int32)) Sz8 ⟨by decide, by decide⟩
  refine Goes.pre (U' := T6.setTop (mkF m 17 #[.val (.ref a), .val (.int (1 : Int32))] [(.ref a), (.double cc), (.int (1 : Int32)), (.ref r1)])) (fun t k => X6.daload hx (j := (1 : Int32)) (v := (.double cc)) (by rw [e6]; exact Ar8.1) (State.isArrayOf_alike hZ.alike Ar8.2.1) Ar8.2.2 hin8 (Has.at Hs8 hin8 rfl) (g := (mkF m 15 #[.val (.ref a), .val (.int (1 : Int32))] [(.int (1 : Int32)), (.ref r1), (.int (1 : Int32)), (.ref r1)])) rfl rfl (hb hby d3_15) _ (XS.aloadN X6.here hx rfl (hb hby d3_16) rfl rfl k)) ?_
  obtain ⟨T9, X9, e9, st9⟩ := getF X6 hx hZ hown (host := "") (Or.inl (wq hw 16 rfl)) Via.refl e6 F_growth_a (g := (mkF m 17 #[.val (.ref a), .val (.int (1 : Int32))] [(.ref a), (.double cc), (.int (1 : Int32)), (.ref r1)])) rfl rfl (hb hby d3_17)
  refine Goes.pre (U' := T9.setTop (mkF m 21 #[.val (.ref a), .val (.int (1 : Int32))] [(.double cn), (.int (1 : Int32)), (.ref r1)])) (fun t k => st9 t (XS.daddS X9.here hx rfl (v := cn) (hb hby d3_20) rfl ho.2 ho.1 k)) ?_
  obtain ⟨cl10, Ar10, q10, Sz10, Ng10, Hs10, Ft10⟩ := id V_r1
  obtain ⟨T10, h10, X10, e10, W10, st10⟩ := stD X9 hx hZ e9 Ar10 (j := (1 : Int32)) (inb_of Sz10 ⟨by decide, by decide⟩) (g := (mkF m 21 #[.val (.ref a), .val (.int (1 : Int32))] [(.double cn), (.int (1 : Int32)), (.ref r1)])) rfl rfl (hb hby d3_21)
  have F_covariance_a := F_covariance_a.other W10 (Or.inl ne_a_r1)
  have F_growth_a := F_growth_a.other W10 (Or.inl ne_a_r1)
  have V_gr := V_gr.other W10 ne_gr_r1
  have V_r0 := V_r0.other W10 ne_r0_r1
  have V_r2 := V_r2.other W10 ne_r2_r1
  have Z10 : n0 ≤ h10.size := Nat.le_trans Z5 (Keep.of_wr W10).1
  have V_r1 : Arv Z h10 r1 kr .double (3 : Int32) [(.double (0 : UInt64)), (.double cn), (.double (0 : UInt64))] (.double (0 : UInt64)) := Arv.set Ar10 q10 Sz10 Ng10 Hs10 Ft10 rfl W10 1 rfl (Nat.le_of_ble_eq_true rfl)
  have K10 := K5.wr W10 (Or.inl (List.mem_of_getElem? (i := 1) rfl))
  have N10 := Fr.snoc X10 N5 g_r1
  refine Goes.pre (U' := T10.setTop (mkF m 25 #[.val (.ref a), .val (.int ((1 : Int32) + (1 : Int32)))] [])) (fun t k => st10 t (XT.iincV X10.here hx rfl (1 : Int32) (hb hby d3_22) (by decide) rfl (l' := #[.val (.ref a), .val (.int ((1 : Int32) + (1 : Int32)))]) rfl k)) ?_
  rw [(by decide : ((1 : Int32) + (1 : Int32)) = (2 : Int32))]
  refine Goes.pre (U' := T10.setTop (mkF m 4 #[.val (.ref a), .val (.int (2 : Int32))] [(.int (3 : Int32)), (.int (2 : Int32))])) (fun t k => XS.goto X10.here hx rfl (pc0 := 25) (pc' := 2) rfl (hb hby d3_25) (by decide) (by decide) (XS.iloadN X10.here hx rfl (hb hby d3_2) rfl (XS.iconst X10.here hx rfl (hb hby d3_3) k))) ?_
  have hc4 : (2 : Int32) < (3 : Int32) := by decide
  refine Goes.pre (U' := T10.setTop (mkF m 8 #[.val (.ref a), .val (.int (2 : Int32))] [(.ref a)])) (fun t k => XS.icmpNo X10.here hx rfl (hb hby d3_4) rfl (tlt hc4).2.1 (XS.aloadN X10.here hx rfl (hb hby d3_7) rfl rfl k)) ?_
  obtain ⟨T11, X11, e11, st11⟩ := getF X10 hx hZ hown (host := "") (Or.inl (wq hw 14 rfl)) Via.refl e10 F_covariance_a (g := (mkF m 8 #[.val (.ref a), .val (.int (2 : Int32))] [(.ref a)])) rfl rfl (hb hby d3_8)
  refine Goes.pre (U' := T11.setTop (mkF m 12 #[.val (.ref a), .val (.int (2 : Int32))] [(.int (2 : Int32)), (.ref gr)])) (fun t k => st11 t (XS.iloadN X11.here hx rfl (hb hby d3_11) rfl k)) ?_
  obtain ⟨cl12, Ar12, q12, Sz12, Ng12, Hs12, Ft12⟩ := id V_gr
  have hin12 := inb_of (j := (2 : Int32)) Sz12 ⟨by decide, by decide⟩
  refine Goes.pre (U' := T11.setTop (mkF m 15 #[.val (.ref a), .val (.int (2 : Int32))] [(.int (2 : Int32)), (.ref r2), (.int (2 : Int32)), (.ref r2)])) (fun t k => X11.aaload hx (j := (2 : Int32)) (v := (.ref r2)) (by rw [e11]; exact Ar12.1) (State.isArrayOf_alike hZ.alike Ar12.2.1) rfl Ar12.2.2 hin12 (Has.at Hs12 hin12 rfl) (g := (mkF m 12 #[.val (.ref a), .val (.int (2 : Int32))] [(.int (2 : Int32)), (.ref gr)])) rfl rfl (hb hby d3_12) _ (XS.iloadN X11.here hx rfl (hb hby d3_13) rfl (XT.dup2 X11.here hx rfl (hb hby d3_14) rfl rfl rfl k))) ?_
  obtain ⟨cl13, Ar13, q13, Sz13, Ng13, Hs13, Ft13⟩ := id V_r2
  have hin13 := inb_of (j := (2 : Int32)) Sz13 ⟨by decide, by decide⟩
  refine Goes.pre (U' := T11.setTop (mkF m 17 #[.val (.ref a), .val (.int (2 : Int32))] [(.ref a), (.double cc), (.int (2 : Int32)), (.ref r2)])) (fun t k => X11.daload hx (j := (2 : Int32)) (v := (.double cc)) (by rw [e11]; exact Ar13.1) (State.isArrayOf_alike hZ.alike Ar13.2.1) Ar13.2.2 hin13 (Has.at Hs13 hin13 rfl) (g := (mkF m 15 #[.val (.ref a), .val (.int (2 : Int32))] [(.int (2 : Int32)), (.ref r2), (.int (2 : Int32)), (.ref r2)])) rfl rfl (hb hby d3_15) _ (XS.aloadN X11.here hx rfl (hb hby d3_16) rfl rfl k)) ?_
  obtain ⟨T14, X14, e14, st14⟩ := getF X11 hx hZ hown (host := "") (Or.inl (wq hw 16 rfl)) Via.refl e11 F_growth_a (g := (mkF m 17 #[.val (.ref a), .val (.int (2 : Int32))] [(.ref a), (.double cc), (.int (2 : Int32)), (.ref r2)])) rfl rfl (hb hby d3_17)
  refine Goes.pre (U' := T14.setTop (mkF m 21 #[.val (.ref a), .val (.int (2 : Int32))] [(.double cn), (.int (2 : Int32)), (.ref r2)])) (fun t k => st14 t (XS.daddS X14.here hx rfl (v := cn) (hb hby d3_20) rfl ho.2 ho.1 k)) ?_
  obtain ⟨cl15, Ar15, q15, Sz15, Ng15, Hs15, Ft15⟩ := id V_r2
  obtain ⟨T15, h15, X15, e15, W15, st15⟩ := stD X14 hx hZ e14 Ar15 (j := (2 : Int32)) (inb_of Sz15 ⟨by decide, by decide⟩) (g := (mkF m 21 #[.val (.ref a), .val (.int (2 : Int32))] [(.double cn), (.int (2 : Int32)), (.ref r2)])) rfl rfl (hb hby d3_21)
  have F_covariance_a := F_covariance_a.other W15 (Or.inl ne_a_r2)
  have F_growth_a := F_growth_a.other W15 (Or.inl ne_a_r2)
  have V_gr := V_gr.other W15 ne_gr_r2
  have V_r0 := V_r0.other W15 ne_r0_r2
  have V_r1 := V_r1.other W15 ne_r1_r2
  have Z15 : n0 ≤ h15.size := Nat.le_trans Z10 (Keep.of_wr W15).1
  have V_r2 : Arv Z h15 r2 kr .double (3 : Int32) [(.double (0 : UInt64)), (.double (0 : UInt64)), (.double cn)] (.double (0 : UInt64)) := Arv.set Ar15 q15 Sz15 Ng15 Hs15 Ft15 rfl W15 2 rfl (Nat.le_of_ble_eq_true rfl)
  have K15 := K10.wr W15 (Or.inl (List.mem_of_getElem? (i := 2) rfl))
  have N15 := Fr.snoc X15 N10 g_r2
  refine Goes.pre (U' := T15.setTop (mkF m 25 #[.val (.ref a), .val (.int ((2 : Int32) + (1 : Int32)))] [])) (fun t k => st15 t (XT.iincV X15.here hx rfl (1 : Int32) (hb hby d3_22) (by decide) rfl (l' := #[.val (.ref a), .val (.int ((2 : Int32) + (1 : Int32)))]) rfl k)) ?_
  rw [(by decide : ((2 : Int32) + (1 : Int32)) = (3 : Int32))]
  refine Goes.pre (U' := T15.setTop (mkF m 4 #[.val (.ref a), .val (.int (3 : Int32))] [(.int (3 : Int32)), (.int (3 : Int32))])) (fun t k => XS.goto X15.here hx rfl (pc0 := 25) (pc' := 2) rfl (hb hby d3_25) (by decide) (by decide) (XS.iloadN X15.here hx rfl (hb hby d3_2) rfl (XS.iconst X15.here hx rfl (hb hby d3_3) k))) ?_
  have hc4 : ¬ ((3 : Int32) < (3 : Int32)) := by decide
  refine Goes.pre (U' := T15.setTop (mkF m 28 #[.val (.ref a), .val (.int (3 : Int32))] [])) (fun t k => XS.icmpYes X15.here hx rfl (pc0 := 4) (pc' := 28) rfl (hb hby d3_4) rfl (flt hc4).2.1 (by decide) (by decide) k) ?_
  refine Goes.ret X15 (v := none) (fun _ => rfl) hlk (by decide) (by decide) e15 (fun fs hr => X15.returnOut hx hret (hb hby d3_28) hr) ?_
  exact ⟨rfl, N15, K15, V_r0, V_r1, V_r2⟩
theorem ef_rm_obs (m : MethodId) (x0 : Addr) (x1 : Addr) (x2 : UInt64) (x3 : UInt64) : entryFrame m #[(.ref x0), (.ref x1), (.double x2), (.double x3)] 16 = mkF m 0 #[.val (.ref x0), .val (.ref x1), .val (.double x2), .second, .val (.double x3), .second, .unset, .unset, .unset, .unset, .unset, .unset, .unset, .unset, .unset, .unset] [] := by first | (simp [entryFrame, mkF, argsToLocals, Value.category]; done) | rfl
abbrev M6 : MethodName := ⟨"com/example/corpo/corpo/orientation/GyroBias", "observe", "(Lcom/example/corpo/corpo/samples/Vector3;DD)V"⟩
theorem d6_0 : decode prog_8_method_5_code 0 = .ok (.iconst 3, 1) := by decide +kernel
theorem d6_1 : decode prog_8_method_5_code 1 = .ok (.newarray .double, 2) := by decide +kernel
theorem d6_3 : decode prog_8_method_5_code 3 = .ok (.dup, 1) := by decide +kernel
theorem d6_4 : decode prog_8_method_5_code 4 = .ok (.iconst 0, 1) := by decide +kernel
theorem d6_5 : decode prog_8_method_5_code 5 = .ok (.aload_n 1, 1) := by decide +kernel
theorem d6_6 : decode prog_8_method_5_code 6 = .ok (.invokevirtual 27, 3) := by decide +kernel
theorem pd__28_29D : parseMethodDescriptor "()D" = some ⟨[], some .double⟩ := by decide +kernel
theorem d6_9 : decode prog_8_method_5_code 9 = .ok (.dastore, 1) := by decide +kernel
theorem d6_10 : decode prog_8_method_5_code 10 = .ok (.dup, 1) := by decide +kernel
theorem d6_11 : decode prog_8_method_5_code 11 = .ok (.iconst 1, 1) := by decide +kernel
theorem d6_12 : decode prog_8_method_5_code 12 = .ok (.aload_n 1, 1) := by decide +kernel
theorem d6_13 : decode prog_8_method_5_code 13 = .ok (.invokevirtual 31, 3) := by decide +kernel
theorem d6_16 : decode prog_8_method_5_code 16 = .ok (.dastore, 1) := by decide +kernel
theorem d6_17 : decode prog_8_method_5_code 17 = .ok (.dup, 1) := by decide +kernel
theorem d6_18 : decode prog_8_method_5_code 18 = .ok (.iconst 2, 1) := by decide +kernel
theorem d6_19 : decode prog_8_method_5_code 19 = .ok (.aload_n 1, 1) := by decide +kernel
theorem d6_20 : decode prog_8_method_5_code 20 = .ok (.invokevirtual 34, 3) := by decide +kernel
theorem d6_23 : decode prog_8_method_5_code 23 = .ok (.dastore, 1) := by decide +kernel
theorem d6_24 : decode prog_8_method_5_code 24 = .ok (.astore 6, 2) := by decide +kernel
theorem d6_26 : decode prog_8_method_5_code 26 = .ok (.iconst 3, 1) := by decide +kernel
theorem d6_27 : decode prog_8_method_5_code 27 = .ok (.newarray .double, 2) := by decide +kernel
theorem d6_29 : decode prog_8_method_5_code 29 = .ok (.astore 7, 2) := by decide +kernel
theorem d6_31 : decode prog_8_method_5_code 31 = .ok (.iconst 0, 1) := by decide +kernel
theorem d6_32 : decode prog_8_method_5_code 32 = .ok (.istore 8, 2) := by decide +kernel
theorem d6_34 : decode prog_8_method_5_code 34 = .ok (.iload 8, 2) := by decide +kernel
theorem d6_36 : decode prog_8_method_5_code 36 = .ok (.iconst 3, 1) := by decide +kernel
theorem d6_37 : decode prog_8_method_5_code 37 = .ok (.if_icmp .ge 26, 3) := by decide +kernel
theorem d6_40 : decode prog_8_method_5_code 40 = .ok (.aload 7, 2) := by decide +kernel
theorem d6_42 : decode prog_8_method_5_code 42 = .ok (.iload 8, 2) := by decide +kernel
theorem d6_44 : decode prog_8_method_5_code 44 = .ok (.aload_n 0, 1) := by decide +kernel
theorem d6_45 : decode prog_8_method_5_code 45 = .ok (.getfield 15, 3) := by decide +kernel
theorem d6_48 : decode prog_8_method_5_code 48 = .ok (.iload 8, 2) := by decide +kernel
theorem d6_50 : decode prog_8_method_5_code 50 = .ok (.aaload, 1) := by decide +kernel
theorem d6_51 : decode prog_8_method_5_code 51 = .ok (.aload 6, 2) := by decide +kernel
theorem d6_53 : decode prog_8_method_5_code 53 = .ok (.invokestatic 37, 3) := by decide +kernel
theorem pd__28_5bD_5bD_29D : parseMethodDescriptor "([D[D)D" = some ⟨[(.array .double), (.array .double)], some .double⟩ := by decide +kernel
theorem d6_56 : decode prog_8_method_5_code 56 = .ok (.dastore, 1) := by decide +kernel
theorem d6_57 : decode prog_8_method_5_code 57 = .ok (.iinc 8 1, 3) := by decide +kernel
theorem d6_60 : decode prog_8_method_5_code 60 = .ok (.goto (-26), 3) := by decide +kernel
theorem d6_63 : decode prog_8_method_5_code 63 = .ok (.aload 6, 2) := by decide +kernel
theorem d6_65 : decode prog_8_method_5_code 65 = .ok (.aload 7, 2) := by decide +kernel
theorem d6_67 : decode prog_8_method_5_code 67 = .ok (.invokestatic 37, 3) := by decide +kernel
theorem d6_70 : decode prog_8_method_5_code 70 = .ok (.dload 4, 2) := by decide +kernel
theorem d6_72 : decode prog_8_method_5_code 72 = .ok (.dadd, 1) := by decide +kernel
theorem d6_73 : decode prog_8_method_5_code 73 = .ok (.dstore 8, 2) := by decide +kernel
theorem d6_75 : decode prog_8_method_5_code 75 = .ok (.dload_n 2, 1) := by decide +kernel
theorem d6_76 : decode prog_8_method_5_code 76 = .ok (.aload 6, 2) := by decide +kernel
theorem d6_78 : decode prog_8_method_5_code 78 = .ok (.aload_n 0, 1) := by decide +kernel
theorem d6_79 : decode prog_8_method_5_code 79 = .ok (.getfield 7, 3) := by decide +kernel
theorem d6_82 : decode prog_8_method_5_code 82 = .ok (.invokestatic 37, 3) := by decide +kernel
theorem d6_85 : decode prog_8_method_5_code 85 = .ok (.dsub, 1) := by decide +kernel
theorem d6_86 : decode prog_8_method_5_code 86 = .ok (.dstore 10, 2) := by decide +kernel
theorem d6_88 : decode prog_8_method_5_code 88 = .ok (.iconst 0, 1) := by decide +kernel
theorem d6_89 : decode prog_8_method_5_code 89 = .ok (.istore 12, 2) := by decide +kernel
theorem d6_91 : decode prog_8_method_5_code 91 = .ok (.iload 12, 2) := by decide +kernel
theorem d6_93 : decode prog_8_method_5_code 93 = .ok (.iconst 3, 1) := by decide +kernel
theorem d6_94 : decode prog_8_method_5_code 94 = .ok (.if_icmp .ge 70, 3) := by decide +kernel
theorem d6_97 : decode prog_8_method_5_code 97 = .ok (.aload 7, 2) := by decide +kernel
theorem d6_99 : decode prog_8_method_5_code 99 = .ok (.iload 12, 2) := by decide +kernel
theorem d6_101 : decode prog_8_method_5_code 101 = .ok (.daload, 1) := by decide +kernel
theorem d6_102 : decode prog_8_method_5_code 102 = .ok (.dload 8, 2) := by decide +kernel
theorem d6_104 : decode prog_8_method_5_code 104 = .ok (.ddiv, 1) := by decide +kernel
theorem d6_105 : decode prog_8_method_5_code 105 = .ok (.dstore 13, 2) := by decide +kernel
theorem d6_107 : decode prog_8_method_5_code 107 = .ok (.aload_n 0, 1) := by decide +kernel
theorem d6_108 : decode prog_8_method_5_code 108 = .ok (.getfield 7, 3) := by decide +kernel
theorem d6_111 : decode prog_8_method_5_code 111 = .ok (.iload 12, 2) := by decide +kernel
theorem d6_113 : decode prog_8_method_5_code 113 = .ok (.dup2, 1) := by decide +kernel
theorem d6_114 : decode prog_8_method_5_code 114 = .ok (.daload, 1) := by decide +kernel
theorem d6_115 : decode prog_8_method_5_code 115 = .ok (.dload 13, 2) := by decide +kernel
theorem d6_117 : decode prog_8_method_5_code 117 = .ok (.dload 10, 2) := by decide +kernel
theorem d6_119 : decode prog_8_method_5_code 119 = .ok (.dmul, 1) := by decide +kernel
theorem d6_120 : decode prog_8_method_5_code 120 = .ok (.dadd, 1) := by decide +kernel
theorem d6_121 : decode prog_8_method_5_code 121 = .ok (.dastore, 1) := by decide +kernel
theorem d6_122 : decode prog_8_method_5_code 122 = .ok (.iconst 0, 1) := by decide +kernel
theorem d6_123 : decode prog_8_method_5_code 123 = .ok (.istore 15, 2) := by decide +kernel
theorem d6_125 : decode prog_8_method_5_code 125 = .ok (.iload 15, 2) := by decide +kernel
theorem d6_127 : decode prog_8_method_5_code 127 = .ok (.iconst 3, 1) := by decide +kernel
theorem d6_128 : decode prog_8_method_5_code 128 = .ok (.if_icmp .ge 30, 3) := by decide +kernel
theorem d6_131 : decode prog_8_method_5_code 131 = .ok (.aload_n 0, 1) := by decide +kernel
theorem d6_132 : decode prog_8_method_5_code 132 = .ok (.getfield 15, 3) := by decide +kernel
theorem d6_135 : decode prog_8_method_5_code 135 = .ok (.iload 12, 2) := by decide +kernel
theorem d6_137 : decode prog_8_method_5_code 137 = .ok (.aaload, 1) := by decide +kernel
theorem d6_138 : decode prog_8_method_5_code 138 = .ok (.iload 15, 2) := by decide +kernel
theorem d6_140 : decode prog_8_method_5_code 140 = .ok (.dup2, 1) := by decide +kernel
theorem d6_141 : decode prog_8_method_5_code 141 = .ok (.daload, 1) := by decide +kernel
theorem d6_142 : decode prog_8_method_5_code 142 = .ok (.dload 13, 2) := by decide +kernel
theorem d6_144 : decode prog_8_method_5_code 144 = .ok (.aload 7, 2) := by decide +kernel
theorem d6_146 : decode prog_8_method_5_code 146 = .ok (.iload 15, 2) := by decide +kernel
theorem d6_148 : decode prog_8_method_5_code 148 = .ok (.daload, 1) := by decide +kernel
theorem d6_149 : decode prog_8_method_5_code 149 = .ok (.dmul, 1) := by decide +kernel
theorem d6_150 : decode prog_8_method_5_code 150 = .ok (.dsub, 1) := by decide +kernel
theorem d6_151 : decode prog_8_method_5_code 151 = .ok (.dastore, 1) := by decide +kernel
theorem d6_152 : decode prog_8_method_5_code 152 = .ok (.iinc 15 1, 3) := by decide +kernel
theorem d6_155 : decode prog_8_method_5_code 155 = .ok (.goto (-30), 3) := by decide +kernel
theorem d6_158 : decode prog_8_method_5_code 158 = .ok (.iinc 12 1, 3) := by decide +kernel
theorem d6_161 : decode prog_8_method_5_code 161 = .ok (.goto (-70), 3) := by decide +kernel
theorem d6_164 : decode prog_8_method_5_code 164 = .ok (.return_, 1) := by decide +kernel
def Q_rm_obs (Z : State) (a : Addr) (ve : Addr) (va : Addr) (gr : Addr) (r0 : Addr) (r1 : Addr) (r2 : Addr) (kv : ClassId) (kg : ClassId) (kr : ClassId) (xq : UInt64) (xe : UInt64) (za : UInt64) (zb : UInt64) (zc : UInt64) (zq : UInt64) (zx : UInt64) (zy : UInt64) (mm : UInt64) (h0 : Heap) (n0 : Nat) (v : Option Value) (h : Heap) (L : List Loc) : Prop := v = none ∧ Fr n0 L ∧ Keep h0 h [va, r0, r1, r2] ∧ Arv Z h va kv .double (3 : Int32) [(.double mm), (.double mm), (.double mm)] (.double (0 : UInt64))
set_option maxRecDepth 65536 in
set_option maxHeartbeats 40000000 in
theorem rm_obs (l : Launch) (Z : State) (a0 : Array Value) (hw : ∀ d ∈ tables_1, d.before a0 Z = true) (ws : List Jvm.Cond) (a : Addr) (ve : Addr) (va : Addr) (gr : Addr) (r0 : Addr) (r1 : Addr) (r2 : Addr) (kv : ClassId) (kg : ClassId) (kr : ClassId) (xq : UInt64) (xe : UInt64) (za : UInt64) (zb : UInt64) (zc : UInt64) (zq : UInt64) (zx : UInt64) (zy : UInt64) (mm : UInt64) (h0 : Heap) (n0 : Nat) (Z0 : n0 ≤ h0.size) (F_value_a : Fld Z h0 a "com/example/corpo/corpo/orientation/GyroBias" "value" "[D" (.ref va)) (F_covariance_a : Fld Z h0 a "com/example/corpo/corpo/orientation/GyroBias" "covariance" "[[D" (.ref gr)) (E_ve : Exa Z h0 ve "com/example/corpo/corpo/samples/Vector3") (V_va : Arv Z h0 va kv .double (3 : Int32) [(.double (0 : UInt64)), (.double (0 : UInt64)), (.double (0 : UInt64))] (.double (0 : UInt64))) (F_x_ve : Fld Z h0 ve "com/example/corpo/corpo/samples/Vector3" "x" "D" (.double (4607182418800017408 : UInt64))) (F_y_ve : Fld Z h0 ve "com/example/corpo/corpo/samples/Vector3" "y" "D" (.double (4607182418800017408 : UInt64))) (F_z_ve : Fld Z h0 ve "com/example/corpo/corpo/samples/Vector3" "z" "D" (.double (4607182418800017408 : UInt64))) (V_gr : Arv Z h0 gr kg (.array .double) (3 : Int32) [(.ref r0), (.ref r1), (.ref r2)] .null) (V_r0 : Arv Z h0 r0 kr .double (3 : Int32) [(.double xe), (.double (0 : UInt64)), (.double (0 : UInt64))] (.double (0 : UInt64))) (V_r1 : Arv Z h0 r1 kr .double (3 : Int32) [(.double (0 : UInt64)), (.double xe), (.double (0 : UInt64))] (.double (0 : UInt64))) (V_r2 : Arv Z h0 r2 kr .double (3 : Int32) [(.double (0 : UInt64)), (.double (0 : UInt64)), (.double xe)] (.double (0 : UInt64))) (hob : own_obs xe za zb zc zq zx zy) (hom : own_obm xq mm) (ne_a_va : a ≠ va) (ne_ve_va : ve ≠ va) (ne_gr_va : gr ≠ va) (ne_r0_va : r0 ≠ va) (ne_r1_va : r1 ≠ va) (ne_r2_va : r2 ≠ va) (ne_a_r0 : a ≠ r0) (ne_ve_r0 : ve ≠ r0) (ne_va_r0 : va ≠ r0) (ne_gr_r0 : gr ≠ r0) (ne_r1_r0 : r1 ≠ r0) (ne_r2_r0 : r2 ≠ r0) (ne_a_r1 : a ≠ r1) (ne_ve_r1 : ve ≠ r1) (ne_va_r1 : va ≠ r1) (ne_gr_r1 : gr ≠ r1) (ne_r0_r1 : r0 ≠ r1) (ne_r2_r1 : r2 ≠ r1) (ne_a_r2 : a ≠ r2) (ne_ve_r2 : ve ≠ r2) (ne_va_r2 : va ≠ r2) (ne_gr_r2 : gr ≠ r2) (ne_r0_r2 : r0 ≠ r2) (ne_r1_r2 : r1 ≠ r2) (g_va : n0 ≤ va) (g_r0 : n0 ≤ r0) (g_r1 : n0 ≤ r1) (g_r2 : n0 ≤ r2) :
    Met l Z M6 prog_8_method_5_code 16 none ws (Rm 1 2 6 15) #[(.ref a), (.ref ve), (.double xq), (.double xe)] h0 (Q_rm_obs Z a ve va gr r0 r1 r2 kv kg kr xq xe za zb zc zq zx zy mm h0 n0) := by
  refine met_of (plainFor_of_name pn_com_example_corpo_corpo_orientation_GyroBias) (own := "com/example/corpo/corpo/orientation/GyroBias") rfl (fun m => ef_rm_obs m a ve xq xe) ?_
  intro p e s m below meth c s₁ hx hby hml hown hnm hZ X0 e0 hret hlk
  have N0 := Fr.nil n0
  have K0 := Keep.refl h0 [va, r0, r1, r2]
  show Goes p e below s _ _ _ (s₁.setTop (mkF m 0 #[.val (.ref a), .val (.ref ve), .val (.double xq), .second, .val (.double xe), .second, .unset, .unset, .unset, .unset, .unset, .unset, .unset, .unset, .unset, .unset] []))
  obtain ⟨o1, o2, o3, o4, o5, o6, o7, o8, o9, o10, o11⟩ := hob
  obtain ⟨i1, i2, i3⟩ := hom
  refine Goes.pre (U' := s₁.setTop (mkF m 1 #[.val (.ref a), .val (.ref ve), .val (.double xq), .second, .val (.double xe), .second, .unset, .unset, .unset, .unset, .unset, .unset, .unset, .unset, .unset, .unset] [(.int (3 : Int32))])) (fun t k => XS.iconst X0.here hx rfl (hb hby d6_0) k) ?_
  obtain ⟨T1, h1, k1, X1, e1, E1, A1, B1, st1⟩ := newPE X0 hx hZ (wq hw 9 rfl) e0 (g := (mkF m 1 #[.val (.ref a), .val (.ref ve), .val (.double xq), .second, .val (.double xe), .second, .unset, .unset, .unset, .unset, .unset, .unset, .unset, .unset, .unset, .unset] [(.int (3 : Int32))])) rfl (hb hby d6_1) rfl (by decide) (cap := 3) (by decide) (by decide) (by decide) (by decide) (ad := "[D") (by decide)
  obtain ⟨nb1, g1⟩ : ∃ z, z = h0.size := ⟨_, rfl⟩
  rw [← g1] at A1 B1 st1
  have ne_a_nb1 : a ≠ nb1 := Nat.ne_of_lt (Nat.lt_of_lt_of_le F_value_a.lt (Nat.le_of_eq g1.symm))
  have ne_nb1_a := ne_a_nb1.symm
  have ne_gr_nb1 : gr ≠ nb1 := Nat.ne_of_lt (Nat.lt_of_lt_of_le V_gr.lt (Nat.le_of_eq g1.symm))
  have ne_nb1_gr := ne_gr_nb1.symm
  have ne_r0_nb1 : r0 ≠ nb1 := Nat.ne_of_lt (Nat.lt_of_lt_of_le V_r0.lt (Nat.le_of_eq g1.symm))
  have ne_nb1_r0 := ne_r0_nb1.symm
  have ne_r1_nb1 : r1 ≠ nb1 := Nat.ne_of_lt (Nat.lt_of_lt_of_le V_r1.lt (Nat.le_of_eq g1.symm))
  have ne_nb1_r1 := ne_r1_nb1.symm
  have ne_r2_nb1 : r2 ≠ nb1 := Nat.ne_of_lt (Nat.lt_of_lt_of_le V_r2.lt (Nat.le_of_eq g1.symm))
  have ne_nb1_r2 := ne_r2_nb1.symm
  have ne_va_nb1 : va ≠ nb1 := Nat.ne_of_lt (Nat.lt_of_lt_of_le V_va.lt (Nat.le_of_eq g1.symm))
  have ne_nb1_va := ne_va_nb1.symm
  have ne_ve_nb1 : ve ≠ nb1 := Nat.ne_of_lt (Nat.lt_of_lt_of_le E_ve.lt (Nat.le_of_eq g1.symm))
  have ne_nb1_ve := ne_ve_nb1.symm
  have g_nb1 : n0 ≤ nb1 := Nat.le_trans Z0 (Nat.le_of_eq g1.symm)
  have sz_nb1 : h0.size ≤ nb1 := Nat.le_trans K0.1 (Nat.le_of_eq g1.symm)
  have F_value_a := F_value_a.ext E1
  have F_covariance_a := F_covariance_a.ext E1
  have E_ve := E_ve.ext E1
  have V_va := V_va.ext E1
  have F_x_ve := F_x_ve.ext E1
  have F_y_ve := F_y_ve.ext E1
  have F_z_ve := F_z_ve.ext E1
  have V_gr := V_gr.ext E1
  have V_r0 := V_r0.ext E1
  have V_r1 := V_r1.ext E1
  have V_r2 := V_r2.ext E1
  have Z1 : n0 ≤ h1.size := Nat.le_trans Z0 E1.1
  have K1 := K0.ext E1
  have E_nb1 := B1
  have V_nb1 : Arv Z h1 nb1 k1 .double (3 : Int32) [(.double (0 : UInt64)), (.double (0 : UInt64)), (.double (0 : UInt64))] (.double (0 : UInt64)) := (Arv.new A1 (by decide)).pad (pad_rep [] (.double (0 : UInt64)) 3)
  refine Goes.pre (U' := T1.setTop (mkF m 6 #[.val (.ref a), .val (.ref ve), .val (.double xq), .second, .val (.double xe), .second, .unset, .unset, .unset, .unset, .unset, .unset, .unset, .unset, .unset, .unset] [(.ref ve), (.int (0 : Int32)), (.ref nb1), (.ref nb1)])) (fun t k => st1 t (XS.dup X1.here hx rfl (hb hby d6_3) rfl rfl (XS.iconst X1.here hx rfl (hb hby d6_4) (XS.aloadN X1.here hx rfl (hb hby d6_5) rfl rfl k)))) ?_
  obtain ⟨cq2, kq2, q2a, q2b, q2c⟩ := isOf hZ e1 E_ve
  obtain ⟨_, _, ⟨T2, L2, k2, n2⟩, -, X2, ⟨Lc2, hQ2, l2, y2, z2⟩, st2⟩ := X1.virtualBack hx (y := (⟨"com/example/corpo/corpo/samples/Vector3", "x", "()D"⟩ : MethodName)) (z := (⟨"com/example/corpo/corpo/samples/Vector3", "x", "()D"⟩ : MethodName)) hown (mvT hZ (wq hw 47 rfl)) (mvT hZ (wq hw 48 rfl)) (notFace_of_selects (args := #[]) (mvT hZ (wq hw 50 rfl))) (mvT hZ (wq hw 50 rfl)) (mvT hZ (wq hw 49 rfl)) (by decide) (backOf (W := 3) (rm_vx l Z a0 hw [] ve (4607182418800017408 : UInt64) h1 n0 Z1 F_x_ve) hZ (wq hw 51 rfl) (wq hw 25 rfl) (by decide) (by decide)) q2a q2c (g := (mkF m 6 #[.val (.ref a), .val (.ref ve), .val (.double xq), .second, .val (.double xe), .second, .unset, .unset, .unset, .unset, .unset, .unset, .unset, .unset, .unset, .unset] [(.ref ve), (.int (0 : Int32)), (.ref nb1), (.ref nb1)])) rfl (by rw [hml]; rfl) (Steps.refl _) (argsL := []) (rest := [(.int (0 : Int32)), (.ref nb1), (.ref nb1)]) (lenOf pd__28_29D rfl) rfl (by show 2 * 0 + _ ≤ _; exact Nat.le_of_eq rfl) (hb hby d6_6) (fun _ _ => ⟨rfl, e1, (by decide : 1 + 0 ≤ _), (by decide : 3 + 0 ≤ _)⟩)
  dsimp only [Pt.U, Pt.locs, Pt.cells, Pt.slots] at X2 l2 y2 z2 st2 hQ2
  subst l2 y2 z2
  obtain ⟨rfl, N2q, HQ2⟩ := hQ2
  have N2 := Fr.app N0 N2q
  refine Goes.pre (U' := T2.setTop (mkF m 9 #[.val (.ref a), .val (.ref ve), .val (.double xq), .second, .val (.double xe), .second, .unset, .unset, .unset, .unset, .unset, .unset, .unset, .unset, .unset, .unset] [(.double (4607182418800017408 : UInt64)), (.int (0 : Int32)), (.ref nb1), (.ref nb1)])) (fun t k => st2.trans k) ?_
  obtain ⟨cl3, Ar3, q3, Sz3, Ng3, Hs3, Ft3⟩ := id V_nb1
  obtain ⟨T3, h3, X3, e3, W3, st3⟩ := stD X2 hx hZ HQ2 Ar3 (j := (0 : Int32)) (inb_of Sz3 ⟨by decide, by decide⟩) (g := (mkF m 9 #[.val (.ref a), .val (.ref ve), .val (.double xq), .second, .val (.double xe), .second, .unset, .unset, .unset, .unset, .unset, .unset, .unset, .unset, .unset, .unset] [(.double (4607182418800017408 : UInt64)), (.int (0 : Int32)), (.ref nb1), (.ref nb1)])) rfl rfl (hb hby d6_9)
  have F_value_a := F_value_a.other W3 (Or.inl ne_a_nb1)
  have F_covariance_a := F_covariance_a.other W3 (Or.inl ne_a_nb1)
  have E_ve := E_ve.wr W3
  have V_va := V_va.other W3 ne_va_nb1
  have F_x_ve := F_x_ve.other W3 (Or.inl ne_ve_nb1)
  have F_y_ve := F_y_ve.other W3 (Or.inl ne_ve_nb1)
  have F_z_ve := F_z_ve.other W3 (Or.inl ne_ve_nb1)
  have V_gr := V_gr.other W3 ne_gr_nb1
  have V_r0 := V_r0.other W3 ne_r0_nb1
  have V_r1 := V_r1.other W3 ne_r1_nb1
  have V_r2 := V_r2.other W3 ne_r2_nb1
  have E_nb1 := E_nb1.wr W3
  have Z3 : n0 ≤ h3.size := Nat.le_trans Z1 (Keep.of_wr W3).1
  have V_nb1 : Arv Z h3 nb1 k1 .double (3 : Int32) [(.double (4607182418800017408 : UInt64)), (.double (0 : UInt64)), (.double (0 : UInt64))] (.double (0 : UInt64)) := Arv.set Ar3 q3 Sz3 Ng3 Hs3 Ft3 rfl W3 0 rfl (Nat.le_of_ble_eq_true rfl)
  have K3 := K1.wr W3 (Or.inr sz_nb1)
  have N3 := Fr.snoc X3 N2 g_nb1
  refine Goes.pre (U' := T3.setTop (mkF m 13 #[.val (.ref a), .val (.ref ve), .val (.double xq), .second, .val (.double xe), .second, .unset, .unset, .unset, .unset, .unset, .unset, .unset, .unset, .unset, .unset] [(.ref ve), (.int (1 : Int32)), (.ref nb1), (.ref nb1)])) (fun t k => st3 t (XS.dup X3.here hx rfl (hb hby d6_10) rfl rfl (XS.iconst X3.here hx rfl (hb hby d6_11) (XS.aloadN X3.here hx rfl (hb hby d6_12) rfl rfl k)))) ?_
  obtain ⟨cq4, kq4, q4a, q4b, q4c⟩ := isOf hZ e3 E_ve
  obtain ⟨_, _, ⟨T4, L4, k4, n4⟩, -, X4, ⟨Lc4, hQ4, l4, y4, z4⟩, st4⟩ := X3.virtualBack hx (y := (⟨"com/example/corpo/corpo/samples/Vector3", "y", "()D"⟩ : MethodName)) (z := (⟨"com/example/corpo/corpo/samples/Vector3", "y", "()D"⟩ : MethodName)) hown (mvT hZ (wq hw 52 rfl)) (mvT hZ (wq hw 53 rfl)) (notFace_of_selects (args := #[]) (mvT hZ (wq hw 55 rfl))) (mvT hZ (wq hw 55 rfl)) (mvT hZ (wq hw 54 rfl)) (by decide) (backOf (W := 3) (rm_vy l Z a0 hw [] ve (4607182418800017408 : UInt64) h3 n0 Z3 F_y_ve) hZ (wq hw 56 rfl) (wq hw 25 rfl) (by decide) (by decide)) q4a q4c (g := (mkF m 13 #[.val (.ref a), .val (.ref ve), .val (.double xq), .second, .val (.double xe), .second, .unset, .unset, .unset, .unset, .unset, .unset, .unset, .unset, .unset, .unset] [(.ref ve), (.int (1 : Int32)), (.ref nb1), (.ref nb1)])) rfl (by rw [hml]; rfl) (Steps.refl _) (argsL := []) (rest := [(.int (1 : Int32)), (.ref nb1), (.ref nb1)]) (lenOf pd__28_29D rfl) rfl (by show 2 * 0 + _ ≤ _; exact Nat.le_of_eq rfl) (hb hby d6_13) (fun _ _ => ⟨rfl, e3, (by decide : 1 + 0 ≤ _), (by decide : 3 + 0 ≤ _)⟩)
  dsimp only [Pt.U, Pt.locs, Pt.cells, Pt.slots] at X4 l4 y4 z4 st4 hQ4
  subst l4 y4 z4
  obtain ⟨rfl, N4q, HQ4⟩ := hQ4
  have N4 := Fr.app N3 N4q
  refine Goes.pre (U' := T4.setTop (mkF m 16 #[.val (.ref a), .val (.ref ve), .val (.double xq), .second, .val (.double xe), .second, .unset, .unset, .unset, .unset, .unset, .unset, .unset, .unset, .unset, .unset] [(.double (4607182418800017408 : UInt64)), (.int (1 : Int32)), (.ref nb1), (.ref nb1)])) (fun t k => st4.trans k) ?_
  obtain ⟨cl5, Ar5, q5, Sz5, Ng5, Hs5, Ft5⟩ := id V_nb1
  obtain ⟨T5, h5, X5, e5, W5, st5⟩ := stD X4 hx hZ HQ4 Ar5 (j := (1 : Int32)) (inb_of Sz5 ⟨by decide, by decide⟩) (g := (mkF m 16 #[.val (.ref a), .val (.ref ve), .val (.double xq), .second, .val (.double xe), .second, .unset, .unset, .unset, .unset, .unset, .unset, .unset, .unset, .unset, .unset] [(.double (4607182418800017408 : UInt64)), (.int (1 : Int32)), (.ref nb1), (.ref nb1)])) rfl rfl (hb hby d6_16)
  have F_value_a := F_value_a.other W5 (Or.inl ne_a_nb1)
  have F_covariance_a := F_covariance_a.other W5 (Or.inl ne_a_nb1)
  have E_ve := E_ve.wr W5
  have V_va := V_va.other W5 ne_va_nb1
  have F_x_ve := F_x_ve.other W5 (Or.inl ne_ve_nb1)
  have F_y_ve := F_y_ve.other W5 (Or.inl ne_ve_nb1)
  have F_z_ve := F_z_ve.other W5 (Or.inl ne_ve_nb1)
  have V_gr := V_gr.other W5 ne_gr_nb1
  have V_r0 := V_r0.other W5 ne_r0_nb1
  have V_r1 := V_r1.other W5 ne_r1_nb1
  have V_r2 := V_r2.other W5 ne_r2_nb1
  have E_nb1 := E_nb1.wr W5
  have Z5 : n0 ≤ h5.size := Nat.le_trans Z3 (Keep.of_wr W5).1
  have V_nb1 : Arv Z h5 nb1 k1 .double (3 : Int32) [(.double (4607182418800017408 : UInt64)), (.double (4607182418800017408 : UInt64)), (.double (0 : UInt64))] (.double (0 : UInt64)) := Arv.set Ar5 q5 Sz5 Ng5 Hs5 Ft5 rfl W5 1 rfl (Nat.le_of_ble_eq_true rfl)
  have K5 := K3.wr W5 (Or.inr sz_nb1)
  have N5 := Fr.snoc X5 N4 g_nb1
  refine Goes.pre (U' := T5.setTop (mkF m 20 #[.val (.ref a), .val (.ref ve), .val (.double xq), .second, .val (.double xe), .second, .unset, .unset, .unset, .unset, .unset, .unset, .unset, .unset, .unset, .unset] [(.ref ve), (.int (2 : Int32)), (.ref nb1), (.ref nb1)])) (fun t k => st5 t (XS.dup X5.here hx rfl (hb hby d6_17) rfl rfl (XS.iconst X5.here hx rfl (hb hby d6_18) (XS.aloadN X5.here hx rfl (hb hby d6_19) rfl rfl k)))) ?_
  obtain ⟨cq6, kq6, q6a, q6b, q6c⟩ := isOf hZ e5 E_ve
  obtain ⟨_, _, ⟨T6, L6, k6, n6⟩, -, X6, ⟨Lc6, hQ6, l6, y6, z6⟩, st6⟩ := X5.virtualBack hx (y := (⟨"com/example/corpo/corpo/samples/Vector3", "z", "()D"⟩ : MethodName)) (z := (⟨"com/example/corpo/corpo/samples/Vector3", "z", "()D"⟩ : MethodName)) hown (mvT hZ (wq hw 57 rfl)) (mvT hZ (wq hw 58 rfl)) (notFace_of_selects (args := #[]) (mvT hZ (wq hw 60 rfl))) (mvT hZ (wq hw 60 rfl)) (mvT hZ (wq hw 59 rfl)) (by decide) (backOf (W := 3) (rm_vz l Z a0 hw [] ve (4607182418800017408 : UInt64) h5 n0 Z5 F_z_ve) hZ (wq hw 61 rfl) (wq hw 25 rfl) (by decide) (by decide)) q6a q6c (g := (mkF m 20 #[.val (.ref a), .val (.ref ve), .val (.double xq), .second, .val (.double xe), .second, .unset, .unset, .unset, .unset, .unset, .unset, .unset, .unset, .unset, .unset] [(.ref ve), (.int (2 : Int32)), (.ref nb1), (.ref nb1)])) rfl (by rw [hml]; rfl) (Steps.refl _) (argsL := []) (rest := [(.int (2 : Int32)), (.ref nb1), (.ref nb1)]) (lenOf pd__28_29D rfl) rfl (by show 2 * 0 + _ ≤ _; exact Nat.le_of_eq rfl) (hb hby d6_20) (fun _ _ => ⟨rfl, e5, (by decide : 1 + 0 ≤ _), (by decide : 3 + 0 ≤ _)⟩)
  dsimp only [Pt.U, Pt.locs, Pt.cells, Pt.slots] at X6 l6 y6 z6 st6 hQ6
  subst l6 y6 z6
  obtain ⟨rfl, N6q, HQ6⟩ := hQ6
  have N6 := Fr.app N5 N6q
  refine Goes.pre (U' := T6.setTop (mkF m 23 #[.val (.ref a), .val (.ref ve), .val (.double xq), .second, .val (.double xe), .second, .unset, .unset, .unset, .unset, .unset, .unset, .unset, .unset, .unset, .unset] [(.double (4607182418800017408 : UInt64)), (.int (2 : Int32)), (.ref nb1), (.ref nb1)])) (fun t k => st6.trans k) ?_
  obtain ⟨cl7, Ar7, q7, Sz7, Ng7, Hs7, Ft7⟩ := id V_nb1
  obtain ⟨T7, h7, X7, e7, W7, st7⟩ := stD X6 hx hZ HQ6 Ar7 (j := (2 : Int32)) (inb_of Sz7 ⟨by decide, by decide⟩) (g := (mkF m 23 #[.val (.ref a), .val (.ref ve), .val (.double xq), .second, .val (.double xe), .second, .unset, .unset, .unset, .unset, .unset, .unset, .unset, .unset, .unset, .unset] [(.double (4607182418800017408 : UInt64)), (.int (2 : Int32)), (.ref nb1), (.ref nb1)])) rfl rfl (hb hby d6_23)
  have F_value_a := F_value_a.other W7 (Or.inl ne_a_nb1)
  have F_covariance_a := F_covariance_a.other W7 (Or.inl ne_a_nb1)
  have E_ve := E_ve.wr W7
  have V_va := V_va.other W7 ne_va_nb1
  have F_x_ve := F_x_ve.other W7 (Or.inl ne_ve_nb1)
  have F_y_ve := F_y_ve.other W7 (Or.inl ne_ve_nb1)
  have F_z_ve := F_z_ve.other W7 (Or.inl ne_ve_nb1)
  have V_gr := V_gr.other W7 ne_gr_nb1
  have V_r0 := V_r0.other W7 ne_r0_nb1
  have V_r1 := V_r1.other W7 ne_r1_nb1
  have V_r2 := V_r2.other W7 ne_r2_nb1
  have E_nb1 := E_nb1.wr W7
  have Z7 : n0 ≤ h7.size := Nat.le_trans Z5 (Keep.of_wr W7).1
  have V_nb1 : Arv Z h7 nb1 k1 .double (3 : Int32) [(.double (4607182418800017408 : UInt64)), (.double (4607182418800017408 : UInt64)), (.double (4607182418800017408 : UInt64))] (.double (0 : UInt64)) := Arv.set Ar7 q7 Sz7 Ng7 Hs7 Ft7 rfl W7 2 rfl (Nat.le_of_ble_eq_true rfl)
  have K7 := K5.wr W7 (Or.inr sz_nb1)
  have N7 := Fr.snoc X7 N6 g_nb1
  refine Goes.pre (U' := T7.setTop (mkF m 27 #[.val (.ref a), .val (.ref ve), .val (.double xq), .second, .val (.double xe), .second, .val (.ref nb1), .unset, .unset, .unset, .unset, .unset, .unset, .unset, .unset, .unset] [(.int (3 : Int32))])) (fun t k => st7 t (XS.astore X7.here hx rfl (hb hby d6_24) rfl rfl (l' := #[.val (.ref a), .val (.ref ve), .val (.double xq), .second, .val (.double xe), .second, .val (.ref nb1), .unset, .unset, .unset, .unset, .unset, .unset, .unset, .unset, .unset]) rfl (XS.iconst X7.here hx rfl (hb hby d6_26) k))) ?_
  obtain ⟨T8, h8, k8, X8, e8, E8, A8, B8, st8⟩ := newPE X7 hx hZ (wq hw 9 rfl) e7 (g := (mkF m 27 #[.val (.ref a), .val (.ref ve), .val (.double xq), .second, .val (.double xe), .second, .val (.ref nb1), .unset, .unset, .unset, .unset, .unset, .unset, .unset, .unset, .unset] [(.int (3 : Int32))])) rfl (hb hby d6_27) rfl (by decide) (cap := 3) (by decide) (by decide) (by decide) (by decide) (ad := "[D") (by decide)
  obtain ⟨nb8, g8⟩ : ∃ z, z = h7.size := ⟨_, rfl⟩
  rw [← g8] at A8 B8 st8
  have ne_a_nb8 : a ≠ nb8 := Nat.ne_of_lt (Nat.lt_of_lt_of_le F_value_a.lt (Nat.le_of_eq g8.symm))
  have ne_nb8_a := ne_a_nb8.symm
  have ne_gr_nb8 : gr ≠ nb8 := Nat.ne_of_lt (Nat.lt_of_lt_of_le V_gr.lt (Nat.le_of_eq g8.symm))
  have ne_nb8_gr := ne_gr_nb8.symm
  have ne_nb1_nb8 : nb1 ≠ nb8 := Nat.ne_of_lt (Nat.lt_of_lt_of_le E_nb1.lt (Nat.le_of_eq g8.symm))
  have ne_nb8_nb1 := ne_nb1_nb8.symm
  have ne_r0_nb8 : r0 ≠ nb8 := Nat.ne_of_lt (Nat.lt_of_lt_of_le V_r0.lt (Nat.le_of_eq g8.symm))
  have ne_nb8_r0 := ne_r0_nb8.symm
  have ne_r1_nb8 : r1 ≠ nb8 := Nat.ne_of_lt (Nat.lt_of_lt_of_le V_r1.lt (Nat.le_of_eq g8.symm))
  have ne_nb8_r1 := ne_r1_nb8.symm
  have ne_r2_nb8 : r2 ≠ nb8 := Nat.ne_of_lt (Nat.lt_of_lt_of_le V_r2.lt (Nat.le_of_eq g8.symm))
  have ne_nb8_r2 := ne_r2_nb8.symm
  have ne_va_nb8 : va ≠ nb8 := Nat.ne_of_lt (Nat.lt_of_lt_of_le V_va.lt (Nat.le_of_eq g8.symm))
  have ne_nb8_va := ne_va_nb8.symm
  have ne_ve_nb8 : ve ≠ nb8 := Nat.ne_of_lt (Nat.lt_of_lt_of_le E_ve.lt (Nat.le_of_eq g8.symm))
  have ne_nb8_ve := ne_ve_nb8.symm
  have g_nb8 : n0 ≤ nb8 := Nat.le_trans Z7 (Nat.le_of_eq g8.symm)
  have sz_nb8 : h0.size ≤ nb8 := Nat.le_trans K7.1 (Nat.le_of_eq g8.symm)
  have F_value_a := F_value_a.ext E8
  have F_covariance_a := F_covariance_a.ext E8
  have E_ve := E_ve.ext E8
  have V_va := V_va.ext E8
  have F_x_ve := F_x_ve.ext E8
  have F_y_ve := F_y_ve.ext E8
  have F_z_ve := F_z_ve.ext E8
  have V_gr := V_gr.ext E8
  have V_r0 := V_r0.ext E8
  have V_r1 := V_r1.ext E8
  have V_r2 := V_r2.ext E8
  have E_nb1 := E_nb1.ext E8
  have V_nb1 := V_nb1.ext E8
  have Z8 : n0 ≤ h8.size := Nat.le_trans Z7 E8.1
  have K8 := K7.ext E8
  have E_nb8 := B8
  have V_nb8 : Arv Z h8 nb8 k8 .double (3 : Int32) [(.double (0 : UInt64)), (.double (0 : UInt64)), (.double (0 : UInt64))] (.double (0 : UInt64)) := (Arv.new A8 (by decide)).pad (pad_rep [] (.double (0 : UInt64)) 3)
  refine Goes.pre (U' := T8.setTop (mkF m 37 #[.val (.ref a), .val (.ref ve), .val (.double xq), .second, .val (.double xe), .second, .val (.ref nb1), .val (.ref nb8), .val (.int (0 : Int32)), .unset, .unset, .unset, .unset, .unset, .unset, .unset] [(.int (3 : Int32)), (.int (0 : Int32))])) (fun t k => st8 t (XS.astore X8.here hx rfl (hb hby d6_29) rfl rfl (l' := #[.val (.ref a), .val (.ref ve), .val (.double xq), .second, .val (.double xe), .second, .val (.ref nb1), .val (.ref nb8), .unset, .unset, .unset, .unset, .unset, .unset, .unset, .unset]) rfl (XS.iconst X8.here hx rfl (hb hby d6_31) (XS.istore X8.here hx rfl (hb hby d6_32) rfl (l' := #[.val (.ref a), .val (.ref ve), .val (.double xq), .second, .val (.double xe), .second, .val (.ref nb1), .val (.ref nb8), .val (.int (0 : Int32)), .unset, .unset, .unset, .unset, .unset, .unset, .unset]) rfl (XS.iload X8.here hx rfl (hb hby d6_34) rfl (XS.iconst X8.here hx rfl (hb hby d6_36) k)))))) ?_
  have hc37 : (0 : Int32) < (3 : Int32) := by decide
  refine Goes.pre (U' := T8.setTop (mkF m 45 #[.val (.ref a), .val (.ref ve), .val (.double xq), .second, .val (.double xe), .second, .val (.ref nb1), .val (.ref nb8), .val (.int (0 : Int32)), .unset, .unset, .unset, .unset, .unset, .unset, .unset] [(.ref a), (.int (0 : Int32)), (.ref nb8)])) (fun t k => XS.icmpNo X8.here hx rfl (hb hby d6_37) rfl (tlt hc37).2.1 (XS.aload X8.here hx rfl (hb hby d6_40) rfl rfl (XS.iload X8.here hx rfl (hb hby d6_42) rfl (XS.aloadN X8.here hx rfl (hb hby d6_44) rfl rfl k)))) ?_
  obtain ⟨T9, X9, e9, st9⟩ := getF X8 hx hZ hown (host := "") (Or.inl (wq hw 14 rfl)) Via.refl e8 F_covariance_a (g := (mkF m 45 #[.val (.ref a), .val (.ref ve), .val (.double xq), .second, .val (.double xe), .second, .val (.ref nb1), .val (.ref nb8), .val (.int (0 : Int32)), .unset, .unset, .unset, .unset, .unset, .unset, .unset] [(.ref a), (.int (0 : Int32)), (.ref nb8)])) rfl rfl (hb hby d6_45)
  refine Goes.pre (U' := T9.setTop (mkF m 50 #[.val (.ref a), .val (.ref ve), .val (.double xq), .second, .val (.double xe), .second, .val (.ref nb1), .val (.ref nb8), .val (.int (0 : Int32)), .unset, .unset, .unset, .unset, .unset, .unset, .unset] [(.int (0 : Int32)), (.ref gr), (.int (0 : Int32)), (.ref nb8)])) (fun t k => st9 t (XS.iload X9.here hx rfl (hb hby d6_48) rfl k)) ?_
  obtain ⟨cl10, Ar10, q10, Sz10, Ng10, Hs10, Ft10⟩ := id V_gr
  have hin10 := inb_of (j := (0 : Int32)) Sz10 ⟨by decide, by decide⟩
  refine Goes.pre (U' := T9.setTop (mkF m 53 #[.val (.ref a), .val (.ref ve), .val (.double xq), .second, .val (.double xe), .second, .val (.ref nb1), .val (.ref nb8), .val (.int (0 : Int32)), .unset, .unset, .unset, .unset, .unset, .unset, .unset] [(.ref nb1), (.ref r0), (.int (0 : Int32)), (.ref nb8)])) (fun t k => X9.aaload hx (j := (0 : Int32)) (v := (.ref r0)) (by rw [e9]; exact Ar10.1) (State.isArrayOf_alike hZ.alike Ar10.2.1) rfl Ar10.2.2 hin10 (Has.at Hs10 hin10 rfl) (g := (mkF m 50 #[.val (.ref a), .val (.ref ve), .val (.double xq), .second, .val (.double xe), .second, .val (.ref nb1), .val (.ref nb8), .val (.int (0 : Int32)), .unset, .unset, .unset, .unset, .unset, .unset, .unset] [(.int (0 : Int32)), (.ref gr), (.int (0 : Int32)), (.ref nb8)])) rfl rfl (hb hby d6_50) _ (XS.aload X9.here hx rfl (hb hby d6_51) rfl rfl k)) ?_
  obtain ⟨_, _, ⟨T11, L11, k11, n11⟩, -, X11, ⟨Lc11, hQ11, l11, y11, z11⟩, st11⟩ := Jvm.LawKit.callS X9 hx (y := (⟨"com/example/corpo/corpo/orientation/GyroBias", "dot", "([D[D)D"⟩ : MethodName)) hown (mvT hZ (wq hw 62 rfl)) (mvT hZ (wq hw 63 rfl)) (mvT hZ (wq hw 2 rfl)) (mvT hZ (wq hw 64 rfl)) (by decide) (backOf (W := 2) (rm_dot l Z a0 hw [] r0 nb1 kr k1 xe (0 : UInt64) (0 : UInt64) (4607182418800017408 : UInt64) (4607182418800017408 : UInt64) (4607182418800017408 : UInt64) xe (0 : UInt64) (0 : UInt64) xe xe h8 n0 Z8 V_r0 V_nb1 o1 own_z1 o2 own_z1 o2) hZ (wq hw 64 rfl) (wq hw 2 rfl) (by decide) (by decide)) (g := (mkF m 53 #[.val (.ref a), .val (.ref ve), .val (.double xq), .second, .val (.double xe), .second, .val (.ref nb1), .val (.ref nb8), .val (.int (0 : Int32)), .unset, .unset, .unset, .unset, .unset, .unset, .unset] [(.ref nb1), (.ref r0), (.int (0 : Int32)), (.ref nb8)])) rfl (by rw [hml]; rfl) (argsL := [(.ref r0), (.ref nb1)]) (rest := [(.int (0 : Int32)), (.ref nb8)]) (lenOf pd__28_5bD_5bD_29D rfl) rfl (by show 2 * 0 + _ ≤ _; exact Nat.le_of_eq rfl) (hb hby d6_53) (fun _ _ => ⟨rfl, e9, (by decide : 2 + 0 ≤ _), (by decide : 6 + 0 ≤ _)⟩)
  dsimp only [Pt.U, Pt.locs, Pt.cells, Pt.slots] at X11 l11 y11 z11 st11 hQ11
  subst l11 y11 z11
  obtain ⟨rfl, N11q, HQ11⟩ := hQ11
  have N11 := Fr.app N7 N11q
  refine Goes.pre (U' := T11.setTop (mkF m 56 #[.val (.ref a), .val (.ref ve), .val (.double xq), .second, .val (.double xe), .second, .val (.ref nb1), .val (.ref nb8), .val (.int (0 : Int32)), .unset, .unset, .unset, .unset, .unset, .unset, .unset] [(.double xe), (.int (0 : Int32)), (.ref nb8)])) (fun t k => st11 t k) ?_
  obtain ⟨cl12, Ar12, q12, Sz12, Ng12, Hs12, Ft12⟩ := id V_nb8
  obtain ⟨T12, h12, X12, e12, W12, st12⟩ := stD X11 hx hZ HQ11 Ar12 (j := (0 : Int32)) (inb_of Sz12 ⟨by decide, by decide⟩) (g := (mkF m 56 #[.val (.ref a), .val (.ref ve), .val (.double xq), .second, .val (.double xe), .second, .val (.ref nb1), .val (.ref nb8), .val (.int (0 : Int32)), .unset, .unset, .unset, .unset, .unset, .unset, .unset] [(.double xe), (.int (0 : Int32)), (.ref nb8)])) rfl rfl (hb hby d6_56)
  have F_value_a := F_value_a.other W12 (Or.inl ne_a_nb8)
  have F_covariance_a := F_covariance_a.other W12 (Or.inl ne_a_nb8)
  have E_ve := E_ve.wr W12
  have V_va := V_va.other W12 ne_va_nb8
  have F_x_ve := F_x_ve.other W12 (Or.inl ne_ve_nb8)
  have F_y_ve := F_y_ve.other W12 (Or.inl ne_ve_nb8)
  have F_z_ve := F_z_ve.other W12 (Or.inl ne_ve_nb8)
  have V_gr := V_gr.other W12 ne_gr_nb8
  have V_r0 := V_r0.other W12 ne_r0_nb8
  have V_r1 := V_r1.other W12 ne_r1_nb8
  have V_r2 := V_r2.other W12 ne_r2_nb8
  have E_nb1 := E_nb1.wr W12
  have V_nb1 := V_nb1.other W12 ne_nb1_nb8
  have E_nb8 := E_nb8.wr W12
  have Z12 : n0 ≤ h12.size := Nat.le_trans Z8 (Keep.of_wr W12).1
  have V_nb8 : Arv Z h12 nb8 k8 .double (3 : Int32) [(.double xe), (.double (0 : UInt64)), (.double (0 : UInt64))] (.double (0 : UInt64)) := Arv.set Ar12 q12 Sz12 Ng12 Hs12 Ft12 rfl W12 0 rfl (Nat.le_of_ble_eq_true rfl)
  have K12 := K8.wr W12 (Or.inr sz_nb8)
  have N12 := Fr.snoc X12 N11 g_nb8
  refine Goes.pre (U' := T12.setTop (mkF m 60 #[.val (.ref a), .val (.ref ve), .val (.double xq), .second, .val (.double xe), .second, .val (.ref nb1), .val (.ref nb8), .val (.int ((0 : Int32) + (1 : Int32))), .unset, .unset, .unset, .unset, .unset, .unset, .unset] [])) (fun t k => st12 t (XT.iincV X12.here hx rfl (1 : Int32) (hb hby d6_57) (by decide) rfl (l' := #[.val (.ref a), .val (.ref ve), .val (.double xq), .second, .val (.double xe), .second, .val (.ref nb1), .val (.ref nb8), .val (.int ((0 : Int32) + (1 : Int32))), .unset, .unset, .unset, .unset, .unset, .unset, .unset]) rfl k)) ?_
  rw [(by decide : ((0 : Int32) + (1 : Int32)) = (1 : Int32))]
  refine Goes.pre (U' := T12.setTop (mkF m 37 #[.val (.ref a), .val (.ref ve), .val (.double xq), .second, .val (.double xe), .second, .val (.ref nb1), .val (.ref nb8), .val (.int (1 : Int32)), .unset, .unset, .unset, .unset, .unset, .unset, .unset] [(.int (3 : Int32)), (.int (1 : Int32))])) (fun t k => XS.goto X12.here hx rfl (pc0 := 60) (pc' := 34) rfl (hb hby d6_60) (by decide) (by decide) (XS.iload X12.here hx rfl (hb hby d6_34) rfl (XS.iconst X12.here hx rfl (hb hby d6_36) k))) ?_
  have hc37 : (1 : Int32) < (3 : Int32) := by decide
  refine Goes.pre (U' := T12.setTop (mkF m 45 #[.val (.ref a), .val (.ref ve), .val (.double xq), .second, .val (.double xe), .second, .val (.ref nb1), .val (.ref nb8), .val (.int (1 : Int32)), .unset, .unset, .unset, .unset, .unset, .unset, .unset] [(.ref a), (.int (1 : Int32)), (.ref nb8)])) (fun t k => XS.icmpNo X12.here hx rfl (hb hby d6_37) rfl (tlt hc37).2.1 (XS.aload X12.here hx rfl (hb hby d6_40) rfl rfl (XS.iload X12.here hx rfl (hb hby d6_42) rfl (XS.aloadN X12.here hx rfl (hb hby d6_44) rfl rfl k)))) ?_
  obtain ⟨T13, X13, e13, st13⟩ := getF X12 hx hZ hown (host := "") (Or.inl (wq hw 14 rfl)) Via.refl e12 F_covariance_a (g := (mkF m 45 #[.val (.ref a), .val (.ref ve), .val (.double xq), .second, .val (.double xe), .second, .val (.ref nb1), .val (.ref nb8), .val (.int (1 : Int32)), .unset, .unset, .unset, .unset, .unset, .unset, .unset] [(.ref a), (.int (1 : Int32)), (.ref nb8)])) rfl rfl (hb hby d6_45)
  refine Goes.pre (U' := T13.setTop (mkF m 50 #[.val (.ref a), .val (.ref ve), .val (.double xq), .second, .val (.double xe), .second, .val (.ref nb1), .val (.ref nb8), .val (.int (1 : Int32)), .unset, .unset, .unset, .unset, .unset, .unset, .unset] [(.int (1 : Int32)), (.ref gr), (.int (1 : Int32)), (.ref nb8)])) (fun t k => st13 t (XS.iload X13.here hx rfl (hb hby d6_48) rfl k)) ?_
  obtain ⟨cl14, Ar14, q14, Sz14, Ng14, Hs14, Ft14⟩ := id V_gr
  have hin14 := inb_of (j := (1 : Int32)) Sz14 ⟨by decide, by decide⟩
  refine Goes.pre (U' := T13.setTop (mkF m 53 #[.val (.ref a), .val (.ref ve), .val (.double xq), .second, .val (.double xe), .second, .val (.ref nb1), .val (.ref nb8), .val (.int (1 : Int32)), .unset, .unset, .unset, .unset, .unset, .unset, .unset] [(.ref nb1), (.ref r1), (.int (1 : Int32)), (.ref nb8)])) (fun t k => X13.aaload hx (j := (1 : Int32)) (v := (.ref r1)) (by rw [e13]; exact Ar14.1) (State.isArrayOf_alike hZ.alike Ar14.2.1) rfl Ar14.2.2 hin14 (Has.at Hs14 hin14 rfl) (g := (mkF m 50 #[.val (.ref a), .val (.ref ve), .val (.double xq), .second, .val (.double xe), .second, .val (.ref nb1), .val (.ref nb8), .val (.int (1 : Int32)), .unset, .unset, .unset, .unset, .unset, .unset, .unset] [(.int (1 : Int32)), (.ref gr), (.int (1 : Int32)), (.ref nb8)])) rfl rfl (hb hby d6_50) _ (XS.aload X13.here hx rfl (hb hby d6_51) rfl rfl k)) ?_
  obtain ⟨_, _, ⟨T15, L15, k15, n15⟩, -, X15, ⟨Lc15, hQ15, l15, y15, z15⟩, st15⟩ := Jvm.LawKit.callS X13 hx (y := (⟨"com/example/corpo/corpo/orientation/GyroBias", "dot", "([D[D)D"⟩ : MethodName)) hown (mvT hZ (wq hw 62 rfl)) (mvT hZ (wq hw 63 rfl)) (mvT hZ (wq hw 2 rfl)) (mvT hZ (wq hw 64 rfl)) (by decide) (backOf (W := 2) (rm_dot l Z a0 hw [] r1 nb1 kr k1 (0 : UInt64) xe (0 : UInt64) (4607182418800017408 : UInt64) (4607182418800017408 : UInt64) (4607182418800017408 : UInt64) (0 : UInt64) xe (0 : UInt64) xe xe h12 n0 Z12 V_r1 V_nb1 own_z1 o1 o3 own_z1 o2) hZ (wq hw 64 rfl) (wq hw 2 rfl) (by decide) (by decide)) (g := (mkF m 53 #[.val (.ref a), .val (.ref ve), .val (.double xq), .second, .val (.double xe), .second, .val (.ref nb1), .val (.ref nb8), .val (.int (1 : Int32)), .unset, .unset, .unset, .unset, .unset, .unset, .unset] [(.ref nb1), (.ref r1), (.int (1 : Int32)), (.ref nb8)])) rfl (by rw [hml]; rfl) (argsL := [(.ref r1), (.ref nb1)]) (rest := [(.int (1 : Int32)), (.ref nb8)]) (lenOf pd__28_5bD_5bD_29D rfl) rfl (by show 2 * 0 + _ ≤ _; exact Nat.le_of_eq rfl) (hb hby d6_53) (fun _ _ => ⟨rfl, e13, (by decide : 2 + 0 ≤ _), (by decide : 6 + 0 ≤ _)⟩)
  dsimp only [Pt.U, Pt.locs, Pt.cells, Pt.slots] at X15 l15 y15 z15 st15 hQ15
  subst l15 y15 z15
  obtain ⟨rfl, N15q, HQ15⟩ := hQ15
  have N15 := Fr.app N12 N15q
  refine Goes.pre (U' := T15.setTop (mkF m 56 #[.val (.ref a), .val (.ref ve), .val (.double xq), .second, .val (.double xe), .second, .val (.ref nb1), .val (.ref nb8), .val (.int (1 : Int32)), .unset, .unset, .unset, .unset, .unset, .unset, .unset] [(.double xe), (.int (1 : Int32)), (.ref nb8)])) (fun t k => st15 t k) ?_
  obtain ⟨cl16, Ar16, q16, Sz16, Ng16, Hs16, Ft16⟩ := id V_nb8
  obtain ⟨T16, h16, X16, e16, W16, st16⟩ := stD X15 hx hZ HQ15 Ar16 (j := (1 : Int32)) (inb_of Sz16 ⟨by decide, by decide⟩) (g := (mkF m 56 #[.val (.ref a), .val (.ref ve), .val (.double xq), .second, .val (.double xe), .second, .val (.ref nb1), .val (.ref nb8), .val (.int (1 : Int32)), .unset, .unset, .unset, .unset, .unset, .unset, .unset] [(.double xe), (.int (1 : Int32)), (.ref nb8)])) rfl rfl (hb hby d6_56)
  have F_value_a := F_value_a.other W16 (Or.inl ne_a_nb8)
  have F_covariance_a := F_covariance_a.other W16 (Or.inl ne_a_nb8)
  have E_ve := E_ve.wr W16
  have V_va := V_va.other W16 ne_va_nb8
  have F_x_ve := F_x_ve.other W16 (Or.inl ne_ve_nb8)
  have F_y_ve := F_y_ve.other W16 (Or.inl ne_ve_nb8)
  have F_z_ve := F_z_ve.other W16 (Or.inl ne_ve_nb8)
  have V_gr := V_gr.other W16 ne_gr_nb8
  have V_r0 := V_r0.other W16 ne_r0_nb8
  have V_r1 := V_r1.other W16 ne_r1_nb8
  have V_r2 := V_r2.other W16 ne_r2_nb8
  have E_nb1 := E_nb1.wr W16
  have V_nb1 := V_nb1.other W16 ne_nb1_nb8
  have E_nb8 := E_nb8.wr W16
  have Z16 : n0 ≤ h16.size := Nat.le_trans Z12 (Keep.of_wr W16).1
  have V_nb8 : Arv Z h16 nb8 k8 .double (3 : Int32) [(.double xe), (.double xe), (.double (0 : UInt64))] (.double (0 : UInt64)) := Arv.set Ar16 q16 Sz16 Ng16 Hs16 Ft16 rfl W16 1 rfl (Nat.le_of_ble_eq_true rfl)
  have K16 := K12.wr W16 (Or.inr sz_nb8)
  have N16 := Fr.snoc X16 N15 g_nb8
  refine Goes.pre (U' := T16.setTop (mkF m 60 #[.val (.ref a), .val (.ref ve), .val (.double xq), .second, .val (.double xe), .second, .val (.ref nb1), .val (.ref nb8), .val (.int ((1 : Int32) + (1 : Int32))), .unset, .unset, .unset, .unset, .unset, .unset, .unset] [])) (fun t k => st16 t (XT.iincV X16.here hx rfl (1 : Int32) (hb hby d6_57) (by decide) rfl (l' := #[.val (.ref a), .val (.ref ve), .val (.double xq), .second, .val (.double xe), .second, .val (.ref nb1), .val (.ref nb8), .val (.int ((1 : Int32) + (1 : Int32))), .unset, .unset, .unset, .unset, .unset, .unset, .unset]) rfl k)) ?_
  rw [(by decide : ((1 : Int32) + (1 : Int32)) = (2 : Int32))]
  refine Goes.pre (U' := T16.setTop (mkF m 37 #[.val (.ref a), .val (.ref ve), .val (.double xq), .second, .val (.double xe), .second, .val (.ref nb1), .val (.ref nb8), .val (.int (2 : Int32)), .unset, .unset, .unset, .unset, .unset, .unset, .unset] [(.int (3 : Int32)), (.int (2 : Int32))])) (fun t k => XS.goto X16.here hx rfl (pc0 := 60) (pc' := 34) rfl (hb hby d6_60) (by decide) (by decide) (XS.iload X16.here hx rfl (hb hby d6_34) rfl (XS.iconst X16.here hx rfl (hb hby d6_36) k))) ?_
  have hc37 : (2 : Int32) < (3 : Int32) := by decide
  refine Goes.pre (U' := T16.setTop (mkF m 45 #[.val (.ref a), .val (.ref ve), .val (.double xq), .second, .val (.double xe), .second, .val (.ref nb1), .val (.ref nb8), .val (.int (2 : Int32)), .unset, .unset, .unset, .unset, .unset, .unset, .unset] [(.ref a), (.int (2 : Int32)), (.ref nb8)])) (fun t k => XS.icmpNo X16.here hx rfl (hb hby d6_37) rfl (tlt hc37).2.1 (XS.aload X16.here hx rfl (hb hby d6_40) rfl rfl (XS.iload X16.here hx rfl (hb hby d6_42) rfl (XS.aloadN X16.here hx rfl (hb hby d6_44) rfl rfl k)))) ?_
  obtain ⟨T17, X17, e17, st17⟩ := getF X16 hx hZ hown (host := "") (Or.inl (wq hw 14 rfl)) Via.refl e16 F_covariance_a (g := (mkF m 45 #[.val (.ref a), .val (.ref ve), .val (.double xq), .second, .val (.double xe), .second, .val (.ref nb1), .val (.ref nb8), .val (.int (2 : Int32)), .unset, .unset, .unset, .unset, .unset, .unset, .unset] [(.ref a), (.int (2 : Int32)), (.ref nb8)])) rfl rfl (hb hby d6_45)
  refine Goes.pre (U' := T17.setTop (mkF m 50 #[.val (.ref a), .val (.ref ve), .val (.double xq), .second, .val (.double xe), .second, .val (.ref nb1), .val (.ref nb8), .val (.int (2 : Int32)), .unset, .unset, .unset, .unset, .unset, .unset, .unset] [(.int (2 : Int32)), (.ref gr), (.int (2 : Int32)), (.ref nb8)])) (fun t k => st17 t (XS.iload X17.here hx rfl (hb hby d6_48) rfl k)) ?_
  obtain ⟨cl18, Ar18, q18, Sz18, Ng18, Hs18, Ft18⟩ := id V_gr
  have hin18 := inb_of (j := (2 : Int32)) Sz18 ⟨by decide, by decide⟩
  refine Goes.pre (U' := T17.setTop (mkF m 53 #[.val (.ref a), .val (.ref ve), .val (.double xq), .second, .val (.double xe), .second, .val (.ref nb1), .val (.ref nb8), .val (.int (2 : Int32)), .unset, .unset, .unset, .unset, .unset, .unset, .unset] [(.ref nb1), (.ref r2), (.int (2 : Int32)), (.ref nb8)])) (fun t k => X17.aaload hx (j := (2 : Int32)) (v := (.ref r2)) (by rw [e17]; exact Ar18.1) (State.isArrayOf_alike hZ.alike Ar18.2.1) rfl Ar18.2.2 hin18 (Has.at Hs18 hin18 rfl) (g := (mkF m 50 #[.val (.ref a), .val (.ref ve), .val (.double xq), .second, .val (.double xe), .second, .val (.ref nb1), .val (.ref nb8), .val (.int (2 : Int32)), .unset, .unset, .unset, .unset, .unset, .unset, .unset] [(.int (2 : Int32)), (.ref gr), (.int (2 : Int32)), (.ref nb8)])) rfl rfl (hb hby d6_50) _ (XS.aload X17.here hx rfl (hb hby d6_51) rfl rfl k)) ?_
  obtain ⟨_, _, ⟨T19, L19, k19, n19⟩, -, X19, ⟨Lc19, hQ19, l19, y19, z19⟩, st19⟩ := Jvm.LawKit.callS X17 hx (y := (⟨"com/example/corpo/corpo/orientation/GyroBias", "dot", "([D[D)D"⟩ : MethodName)) hown (mvT hZ (wq hw 62 rfl)) (mvT hZ (wq hw 63 rfl)) (mvT hZ (wq hw 2 rfl)) (mvT hZ (wq hw 64 rfl)) (by decide) (backOf (W := 2) (rm_dot l Z a0 hw [] r2 nb1 kr k1 (0 : UInt64) (0 : UInt64) xe (4607182418800017408 : UInt64) (4607182418800017408 : UInt64) (4607182418800017408 : UInt64) (0 : UInt64) (0 : UInt64) xe (0 : UInt64) xe h16 n0 Z16 V_r2 V_nb1 own_z1 own_z1 own_zz o1 o3) hZ (wq hw 64 rfl) (wq hw 2 rfl) (by decide) (by decide)) (g := (mkF m 53 #[.val (.ref a), .val (.ref ve), .val (.double xq), .second, .val (.double xe), .second, .val (.ref nb1), .val (.ref nb8), .val (.int (2 : Int32)), .unset, .unset, .unset, .unset, .unset, .unset, .unset] [(.ref nb1), (.ref r2), (.int (2 : Int32)), (.ref nb8)])) rfl (by rw [hml]; rfl) (argsL := [(.ref r2), (.ref nb1)]) (rest := [(.int (2 : Int32)), (.ref nb8)]) (lenOf pd__28_5bD_5bD_29D rfl) rfl (by show 2 * 0 + _ ≤ _; exact Nat.le_of_eq rfl) (hb hby d6_53) (fun _ _ => ⟨rfl, e17, (by decide : 2 + 0 ≤ _), (by decide : 6 + 0 ≤ _)⟩)
  dsimp only [Pt.U, Pt.locs, Pt.cells, Pt.slots] at X19 l19 y19 z19 st19 hQ19
  subst l19 y19 z19
  obtain ⟨rfl, N19q, HQ19⟩ := hQ19
  have N19 := Fr.app N16 N19q
  refine Goes.pre (U' := T19.setTop (mkF m 56 #[.val (.ref a), .val (.ref ve), .val (.double xq), .second, .val (.double xe), .second, .val (.ref nb1), .val (.ref nb8), .val (.int (2 : Int32)), .unset, .unset, .unset, .unset, .unset, .unset, .unset] [(.double xe), (.int (2 : Int32)), (.ref nb8)])) (fun t k => st19 t k) ?_
  obtain ⟨cl20, Ar20, q20, Sz20, Ng20, Hs20, Ft20⟩ := id V_nb8
  obtain ⟨T20, h20, X20, e20, W20, st20⟩ := stD X19 hx hZ HQ19 Ar20 (j := (2 : Int32)) (inb_of Sz20 ⟨by decide, by decide⟩) (g := (mkF m 56 #[.val (.ref a), .val (.ref ve), .val (.double xq), .second, .val (.double xe), .second, .val (.ref nb1), .val (.ref nb8), .val (.int (2 : Int32)), .unset, .unset, .unset, .unset, .unset, .unset, .unset] [(.double xe), (.int (2 : Int32)), (.ref nb8)])) rfl rfl (hb hby d6_56)
  have F_value_a := F_value_a.other W20 (Or.inl ne_a_nb8)
  have F_covariance_a := F_covariance_a.other W20 (Or.inl ne_a_nb8)
  have E_ve := E_ve.wr W20
  have V_va := V_va.other W20 ne_va_nb8
  have F_x_ve := F_x_ve.other W20 (Or.inl ne_ve_nb8)
  have F_y_ve := F_y_ve.other W20 (Or.inl ne_ve_nb8)
  have F_z_ve := F_z_ve.other W20 (Or.inl ne_ve_nb8)
  have V_gr := V_gr.other W20 ne_gr_nb8
  have V_r0 := V_r0.other W20 ne_r0_nb8
  have V_r1 := V_r1.other W20 ne_r1_nb8
  have V_r2 := V_r2.other W20 ne_r2_nb8
  have E_nb1 := E_nb1.wr W20
  have V_nb1 := V_nb1.other W20 ne_nb1_nb8
  have E_nb8 := E_nb8.wr W20
  have Z20 : n0 ≤ h20.size := Nat.le_trans Z16 (Keep.of_wr W20).1
  have V_nb8 : Arv Z h20 nb8 k8 .double (3 : Int32) [(.double xe), (.double xe), (.double xe)] (.double (0 : UInt64)) := Arv.set Ar20 q20 Sz20 Ng20 Hs20 Ft20 rfl W20 2 rfl (Nat.le_of_ble_eq_true rfl)
  have K20 := K16.wr W20 (Or.inr sz_nb8)
  have N20 := Fr.snoc X20 N19 g_nb8
  refine Goes.pre (U' := T20.setTop (mkF m 60 #[.val (.ref a), .val (.ref ve), .val (.double xq), .second, .val (.double xe), .second, .val (.ref nb1), .val (.ref nb8), .val (.int ((2 : Int32) + (1 : Int32))), .unset, .unset, .unset, .unset, .unset, .unset, .unset] [])) (fun t k => st20 t (XT.iincV X20.here hx rfl (1 : Int32) (hb hby d6_57) (by decide) rfl (l' := #[.val (.ref a), .val (.ref ve), .val (.double xq), .second, .val (.double xe), .second, .val (.ref nb1), .val (.ref nb8), .val (.int ((2 : Int32) + (1 : Int32))), .unset, .unset, .unset, .unset, .unset, .unset, .unset]) rfl k)) ?_
  rw [(by decide : ((2 : Int32) + (1 : Int32)) = (3 : Int32))]
  refine Goes.pre (U' := T20.setTop (mkF m 37 #[.val (.ref a), .val (.ref ve), .val (.double xq), .second, .val (.double xe), .second, .val (.ref nb1), .val (.ref nb8), .val (.int (3 : Int32)), .unset, .unset, .unset, .unset, .unset, .unset, .unset] [(.int (3 : Int32)), (.int (3 : Int32))])) (fun t k => XS.goto X20.here hx rfl (pc0 := 60) (pc' := 34) rfl (hb hby d6_60) (by decide) (by decide) (XS.iload X20.here hx rfl (hb hby d6_34) rfl (XS.iconst X20.here hx rfl (hb hby d6_36) k))) ?_
  have hc37 : ¬ ((3 : Int32) < (3 : Int32)) := by decide
  refine Goes.pre (U' := T20.setTop (mkF m 67 #[.val (.ref a), .val (.ref ve), .val (.double xq), .second, .val (.double xe), .second, .val (.ref nb1), .val (.ref nb8), .val (.int (3 : Int32)), .unset, .unset, .unset, .unset, .unset, .unset, .unset] [(.ref nb8), (.ref nb1)])) (fun t k => XS.icmpYes X20.here hx rfl (pc0 := 37) (pc' := 63) rfl (hb hby d6_37) rfl (flt hc37).2.1 (by decide) (by decide) (XS.aload X20.here hx rfl (hb hby d6_63) rfl rfl (XS.aload X20.here hx rfl (hb hby d6_65) rfl rfl k))) ?_
  obtain ⟨_, _, ⟨T21, L21, k21, n21⟩, -, X21, ⟨Lc21, hQ21, l21, y21, z21⟩, st21⟩ := Jvm.LawKit.callS X20 hx (y := (⟨"com/example/corpo/corpo/orientation/GyroBias", "dot", "([D[D)D"⟩ : MethodName)) hown (mvT hZ (wq hw 62 rfl)) (mvT hZ (wq hw 63 rfl)) (mvT hZ (wq hw 2 rfl)) (mvT hZ (wq hw 64 rfl)) (by decide) (backOf (W := 0) (rm_dot l Z a0 hw [] nb1 nb8 k1 k8 (4607182418800017408 : UInt64) (4607182418800017408 : UInt64) (4607182418800017408 : UInt64) xe xe xe xe xe xe za zb h20 n0 Z20 V_nb1 V_nb8 o4 o4 o5 o4 o6) hZ (wq hw 64 rfl) (wq hw 2 rfl) (by decide) (by decide)) (g := (mkF m 67 #[.val (.ref a), .val (.ref ve), .val (.double xq), .second, .val (.double xe), .second, .val (.ref nb1), .val (.ref nb8), .val (.int (3 : Int32)), .unset, .unset, .unset, .unset, .unset, .unset, .unset] [(.ref nb8), (.ref nb1)])) rfl (by rw [hml]; rfl) (argsL := [(.ref nb1), (.ref nb8)]) (rest := []) (lenOf pd__28_5bD_5bD_29D rfl) rfl (by show 2 * 0 + _ ≤ _; exact Nat.le_of_eq rfl) (hb hby d6_67) (fun _ _ => ⟨rfl, e20, (by decide : 2 + 0 ≤ _), (by decide : 6 + 0 ≤ _)⟩)
  dsimp only [Pt.U, Pt.locs, Pt.cells, Pt.slots] at X21 l21 y21 z21 st21 hQ21
  subst l21 y21 z21
  obtain ⟨rfl, N21q, HQ21⟩ := hQ21
  have N21 := Fr.app N20 N21q
  refine Goes.pre (U' := T21.setTop (mkF m 79 #[.val (.ref a), .val (.ref ve), .val (.double xq), .second, .val (.double xe), .second, .val (.ref nb1), .val (.ref nb8), .val (.double zc), .second, .unset, .unset, .unset, .unset, .unset, .unset] [(.ref a), (.ref nb1), (.double xq)])) (fun t k => st21 t (XS.dload X21.here hx rfl (hb hby d6_70) rfl (XS.daddS X21.here hx rfl (v := zc) (hb hby d6_72) rfl o7.2 o7.1 (XS.dstore X21.here hx rfl (hb hby d6_73) rfl (l' := #[.val (.ref a), .val (.ref ve), .val (.double xq), .second, .val (.double xe), .second, .val (.ref nb1), .val (.ref nb8), .val (.double zc), .second, .unset, .unset, .unset, .unset, .unset, .unset]) rfl (XS.dloadN X21.here hx rfl (hb hby d6_75) rfl (XS.aload X21.here hx rfl (hb hby d6_76) rfl rfl (XS.aloadN X21.here hx rfl (hb hby d6_78) rfl rfl k))))))) ?_
  obtain ⟨T22, X22, e22, st22⟩ := getF X21 hx hZ hown (host := "") (Or.inl (wq hw 10 rfl)) Via.refl HQ21 F_value_a (g := (mkF m 79 #[.val (.ref a), .val (.ref ve), .val (.double xq), .second, .val (.double xe), .second, .val (.ref nb1), .val (.ref nb8), .val (.double zc), .second, .unset, .unset, .unset, .unset, .unset, .unset] [(.ref a), (.ref nb1), (.double xq)])) rfl rfl (hb hby d6_79)
  refine Goes.pre (U' := T22.setTop (mkF m 82 #[.val (.ref a), .val (.ref ve), .val (.double xq), .second, .val (.double xe), .second, .val (.ref nb1), .val (.ref nb8), .val (.double zc), .second, .unset, .unset, .unset, .unset, .unset, .unset] [(.ref va), (.ref nb1), (.double xq)])) (fun t k => st22 t k) ?_
  obtain ⟨_, _, ⟨T23, L23, k23, n23⟩, -, X23, ⟨Lc23, hQ23, l23, y23, z23⟩, st23⟩ := Jvm.LawKit.callS X22 hx (y := (⟨"com/example/corpo/corpo/orientation/GyroBias", "dot", "([D[D)D"⟩ : MethodName)) hown (mvT hZ (wq hw 62 rfl)) (mvT hZ (wq hw 63 rfl)) (mvT hZ (wq hw 2 rfl)) (mvT hZ (wq hw 64 rfl)) (by decide) (backOf (W := 2) (rm_dot l Z a0 hw [] nb1 va k1 kv (4607182418800017408 : UInt64) (4607182418800017408 : UInt64) (4607182418800017408 : UInt64) (0 : UInt64) (0 : UInt64) (0 : UInt64) (0 : UInt64) (0 : UInt64) (0 : UInt64) (0 : UInt64) (0 : UInt64) h20 n0 Z20 V_nb1 V_va own_1z own_1z own_zz own_1z own_zz) hZ (wq hw 64 rfl) (wq hw 2 rfl) (by decide) (by decide)) (g := (mkF m 82 #[.val (.ref a), .val (.ref ve), .val (.double xq), .second, .val (.double xe), .second, .val (.ref nb1), .val (.ref nb8), .val (.double zc), .second, .unset, .unset, .unset, .unset, .unset, .unset] [(.ref va), (.ref nb1), (.double xq)])) rfl (by rw [hml]; rfl) (argsL := [(.ref nb1), (.ref va)]) (rest := [(.double xq)]) (lenOf pd__28_5bD_5bD_29D rfl) rfl (by show 2 * 0 + _ ≤ _; exact Nat.le_of_eq rfl) (hb hby d6_82) (fun _ _ => ⟨rfl, e22, (by decide : 2 + 0 ≤ _), (by decide : 6 + 0 ≤ _)⟩)
  dsimp only [Pt.U, Pt.locs, Pt.cells, Pt.slots] at X23 l23 y23 z23 st23 hQ23
  subst l23 y23 z23
  obtain ⟨rfl, N23q, HQ23⟩ := hQ23
  have N23 := Fr.app N21 N23q
  refine Goes.pre (U' := T23.setTop (mkF m 94 #[.val (.ref a), .val (.ref ve), .val (.double xq), .second, .val (.double xe), .second, .val (.ref nb1), .val (.ref nb8), .val (.double zc), .second, .val (.double xq), .second, .val (.int (0 : Int32)), .unset, .unset, .unset] [(.int (3 : Int32)), (.int (0 : Int32))])) (fun t k => st23 t (XS.dsubS X23.here hx rfl (v := xq) (hb hby d6_85) rfl i1.2 i1.1 (XS.dstore X23.here hx rfl (hb hby d6_86) rfl (l' := #[.val (.ref a), .val (.ref ve), .val (.double xq), .second, .val (.double xe), .second, .val (.ref nb1), .val (.ref nb8), .val (.double zc), .second, .val (.double xq), .second, .unset, .unset, .unset, .unset]) rfl (XS.iconst X23.here hx rfl (hb hby d6_88) (XS.istore X23.here hx rfl (hb hby d6_89) rfl (l' := #[.val (.ref a), .val (.ref ve), .val (.double xq), .second, .val (.double xe), .second, .val (.ref nb1), .val (.ref nb8), .val (.double zc), .second, .val (.double xq), .second, .val (.int (0 : Int32)), .unset, .unset, .unset]) rfl (XS.iload X23.here hx rfl (hb hby d6_91) rfl (XS.iconst X23.here hx rfl (hb hby d6_93) k))))))) ?_
  have hc94 : (0 : Int32) < (3 : Int32) := by decide
  refine Goes.pre (U' := T23.setTop (mkF m 101 #[.val (.ref a), .val (.ref ve), .val (.double xq), .second, .val (.double xe), .second, .val (.ref nb1), .val (.ref nb8), .val (.double zc), .second, .val (.double xq), .second, .val (.int (0 : Int32)), .unset, .unset, .unset] [(.int (0 : Int32)), (.ref nb8)])) (fun t k => XS.icmpNo X23.here hx rfl (hb hby d6_94) rfl (tlt hc94).2.1 (XS.aload X23.here hx rfl (hb hby d6_97) rfl rfl (XS.iload X23.here hx rfl (hb hby d6_99) rfl k))) ?_
  obtain ⟨cl24, Ar24, q24, Sz24, Ng24, Hs24, Ft24⟩ := id V_nb8
  have hin24 := inb_of (j := (0 : Int32)) Sz24 ⟨by decide, by decide⟩
  refine Goes.pre (U' := T23.setTop (mkF m 108 #[.val (.ref a), .val (.ref ve), .val (.double xq), .second, .val (.double xe), .second, .val (.ref nb1), .val (.ref nb8), .val (.double zc), .second, .val (.double xq), .second, .val (.int (0 : Int32)), .val (.double (4598175219545276416 : UInt64)), .second, .unset] [(.ref a)])) (fun t k => X23.daload hx (j := (0 : Int32)) (v := (.double xe)) (by rw [HQ23]; exact Ar24.1) (State.isArrayOf_alike hZ.alike Ar24.2.1) Ar24.2.2 hin24 (Has.at Hs24 hin24 rfl) (g := (mkF m 101 #[.val (.ref a), .val (.ref ve), .val (.double xq), .second, .val (.double xe), .second, .val (.ref nb1), .val (.ref nb8), .val (.double zc), .second, .val (.double xq), .second, .val (.int (0 : Int32)), .unset, .unset, .unset] [(.int (0 : Int32)), (.ref nb8)])) rfl rfl (hb hby d6_101) _ (XS.dload X23.here hx rfl (hb hby d6_102) rfl (XS.ddivS X23.here hx rfl (v := (4598175219545276416 : UInt64)) (hb hby d6_104) rfl o8.2 o8.1 (XS.dstore X23.here hx rfl (hb hby d6_105) rfl (l' := #[.val (.ref a), .val (.ref ve), .val (.double xq), .second, .val (.double xe), .second, .val (.ref nb1), .val (.ref nb8), .val (.double zc), .second, .val (.double xq), .second, .val (.int (0 : Int32)), .val (.double (4598175219545276416 : UInt64)), .second, .unset]) rfl (XS.aloadN X23.here hx rfl (hb hby d6_107) rfl rfl k))))) ?_
  obtain ⟨T25, X25, e25, st25⟩ := getF X23 hx hZ hown (host := "") (Or.inl (wq hw 10 rfl)) Via.refl HQ23 F_value_a (g := (mkF m 108 #[.val (.ref a), .val (.ref ve), .val (.double xq), .second, .val (.double xe), .second, .val (.ref nb1), .val (.ref nb8), .val (.double zc), .second, .val (.double xq), .second, .val (.int (0 : Int32)), .val (.double (4598175219545276416 : UInt64)), .second, .unset] [(.ref a)])) rfl rfl (hb hby d6_108)
  refine Goes.pre (U' := T25.setTop (mkF m 114 #[.val (.ref a), .val (.ref ve), .val (.double xq), .second, .val (.double xe), .second, .val (.ref nb1), .val (.ref nb8), .val (.double zc), .second, .val (.double xq), .second, .val (.int (0 : Int32)), .val (.double (4598175219545276416 : UInt64)), .second, .unset] [(.int (0 : Int32)), (.ref va), (.int (0 : Int32)), (.ref va)])) (fun t k => st25 t (XS.iload X25.here hx rfl (hb hby d6_111) rfl (XT.dup2 X25.here hx rfl (hb hby d6_113) rfl rfl rfl k))) ?_
  obtain ⟨cl26, Ar26, q26, Sz26, Ng26, Hs26, Ft26⟩ := id V_va
  have hin26 := inb_of (j := (0 : Int32)) Sz26 ⟨by decide, by decide⟩
  refine Goes.pre (U' := T25.setTop (mkF m 121 #[.val (.ref a), .val (.ref ve), .val (.double xq), .second, .val (.double xe), .second, .val (.ref nb1), .val (.ref nb8), .val (.double zc), .second, .val (.double xq), .second, .val (.int (0 : Int32)), .val (.double (4598175219545276416 : UInt64)), .second, .unset] [(.double mm), (.int (0 : Int32)), (.ref va)])) (fun t k => X25.daload hx (j := (0 : Int32)) (v := (.double (0 : UInt64))) (by rw [e25]; exact Ar26.1) (State.isArrayOf_alike hZ.alike Ar26.2.1) Ar26.2.2 hin26 (Has.at Hs26 hin26 rfl) (g := (mkF m 114 #[.val (.ref a), .val (.ref ve), .val (.double xq), .second, .val (.double xe), .second, .val (.ref nb1), .val (.ref nb8), .val (.double zc), .second, .val (.double xq), .second, .val (.int (0 : Int32)), .val (.double (4598175219545276416 : UInt64)), .second, .unset] [(.int (0 : Int32)), (.ref va), (.int (0 : Int32)), (.ref va)])) rfl rfl (hb hby d6_114) _ (XS.dload X25.here hx rfl (hb hby d6_115) rfl (XS.dload X25.here hx rfl (hb hby d6_117) rfl (XS.dmulS X25.here hx rfl (v := mm) (hb hby d6_119) rfl i2.2 i2.1 (XS.daddS X25.here hx rfl (v := mm) (hb hby d6_120) rfl i3.2 i3.1 k))))) ?_
  obtain ⟨cl27, Ar27, q27, Sz27, Ng27, Hs27, Ft27⟩ := id V_va
  obtain ⟨T27, h27, X27, e27, W27, st27⟩ := stD X25 hx hZ e25 Ar27 (j := (0 : Int32)) (inb_of Sz27 ⟨by decide, by decide⟩) (g := (mkF m 121 #[.val (.ref a), .val (.ref ve), .val (.double xq), .second, .val (.double xe), .second, .val (.ref nb1), .val (.ref nb8), .val (.double zc), .second, .val (.double xq), .second, .val (.int (0 : Int32)), .val (.double (4598175219545276416 : UInt64)), .second, .unset] [(.double mm), (.int (0 : Int32)), (.ref va)])) rfl rfl (hb hby d6_121)
  have F_value_a := F_value_a.other W27 (Or.inl ne_a_va)
  have F_covariance_a := F_covariance_a.other W27 (Or.inl ne_a_va)
  have E_ve := E_ve.wr W27
  have F_x_ve := F_x_ve.other W27 (Or.inl ne_ve_va)
  have F_y_ve := F_y_ve.other W27 (Or.inl ne_ve_va)
  have F_z_ve := F_z_ve.other W27 (Or.inl ne_ve_va)
  have V_gr := V_gr.other W27 ne_gr_va
  have V_r0 := V_r0.other W27 ne_r0_va
  have V_r1 := V_r1.other W27 ne_r1_va
  have V_r2 := V_r2.other W27 ne_r2_va
  have E_nb1 := E_nb1.wr W27
  have V_nb1 := V_nb1.other W27 ne_nb1_va
  have E_nb8 := E_nb8.wr W27
  have V_nb8 := V_nb8.other W27 ne_nb8_va
  have Z27 : n0 ≤ h27.size := Nat.le_trans Z20 (Keep.of_wr W27).1
  have V_va : Arv Z h27 va kv .double (3 : Int32) [(.double mm), (.double (0 : UInt64)), (.double (0 : UInt64))] (.double (0 : UInt64)) := Arv.set Ar27 q27 Sz27 Ng27 Hs27 Ft27 rfl W27 0 rfl (Nat.le_of_ble_eq_true rfl)
  have K27 := K20.wr W27 (Or.inl (List.mem_of_getElem? (i := 0) rfl))
  have N27 := Fr.snoc X27 N23 g_va
  refine Goes.pre (U' := T27.setTop (mkF m 128 #[.val (.ref a), .val (.ref ve), .val (.double xq), .second, .val (.double xe), .second, .val (.ref nb1), .val (.ref nb8), .val (.double zc), .second, .val (.double xq), .second, .val (.int (0 : Int32)), .val (.double (4598175219545276416 : UInt64)), .second, .val (.int (0 : Int32))] [(.int (3 : Int32)), (.int (0 : Int32))])) (fun t k => st27 t (XS.iconst X27.here hx rfl (hb hby d6_122) (XS.istore X27.here hx rfl (hb hby d6_123) rfl (l' := #[.val (.ref a), .val (.ref ve), .val (.double xq), .second, .val (.double xe), .second, .val (.ref nb1), .val (.ref nb8), .val (.double zc), .second, .val (.double xq), .second, .val (.int (0 : Int32)), .val (.double (4598175219545276416 : UInt64)), .second, .val (.int (0 : Int32))]) rfl (XS.iload X27.here hx rfl (hb hby d6_125) rfl (XS.iconst X27.here hx rfl (hb hby d6_127) k))))) ?_
  have hc128 : (0 : Int32) < (3 : Int32) := by decide
  refine Goes.pre (U' := T27.setTop (mkF m 132 #[.val (.ref a), .val (.ref ve), .val (.double xq), .second, .val (.double xe), .second, .val (.ref nb1), .val (.ref nb8), .val (.double zc), .second, .val (.double xq), .second, .val (.int (0 : Int32)), .val (.double (4598175219545276416 : UInt64)), .second, .val (.int (0 : Int32))] [(.ref a)])) (fun t k => XS.icmpNo X27.here hx rfl (hb hby d6_128) rfl (tlt hc128).2.1 (XS.aloadN X27.here hx rfl (hb hby d6_131) rfl rfl k)) ?_
  obtain ⟨T28, X28, e28, st28⟩ := getF X27 hx hZ hown (host := "") (Or.inl (wq hw 14 rfl)) Via.refl e27 F_covariance_a (g := (mkF m 132 #[.val (.ref a), .val (.ref ve), .val (.double xq), .second, .val (.double xe), .second, .val (.ref nb1), .val (.ref nb8), .val (.double zc), .second, .val (.double xq), .second, .val (.int (0 : Int32)), .val (.double (4598175219545276416 : UInt64)), .second, .val (.int (0 : Int32))] [(.ref a)])) rfl rfl (hb hby d6_132)
  refine Goes.pre (U' := T28.setTop (mkF m 137 #[.val (.ref a), .val (.ref ve), .val (.double xq), .second, .val (.double xe), .second, .val (.ref nb1), .val (.ref nb8), .val (.double zc), .second, .val (.double xq), .second, .val (.int (0 : Int32)), .val (.double (4598175219545276416 : UInt64)), .second, .val (.int (0 : Int32))] [(.int (0 : Int32)), (.ref gr)])) (fun t k => st28 t (XS.iload X28.here hx rfl (hb hby d6_135) rfl k)) ?_
  obtain ⟨cl29, Ar29, q29, Sz29, Ng29, Hs29, Ft29⟩ := id V_gr
  have hin29 := inb_of (j := (0 : Int32)) Sz29 ⟨by decide, by decide⟩
  refine Goes.pre (U' := T28.setTop (mkF m 141 #[.val (.ref a), .val (.ref ve), .val (.double xq), .second, .val (.double xe), .second, .val (.ref nb1), .val (.ref nb8), .val (.double zc), .second, .val (.double xq), .second, .val (.int (0 : Int32)), .val (.double (4598175219545276416 : UInt64)), .second, .val (.int (0 : Int32))] [(.int (0 : Int32)), (.ref r0), (.int (0 : Int32)), (.ref r0)])) (fun t k => X28.aaload hx (j := (0 : Int32)) (v := (.ref r0)) (by rw [e28]; exact Ar29.1) (State.isArrayOf_alike hZ.alike Ar29.2.1) rfl Ar29.2.2 hin29 (Has.at Hs29 hin29 rfl) (g := (mkF m 137 #[.val (.ref a), .val (.ref ve), .val (.double xq), .second, .val (.double xe), .second, .val (.ref nb1), .val (.ref nb8), .val (.double zc), .second, .val (.double xq), .second, .val (.int (0 : Int32)), .val (.double (4598175219545276416 : UInt64)), .second, .val (.int (0 : Int32))] [(.int (0 : Int32)), (.ref gr)])) rfl rfl (hb hby d6_137) _ (XS.iload X28.here hx rfl (hb hby d6_138) rfl (XT.dup2 X28.here hx rfl (hb hby d6_140) rfl rfl rfl k))) ?_
  obtain ⟨cl30, Ar30, q30, Sz30, Ng30, Hs30, Ft30⟩ := id V_r0
  have hin30 := inb_of (j := (0 : Int32)) Sz30 ⟨by decide, by decide⟩
  refine Goes.pre (U' := T28.setTop (mkF m 148 #[.val (.ref a), .val (.ref ve), .val (.double xq), .second, .val (.double xe), .second, .val (.ref nb1), .val (.ref nb8), .val (.double zc), .second, .val (.double xq), .second, .val (.int (0 : Int32)), .val (.double (4598175219545276416 : UInt64)), .second, .val (.int (0 : Int32))] [(.int (0 : Int32)), (.ref nb8), (.double (4598175219545276416 : UInt64)), (.double xe), (.int (0 : Int32)), (.ref r0)])) (fun t k => X28.daload hx (j := (0 : Int32)) (v := (.double xe)) (by rw [e28]; exact Ar30.1) (State.isArrayOf_alike hZ.alike Ar30.2.1) Ar30.2.2 hin30 (Has.at Hs30 hin30 rfl) (g := (mkF m 141 #[.val (.ref a), .val (.ref ve), .val (.double xq), .second, .val (.double xe), .second, .val (.ref nb1), .val (.ref nb8), .val (.double zc), .second, .val (.double xq), .second, .val (.int (0 : Int32)), .val (.double (4598175219545276416 : UInt64)), .second, .val (.int (0 : Int32))] [(.int (0 : Int32)), (.ref r0), (.int (0 : Int32)), (.ref r0)])) rfl rfl (hb hby d6_141) _ (XS.dload X28.here hx rfl (hb hby d6_142) rfl (XS.aload X28.here hx rfl (hb hby d6_144) rfl rfl (XS.iload X28.here hx rfl (hb hby d6_146) rfl k)))) ?_
  obtain ⟨cl31, Ar31, q31, Sz31, Ng31, Hs31, Ft31⟩ := id V_nb8
  have hin31 := inb_of (j := (0 : Int32)) Sz31 ⟨by decide, by decide⟩
  refine Goes.pre (U' := T28.setTop (mkF m 151 #[.val (.ref a), .val (.ref ve), .val (.double xq), .second, .val (.double xe), .second, .val (.ref nb1), .val (.ref nb8), .val (.double zc), .second, .val (.double xq), .second, .val (.int (0 : Int32)), .val (.double (4598175219545276416 : UInt64)), .second, .val (.int (0 : Int32))] [(.double zx), (.int (0 : Int32)), (.ref r0)])) (fun t k => X28.daload hx (j := (0 : Int32)) (v := (.double xe)) (by rw [e28]; exact Ar31.1) (State.isArrayOf_alike hZ.alike Ar31.2.1) Ar31.2.2 hin31 (Has.at Hs31 hin31 rfl) (g := (mkF m 148 #[.val (.ref a), .val (.ref ve), .val (.double xq), .second, .val (.double xe), .second, .val (.ref nb1), .val (.ref nb8), .val (.double zc), .second, .val (.double xq), .second, .val (.int (0 : Int32)), .val (.double (4598175219545276416 : UInt64)), .second, .val (.int (0 : Int32))] [(.int (0 : Int32)), (.ref nb8), (.double (4598175219545276416 : UInt64)), (.double xe), (.int (0 : Int32)), (.ref r0)])) rfl rfl (hb hby d6_148) _ (XS.dmulS X28.here hx rfl (v := zq) (hb hby d6_149) rfl o9.2 o9.1 (XS.dsubS X28.here hx rfl (v := zx) (hb hby d6_150) rfl o10.2 o10.1 k))) ?_
  obtain ⟨cl32, Ar32, q32, Sz32, Ng32, Hs32, Ft32⟩ := id V_r0
  obtain ⟨T32, h32, X32, e32, W32, st32⟩ := stD X28 hx hZ e28 Ar32 (j := (0 : Int32)) (inb_of Sz32 ⟨by decide, by decide⟩) (g := (mkF m 151 #[.val (.ref a), .val (.ref ve), .val (.double xq), .second, .val (.double xe), .second, .val (.ref nb1), .val (.ref nb8), .val (.double zc), .second, .val (.double xq), .second, .val (.int (0 : Int32)), .val (.double (4598175219545276416 : UInt64)), .second, .val (.int (0 : Int32))] [(.double zx), (.int (0 : Int32)), (.ref r0)])) rfl rfl (hb hby d6_151)
  have F_value_a := F_value_a.other W32 (Or.inl ne_a_r0)
  have F_covariance_a := F_covariance_a.other W32 (Or.inl ne_a_r0)
  have E_ve := E_ve.wr W32
  have V_va := V_va.other W32 ne_va_r0
  have F_x_ve := F_x_ve.other W32 (Or.inl ne_ve_r0)
  have F_y_ve := F_y_ve.other W32 (Or.inl ne_ve_r0)
  have F_z_ve := F_z_ve.other W32 (Or.inl ne_ve_r0)
  have V_gr := V_gr.other W32 ne_gr_r0
  have V_r1 := V_r1.other W32 ne_r1_r0
  have V_r2 := V_r2.other W32 ne_r2_r0
  have E_nb1 := E_nb1.wr W32
  have V_nb1 := V_nb1.other W32 ne_nb1_r0
  have E_nb8 := E_nb8.wr W32
  have V_nb8 := V_nb8.other W32 ne_nb8_r0
  have Z32 : n0 ≤ h32.size := Nat.le_trans Z27 (Keep.of_wr W32).1
  have V_r0 : Arv Z h32 r0 kr .double (3 : Int32) [(.double zx), (.double (0 : UInt64)), (.double (0 : UInt64))] (.double (0 : UInt64)) := Arv.set Ar32 q32 Sz32 Ng32 Hs32 Ft32 rfl W32 0 rfl (Nat.le_of_ble_eq_true rfl)
  have K32 := K27.wr W32 (Or.inl (List.mem_of_getElem? (i := 1) rfl))
  have N32 := Fr.snoc X32 N27 g_r0
  refine Goes.pre (U' := T32.setTop (mkF m 155 #[.val (.ref a), .val (.ref ve), .val (.double xq), .second, .val (.double xe), .second, .val (.ref nb1), .val (.ref nb8), .val (.double zc), .second, .val (.double xq), .second, .val (.int (0 : Int32)), .val (.double (4598175219545276416 : UInt64)), .second, .val (.int ((0 : Int32) + (1 : Int32)))] [])) (fun t k => st32 t (XT.iincV X32.here hx rfl (1 : Int32) (hb hby d6_152) (by decide) rfl (l' := #[.val (.ref a), .val (.ref ve), .val (.double xq), .second, .val (.double xe), .second, .val (.ref nb1), .val (.ref nb8), .val (.double zc), .second, .val (.double xq), .second, .val (.int (0 : Int32)), .val (.double (4598175219545276416 : UInt64)), .second, .val (.int ((0 : Int32) + (1 : Int32)))]) rfl k)) ?_
  rw [(by decide : ((0 : Int32) + (1 : Int32)) = (1 : Int32))]
  refine Goes.pre (U' := T32.setTop (mkF m 128 #[.val (.ref a), .val (.ref ve), .val (.double xq), .second, .val (.double xe), .second, .val (.ref nb1), .val (.ref nb8), .val (.double zc), .second, .val (.double xq), .second, .val (.int (0 : Int32)), .val (.double (4598175219545276416 : UInt64)), .second, .val (.int (1 : Int32))] [(.int (3 : Int32)), (.int (1 : Int32))])) (fun t k => XS.goto X32.here hx rfl (pc0 := 155) (pc' := 125) rfl (hb hby d6_155) (by decide) (by decide) (XS.iload X32.here hx rfl (hb hby d6_125) rfl (XS.iconst X32.here hx rfl (hb hby d6_127) k))) ?_
  have hc128 : (1 : Int32) < (3 : Int32) := by decide
  refine Goes.pre (U' := T32.setTop (mkF m 132 #[.val (.ref a), .val (.ref ve), .val (.double xq), .second, .val (.double xe), .second, .val (.ref nb1), .val (.ref nb8), .val (.double zc), .second, .val (.double xq), .second, .val (.int (0 : Int32)), .val (.double (4598175219545276416 : UInt64)), .second, .val (.int (1 : Int32))] [(.ref a)])) (fun t k => XS.icmpNo X32.here hx rfl (hb hby d6_128) rfl (tlt hc128).2.1 (XS.aloadN X32.here hx rfl (hb hby d6_131) rfl rfl k)) ?_
  obtain ⟨T33, X33, e33, st33⟩ := getF X32 hx hZ hown (host := "") (Or.inl (wq hw 14 rfl)) Via.refl e32 F_covariance_a (g := (mkF m 132 #[.val (.ref a), .val (.ref ve), .val (.double xq), .second, .val (.double xe), .second, .val (.ref nb1), .val (.ref nb8), .val (.double zc), .second, .val (.double xq), .second, .val (.int (0 : Int32)), .val (.double (4598175219545276416 : UInt64)), .second, .val (.int (1 : Int32))] [(.ref a)])) rfl rfl (hb hby d6_132)
  refine Goes.pre (U' := T33.setTop (mkF m 137 #[.val (.ref a), .val (.ref ve), .val (.double xq), .second, .val (.double xe), .second, .val (.ref nb1), .val (.ref nb8), .val (.double zc), .second, .val (.double xq), .second, .val (.int (0 : Int32)), .val (.double (4598175219545276416 : UInt64)), .second, .val (.int (1 : Int32))] [(.int (0 : Int32)), (.ref gr)])) (fun t k => st33 t (XS.iload X33.here hx rfl (hb hby d6_135) rfl k)) ?_
  obtain ⟨cl34, Ar34, q34, Sz34, Ng34, Hs34, Ft34⟩ := id V_gr
  have hin34 := inb_of (j := (0 : Int32)) Sz34 ⟨by decide, by decide⟩
  refine Goes.pre (U' := T33.setTop (mkF m 141 #[.val (.ref a), .val (.ref ve), .val (.double xq), .second, .val (.double xe), .second, .val (.ref nb1), .val (.ref nb8), .val (.double zc), .second, .val (.double xq), .second, .val (.int (0 : Int32)), .val (.double (4598175219545276416 : UInt64)), .second, .val (.int (1 : Int32))] [(.int (1 : Int32)), (.ref r0), (.int (1 : Int32)), (.ref r0)])) (fun t k => X33.aaload hx (j := (0 : Int32)) (v := (.ref r0)) (by rw [e33]; exact Ar34.1) (State.isArrayOf_alike hZ.alike Ar34.2.1) rfl Ar34.2.2 hin34 (Has.at Hs34 hin34 rfl) (g := (mkF m 137 #[.val (.ref a), .val (.ref ve), .val (.double xq), .second, .val (.double xe), .second, .val (.ref nb1), .val (.ref nb8), .val (.double zc), .second, .val (.double xq), .second, .val (.int (0 : Int32)), .val (.double (4598175219545276416 : UInt64)), .second, .val (.int (1 : Int32))] [(.int (0 : Int32)), (.ref gr)])) rfl rfl (hb hby d6_137) _ (XS.iload X33.here hx rfl (hb hby d6_138) rfl (XT.dup2 X33.here hx rfl (hb hby d6_140) rfl rfl rfl k))) ?_
  obtain ⟨cl35, Ar35, q35, Sz35, Ng35, Hs35, Ft35⟩ := id V_r0
  have hin35 := inb_of (j := (1 : Int32)) Sz35 ⟨by decide, by decide⟩
  refine Goes.pre (U' := T33.setTop (mkF m 148 #[.val (.ref a), .val (.ref ve), .val (.double xq), .second, .val (.double xe), .second, .val (.ref nb1), .val (.ref nb8), .val (.double zc), .second, .val (.double xq), .second, .val (.int (0 : Int32)), .val (.double (4598175219545276416 : UInt64)), .second, .val (.int (1 : Int32))] [(.int (1 : Int32)), (.ref nb8), (.double (4598175219545276416 : UInt64)), (.double (0 : UInt64)), (.int (1 : Int32)), (.ref r0)])) (fun t k => X33.daload hx (j := (1 : Int32)) (v := (.double (0 : UInt64))) (by rw [e33]; exact Ar35.1) (State.isArrayOf_alike hZ.alike Ar35.2.1) Ar35.2.2 hin35 (Has.at Hs35 hin35 rfl) (g := (mkF m 141 #[.val (.ref a), .val (.ref ve), .val (.double xq), .second, .val (.double xe), .second, .val (.ref nb1), .val (.ref nb8), .val (.double zc), .second, .val (.double xq), .second, .val (.int (0 : Int32)), .val (.double (4598175219545276416 : UInt64)), .second, .val (.int (1 : Int32))] [(.int (1 : Int32)), (.ref r0), (.int (1 : Int32)), (.ref r0)])) rfl rfl (hb hby d6_141) _ (XS.dload X33.here hx rfl (hb hby d6_142) rfl (XS.aload X33.here hx rfl (hb hby d6_144) rfl rfl (XS.iload X33.here hx rfl (hb hby d6_146) rfl k)))) ?_
  obtain ⟨cl36, Ar36, q36, Sz36, Ng36, Hs36, Ft36⟩ := id V_nb8
  have hin36 := inb_of (j := (1 : Int32)) Sz36 ⟨by decide, by decide⟩
  refine Goes.pre (U' := T33.setTop (mkF m 151 #[.val (.ref a), .val (.ref ve), .val (.double xq), .second, .val (.double xe), .second, .val (.ref nb1), .val (.ref nb8), .val (.double zc), .second, .val (.double xq), .second, .val (.int (0 : Int32)), .val (.double (4598175219545276416 : UInt64)), .second, .val (.int (1 : Int32))] [(.double zy), (.int (1 : Int32)), (.ref r0)])) (fun t k => X33.daload hx (j := (1 : Int32)) (v := (.double xe)) (by rw [e33]; exact Ar36.1) (State.isArrayOf_alike hZ.alike Ar36.2.1) Ar36.2.2 hin36 (Has.at Hs36 hin36 rfl) (g := (mkF m 148 #[.val (.ref a), .val (.ref ve), .val (.double xq), .second, .val (.double xe), .second, .val (.ref nb1), .val (.ref nb8), .val (.double zc), .second, .val (.double xq), .second, .val (.int (0 : Int32)), .val (.double (4598175219545276416 : UInt64)), .second, .val (.int (1 : Int32))] [(.int (1 : Int32)), (.ref nb8), (.double (4598175219545276416 : UInt64)), (.double (0 : UInt64)), (.int (1 : Int32)), (.ref r0)])) rfl rfl (hb hby d6_148) _ (XS.dmulS X33.here hx rfl (v := zq) (hb hby d6_149) rfl o9.2 o9.1 (XS.dsubS X33.here hx rfl (v := zy) (hb hby d6_150) rfl o11.2 o11.1 k))) ?_
  obtain ⟨cl37, Ar37, q37, Sz37, Ng37, Hs37, Ft37⟩ := id V_r0
  obtain ⟨T37, h37, X37, e37, W37, st37⟩ := stD X33 hx hZ e33 Ar37 (j := (1 : Int32)) (inb_of Sz37 ⟨by decide, by decide⟩) (g := (mkF m 151 #[.val (.ref a), .val (.ref ve), .val (.double xq), .second, .val (.double xe), .second, .val (.ref nb1), .val (.ref nb8), .val (.double zc), .second, .val (.double xq), .second, .val (.int (0 : Int32)), .val (.double (4598175219545276416 : UInt64)), .second, .val (.int (1 : Int32))] [(.double zy), (.int (1 : Int32)), (.ref r0)])) rfl rfl (hb hby d6_151)
  have F_value_a := F_value_a.other W37 (Or.inl ne_a_r0)
  have F_covariance_a := F_covariance_a.other W37 (Or.inl ne_a_r0)
  have E_ve := E_ve.wr W37
  have V_va := V_va.other W37 ne_va_r0
  have F_x_ve := F_x_ve.other W37 (Or.inl ne_ve_r0)
  have F_y_ve := F_y_ve.other W37 (Or.inl ne_ve_r0)
  have F_z_ve := F_z_ve.other W37 (Or.inl ne_ve_r0)
  have V_gr := V_gr.other W37 ne_gr_r0
  have V_r1 := V_r1.other W37 ne_r1_r0
  have V_r2 := V_r2.other W37 ne_r2_r0
  have E_nb1 := E_nb1.wr W37
  have V_nb1 := V_nb1.other W37 ne_nb1_r0
  have E_nb8 := E_nb8.wr W37
  have V_nb8 := V_nb8.other W37 ne_nb8_r0
  have Z37 : n0 ≤ h37.size := Nat.le_trans Z32 (Keep.of_wr W37).1
  have V_r0 : Arv Z h37 r0 kr .double (3 : Int32) [(.double zx), (.double zy), (.double (0 : UInt64))] (.double (0 : UInt64)) := Arv.set Ar37 q37 Sz37 Ng37 Hs37 Ft37 rfl W37 1 rfl (Nat.le_of_ble_eq_true rfl)
  have K37 := K32.wr W37 (Or.inl (List.mem_of_getElem? (i := 1) rfl))
  have N37 := Fr.snoc X37 N32 g_r0
  refine Goes.pre (U' := T37.setTop (mkF m 155 #[.val (.ref a), .val (.ref ve), .val (.double xq), .second, .val (.double xe), .second, .val (.ref nb1), .val (.ref nb8), .val (.double zc), .second, .val (.double xq), .second, .val (.int (0 : Int32)), .val (.double (4598175219545276416 : UInt64)), .second, .val (.int ((1 : Int32) + (1 : Int32)))] [])) (fun t k => st37 t (XT.iincV X37.here hx rfl (1 : Int32) (hb hby d6_152) (by decide) rfl (l' := #[.val (.ref a), .val (.ref ve), .val (.double xq), .second, .val (.double xe), .second, .val (.ref nb1), .val (.ref nb8), .val (.double zc), .second, .val (.double xq), .second, .val (.int (0 : Int32)), .val (.double (4598175219545276416 : UInt64)), .second, .val (.int ((1 : Int32) + (1 : Int32)))]) rfl k)) ?_
  rw [(by decide : ((1 : Int32) + (1 : Int32)) = (2 : Int32))]
  refine Goes.pre (U' := T37.setTop (mkF m 128 #[.val (.ref a), .val (.ref ve), .val (.double xq), .second, .val (.double xe), .second, .val (.ref nb1), .val (.ref nb8), .val (.double zc), .second, .val (.double xq), .second, .val (.int (0 : Int32)), .val (.double (4598175219545276416 : UInt64)), .second, .val (.int (2 : Int32))] [(.int (3 : Int32)), (.int (2 : Int32))])) (fun t k => XS.goto X37.here hx rfl (pc0 := 155) (pc' := 125) rfl (hb hby d6_155) (by decide) (by decide) (XS.iload X37.here hx rfl (hb hby d6_125) rfl (XS.iconst X37.here hx rfl (hb hby d6_127) k))) ?_
  have hc128 : (2 : Int32) < (3 : Int32) := by decide
  refine Goes.pre (U' := T37.setTop (mkF m 132 #[.val (.ref a), .val (.ref ve), .val (.double xq), .second, .val (.double xe), .second, .val (.ref nb1), .val (.ref nb8), .val (.double zc), .second, .val (.double xq), .second, .val (.int (0 : Int32)), .val (.double (4598175219545276416 : UInt64)), .second, .val (.int (2 : Int32))] [(.ref a)])) (fun t k => XS.icmpNo X37.here hx rfl (hb hby d6_128) rfl (tlt hc128).2.1 (XS.aloadN X37.here hx rfl (hb hby d6_131) rfl rfl k)) ?_
  obtain ⟨T38, X38, e38, st38⟩ := getF X37 hx hZ hown (host := "") (Or.inl (wq hw 14 rfl)) Via.refl e37 F_covariance_a (g := (mkF m 132 #[.val (.ref a), .val (.ref ve), .val (.double xq), .second, .val (.double xe), .second, .val (.ref nb1), .val (.ref nb8), .val (.double zc), .second, .val (.double xq), .second, .val (.int (0 : Int32)), .val (.double (4598175219545276416 : UInt64)), .second, .val (.int (2 : Int32))] [(.ref a)])) rfl rfl (hb hby d6_132)
  refine Goes.pre (U' := T38.setTop (mkF m 137 #[.val (.ref a), .val (.ref ve), .val (.double xq), .second, .val (.double xe), .second, .val (.ref nb1), .val (.ref nb8), .val (.double zc), .second, .val (.double xq), .second, .val (.int (0 : Int32)), .val (.double (4598175219545276416 : UInt64)), .second, .val (.int (2 : Int32))] [(.int (0 : Int32)), (.ref gr)])) (fun t k => st38 t (XS.iload X38.here hx rfl (hb hby d6_135) rfl k)) ?_
  obtain ⟨cl39, Ar39, q39, Sz39, Ng39, Hs39, Ft39⟩ := id V_gr
  have hin39 := inb_of (j := (0 : Int32)) Sz39 ⟨by decide, by decide⟩
  refine Goes.pre (U' := T38.setTop (mkF m 141 #[.val (.ref a), .val (.ref ve), .val (.double xq), .second, .val (.double xe), .second, .val (.ref nb1), .val (.ref nb8), .val (.double zc), .second, .val (.double xq), .second, .val (.int (0 : Int32)), .val (.double (4598175219545276416 : UInt64)), .second, .val (.int (2 : Int32))] [(.int (2 : Int32)), (.ref r0), (.int (2 : Int32)), (.ref r0)])) (fun t k => X38.aaload hx (j := (0 : Int32)) (v := (.ref r0)) (by rw [e38]; exact Ar39.1) (State.isArrayOf_alike hZ.alike Ar39.2.1) rfl Ar39.2.2 hin39 (Has.at Hs39 hin39 rfl) (g := (mkF m 137 #[.val (.ref a), .val (.ref ve), .val (.double xq), .second, .val (.double xe), .second, .val (.ref nb1), .val (.ref nb8), .val (.double zc), .second, .val (.double xq), .second, .val (.int (0 : Int32)), .val (.double (4598175219545276416 : UInt64)), .second, .val (.int (2 : Int32))] [(.int (0 : Int32)), (.ref gr)])) rfl rfl (hb hby d6_137) _ (XS.iload X38.here hx rfl (hb hby d6_138) rfl (XT.dup2 X38.here hx rfl (hb hby d6_140) rfl rfl rfl k))) ?_
  obtain ⟨cl40, Ar40, q40, Sz40, Ng40, Hs40, Ft40⟩ := id V_r0
  have hin40 := inb_of (j := (2 : Int32)) Sz40 ⟨by decide, by decide⟩
  refine Goes.pre (U' := T38.setTop (mkF m 148 #[.val (.ref a), .val (.ref ve), .val (.double xq), .second, .val (.double xe), .second, .val (.ref nb1), .val (.ref nb8), .val (.double zc), .second, .val (.double xq), .second, .val (.int (0 : Int32)), .val (.double (4598175219545276416 : UInt64)), .second, .val (.int (2 : Int32))] [(.int (2 : Int32)), (.ref nb8), (.double (4598175219545276416 : UInt64)), (.double (0 : UInt64)), (.int (2 : Int32)), (.ref r0)])) (fun t k => X38.daload hx (j := (2 : Int32)) (v := (.double (0 : UInt64))) (by rw [e38]; exact Ar40.1) (State.isArrayOf_alike hZ.alike Ar40.2.1) Ar40.2.2 hin40 (Has.at Hs40 hin40 rfl) (g := (mkF m 141 #[.val (.ref a), .val (.ref ve), .val (.double xq), .second, .val (.double xe), .second, .val (.ref nb1), .val (.ref nb8), .val (.double zc), .second, .val (.double xq), .second, .val (.int (0 : Int32)), .val (.double (4598175219545276416 : UInt64)), .second, .val (.int (2 : Int32))] [(.int (2 : Int32)), (.ref r0), (.int (2 : Int32)), (.ref r0)])) rfl rfl (hb hby d6_141) _ (XS.dload X38.here hx rfl (hb hby d6_142) rfl (XS.aload X38.here hx rfl (hb hby d6_144) rfl rfl (XS.iload X38.here hx rfl (hb hby d6_146) rfl k)))) ?_
  obtain ⟨cl41, Ar41, q41, Sz41, Ng41, Hs41, Ft41⟩ := id V_nb8
  have hin41 := inb_of (j := (2 : Int32)) Sz41 ⟨by decide, by decide⟩
  refine Goes.pre (U' := T38.setTop (mkF m 151 #[.val (.ref a), .val (.ref ve), .val (.double xq), .second, .val (.double xe), .second, .val (.ref nb1), .val (.ref nb8), .val (.double zc), .second, .val (.double xq), .second, .val (.int (0 : Int32)), .val (.double (4598175219545276416 : UInt64)), .second, .val (.int (2 : Int32))] [(.double zy), (.int (2 : Int32)), (.ref r0)])) (fun t k => X38.daload hx (j := (2 : Int32)) (v := (.double xe)) (by rw [e38]; exact Ar41.1) (State.isArrayOf_alike hZ.alike Ar41.2.1) Ar41.2.2 hin41 (Has.at Hs41 hin41 rfl) (g := (mkF m 148 #[.val (.ref a), .val (.ref ve), .val (.double xq), .second, .val (.double xe), .second, .val (.ref nb1), .val (.ref nb8), .val (.double zc), .second, .val (.double xq), .second, .val (.int (0 : Int32)), .val (.double (4598175219545276416 : UInt64)), .second, .val (.int (2 : Int32))] [(.int (2 : Int32)), (.ref nb8), (.double (4598175219545276416 : UInt64)), (.double (0 : UInt64)), (.int (2 : Int32)), (.ref r0)])) rfl rfl (hb hby d6_148) _ (XS.dmulS X38.here hx rfl (v := zq) (hb hby d6_149) rfl o9.2 o9.1 (XS.dsubS X38.here hx rfl (v := zy) (hb hby d6_150) rfl o11.2 o11.1 k))) ?_
  obtain ⟨cl42, Ar42, q42, Sz42, Ng42, Hs42, Ft42⟩ := id V_r0
  obtain ⟨T42, h42, X42, e42, W42, st42⟩ := stD X38 hx hZ e38 Ar42 (j := (2 : Int32)) (inb_of Sz42 ⟨by decide, by decide⟩) (g := (mkF m 151 #[.val (.ref a), .val (.ref ve), .val (.double xq), .second, .val (.double xe), .second, .val (.ref nb1), .val (.ref nb8), .val (.double zc), .second, .val (.double xq), .second, .val (.int (0 : Int32)), .val (.double (4598175219545276416 : UInt64)), .second, .val (.int (2 : Int32))] [(.double zy), (.int (2 : Int32)), (.ref r0)])) rfl rfl (hb hby d6_151)
  have F_value_a := F_value_a.other W42 (Or.inl ne_a_r0)
  have F_covariance_a := F_covariance_a.other W42 (Or.inl ne_a_r0)
  have E_ve := E_ve.wr W42
  have V_va := V_va.other W42 ne_va_r0
  have F_x_ve := F_x_ve.other W42 (Or.inl ne_ve_r0)
  have F_y_ve := F_y_ve.other W42 (Or.inl ne_ve_r0)
  have F_z_ve := F_z_ve.other W42 (Or.inl ne_ve_r0)
  have V_gr := V_gr.other W42 ne_gr_r0
  have V_r1 := V_r1.other W42 ne_r1_r0
  have V_r2 := V_r2.other W42 ne_r2_r0
  have E_nb1 := E_nb1.wr W42
  have V_nb1 := V_nb1.other W42 ne_nb1_r0
  have E_nb8 := E_nb8.wr W42
  have V_nb8 := V_nb8.other W42 ne_nb8_r0
  have Z42 : n0 ≤ h42.size := Nat.le_trans Z37 (Keep.of_wr W42).1
  have V_r0 : Arv Z h42 r0 kr .double (3 : Int32) [(.double zx), (.double zy), (.double zy)] (.double (0 : UInt64)) := Arv.set Ar42 q42 Sz42 Ng42 Hs42 Ft42 rfl W42 2 rfl (Nat.le_of_ble_eq_true rfl)
  have K42 := K37.wr W42 (Or.inl (List.mem_of_getElem? (i := 1) rfl))
  have N42 := Fr.snoc X42 N37 g_r0
  refine Goes.pre (U' := T42.setTop (mkF m 155 #[.val (.ref a), .val (.ref ve), .val (.double xq), .second, .val (.double xe), .second, .val (.ref nb1), .val (.ref nb8), .val (.double zc), .second, .val (.double xq), .second, .val (.int (0 : Int32)), .val (.double (4598175219545276416 : UInt64)), .second, .val (.int ((2 : Int32) + (1 : Int32)))] [])) (fun t k => st42 t (XT.iincV X42.here hx rfl (1 : Int32) (hb hby d6_152) (by decide) rfl (l' := #[.val (.ref a), .val (.ref ve), .val (.double xq), .second, .val (.double xe), .second, .val (.ref nb1), .val (.ref nb8), .val (.double zc), .second, .val (.double xq), .second, .val (.int (0 : Int32)), .val (.double (4598175219545276416 : UInt64)), .second, .val (.int ((2 : Int32) + (1 : Int32)))]) rfl k)) ?_
  rw [(by decide : ((2 : Int32) + (1 : Int32)) = (3 : Int32))]
  refine Goes.pre (U' := T42.setTop (mkF m 128 #[.val (.ref a), .val (.ref ve), .val (.double xq), .second, .val (.double xe), .second, .val (.ref nb1), .val (.ref nb8), .val (.double zc), .second, .val (.double xq), .second, .val (.int (0 : Int32)), .val (.double (4598175219545276416 : UInt64)), .second, .val (.int (3 : Int32))] [(.int (3 : Int32)), (.int (3 : Int32))])) (fun t k => XS.goto X42.here hx rfl (pc0 := 155) (pc' := 125) rfl (hb hby d6_155) (by decide) (by decide) (XS.iload X42.here hx rfl (hb hby d6_125) rfl (XS.iconst X42.here hx rfl (hb hby d6_127) k))) ?_
  have hc128 : ¬ ((3 : Int32) < (3 : Int32)) := by decide
  refine Goes.pre (U' := T42.setTop (mkF m 161 #[.val (.ref a), .val (.ref ve), .val (.double xq), .second, .val (.double xe), .second, .val (.ref nb1), .val (.ref nb8), .val (.double zc), .second, .val (.double xq), .second, .val (.int ((0 : Int32) + (1 : Int32))), .val (.double (4598175219545276416 : UInt64)), .second, .val (.int (3 : Int32))] [])) (fun t k => XS.icmpYes X42.here hx rfl (pc0 := 128) (pc' := 158) rfl (hb hby d6_128) rfl (flt hc128).2.1 (by decide) (by decide) (XT.iincV X42.here hx rfl (1 : Int32) (hb hby d6_158) (by decide) rfl (l' := #[.val (.ref a), .val (.ref ve), .val (.double xq), .second, .val (.double xe), .second, .val (.ref nb1), .val (.ref nb8), .val (.double zc), .second, .val (.double xq), .second, .val (.int ((0 : Int32) + (1 : Int32))), .val (.double (4598175219545276416 : UInt64)), .second, .val (.int (3 : Int32))]) rfl k)) ?_
  rw [(by decide : ((0 : Int32) + (1 : Int32)) = (1 : Int32))]
  refine Goes.pre (U' := T42.setTop (mkF m 94 #[.val (.ref a), .val (.ref ve), .val (.double xq), .second, .val (.double xe), .second, .val (.ref nb1), .val (.ref nb8), .val (.double zc), .second, .val (.double xq), .second, .val (.int (1 : Int32)), .val (.double (4598175219545276416 : UInt64)), .second, .val (.int (3 : Int32))] [(.int (3 : Int32)), (.int (1 : Int32))])) (fun t k => XS.goto X42.here hx rfl (pc0 := 161) (pc' := 91) rfl (hb hby d6_161) (by decide) (by decide) (XS.iload X42.here hx rfl (hb hby d6_91) rfl (XS.iconst X42.here hx rfl (hb hby d6_93) k))) ?_
  have hc94 : (1 : Int32) < (3 : Int32) := by decide
  refine Goes.pre (U' := T42.setTop (mkF m 101 #[.val (.ref a), .val (.ref ve), .val (.double xq), .second, .val (.double xe), .second, .val (.ref nb1), .val (.ref nb8), .val (.double zc), .second, .val (.double xq), .second, .val (.int (1 : Int32)), .val (.double (4598175219545276416 : UInt64)), .second, .val (.int (3 : Int32))] [(.int (1 : Int32)), (.ref nb8)])) (fun t k => XS.icmpNo X42.here hx rfl (hb hby d6_94) rfl (tlt hc94).2.1 (XS.aload X42.here hx rfl (hb hby d6_97) rfl rfl (XS.iload X42.here hx rfl (hb hby d6_99) rfl k))) ?_
  obtain ⟨cl43, Ar43, q43, Sz43, Ng43, Hs43, Ft43⟩ := id V_nb8
  have hin43 := inb_of (j := (1 : Int32)) Sz43 ⟨by decide, by decide⟩
  refine Goes.pre (U' := T42.setTop (mkF m 108 #[.val (.ref a), .val (.ref ve), .val (.double xq), .second, .val (.double xe), .second, .val (.ref nb1), .val (.ref nb8), .val (.double zc), .second, .val (.double xq), .second, .val (.int (1 : Int32)), .val (.double (4598175219545276416 : UInt64)), .second, .val (.int (3 : Int32))] [(.ref a)])) (fun t k => X42.daload hx (j := (1 : Int32)) (v := (.double xe)) (by rw [e42]; exact Ar43.1) (State.isArrayOf_alike hZ.alike Ar43.2.1) Ar43.2.2 hin43 (Has.at Hs43 hin43 rfl) (g := (mkF m 101 #[.val (.ref a), .val (.ref ve), .val (.double xq), .second, .val (.double xe), .second, .val (.ref nb1), .val (.ref nb8), .val (.double zc), .second, .val (.double xq), .second, .val (.int (1 : Int32)), .val (.double (4598175219545276416 : UInt64)), .second, .val (.int (3 : Int32))] [(.int (1 : Int32)), (.ref nb8)])) rfl rfl (hb hby d6_101) _ (XS.dload X42.here hx rfl (hb hby d6_102) rfl (XS.ddivS X42.here hx rfl (v := (4598175219545276416 : UInt64)) (hb hby d6_104) rfl o8.2 o8.1 (XS.dstore X42.here hx rfl (hb hby d6_105) rfl (l' := #[.val (.ref a), .val (.ref ve), .val (.double xq), .second, .val (.double xe), .second, .val (.ref nb1), .val (.ref nb8), .val (.double zc), .second, .val (.double xq), .second, .val (.int (1 : Int32)), .val (.double (4598175219545276416 : UInt64)), .second, .val (.int (3 : Int32))]) rfl (XS.aloadN X42.here hx rfl (hb hby d6_107) rfl rfl k))))) ?_
  obtain ⟨T44, X44, e44, st44⟩ := getF X42 hx hZ hown (host := "") (Or.inl (wq hw 10 rfl)) Via.refl e42 F_value_a (g := (mkF m 108 #[.val (.ref a), .val (.ref ve), .val (.double xq), .second, .val (.double xe), .second, .val (.ref nb1), .val (.ref nb8), .val (.double zc), .second, .val (.double xq), .second, .val (.int (1 : Int32)), .val (.double (4598175219545276416 : UInt64)), .second, .val (.int (3 : Int32))] [(.ref a)])) rfl rfl (hb hby d6_108)
  refine Goes.pre (U' := T44.setTop (mkF m 114 #[.val (.ref a), .val (.ref ve), .val (.double xq), .second, .val (.double xe), .second, .val (.ref nb1), .val (.ref nb8), .val (.double zc), .second, .val (.double xq), .second, .val (.int (1 : Int32)), .val (.double (4598175219545276416 : UInt64)), .second, .val (.int (3 : Int32))] [(.int (1 : Int32)), (.ref va), (.int (1 : Int32)), (.ref va)])) (fun t k => st44 t (XS.iload X44.here hx rfl (hb hby d6_111) rfl (XT.dup2 X44.here hx rfl (hb hby d6_113) rfl rfl rfl k))) ?_
  obtain ⟨cl45, Ar45, q45, Sz45, Ng45, Hs45, Ft45⟩ := id V_va
  have hin45 := inb_of (j := (1 : Int32)) Sz45 ⟨by decide, by decide⟩
  refine Goes.pre (U' := T44.setTop (mkF m 121 #[.val (.ref a), .val (.ref ve), .val (.double xq), .second, .val (.double xe), .second, .val (.ref nb1), .val (.ref nb8), .val (.double zc), .second, .val (.double xq), .second, .val (.int (1 : Int32)), .val (.double (4598175219545276416 : UInt64)), .second, .val (.int (3 : Int32))] [(.double mm), (.int (1 : Int32)), (.ref va)])) (fun t k => X44.daload hx (j := (1 : Int32)) (v := (.double (0 : UInt64))) (by rw [e44]; exact Ar45.1) (State.isArrayOf_alike hZ.alike Ar45.2.1) Ar45.2.2 hin45 (Has.at Hs45 hin45 rfl) (g := (mkF m 114 #[.val (.ref a), .val (.ref ve), .val (.double xq), .second, .val (.double xe), .second, .val (.ref nb1), .val (.ref nb8), .val (.double zc), .second, .val (.double xq), .second, .val (.int (1 : Int32)), .val (.double (4598175219545276416 : UInt64)), .second, .val (.int (3 : Int32))] [(.int (1 : Int32)), (.ref va), (.int (1 : Int32)), (.ref va)])) rfl rfl (hb hby d6_114) _ (XS.dload X44.here hx rfl (hb hby d6_115) rfl (XS.dload X44.here hx rfl (hb hby d6_117) rfl (XS.dmulS X44.here hx rfl (v := mm) (hb hby d6_119) rfl i2.2 i2.1 (XS.daddS X44.here hx rfl (v := mm) (hb hby d6_120) rfl i3.2 i3.1 k))))) ?_
  obtain ⟨cl46, Ar46, q46, Sz46, Ng46, Hs46, Ft46⟩ := id V_va
  obtain ⟨T46, h46, X46, e46, W46, st46⟩ := stD X44 hx hZ e44 Ar46 (j := (1 : Int32)) (inb_of Sz46 ⟨by decide, by decide⟩) (g := (mkF m 121 #[.val (.ref a), .val (.ref ve), .val (.double xq), .second, .val (.double xe), .second, .val (.ref nb1), .val (.ref nb8), .val (.double zc), .second, .val (.double xq), .second, .val (.int (1 : Int32)), .val (.double (4598175219545276416 : UInt64)), .second, .val (.int (3 : Int32))] [(.double mm), (.int (1 : Int32)), (.ref va)])) rfl rfl (hb hby d6_121)
  have F_value_a := F_value_a.other W46 (Or.inl ne_a_va)
  have F_covariance_a := F_covariance_a.other W46 (Or.inl ne_a_va)
  have E_ve := E_ve.wr W46
  have F_x_ve := F_x_ve.other W46 (Or.inl ne_ve_va)
  have F_y_ve := F_y_ve.other W46 (Or.inl ne_ve_va)
  have F_z_ve := F_z_ve.other W46 (Or.inl ne_ve_va)
  have V_gr := V_gr.other W46 ne_gr_va
  have V_r0 := V_r0.other W46 ne_r0_va
  have V_r1 := V_r1.other W46 ne_r1_va
  have V_r2 := V_r2.other W46 ne_r2_va
  have E_nb1 := E_nb1.wr W46
  have V_nb1 := V_nb1.other W46 ne_nb1_va
  have E_nb8 := E_nb8.wr W46
  have V_nb8 := V_nb8.other W46 ne_nb8_va
  have Z46 : n0 ≤ h46.size := Nat.le_trans Z42 (Keep.of_wr W46).1
  have V_va : Arv Z h46 va kv .double (3 : Int32) [(.double mm), (.double mm), (.double (0 : UInt64))] (.double (0 : UInt64)) := Arv.set Ar46 q46 Sz46 Ng46 Hs46 Ft46 rfl W46 1 rfl (Nat.le_of_ble_eq_true rfl)
  have K46 := K42.wr W46 (Or.inl (List.mem_of_getElem? (i := 0) rfl))
  have N46 := Fr.snoc X46 N42 g_va
  refine Goes.pre (U' := T46.setTop (mkF m 128 #[.val (.ref a), .val (.ref ve), .val (.double xq), .second, .val (.double xe), .second, .val (.ref nb1), .val (.ref nb8), .val (.double zc), .second, .val (.double xq), .second, .val (.int (1 : Int32)), .val (.double (4598175219545276416 : UInt64)), .second, .val (.int (0 : Int32))] [(.int (3 : Int32)), (.int (0 : Int32))])) (fun t k => st46 t (XS.iconst X46.here hx rfl (hb hby d6_122) (XS.istore X46.here hx rfl (hb hby d6_123) rfl (l' := #[.val (.ref a), .val (.ref ve), .val (.double xq), .second, .val (.double xe), .second, .val (.ref nb1), .val (.ref nb8), .val (.double zc), .second, .val (.double xq), .second, .val (.int (1 : Int32)), .val (.double (4598175219545276416 : UInt64)), .second, .val (.int (0 : Int32))]) rfl (XS.iload X46.here hx rfl (hb hby d6_125) rfl (XS.iconst X46.here hx rfl (hb hby d6_127) k))))) ?_
  have hc128 : (0 : Int32) < (3 : Int32) := by decide
  refine Goes.pre (U' := T46.setTop (mkF m 132 #[.val (.ref a), .val (.ref ve), .val (.double xq), .second, .val (.double xe), .second, .val (.ref nb1), .val (.ref nb8), .val (.double zc), .second, .val (.double xq), .second, .val (.int (1 : Int32)), .val (.double (4598175219545276416 : UInt64)), .second, .val (.int (0 : Int32))] [(.ref a)])) (fun t k => XS.icmpNo X46.here hx rfl (hb hby d6_128) rfl (tlt hc128).2.1 (XS.aloadN X46.here hx rfl (hb hby d6_131) rfl rfl k)) ?_
  obtain ⟨T47, X47, e47, st47⟩ := getF X46 hx hZ hown (host := "") (Or.inl (wq hw 14 rfl)) Via.refl e46 F_covariance_a (g := (mkF m 132 #[.val (.ref a), .val (.ref ve), .val (.double xq), .second, .val (.double xe), .second, .val (.ref nb1), .val (.ref nb8), .val (.double zc), .second, .val (.double xq), .second, .val (.int (1 : Int32)), .val (.double (4598175219545276416 : UInt64)), .second, .val (.int (0 : Int32))] [(.ref a)])) rfl rfl (hb hby d6_132)
  refine Goes.pre (U' := T47.setTop (mkF m 137 #[.val (.ref a), .val (.ref ve), .val (.double xq), .second, .val (.double xe), .second, .val (.ref nb1), .val (.ref nb8), .val (.double zc), .second, .val (.double xq), .second, .val (.int (1 : Int32)), .val (.double (4598175219545276416 : UInt64)), .second, .val (.int (0 : Int32))] [(.int (1 : Int32)), (.ref gr)])) (fun t k => st47 t (XS.iload X47.here hx rfl (hb hby d6_135) rfl k)) ?_
  obtain ⟨cl48, Ar48, q48, Sz48, Ng48, Hs48, Ft48⟩ := id V_gr
  have hin48 := inb_of (j := (1 : Int32)) Sz48 ⟨by decide, by decide⟩
  refine Goes.pre (U' := T47.setTop (mkF m 141 #[.val (.ref a), .val (.ref ve), .val (.double xq), .second, .val (.double xe), .second, .val (.ref nb1), .val (.ref nb8), .val (.double zc), .second, .val (.double xq), .second, .val (.int (1 : Int32)), .val (.double (4598175219545276416 : UInt64)), .second, .val (.int (0 : Int32))] [(.int (0 : Int32)), (.ref r1), (.int (0 : Int32)), (.ref r1)])) (fun t k => X47.aaload hx (j := (1 : Int32)) (v := (.ref r1)) (by rw [e47]; exact Ar48.1) (State.isArrayOf_alike hZ.alike Ar48.2.1) rfl Ar48.2.2 hin48 (Has.at Hs48 hin48 rfl) (g := (mkF m 137 #[.val (.ref a), .val (.ref ve), .val (.double xq), .second, .val (.double xe), .second, .val (.ref nb1), .val (.ref nb8), .val (.double zc), .second, .val (.double xq), .second, .val (.int (1 : Int32)), .val (.double (4598175219545276416 : UInt64)), .second, .val (.int (0 : Int32))] [(.int (1 : Int32)), (.ref gr)])) rfl rfl (hb hby d6_137) _ (XS.iload X47.here hx rfl (hb hby d6_138) rfl (XT.dup2 X47.here hx rfl (hb hby d6_140) rfl rfl rfl k))) ?_
  obtain ⟨cl49, Ar49, q49, Sz49, Ng49, Hs49, Ft49⟩ := id V_r1
  have hin49 := inb_of (j := (0 : Int32)) Sz49 ⟨by decide, by decide⟩
  refine Goes.pre (U' := T47.setTop (mkF m 148 #[.val (.ref a), .val (.ref ve), .val (.double xq), .second, .val (.double xe), .second, .val (.ref nb1), .val (.ref nb8), .val (.double zc), .second, .val (.double xq), .second, .val (.int (1 : Int32)), .val (.double (4598175219545276416 : UInt64)), .second, .val (.int (0 : Int32))] [(.int (0 : Int32)), (.ref nb8), (.double (4598175219545276416 : UInt64)), (.double (0 : UInt64)), (.int (0 : Int32)), (.ref r1)])) (fun t k => X47.daload hx (j := (0 : Int32)) (v := (.double (0 : UInt64))) (by rw [e47]; exact Ar49.1) (State.isArrayOf_alike hZ.alike Ar49.2.1) Ar49.2.2 hin49 (Has.at Hs49 hin49 rfl) (g := (mkF m 141 #[.val (.ref a), .val (.ref ve), .val (.double xq), .second, .val (.double xe), .second, .val (.ref nb1), .val (.ref nb8), .val (.double zc), .second, .val (.double xq), .second, .val (.int (1 : Int32)), .val (.double (4598175219545276416 : UInt64)), .second, .val (.int (0 : Int32))] [(.int (0 : Int32)), (.ref r1), (.int (0 : Int32)), (.ref r1)])) rfl rfl (hb hby d6_141) _ (XS.dload X47.here hx rfl (hb hby d6_142) rfl (XS.aload X47.here hx rfl (hb hby d6_144) rfl rfl (XS.iload X47.here hx rfl (hb hby d6_146) rfl k)))) ?_
  obtain ⟨cl50, Ar50, q50, Sz50, Ng50, Hs50, Ft50⟩ := id V_nb8
  have hin50 := inb_of (j := (0 : Int32)) Sz50 ⟨by decide, by decide⟩
  refine Goes.pre (U' := T47.setTop (mkF m 151 #[.val (.ref a), .val (.ref ve), .val (.double xq), .second, .val (.double xe), .second, .val (.ref nb1), .val (.ref nb8), .val (.double zc), .second, .val (.double xq), .second, .val (.int (1 : Int32)), .val (.double (4598175219545276416 : UInt64)), .second, .val (.int (0 : Int32))] [(.double zy), (.int (0 : Int32)), (.ref r1)])) (fun t k => X47.daload hx (j := (0 : Int32)) (v := (.double xe)) (by rw [e47]; exact Ar50.1) (State.isArrayOf_alike hZ.alike Ar50.2.1) Ar50.2.2 hin50 (Has.at Hs50 hin50 rfl) (g := (mkF m 148 #[.val (.ref a), .val (.ref ve), .val (.double xq), .second, .val (.double xe), .second, .val (.ref nb1), .val (.ref nb8), .val (.double zc), .second, .val (.double xq), .second, .val (.int (1 : Int32)), .val (.double (4598175219545276416 : UInt64)), .second, .val (.int (0 : Int32))] [(.int (0 : Int32)), (.ref nb8), (.double (4598175219545276416 : UInt64)), (.double (0 : UInt64)), (.int (0 : Int32)), (.ref r1)])) rfl rfl (hb hby d6_148) _ (XS.dmulS X47.here hx rfl (v := zq) (hb hby d6_149) rfl o9.2 o9.1 (XS.dsubS X47.here hx rfl (v := zy) (hb hby d6_150) rfl o11.2 o11.1 k))) ?_
  obtain ⟨cl51, Ar51, q51, Sz51, Ng51, Hs51, Ft51⟩ := id V_r1
  obtain ⟨T51, h51, X51, e51, W51, st51⟩ := stD X47 hx hZ e47 Ar51 (j := (0 : Int32)) (inb_of Sz51 ⟨by decide, by decide⟩) (g := (mkF m 151 #[.val (.ref a), .val (.ref ve), .val (.double xq), .second, .val (.double xe), .second, .val (.ref nb1), .val (.ref nb8), .val (.double zc), .second, .val (.double xq), .second, .val (.int (1 : Int32)), .val (.double (4598175219545276416 : UInt64)), .second, .val (.int (0 : Int32))] [(.double zy), (.int (0 : Int32)), (.ref r1)])) rfl rfl (hb hby d6_151)
  have F_value_a := F_value_a.other W51 (Or.inl ne_a_r1)
  have F_covariance_a := F_covariance_a.other W51 (Or.inl ne_a_r1)
  have E_ve := E_ve.wr W51
  have V_va := V_va.other W51 ne_va_r1
  have F_x_ve := F_x_ve.other W51 (Or.inl ne_ve_r1)
  have F_y_ve := F_y_ve.other W51 (Or.inl ne_ve_r1)
  have F_z_ve := F_z_ve.other W51 (Or.inl ne_ve_r1)
  have V_gr := V_gr.other W51 ne_gr_r1
  have V_r0 := V_r0.other W51 ne_r0_r1
  have V_r2 := V_r2.other W51 ne_r2_r1
  have E_nb1 := E_nb1.wr W51
  have V_nb1 := V_nb1.other W51 ne_nb1_r1
  have E_nb8 := E_nb8.wr W51
  have V_nb8 := V_nb8.other W51 ne_nb8_r1
  have Z51 : n0 ≤ h51.size := Nat.le_trans Z46 (Keep.of_wr W51).1
  have V_r1 : Arv Z h51 r1 kr .double (3 : Int32) [(.double zy), (.double xe), (.double (0 : UInt64))] (.double (0 : UInt64)) := Arv.set Ar51 q51 Sz51 Ng51 Hs51 Ft51 rfl W51 0 rfl (Nat.le_of_ble_eq_true rfl)
  have K51 := K46.wr W51 (Or.inl (List.mem_of_getElem? (i := 2) rfl))
  have N51 := Fr.snoc X51 N46 g_r1
  refine Goes.pre (U' := T51.setTop (mkF m 155 #[.val (.ref a), .val (.ref ve), .val (.double xq), .second, .val (.double xe), .second, .val (.ref nb1), .val (.ref nb8), .val (.double zc), .second, .val (.double xq), .second, .val (.int (1 : Int32)), .val (.double (4598175219545276416 : UInt64)), .second, .val (.int ((0 : Int32) + (1 : Int32)))] [])) (fun t k => st51 t (XT.iincV X51.here hx rfl (1 : Int32) (hb hby d6_152) (by decide) rfl (l' := #[.val (.ref a), .val (.ref ve), .val (.double xq), .second, .val (.double xe), .second, .val (.ref nb1), .val (.ref nb8), .val (.double zc), .second, .val (.double xq), .second, .val (.int (1 : Int32)), .val (.double (4598175219545276416 : UInt64)), .second, .val (.int ((0 : Int32) + (1 : Int32)))]) rfl k)) ?_
  rw [(by decide : ((0 : Int32) + (1 : Int32)) = (1 : Int32))]
  refine Goes.pre (U' := T51.setTop (mkF m 128 #[.val (.ref a), .val (.ref ve), .val (.double xq), .second, .val (.double xe), .second, .val (.ref nb1), .val (.ref nb8), .val (.double zc), .second, .val (.double xq), .second, .val (.int (1 : Int32)), .val (.double (4598175219545276416 : UInt64)), .second, .val (.int (1 : Int32))] [(.int (3 : Int32)), (.int (1 : Int32))])) (fun t k => XS.goto X51.here hx rfl (pc0 := 155) (pc' := 125) rfl (hb hby d6_155) (by decide) (by decide) (XS.iload X51.here hx rfl (hb hby d6_125) rfl (XS.iconst X51.here hx rfl (hb hby d6_127) k))) ?_
  have hc128 : (1 : Int32) < (3 : Int32) := by decide
  refine Goes.pre (U' := T51.setTop (mkF m 132 #[.val (.ref a), .val (.ref ve), .val (.double xq), .second, .val (.double xe), .second, .val (.ref nb1), .val (.ref nb8), .val (.double zc), .second, .val (.double xq), .second, .val (.int (1 : Int32)), .val (.double (4598175219545276416 : UInt64)), .second, .val (.int (1 : Int32))] [(.ref a)])) (fun t k => XS.icmpNo X51.here hx rfl (hb hby d6_128) rfl (tlt hc128).2.1 (XS.aloadN X51.here hx rfl (hb hby d6_131) rfl rfl k)) ?_
  obtain ⟨T52, X52, e52, st52⟩ := getF X51 hx hZ hown (host := "") (Or.inl (wq hw 14 rfl)) Via.refl e51 F_covariance_a (g := (mkF m 132 #[.val (.ref a), .val (.ref ve), .val (.double xq), .second, .val (.double xe), .second, .val (.ref nb1), .val (.ref nb8), .val (.double zc), .second, .val (.double xq), .second, .val (.int (1 : Int32)), .val (.double (4598175219545276416 : UInt64)), .second, .val (.int (1 : Int32))] [(.ref a)])) rfl rfl (hb hby d6_132)
  refine Goes.pre (U' := T52.setTop (mkF m 137 #[.val (.ref a), .val (.ref ve), .val (.double xq), .second, .val (.double xe), .second, .val (.ref nb1), .val (.ref nb8), .val (.double zc), .second, .val (.double xq), .second, .val (.int (1 : Int32)), .val (.double (4598175219545276416 : UInt64)), .second, .val (.int (1 : Int32))] [(.int (1 : Int32)), (.ref gr)])) (fun t k => st52 t (XS.iload X52.here hx rfl (hb hby d6_135) rfl k)) ?_
  obtain ⟨cl53, Ar53, q53, Sz53, Ng53, Hs53, Ft53⟩ := id V_gr
  have hin53 := inb_of (j := (1 : Int32)) Sz53 ⟨by decide, by decide⟩
  refine Goes.pre (U' := T52.setTop (mkF m 141 #[.val (.ref a), .val (.ref ve), .val (.double xq), .second, .val (.double xe), .second, .val (.ref nb1), .val (.ref nb8), .val (.double zc), .second, .val (.double xq), .second, .val (.int (1 : Int32)), .val (.double (4598175219545276416 : UInt64)), .second, .val (.int (1 : Int32))] [(.int (1 : Int32)), (.ref r1), (.int (1 : Int32)), (.ref r1)])) (fun t k => X52.aaload hx (j := (1 : Int32)) (v := (.ref r1)) (by rw [e52]; exact Ar53.1) (State.isArrayOf_alike hZ.alike Ar53.2.1) rfl Ar53.2.2 hin53 (Has.at Hs53 hin53 rfl) (g := (mkF m 137 #[.val (.ref a), .val (.ref ve), .val (.double xq), .second, .val (.double xe), .second, .val (.ref nb1), .val (.ref nb8), .val (.double zc), .second, .val (.double xq), .second, .val (.int (1 : Int32)), .val (.double (4598175219545276416 : UInt64)), .second, .val (.int (1 : Int32))] [(.int (1 : Int32)), (.ref gr)])) rfl rfl (hb hby d6_137) _ (XS.iload X52.here hx rfl (hb hby d6_138) rfl (XT.dup2 X52.here hx rfl (hb hby d6_140) rfl rfl rfl k))) ?_
  obtain ⟨cl54, Ar54, q54, Sz54, Ng54, Hs54, Ft54⟩ := id V_r1
  have hin54 := inb_of (j := (1 : Int32)) Sz54 ⟨by decide, by decide⟩
  refine Goes.pre (U' := T52.setTop (mkF m 148 #[.val (.ref a), .val (.ref ve), .val (.double xq), .second, .val (.double xe), .second, .val (.ref nb1), .val (.ref nb8), .val (.double zc), .second, .val (.double xq), .second, .val (.int (1 : Int32)), .val (.double (4598175219545276416 : UInt64)), .second, .val (.int (1 : Int32))] [(.int (1 : Int32)), (.ref nb8), (.double (4598175219545276416 : UInt64)), (.double xe), (.int (1 : Int32)), (.ref r1)])) (fun t k => X52.daload hx (j := (1 : Int32)) (v := (.double xe)) (by rw [e52]; exact Ar54.1) (State.isArrayOf_alike hZ.alike Ar54.2.1) Ar54.2.2 hin54 (Has.at Hs54 hin54 rfl) (g := (mkF m 141 #[.val (.ref a), .val (.ref ve), .val (.double xq), .second, .val (.double xe), .second, .val (.ref nb1), .val (.ref nb8), .val (.double zc), .second, .val (.double xq), .second, .val (.int (1 : Int32)), .val (.double (4598175219545276416 : UInt64)), .second, .val (.int (1 : Int32))] [(.int (1 : Int32)), (.ref r1), (.int (1 : Int32)), (.ref r1)])) rfl rfl (hb hby d6_141) _ (XS.dload X52.here hx rfl (hb hby d6_142) rfl (XS.aload X52.here hx rfl (hb hby d6_144) rfl rfl (XS.iload X52.here hx rfl (hb hby d6_146) rfl k)))) ?_
  obtain ⟨cl55, Ar55, q55, Sz55, Ng55, Hs55, Ft55⟩ := id V_nb8
  have hin55 := inb_of (j := (1 : Int32)) Sz55 ⟨by decide, by decide⟩
  refine Goes.pre (U' := T52.setTop (mkF m 151 #[.val (.ref a), .val (.ref ve), .val (.double xq), .second, .val (.double xe), .second, .val (.ref nb1), .val (.ref nb8), .val (.double zc), .second, .val (.double xq), .second, .val (.int (1 : Int32)), .val (.double (4598175219545276416 : UInt64)), .second, .val (.int (1 : Int32))] [(.double zx), (.int (1 : Int32)), (.ref r1)])) (fun t k => X52.daload hx (j := (1 : Int32)) (v := (.double xe)) (by rw [e52]; exact Ar55.1) (State.isArrayOf_alike hZ.alike Ar55.2.1) Ar55.2.2 hin55 (Has.at Hs55 hin55 rfl) (g := (mkF m 148 #[.val (.ref a), .val (.ref ve), .val (.double xq), .second, .val (.double xe), .second, .val (.ref nb1), .val (.ref nb8), .val (.double zc), .second, .val (.double xq), .second, .val (.int (1 : Int32)), .val (.double (4598175219545276416 : UInt64)), .second, .val (.int (1 : Int32))] [(.int (1 : Int32)), (.ref nb8), (.double (4598175219545276416 : UInt64)), (.double xe), (.int (1 : Int32)), (.ref r1)])) rfl rfl (hb hby d6_148) _ (XS.dmulS X52.here hx rfl (v := zq) (hb hby d6_149) rfl o9.2 o9.1 (XS.dsubS X52.here hx rfl (v := zx) (hb hby d6_150) rfl o10.2 o10.1 k))) ?_
  obtain ⟨cl56, Ar56, q56, Sz56, Ng56, Hs56, Ft56⟩ := id V_r1
  obtain ⟨T56, h56, X56, e56, W56, st56⟩ := stD X52 hx hZ e52 Ar56 (j := (1 : Int32)) (inb_of Sz56 ⟨by decide, by decide⟩) (g := (mkF m 151 #[.val (.ref a), .val (.ref ve), .val (.double xq), .second, .val (.double xe), .second, .val (.ref nb1), .val (.ref nb8), .val (.double zc), .second, .val (.double xq), .second, .val (.int (1 : Int32)), .val (.double (4598175219545276416 : UInt64)), .second, .val (.int (1 : Int32))] [(.double zx), (.int (1 : Int32)), (.ref r1)])) rfl rfl (hb hby d6_151)
  have F_value_a := F_value_a.other W56 (Or.inl ne_a_r1)
  have F_covariance_a := F_covariance_a.other W56 (Or.inl ne_a_r1)
  have E_ve := E_ve.wr W56
  have V_va := V_va.other W56 ne_va_r1
  have F_x_ve := F_x_ve.other W56 (Or.inl ne_ve_r1)
  have F_y_ve := F_y_ve.other W56 (Or.inl ne_ve_r1)
  have F_z_ve := F_z_ve.other W56 (Or.inl ne_ve_r1)
  have V_gr := V_gr.other W56 ne_gr_r1
  have V_r0 := V_r0.other W56 ne_r0_r1
  have V_r2 := V_r2.other W56 ne_r2_r1
  have E_nb1 := E_nb1.wr W56
  have V_nb1 := V_nb1.other W56 ne_nb1_r1
  have E_nb8 := E_nb8.wr W56
  have V_nb8 := V_nb8.other W56 ne_nb8_r1
  have Z56 : n0 ≤ h56.size := Nat.le_trans Z51 (Keep.of_wr W56).1
  have V_r1 : Arv Z h56 r1 kr .double (3 : Int32) [(.double zy), (.double zx), (.double (0 : UInt64))] (.double (0 : UInt64)) := Arv.set Ar56 q56 Sz56 Ng56 Hs56 Ft56 rfl W56 1 rfl (Nat.le_of_ble_eq_true rfl)
  have K56 := K51.wr W56 (Or.inl (List.mem_of_getElem? (i := 2) rfl))
  have N56 := Fr.snoc X56 N51 g_r1
  refine Goes.pre (U' := T56.setTop (mkF m 155 #[.val (.ref a), .val (.ref ve), .val (.double xq), .second, .val (.double xe), .second, .val (.ref nb1), .val (.ref nb8), .val (.double zc), .second, .val (.double xq), .second, .val (.int (1 : Int32)), .val (.double (4598175219545276416 : UInt64)), .second, .val (.int ((1 : Int32) + (1 : Int32)))] [])) (fun t k => st56 t (XT.iincV X56.here hx rfl (1 : Int32) (hb hby d6_152) (by decide) rfl (l' := #[.val (.ref a), .val (.ref ve), .val (.double xq), .second, .val (.double xe), .second, .val (.ref nb1), .val (.ref nb8), .val (.double zc), .second, .val (.double xq), .second, .val (.int (1 : Int32)), .val (.double (4598175219545276416 : UInt64)), .second, .val (.int ((1 : Int32) + (1 : Int32)))]) rfl k)) ?_
  rw [(by decide : ((1 : Int32) + (1 : Int32)) = (2 : Int32))]
  refine Goes.pre (U' := T56.setTop (mkF m 128 #[.val (.ref a), .val (.ref ve), .val (.double xq), .second, .val (.double xe), .second, .val (.ref nb1), .val (.ref nb8), .val (.double zc), .second, .val (.double xq), .second, .val (.int (1 : Int32)), .val (.double (4598175219545276416 : UInt64)), .second, .val (.int (2 : Int32))] [(.int (3 : Int32)), (.int (2 : Int32))])) (fun t k => XS.goto X56.here hx rfl (pc0 := 155) (pc' := 125) rfl (hb hby d6_155) (by decide) (by decide) (XS.iload X56.here hx rfl (hb hby d6_125) rfl (XS.iconst X56.here hx rfl (hb hby d6_127) k))) ?_
  have hc128 : (2 : Int32) < (3 : Int32) := by decide
  refine Goes.pre (U' := T56.setTop (mkF m 132 #[.val (.ref a), .val (.ref ve), .val (.double xq), .second, .val (.double xe), .second, .val (.ref nb1), .val (.ref nb8), .val (.double zc), .second, .val (.double xq), .second, .val (.int (1 : Int32)), .val (.double (4598175219545276416 : UInt64)), .second, .val (.int (2 : Int32))] [(.ref a)])) (fun t k => XS.icmpNo X56.here hx rfl (hb hby d6_128) rfl (tlt hc128).2.1 (XS.aloadN X56.here hx rfl (hb hby d6_131) rfl rfl k)) ?_
  obtain ⟨T57, X57, e57, st57⟩ := getF X56 hx hZ hown (host := "") (Or.inl (wq hw 14 rfl)) Via.refl e56 F_covariance_a (g := (mkF m 132 #[.val (.ref a), .val (.ref ve), .val (.double xq), .second, .val (.double xe), .second, .val (.ref nb1), .val (.ref nb8), .val (.double zc), .second, .val (.double xq), .second, .val (.int (1 : Int32)), .val (.double (4598175219545276416 : UInt64)), .second, .val (.int (2 : Int32))] [(.ref a)])) rfl rfl (hb hby d6_132)
  refine Goes.pre (U' := T57.setTop (mkF m 137 #[.val (.ref a), .val (.ref ve), .val (.double xq), .second, .val (.double xe), .second, .val (.ref nb1), .val (.ref nb8), .val (.double zc), .second, .val (.double xq), .second, .val (.int (1 : Int32)), .val (.double (4598175219545276416 : UInt64)), .second, .val (.int (2 : Int32))] [(.int (1 : Int32)), (.ref gr)])) (fun t k => st57 t (XS.iload X57.here hx rfl (hb hby d6_135) rfl k)) ?_
  obtain ⟨cl58, Ar58, q58, Sz58, Ng58, Hs58, Ft58⟩ := id V_gr
  have hin58 := inb_of (j := (1 : Int32)) Sz58 ⟨by decide, by decide⟩
  refine Goes.pre (U' := T57.setTop (mkF m 141 #[.val (.ref a), .val (.ref ve), .val (.double xq), .second, .val (.double xe), .second, .val (.ref nb1), .val (.ref nb8), .val (.double zc), .second, .val (.double xq), .second, .val (.int (1 : Int32)), .val (.double (4598175219545276416 : UInt64)), .second, .val (.int (2 : Int32))] [(.int (2 : Int32)), (.ref r1), (.int (2 : Int32)), (.ref r1)])) (fun t k => X57.aaload hx (j := (1 : Int32)) (v := (.ref r1)) (by rw [e57]; exact Ar58.1) (State.isArrayOf_alike hZ.alike Ar58.2.1) rfl Ar58.2.2 hin58 (Has.at Hs58 hin58 rfl) (g := (mkF m 137 #[.val (.ref a), .val (.ref ve), .val (.double xq), .second, .val (.double xe), .second, .val (.ref nb1), .val (.ref nb8), .val (.double zc), .second, .val (.double xq), .second, .val (.int (1 : Int32)), .val (.double (4598175219545276416 : UInt64)), .second, .val (.int (2 : Int32))] [(.int (1 : Int32)), (.ref gr)])) rfl rfl (hb hby d6_137) _ (XS.iload X57.here hx rfl (hb hby d6_138) rfl (XT.dup2 X57.here hx rfl (hb hby d6_140) rfl rfl rfl k))) ?_
  obtain ⟨cl59, Ar59, q59, Sz59, Ng59, Hs59, Ft59⟩ := id V_r1
  have hin59 := inb_of (j := (2 : Int32)) Sz59 ⟨by decide, by decide⟩
  refine Goes.pre (U' := T57.setTop (mkF m 148 #[.val (.ref a), .val (.ref ve), .val (.double xq), .second, .val (.double xe), .second, .val (.ref nb1), .val (.ref nb8), .val (.double zc), .second, .val (.double xq), .second, .val (.int (1 : Int32)), .val (.double (4598175219545276416 : UInt64)), .second, .val (.int (2 : Int32))] [(.int (2 : Int32)), (.ref nb8), (.double (4598175219545276416 : UInt64)), (.double (0 : UInt64)), (.int (2 : Int32)), (.ref r1)])) (fun t k => X57.daload hx (j := (2 : Int32)) (v := (.double (0 : UInt64))) (by rw [e57]; exact Ar59.1) (State.isArrayOf_alike hZ.alike Ar59.2.1) Ar59.2.2 hin59 (Has.at Hs59 hin59 rfl) (g := (mkF m 141 #[.val (.ref a), .val (.ref ve), .val (.double xq), .second, .val (.double xe), .second, .val (.ref nb1), .val (.ref nb8), .val (.double zc), .second, .val (.double xq), .second, .val (.int (1 : Int32)), .val (.double (4598175219545276416 : UInt64)), .second, .val (.int (2 : Int32))] [(.int (2 : Int32)), (.ref r1), (.int (2 : Int32)), (.ref r1)])) rfl rfl (hb hby d6_141) _ (XS.dload X57.here hx rfl (hb hby d6_142) rfl (XS.aload X57.here hx rfl (hb hby d6_144) rfl rfl (XS.iload X57.here hx rfl (hb hby d6_146) rfl k)))) ?_
  obtain ⟨cl60, Ar60, q60, Sz60, Ng60, Hs60, Ft60⟩ := id V_nb8
  have hin60 := inb_of (j := (2 : Int32)) Sz60 ⟨by decide, by decide⟩
  refine Goes.pre (U' := T57.setTop (mkF m 151 #[.val (.ref a), .val (.ref ve), .val (.double xq), .second, .val (.double xe), .second, .val (.ref nb1), .val (.ref nb8), .val (.double zc), .second, .val (.double xq), .second, .val (.int (1 : Int32)), .val (.double (4598175219545276416 : UInt64)), .second, .val (.int (2 : Int32))] [(.double zy), (.int (2 : Int32)), (.ref r1)])) (fun t k => X57.daload hx (j := (2 : Int32)) (v := (.double xe)) (by rw [e57]; exact Ar60.1) (State.isArrayOf_alike hZ.alike Ar60.2.1) Ar60.2.2 hin60 (Has.at Hs60 hin60 rfl) (g := (mkF m 148 #[.val (.ref a), .val (.ref ve), .val (.double xq), .second, .val (.double xe), .second, .val (.ref nb1), .val (.ref nb8), .val (.double zc), .second, .val (.double xq), .second, .val (.int (1 : Int32)), .val (.double (4598175219545276416 : UInt64)), .second, .val (.int (2 : Int32))] [(.int (2 : Int32)), (.ref nb8), (.double (4598175219545276416 : UInt64)), (.double (0 : UInt64)), (.int (2 : Int32)), (.ref r1)])) rfl rfl (hb hby d6_148) _ (XS.dmulS X57.here hx rfl (v := zq) (hb hby d6_149) rfl o9.2 o9.1 (XS.dsubS X57.here hx rfl (v := zy) (hb hby d6_150) rfl o11.2 o11.1 k))) ?_
  obtain ⟨cl61, Ar61, q61, Sz61, Ng61, Hs61, Ft61⟩ := id V_r1
  obtain ⟨T61, h61, X61, e61, W61, st61⟩ := stD X57 hx hZ e57 Ar61 (j := (2 : Int32)) (inb_of Sz61 ⟨by decide, by decide⟩) (g := (mkF m 151 #[.val (.ref a), .val (.ref ve), .val (.double xq), .second, .val (.double xe), .second, .val (.ref nb1), .val (.ref nb8), .val (.double zc), .second, .val (.double xq), .second, .val (.int (1 : Int32)), .val (.double (4598175219545276416 : UInt64)), .second, .val (.int (2 : Int32))] [(.double zy), (.int (2 : Int32)), (.ref r1)])) rfl rfl (hb hby d6_151)
  have F_value_a := F_value_a.other W61 (Or.inl ne_a_r1)
  have F_covariance_a := F_covariance_a.other W61 (Or.inl ne_a_r1)
  have E_ve := E_ve.wr W61
  have V_va := V_va.other W61 ne_va_r1
  have F_x_ve := F_x_ve.other W61 (Or.inl ne_ve_r1)
  have F_y_ve := F_y_ve.other W61 (Or.inl ne_ve_r1)
  have F_z_ve := F_z_ve.other W61 (Or.inl ne_ve_r1)
  have V_gr := V_gr.other W61 ne_gr_r1
  have V_r0 := V_r0.other W61 ne_r0_r1
  have V_r2 := V_r2.other W61 ne_r2_r1
  have E_nb1 := E_nb1.wr W61
  have V_nb1 := V_nb1.other W61 ne_nb1_r1
  have E_nb8 := E_nb8.wr W61
  have V_nb8 := V_nb8.other W61 ne_nb8_r1
  have Z61 : n0 ≤ h61.size := Nat.le_trans Z56 (Keep.of_wr W61).1
  have V_r1 : Arv Z h61 r1 kr .double (3 : Int32) [(.double zy), (.double zx), (.double zy)] (.double (0 : UInt64)) := Arv.set Ar61 q61 Sz61 Ng61 Hs61 Ft61 rfl W61 2 rfl (Nat.le_of_ble_eq_true rfl)
  have K61 := K56.wr W61 (Or.inl (List.mem_of_getElem? (i := 2) rfl))
  have N61 := Fr.snoc X61 N56 g_r1
  refine Goes.pre (U' := T61.setTop (mkF m 155 #[.val (.ref a), .val (.ref ve), .val (.double xq), .second, .val (.double xe), .second, .val (.ref nb1), .val (.ref nb8), .val (.double zc), .second, .val (.double xq), .second, .val (.int (1 : Int32)), .val (.double (4598175219545276416 : UInt64)), .second, .val (.int ((2 : Int32) + (1 : Int32)))] [])) (fun t k => st61 t (XT.iincV X61.here hx rfl (1 : Int32) (hb hby d6_152) (by decide) rfl (l' := #[.val (.ref a), .val (.ref ve), .val (.double xq), .second, .val (.double xe), .second, .val (.ref nb1), .val (.ref nb8), .val (.double zc), .second, .val (.double xq), .second, .val (.int (1 : Int32)), .val (.double (4598175219545276416 : UInt64)), .second, .val (.int ((2 : Int32) + (1 : Int32)))]) rfl k)) ?_
  rw [(by decide : ((2 : Int32) + (1 : Int32)) = (3 : Int32))]
  refine Goes.pre (U' := T61.setTop (mkF m 128 #[.val (.ref a), .val (.ref ve), .val (.double xq), .second, .val (.double xe), .second, .val (.ref nb1), .val (.ref nb8), .val (.double zc), .second, .val (.double xq), .second, .val (.int (1 : Int32)), .val (.double (4598175219545276416 : UInt64)), .second, .val (.int (3 : Int32))] [(.int (3 : Int32)), (.int (3 : Int32))])) (fun t k => XS.goto X61.here hx rfl (pc0 := 155) (pc' := 125) rfl (hb hby d6_155) (by decide) (by decide) (XS.iload X61.here hx rfl (hb hby d6_125) rfl (XS.iconst X61.here hx rfl (hb hby d6_127) k))) ?_
  have hc128 : ¬ ((3 : Int32) < (3 : Int32)) := by decide
  refine Goes.pre (U' := T61.setTop (mkF m 161 #[.val (.ref a), .val (.ref ve), .val (.double xq), .second, .val (.double xe), .second, .val (.ref nb1), .val (.ref nb8), .val (.double zc), .second, .val (.double xq), .second, .val (.int ((1 : Int32) + (1 : Int32))), .val (.double (4598175219545276416 : UInt64)), .second, .val (.int (3 : Int32))] [])) (fun t k => XS.icmpYes X61.here hx rfl (pc0 := 128) (pc' := 158) rfl (hb hby d6_128) rfl (flt hc128).2.1 (by decide) (by decide) (XT.iincV X61.here hx rfl (1 : Int32) (hb hby d6_158) (by decide) rfl (l' := #[.val (.ref a), .val (.ref ve), .val (.double xq), .second, .val (.double xe), .second, .val (.ref nb1), .val (.ref nb8), .val (.double zc), .second, .val (.double xq), .second, .val (.int ((1 : Int32) + (1 : Int32))), .val (.double (4598175219545276416 : UInt64)), .second, .val (.int (3 : Int32))]) rfl k)) ?_
  rw [(by decide : ((1 : Int32) + (1 : Int32)) = (2 : Int32))]
  refine Goes.pre (U' := T61.setTop (mkF m 94 #[.val (.ref a), .val (.ref ve), .val (.double xq), .second, .val (.double xe), .second, .val (.ref nb1), .val (.ref nb8), .val (.double zc), .second, .val (.double xq), .second, .val (.int (2 : Int32)), .val (.double (4598175219545276416 : UInt64)), .second, .val (.int (3 : Int32))] [(.int (3 : Int32)), (.int (2 : Int32))])) (fun t k => XS.goto X61.here hx rfl (pc0 := 161) (pc' := 91) rfl (hb hby d6_161) (by decide) (by decide) (XS.iload X61.here hx rfl (hb hby d6_91) rfl (XS.iconst X61.here hx rfl (hb hby d6_93) k))) ?_
  have hc94 : (2 : Int32) < (3 : Int32) := by decide
  refine Goes.pre (U' := T61.setTop (mkF m 101 #[.val (.ref a), .val (.ref ve), .val (.double xq), .second, .val (.double xe), .second, .val (.ref nb1), .val (.ref nb8), .val (.double zc), .second, .val (.double xq), .second, .val (.int (2 : Int32)), .val (.double (4598175219545276416 : UInt64)), .second, .val (.int (3 : Int32))] [(.int (2 : Int32)), (.ref nb8)])) (fun t k => XS.icmpNo X61.here hx rfl (hb hby d6_94) rfl (tlt hc94).2.1 (XS.aload X61.here hx rfl (hb hby d6_97) rfl rfl (XS.iload X61.here hx rfl (hb hby d6_99) rfl k))) ?_
  obtain ⟨cl62, Ar62, q62, Sz62, Ng62, Hs62, Ft62⟩ := id V_nb8
  have hin62 := inb_of (j := (2 : Int32)) Sz62 ⟨by decide, by decide⟩
  refine Goes.pre (U' := T61.setTop (mkF m 108 #[.val (.ref a), .val (.ref ve), .val (.double xq), .second, .val (.double xe), .second, .val (.ref nb1), .val (.ref nb8), .val (.double zc), .second, .val (.double xq), .second, .val (.int (2 : Int32)), .val (.double (4598175219545276416 : UInt64)), .second, .val (.int (3 : Int32))] [(.ref a)])) (fun t k => X61.daload hx (j := (2 : Int32)) (v := (.double xe)) (by rw [e61]; exact Ar62.1) (State.isArrayOf_alike hZ.alike Ar62.2.1) Ar62.2.2 hin62 (Has.at Hs62 hin62 rfl) (g := (mkF m 101 #[.val (.ref a), .val (.ref ve), .val (.double xq), .second, .val (.double xe), .second, .val (.ref nb1), .val (.ref nb8), .val (.double zc), .second, .val (.double xq), .second, .val (.int (2 : Int32)), .val (.double (4598175219545276416 : UInt64)), .second, .val (.int (3 : Int32))] [(.int (2 : Int32)), (.ref nb8)])) rfl rfl (hb hby d6_101) _ (XS.dload X61.here hx rfl (hb hby d6_102) rfl (XS.ddivS X61.here hx rfl (v := (4598175219545276416 : UInt64)) (hb hby d6_104) rfl o8.2 o8.1 (XS.dstore X61.here hx rfl (hb hby d6_105) rfl (l' := #[.val (.ref a), .val (.ref ve), .val (.double xq), .second, .val (.double xe), .second, .val (.ref nb1), .val (.ref nb8), .val (.double zc), .second, .val (.double xq), .second, .val (.int (2 : Int32)), .val (.double (4598175219545276416 : UInt64)), .second, .val (.int (3 : Int32))]) rfl (XS.aloadN X61.here hx rfl (hb hby d6_107) rfl rfl k))))) ?_
  obtain ⟨T63, X63, e63, st63⟩ := getF X61 hx hZ hown (host := "") (Or.inl (wq hw 10 rfl)) Via.refl e61 F_value_a (g := (mkF m 108 #[.val (.ref a), .val (.ref ve), .val (.double xq), .second, .val (.double xe), .second, .val (.ref nb1), .val (.ref nb8), .val (.double zc), .second, .val (.double xq), .second, .val (.int (2 : Int32)), .val (.double (4598175219545276416 : UInt64)), .second, .val (.int (3 : Int32))] [(.ref a)])) rfl rfl (hb hby d6_108)
  refine Goes.pre (U' := T63.setTop (mkF m 114 #[.val (.ref a), .val (.ref ve), .val (.double xq), .second, .val (.double xe), .second, .val (.ref nb1), .val (.ref nb8), .val (.double zc), .second, .val (.double xq), .second, .val (.int (2 : Int32)), .val (.double (4598175219545276416 : UInt64)), .second, .val (.int (3 : Int32))] [(.int (2 : Int32)), (.ref va), (.int (2 : Int32)), (.ref va)])) (fun t k => st63 t (XS.iload X63.here hx rfl (hb hby d6_111) rfl (XT.dup2 X63.here hx rfl (hb hby d6_113) rfl rfl rfl k))) ?_
  obtain ⟨cl64, Ar64, q64, Sz64, Ng64, Hs64, Ft64⟩ := id V_va
  have hin64 := inb_of (j := (2 : Int32)) Sz64 ⟨by decide, by decide⟩
  refine Goes.pre (U' := T63.setTop (mkF m 121 #[.val (.ref a), .val (.ref ve), .val (.double xq), .second, .val (.double xe), .second, .val (.ref nb1), .val (.ref nb8), .val (.double zc), .second, .val (.double xq), .second, .val (.int (2 : Int32)), .val (.double (4598175219545276416 : UInt64)), .second, .val (.int (3 : Int32))] [(.double mm), (.int (2 : Int32)), (.ref va)])) (fun t k => X63.daload hx (j := (2 : Int32)) (v := (.double (0 : UInt64))) (by rw [e63]; exact Ar64.1) (State.isArrayOf_alike hZ.alike Ar64.2.1) Ar64.2.2 hin64 (Has.at Hs64 hin64 rfl) (g := (mkF m 114 #[.val (.ref a), .val (.ref ve), .val (.double xq), .second, .val (.double xe), .second, .val (.ref nb1), .val (.ref nb8), .val (.double zc), .second, .val (.double xq), .second, .val (.int (2 : Int32)), .val (.double (4598175219545276416 : UInt64)), .second, .val (.int (3 : Int32))] [(.int (2 : Int32)), (.ref va), (.int (2 : Int32)), (.ref va)])) rfl rfl (hb hby d6_114) _ (XS.dload X63.here hx rfl (hb hby d6_115) rfl (XS.dload X63.here hx rfl (hb hby d6_117) rfl (XS.dmulS X63.here hx rfl (v := mm) (hb hby d6_119) rfl i2.2 i2.1 (XS.daddS X63.here hx rfl (v := mm) (hb hby d6_120) rfl i3.2 i3.1 k))))) ?_
  obtain ⟨cl65, Ar65, q65, Sz65, Ng65, Hs65, Ft65⟩ := id V_va
  obtain ⟨T65, h65, X65, e65, W65, st65⟩ := stD X63 hx hZ e63 Ar65 (j := (2 : Int32)) (inb_of Sz65 ⟨by decide, by decide⟩) (g := (mkF m 121 #[.val (.ref a), .val (.ref ve), .val (.double xq), .second, .val (.double xe), .second, .val (.ref nb1), .val (.ref nb8), .val (.double zc), .second, .val (.double xq), .second, .val (.int (2 : Int32)), .val (.double (4598175219545276416 : UInt64)), .second, .val (.int (3 : Int32))] [(.double mm), (.int (2 : Int32)), (.ref va)])) rfl rfl (hb hby d6_121)
  have F_value_a := F_value_a.other W65 (Or.inl ne_a_va)
  have F_covariance_a := F_covariance_a.other W65 (Or.inl ne_a_va)
  have E_ve := E_ve.wr W65
  have F_x_ve := F_x_ve.other W65 (Or.inl ne_ve_va)
  have F_y_ve := F_y_ve.other W65 (Or.inl ne_ve_va)
  have F_z_ve := F_z_ve.other W65 (Or.inl ne_ve_va)
  have V_gr := V_gr.other W65 ne_gr_va
  have V_r0 := V_r0.other W65 ne_r0_va
  have V_r1 := V_r1.other W65 ne_r1_va
  have V_r2 := V_r2.other W65 ne_r2_va
  have E_nb1 := E_nb1.wr W65
  have V_nb1 := V_nb1.other W65 ne_nb1_va
  have E_nb8 := E_nb8.wr W65
  have V_nb8 := V_nb8.other W65 ne_nb8_va
  have Z65 : n0 ≤ h65.size := Nat.le_trans Z61 (Keep.of_wr W65).1
  have V_va : Arv Z h65 va kv .double (3 : Int32) [(.double mm), (.double mm), (.double mm)] (.double (0 : UInt64)) := Arv.set Ar65 q65 Sz65 Ng65 Hs65 Ft65 rfl W65 2 rfl (Nat.le_of_ble_eq_true rfl)
  have K65 := K61.wr W65 (Or.inl (List.mem_of_getElem? (i := 0) rfl))
  have N65 := Fr.snoc X65 N61 g_va
  refine Goes.pre (U' := T65.setTop (mkF m 128 #[.val (.ref a), .val (.ref ve), .val (.double xq), .second, .val (.double xe), .second, .val (.ref nb1), .val (.ref nb8), .val (.double zc), .second, .val (.double xq), .second, .val (.int (2 : Int32)), .val (.double (4598175219545276416 : UInt64)), .second, .val (.int (0 : Int32))] [(.int (3 : Int32)), (.int (0 : Int32))])) (fun t k => st65 t (XS.iconst X65.here hx rfl (hb hby d6_122) (XS.istore X65.here hx rfl (hb hby d6_123) rfl (l' := #[.val (.ref a), .val (.ref ve), .val (.double xq), .second, .val (.double xe), .second, .val (.ref nb1), .val (.ref nb8), .val (.double zc), .second, .val (.double xq), .second, .val (.int (2 : Int32)), .val (.double (4598175219545276416 : UInt64)), .second, .val (.int (0 : Int32))]) rfl (XS.iload X65.here hx rfl (hb hby d6_125) rfl (XS.iconst X65.here hx rfl (hb hby d6_127) k))))) ?_
  have hc128 : (0 : Int32) < (3 : Int32) := by decide
  refine Goes.pre (U' := T65.setTop (mkF m 132 #[.val (.ref a), .val (.ref ve), .val (.double xq), .second, .val (.double xe), .second, .val (.ref nb1), .val (.ref nb8), .val (.double zc), .second, .val (.double xq), .second, .val (.int (2 : Int32)), .val (.double (4598175219545276416 : UInt64)), .second, .val (.int (0 : Int32))] [(.ref a)])) (fun t k => XS.icmpNo X65.here hx rfl (hb hby d6_128) rfl (tlt hc128).2.1 (XS.aloadN X65.here hx rfl (hb hby d6_131) rfl rfl k)) ?_
  obtain ⟨T66, X66, e66, st66⟩ := getF X65 hx hZ hown (host := "") (Or.inl (wq hw 14 rfl)) Via.refl e65 F_covariance_a (g := (mkF m 132 #[.val (.ref a), .val (.ref ve), .val (.double xq), .second, .val (.double xe), .second, .val (.ref nb1), .val (.ref nb8), .val (.double zc), .second, .val (.double xq), .second, .val (.int (2 : Int32)), .val (.double (4598175219545276416 : UInt64)), .second, .val (.int (0 : Int32))] [(.ref a)])) rfl rfl (hb hby d6_132)
  refine Goes.pre (U' := T66.setTop (mkF m 137 #[.val (.ref a), .val (.ref ve), .val (.double xq), .second, .val (.double xe), .second, .val (.ref nb1), .val (.ref nb8), .val (.double zc), .second, .val (.double xq), .second, .val (.int (2 : Int32)), .val (.double (4598175219545276416 : UInt64)), .second, .val (.int (0 : Int32))] [(.int (2 : Int32)), (.ref gr)])) (fun t k => st66 t (XS.iload X66.here hx rfl (hb hby d6_135) rfl k)) ?_
  obtain ⟨cl67, Ar67, q67, Sz67, Ng67, Hs67, Ft67⟩ := id V_gr
  have hin67 := inb_of (j := (2 : Int32)) Sz67 ⟨by decide, by decide⟩
  refine Goes.pre (U' := T66.setTop (mkF m 141 #[.val (.ref a), .val (.ref ve), .val (.double xq), .second, .val (.double xe), .second, .val (.ref nb1), .val (.ref nb8), .val (.double zc), .second, .val (.double xq), .second, .val (.int (2 : Int32)), .val (.double (4598175219545276416 : UInt64)), .second, .val (.int (0 : Int32))] [(.int (0 : Int32)), (.ref r2), (.int (0 : Int32)), (.ref r2)])) (fun t k => X66.aaload hx (j := (2 : Int32)) (v := (.ref r2)) (by rw [e66]; exact Ar67.1) (State.isArrayOf_alike hZ.alike Ar67.2.1) rfl Ar67.2.2 hin67 (Has.at Hs67 hin67 rfl) (g := (mkF m 137 #[.val (.ref a), .val (.ref ve), .val (.double xq), .second, .val (.double xe), .second, .val (.ref nb1), .val (.ref nb8), .val (.double zc), .second, .val (.double xq), .second, .val (.int (2 : Int32)), .val (.double (4598175219545276416 : UInt64)), .second, .val (.int (0 : Int32))] [(.int (2 : Int32)), (.ref gr)])) rfl rfl (hb hby d6_137) _ (XS.iload X66.here hx rfl (hb hby d6_138) rfl (XT.dup2 X66.here hx rfl (hb hby d6_140) rfl rfl rfl k))) ?_
  obtain ⟨cl68, Ar68, q68, Sz68, Ng68, Hs68, Ft68⟩ := id V_r2
  have hin68 := inb_of (j := (0 : Int32)) Sz68 ⟨by decide, by decide⟩
  refine Goes.pre (U' := T66.setTop (mkF m 148 #[.val (.ref a), .val (.ref ve), .val (.double xq), .second, .val (.double xe), .second, .val (.ref nb1), .val (.ref nb8), .val (.double zc), .second, .val (.double xq), .second, .val (.int (2 : Int32)), .val (.double (4598175219545276416 : UInt64)), .second, .val (.int (0 : Int32))] [(.int (0 : Int32)), (.ref nb8), (.double (4598175219545276416 : UInt64)), (.double (0 : UInt64)), (.int (0 : Int32)), (.ref r2)])) (fun t k => X66.daload hx (j := (0 : Int32)) (v := (.double (0 : UInt64))) (by rw [e66]; exact Ar68.1) (State.isArrayOf_alike hZ.alike Ar68.2.1) Ar68.2.2 hin68 (Has.at Hs68 hin68 rfl) (g := (mkF m 141 #[.val (.ref a), .val (.ref ve), .val (.double xq), .second, .val (.double xe), .second, .val (.ref nb1), .val (.ref nb8), .val (.double zc), .second, .val (.double xq), .second, .val (.int (2 : Int32)), .val (.double (4598175219545276416 : UInt64)), .second, .val (.int (0 : Int32))] [(.int (0 : Int32)), (.ref r2), (.int (0 : Int32)), (.ref r2)])) rfl rfl (hb hby d6_141) _ (XS.dload X66.here hx rfl (hb hby d6_142) rfl (XS.aload X66.here hx rfl (hb hby d6_144) rfl rfl (XS.iload X66.here hx rfl (hb hby d6_146) rfl k)))) ?_
  obtain ⟨cl69, Ar69, q69, Sz69, Ng69, Hs69, Ft69⟩ := id V_nb8
  have hin69 := inb_of (j := (0 : Int32)) Sz69 ⟨by decide, by decide⟩
  refine Goes.pre (U' := T66.setTop (mkF m 151 #[.val (.ref a), .val (.ref ve), .val (.double xq), .second, .val (.double xe), .second, .val (.ref nb1), .val (.ref nb8), .val (.double zc), .second, .val (.double xq), .second, .val (.int (2 : Int32)), .val (.double (4598175219545276416 : UInt64)), .second, .val (.int (0 : Int32))] [(.double zy), (.int (0 : Int32)), (.ref r2)])) (fun t k => X66.daload hx (j := (0 : Int32)) (v := (.double xe)) (by rw [e66]; exact Ar69.1) (State.isArrayOf_alike hZ.alike Ar69.2.1) Ar69.2.2 hin69 (Has.at Hs69 hin69 rfl) (g := (mkF m 148 #[.val (.ref a), .val (.ref ve), .val (.double xq), .second, .val (.double xe), .second, .val (.ref nb1), .val (.ref nb8), .val (.double zc), .second, .val (.double xq), .second, .val (.int (2 : Int32)), .val (.double (4598175219545276416 : UInt64)), .second, .val (.int (0 : Int32))] [(.int (0 : Int32)), (.ref nb8), (.double (4598175219545276416 : UInt64)), (.double (0 : UInt64)), (.int (0 : Int32)), (.ref r2)])) rfl rfl (hb hby d6_148) _ (XS.dmulS X66.here hx rfl (v := zq) (hb hby d6_149) rfl o9.2 o9.1 (XS.dsubS X66.here hx rfl (v := zy) (hb hby d6_150) rfl o11.2 o11.1 k))) ?_
  obtain ⟨cl70, Ar70, q70, Sz70, Ng70, Hs70, Ft70⟩ := id V_r2
  obtain ⟨T70, h70, X70, e70, W70, st70⟩ := stD X66 hx hZ e66 Ar70 (j := (0 : Int32)) (inb_of Sz70 ⟨by decide, by decide⟩) (g := (mkF m 151 #[.val (.ref a), .val (.ref ve), .val (.double xq), .second, .val (.double xe), .second, .val (.ref nb1), .val (.ref nb8), .val (.double zc), .second, .val (.double xq), .second, .val (.int (2 : Int32)), .val (.double (4598175219545276416 : UInt64)), .second, .val (.int (0 : Int32))] [(.double zy), (.int (0 : Int32)), (.ref r2)])) rfl rfl (hb hby d6_151)
  have F_value_a := F_value_a.other W70 (Or.inl ne_a_r2)
  have F_covariance_a := F_covariance_a.other W70 (Or.inl ne_a_r2)
  have E_ve := E_ve.wr W70
  have V_va := V_va.other W70 ne_va_r2
  have F_x_ve := F_x_ve.other W70 (Or.inl ne_ve_r2)
  have F_y_ve := F_y_ve.other W70 (Or.inl ne_ve_r2)
  have F_z_ve := F_z_ve.other W70 (Or.inl ne_ve_r2)
  have V_gr := V_gr.other W70 ne_gr_r2
  have V_r0 := V_r0.other W70 ne_r0_r2
  have V_r1 := V_r1.other W70 ne_r1_r2
  have E_nb1 := E_nb1.wr W70
  have V_nb1 := V_nb1.other W70 ne_nb1_r2
  have E_nb8 := E_nb8.wr W70
  have V_nb8 := V_nb8.other W70 ne_nb8_r2
  have Z70 : n0 ≤ h70.size := Nat.le_trans Z65 (Keep.of_wr W70).1
  have V_r2 : Arv Z h70 r2 kr .double (3 : Int32) [(.double zy), (.double (0 : UInt64)), (.double xe)] (.double (0 : UInt64)) := Arv.set Ar70 q70 Sz70 Ng70 Hs70 Ft70 rfl W70 0 rfl (Nat.le_of_ble_eq_true rfl)
  have K70 := K65.wr W70 (Or.inl (List.mem_of_getElem? (i := 3) rfl))
  have N70 := Fr.snoc X70 N65 g_r2
  refine Goes.pre (U' := T70.setTop (mkF m 155 #[.val (.ref a), .val (.ref ve), .val (.double xq), .second, .val (.double xe), .second, .val (.ref nb1), .val (.ref nb8), .val (.double zc), .second, .val (.double xq), .second, .val (.int (2 : Int32)), .val (.double (4598175219545276416 : UInt64)), .second, .val (.int ((0 : Int32) + (1 : Int32)))] [])) (fun t k => st70 t (XT.iincV X70.here hx rfl (1 : Int32) (hb hby d6_152) (by decide) rfl (l' := #[.val (.ref a), .val (.ref ve), .val (.double xq), .second, .val (.double xe), .second, .val (.ref nb1), .val (.ref nb8), .val (.double zc), .second, .val (.double xq), .second, .val (.int (2 : Int32)), .val (.double (4598175219545276416 : UInt64)), .second, .val (.int ((0 : Int32) + (1 : Int32)))]) rfl k)) ?_
  rw [(by decide : ((0 : Int32) + (1 : Int32)) = (1 : Int32))]
  refine Goes.pre (U' := T70.setTop (mkF m 128 #[.val (.ref a), .val (.ref ve), .val (.double xq), .second, .val (.double xe), .second, .val (.ref nb1), .val (.ref nb8), .val (.double zc), .second, .val (.double xq), .second, .val (.int (2 : Int32)), .val (.double (4598175219545276416 : UInt64)), .second, .val (.int (1 : Int32))] [(.int (3 : Int32)), (.int (1 : Int32))])) (fun t k => XS.goto X70.here hx rfl (pc0 := 155) (pc' := 125) rfl (hb hby d6_155) (by decide) (by decide) (XS.iload X70.here hx rfl (hb hby d6_125) rfl (XS.iconst X70.here hx rfl (hb hby d6_127) k))) ?_
  have hc128 : (1 : Int32) < (3 : Int32) := by decide
  refine Goes.pre (U' := T70.setTop (mkF m 132 #[.val (.ref a), .val (.ref ve), .val (.double xq), .second, .val (.double xe), .second, .val (.ref nb1), .val (.ref nb8), .val (.double zc), .second, .val (.double xq), .second, .val (.int (2 : Int32)), .val (.double (4598175219545276416 : UInt64)), .second, .val (.int (1 : Int32))] [(.ref a)])) (fun t k => XS.icmpNo X70.here hx rfl (hb hby d6_128) rfl (tlt hc128).2.1 (XS.aloadN X70.here hx rfl (hb hby d6_131) rfl rfl k)) ?_
  obtain ⟨T71, X71, e71, st71⟩ := getF X70 hx hZ hown (host := "") (Or.inl (wq hw 14 rfl)) Via.refl e70 F_covariance_a (g := (mkF m 132 #[.val (.ref a), .val (.ref ve), .val (.double xq), .second, .val (.double xe), .second, .val (.ref nb1), .val (.ref nb8), .val (.double zc), .second, .val (.double xq), .second, .val (.int (2 : Int32)), .val (.double (4598175219545276416 : UInt64)), .second, .val (.int (1 : Int32))] [(.ref a)])) rfl rfl (hb hby d6_132)
  refine Goes.pre (U' := T71.setTop (mkF m 137 #[.val (.ref a), .val (.ref ve), .val (.double xq), .second, .val (.double xe), .second, .val (.ref nb1), .val (.ref nb8), .val (.double zc), .second, .val (.double xq), .second, .val (.int (2 : Int32)), .val (.double (4598175219545276416 : UInt64)), .second, .val (.int (1 : Int32))] [(.int (2 : Int32)), (.ref gr)])) (fun t k => st71 t (XS.iload X71.here hx rfl (hb hby d6_135) rfl k)) ?_
  obtain ⟨cl72, Ar72, q72, Sz72, Ng72, Hs72, Ft72⟩ := id V_gr
  have hin72 := inb_of (j := (2 : Int32)) Sz72 ⟨by decide, by decide⟩
  refine Goes.pre (U' := T71.setTop (mkF m 141 #[.val (.ref a), .val (.ref ve), .val (.double xq), .second, .val (.double xe), .second, .val (.ref nb1), .val (.ref nb8), .val (.double zc), .second, .val (.double xq), .second, .val (.int (2 : Int32)), .val (.double (4598175219545276416 : UInt64)), .second, .val (.int (1 : Int32))] [(.int (1 : Int32)), (.ref r2), (.int (1 : Int32)), (.ref r2)])) (fun t k => X71.aaload hx (j := (2 : Int32)) (v := (.ref r2)) (by rw [e71]; exact Ar72.1) (State.isArrayOf_alike hZ.alike Ar72.2.1) rfl Ar72.2.2 hin72 (Has.at Hs72 hin72 rfl) (g := (mkF m 137 #[.val (.ref a), .val (.ref ve), .val (.double xq), .second, .val (.double xe), .second, .val (.ref nb1), .val (.ref nb8), .val (.double zc), .second, .val (.double xq), .second, .val (.int (2 : Int32)), .val (.double (4598175219545276416 : UInt64)), .second, .val (.int (1 : Int32))] [(.int (2 : Int32)), (.ref gr)])) rfl rfl (hb hby d6_137) _ (XS.iload X71.here hx rfl (hb hby d6_138) rfl (XT.dup2 X71.here hx rfl (hb hby d6_140) rfl rfl rfl k))) ?_
  obtain ⟨cl73, Ar73, q73, Sz73, Ng73, Hs73, Ft73⟩ := id V_r2
  have hin73 := inb_of (j := (1 : Int32)) Sz73 ⟨by decide, by decide⟩
  refine Goes.pre (U' := T71.setTop (mkF m 148 #[.val (.ref a), .val (.ref ve), .val (.double xq), .second, .val (.double xe), .second, .val (.ref nb1), .val (.ref nb8), .val (.double zc), .second, .val (.double xq), .second, .val (.int (2 : Int32)), .val (.double (4598175219545276416 : UInt64)), .second, .val (.int (1 : Int32))] [(.int (1 : Int32)), (.ref nb8), (.double (4598175219545276416 : UInt64)), (.double (0 : UInt64)), (.int (1 : Int32)), (.ref r2)])) (fun t k => X71.daload hx (j := (1 : Int32)) (v := (.double (0 : UInt64))) (by rw [e71]; exact Ar73.1) (State.isArrayOf_alike hZ.alike Ar73.2.1) Ar73.2.2 hin73 (Has.at Hs73 hin73 rfl) (g := (mkF m 141 #[.val (.ref a), .val (.ref ve), .val (.double xq), .second, .val (.double xe), .second, .val (.ref nb1), .val (.ref nb8), .val (.double zc), .second, .val (.double xq), .second, .val (.int (2 : Int32)), .val (.double (4598175219545276416 : UInt64)), .second, .val (.int (1 : Int32))] [(.int (1 : Int32)), (.ref r2), (.int (1 : Int32)), (.ref r2)])) rfl rfl (hb hby d6_141) _ (XS.dload X71.here hx rfl (hb hby d6_142) rfl (XS.aload X71.here hx rfl (hb hby d6_144) rfl rfl (XS.iload X71.here hx rfl (hb hby d6_146) rfl k)))) ?_
  obtain ⟨cl74, Ar74, q74, Sz74, Ng74, Hs74, Ft74⟩ := id V_nb8
  have hin74 := inb_of (j := (1 : Int32)) Sz74 ⟨by decide, by decide⟩
  refine Goes.pre (U' := T71.setTop (mkF m 151 #[.val (.ref a), .val (.ref ve), .val (.double xq), .second, .val (.double xe), .second, .val (.ref nb1), .val (.ref nb8), .val (.double zc), .second, .val (.double xq), .second, .val (.int (2 : Int32)), .val (.double (4598175219545276416 : UInt64)), .second, .val (.int (1 : Int32))] [(.double zy), (.int (1 : Int32)), (.ref r2)])) (fun t k => X71.daload hx (j := (1 : Int32)) (v := (.double xe)) (by rw [e71]; exact Ar74.1) (State.isArrayOf_alike hZ.alike Ar74.2.1) Ar74.2.2 hin74 (Has.at Hs74 hin74 rfl) (g := (mkF m 148 #[.val (.ref a), .val (.ref ve), .val (.double xq), .second, .val (.double xe), .second, .val (.ref nb1), .val (.ref nb8), .val (.double zc), .second, .val (.double xq), .second, .val (.int (2 : Int32)), .val (.double (4598175219545276416 : UInt64)), .second, .val (.int (1 : Int32))] [(.int (1 : Int32)), (.ref nb8), (.double (4598175219545276416 : UInt64)), (.double (0 : UInt64)), (.int (1 : Int32)), (.ref r2)])) rfl rfl (hb hby d6_148) _ (XS.dmulS X71.here hx rfl (v := zq) (hb hby d6_149) rfl o9.2 o9.1 (XS.dsubS X71.here hx rfl (v := zy) (hb hby d6_150) rfl o11.2 o11.1 k))) ?_
  obtain ⟨cl75, Ar75, q75, Sz75, Ng75, Hs75, Ft75⟩ := id V_r2
  obtain ⟨T75, h75, X75, e75, W75, st75⟩ := stD X71 hx hZ e71 Ar75 (j := (1 : Int32)) (inb_of Sz75 ⟨by decide, by decide⟩) (g := (mkF m 151 #[.val (.ref a), .val (.ref ve), .val (.double xq), .second, .val (.double xe), .second, .val (.ref nb1), .val (.ref nb8), .val (.double zc), .second, .val (.double xq), .second, .val (.int (2 : Int32)), .val (.double (4598175219545276416 : UInt64)), .second, .val (.int (1 : Int32))] [(.double zy), (.int (1 : Int32)), (.ref r2)])) rfl rfl (hb hby d6_151)
  have F_value_a := F_value_a.other W75 (Or.inl ne_a_r2)
  have F_covariance_a := F_covariance_a.other W75 (Or.inl ne_a_r2)
  have E_ve := E_ve.wr W75
  have V_va := V_va.other W75 ne_va_r2
  have F_x_ve := F_x_ve.other W75 (Or.inl ne_ve_r2)
  have F_y_ve := F_y_ve.other W75 (Or.inl ne_ve_r2)
  have F_z_ve := F_z_ve.other W75 (Or.inl ne_ve_r2)
  have V_gr := V_gr.other W75 ne_gr_r2
  have V_r0 := V_r0.other W75 ne_r0_r2
  have V_r1 := V_r1.other W75 ne_r1_r2
  have E_nb1 := E_nb1.wr W75
  have V_nb1 := V_nb1.other W75 ne_nb1_r2
  have E_nb8 := E_nb8.wr W75
  have V_nb8 := V_nb8.other W75 ne_nb8_r2
  have Z75 : n0 ≤ h75.size := Nat.le_trans Z70 (Keep.of_wr W75).1
  have V_r2 : Arv Z h75 r2 kr .double (3 : Int32) [(.double zy), (.double zy), (.double xe)] (.double (0 : UInt64)) := Arv.set Ar75 q75 Sz75 Ng75 Hs75 Ft75 rfl W75 1 rfl (Nat.le_of_ble_eq_true rfl)
  have K75 := K70.wr W75 (Or.inl (List.mem_of_getElem? (i := 3) rfl))
  have N75 := Fr.snoc X75 N70 g_r2
  refine Goes.pre (U' := T75.setTop (mkF m 155 #[.val (.ref a), .val (.ref ve), .val (.double xq), .second, .val (.double xe), .second, .val (.ref nb1), .val (.ref nb8), .val (.double zc), .second, .val (.double xq), .second, .val (.int (2 : Int32)), .val (.double (4598175219545276416 : UInt64)), .second, .val (.int ((1 : Int32) + (1 : Int32)))] [])) (fun t k => st75 t (XT.iincV X75.here hx rfl (1 : Int32) (hb hby d6_152) (by decide) rfl (l' := #[.val (.ref a), .val (.ref ve), .val (.double xq), .second, .val (.double xe), .second, .val (.ref nb1), .val (.ref nb8), .val (.double zc), .second, .val (.double xq), .second, .val (.int (2 : Int32)), .val (.double (4598175219545276416 : UInt64)), .second, .val (.int ((1 : Int32) + (1 : Int32)))]) rfl k)) ?_
  rw [(by decide : ((1 : Int32) + (1 : Int32)) = (2 : Int32))]
  refine Goes.pre (U' := T75.setTop (mkF m 128 #[.val (.ref a), .val (.ref ve), .val (.double xq), .second, .val (.double xe), .second, .val (.ref nb1), .val (.ref nb8), .val (.double zc), .second, .val (.double xq), .second, .val (.int (2 : Int32)), .val (.double (4598175219545276416 : UInt64)), .second, .val (.int (2 : Int32))] [(.int (3 : Int32)), (.int (2 : Int32))])) (fun t k => XS.goto X75.here hx rfl (pc0 := 155) (pc' := 125) rfl (hb hby d6_155) (by decide) (by decide) (XS.iload X75.here hx rfl (hb hby d6_125) rfl (XS.iconst X75.here hx rfl (hb hby d6_127) k))) ?_
  have hc128 : (2 : Int32) < (3 : Int32) := by decide
  refine Goes.pre (U' := T75.setTop (mkF m 132 #[.val (.ref a), .val (.ref ve), .val (.double xq), .second, .val (.double xe), .second, .val (.ref nb1), .val (.ref nb8), .val (.double zc), .second, .val (.double xq), .second, .val (.int (2 : Int32)), .val (.double (4598175219545276416 : UInt64)), .second, .val (.int (2 : Int32))] [(.ref a)])) (fun t k => XS.icmpNo X75.here hx rfl (hb hby d6_128) rfl (tlt hc128).2.1 (XS.aloadN X75.here hx rfl (hb hby d6_131) rfl rfl k)) ?_
  obtain ⟨T76, X76, e76, st76⟩ := getF X75 hx hZ hown (host := "") (Or.inl (wq hw 14 rfl)) Via.refl e75 F_covariance_a (g := (mkF m 132 #[.val (.ref a), .val (.ref ve), .val (.double xq), .second, .val (.double xe), .second, .val (.ref nb1), .val (.ref nb8), .val (.double zc), .second, .val (.double xq), .second, .val (.int (2 : Int32)), .val (.double (4598175219545276416 : UInt64)), .second, .val (.int (2 : Int32))] [(.ref a)])) rfl rfl (hb hby d6_132)
  refine Goes.pre (U' := T76.setTop (mkF m 137 #[.val (.ref a), .val (.ref ve), .val (.double xq), .second, .val (.double xe), .second, .val (.ref nb1), .val (.ref nb8), .val (.double zc), .second, .val (.double xq), .second, .val (.int (2 : Int32)), .val (.double (4598175219545276416 : UInt64)), .second, .val (.int (2 : Int32))] [(.int (2 : Int32)), (.ref gr)])) (fun t k => st76 t (XS.iload X76.here hx rfl (hb hby d6_135) rfl k)) ?_
  obtain ⟨cl77, Ar77, q77, Sz77, Ng77, Hs77, Ft77⟩ := id V_gr
  have hin77 := inb_of (j := (2 : Int32)) Sz77 ⟨by decide, by decide⟩
  refine Goes.pre (U' := T76.setTop (mkF m 141 #[.val (.ref a), .val (.ref ve), .val (.double xq), .second, .val (.double xe), .second, .val (.ref nb1), .val (.ref nb8), .val (.double zc), .second, .val (.double xq), .second, .val (.int (2 : Int32)), .val (.double (4598175219545276416 : UInt64)), .second, .val (.int (2 : Int32))] [(.int (2 : Int32)), (.ref r2), (.int (2 : Int32)), (.ref r2)])) (fun t k => X76.aaload hx (j := (2 : Int32)) (v := (.ref r2)) (by rw [e76]; exact Ar77.1) (State.isArrayOf_alike hZ.alike Ar77.2.1) rfl Ar77.2.2 hin77 (Has.at Hs77 hin77 rfl) (g := (mkF m 137 #[.val (.ref a), .val (.ref ve), .val (.double xq), .second, .val (.double xe), .second, .val (.ref nb1), .val (.ref nb8), .val (.double zc), .second, .val (.double xq), .second, .val (.int (2 : Int32)), .val (.double (4598175219545276416 : UInt64)), .second, .val (.int (2 : Int32))] [(.int (2 : Int32)), (.ref gr)])) rfl rfl (hb hby d6_137) _ (XS.iload X76.here hx rfl (hb hby d6_138) rfl (XT.dup2 X76.here hx rfl (hb hby d6_140) rfl rfl rfl k))) ?_
  obtain ⟨cl78, Ar78, q78, Sz78, Ng78, Hs78, Ft78⟩ := id V_r2
  have hin78 := inb_of (j := (2 : Int32)) Sz78 ⟨by decide, by decide⟩
  refine Goes.pre (U' := T76.setTop (mkF m 148 #[.val (.ref a), .val (.ref ve), .val (.double xq), .second, .val (.double xe), .second, .val (.ref nb1), .val (.ref nb8), .val (.double zc), .second, .val (.double xq), .second, .val (.int (2 : Int32)), .val (.double (4598175219545276416 : UInt64)), .second, .val (.int (2 : Int32))] [(.int (2 : Int32)), (.ref nb8), (.double (4598175219545276416 : UInt64)), (.double xe), (.int (2 : Int32)), (.ref r2)])) (fun t k => X76.daload hx (j := (2 : Int32)) (v := (.double xe)) (by rw [e76]; exact Ar78.1) (State.isArrayOf_alike hZ.alike Ar78.2.1) Ar78.2.2 hin78 (Has.at Hs78 hin78 rfl) (g := (mkF m 141 #[.val (.ref a), .val (.ref ve), .val (.double xq), .second, .val (.double xe), .second, .val (.ref nb1), .val (.ref nb8), .val (.double zc), .second, .val (.double xq), .second, .val (.int (2 : Int32)), .val (.double (4598175219545276416 : UInt64)), .second, .val (.int (2 : Int32))] [(.int (2 : Int32)), (.ref r2), (.int (2 : Int32)), (.ref r2)])) rfl rfl (hb hby d6_141) _ (XS.dload X76.here hx rfl (hb hby d6_142) rfl (XS.aload X76.here hx rfl (hb hby d6_144) rfl rfl (XS.iload X76.here hx rfl (hb hby d6_146) rfl k)))) ?_
  obtain ⟨cl79, Ar79, q79, Sz79, Ng79, Hs79, Ft79⟩ := id V_nb8
  have hin79 := inb_of (j := (2 : Int32)) Sz79 ⟨by decide, by decide⟩
  refine Goes.pre (U' := T76.setTop (mkF m 151 #[.val (.ref a), .val (.ref ve), .val (.double xq), .second, .val (.double xe), .second, .val (.ref nb1), .val (.ref nb8), .val (.double zc), .second, .val (.double xq), .second, .val (.int (2 : Int32)), .val (.double (4598175219545276416 : UInt64)), .second, .val (.int (2 : Int32))] [(.double zx), (.int (2 : Int32)), (.ref r2)])) (fun t k => X76.daload hx (j := (2 : Int32)) (v := (.double xe)) (by rw [e76]; exact Ar79.1) (State.isArrayOf_alike hZ.alike Ar79.2.1) Ar79.2.2 hin79 (Has.at Hs79 hin79 rfl) (g := (mkF m 148 #[.val (.ref a), .val (.ref ve), .val (.double xq), .second, .val (.double xe), .second, .val (.ref nb1), .val (.ref nb8), .val (.double zc), .second, .val (.double xq), .second, .val (.int (2 : Int32)), .val (.double (4598175219545276416 : UInt64)), .second, .val (.int (2 : Int32))] [(.int (2 : Int32)), (.ref nb8), (.double (4598175219545276416 : UInt64)), (.double xe), (.int (2 : Int32)), (.ref r2)])) rfl rfl (hb hby d6_148) _ (XS.dmulS X76.here hx rfl (v := zq) (hb hby d6_149) rfl o9.2 o9.1 (XS.dsubS X76.here hx rfl (v := zx) (hb hby d6_150) rfl o10.2 o10.1 k))) ?_
  obtain ⟨cl80, Ar80, q80, Sz80, Ng80, Hs80, Ft80⟩ := id V_r2
  obtain ⟨T80, h80, X80, e80, W80, st80⟩ := stD X76 hx hZ e76 Ar80 (j := (2 : Int32)) (inb_of Sz80 ⟨by decide, by decide⟩) (g := (mkF m 151 #[.val (.ref a), .val (.ref ve), .val (.double xq), .second, .val (.double xe), .second, .val (.ref nb1), .val (.ref nb8), .val (.double zc), .second, .val (.double xq), .second, .val (.int (2 : Int32)), .val (.double (4598175219545276416 : UInt64)), .second, .val (.int (2 : Int32))] [(.double zx), (.int (2 : Int32)), (.ref r2)])) rfl rfl (hb hby d6_151)
  have F_value_a := F_value_a.other W80 (Or.inl ne_a_r2)
  have F_covariance_a := F_covariance_a.other W80 (Or.inl ne_a_r2)
  have E_ve := E_ve.wr W80
  have V_va := V_va.other W80 ne_va_r2
  have F_x_ve := F_x_ve.other W80 (Or.inl ne_ve_r2)
  have F_y_ve := F_y_ve.other W80 (Or.inl ne_ve_r2)
  have F_z_ve := F_z_ve.other W80 (Or.inl ne_ve_r2)
  have V_gr := V_gr.other W80 ne_gr_r2
  have V_r0 := V_r0.other W80 ne_r0_r2
  have V_r1 := V_r1.other W80 ne_r1_r2
  have E_nb1 := E_nb1.wr W80
  have V_nb1 := V_nb1.other W80 ne_nb1_r2
  have E_nb8 := E_nb8.wr W80
  have V_nb8 := V_nb8.other W80 ne_nb8_r2
  have Z80 : n0 ≤ h80.size := Nat.le_trans Z75 (Keep.of_wr W80).1
  have V_r2 : Arv Z h80 r2 kr .double (3 : Int32) [(.double zy), (.double zy), (.double zx)] (.double (0 : UInt64)) := Arv.set Ar80 q80 Sz80 Ng80 Hs80 Ft80 rfl W80 2 rfl (Nat.le_of_ble_eq_true rfl)
  have K80 := K75.wr W80 (Or.inl (List.mem_of_getElem? (i := 3) rfl))
  have N80 := Fr.snoc X80 N75 g_r2
  refine Goes.pre (U' := T80.setTop (mkF m 155 #[.val (.ref a), .val (.ref ve), .val (.double xq), .second, .val (.double xe), .second, .val (.ref nb1), .val (.ref nb8), .val (.double zc), .second, .val (.double xq), .second, .val (.int (2 : Int32)), .val (.double (4598175219545276416 : UInt64)), .second, .val (.int ((2 : Int32) + (1 : Int32)))] [])) (fun t k => st80 t (XT.iincV X80.here hx rfl (1 : Int32) (hb hby d6_152) (by decide) rfl (l' := #[.val (.ref a), .val (.ref ve), .val (.double xq), .second, .val (.double xe), .second, .val (.ref nb1), .val (.ref nb8), .val (.double zc), .second, .val (.double xq), .second, .val (.int (2 : Int32)), .val (.double (4598175219545276416 : UInt64)), .second, .val (.int ((2 : Int32) + (1 : Int32)))]) rfl k)) ?_
  rw [(by decide : ((2 : Int32) + (1 : Int32)) = (3 : Int32))]
  refine Goes.pre (U' := T80.setTop (mkF m 128 #[.val (.ref a), .val (.ref ve), .val (.double xq), .second, .val (.double xe), .second, .val (.ref nb1), .val (.ref nb8), .val (.double zc), .second, .val (.double xq), .second, .val (.int (2 : Int32)), .val (.double (4598175219545276416 : UInt64)), .second, .val (.int (3 : Int32))] [(.int (3 : Int32)), (.int (3 : Int32))])) (fun t k => XS.goto X80.here hx rfl (pc0 := 155) (pc' := 125) rfl (hb hby d6_155) (by decide) (by decide) (XS.iload X80.here hx rfl (hb hby d6_125) rfl (XS.iconst X80.here hx rfl (hb hby d6_127) k))) ?_
  have hc128 : ¬ ((3 : Int32) < (3 : Int32)) := by decide
  refine Goes.pre (U' := T80.setTop (mkF m 161 #[.val (.ref a), .val (.ref ve), .val (.double xq), .second, .val (.double xe), .second, .val (.ref nb1), .val (.ref nb8), .val (.double zc), .second, .val (.double xq), .second, .val (.int ((2 : Int32) + (1 : Int32))), .val (.double (4598175219545276416 : UInt64)), .second, .val (.int (3 : Int32))] [])) (fun t k => XS.icmpYes X80.here hx rfl (pc0 := 128) (pc' := 158) rfl (hb hby d6_128) rfl (flt hc128).2.1 (by decide) (by decide) (XT.iincV X80.here hx rfl (1 : Int32) (hb hby d6_158) (by decide) rfl (l' := #[.val (.ref a), .val (.ref ve), .val (.double xq), .second, .val (.double xe), .second, .val (.ref nb1), .val (.ref nb8), .val (.double zc), .second, .val (.double xq), .second, .val (.int ((2 : Int32) + (1 : Int32))), .val (.double (4598175219545276416 : UInt64)), .second, .val (.int (3 : Int32))]) rfl k)) ?_
  rw [(by decide : ((2 : Int32) + (1 : Int32)) = (3 : Int32))]
  refine Goes.pre (U' := T80.setTop (mkF m 94 #[.val (.ref a), .val (.ref ve), .val (.double xq), .second, .val (.double xe), .second, .val (.ref nb1), .val (.ref nb8), .val (.double zc), .second, .val (.double xq), .second, .val (.int (3 : Int32)), .val (.double (4598175219545276416 : UInt64)), .second, .val (.int (3 : Int32))] [(.int (3 : Int32)), (.int (3 : Int32))])) (fun t k => XS.goto X80.here hx rfl (pc0 := 161) (pc' := 91) rfl (hb hby d6_161) (by decide) (by decide) (XS.iload X80.here hx rfl (hb hby d6_91) rfl (XS.iconst X80.here hx rfl (hb hby d6_93) k))) ?_
  have hc94 : ¬ ((3 : Int32) < (3 : Int32)) := by decide
  refine Goes.pre (U' := T80.setTop (mkF m 164 #[.val (.ref a), .val (.ref ve), .val (.double xq), .second, .val (.double xe), .second, .val (.ref nb1), .val (.ref nb8), .val (.double zc), .second, .val (.double xq), .second, .val (.int (3 : Int32)), .val (.double (4598175219545276416 : UInt64)), .second, .val (.int (3 : Int32))] [])) (fun t k => XS.icmpYes X80.here hx rfl (pc0 := 94) (pc' := 164) rfl (hb hby d6_94) rfl (flt hc94).2.1 (by decide) (by decide) k) ?_
  refine Goes.ret X80 (v := none) (fun _ => rfl) hlk (by decide) (by decide) e80 (fun fs hr => X80.returnOut hx hret (hb hby d6_164) hr) ?_
  exact ⟨rfl, N80, K80, V_va⟩
theorem ef_rm_value (m : MethodId) (x0 : Addr) : entryFrame m #[(.ref x0)] 1 = mkF m 0 #[.val (.ref x0)] [] := by first | (simp [entryFrame, mkF, argsToLocals, Value.category]; done) | rfl
abbrev M11 : MethodName := ⟨"com/example/corpo/corpo/orientation/GyroBias", "value", "()Lcom/example/corpo/corpo/samples/Vector3;"⟩
theorem d11_0 : decode prog_8_method_2_code 0 = .ok (.new 22, 3) := by decide +kernel
theorem d11_3 : decode prog_8_method_2_code 3 = .ok (.dup, 1) := by decide +kernel
theorem d11_4 : decode prog_8_method_2_code 4 = .ok (.aload_n 0, 1) := by decide +kernel
theorem d11_5 : decode prog_8_method_2_code 5 = .ok (.getfield 7, 3) := by decide +kernel
theorem d11_8 : decode prog_8_method_2_code 8 = .ok (.iconst 0, 1) := by decide +kernel
theorem d11_9 : decode prog_8_method_2_code 9 = .ok (.daload, 1) := by decide +kernel
theorem d11_10 : decode prog_8_method_2_code 10 = .ok (.aload_n 0, 1) := by decide +kernel
theorem d11_11 : decode prog_8_method_2_code 11 = .ok (.getfield 7, 3) := by decide +kernel
theorem d11_14 : decode prog_8_method_2_code 14 = .ok (.iconst 1, 1) := by decide +kernel
theorem d11_15 : decode prog_8_method_2_code 15 = .ok (.daload, 1) := by decide +kernel
theorem d11_16 : decode prog_8_method_2_code 16 = .ok (.aload_n 0, 1) := by decide +kernel
theorem d11_17 : decode prog_8_method_2_code 17 = .ok (.getfield 7, 3) := by decide +kernel
theorem d11_20 : decode prog_8_method_2_code 20 = .ok (.iconst 2, 1) := by decide +kernel
theorem d11_21 : decode prog_8_method_2_code 21 = .ok (.daload, 1) := by decide +kernel
theorem d11_22 : decode prog_8_method_2_code 22 = .ok (.invokespecial 24, 3) := by decide +kernel
theorem pd__28DDD_29V : parseMethodDescriptor "(DDD)V" = some ⟨[.double, .double, .double], none⟩ := by decide +kernel
theorem d11_25 : decode prog_8_method_2_code 25 = .ok (.areturn, 1) := by decide +kernel
def Q_rm_value (Z : State) (a : Addr) (va : Addr) (kv : ClassId) (xx : UInt64) (yy : UInt64) (zz : UInt64) (h0 : Heap) (n0 : Nat) (v : Option Value) (h : Heap) (L : List Loc) : Prop := ∃ (r : Addr), v = some (.ref r) ∧ Fr n0 L ∧ Keep h0 h [] ∧ Exa Z h r "com/example/corpo/corpo/samples/Vector3" ∧ Fld Z h r "com/example/corpo/corpo/samples/Vector3" "x" "D" (.double xx) ∧ Fld Z h r "com/example/corpo/corpo/samples/Vector3" "y" "D" (.double yy) ∧ Fld Z h r "com/example/corpo/corpo/samples/Vector3" "z" "D" (.double zz) ∧ n0 ≤ r ∧ h0.size ≤ r
set_option maxRecDepth 65536 in
set_option maxHeartbeats 40000000 in
theorem rm_value (l : Launch) (Z : State) (a0 : Array Value) (hw : ∀ d ∈ tables_1, d.before a0 Z = true) (ws : List Jvm.Cond) (a : Addr) (va : Addr) (kv : ClassId) (xx : UInt64) (yy : UInt64) (zz : UInt64) (h0 : Heap) (n0 : Nat) (Z0 : n0 ≤ h0.size) (F_value_a : Fld Z h0 a "com/example/corpo/corpo/orientation/GyroBias" "value" "[D" (.ref va)) (V_va : Arv Z h0 va kv .double (3 : Int32) [(.double xx), (.double yy), (.double zz)] (.double (0 : UInt64))) :
    Met l Z M11 prog_8_method_2_code 1 (some (.object "com/example/corpo/corpo/samples/Vector3")) ws (Rm 3 1 3 43) #[(.ref a)] h0 (Q_rm_value Z a va kv xx yy zz h0 n0) := by
  refine met_of (plainFor_of_name pn_com_example_corpo_corpo_orientation_GyroBias) (own := "com/example/corpo/corpo/orientation/GyroBias") rfl (fun m => ef_rm_value m a) ?_
  intro p e s m below meth c s₁ hx hby hml hown hnm hZ X0 e0 hret hlk
  have N0 := Fr.nil n0
  have K0 := Keep.refl h0 []
  show Goes p e below s _ _ _ (s₁.setTop (mkF m 0 #[.val (.ref a)] []))
  obtain ⟨T1, h1, X1, e1, E1, A1, D1, -, st1⟩ := newO X0 hx hZ hown (wq hw 70 rfl) (wq hw 24 rfl) (wq hw 25 rfl) e0 (g := (mkF m 0 #[.val (.ref a)] [])) rfl (hb hby d11_0) (by decide) (by decide)
  obtain ⟨nb1, g1⟩ : ∃ z, z = h0.size := ⟨_, rfl⟩
  rw [← g1] at A1 D1 st1
  have ne_a_nb1 : a ≠ nb1 := Nat.ne_of_lt (Nat.lt_of_lt_of_le F_value_a.lt (Nat.le_of_eq g1.symm))
  have ne_nb1_a := ne_a_nb1.symm
  have ne_va_nb1 : va ≠ nb1 := Nat.ne_of_lt (Nat.lt_of_lt_of_le V_va.lt (Nat.le_of_eq g1.symm))
  have ne_nb1_va := ne_va_nb1.symm
  have g_nb1 : n0 ≤ nb1 := Nat.le_trans Z0 (Nat.le_of_eq g1.symm)
  have sz_nb1 : h0.size ≤ nb1 := Nat.le_trans K0.1 (Nat.le_of_eq g1.symm)
  have F_value_a := F_value_a.ext E1
  have V_va := V_va.ext E1
  have Z1 : n0 ≤ h1.size := Nat.le_trans Z0 E1.1
  have K1 := K0.ext E1
  have E_nb1 := A1
  have F_x_nb1 : Fld Z h1 nb1 "com/example/corpo/corpo/samples/Vector3" "x" "D" (.double (0 : UInt64)) := D1 (Or.inr (wq hw 36 rfl)) (ty := .double) (by decide)
  have F_y_nb1 : Fld Z h1 nb1 "com/example/corpo/corpo/samples/Vector3" "y" "D" (.double (0 : UInt64)) := D1 (Or.inr (wq hw 38 rfl)) (ty := .double) (by decide)
  have F_z_nb1 : Fld Z h1 nb1 "com/example/corpo/corpo/samples/Vector3" "z" "D" (.double (0 : UInt64)) := D1 (Or.inr (wq hw 40 rfl)) (ty := .double) (by decide)
  refine Goes.pre (U' := T1.setTop (mkF m 5 #[.val (.ref a)] [(.ref a), (.ref nb1), (.ref nb1)])) (fun t k => st1 t (XS.dup X1.here hx rfl (hb hby d11_3) rfl rfl (XS.aloadN X1.here hx rfl (hb hby d11_4) rfl rfl k))) ?_
  obtain ⟨T2, X2, e2, st2⟩ := getF X1 hx hZ hown (host := "") (Or.inl (wq hw 10 rfl)) Via.refl e1 F_value_a (g := (mkF m 5 #[.val (.ref a)] [(.ref a), (.ref nb1), (.ref nb1)])) rfl rfl (hb hby d11_5)
  refine Goes.pre (U' := T2.setTop (mkF m 9 #[.val (.ref a)] [(.int (0 : Int32)), (.ref va), (.ref nb1), (.ref nb1)])) (fun t k => st2 t (XS.iconst X2.here hx rfl (hb hby d11_8) k)) ?_
  obtain ⟨cl3, Ar3, q3, Sz3, Ng3, Hs3, Ft3⟩ := id V_va
  have hin3 := inb_of (j := (0 : Int32)) Sz3 ⟨by decide, by decide⟩
  refine Goes.pre (U' := T2.setTop (mkF m 11 #[.val (.ref a)] [(.ref a), (.double xx), (.ref nb1), (.ref nb1)])) (fun t k => X2.daload hx (j := (0 : Int32)) (v := (.double xx)) (by rw [e2]; exact Ar3.1) (State.isArrayOf_alike hZ.alike Ar3.2.1) Ar3.2.2 hin3 (Has.at Hs3 hin3 rfl) (g := (mkF m 9 #[.val (.ref a)] [(.int (0 : Int32)), (.ref va), (.ref nb1), (.ref nb1)])) rfl rfl (hb hby d11_9) _ (XS.aloadN X2.here hx rfl (hb hby d11_10) rfl rfl k)) ?_
  obtain ⟨T4, X4, e4, st4⟩ := getF X2 hx hZ hown (host := "") (Or.inl (wq hw 10 rfl)) Via.refl e2 F_value_a (g := (mkF m 11 #[.val (.ref a)] [(.ref a), (.double xx), (.ref nb1), (.ref nb1)])) rfl rfl (hb hby d11_11)
  refine Goes.pre (U' := T4.setTop (mkF m 15 #[.val (.ref a)] [(.int (1 : Int32)), (.ref va), (.double xx), (.ref nb1), (.ref nb1)])) (fun t k => st4 t (XS.iconst X4.here hx rfl (hb hby d11_14) k)) ?_
  obtain ⟨cl5, Ar5, q5, Sz5, Ng5, Hs5, Ft5⟩ := id V_va
  have hin5 := inb_of (j := (1 : Int32)) Sz5 ⟨by decide, by decide⟩
  refine Goes.pre (U' := T4.setTop (mkF m 17 #[.val (.ref a)] [(.ref a), (.double yy), (.double xx), (.ref nb1), (.ref nb1)])) (fun t k => X4.daload hx (j := (1 : Int32)) (v := (.double yy)) (by rw [e4]; exact Ar5.1) (State.isArrayOf_alike hZ.alike Ar5.2.1) Ar5.2.2 hin5 (Has.at Hs5 hin5 rfl) (g := (mkF m 15 #[.val (.ref a)] [(.int (1 : Int32)), (.ref va), (.double xx), (.ref nb1), (.ref nb1)])) rfl rfl (hb hby d11_15) _ (XS.aloadN X4.here hx rfl (hb hby d11_16) rfl rfl k)) ?_
  obtain ⟨T6, X6, e6, st6⟩ := getF X4 hx hZ hown (host := "") (Or.inl (wq hw 10 rfl)) Via.refl e4 F_value_a (g := (mkF m 17 #[.val (.ref a)] [(.ref a), (.double yy), (.double xx), (.ref nb1), (.ref nb1)])) rfl rfl (hb hby d11_17)
  refine Goes.pre (U' := T6.setTop (mkF m 21 #[.val (.ref a)] [(.int (2 : Int32)), (.ref va), (.double yy), (.double xx), (.ref nb1), (.ref nb1)])) (fun t k => st6 t (XS.iconst X6.here hx rfl (hb hby d11_20) k)) ?_
  obtain ⟨cl7, Ar7, q7, Sz7, Ng7, Hs7, Ft7⟩ := id V_va
  have hin7 := inb_of (j := (2 : Int32)) Sz7 ⟨by decide, by decide⟩
  refine Goes.pre (U' := T6.setTop (mkF m 22 #[.val (.ref a)] [(.double zz), (.double yy), (.double xx), (.ref nb1), (.ref nb1)])) (fun t k => X6.daload hx (j := (2 : Int32)) (v := (.double zz)) (by rw [e6]; exact Ar7.1) (State.isArrayOf_alike hZ.alike Ar7.2.1) Ar7.2.2 hin7 (Has.at Hs7 hin7 rfl) (g := (mkF m 21 #[.val (.ref a)] [(.int (2 : Int32)), (.ref va), (.double yy), (.double xx), (.ref nb1), (.ref nb1)])) rfl rfl (hb hby d11_21) _ k) ?_
  obtain ⟨_, _, ⟨T8, L8, k8, n8⟩, -, X8, ⟨Lc8, hQ8, l8, y8, z8⟩, st8⟩ := X6.specialBack hx (y := (⟨"com/example/corpo/corpo/samples/Vector3", "<init>", "(DDD)V"⟩ : MethodName)) rfl hown (mvT hZ (wq hw 71 rfl)) (mvT hZ (wq hw 27 rfl)) (mvT hZ (wq hw 28 rfl)) (by decide) (backOf (W := 1) (rm_v3 l Z a0 hw [] nb1 xx yy zz h1 n0 Z1 E_nb1 F_x_nb1 F_y_nb1 F_z_nb1 g_nb1) hZ (wq hw 28 rfl) (wq hw 25 rfl) (by decide) (by decide)) (g := (mkF m 22 #[.val (.ref a)] [(.double zz), (.double yy), (.double xx), (.ref nb1), (.ref nb1)])) rfl (by rw [hml]; rfl) (Steps.refl _) (a := nb1) (argsL := [(.double xx), (.double yy), (.double zz)]) (rest := [(.ref nb1)]) (lenOf pd__28DDD_29V rfl) rfl (by show 2 * 0 + _ ≤ _; exact Nat.le_of_eq rfl) (hb hby d11_22) (fun _ _ => ⟨rfl, e6, (by decide : 1 + 0 ≤ _), (by decide : 3 + 0 ≤ _)⟩)
  dsimp only [Pt.U, Pt.locs, Pt.cells, Pt.slots] at X8 l8 y8 z8 st8 hQ8
  subst l8 y8 z8
  obtain ⟨rfl, N8q, KQ8, fo0_8, fo1_8, fo2_8⟩ := hQ8
  have N8 := Fr.app N0 N8q
  have F_value_a := F_value_a.keep KQ8 (ninS ne_a_nb1 nin0)
  have V_va := V_va.keep KQ8 (ninS ne_va_nb1 nin0)
  have E_nb1 := E_nb1.keep KQ8
  have Z9 : n0 ≤ T8.heap.size := Nat.le_trans Z1 KQ8.1
  have K9 := K1.trans KQ8 (allS (P := fun x => x ∈ [] ∨ h0.size ≤ x) (Or.inr sz_nb1) all0)
  have F_x_nb1 := fo0_8
  have F_y_nb1 := fo1_8
  have F_z_nb1 := fo2_8
  refine Goes.pre (U' := T8.setTop (mkF m 25 #[.val (.ref a)] [(.ref nb1)])) (fun t k => st8.trans k) ?_
  refine Goes.ret X8 (v := (some (.ref nb1))) (fun h => by rw [hret] at h; cases h) hlk (by decide) (by decide) rfl (fun fs hr => retOut X8 hx hret rfl (Or.inr (Or.inr (Or.inr (Or.inr ⟨rfl, rfl, rfl⟩)))) (hb hby d11_25) hr) ?_
  exact ⟨nb1, rfl, N8, K9, E_nb1, F_x_nb1, F_y_nb1, F_z_nb1, g_nb1, sz_nb1⟩
theorem ef_rm0 (m : MethodId) (x0 : Int32) (x1 : Int32) (x2 : Int32) (x3 : Int32) (x4 : Int32) : entryFrame m #[(.int x0), (.int x1), (.int x2), (.int x3), (.int x4)] maxLocals = mkF m 0 #[.val (.int x0), .val (.int x1), .val (.int x2), .val (.int x3), .val (.int x4), .unset, .unset, .unset, .unset, .unset, .unset, .unset, .unset, .unset, .unset, .unset, .unset, .unset, .unset, .unset, .unset, .unset, .unset] [] := by first | (simp [entryFrame, mkF, argsToLocals, Value.category, maxLocals]; done) | rfl
theorem pn_com_example_corpo_corpo_orientation_GyroBiasAgePinLaw : plainName "com/example/corpo/corpo/orientation/GyroBiasAgePinLaw" = true := by first | (simp [plainName, overriddenIn]; done) | decide +kernel
theorem pd__28Lcom_2fexample_2fcorpo_2fcorpo_2fsamples_2fVector3_3bDD_29V : parseMethodDescriptor "(Lcom/example/corpo/corpo/samples/Vector3;DD)V" = some ⟨[(.object "com/example/corpo/corpo/samples/Vector3"), .double, .double], none⟩ := by decide +kernel
theorem pd__28_29Lcom_2fexample_2fcorpo_2fcorpo_2fsamples_2fVector3_3b : parseMethodDescriptor "()Lcom/example/corpo/corpo/samples/Vector3;" = some ⟨[], some (.object "com/example/corpo/corpo/samples/Vector3")⟩ := by decide +kernel
def Q_rm0 (Z : State) (p1 p2 p3 p4 p5 : Int32) (h0 : Heap) (n0 : Nat) (v : Option Value) (h : Heap) (L : List Loc) : Prop := v = some (.int 1) ∧ Fr n0 L
set_option maxRecDepth 65536 in
set_option maxHeartbeats 40000000 in
theorem rm0 (l : Launch) (Z : State) (a0 : Array Value) (hw : ∀ d ∈ tables_1, d.before a0 Z = true) (ws : List Jvm.Cond) (p1 p2 p3 p4 p5 : Int32) (h0 : Heap) (n0 : Nat) (Z0 : n0 ≤ h0.size)  :
    Met l Z x code maxLocals ret ws room_1 #[(.int p1), (.int p2), (.int p3), (.int p4), (.int p5)] h0 (Q_rm0 Z p1 p2 p3 p4 p5 h0 n0) := by
  refine met_of (plainFor_of_name pn_com_example_corpo_corpo_orientation_GyroBiasAgePinLaw) (own := "com/example/corpo/corpo/orientation/GyroBiasAgePinLaw") rfl (fun m => ef_rm0 m p1 p2 p3 p4 p5) ?_
  intro p e s m below meth c s₁ hx hby hml hown hnm hZ X0 e0 hret hlk
  have hml : c.maxLocals = 23 := hml
  have N0 := Fr.nil n0
  show Goes p e below s _ _ _ (s₁.setTop (mkF m 0 #[.val (.int p1), .val (.int p2), .val (.int p3), .val (.int p4), .val (.int p5), .unset, .unset, .unset, .unset, .unset, .unset, .unset, .unset, .unset, .unset, .unset, .unset, .unset, .unset, .unset, .unset, .unset, .unset] []))
  refine Goes.pre (U' := s₁.setTop (mkF m 9 #[.val (.int p1), .val (.int p2), .val (.int p3), .val (.int p4), .val (.int p5), .val (.int ((p1 &&& (255 : Int32)) + (1 : Int32))), .unset, .unset, .unset, .unset, .unset, .unset, .unset, .unset, .unset, .unset, .unset, .unset, .unset, .unset, .unset, .unset, .unset] [])) (fun t k => XS.iloadN X0.here hx rfl (hb hby at_0) rfl (XS.sipush X0.here hx rfl (hb hby at_1) (XS.iand X0.here hx rfl (hb hby at_4) rfl (XS.iconst X0.here hx rfl (hb hby at_5) (XS.iadd X0.here hx rfl (hb hby at_6) rfl (XS.istore X0.here hx rfl (hb hby at_7) rfl (l' := #[.val (.int p1), .val (.int p2), .val (.int p3), .val (.int p4), .val (.int p5), .val (.int ((p1 &&& (255 : Int32)) + (1 : Int32))), .unset, .unset, .unset, .unset, .unset, .unset, .unset, .unset, .unset, .unset, .unset, .unset, .unset, .unset, .unset, .unset, .unset]) rfl k)))))) ?_
  suffices J22_1 : ∀ (nb : Int32), Goes p e below s (Q_rm0 Z p1 p2 p3 p4 p5 h0 n0) room_1.cells room_1.slots (s₁.setTop (mkF m 22 #[.val (.int p1), .val (.int p2), .val (.int p3), .val (.int p4), .val (.int p5), .val (.int ((p1 &&& (255 : Int32)) + (1 : Int32))), .unset, .unset, .unset, .unset, .unset, .unset, .unset, .unset, .unset, .unset, .unset, .unset, .unset, .unset, .unset, .unset, .unset] [(.int nb)])) by
    refine Goes.pre (U' := s₁.setTop (mkF m 14 #[.val (.int p1), .val (.int p2), .val (.int p3), .val (.int p4), .val (.int p5), .val (.int ((p1 &&& (255 : Int32)) + (1 : Int32))), .unset, .unset, .unset, .unset, .unset, .unset, .unset, .unset, .unset, .unset, .unset, .unset, .unset, .unset, .unset, .unset, .unset] [(.int (p1 &&& (256 : Int32)))])) (fun t k => XS.iloadN X0.here hx rfl (hb hby at_9) rfl (XS.sipush X0.here hx rfl (hb hby at_10) (XS.iand X0.here hx rfl (hb hby at_13) rfl k))) ?_
    by_cases hc14 : (p1 &&& (256 : Int32)) = (0 : Int32)
    ·
      refine Goes.pre (U' := s₁.setTop (mkF m 22 #[.val (.int p1), .val (.int p2), .val (.int p3), .val (.int p4), .val (.int p5), .val (.int ((p1 &&& (255 : Int32)) + (1 : Int32))), .unset, .unset, .unset, .unset, .unset, .unset, .unset, .unset, .unset, .unset, .unset, .unset, .unset, .unset, .unset, .unset, .unset] [(.int (0 : Int32))])) (fun t k => XS.ifYes X0.here hx rfl (pc0 := 14) (pc' := 21) rfl (hb hby at_14) rfl ((if0 _ _).trans (teq hc14).1) (by decide) (by decide) (XS.iconst X0.here hx rfl (hb hby at_21) k)) ?_
      exact J22_1 (0 : Int32)
    ·
      refine Goes.pre (U' := s₁.setTop (mkF m 22 #[.val (.int p1), .val (.int p2), .val (.int p3), .val (.int p4), .val (.int p5), .val (.int ((p1 &&& (255 : Int32)) + (1 : Int32))), .unset, .unset, .unset, .unset, .unset, .unset, .unset, .unset, .unset, .unset, .unset, .unset, .unset, .unset, .unset, .unset, .unset] [(.int (1 : Int32))])) (fun t k => XS.ifNo X0.here hx rfl (hb hby at_14) rfl ((if0 _ _).trans (feq hc14).1) (XS.iconst X0.here hx rfl (hb hby at_17) (XS.goto X0.here hx rfl (pc0 := 18) (pc' := 22) rfl (hb hby at_18) (by decide) (by decide) k))) ?_
      exact J22_1 (1 : Int32)
  intro nb
  refine Goes.pre (U' := s₁.setTop (mkF m 38 #[.val (.int p1), .val (.int p2), .val (.int p3), .val (.int p4), .val (.int p5), .val (.int ((p1 &&& (255 : Int32)) + (1 : Int32))), .val (.int nb), .val (.int ((p2 &&& (255 : Int32)) + (1 : Int32))), .unset, .unset, .unset, .unset, .unset, .unset, .unset, .unset, .unset, .unset, .unset, .unset, .unset, .unset, .unset] [(.int ((1 : Int32) <<< ((p3 &&& (3 : Int32)) &&& 31)))])) (fun t k => XS.istore X0.here hx rfl (hb hby at_22) rfl (l' := #[.val (.int p1), .val (.int p2), .val (.int p3), .val (.int p4), .val (.int p5), .val (.int ((p1 &&& (255 : Int32)) + (1 : Int32))), .val (.int nb), .unset, .unset, .unset, .unset, .unset, .unset, .unset, .unset, .unset, .unset, .unset, .unset, .unset, .unset, .unset, .unset]) rfl (XS.iloadN X0.here hx rfl (hb hby at_24) rfl (XS.sipush X0.here hx rfl (hb hby at_25) (XS.iand X0.here hx rfl (hb hby at_28) rfl (XS.iconst X0.here hx rfl (hb hby at_29) (XS.iadd X0.here hx rfl (hb hby at_30) rfl (XS.istore X0.here hx rfl (hb hby at_31) rfl (l' := #[.val (.int p1), .val (.int p2), .val (.int p3), .val (.int p4), .val (.int p5), .val (.int ((p1 &&& (255 : Int32)) + (1 : Int32))), .val (.int nb), .val (.int ((p2 &&& (255 : Int32)) + (1 : Int32))), .unset, .unset, .unset, .unset, .unset, .unset, .unset, .unset, .unset, .unset, .unset, .unset, .unset, .unset, .unset]) rfl (XS.iconst X0.here hx rfl (hb hby at_33) (XS.iloadN X0.here hx rfl (hb hby at_34) rfl (XS.iconst X0.here hx rfl (hb hby at_35) (XS.iand X0.here hx rfl (hb hby at_36) rfl (XS.ishl X0.here hx rfl (hb hby at_37) rfl k)))))))))))) ?_
  refine Goes.pre (U' := s₁.setTop (mkF m 45 #[.val (.int p1), .val (.int p2), .val (.int p3), .val (.int p4), .val (.int p5), .val (.int ((p1 &&& (255 : Int32)) + (1 : Int32))), .val (.int nb), .val (.int ((p2 &&& (255 : Int32)) + (1 : Int32))), .val (.int ((1 : Int32) <<< ((p3 &&& (3 : Int32)) &&& 31))), .val (.int (p4 &&& (3 : Int32))), .unset, .unset, .unset, .unset, .unset, .unset, .unset, .unset, .unset, .unset, .unset, .unset, .unset] [])) (fun t k => XS.istore X0.here hx rfl (hb hby at_38) rfl (l' := #[.val (.int p1), .val (.int p2), .val (.int p3), .val (.int p4), .val (.int p5), .val (.int ((p1 &&& (255 : Int32)) + (1 : Int32))), .val (.int nb), .val (.int ((p2 &&& (255 : Int32)) + (1 : Int32))), .val (.int ((1 : Int32) <<< ((p3 &&& (3 : Int32)) &&& 31))), .unset, .unset, .unset, .unset, .unset, .unset, .unset, .unset, .unset, .unset, .unset, .unset, .unset, .unset]) rfl (XS.iloadN X0.here hx rfl (hb hby at_40) rfl (XS.iconst X0.here hx rfl (hb hby at_41) (XS.iand X0.here hx rfl (hb hby at_42) rfl (XS.istore X0.here hx rfl (hb hby at_43) rfl (l' := #[.val (.int p1), .val (.int p2), .val (.int p3), .val (.int p4), .val (.int p5), .val (.int ((p1 &&& (255 : Int32)) + (1 : Int32))), .val (.int nb), .val (.int ((p2 &&& (255 : Int32)) + (1 : Int32))), .val (.int ((1 : Int32) <<< ((p3 &&& (3 : Int32)) &&& 31))), .val (.int (p4 &&& (3 : Int32))), .unset, .unset, .unset, .unset, .unset, .unset, .unset, .unset, .unset, .unset, .unset, .unset, .unset]) rfl k))))) ?_
  obtain ⟨xa, hxa⟩ : ∃ z : Int32, z = ((p1 &&& (255 : Int32)) + (1 : Int32)) := ⟨_, rfl⟩
  rw [← hxa]
  obtain ⟨xp, hxp⟩ : ∃ z : Int32, z = ((p2 &&& (255 : Int32)) + (1 : Int32)) := ⟨_, rfl⟩
  rw [← hxp]
  obtain ⟨xf, hxf⟩ : ∃ z : Int32, z = ((1 : Int32) <<< ((p3 &&& (3 : Int32)) &&& 31)) := ⟨_, rfl⟩
  rw [← hxf]
  obtain ⟨xk, hxk⟩ : ∃ z : Int32, z = (p4 &&& (3 : Int32)) := ⟨_, rfl⟩
  rw [← hxk]
  obtain ⟨vA, vN, vP, vF, vK, vS, vT, vG, vH, vE, v1, v2, v3, w2, w3, w4, vq_, u1, u2, hbas, hob⟩ := own_law hxa hxp hxf hxk
  obtain ⟨b1, b2, b3, b4, b5, b6, b7, b8, b9, b10, b11, b12, b13, b14, b15, b16, b17, b18⟩ := hbas
  suffices J56_3 : ∀ (xm : Int32) (hxm : ¬ xm = 0), Goes p e below s (Q_rm0 Z p1 p2 p3 p4 p5 h0 n0) room_1.cells room_1.slots (s₁.setTop (mkF m 56 #[.val (.int p1), .val (.int p2), .val (.int p3), .val (.int p4), .val (.int p5), .val (.int xa), .val (.int nb), .val (.int xp), .val (.int xf), .val (.int xk), .unset, .unset, .unset, .unset, .unset, .unset, .unset, .unset, .unset, .unset, .unset, .unset, .unset] [(.int xm)])) by
    refine Goes.pre (U' := s₁.setTop (mkF m 47 #[.val (.int p1), .val (.int p2), .val (.int p3), .val (.int p4), .val (.int p5), .val (.int xa), .val (.int nb), .val (.int xp), .val (.int xf), .val (.int xk), .unset, .unset, .unset, .unset, .unset, .unset, .unset, .unset, .unset, .unset, .unset, .unset, .unset] [(.int p5)])) (fun t k => XS.iload X0.here hx rfl (hb hby at_45) rfl k) ?_
    by_cases hc47 : p5 = (0 : Int32)
    ·
      refine Goes.pre (U' := s₁.setTop (mkF m 56 #[.val (.int p1), .val (.int p2), .val (.int p3), .val (.int p4), .val (.int p5), .val (.int xa), .val (.int nb), .val (.int xp), .val (.int xf), .val (.int xk), .unset, .unset, .unset, .unset, .unset, .unset, .unset, .unset, .unset, .unset, .unset, .unset, .unset] [(.int (1 : Int32))])) (fun t k => XS.ifNo X0.here hx rfl (hb hby at_47) rfl ((if0 _ _).trans (teq hc47).2) (XS.iconst X0.here hx rfl (hb hby at_50) (XS.goto X0.here hx rfl (pc0 := 51) (pc' := 56) rfl (hb hby at_51) (by decide) (by decide) k))) ?_
      exact J56_3 (1 : Int32) (by decide)
    ·
      refine Goes.pre (U' := s₁.setTop (mkF m 56 #[.val (.int p1), .val (.int p2), .val (.int p3), .val (.int p4), .val (.int p5), .val (.int xa), .val (.int nb), .val (.int xp), .val (.int xf), .val (.int xk), .unset, .unset, .unset, .unset, .unset, .unset, .unset, .unset, .unset, .unset, .unset, .unset, .unset] [(.int p5)])) (fun t k => XS.ifYes X0.here hx rfl (pc0 := 47) (pc' := 54) rfl (hb hby at_47) rfl ((if0 _ _).trans (feq hc47).2) (by decide) (by decide) (XS.iload X0.here hx rfl (hb hby at_54) rfl k)) ?_
      exact J56_3 p5 hc47
  intro xm hxm
  obtain ⟨vM, vX, i1, i2, i3, hom⟩ := own_obm_of hxm
  refine Goes.pre (U' := s₁.setTop (mkF m 58 #[.val (.int p1), .val (.int p2), .val (.int p3), .val (.int p4), .val (.int p5), .val (.int xa), .val (.int nb), .val (.int xp), .val (.int xf), .val (.int xk), .val (.int xm), .unset, .unset, .unset, .unset, .unset, .unset, .unset, .unset, .unset, .unset, .unset, .unset] [])) (fun t k => XS.istore X0.here hx rfl (hb hby at_56) rfl (l' := #[.val (.int p1), .val (.int p2), .val (.int p3), .val (.int p4), .val (.int p5), .val (.int xa), .val (.int nb), .val (.int xp), .val (.int xf), .val (.int xk), .val (.int xm), .unset, .unset, .unset, .unset, .unset, .unset, .unset, .unset, .unset, .unset, .unset, .unset]) rfl k) ?_
  suffices J73_5 : ∀ (iv : UInt64) (hiv : own_op (FP.dmul iv iv) vS), Goes p e below s (Q_rm0 Z p1 p2 p3 p4 p5 h0 n0) room_1.cells room_1.slots (s₁.setTop (mkF m 73 #[.val (.int p1), .val (.int p2), .val (.int p3), .val (.int p4), .val (.int p5), .val (.int xa), .val (.int nb), .val (.int xp), .val (.int xf), .val (.int xk), .val (.int xm), .unset, .unset, .unset, .unset, .unset, .unset, .unset, .unset, .unset, .unset, .unset, .unset] [(.double iv)])) by
    refine Goes.pre (U' := s₁.setTop (mkF m 60 #[.val (.int p1), .val (.int p2), .val (.int p3), .val (.int p4), .val (.int p5), .val (.int xa), .val (.int nb), .val (.int xp), .val (.int xf), .val (.int xk), .val (.int xm), .unset, .unset, .unset, .unset, .unset, .unset, .unset, .unset, .unset, .unset, .unset, .unset] [(.int nb)])) (fun t k => XS.iload X0.here hx rfl (hb hby at_58) rfl k) ?_
    by_cases hc60 : nb = (0 : Int32)
    ·
      refine Goes.pre (U' := s₁.setTop (mkF m 73 #[.val (.int p1), .val (.int p2), .val (.int p3), .val (.int p4), .val (.int p5), .val (.int xa), .val (.int nb), .val (.int xp), .val (.int xf), .val (.int xk), .val (.int xm), .unset, .unset, .unset, .unset, .unset, .unset, .unset, .unset, .unset, .unset, .unset, .unset] [(.double vA)])) (fun t k => XS.ifYes X0.here hx rfl (pc0 := 60) (pc' := 70) rfl (hb hby at_60) rfl ((if0 _ _).trans (teq hc60).1) (by decide) (by decide) (XS.iload X0.here hx rfl (hb hby at_70) rfl (XS.i2dS X0.here hx rfl (v := vA) (hb hby at_72) rfl b1 k))) ?_
      exact J73_5 vA b6
    ·
      refine Goes.pre (U' := s₁.setTop (mkF m 73 #[.val (.int p1), .val (.int p2), .val (.int p3), .val (.int p4), .val (.int p5), .val (.int xa), .val (.int nb), .val (.int xp), .val (.int xf), .val (.int xk), .val (.int xm), .unset, .unset, .unset, .unset, .unset, .unset, .unset, .unset, .unset, .unset, .unset, .unset] [(.double vN)])) (fun t k => XS.ifNo X0.here hx rfl (hb hby at_60) rfl ((if0 _ _).trans (feq hc60).1) (XS.iload X0.here hx rfl (hb hby at_63) rfl (XS.i2dS X0.here hx rfl (v := vA) (hb hby at_65) rfl b1 (XS.dnegS X0.here hx rfl (v := vN) (hb hby at_66) rfl b2 (XS.goto X0.here hx rfl (pc0 := 67) (pc' := 73) rfl (hb hby at_67) (by decide) (by decide) k))))) ?_
      exact J73_5 vN b7
  intro iv hiv
  refine Goes.pre (U' := s₁.setTop (mkF m 92 #[.val (.int p1), .val (.int p2), .val (.int p3), .val (.int p4), .val (.int p5), .val (.int xa), .val (.int nb), .val (.int xp), .val (.int xf), .val (.int xk), .val (.int xm), .val (.double iv), .second, .val (.double vS), .second, .unset, .unset, .unset, .unset, .unset, .unset, .unset, .unset] [(.int xf), (.double vT)])) (fun t k => XS.dstore X0.here hx rfl (hb hby at_73) rfl (l' := #[.val (.int p1), .val (.int p2), .val (.int p3), .val (.int p4), .val (.int p5), .val (.int xa), .val (.int nb), .val (.int xp), .val (.int xf), .val (.int xk), .val (.int xm), .val (.double iv), .second, .unset, .unset, .unset, .unset, .unset, .unset, .unset, .unset, .unset, .unset]) rfl (XS.iload X0.here hx rfl (hb hby at_75) rfl (XS.i2dS X0.here hx rfl (v := vA) (hb hby at_77) rfl b1 (XS.iload X0.here hx rfl (hb hby at_78) rfl (XS.i2dS X0.here hx rfl (v := vA) (hb hby at_80) rfl b1 (XS.dmulS X0.here hx rfl (v := vS) (hb hby at_81) rfl b6.2 b6.1 (XS.dstore X0.here hx rfl (hb hby at_82) rfl (l' := #[.val (.int p1), .val (.int p2), .val (.int p3), .val (.int p4), .val (.int p5), .val (.int xa), .val (.int nb), .val (.int xp), .val (.int xf), .val (.int xk), .val (.int xm), .val (.double iv), .second, .val (.double vS), .second, .unset, .unset, .unset, .unset, .unset, .unset, .unset, .unset]) rfl (XS.dload X0.here hx rfl (hb hby at_84) rfl (XS.iload X0.here hx rfl (hb hby at_86) rfl (XS.i2dS X0.here hx rfl (v := vP) (hb hby at_88) rfl b3 (XS.dmulS X0.here hx rfl (v := vT) (hb hby at_89) rfl b8.2 b8.1 (XS.iload X0.here hx rfl (hb hby at_90) rfl k)))))))))))) ?_
  refine Goes.pre (U' := s₁.setTop (mkF m 107 #[.val (.int p1), .val (.int p2), .val (.int p3), .val (.int p4), .val (.int p5), .val (.int xa), .val (.int nb), .val (.int xp), .val (.int xf), .val (.int xk), .val (.int xm), .val (.double iv), .second, .val (.double vS), .second, .val (.double vG), .second, .val (.double vE), .second, .unset, .unset, .unset, .unset] [])) (fun t k => XS.i2dS X0.here hx rfl (v := vF) (hb hby at_92) rfl b4 (XS.ddivS X0.here hx rfl (v := vG) (hb hby at_93) rfl b9.2 b9.1 (XS.dstore X0.here hx rfl (hb hby at_94) rfl (l' := #[.val (.int p1), .val (.int p2), .val (.int p3), .val (.int p4), .val (.int p5), .val (.int xa), .val (.int nb), .val (.int xp), .val (.int xf), .val (.int xk), .val (.int xm), .val (.double iv), .second, .val (.double vS), .second, .val (.double vG), .second, .unset, .unset, .unset, .unset, .unset, .unset]) rfl (XS.dload X0.here hx rfl (hb hby at_96) rfl (XS.iload X0.here hx rfl (hb hby at_98) rfl (XS.i2dS X0.here hx rfl (v := vK) (hb hby at_100) rfl b5 (XS.dload X0.here hx rfl (hb hby at_101) rfl (XS.dmulS X0.here hx rfl (v := vH) (hb hby at_103) rfl b10.2 b10.1 (XS.daddS X0.here hx rfl (v := vE) (hb hby at_104) rfl b11.2 b11.1 (XS.dstore X0.here hx rfl (hb hby at_105) rfl (l' := #[.val (.int p1), .val (.int p2), .val (.int p3), .val (.int p4), .val (.int p5), .val (.int xa), .val (.int nb), .val (.int xp), .val (.int xf), .val (.int xk), .val (.int xm), .val (.double iv), .second, .val (.double vS), .second, .val (.double vG), .second, .val (.double vE), .second, .unset, .unset, .unset, .unset]) rfl k)))))))))) ?_
  obtain ⟨T7, h7, X7, e7, E7, A7, D7, -, st7⟩ := newO X0 hx hZ hown (wq hw 0 rfl) (wq hw 1 rfl) (wq hw 2 rfl) e0 (g := (mkF m 107 #[.val (.int p1), .val (.int p2), .val (.int p3), .val (.int p4), .val (.int p5), .val (.int xa), .val (.int nb), .val (.int xp), .val (.int xf), .val (.int xk), .val (.int xm), .val (.double iv), .second, .val (.double vS), .second, .val (.double vG), .second, .val (.double vE), .second, .unset, .unset, .unset, .unset] [])) rfl (hb hby at_107) (by decide) (by decide)
  obtain ⟨gb, g7⟩ : ∃ z, z = h0.size := ⟨_, rfl⟩
  rw [← g7] at A7 D7 st7
  have g_gb : n0 ≤ gb := Nat.le_trans Z0 (Nat.le_of_eq g7.symm)
  have Z7 : n0 ≤ h7.size := Nat.le_trans Z0 E7.1
  have E_gb := A7
  have F_value_gb : Fld Z h7 gb "com/example/corpo/corpo/orientation/GyroBias" "value" "[D" .null := D7 (Or.inr (wq hw 11 rfl)) (ty := (.array .double)) (by decide)
  have F_covariance_gb : Fld Z h7 gb "com/example/corpo/corpo/orientation/GyroBias" "covariance" "[[D" .null := D7 (Or.inr (wq hw 15 rfl)) (ty := (.array (.array .double))) (by decide)
  have F_growth_gb : Fld Z h7 gb "com/example/corpo/corpo/orientation/GyroBias" "growth" "D" (.double (0 : UInt64)) := D7 (Or.inr (wq hw 17 rfl)) (ty := .double) (by decide)
  refine Goes.pre (U' := T7.setTop (mkF m 119 #[.val (.int p1), .val (.int p2), .val (.int p3), .val (.int p4), .val (.int p5), .val (.int xa), .val (.int nb), .val (.int xp), .val (.int xf), .val (.int xk), .val (.int xm), .val (.double iv), .second, .val (.double vS), .second, .val (.double vG), .second, .val (.double vE), .second, .unset, .unset, .unset, .unset] [(.double vP), (.double vF), (.double iv), (.ref gb), (.ref gb)])) (fun t k => st7 t (XS.dup X7.here hx rfl (hb hby at_110) rfl rfl (XS.dload X7.here hx rfl (hb hby at_111) rfl (XS.iload X7.here hx rfl (hb hby at_113) rfl (XS.i2dS X7.here hx rfl (v := vF) (hb hby at_115) rfl b4 (XS.iload X7.here hx rfl (hb hby at_116) rfl (XS.i2dS X7.here hx rfl (v := vP) (hb hby at_118) rfl b3 k))))))) ?_
  have lt_gb := E_gb.lt
  obtain ⟨_, _, ⟨T8, L8, k8, n8⟩, -, X8, ⟨Lc8, hQ8, l8, y8, z8⟩, st8⟩ := X7.specialBack hx (y := (⟨"com/example/corpo/corpo/orientation/GyroBias", "<init>", "(DDD)V"⟩ : MethodName)) rfl hown (mvT hZ (wq hw 3 rfl)) (mvT hZ (wq hw 4 rfl)) (mvT hZ (wq hw 5 rfl)) (by decide) (backOf (W := 1) (rm_gb l Z a0 hw [] gb iv vF vP vS vT vG h7 n0 Z7 E_gb F_value_gb F_covariance_gb F_growth_gb hiv b8 b9 g_gb) hZ (wq hw 5 rfl) (wq hw 2 rfl) (by decide) (by decide)) (g := (mkF m 119 #[.val (.int p1), .val (.int p2), .val (.int p3), .val (.int p4), .val (.int p5), .val (.int xa), .val (.int nb), .val (.int xp), .val (.int xf), .val (.int xk), .val (.int xm), .val (.double iv), .second, .val (.double vS), .second, .val (.double vG), .second, .val (.double vE), .second, .unset, .unset, .unset, .unset] [(.double vP), (.double vF), (.double iv), (.ref gb), (.ref gb)])) rfl (by rw [hml]; rfl) (Steps.refl _) (a := gb) (argsL := [(.double iv), (.double vF), (.double vP)]) (rest := [(.ref gb)]) (lenOf pd__28DDD_29V rfl) rfl (by show 2 * 0 + _ ≤ _; exact Nat.le_of_eq rfl) (hb hby at_119) (fun _ _ => ⟨rfl, e7, (by decide : 1 + 5 ≤ _), (by decide : 3 + 15 ≤ _)⟩)
  dsimp only [Pt.U, Pt.locs, Pt.cells, Pt.slots] at X8 l8 y8 z8 st8 hQ8
  subst l8 y8 z8
  obtain ⟨va, gr, r0, r1, r2, kv, kg, kr, rfl, N8q, KQ8, fo0_8, fo1_8, fo2_8, fo3_8, fo4_8, fo5_8, fo6_8, fo7_8, g_va, sl_va, g_gr, sl_gr, g_r0, sl_r0, g_r1, sl_r1, g_r2, sl_r2, hx8⟩ := hQ8
  have N8 := Fr.app N0 N8q
  have E_gb := E_gb.keep KQ8
  have Z9 : n0 ≤ T8.heap.size := Nat.le_trans Z7 KQ8.1
  have ne_gb_va : gb ≠ va := Nat.ne_of_lt (Nat.lt_of_lt_of_le lt_gb sl_va)
  have ne_va_gb := ne_gb_va.symm
  have ne_gb_gr : gb ≠ gr := Nat.ne_of_lt (Nat.lt_of_lt_of_le lt_gb sl_gr)
  have ne_gr_gb := ne_gb_gr.symm
  have ne_gb_r0 : gb ≠ r0 := Nat.ne_of_lt (Nat.lt_of_lt_of_le lt_gb sl_r0)
  have ne_r0_gb := ne_gb_r0.symm
  have ne_gb_r1 : gb ≠ r1 := Nat.ne_of_lt (Nat.lt_of_lt_of_le lt_gb sl_r1)
  have ne_r1_gb := ne_gb_r1.symm
  have ne_gb_r2 : gb ≠ r2 := Nat.ne_of_lt (Nat.lt_of_lt_of_le lt_gb sl_r2)
  have ne_r2_gb := ne_gb_r2.symm
  have ne_va_gr : va ≠ gr := hx8.1
  have ne_gr_va := ne_va_gr.symm
  have ne_va_r0 : va ≠ r0 := hx8.2.1
  have ne_r0_va := ne_va_r0.symm
  have ne_gr_r0 : gr ≠ r0 := hx8.2.2.2.2.1
  have ne_r0_gr := ne_gr_r0.symm
  have ne_va_r1 : va ≠ r1 := hx8.2.2.1
  have ne_r1_va := ne_va_r1.symm
  have ne_gr_r1 : gr ≠ r1 := hx8.2.2.2.2.2.1
  have ne_r1_gr := ne_gr_r1.symm
  have ne_r0_r1 : r0 ≠ r1 := hx8.2.2.2.2.2.2.2.1
  have ne_r1_r0 := ne_r0_r1.symm
  have ne_va_r2 : va ≠ r2 := hx8.2.2.2.1
  have ne_r2_va := ne_va_r2.symm
  have ne_gr_r2 : gr ≠ r2 := hx8.2.2.2.2.2.2.1
  have ne_r2_gr := ne_gr_r2.symm
  have ne_r0_r2 : r0 ≠ r2 := hx8.2.2.2.2.2.2.2.2.1
  have ne_r2_r0 := ne_r0_r2.symm
  have ne_r1_r2 : r1 ≠ r2 := hx8.2.2.2.2.2.2.2.2.2
  have ne_r2_r1 := ne_r1_r2.symm
  have F_value_gb := fo0_8
  have F_covariance_gb := fo1_8
  have F_growth_gb := fo2_8
  have V_va := fo3_8
  have V_gr := fo4_8
  have V_r0 := fo5_8
  have V_r1 := fo6_8
  have V_r2 := fo7_8
  refine Goes.pre (U' := T8.setTop (mkF m 127 #[.val (.int p1), .val (.int p2), .val (.int p3), .val (.int p4), .val (.int p5), .val (.int xa), .val (.int nb), .val (.int xp), .val (.int xf), .val (.int xk), .val (.int xm), .val (.double iv), .second, .val (.double vS), .second, .val (.double vG), .second, .val (.double vE), .second, .val (.ref gb), .unset, .unset, .unset] [(.int (1 : Int32)), (.int xk)])) (fun t k => st8.trans (XS.astore X8.here hx rfl (hb hby at_122) rfl rfl (l' := #[.val (.int p1), .val (.int p2), .val (.int p3), .val (.int p4), .val (.int p5), .val (.int xa), .val (.int nb), .val (.int xp), .val (.int xf), .val (.int xk), .val (.int xm), .val (.double iv), .second, .val (.double vS), .second, .val (.double vG), .second, .val (.double vE), .second, .val (.ref gb), .unset, .unset, .unset]) rfl (XS.iload X8.here hx rfl (hb hby at_124) rfl (XS.iconst X8.here hx rfl (hb hby at_126) k)))) ?_
  by_cases hc127 : xk < (1 : Int32)
  ·
    refine Goes.pre (U' := T8.setTop (mkF m 138 #[.val (.int p1), .val (.int p2), .val (.int p3), .val (.int p4), .val (.int p5), .val (.int xa), .val (.int nb), .val (.int xp), .val (.int xf), .val (.int xk), .val (.int xm), .val (.double iv), .second, .val (.double vS), .second, .val (.double vG), .second, .val (.double vE), .second, .val (.ref gb), .unset, .unset, .unset] [(.int (2 : Int32)), (.int xk)])) (fun t k => XS.icmpYes X8.here hx rfl (pc0 := 127) (pc' := 135) rfl (hb hby at_127) rfl (tlt hc127).1 (by decide) (by decide) (XS.iload X8.here hx rfl (hb hby at_135) rfl (XS.iconst X8.here hx rfl (hb hby at_137) k))) ?_
    have hc138 : xk < (2 : Int32) := own_l12 hc127
    refine Goes.pre (U' := T8.setTop (mkF m 149 #[.val (.int p1), .val (.int p2), .val (.int p3), .val (.int p4), .val (.int p5), .val (.int xa), .val (.int nb), .val (.int xp), .val (.int xf), .val (.int xk), .val (.int xm), .val (.double iv), .second, .val (.double vS), .second, .val (.double vG), .second, .val (.double vE), .second, .val (.ref gb), .unset, .unset, .unset] [(.int (3 : Int32)), (.int xk)])) (fun t k => XS.icmpYes X8.here hx rfl (pc0 := 138) (pc' := 146) rfl (hb hby at_138) rfl (tlt hc138).1 (by decide) (by decide) (XS.iload X8.here hx rfl (hb hby at_146) rfl (XS.iconst X8.here hx rfl (hb hby at_148) k))) ?_
    have hc149 : xk < (3 : Int32) := own_l23 (own_l12 hc127)
    refine Goes.pre (U' := T8.setTop (mkF m 157 #[.val (.int p1), .val (.int p2), .val (.int p3), .val (.int p4), .val (.int p5), .val (.int xa), .val (.int nb), .val (.int xp), .val (.int xf), .val (.int xk), .val (.int xm), .val (.double iv), .second, .val (.double vS), .second, .val (.double vG), .second, .val (.double vE), .second, .val (.ref gb), .unset, .unset, .unset] [])) (fun t k => XS.icmpYes X8.here hx rfl (pc0 := 149) (pc' := 157) rfl (hb hby at_149) rfl (tlt hc149).1 (by decide) (by decide) k) ?_
    rw [(b15 (own_k0 hxk hc127))] at V_r0 V_r1 V_r2
    refine Goes.pre (U' := T8.setTop (mkF m 159 #[.val (.int p1), .val (.int p2), .val (.int p3), .val (.int p4), .val (.int p5), .val (.int xa), .val (.int nb), .val (.int xp), .val (.int xf), .val (.int xk), .val (.int xm), .val (.double iv), .second, .val (.double vS), .second, .val (.double vG), .second, .val (.double vE), .second, .val (.ref gb), .unset, .unset, .unset] [(.ref gb)])) (fun t k => XS.aload X8.here hx rfl (hb hby at_157) rfl rfl k) ?_
    obtain ⟨T10, h10, X10, e10, E10, A10, D10, -, st10⟩ := newO X8 hx hZ hown (wq hw 23 rfl) (wq hw 24 rfl) (wq hw 25 rfl) rfl (g := (mkF m 159 #[.val (.int p1), .val (.int p2), .val (.int p3), .val (.int p4), .val (.int p5), .val (.int xa), .val (.int nb), .val (.int xp), .val (.int xf), .val (.int xk), .val (.int xm), .val (.double iv), .second, .val (.double vS), .second, .val (.double vG), .second, .val (.double vE), .second, .val (.ref gb), .unset, .unset, .unset] [(.ref gb)])) rfl (hb hby at_159) (by decide) (by decide)
    obtain ⟨ve, g10⟩ : ∃ z, z = T8.heap.size := ⟨_, rfl⟩
    rw [← g10] at A10 D10 st10
    have ne_gb_ve : gb ≠ ve := Nat.ne_of_lt (Nat.lt_of_lt_of_le E_gb.lt (Nat.le_of_eq g10.symm))
    have ne_ve_gb := ne_gb_ve.symm
    have ne_gr_ve : gr ≠ ve := Nat.ne_of_lt (Nat.lt_of_lt_of_le V_gr.lt (Nat.le_of_eq g10.symm))
    have ne_ve_gr := ne_gr_ve.symm
    have ne_r0_ve : r0 ≠ ve := Nat.ne_of_lt (Nat.lt_of_lt_of_le V_r0.lt (Nat.le_of_eq g10.symm))
    have ne_ve_r0 := ne_r0_ve.symm
    have ne_r1_ve : r1 ≠ ve := Nat.ne_of_lt (Nat.lt_of_lt_of_le V_r1.lt (Nat.le_of_eq g10.symm))
    have ne_ve_r1 := ne_r1_ve.symm
    have ne_r2_ve : r2 ≠ ve := Nat.ne_of_lt (Nat.lt_of_lt_of_le V_r2.lt (Nat.le_of_eq g10.symm))
    have ne_ve_r2 := ne_r2_ve.symm
    have ne_va_ve : va ≠ ve := Nat.ne_of_lt (Nat.lt_of_lt_of_le V_va.lt (Nat.le_of_eq g10.symm))
    have ne_ve_va := ne_va_ve.symm
    have g_ve : n0 ≤ ve := Nat.le_trans Z9 (Nat.le_of_eq g10.symm)
    have E_gb := E_gb.ext E10
    have F_value_gb := F_value_gb.ext E10
    have F_covariance_gb := F_covariance_gb.ext E10
    have F_growth_gb := F_growth_gb.ext E10
    have V_va := V_va.ext E10
    have V_gr := V_gr.ext E10
    have V_r0 := V_r0.ext E10
    have V_r1 := V_r1.ext E10
    have V_r2 := V_r2.ext E10
    have Z10 : n0 ≤ h10.size := Nat.le_trans Z9 E10.1
    have E_ve := A10
    have F_x_ve : Fld Z h10 ve "com/example/corpo/corpo/samples/Vector3" "x" "D" (.double (0 : UInt64)) := D10 (Or.inr (wq hw 36 rfl)) (ty := .double) (by decide)
    have F_y_ve : Fld Z h10 ve "com/example/corpo/corpo/samples/Vector3" "y" "D" (.double (0 : UInt64)) := D10 (Or.inr (wq hw 38 rfl)) (ty := .double) (by decide)
    have F_z_ve : Fld Z h10 ve "com/example/corpo/corpo/samples/Vector3" "z" "D" (.double (0 : UInt64)) := D10 (Or.inr (wq hw 40 rfl)) (ty := .double) (by decide)
    refine Goes.pre (U' := T10.setTop (mkF m 166 #[.val (.int p1), .val (.int p2), .val (.int p3), .val (.int p4), .val (.int p5), .val (.int xa), .val (.int nb), .val (.int xp), .val (.int xf), .val (.int xk), .val (.int xm), .val (.double iv), .second, .val (.double vS), .second, .val (.double vG), .second, .val (.double vE), .second, .val (.ref gb), .unset, .unset, .unset] [(.double (4607182418800017408 : UInt64)), (.double (4607182418800017408 : UInt64)), (.double (4607182418800017408 : UInt64)), (.ref ve), (.ref ve), (.ref gb)])) (fun t k => st10 t (XS.dup X10.here hx rfl (hb hby at_162) rfl rfl (XS.dconst1 X10.here hx rfl (v := (4607182418800017408 : UInt64)) (hb hby at_163) (by decide +kernel) (XS.dconst1 X10.here hx rfl (v := (4607182418800017408 : UInt64)) (hb hby at_164) (by decide +kernel) (XS.dconst1 X10.here hx rfl (v := (4607182418800017408 : UInt64)) (hb hby at_165) (by decide +kernel) k))))) ?_
    obtain ⟨_, _, ⟨T11, L11, k11, n11⟩, -, X11, ⟨Lc11, hQ11, l11, y11, z11⟩, st11⟩ := X10.specialBack hx (y := (⟨"com/example/corpo/corpo/samples/Vector3", "<init>", "(DDD)V"⟩ : MethodName)) rfl hown (mvT hZ (wq hw 26 rfl)) (mvT hZ (wq hw 27 rfl)) (mvT hZ (wq hw 28 rfl)) (by decide) (backOf (W := 2) (rm_v3 l Z a0 hw [] ve (4607182418800017408 : UInt64) (4607182418800017408 : UInt64) (4607182418800017408 : UInt64) h10 n0 Z10 E_ve F_x_ve F_y_ve F_z_ve g_ve) hZ (wq hw 28 rfl) (wq hw 25 rfl) (by decide) (by decide)) (g := (mkF m 166 #[.val (.int p1), .val (.int p2), .val (.int p3), .val (.int p4), .val (.int p5), .val (.int xa), .val (.int nb), .val (.int xp), .val (.int xf), .val (.int xk), .val (.int xm), .val (.double iv), .second, .val (.double vS), .second, .val (.double vG), .second, .val (.double vE), .second, .val (.ref gb), .unset, .unset, .unset] [(.double (4607182418800017408 : UInt64)), (.double (4607182418800017408 : UInt64)), (.double (4607182418800017408 : UInt64)), (.ref ve), (.ref ve), (.ref gb)])) rfl (by rw [hml]; rfl) (Steps.refl _) (a := ve) (argsL := [(.double (4607182418800017408 : UInt64)), (.double (4607182418800017408 : UInt64)), (.double (4607182418800017408 : UInt64))]) (rest := [(.ref ve), (.ref gb)]) (lenOf pd__28DDD_29V rfl) rfl (by show 2 * 0 + _ ≤ _; exact Nat.le_of_eq rfl) (hb hby at_166) (fun _ _ => ⟨rfl, e10, (by decide : 7 + 0 ≤ _), (by decide : 21 + 0 ≤ _)⟩)
    dsimp only [Pt.U, Pt.locs, Pt.cells, Pt.slots] at X11 l11 y11 z11 st11 hQ11
    subst l11 y11 z11
    obtain ⟨rfl, N11q, KQ11, fo0_11, fo1_11, fo2_11⟩ := hQ11
    have N11 := Fr.app N8 N11q
    have E_gb := E_gb.keep KQ11
    have F_value_gb := F_value_gb.keep KQ11 (ninS ne_gb_ve nin0)
    have F_covariance_gb := F_covariance_gb.keep KQ11 (ninS ne_gb_ve nin0)
    have F_growth_gb := F_growth_gb.keep KQ11 (ninS ne_gb_ve nin0)
    have V_va := V_va.keep KQ11 (ninS ne_va_ve nin0)
    have V_gr := V_gr.keep KQ11 (ninS ne_gr_ve nin0)
    have V_r0 := V_r0.keep KQ11 (ninS ne_r0_ve nin0)
    have V_r1 := V_r1.keep KQ11 (ninS ne_r1_ve nin0)
    have V_r2 := V_r2.keep KQ11 (ninS ne_r2_ve nin0)
    have E_ve := E_ve.keep KQ11
    have Z12 : n0 ≤ T11.heap.size := Nat.le_trans Z10 KQ11.1
    have F_x_ve := fo0_11
    have F_y_ve := fo1_11
    have F_z_ve := fo2_11
    refine Goes.pre (U' := T11.setTop (mkF m 178 #[.val (.int p1), .val (.int p2), .val (.int p3), .val (.int p4), .val (.int p5), .val (.int xa), .val (.int nb), .val (.int xp), .val (.int xf), .val (.int xk), .val (.int xm), .val (.double iv), .second, .val (.double vS), .second, .val (.double vG), .second, .val (.double vE), .second, .val (.ref gb), .unset, .unset, .unset] [(.double vE), (.double vX), (.ref ve), (.ref gb)])) (fun t k => st11.trans (X11.ldc2DoubleC hx hown (mvT hZ (wq hw 41 rfl)) (g := (mkF m 169 #[.val (.int p1), .val (.int p2), .val (.int p3), .val (.int p4), .val (.int p5), .val (.int xa), .val (.int nb), .val (.int xp), .val (.int xf), .val (.int xk), .val (.int xm), .val (.double iv), .second, .val (.double vS), .second, .val (.double vG), .second, .val (.double vE), .second, .val (.ref gb), .unset, .unset, .unset] [(.ref ve), (.ref gb)])) rfl (hb hby at_169) _ (XS.iload X11.here hx rfl (hb hby at_172) rfl (XS.i2dS X11.here hx rfl (v := vM) (hb hby at_174) rfl i1 (XS.dmulS X11.here hx rfl (v := vX) (hb hby at_175) rfl i3.2 i3.1 (XS.dload X11.here hx rfl (hb hby at_176) rfl k)))))) ?_
    obtain ⟨cq13, kq13, q13a, q13b, q13c⟩ := isOf hZ rfl E_gb
    obtain ⟨_, _, ⟨T13, L13, k13, n13⟩, -, X13, ⟨Lc13, hQ13, l13, y13, z13⟩, st13⟩ := X11.virtualBack hx (y := (⟨"com/example/corpo/corpo/orientation/GyroBias", "observe", "(Lcom/example/corpo/corpo/samples/Vector3;DD)V"⟩ : MethodName)) (z := (⟨"com/example/corpo/corpo/orientation/GyroBias", "observe", "(Lcom/example/corpo/corpo/samples/Vector3;DD)V"⟩ : MethodName)) hown (mvT hZ (wq hw 42 rfl)) (mvT hZ (wq hw 43 rfl)) (notFace_of_selects (args := #[]) (mvT hZ (wq hw 45 rfl))) (mvT hZ (wq hw 45 rfl)) (mvT hZ (wq hw 44 rfl)) (by decide) (backOf (W := 0) (rm_obs l Z a0 hw [] gb ve va gr r0 r1 r2 kv kg kr vX vE w2 w3 w4 vq_ u1 u2 vM T11.heap n0 Z12 F_value_gb F_covariance_gb E_ve V_va F_x_ve F_y_ve F_z_ve V_gr V_r0 V_r1 V_r2 hob hom ne_gb_va ne_ve_va ne_gr_va ne_r0_va ne_r1_va ne_r2_va ne_gb_r0 ne_ve_r0 ne_va_r0 ne_gr_r0 ne_r1_r0 ne_r2_r0 ne_gb_r1 ne_ve_r1 ne_va_r1 ne_gr_r1 ne_r0_r1 ne_r2_r1 ne_gb_r2 ne_ve_r2 ne_va_r2 ne_gr_r2 ne_r0_r2 ne_r1_r2 g_va g_r0 g_r1 g_r2) hZ (wq hw 46 rfl) (wq hw 2 rfl) (by decide) (by decide)) q13a q13c (g := (mkF m 178 #[.val (.int p1), .val (.int p2), .val (.int p3), .val (.int p4), .val (.int p5), .val (.int xa), .val (.int nb), .val (.int xp), .val (.int xf), .val (.int xk), .val (.int xm), .val (.double iv), .second, .val (.double vS), .second, .val (.double vG), .second, .val (.double vE), .second, .val (.ref gb), .unset, .unset, .unset] [(.double vE), (.double vX), (.ref ve), (.ref gb)])) rfl (by rw [hml]; rfl) (Steps.refl _) (argsL := [(.ref ve), (.double vX), (.double vE)]) (rest := []) (lenOf pd__28Lcom_2fexample_2fcorpo_2fcorpo_2fsamples_2fVector3_3bDD_29V rfl) rfl (by show 2 * 0 + _ ≤ _; exact Nat.le_of_eq rfl) (hb hby at_178) (fun _ _ => ⟨rfl, rfl, (by decide : 7 + 2 ≤ _), (by decide : 21 + 6 ≤ _)⟩)
    dsimp only [Pt.U, Pt.locs, Pt.cells, Pt.slots] at X13 l13 y13 z13 st13 hQ13
    subst l13 y13 z13
    obtain ⟨rfl, N13q, KQ13, fo0_13⟩ := hQ13
    have N13 := Fr.app N11 N13q
    have E_gb := E_gb.keep KQ13
    have F_value_gb := F_value_gb.keep KQ13 (ninS ne_gb_va (ninS ne_gb_r0 (ninS ne_gb_r1 (ninS ne_gb_r2 nin0))))
    have F_covariance_gb := F_covariance_gb.keep KQ13 (ninS ne_gb_va (ninS ne_gb_r0 (ninS ne_gb_r1 (ninS ne_gb_r2 nin0))))
    have F_growth_gb := F_growth_gb.keep KQ13 (ninS ne_gb_va (ninS ne_gb_r0 (ninS ne_gb_r1 (ninS ne_gb_r2 nin0))))
    have V_gr := V_gr.keep KQ13 (ninS ne_gr_va (ninS ne_gr_r0 (ninS ne_gr_r1 (ninS ne_gr_r2 nin0))))
    have E_ve := E_ve.keep KQ13
    have F_x_ve := F_x_ve.keep KQ13 (ninS ne_ve_va (ninS ne_ve_r0 (ninS ne_ve_r1 (ninS ne_ve_r2 nin0))))
    have F_y_ve := F_y_ve.keep KQ13 (ninS ne_ve_va (ninS ne_ve_r0 (ninS ne_ve_r1 (ninS ne_ve_r2 nin0))))
    have F_z_ve := F_z_ve.keep KQ13 (ninS ne_ve_va (ninS ne_ve_r0 (ninS ne_ve_r1 (ninS ne_ve_r2 nin0))))
    have Z14 : n0 ≤ T13.heap.size := Nat.le_trans Z12 KQ13.1
    have V_va := fo0_13
    refine Goes.pre (U' := T13.setTop (mkF m 183 #[.val (.int p1), .val (.int p2), .val (.int p3), .val (.int p4), .val (.int p5), .val (.int xa), .val (.int nb), .val (.int xp), .val (.int xf), .val (.int xk), .val (.int xm), .val (.double iv), .second, .val (.double vS), .second, .val (.double vG), .second, .val (.double vE), .second, .val (.ref gb), .unset, .unset, .unset] [(.ref gb)])) (fun t k => st13.trans (XS.aload X13.here hx rfl (hb hby at_181) rfl rfl k)) ?_
    have lt_gb := E_gb.lt
    have lt_gr := V_gr.lt
    have lt_va := V_va.lt
    have lt_ve := E_ve.lt
    obtain ⟨cq15, kq15, q15a, q15b, q15c⟩ := isOf hZ rfl E_gb
    obtain ⟨_, _, ⟨T15, L15, k15, n15⟩, -, X15, ⟨Lc15, hQ15, l15, y15, z15⟩, st15⟩ := X13.virtualBack hx (y := (⟨"com/example/corpo/corpo/orientation/GyroBias", "value", "()Lcom/example/corpo/corpo/samples/Vector3;"⟩ : MethodName)) (z := (⟨"com/example/corpo/corpo/orientation/GyroBias", "value", "()Lcom/example/corpo/corpo/samples/Vector3;"⟩ : MethodName)) hown (mvT hZ (wq hw 65 rfl)) (mvT hZ (wq hw 66 rfl)) (notFace_of_selects (args := #[]) (mvT hZ (wq hw 68 rfl))) (mvT hZ (wq hw 68 rfl)) (mvT hZ (wq hw 67 rfl)) (by decide) (backOf (W := 0) (rm_value l Z a0 hw [] gb va kv vM vM vM T13.heap n0 Z14 F_value_gb V_va) hZ (wq hw 69 rfl) (wq hw 2 rfl) (by decide) (by decide)) q15a q15c (g := (mkF m 183 #[.val (.int p1), .val (.int p2), .val (.int p3), .val (.int p4), .val (.int p5), .val (.int xa), .val (.int nb), .val (.int xp), .val (.int xf), .val (.int xk), .val (.int xm), .val (.double iv), .second, .val (.double vS), .second, .val (.double vG), .second, .val (.double vE), .second, .val (.ref gb), .unset, .unset, .unset] [(.ref gb)])) rfl (by rw [hml]; rfl) (Steps.refl _) (argsL := []) (rest := []) (lenOf pd__28_29Lcom_2fexample_2fcorpo_2fcorpo_2fsamples_2fVector3_3b rfl) rfl (by show 2 * 0 + _ ≤ _; exact Nat.le_of_eq rfl) (hb hby at_183) (fun _ _ => ⟨rfl, rfl, (by decide : 9 + 1 ≤ _), (by decide : 27 + 3 ≤ _)⟩)
    dsimp only [Pt.U, Pt.locs, Pt.cells, Pt.slots] at X15 l15 y15 z15 st15 hQ15
    subst l15 y15 z15
    obtain ⟨r15, rfl, N15q, KQ15, fo0_15, fo1_15, fo2_15, fo3_15, g_r15, sl_r15⟩ := hQ15
    have N15 := Fr.app N13 N15q
    have E_gb := E_gb.keep KQ15
    have F_value_gb := F_value_gb.keep KQ15 nin0
    have F_covariance_gb := F_covariance_gb.keep KQ15 nin0
    have F_growth_gb := F_growth_gb.keep KQ15 nin0
    have V_gr := V_gr.keep KQ15 nin0
    have E_ve := E_ve.keep KQ15
    have F_x_ve := F_x_ve.keep KQ15 nin0
    have F_y_ve := F_y_ve.keep KQ15 nin0
    have F_z_ve := F_z_ve.keep KQ15 nin0
    have V_va := V_va.keep KQ15 nin0
    have Z16 : n0 ≤ T15.heap.size := Nat.le_trans Z14 KQ15.1
    have ne_gb_r15 : gb ≠ r15 := Nat.ne_of_lt (Nat.lt_of_lt_of_le lt_gb sl_r15)
    have ne_r15_gb := ne_gb_r15.symm
    have ne_gr_r15 : gr ≠ r15 := Nat.ne_of_lt (Nat.lt_of_lt_of_le lt_gr sl_r15)
    have ne_r15_gr := ne_gr_r15.symm
    have ne_va_r15 : va ≠ r15 := Nat.ne_of_lt (Nat.lt_of_lt_of_le lt_va sl_r15)
    have ne_r15_va := ne_va_r15.symm
    have ne_ve_r15 : ve ≠ r15 := Nat.ne_of_lt (Nat.lt_of_lt_of_le lt_ve sl_r15)
    have ne_r15_ve := ne_ve_r15.symm
    have E_r15 := fo0_15
    have F_x_r15 := fo1_15
    have F_y_r15 := fo2_15
    have F_z_r15 := fo3_15
    refine Goes.pre (U' := T15.setTop (mkF m 195 #[.val (.int p1), .val (.int p2), .val (.int p3), .val (.int p4), .val (.int p5), .val (.int xa), .val (.int nb), .val (.int xp), .val (.int xf), .val (.int xk), .val (.int xm), .val (.double iv), .second, .val (.double vS), .second, .val (.double vG), .second, .val (.double vE), .second, .val (.ref gb), .val (.ref r15), .val (.double vM), .second] [(.ref r15)])) (fun t k => st15.trans (XS.astore X15.here hx rfl (hb hby at_186) rfl rfl (l' := #[.val (.int p1), .val (.int p2), .val (.int p3), .val (.int p4), .val (.int p5), .val (.int xa), .val (.int nb), .val (.int xp), .val (.int xf), .val (.int xk), .val (.int xm), .val (.double iv), .second, .val (.double vS), .second, .val (.double vG), .second, .val (.double vE), .second, .val (.ref gb), .val (.ref r15), .unset, .unset]) rfl (XS.iload X15.here hx rfl (hb hby at_188) rfl (XS.i2dS X15.here hx rfl (v := vM) (hb hby at_190) rfl i1 (XS.dstore X15.here hx rfl (hb hby at_191) rfl (l' := #[.val (.int p1), .val (.int p2), .val (.int p3), .val (.int p4), .val (.int p5), .val (.int xa), .val (.int nb), .val (.int xp), .val (.int xf), .val (.int xk), .val (.int xm), .val (.double iv), .second, .val (.double vS), .second, .val (.double vG), .second, .val (.double vE), .second, .val (.ref gb), .val (.ref r15), .val (.double vM), .second]) rfl (XS.aload X15.here hx rfl (hb hby at_193) rfl rfl k)))))) ?_
    obtain ⟨cq17, kq17, q17a, q17b, q17c⟩ := isOf hZ rfl E_r15
    obtain ⟨_, _, ⟨T17, L17, k17, n17⟩, -, X17, ⟨Lc17, hQ17, l17, y17, z17⟩, st17⟩ := X15.virtualBack hx (y := (⟨"com/example/corpo/corpo/samples/Vector3", "x", "()D"⟩ : MethodName)) (z := (⟨"com/example/corpo/corpo/samples/Vector3", "x", "()D"⟩ : MethodName)) hown (mvT hZ (wq hw 72 rfl)) (mvT hZ (wq hw 48 rfl)) (notFace_of_selects (args := #[]) (mvT hZ (wq hw 50 rfl))) (mvT hZ (wq hw 50 rfl)) (mvT hZ (wq hw 49 rfl)) (by decide) (backOf (W := 0) (rm_vx l Z a0 hw [] r15 vM T15.heap n0 Z16 F_x_r15) hZ (wq hw 51 rfl) (wq hw 25 rfl) (by decide) (by decide)) q17a q17c (g := (mkF m 195 #[.val (.int p1), .val (.int p2), .val (.int p3), .val (.int p4), .val (.int p5), .val (.int xa), .val (.int nb), .val (.int xp), .val (.int xf), .val (.int xk), .val (.int xm), .val (.double iv), .second, .val (.double vS), .second, .val (.double vG), .second, .val (.double vE), .second, .val (.ref gb), .val (.ref r15), .val (.double vM), .second] [(.ref r15)])) rfl (by rw [hml]; rfl) (Steps.refl _) (argsL := []) (rest := []) (lenOf pd__28_29D rfl) rfl (by show 2 * 0 + _ ≤ _; exact Nat.le_of_eq rfl) (hb hby at_195) (fun _ _ => ⟨rfl, rfl, (by decide : 10 + 0 ≤ _), (by decide : 30 + 0 ≤ _)⟩)
    dsimp only [Pt.U, Pt.locs, Pt.cells, Pt.slots] at X17 l17 y17 z17 st17 hQ17
    subst l17 y17 z17
    obtain ⟨rfl, N17q, HQ17⟩ := hQ17
    have N17 := Fr.app N15 N17q
    refine Goes.pre (U' := T17.setTop (mkF m 201 #[.val (.int p1), .val (.int p2), .val (.int p3), .val (.int p4), .val (.int p5), .val (.int xa), .val (.int nb), .val (.int xp), .val (.int xf), .val (.int xk), .val (.int xm), .val (.double iv), .second, .val (.double vS), .second, .val (.double vG), .second, .val (.double vE), .second, .val (.ref gb), .val (.ref r15), .val (.double vM), .second] [(.int (0 : Int32))])) (fun t k => st17.trans (XS.dload X17.here hx rfl (hb hby at_198) rfl (XS.dcmpS X17.here hx rfl (v := (0 : Int32)) (hb hby at_200) rfl (dcmpV_self i2 _) k))) ?_
    have hc201 : (0 : Int32) = (0 : Int32) := rfl
    refine Goes.pre (U' := T17.setTop (mkF m 206 #[.val (.int p1), .val (.int p2), .val (.int p3), .val (.int p4), .val (.int p5), .val (.int xa), .val (.int nb), .val (.int xp), .val (.int xf), .val (.int xk), .val (.int xm), .val (.double iv), .second, .val (.double vS), .second, .val (.double vG), .second, .val (.double vE), .second, .val (.ref gb), .val (.ref r15), .val (.double vM), .second] [(.ref r15)])) (fun t k => XS.ifNo X17.here hx rfl (hb hby at_201) rfl ((if0 _ _).trans (teq hc201).2) (XS.aload X17.here hx rfl (hb hby at_204) rfl rfl k)) ?_
    obtain ⟨cq18, kq18, q18a, q18b, q18c⟩ := isOf hZ HQ17 E_r15
    obtain ⟨_, _, ⟨T18, L18, k18, n18⟩, -, X18, ⟨Lc18, hQ18, l18, y18, z18⟩, st18⟩ := X17.virtualBack hx (y := (⟨"com/example/corpo/corpo/samples/Vector3", "y", "()D"⟩ : MethodName)) (z := (⟨"com/example/corpo/corpo/samples/Vector3", "y", "()D"⟩ : MethodName)) hown (mvT hZ (wq hw 73 rfl)) (mvT hZ (wq hw 53 rfl)) (notFace_of_selects (args := #[]) (mvT hZ (wq hw 55 rfl))) (mvT hZ (wq hw 55 rfl)) (mvT hZ (wq hw 54 rfl)) (by decide) (backOf (W := 0) (rm_vy l Z a0 hw [] r15 vM T15.heap n0 Z16 F_y_r15) hZ (wq hw 56 rfl) (wq hw 25 rfl) (by decide) (by decide)) q18a q18c (g := (mkF m 206 #[.val (.int p1), .val (.int p2), .val (.int p3), .val (.int p4), .val (.int p5), .val (.int xa), .val (.int nb), .val (.int xp), .val (.int xf), .val (.int xk), .val (.int xm), .val (.double iv), .second, .val (.double vS), .second, .val (.double vG), .second, .val (.double vE), .second, .val (.ref gb), .val (.ref r15), .val (.double vM), .second] [(.ref r15)])) rfl (by rw [hml]; rfl) (Steps.refl _) (argsL := []) (rest := []) (lenOf pd__28_29D rfl) rfl (by show 2 * 0 + _ ≤ _; exact Nat.le_of_eq rfl) (hb hby at_206) (fun _ _ => ⟨rfl, HQ17, (by decide : 10 + 0 ≤ _), (by decide : 30 + 0 ≤ _)⟩)
    dsimp only [Pt.U, Pt.locs, Pt.cells, Pt.slots] at X18 l18 y18 z18 st18 hQ18
    subst l18 y18 z18
    obtain ⟨rfl, N18q, HQ18⟩ := hQ18
    have N18 := Fr.app N17 N18q
    refine Goes.pre (U' := T18.setTop (mkF m 212 #[.val (.int p1), .val (.int p2), .val (.int p3), .val (.int p4), .val (.int p5), .val (.int xa), .val (.int nb), .val (.int xp), .val (.int xf), .val (.int xk), .val (.int xm), .val (.double iv), .second, .val (.double vS), .second, .val (.double vG), .second, .val (.double vE), .second, .val (.ref gb), .val (.ref r15), .val (.double vM), .second] [(.int (0 : Int32))])) (fun t k => st18.trans (XS.dload X18.here hx rfl (hb hby at_209) rfl (XS.dcmpS X18.here hx rfl (v := (0 : Int32)) (hb hby at_211) rfl (dcmpV_self i2 _) k))) ?_
    have hc212 : (0 : Int32) = (0 : Int32) := rfl
    refine Goes.pre (U' := T18.setTop (mkF m 217 #[.val (.int p1), .val (.int p2), .val (.int p3), .val (.int p4), .val (.int p5), .val (.int xa), .val (.int nb), .val (.int xp), .val (.int xf), .val (.int xk), .val (.int xm), .val (.double iv), .second, .val (.double vS), .second, .val (.double vG), .second, .val (.double vE), .second, .val (.ref gb), .val (.ref r15), .val (.double vM), .second] [(.ref r15)])) (fun t k => XS.ifNo X18.here hx rfl (hb hby at_212) rfl ((if0 _ _).trans (teq hc212).2) (XS.aload X18.here hx rfl (hb hby at_215) rfl rfl k)) ?_
    obtain ⟨cq19, kq19, q19a, q19b, q19c⟩ := isOf hZ HQ18 E_r15
    obtain ⟨_, _, ⟨T19, L19, k19, n19⟩, -, X19, ⟨Lc19, hQ19, l19, y19, z19⟩, st19⟩ := X18.virtualBack hx (y := (⟨"com/example/corpo/corpo/samples/Vector3", "z", "()D"⟩ : MethodName)) (z := (⟨"com/example/corpo/corpo/samples/Vector3", "z", "()D"⟩ : MethodName)) hown (mvT hZ (wq hw 74 rfl)) (mvT hZ (wq hw 58 rfl)) (notFace_of_selects (args := #[]) (mvT hZ (wq hw 60 rfl))) (mvT hZ (wq hw 60 rfl)) (mvT hZ (wq hw 59 rfl)) (by decide) (backOf (W := 0) (rm_vz l Z a0 hw [] r15 vM T15.heap n0 Z16 F_z_r15) hZ (wq hw 61 rfl) (wq hw 25 rfl) (by decide) (by decide)) q19a q19c (g := (mkF m 217 #[.val (.int p1), .val (.int p2), .val (.int p3), .val (.int p4), .val (.int p5), .val (.int xa), .val (.int nb), .val (.int xp), .val (.int xf), .val (.int xk), .val (.int xm), .val (.double iv), .second, .val (.double vS), .second, .val (.double vG), .second, .val (.double vE), .second, .val (.ref gb), .val (.ref r15), .val (.double vM), .second] [(.ref r15)])) rfl (by rw [hml]; rfl) (Steps.refl _) (argsL := []) (rest := []) (lenOf pd__28_29D rfl) rfl (by show 2 * 0 + _ ≤ _; exact Nat.le_of_eq rfl) (hb hby at_217) (fun _ _ => ⟨rfl, HQ18, (by decide : 10 + 0 ≤ _), (by decide : 30 + 0 ≤ _)⟩)
    dsimp only [Pt.U, Pt.locs, Pt.cells, Pt.slots] at X19 l19 y19 z19 st19 hQ19
    subst l19 y19 z19
    obtain ⟨rfl, N19q, HQ19⟩ := hQ19
    have N19 := Fr.app N18 N19q
    refine Goes.pre (U' := T19.setTop (mkF m 223 #[.val (.int p1), .val (.int p2), .val (.int p3), .val (.int p4), .val (.int p5), .val (.int xa), .val (.int nb), .val (.int xp), .val (.int xf), .val (.int xk), .val (.int xm), .val (.double iv), .second, .val (.double vS), .second, .val (.double vG), .second, .val (.double vE), .second, .val (.ref gb), .val (.ref r15), .val (.double vM), .second] [(.int (0 : Int32))])) (fun t k => st19.trans (XS.dload X19.here hx rfl (hb hby at_220) rfl (XS.dcmpS X19.here hx rfl (v := (0 : Int32)) (hb hby at_222) rfl (dcmpV_self i2 _) k))) ?_
    have hc223 : (0 : Int32) = (0 : Int32) := rfl
    refine Goes.pre (U' := T19.setTop (mkF m 231 #[.val (.int p1), .val (.int p2), .val (.int p3), .val (.int p4), .val (.int p5), .val (.int xa), .val (.int nb), .val (.int xp), .val (.int xf), .val (.int xk), .val (.int xm), .val (.double iv), .second, .val (.double vS), .second, .val (.double vG), .second, .val (.double vE), .second, .val (.ref gb), .val (.ref r15), .val (.double vM), .second] [(.int (1 : Int32))])) (fun t k => XS.ifNo X19.here hx rfl (hb hby at_223) rfl ((if0 _ _).trans (teq hc223).2) (XS.iconst X19.here hx rfl (hb hby at_226) (XS.goto X19.here hx rfl (pc0 := 227) (pc' := 231) rfl (hb hby at_227) (by decide) (by decide) k))) ?_
    refine Goes.ret X19 (v := (some (.int (1 : Int32)))) (fun h => by rw [hret] at h; cases h) hlk (by decide) (by decide) HQ19 (fun fs hr => retN X19 hx (t := .boolean) hret (by simp) (hb hby at_231) hr) ?_
    exact ⟨rfl, N19⟩
  ·
    refine Goes.pre (U' := T8.setTop (mkF m 132 #[.val (.int p1), .val (.int p2), .val (.int p3), .val (.int p4), .val (.int p5), .val (.int xa), .val (.int nb), .val (.int xp), .val (.int xf), .val (.int xk), .val (.int xm), .val (.double iv), .second, .val (.double vS), .second, .val (.double vG), .second, .val (.double vE), .second, .val (.ref gb), .unset, .unset, .unset] [(.ref gb)])) (fun t k => XS.icmpNo X8.here hx rfl (hb hby at_127) rfl (flt hc127).1 (XS.aload X8.here hx rfl (hb hby at_130) rfl rfl k)) ?_
    obtain ⟨cq20, kq20, q20a, q20b, q20c⟩ := isOf hZ rfl E_gb
    obtain ⟨_, _, ⟨T20, L20, k20, n20⟩, -, X20, ⟨Lc20, hQ20, l20, y20, z20⟩, st20⟩ := X8.virtualBack hx (y := (⟨"com/example/corpo/corpo/orientation/GyroBias", "age", "()V"⟩ : MethodName)) (z := (⟨"com/example/corpo/corpo/orientation/GyroBias", "age", "()V"⟩ : MethodName)) hown (mvT hZ (wq hw 18 rfl)) (mvT hZ (wq hw 19 rfl)) (notFace_of_selects (args := #[]) (mvT hZ (wq hw 21 rfl))) (mvT hZ (wq hw 21 rfl)) (mvT hZ (wq hw 20 rfl)) (by decide) (backOf (W := 0) (rm_age l Z a0 hw [] gb gr r0 r1 r2 kg kr vS vG v1 T8.heap n0 Z9 F_covariance_gb F_growth_gb V_gr V_r0 V_r1 V_r2 b12 ne_gb_r0 ne_gr_r0 ne_r1_r0 ne_r2_r0 ne_gb_r1 ne_gr_r1 ne_r0_r1 ne_r2_r1 ne_gb_r2 ne_gr_r2 ne_r0_r2 ne_r1_r2 g_r0 g_r1 g_r2) hZ (wq hw 22 rfl) (wq hw 2 rfl) (by decide) (by decide)) q20a q20c (g := (mkF m 132 #[.val (.int p1), .val (.int p2), .val (.int p3), .val (.int p4), .val (.int p5), .val (.int xa), .val (.int nb), .val (.int xp), .val (.int xf), .val (.int xk), .val (.int xm), .val (.double iv), .second, .val (.double vS), .second, .val (.double vG), .second, .val (.double vE), .second, .val (.ref gb), .unset, .unset, .unset] [(.ref gb)])) rfl (by rw [hml]; rfl) (Steps.refl _) (argsL := []) (rest := []) (lenOf pd__28_29V rfl) rfl (by show 2 * 0 + _ ≤ _; exact Nat.le_of_eq rfl) (hb hby at_132) (fun _ _ => ⟨rfl, rfl, (by decide : 6 + 0 ≤ _), (by decide : 18 + 0 ≤ _)⟩)
    dsimp only [Pt.U, Pt.locs, Pt.cells, Pt.slots] at X20 l20 y20 z20 st20 hQ20
    subst l20 y20 z20
    obtain ⟨rfl, N20q, KQ20, fo0_20, fo1_20, fo2_20⟩ := hQ20
    have N20 := Fr.app N8 N20q
    have E_gb := E_gb.keep KQ20
    have F_value_gb := F_value_gb.keep KQ20 (ninS ne_gb_r0 (ninS ne_gb_r1 (ninS ne_gb_r2 nin0)))
    have F_covariance_gb := F_covariance_gb.keep KQ20 (ninS ne_gb_r0 (ninS ne_gb_r1 (ninS ne_gb_r2 nin0)))
    have F_growth_gb := F_growth_gb.keep KQ20 (ninS ne_gb_r0 (ninS ne_gb_r1 (ninS ne_gb_r2 nin0)))
    have V_va := V_va.keep KQ20 (ninS ne_va_r0 (ninS ne_va_r1 (ninS ne_va_r2 nin0)))
    have V_gr := V_gr.keep KQ20 (ninS ne_gr_r0 (ninS ne_gr_r1 (ninS ne_gr_r2 nin0)))
    have Z21 : n0 ≤ T20.heap.size := Nat.le_trans Z9 KQ20.1
    have V_r0 := fo0_20
    have V_r1 := fo1_20
    have V_r2 := fo2_20
    refine Goes.pre (U' := T20.setTop (mkF m 138 #[.val (.int p1), .val (.int p2), .val (.int p3), .val (.int p4), .val (.int p5), .val (.int xa), .val (.int nb), .val (.int xp), .val (.int xf), .val (.int xk), .val (.int xm), .val (.double iv), .second, .val (.double vS), .second, .val (.double vG), .second, .val (.double vE), .second, .val (.ref gb), .unset, .unset, .unset] [(.int (2 : Int32)), (.int xk)])) (fun t k => st20.trans (XS.iload X20.here hx rfl (hb hby at_135) rfl (XS.iconst X20.here hx rfl (hb hby at_137) k))) ?_
    by_cases hc138 : xk < (2 : Int32)
    ·
      refine Goes.pre (U' := T20.setTop (mkF m 149 #[.val (.int p1), .val (.int p2), .val (.int p3), .val (.int p4), .val (.int p5), .val (.int xa), .val (.int nb), .val (.int xp), .val (.int xf), .val (.int xk), .val (.int xm), .val (.double iv), .second, .val (.double vS), .second, .val (.double vG), .second, .val (.double vE), .second, .val (.ref gb), .unset, .unset, .unset] [(.int (3 : Int32)), (.int xk)])) (fun t k => XS.icmpYes X20.here hx rfl (pc0 := 138) (pc' := 146) rfl (hb hby at_138) rfl (tlt hc138).1 (by decide) (by decide) (XS.iload X20.here hx rfl (hb hby at_146) rfl (XS.iconst X20.here hx rfl (hb hby at_148) k))) ?_
      have hc149 : xk < (3 : Int32) := own_l23 hc138
      refine Goes.pre (U' := T20.setTop (mkF m 157 #[.val (.int p1), .val (.int p2), .val (.int p3), .val (.int p4), .val (.int p5), .val (.int xa), .val (.int nb), .val (.int xp), .val (.int xf), .val (.int xk), .val (.int xm), .val (.double iv), .second, .val (.double vS), .second, .val (.double vG), .second, .val (.double vE), .second, .val (.ref gb), .unset, .unset, .unset] [])) (fun t k => XS.icmpYes X20.here hx rfl (pc0 := 149) (pc' := 157) rfl (hb hby at_149) rfl (tlt hc149).1 (by decide) (by decide) k) ?_
      rw [(b16 (own_k1 hxk hc127 hc138))] at V_r0 V_r1 V_r2
      refine Goes.pre (U' := T20.setTop (mkF m 159 #[.val (.int p1), .val (.int p2), .val (.int p3), .val (.int p4), .val (.int p5), .val (.int xa), .val (.int nb), .val (.int xp), .val (.int xf), .val (.int xk), .val (.int xm), .val (.double iv), .second, .val (.double vS), .second, .val (.double vG), .second, .val (.double vE), .second, .val (.ref gb), .unset, .unset, .unset] [(.ref gb)])) (fun t k => XS.aload X20.here hx rfl (hb hby at_157) rfl rfl k) ?_
      obtain ⟨T22, h22, X22, e22, E22, A22, D22, -, st22⟩ := newO X20 hx hZ hown (wq hw 23 rfl) (wq hw 24 rfl) (wq hw 25 rfl) rfl (g := (mkF m 159 #[.val (.int p1), .val (.int p2), .val (.int p3), .val (.int p4), .val (.int p5), .val (.int xa), .val (.int nb), .val (.int xp), .val (.int xf), .val (.int xk), .val (.int xm), .val (.double iv), .second, .val (.double vS), .second, .val (.double vG), .second, .val (.double vE), .second, .val (.ref gb), .unset, .unset, .unset] [(.ref gb)])) rfl (hb hby at_159) (by decide) (by decide)
      obtain ⟨ve, g22⟩ : ∃ z, z = T20.heap.size := ⟨_, rfl⟩
      rw [← g22] at A22 D22 st22
      have ne_gb_ve : gb ≠ ve := Nat.ne_of_lt (Nat.lt_of_lt_of_le E_gb.lt (Nat.le_of_eq g22.symm))
      have ne_ve_gb := ne_gb_ve.symm
      have ne_gr_ve : gr ≠ ve := Nat.ne_of_lt (Nat.lt_of_lt_of_le V_gr.lt (Nat.le_of_eq g22.symm))
      have ne_ve_gr := ne_gr_ve.symm
      have ne_r0_ve : r0 ≠ ve := Nat.ne_of_lt (Nat.lt_of_lt_of_le V_r0.lt (Nat.le_of_eq g22.symm))
      have ne_ve_r0 := ne_r0_ve.symm
      have ne_r1_ve : r1 ≠ ve := Nat.ne_of_lt (Nat.lt_of_lt_of_le V_r1.lt (Nat.le_of_eq g22.symm))
      have ne_ve_r1 := ne_r1_ve.symm
      have ne_r2_ve : r2 ≠ ve := Nat.ne_of_lt (Nat.lt_of_lt_of_le V_r2.lt (Nat.le_of_eq g22.symm))
      have ne_ve_r2 := ne_r2_ve.symm
      have ne_va_ve : va ≠ ve := Nat.ne_of_lt (Nat.lt_of_lt_of_le V_va.lt (Nat.le_of_eq g22.symm))
      have ne_ve_va := ne_va_ve.symm
      have g_ve : n0 ≤ ve := Nat.le_trans Z21 (Nat.le_of_eq g22.symm)
      have E_gb := E_gb.ext E22
      have F_value_gb := F_value_gb.ext E22
      have F_covariance_gb := F_covariance_gb.ext E22
      have F_growth_gb := F_growth_gb.ext E22
      have V_va := V_va.ext E22
      have V_gr := V_gr.ext E22
      have V_r0 := V_r0.ext E22
      have V_r1 := V_r1.ext E22
      have V_r2 := V_r2.ext E22
      have Z22 : n0 ≤ h22.size := Nat.le_trans Z21 E22.1
      have E_ve := A22
      have F_x_ve : Fld Z h22 ve "com/example/corpo/corpo/samples/Vector3" "x" "D" (.double (0 : UInt64)) := D22 (Or.inr (wq hw 36 rfl)) (ty := .double) (by decide)
      have F_y_ve : Fld Z h22 ve "com/example/corpo/corpo/samples/Vector3" "y" "D" (.double (0 : UInt64)) := D22 (Or.inr (wq hw 38 rfl)) (ty := .double) (by decide)
      have F_z_ve : Fld Z h22 ve "com/example/corpo/corpo/samples/Vector3" "z" "D" (.double (0 : UInt64)) := D22 (Or.inr (wq hw 40 rfl)) (ty := .double) (by decide)
      refine Goes.pre (U' := T22.setTop (mkF m 166 #[.val (.int p1), .val (.int p2), .val (.int p3), .val (.int p4), .val (.int p5), .val (.int xa), .val (.int nb), .val (.int xp), .val (.int xf), .val (.int xk), .val (.int xm), .val (.double iv), .second, .val (.double vS), .second, .val (.double vG), .second, .val (.double vE), .second, .val (.ref gb), .unset, .unset, .unset] [(.double (4607182418800017408 : UInt64)), (.double (4607182418800017408 : UInt64)), (.double (4607182418800017408 : UInt64)), (.ref ve), (.ref ve), (.ref gb)])) (fun t k => st22 t (XS.dup X22.here hx rfl (hb hby at_162) rfl rfl (XS.dconst1 X22.here hx rfl (v := (4607182418800017408 : UInt64)) (hb hby at_163) (by decide +kernel) (XS.dconst1 X22.here hx rfl (v := (4607182418800017408 : UInt64)) (hb hby at_164) (by decide +kernel) (XS.dconst1 X22.here hx rfl (v := (4607182418800017408 : UInt64)) (hb hby at_165) (by decide +kernel) k))))) ?_
      obtain ⟨_, _, ⟨T23, L23, k23, n23⟩, -, X23, ⟨Lc23, hQ23, l23, y23, z23⟩, st23⟩ := X22.specialBack hx (y := (⟨"com/example/corpo/corpo/samples/Vector3", "<init>", "(DDD)V"⟩ : MethodName)) rfl hown (mvT hZ (wq hw 26 rfl)) (mvT hZ (wq hw 27 rfl)) (mvT hZ (wq hw 28 rfl)) (by decide) (backOf (W := 2) (rm_v3 l Z a0 hw [] ve (4607182418800017408 : UInt64) (4607182418800017408 : UInt64) (4607182418800017408 : UInt64) h22 n0 Z22 E_ve F_x_ve F_y_ve F_z_ve g_ve) hZ (wq hw 28 rfl) (wq hw 25 rfl) (by decide) (by decide)) (g := (mkF m 166 #[.val (.int p1), .val (.int p2), .val (.int p3), .val (.int p4), .val (.int p5), .val (.int xa), .val (.int nb), .val (.int xp), .val (.int xf), .val (.int xk), .val (.int xm), .val (.double iv), .second, .val (.double vS), .second, .val (.double vG), .second, .val (.double vE), .second, .val (.ref gb), .unset, .unset, .unset] [(.double (4607182418800017408 : UInt64)), (.double (4607182418800017408 : UInt64)), (.double (4607182418800017408 : UInt64)), (.ref ve), (.ref ve), (.ref gb)])) rfl (by rw [hml]; rfl) (Steps.refl _) (a := ve) (argsL := [(.double (4607182418800017408 : UInt64)), (.double (4607182418800017408 : UInt64)), (.double (4607182418800017408 : UInt64))]) (rest := [(.ref ve), (.ref gb)]) (lenOf pd__28DDD_29V rfl) rfl (by show 2 * 0 + _ ≤ _; exact Nat.le_of_eq rfl) (hb hby at_166) (fun _ _ => ⟨rfl, e22, (by decide : 7 + 0 ≤ _), (by decide : 21 + 0 ≤ _)⟩)
      dsimp only [Pt.U, Pt.locs, Pt.cells, Pt.slots] at X23 l23 y23 z23 st23 hQ23
      subst l23 y23 z23
      obtain ⟨rfl, N23q, KQ23, fo0_23, fo1_23, fo2_23⟩ := hQ23
      have N23 := Fr.app N20 N23q
      have E_gb := E_gb.keep KQ23
      have F_value_gb := F_value_gb.keep KQ23 (ninS ne_gb_ve nin0)
      have F_covariance_gb := F_covariance_gb.keep KQ23 (ninS ne_gb_ve nin0)
      have F_growth_gb := F_growth_gb.keep KQ23 (ninS ne_gb_ve nin0)
      have V_va := V_va.keep KQ23 (ninS ne_va_ve nin0)
      have V_gr := V_gr.keep KQ23 (ninS ne_gr_ve nin0)
      have V_r0 := V_r0.keep KQ23 (ninS ne_r0_ve nin0)
      have V_r1 := V_r1.keep KQ23 (ninS ne_r1_ve nin0)
      have V_r2 := V_r2.keep KQ23 (ninS ne_r2_ve nin0)
      have E_ve := E_ve.keep KQ23
      have Z24 : n0 ≤ T23.heap.size := Nat.le_trans Z22 KQ23.1
      have F_x_ve := fo0_23
      have F_y_ve := fo1_23
      have F_z_ve := fo2_23
      refine Goes.pre (U' := T23.setTop (mkF m 178 #[.val (.int p1), .val (.int p2), .val (.int p3), .val (.int p4), .val (.int p5), .val (.int xa), .val (.int nb), .val (.int xp), .val (.int xf), .val (.int xk), .val (.int xm), .val (.double iv), .second, .val (.double vS), .second, .val (.double vG), .second, .val (.double vE), .second, .val (.ref gb), .unset, .unset, .unset] [(.double vE), (.double vX), (.ref ve), (.ref gb)])) (fun t k => st23.trans (X23.ldc2DoubleC hx hown (mvT hZ (wq hw 41 rfl)) (g := (mkF m 169 #[.val (.int p1), .val (.int p2), .val (.int p3), .val (.int p4), .val (.int p5), .val (.int xa), .val (.int nb), .val (.int xp), .val (.int xf), .val (.int xk), .val (.int xm), .val (.double iv), .second, .val (.double vS), .second, .val (.double vG), .second, .val (.double vE), .second, .val (.ref gb), .unset, .unset, .unset] [(.ref ve), (.ref gb)])) rfl (hb hby at_169) _ (XS.iload X23.here hx rfl (hb hby at_172) rfl (XS.i2dS X23.here hx rfl (v := vM) (hb hby at_174) rfl i1 (XS.dmulS X23.here hx rfl (v := vX) (hb hby at_175) rfl i3.2 i3.1 (XS.dload X23.here hx rfl (hb hby at_176) rfl k)))))) ?_
      obtain ⟨cq25, kq25, q25a, q25b, q25c⟩ := isOf hZ rfl E_gb
      obtain ⟨_, _, ⟨T25, L25, k25, n25⟩, -, X25, ⟨Lc25, hQ25, l25, y25, z25⟩, st25⟩ := X23.virtualBack hx (y := (⟨"com/example/corpo/corpo/orientation/GyroBias", "observe", "(Lcom/example/corpo/corpo/samples/Vector3;DD)V"⟩ : MethodName)) (z := (⟨"com/example/corpo/corpo/orientation/GyroBias", "observe", "(Lcom/example/corpo/corpo/samples/Vector3;DD)V"⟩ : MethodName)) hown (mvT hZ (wq hw 42 rfl)) (mvT hZ (wq hw 43 rfl)) (notFace_of_selects (args := #[]) (mvT hZ (wq hw 45 rfl))) (mvT hZ (wq hw 45 rfl)) (mvT hZ (wq hw 44 rfl)) (by decide) (backOf (W := 0) (rm_obs l Z a0 hw [] gb ve va gr r0 r1 r2 kv kg kr vX vE w2 w3 w4 vq_ u1 u2 vM T23.heap n0 Z24 F_value_gb F_covariance_gb E_ve V_va F_x_ve F_y_ve F_z_ve V_gr V_r0 V_r1 V_r2 hob hom ne_gb_va ne_ve_va ne_gr_va ne_r0_va ne_r1_va ne_r2_va ne_gb_r0 ne_ve_r0 ne_va_r0 ne_gr_r0 ne_r1_r0 ne_r2_r0 ne_gb_r1 ne_ve_r1 ne_va_r1 ne_gr_r1 ne_r0_r1 ne_r2_r1 ne_gb_r2 ne_ve_r2 ne_va_r2 ne_gr_r2 ne_r0_r2 ne_r1_r2 g_va g_r0 g_r1 g_r2) hZ (wq hw 46 rfl) (wq hw 2 rfl) (by decide) (by decide)) q25a q25c (g := (mkF m 178 #[.val (.int p1), .val (.int p2), .val (.int p3), .val (.int p4), .val (.int p5), .val (.int xa), .val (.int nb), .val (.int xp), .val (.int xf), .val (.int xk), .val (.int xm), .val (.double iv), .second, .val (.double vS), .second, .val (.double vG), .second, .val (.double vE), .second, .val (.ref gb), .unset, .unset, .unset] [(.double vE), (.double vX), (.ref ve), (.ref gb)])) rfl (by rw [hml]; rfl) (Steps.refl _) (argsL := [(.ref ve), (.double vX), (.double vE)]) (rest := []) (lenOf pd__28Lcom_2fexample_2fcorpo_2fcorpo_2fsamples_2fVector3_3bDD_29V rfl) rfl (by show 2 * 0 + _ ≤ _; exact Nat.le_of_eq rfl) (hb hby at_178) (fun _ _ => ⟨rfl, rfl, (by decide : 7 + 2 ≤ _), (by decide : 21 + 6 ≤ _)⟩)
      dsimp only [Pt.U, Pt.locs, Pt.cells, Pt.slots] at X25 l25 y25 z25 st25 hQ25
      subst l25 y25 z25
      obtain ⟨rfl, N25q, KQ25, fo0_25⟩ := hQ25
      have N25 := Fr.app N23 N25q
      have E_gb := E_gb.keep KQ25
      have F_value_gb := F_value_gb.keep KQ25 (ninS ne_gb_va (ninS ne_gb_r0 (ninS ne_gb_r1 (ninS ne_gb_r2 nin0))))
      have F_covariance_gb := F_covariance_gb.keep KQ25 (ninS ne_gb_va (ninS ne_gb_r0 (ninS ne_gb_r1 (ninS ne_gb_r2 nin0))))
      have F_growth_gb := F_growth_gb.keep KQ25 (ninS ne_gb_va (ninS ne_gb_r0 (ninS ne_gb_r1 (ninS ne_gb_r2 nin0))))
      have V_gr := V_gr.keep KQ25 (ninS ne_gr_va (ninS ne_gr_r0 (ninS ne_gr_r1 (ninS ne_gr_r2 nin0))))
      have E_ve := E_ve.keep KQ25
      have F_x_ve := F_x_ve.keep KQ25 (ninS ne_ve_va (ninS ne_ve_r0 (ninS ne_ve_r1 (ninS ne_ve_r2 nin0))))
      have F_y_ve := F_y_ve.keep KQ25 (ninS ne_ve_va (ninS ne_ve_r0 (ninS ne_ve_r1 (ninS ne_ve_r2 nin0))))
      have F_z_ve := F_z_ve.keep KQ25 (ninS ne_ve_va (ninS ne_ve_r0 (ninS ne_ve_r1 (ninS ne_ve_r2 nin0))))
      have Z26 : n0 ≤ T25.heap.size := Nat.le_trans Z24 KQ25.1
      have V_va := fo0_25
      refine Goes.pre (U' := T25.setTop (mkF m 183 #[.val (.int p1), .val (.int p2), .val (.int p3), .val (.int p4), .val (.int p5), .val (.int xa), .val (.int nb), .val (.int xp), .val (.int xf), .val (.int xk), .val (.int xm), .val (.double iv), .second, .val (.double vS), .second, .val (.double vG), .second, .val (.double vE), .second, .val (.ref gb), .unset, .unset, .unset] [(.ref gb)])) (fun t k => st25.trans (XS.aload X25.here hx rfl (hb hby at_181) rfl rfl k)) ?_
      have lt_gb := E_gb.lt
      have lt_gr := V_gr.lt
      have lt_va := V_va.lt
      have lt_ve := E_ve.lt
      obtain ⟨cq27, kq27, q27a, q27b, q27c⟩ := isOf hZ rfl E_gb
      obtain ⟨_, _, ⟨T27, L27, k27, n27⟩, -, X27, ⟨Lc27, hQ27, l27, y27, z27⟩, st27⟩ := X25.virtualBack hx (y := (⟨"com/example/corpo/corpo/orientation/GyroBias", "value", "()Lcom/example/corpo/corpo/samples/Vector3;"⟩ : MethodName)) (z := (⟨"com/example/corpo/corpo/orientation/GyroBias", "value", "()Lcom/example/corpo/corpo/samples/Vector3;"⟩ : MethodName)) hown (mvT hZ (wq hw 65 rfl)) (mvT hZ (wq hw 66 rfl)) (notFace_of_selects (args := #[]) (mvT hZ (wq hw 68 rfl))) (mvT hZ (wq hw 68 rfl)) (mvT hZ (wq hw 67 rfl)) (by decide) (backOf (W := 0) (rm_value l Z a0 hw [] gb va kv vM vM vM T25.heap n0 Z26 F_value_gb V_va) hZ (wq hw 69 rfl) (wq hw 2 rfl) (by decide) (by decide)) q27a q27c (g := (mkF m 183 #[.val (.int p1), .val (.int p2), .val (.int p3), .val (.int p4), .val (.int p5), .val (.int xa), .val (.int nb), .val (.int xp), .val (.int xf), .val (.int xk), .val (.int xm), .val (.double iv), .second, .val (.double vS), .second, .val (.double vG), .second, .val (.double vE), .second, .val (.ref gb), .unset, .unset, .unset] [(.ref gb)])) rfl (by rw [hml]; rfl) (Steps.refl _) (argsL := []) (rest := []) (lenOf pd__28_29Lcom_2fexample_2fcorpo_2fcorpo_2fsamples_2fVector3_3b rfl) rfl (by show 2 * 0 + _ ≤ _; exact Nat.le_of_eq rfl) (hb hby at_183) (fun _ _ => ⟨rfl, rfl, (by decide : 9 + 1 ≤ _), (by decide : 27 + 3 ≤ _)⟩)
      dsimp only [Pt.U, Pt.locs, Pt.cells, Pt.slots] at X27 l27 y27 z27 st27 hQ27
      subst l27 y27 z27
      obtain ⟨r27, rfl, N27q, KQ27, fo0_27, fo1_27, fo2_27, fo3_27, g_r27, sl_r27⟩ := hQ27
      have N27 := Fr.app N25 N27q
      have E_gb := E_gb.keep KQ27
      have F_value_gb := F_value_gb.keep KQ27 nin0
      have F_covariance_gb := F_covariance_gb.keep KQ27 nin0
      have F_growth_gb := F_growth_gb.keep KQ27 nin0
      have V_gr := V_gr.keep KQ27 nin0
      have E_ve := E_ve.keep KQ27
      have F_x_ve := F_x_ve.keep KQ27 nin0
      have F_y_ve := F_y_ve.keep KQ27 nin0
      have F_z_ve := F_z_ve.keep KQ27 nin0
      have V_va := V_va.keep KQ27 nin0
      have Z28 : n0 ≤ T27.heap.size := Nat.le_trans Z26 KQ27.1
      have ne_gb_r27 : gb ≠ r27 := Nat.ne_of_lt (Nat.lt_of_lt_of_le lt_gb sl_r27)
      have ne_r27_gb := ne_gb_r27.symm
      have ne_gr_r27 : gr ≠ r27 := Nat.ne_of_lt (Nat.lt_of_lt_of_le lt_gr sl_r27)
      have ne_r27_gr := ne_gr_r27.symm
      have ne_va_r27 : va ≠ r27 := Nat.ne_of_lt (Nat.lt_of_lt_of_le lt_va sl_r27)
      have ne_r27_va := ne_va_r27.symm
      have ne_ve_r27 : ve ≠ r27 := Nat.ne_of_lt (Nat.lt_of_lt_of_le lt_ve sl_r27)
      have ne_r27_ve := ne_ve_r27.symm
      have E_r27 := fo0_27
      have F_x_r27 := fo1_27
      have F_y_r27 := fo2_27
      have F_z_r27 := fo3_27
      refine Goes.pre (U' := T27.setTop (mkF m 195 #[.val (.int p1), .val (.int p2), .val (.int p3), .val (.int p4), .val (.int p5), .val (.int xa), .val (.int nb), .val (.int xp), .val (.int xf), .val (.int xk), .val (.int xm), .val (.double iv), .second, .val (.double vS), .second, .val (.double vG), .second, .val (.double vE), .second, .val (.ref gb), .val (.ref r27), .val (.double vM), .second] [(.ref r27)])) (fun t k => st27.trans (XS.astore X27.here hx rfl (hb hby at_186) rfl rfl (l' := #[.val (.int p1), .val (.int p2), .val (.int p3), .val (.int p4), .val (.int p5), .val (.int xa), .val (.int nb), .val (.int xp), .val (.int xf), .val (.int xk), .val (.int xm), .val (.double iv), .second, .val (.double vS), .second, .val (.double vG), .second, .val (.double vE), .second, .val (.ref gb), .val (.ref r27), .unset, .unset]) rfl (XS.iload X27.here hx rfl (hb hby at_188) rfl (XS.i2dS X27.here hx rfl (v := vM) (hb hby at_190) rfl i1 (XS.dstore X27.here hx rfl (hb hby at_191) rfl (l' := #[.val (.int p1), .val (.int p2), .val (.int p3), .val (.int p4), .val (.int p5), .val (.int xa), .val (.int nb), .val (.int xp), .val (.int xf), .val (.int xk), .val (.int xm), .val (.double iv), .second, .val (.double vS), .second, .val (.double vG), .second, .val (.double vE), .second, .val (.ref gb), .val (.ref r27), .val (.double vM), .second]) rfl (XS.aload X27.here hx rfl (hb hby at_193) rfl rfl k)))))) ?_
      obtain ⟨cq29, kq29, q29a, q29b, q29c⟩ := isOf hZ rfl E_r27
      obtain ⟨_, _, ⟨T29, L29, k29, n29⟩, -, X29, ⟨Lc29, hQ29, l29, y29, z29⟩, st29⟩ := X27.virtualBack hx (y := (⟨"com/example/corpo/corpo/samples/Vector3", "x", "()D"⟩ : MethodName)) (z := (⟨"com/example/corpo/corpo/samples/Vector3", "x", "()D"⟩ : MethodName)) hown (mvT hZ (wq hw 72 rfl)) (mvT hZ (wq hw 48 rfl)) (notFace_of_selects (args := #[]) (mvT hZ (wq hw 50 rfl))) (mvT hZ (wq hw 50 rfl)) (mvT hZ (wq hw 49 rfl)) (by decide) (backOf (W := 0) (rm_vx l Z a0 hw [] r27 vM T27.heap n0 Z28 F_x_r27) hZ (wq hw 51 rfl) (wq hw 25 rfl) (by decide) (by decide)) q29a q29c (g := (mkF m 195 #[.val (.int p1), .val (.int p2), .val (.int p3), .val (.int p4), .val (.int p5), .val (.int xa), .val (.int nb), .val (.int xp), .val (.int xf), .val (.int xk), .val (.int xm), .val (.double iv), .second, .val (.double vS), .second, .val (.double vG), .second, .val (.double vE), .second, .val (.ref gb), .val (.ref r27), .val (.double vM), .second] [(.ref r27)])) rfl (by rw [hml]; rfl) (Steps.refl _) (argsL := []) (rest := []) (lenOf pd__28_29D rfl) rfl (by show 2 * 0 + _ ≤ _; exact Nat.le_of_eq rfl) (hb hby at_195) (fun _ _ => ⟨rfl, rfl, (by decide : 10 + 0 ≤ _), (by decide : 30 + 0 ≤ _)⟩)
      dsimp only [Pt.U, Pt.locs, Pt.cells, Pt.slots] at X29 l29 y29 z29 st29 hQ29
      subst l29 y29 z29
      obtain ⟨rfl, N29q, HQ29⟩ := hQ29
      have N29 := Fr.app N27 N29q
      refine Goes.pre (U' := T29.setTop (mkF m 201 #[.val (.int p1), .val (.int p2), .val (.int p3), .val (.int p4), .val (.int p5), .val (.int xa), .val (.int nb), .val (.int xp), .val (.int xf), .val (.int xk), .val (.int xm), .val (.double iv), .second, .val (.double vS), .second, .val (.double vG), .second, .val (.double vE), .second, .val (.ref gb), .val (.ref r27), .val (.double vM), .second] [(.int (0 : Int32))])) (fun t k => st29.trans (XS.dload X29.here hx rfl (hb hby at_198) rfl (XS.dcmpS X29.here hx rfl (v := (0 : Int32)) (hb hby at_200) rfl (dcmpV_self i2 _) k))) ?_
      have hc201 : (0 : Int32) = (0 : Int32) := rfl
      refine Goes.pre (U' := T29.setTop (mkF m 206 #[.val (.int p1), .val (.int p2), .val (.int p3), .val (.int p4), .val (.int p5), .val (.int xa), .val (.int nb), .val (.int xp), .val (.int xf), .val (.int xk), .val (.int xm), .val (.double iv), .second, .val (.double vS), .second, .val (.double vG), .second, .val (.double vE), .second, .val (.ref gb), .val (.ref r27), .val (.double vM), .second] [(.ref r27)])) (fun t k => XS.ifNo X29.here hx rfl (hb hby at_201) rfl ((if0 _ _).trans (teq hc201).2) (XS.aload X29.here hx rfl (hb hby at_204) rfl rfl k)) ?_
      obtain ⟨cq30, kq30, q30a, q30b, q30c⟩ := isOf hZ HQ29 E_r27
      obtain ⟨_, _, ⟨T30, L30, k30, n30⟩, -, X30, ⟨Lc30, hQ30, l30, y30, z30⟩, st30⟩ := X29.virtualBack hx (y := (⟨"com/example/corpo/corpo/samples/Vector3", "y", "()D"⟩ : MethodName)) (z := (⟨"com/example/corpo/corpo/samples/Vector3", "y", "()D"⟩ : MethodName)) hown (mvT hZ (wq hw 73 rfl)) (mvT hZ (wq hw 53 rfl)) (notFace_of_selects (args := #[]) (mvT hZ (wq hw 55 rfl))) (mvT hZ (wq hw 55 rfl)) (mvT hZ (wq hw 54 rfl)) (by decide) (backOf (W := 0) (rm_vy l Z a0 hw [] r27 vM T27.heap n0 Z28 F_y_r27) hZ (wq hw 56 rfl) (wq hw 25 rfl) (by decide) (by decide)) q30a q30c (g := (mkF m 206 #[.val (.int p1), .val (.int p2), .val (.int p3), .val (.int p4), .val (.int p5), .val (.int xa), .val (.int nb), .val (.int xp), .val (.int xf), .val (.int xk), .val (.int xm), .val (.double iv), .second, .val (.double vS), .second, .val (.double vG), .second, .val (.double vE), .second, .val (.ref gb), .val (.ref r27), .val (.double vM), .second] [(.ref r27)])) rfl (by rw [hml]; rfl) (Steps.refl _) (argsL := []) (rest := []) (lenOf pd__28_29D rfl) rfl (by show 2 * 0 + _ ≤ _; exact Nat.le_of_eq rfl) (hb hby at_206) (fun _ _ => ⟨rfl, HQ29, (by decide : 10 + 0 ≤ _), (by decide : 30 + 0 ≤ _)⟩)
      dsimp only [Pt.U, Pt.locs, Pt.cells, Pt.slots] at X30 l30 y30 z30 st30 hQ30
      subst l30 y30 z30
      obtain ⟨rfl, N30q, HQ30⟩ := hQ30
      have N30 := Fr.app N29 N30q
      refine Goes.pre (U' := T30.setTop (mkF m 212 #[.val (.int p1), .val (.int p2), .val (.int p3), .val (.int p4), .val (.int p5), .val (.int xa), .val (.int nb), .val (.int xp), .val (.int xf), .val (.int xk), .val (.int xm), .val (.double iv), .second, .val (.double vS), .second, .val (.double vG), .second, .val (.double vE), .second, .val (.ref gb), .val (.ref r27), .val (.double vM), .second] [(.int (0 : Int32))])) (fun t k => st30.trans (XS.dload X30.here hx rfl (hb hby at_209) rfl (XS.dcmpS X30.here hx rfl (v := (0 : Int32)) (hb hby at_211) rfl (dcmpV_self i2 _) k))) ?_
      have hc212 : (0 : Int32) = (0 : Int32) := rfl
      refine Goes.pre (U' := T30.setTop (mkF m 217 #[.val (.int p1), .val (.int p2), .val (.int p3), .val (.int p4), .val (.int p5), .val (.int xa), .val (.int nb), .val (.int xp), .val (.int xf), .val (.int xk), .val (.int xm), .val (.double iv), .second, .val (.double vS), .second, .val (.double vG), .second, .val (.double vE), .second, .val (.ref gb), .val (.ref r27), .val (.double vM), .second] [(.ref r27)])) (fun t k => XS.ifNo X30.here hx rfl (hb hby at_212) rfl ((if0 _ _).trans (teq hc212).2) (XS.aload X30.here hx rfl (hb hby at_215) rfl rfl k)) ?_
      obtain ⟨cq31, kq31, q31a, q31b, q31c⟩ := isOf hZ HQ30 E_r27
      obtain ⟨_, _, ⟨T31, L31, k31, n31⟩, -, X31, ⟨Lc31, hQ31, l31, y31, z31⟩, st31⟩ := X30.virtualBack hx (y := (⟨"com/example/corpo/corpo/samples/Vector3", "z", "()D"⟩ : MethodName)) (z := (⟨"com/example/corpo/corpo/samples/Vector3", "z", "()D"⟩ : MethodName)) hown (mvT hZ (wq hw 74 rfl)) (mvT hZ (wq hw 58 rfl)) (notFace_of_selects (args := #[]) (mvT hZ (wq hw 60 rfl))) (mvT hZ (wq hw 60 rfl)) (mvT hZ (wq hw 59 rfl)) (by decide) (backOf (W := 0) (rm_vz l Z a0 hw [] r27 vM T27.heap n0 Z28 F_z_r27) hZ (wq hw 61 rfl) (wq hw 25 rfl) (by decide) (by decide)) q31a q31c (g := (mkF m 217 #[.val (.int p1), .val (.int p2), .val (.int p3), .val (.int p4), .val (.int p5), .val (.int xa), .val (.int nb), .val (.int xp), .val (.int xf), .val (.int xk), .val (.int xm), .val (.double iv), .second, .val (.double vS), .second, .val (.double vG), .second, .val (.double vE), .second, .val (.ref gb), .val (.ref r27), .val (.double vM), .second] [(.ref r27)])) rfl (by rw [hml]; rfl) (Steps.refl _) (argsL := []) (rest := []) (lenOf pd__28_29D rfl) rfl (by show 2 * 0 + _ ≤ _; exact Nat.le_of_eq rfl) (hb hby at_217) (fun _ _ => ⟨rfl, HQ30, (by decide : 10 + 0 ≤ _), (by decide : 30 + 0 ≤ _)⟩)
      dsimp only [Pt.U, Pt.locs, Pt.cells, Pt.slots] at X31 l31 y31 z31 st31 hQ31
      subst l31 y31 z31
      obtain ⟨rfl, N31q, HQ31⟩ := hQ31
      have N31 := Fr.app N30 N31q
      refine Goes.pre (U' := T31.setTop (mkF m 223 #[.val (.int p1), .val (.int p2), .val (.int p3), .val (.int p4), .val (.int p5), .val (.int xa), .val (.int nb), .val (.int xp), .val (.int xf), .val (.int xk), .val (.int xm), .val (.double iv), .second, .val (.double vS), .second, .val (.double vG), .second, .val (.double vE), .second, .val (.ref gb), .val (.ref r27), .val (.double vM), .second] [(.int (0 : Int32))])) (fun t k => st31.trans (XS.dload X31.here hx rfl (hb hby at_220) rfl (XS.dcmpS X31.here hx rfl (v := (0 : Int32)) (hb hby at_222) rfl (dcmpV_self i2 _) k))) ?_
      have hc223 : (0 : Int32) = (0 : Int32) := rfl
      refine Goes.pre (U' := T31.setTop (mkF m 231 #[.val (.int p1), .val (.int p2), .val (.int p3), .val (.int p4), .val (.int p5), .val (.int xa), .val (.int nb), .val (.int xp), .val (.int xf), .val (.int xk), .val (.int xm), .val (.double iv), .second, .val (.double vS), .second, .val (.double vG), .second, .val (.double vE), .second, .val (.ref gb), .val (.ref r27), .val (.double vM), .second] [(.int (1 : Int32))])) (fun t k => XS.ifNo X31.here hx rfl (hb hby at_223) rfl ((if0 _ _).trans (teq hc223).2) (XS.iconst X31.here hx rfl (hb hby at_226) (XS.goto X31.here hx rfl (pc0 := 227) (pc' := 231) rfl (hb hby at_227) (by decide) (by decide) k))) ?_
      refine Goes.ret X31 (v := (some (.int (1 : Int32)))) (fun h => by rw [hret] at h; cases h) hlk (by decide) (by decide) HQ31 (fun fs hr => retN X31 hx (t := .boolean) hret (by simp) (hb hby at_231) hr) ?_
      exact ⟨rfl, N31⟩
    ·
      refine Goes.pre (U' := T20.setTop (mkF m 143 #[.val (.int p1), .val (.int p2), .val (.int p3), .val (.int p4), .val (.int p5), .val (.int xa), .val (.int nb), .val (.int xp), .val (.int xf), .val (.int xk), .val (.int xm), .val (.double iv), .second, .val (.double vS), .second, .val (.double vG), .second, .val (.double vE), .second, .val (.ref gb), .unset, .unset, .unset] [(.ref gb)])) (fun t k => XS.icmpNo X20.here hx rfl (hb hby at_138) rfl (flt hc138).1 (XS.aload X20.here hx rfl (hb hby at_141) rfl rfl k)) ?_
      obtain ⟨cq32, kq32, q32a, q32b, q32c⟩ := isOf hZ rfl E_gb
      obtain ⟨_, _, ⟨T32, L32, k32, n32⟩, -, X32, ⟨Lc32, hQ32, l32, y32, z32⟩, st32⟩ := X20.virtualBack hx (y := (⟨"com/example/corpo/corpo/orientation/GyroBias", "age", "()V"⟩ : MethodName)) (z := (⟨"com/example/corpo/corpo/orientation/GyroBias", "age", "()V"⟩ : MethodName)) hown (mvT hZ (wq hw 18 rfl)) (mvT hZ (wq hw 19 rfl)) (notFace_of_selects (args := #[]) (mvT hZ (wq hw 21 rfl))) (mvT hZ (wq hw 21 rfl)) (mvT hZ (wq hw 20 rfl)) (by decide) (backOf (W := 0) (rm_age l Z a0 hw [] gb gr r0 r1 r2 kg kr v1 vG v2 T20.heap n0 Z21 F_covariance_gb F_growth_gb V_gr V_r0 V_r1 V_r2 b13 ne_gb_r0 ne_gr_r0 ne_r1_r0 ne_r2_r0 ne_gb_r1 ne_gr_r1 ne_r0_r1 ne_r2_r1 ne_gb_r2 ne_gr_r2 ne_r0_r2 ne_r1_r2 g_r0 g_r1 g_r2) hZ (wq hw 22 rfl) (wq hw 2 rfl) (by decide) (by decide)) q32a q32c (g := (mkF m 143 #[.val (.int p1), .val (.int p2), .val (.int p3), .val (.int p4), .val (.int p5), .val (.int xa), .val (.int nb), .val (.int xp), .val (.int xf), .val (.int xk), .val (.int xm), .val (.double iv), .second, .val (.double vS), .second, .val (.double vG), .second, .val (.double vE), .second, .val (.ref gb), .unset, .unset, .unset] [(.ref gb)])) rfl (by rw [hml]; rfl) (Steps.refl _) (argsL := []) (rest := []) (lenOf pd__28_29V rfl) rfl (by show 2 * 0 + _ ≤ _; exact Nat.le_of_eq rfl) (hb hby at_143) (fun _ _ => ⟨rfl, rfl, (by decide : 6 + 0 ≤ _), (by decide : 18 + 0 ≤ _)⟩)
      dsimp only [Pt.U, Pt.locs, Pt.cells, Pt.slots] at X32 l32 y32 z32 st32 hQ32
      subst l32 y32 z32
      obtain ⟨rfl, N32q, KQ32, fo0_32, fo1_32, fo2_32⟩ := hQ32
      have N32 := Fr.app N20 N32q
      have E_gb := E_gb.keep KQ32
      have F_value_gb := F_value_gb.keep KQ32 (ninS ne_gb_r0 (ninS ne_gb_r1 (ninS ne_gb_r2 nin0)))
      have F_covariance_gb := F_covariance_gb.keep KQ32 (ninS ne_gb_r0 (ninS ne_gb_r1 (ninS ne_gb_r2 nin0)))
      have F_growth_gb := F_growth_gb.keep KQ32 (ninS ne_gb_r0 (ninS ne_gb_r1 (ninS ne_gb_r2 nin0)))
      have V_va := V_va.keep KQ32 (ninS ne_va_r0 (ninS ne_va_r1 (ninS ne_va_r2 nin0)))
      have V_gr := V_gr.keep KQ32 (ninS ne_gr_r0 (ninS ne_gr_r1 (ninS ne_gr_r2 nin0)))
      have Z33 : n0 ≤ T32.heap.size := Nat.le_trans Z21 KQ32.1
      have V_r0 := fo0_32
      have V_r1 := fo1_32
      have V_r2 := fo2_32
      refine Goes.pre (U' := T32.setTop (mkF m 149 #[.val (.int p1), .val (.int p2), .val (.int p3), .val (.int p4), .val (.int p5), .val (.int xa), .val (.int nb), .val (.int xp), .val (.int xf), .val (.int xk), .val (.int xm), .val (.double iv), .second, .val (.double vS), .second, .val (.double vG), .second, .val (.double vE), .second, .val (.ref gb), .unset, .unset, .unset] [(.int (3 : Int32)), (.int xk)])) (fun t k => st32.trans (XS.iload X32.here hx rfl (hb hby at_146) rfl (XS.iconst X32.here hx rfl (hb hby at_148) k))) ?_
      by_cases hc149 : xk < (3 : Int32)
      ·
        refine Goes.pre (U' := T32.setTop (mkF m 157 #[.val (.int p1), .val (.int p2), .val (.int p3), .val (.int p4), .val (.int p5), .val (.int xa), .val (.int nb), .val (.int xp), .val (.int xf), .val (.int xk), .val (.int xm), .val (.double iv), .second, .val (.double vS), .second, .val (.double vG), .second, .val (.double vE), .second, .val (.ref gb), .unset, .unset, .unset] [])) (fun t k => XS.icmpYes X32.here hx rfl (pc0 := 149) (pc' := 157) rfl (hb hby at_149) rfl (tlt hc149).1 (by decide) (by decide) k) ?_
        rw [(b17 (own_k2 hxk hc138 hc149))] at V_r0 V_r1 V_r2
        refine Goes.pre (U' := T32.setTop (mkF m 159 #[.val (.int p1), .val (.int p2), .val (.int p3), .val (.int p4), .val (.int p5), .val (.int xa), .val (.int nb), .val (.int xp), .val (.int xf), .val (.int xk), .val (.int xm), .val (.double iv), .second, .val (.double vS), .second, .val (.double vG), .second, .val (.double vE), .second, .val (.ref gb), .unset, .unset, .unset] [(.ref gb)])) (fun t k => XS.aload X32.here hx rfl (hb hby at_157) rfl rfl k) ?_
        obtain ⟨T34, h34, X34, e34, E34, A34, D34, -, st34⟩ := newO X32 hx hZ hown (wq hw 23 rfl) (wq hw 24 rfl) (wq hw 25 rfl) rfl (g := (mkF m 159 #[.val (.int p1), .val (.int p2), .val (.int p3), .val (.int p4), .val (.int p5), .val (.int xa), .val (.int nb), .val (.int xp), .val (.int xf), .val (.int xk), .val (.int xm), .val (.double iv), .second, .val (.double vS), .second, .val (.double vG), .second, .val (.double vE), .second, .val (.ref gb), .unset, .unset, .unset] [(.ref gb)])) rfl (hb hby at_159) (by decide) (by decide)
        obtain ⟨ve, g34⟩ : ∃ z, z = T32.heap.size := ⟨_, rfl⟩
        rw [← g34] at A34 D34 st34
        have ne_gb_ve : gb ≠ ve := Nat.ne_of_lt (Nat.lt_of_lt_of_le E_gb.lt (Nat.le_of_eq g34.symm))
        have ne_ve_gb := ne_gb_ve.symm
        have ne_gr_ve : gr ≠ ve := Nat.ne_of_lt (Nat.lt_of_lt_of_le V_gr.lt (Nat.le_of_eq g34.symm))
        have ne_ve_gr := ne_gr_ve.symm
        have ne_r0_ve : r0 ≠ ve := Nat.ne_of_lt (Nat.lt_of_lt_of_le V_r0.lt (Nat.le_of_eq g34.symm))
        have ne_ve_r0 := ne_r0_ve.symm
        have ne_r1_ve : r1 ≠ ve := Nat.ne_of_lt (Nat.lt_of_lt_of_le V_r1.lt (Nat.le_of_eq g34.symm))
        have ne_ve_r1 := ne_r1_ve.symm
        have ne_r2_ve : r2 ≠ ve := Nat.ne_of_lt (Nat.lt_of_lt_of_le V_r2.lt (Nat.le_of_eq g34.symm))
        have ne_ve_r2 := ne_r2_ve.symm
        have ne_va_ve : va ≠ ve := Nat.ne_of_lt (Nat.lt_of_lt_of_le V_va.lt (Nat.le_of_eq g34.symm))
        have ne_ve_va := ne_va_ve.symm
        have g_ve : n0 ≤ ve := Nat.le_trans Z33 (Nat.le_of_eq g34.symm)
        have E_gb := E_gb.ext E34
        have F_value_gb := F_value_gb.ext E34
        have F_covariance_gb := F_covariance_gb.ext E34
        have F_growth_gb := F_growth_gb.ext E34
        have V_va := V_va.ext E34
        have V_gr := V_gr.ext E34
        have V_r0 := V_r0.ext E34
        have V_r1 := V_r1.ext E34
        have V_r2 := V_r2.ext E34
        have Z34 : n0 ≤ h34.size := Nat.le_trans Z33 E34.1
        have E_ve := A34
        have F_x_ve : Fld Z h34 ve "com/example/corpo/corpo/samples/Vector3" "x" "D" (.double (0 : UInt64)) := D34 (Or.inr (wq hw 36 rfl)) (ty := .double) (by decide)
        have F_y_ve : Fld Z h34 ve "com/example/corpo/corpo/samples/Vector3" "y" "D" (.double (0 : UInt64)) := D34 (Or.inr (wq hw 38 rfl)) (ty := .double) (by decide)
        have F_z_ve : Fld Z h34 ve "com/example/corpo/corpo/samples/Vector3" "z" "D" (.double (0 : UInt64)) := D34 (Or.inr (wq hw 40 rfl)) (ty := .double) (by decide)
        refine Goes.pre (U' := T34.setTop (mkF m 166 #[.val (.int p1), .val (.int p2), .val (.int p3), .val (.int p4), .val (.int p5), .val (.int xa), .val (.int nb), .val (.int xp), .val (.int xf), .val (.int xk), .val (.int xm), .val (.double iv), .second, .val (.double vS), .second, .val (.double vG), .second, .val (.double vE), .second, .val (.ref gb), .unset, .unset, .unset] [(.double (4607182418800017408 : UInt64)), (.double (4607182418800017408 : UInt64)), (.double (4607182418800017408 : UInt64)), (.ref ve), (.ref ve), (.ref gb)])) (fun t k => st34 t (XS.dup X34.here hx rfl (hb hby at_162) rfl rfl (XS.dconst1 X34.here hx rfl (v := (4607182418800017408 : UInt64)) (hb hby at_163) (by decide +kernel) (XS.dconst1 X34.here hx rfl (v := (4607182418800017408 : UInt64)) (hb hby at_164) (by decide +kernel) (XS.dconst1 X34.here hx rfl (v := (4607182418800017408 : UInt64)) (hb hby at_165) (by decide +kernel) k))))) ?_
        obtain ⟨_, _, ⟨T35, L35, k35, n35⟩, -, X35, ⟨Lc35, hQ35, l35, y35, z35⟩, st35⟩ := X34.specialBack hx (y := (⟨"com/example/corpo/corpo/samples/Vector3", "<init>", "(DDD)V"⟩ : MethodName)) rfl hown (mvT hZ (wq hw 26 rfl)) (mvT hZ (wq hw 27 rfl)) (mvT hZ (wq hw 28 rfl)) (by decide) (backOf (W := 2) (rm_v3 l Z a0 hw [] ve (4607182418800017408 : UInt64) (4607182418800017408 : UInt64) (4607182418800017408 : UInt64) h34 n0 Z34 E_ve F_x_ve F_y_ve F_z_ve g_ve) hZ (wq hw 28 rfl) (wq hw 25 rfl) (by decide) (by decide)) (g := (mkF m 166 #[.val (.int p1), .val (.int p2), .val (.int p3), .val (.int p4), .val (.int p5), .val (.int xa), .val (.int nb), .val (.int xp), .val (.int xf), .val (.int xk), .val (.int xm), .val (.double iv), .second, .val (.double vS), .second, .val (.double vG), .second, .val (.double vE), .second, .val (.ref gb), .unset, .unset, .unset] [(.double (4607182418800017408 : UInt64)), (.double (4607182418800017408 : UInt64)), (.double (4607182418800017408 : UInt64)), (.ref ve), (.ref ve), (.ref gb)])) rfl (by rw [hml]; rfl) (Steps.refl _) (a := ve) (argsL := [(.double (4607182418800017408 : UInt64)), (.double (4607182418800017408 : UInt64)), (.double (4607182418800017408 : UInt64))]) (rest := [(.ref ve), (.ref gb)]) (lenOf pd__28DDD_29V rfl) rfl (by show 2 * 0 + _ ≤ _; exact Nat.le_of_eq rfl) (hb hby at_166) (fun _ _ => ⟨rfl, e34, (by decide : 7 + 0 ≤ _), (by decide : 21 + 0 ≤ _)⟩)
        dsimp only [Pt.U, Pt.locs, Pt.cells, Pt.slots] at X35 l35 y35 z35 st35 hQ35
        subst l35 y35 z35
        obtain ⟨rfl, N35q, KQ35, fo0_35, fo1_35, fo2_35⟩ := hQ35
        have N35 := Fr.app N32 N35q
        have E_gb := E_gb.keep KQ35
        have F_value_gb := F_value_gb.keep KQ35 (ninS ne_gb_ve nin0)
        have F_covariance_gb := F_covariance_gb.keep KQ35 (ninS ne_gb_ve nin0)
        have F_growth_gb := F_growth_gb.keep KQ35 (ninS ne_gb_ve nin0)
        have V_va := V_va.keep KQ35 (ninS ne_va_ve nin0)
        have V_gr := V_gr.keep KQ35 (ninS ne_gr_ve nin0)
        have V_r0 := V_r0.keep KQ35 (ninS ne_r0_ve nin0)
        have V_r1 := V_r1.keep KQ35 (ninS ne_r1_ve nin0)
        have V_r2 := V_r2.keep KQ35 (ninS ne_r2_ve nin0)
        have E_ve := E_ve.keep KQ35
        have Z36 : n0 ≤ T35.heap.size := Nat.le_trans Z34 KQ35.1
        have F_x_ve := fo0_35
        have F_y_ve := fo1_35
        have F_z_ve := fo2_35
        refine Goes.pre (U' := T35.setTop (mkF m 178 #[.val (.int p1), .val (.int p2), .val (.int p3), .val (.int p4), .val (.int p5), .val (.int xa), .val (.int nb), .val (.int xp), .val (.int xf), .val (.int xk), .val (.int xm), .val (.double iv), .second, .val (.double vS), .second, .val (.double vG), .second, .val (.double vE), .second, .val (.ref gb), .unset, .unset, .unset] [(.double vE), (.double vX), (.ref ve), (.ref gb)])) (fun t k => st35.trans (X35.ldc2DoubleC hx hown (mvT hZ (wq hw 41 rfl)) (g := (mkF m 169 #[.val (.int p1), .val (.int p2), .val (.int p3), .val (.int p4), .val (.int p5), .val (.int xa), .val (.int nb), .val (.int xp), .val (.int xf), .val (.int xk), .val (.int xm), .val (.double iv), .second, .val (.double vS), .second, .val (.double vG), .second, .val (.double vE), .second, .val (.ref gb), .unset, .unset, .unset] [(.ref ve), (.ref gb)])) rfl (hb hby at_169) _ (XS.iload X35.here hx rfl (hb hby at_172) rfl (XS.i2dS X35.here hx rfl (v := vM) (hb hby at_174) rfl i1 (XS.dmulS X35.here hx rfl (v := vX) (hb hby at_175) rfl i3.2 i3.1 (XS.dload X35.here hx rfl (hb hby at_176) rfl k)))))) ?_
        obtain ⟨cq37, kq37, q37a, q37b, q37c⟩ := isOf hZ rfl E_gb
        obtain ⟨_, _, ⟨T37, L37, k37, n37⟩, -, X37, ⟨Lc37, hQ37, l37, y37, z37⟩, st37⟩ := X35.virtualBack hx (y := (⟨"com/example/corpo/corpo/orientation/GyroBias", "observe", "(Lcom/example/corpo/corpo/samples/Vector3;DD)V"⟩ : MethodName)) (z := (⟨"com/example/corpo/corpo/orientation/GyroBias", "observe", "(Lcom/example/corpo/corpo/samples/Vector3;DD)V"⟩ : MethodName)) hown (mvT hZ (wq hw 42 rfl)) (mvT hZ (wq hw 43 rfl)) (notFace_of_selects (args := #[]) (mvT hZ (wq hw 45 rfl))) (mvT hZ (wq hw 45 rfl)) (mvT hZ (wq hw 44 rfl)) (by decide) (backOf (W := 0) (rm_obs l Z a0 hw [] gb ve va gr r0 r1 r2 kv kg kr vX vE w2 w3 w4 vq_ u1 u2 vM T35.heap n0 Z36 F_value_gb F_covariance_gb E_ve V_va F_x_ve F_y_ve F_z_ve V_gr V_r0 V_r1 V_r2 hob hom ne_gb_va ne_ve_va ne_gr_va ne_r0_va ne_r1_va ne_r2_va ne_gb_r0 ne_ve_r0 ne_va_r0 ne_gr_r0 ne_r1_r0 ne_r2_r0 ne_gb_r1 ne_ve_r1 ne_va_r1 ne_gr_r1 ne_r0_r1 ne_r2_r1 ne_gb_r2 ne_ve_r2 ne_va_r2 ne_gr_r2 ne_r0_r2 ne_r1_r2 g_va g_r0 g_r1 g_r2) hZ (wq hw 46 rfl) (wq hw 2 rfl) (by decide) (by decide)) q37a q37c (g := (mkF m 178 #[.val (.int p1), .val (.int p2), .val (.int p3), .val (.int p4), .val (.int p5), .val (.int xa), .val (.int nb), .val (.int xp), .val (.int xf), .val (.int xk), .val (.int xm), .val (.double iv), .second, .val (.double vS), .second, .val (.double vG), .second, .val (.double vE), .second, .val (.ref gb), .unset, .unset, .unset] [(.double vE), (.double vX), (.ref ve), (.ref gb)])) rfl (by rw [hml]; rfl) (Steps.refl _) (argsL := [(.ref ve), (.double vX), (.double vE)]) (rest := []) (lenOf pd__28Lcom_2fexample_2fcorpo_2fcorpo_2fsamples_2fVector3_3bDD_29V rfl) rfl (by show 2 * 0 + _ ≤ _; exact Nat.le_of_eq rfl) (hb hby at_178) (fun _ _ => ⟨rfl, rfl, (by decide : 7 + 2 ≤ _), (by decide : 21 + 6 ≤ _)⟩)
        dsimp only [Pt.U, Pt.locs, Pt.cells, Pt.slots] at X37 l37 y37 z37 st37 hQ37
        subst l37 y37 z37
        obtain ⟨rfl, N37q, KQ37, fo0_37⟩ := hQ37
        have N37 := Fr.app N35 N37q
        have E_gb := E_gb.keep KQ37
        have F_value_gb := F_value_gb.keep KQ37 (ninS ne_gb_va (ninS ne_gb_r0 (ninS ne_gb_r1 (ninS ne_gb_r2 nin0))))
        have F_covariance_gb := F_covariance_gb.keep KQ37 (ninS ne_gb_va (ninS ne_gb_r0 (ninS ne_gb_r1 (ninS ne_gb_r2 nin0))))
        have F_growth_gb := F_growth_gb.keep KQ37 (ninS ne_gb_va (ninS ne_gb_r0 (ninS ne_gb_r1 (ninS ne_gb_r2 nin0))))
        have V_gr := V_gr.keep KQ37 (ninS ne_gr_va (ninS ne_gr_r0 (ninS ne_gr_r1 (ninS ne_gr_r2 nin0))))
        have E_ve := E_ve.keep KQ37
        have F_x_ve := F_x_ve.keep KQ37 (ninS ne_ve_va (ninS ne_ve_r0 (ninS ne_ve_r1 (ninS ne_ve_r2 nin0))))
        have F_y_ve := F_y_ve.keep KQ37 (ninS ne_ve_va (ninS ne_ve_r0 (ninS ne_ve_r1 (ninS ne_ve_r2 nin0))))
        have F_z_ve := F_z_ve.keep KQ37 (ninS ne_ve_va (ninS ne_ve_r0 (ninS ne_ve_r1 (ninS ne_ve_r2 nin0))))
        have Z38 : n0 ≤ T37.heap.size := Nat.le_trans Z36 KQ37.1
        have V_va := fo0_37
        refine Goes.pre (U' := T37.setTop (mkF m 183 #[.val (.int p1), .val (.int p2), .val (.int p3), .val (.int p4), .val (.int p5), .val (.int xa), .val (.int nb), .val (.int xp), .val (.int xf), .val (.int xk), .val (.int xm), .val (.double iv), .second, .val (.double vS), .second, .val (.double vG), .second, .val (.double vE), .second, .val (.ref gb), .unset, .unset, .unset] [(.ref gb)])) (fun t k => st37.trans (XS.aload X37.here hx rfl (hb hby at_181) rfl rfl k)) ?_
        have lt_gb := E_gb.lt
        have lt_gr := V_gr.lt
        have lt_va := V_va.lt
        have lt_ve := E_ve.lt
        obtain ⟨cq39, kq39, q39a, q39b, q39c⟩ := isOf hZ rfl E_gb
        obtain ⟨_, _, ⟨T39, L39, k39, n39⟩, -, X39, ⟨Lc39, hQ39, l39, y39, z39⟩, st39⟩ := X37.virtualBack hx (y := (⟨"com/example/corpo/corpo/orientation/GyroBias", "value", "()Lcom/example/corpo/corpo/samples/Vector3;"⟩ : MethodName)) (z := (⟨"com/example/corpo/corpo/orientation/GyroBias", "value", "()Lcom/example/corpo/corpo/samples/Vector3;"⟩ : MethodName)) hown (mvT hZ (wq hw 65 rfl)) (mvT hZ (wq hw 66 rfl)) (notFace_of_selects (args := #[]) (mvT hZ (wq hw 68 rfl))) (mvT hZ (wq hw 68 rfl)) (mvT hZ (wq hw 67 rfl)) (by decide) (backOf (W := 0) (rm_value l Z a0 hw [] gb va kv vM vM vM T37.heap n0 Z38 F_value_gb V_va) hZ (wq hw 69 rfl) (wq hw 2 rfl) (by decide) (by decide)) q39a q39c (g := (mkF m 183 #[.val (.int p1), .val (.int p2), .val (.int p3), .val (.int p4), .val (.int p5), .val (.int xa), .val (.int nb), .val (.int xp), .val (.int xf), .val (.int xk), .val (.int xm), .val (.double iv), .second, .val (.double vS), .second, .val (.double vG), .second, .val (.double vE), .second, .val (.ref gb), .unset, .unset, .unset] [(.ref gb)])) rfl (by rw [hml]; rfl) (Steps.refl _) (argsL := []) (rest := []) (lenOf pd__28_29Lcom_2fexample_2fcorpo_2fcorpo_2fsamples_2fVector3_3b rfl) rfl (by show 2 * 0 + _ ≤ _; exact Nat.le_of_eq rfl) (hb hby at_183) (fun _ _ => ⟨rfl, rfl, (by decide : 9 + 1 ≤ _), (by decide : 27 + 3 ≤ _)⟩)
        dsimp only [Pt.U, Pt.locs, Pt.cells, Pt.slots] at X39 l39 y39 z39 st39 hQ39
        subst l39 y39 z39
        obtain ⟨r39, rfl, N39q, KQ39, fo0_39, fo1_39, fo2_39, fo3_39, g_r39, sl_r39⟩ := hQ39
        have N39 := Fr.app N37 N39q
        have E_gb := E_gb.keep KQ39
        have F_value_gb := F_value_gb.keep KQ39 nin0
        have F_covariance_gb := F_covariance_gb.keep KQ39 nin0
        have F_growth_gb := F_growth_gb.keep KQ39 nin0
        have V_gr := V_gr.keep KQ39 nin0
        have E_ve := E_ve.keep KQ39
        have F_x_ve := F_x_ve.keep KQ39 nin0
        have F_y_ve := F_y_ve.keep KQ39 nin0
        have F_z_ve := F_z_ve.keep KQ39 nin0
        have V_va := V_va.keep KQ39 nin0
        have Z40 : n0 ≤ T39.heap.size := Nat.le_trans Z38 KQ39.1
        have ne_gb_r39 : gb ≠ r39 := Nat.ne_of_lt (Nat.lt_of_lt_of_le lt_gb sl_r39)
        have ne_r39_gb := ne_gb_r39.symm
        have ne_gr_r39 : gr ≠ r39 := Nat.ne_of_lt (Nat.lt_of_lt_of_le lt_gr sl_r39)
        have ne_r39_gr := ne_gr_r39.symm
        have ne_va_r39 : va ≠ r39 := Nat.ne_of_lt (Nat.lt_of_lt_of_le lt_va sl_r39)
        have ne_r39_va := ne_va_r39.symm
        have ne_ve_r39 : ve ≠ r39 := Nat.ne_of_lt (Nat.lt_of_lt_of_le lt_ve sl_r39)
        have ne_r39_ve := ne_ve_r39.symm
        have E_r39 := fo0_39
        have F_x_r39 := fo1_39
        have F_y_r39 := fo2_39
        have F_z_r39 := fo3_39
        refine Goes.pre (U' := T39.setTop (mkF m 195 #[.val (.int p1), .val (.int p2), .val (.int p3), .val (.int p4), .val (.int p5), .val (.int xa), .val (.int nb), .val (.int xp), .val (.int xf), .val (.int xk), .val (.int xm), .val (.double iv), .second, .val (.double vS), .second, .val (.double vG), .second, .val (.double vE), .second, .val (.ref gb), .val (.ref r39), .val (.double vM), .second] [(.ref r39)])) (fun t k => st39.trans (XS.astore X39.here hx rfl (hb hby at_186) rfl rfl (l' := #[.val (.int p1), .val (.int p2), .val (.int p3), .val (.int p4), .val (.int p5), .val (.int xa), .val (.int nb), .val (.int xp), .val (.int xf), .val (.int xk), .val (.int xm), .val (.double iv), .second, .val (.double vS), .second, .val (.double vG), .second, .val (.double vE), .second, .val (.ref gb), .val (.ref r39), .unset, .unset]) rfl (XS.iload X39.here hx rfl (hb hby at_188) rfl (XS.i2dS X39.here hx rfl (v := vM) (hb hby at_190) rfl i1 (XS.dstore X39.here hx rfl (hb hby at_191) rfl (l' := #[.val (.int p1), .val (.int p2), .val (.int p3), .val (.int p4), .val (.int p5), .val (.int xa), .val (.int nb), .val (.int xp), .val (.int xf), .val (.int xk), .val (.int xm), .val (.double iv), .second, .val (.double vS), .second, .val (.double vG), .second, .val (.double vE), .second, .val (.ref gb), .val (.ref r39), .val (.double vM), .second]) rfl (XS.aload X39.here hx rfl (hb hby at_193) rfl rfl k)))))) ?_
        obtain ⟨cq41, kq41, q41a, q41b, q41c⟩ := isOf hZ rfl E_r39
        obtain ⟨_, _, ⟨T41, L41, k41, n41⟩, -, X41, ⟨Lc41, hQ41, l41, y41, z41⟩, st41⟩ := X39.virtualBack hx (y := (⟨"com/example/corpo/corpo/samples/Vector3", "x", "()D"⟩ : MethodName)) (z := (⟨"com/example/corpo/corpo/samples/Vector3", "x", "()D"⟩ : MethodName)) hown (mvT hZ (wq hw 72 rfl)) (mvT hZ (wq hw 48 rfl)) (notFace_of_selects (args := #[]) (mvT hZ (wq hw 50 rfl))) (mvT hZ (wq hw 50 rfl)) (mvT hZ (wq hw 49 rfl)) (by decide) (backOf (W := 0) (rm_vx l Z a0 hw [] r39 vM T39.heap n0 Z40 F_x_r39) hZ (wq hw 51 rfl) (wq hw 25 rfl) (by decide) (by decide)) q41a q41c (g := (mkF m 195 #[.val (.int p1), .val (.int p2), .val (.int p3), .val (.int p4), .val (.int p5), .val (.int xa), .val (.int nb), .val (.int xp), .val (.int xf), .val (.int xk), .val (.int xm), .val (.double iv), .second, .val (.double vS), .second, .val (.double vG), .second, .val (.double vE), .second, .val (.ref gb), .val (.ref r39), .val (.double vM), .second] [(.ref r39)])) rfl (by rw [hml]; rfl) (Steps.refl _) (argsL := []) (rest := []) (lenOf pd__28_29D rfl) rfl (by show 2 * 0 + _ ≤ _; exact Nat.le_of_eq rfl) (hb hby at_195) (fun _ _ => ⟨rfl, rfl, (by decide : 10 + 0 ≤ _), (by decide : 30 + 0 ≤ _)⟩)
        dsimp only [Pt.U, Pt.locs, Pt.cells, Pt.slots] at X41 l41 y41 z41 st41 hQ41
        subst l41 y41 z41
        obtain ⟨rfl, N41q, HQ41⟩ := hQ41
        have N41 := Fr.app N39 N41q
        refine Goes.pre (U' := T41.setTop (mkF m 201 #[.val (.int p1), .val (.int p2), .val (.int p3), .val (.int p4), .val (.int p5), .val (.int xa), .val (.int nb), .val (.int xp), .val (.int xf), .val (.int xk), .val (.int xm), .val (.double iv), .second, .val (.double vS), .second, .val (.double vG), .second, .val (.double vE), .second, .val (.ref gb), .val (.ref r39), .val (.double vM), .second] [(.int (0 : Int32))])) (fun t k => st41.trans (XS.dload X41.here hx rfl (hb hby at_198) rfl (XS.dcmpS X41.here hx rfl (v := (0 : Int32)) (hb hby at_200) rfl (dcmpV_self i2 _) k))) ?_
        have hc201 : (0 : Int32) = (0 : Int32) := rfl
        refine Goes.pre (U' := T41.setTop (mkF m 206 #[.val (.int p1), .val (.int p2), .val (.int p3), .val (.int p4), .val (.int p5), .val (.int xa), .val (.int nb), .val (.int xp), .val (.int xf), .val (.int xk), .val (.int xm), .val (.double iv), .second, .val (.double vS), .second, .val (.double vG), .second, .val (.double vE), .second, .val (.ref gb), .val (.ref r39), .val (.double vM), .second] [(.ref r39)])) (fun t k => XS.ifNo X41.here hx rfl (hb hby at_201) rfl ((if0 _ _).trans (teq hc201).2) (XS.aload X41.here hx rfl (hb hby at_204) rfl rfl k)) ?_
        obtain ⟨cq42, kq42, q42a, q42b, q42c⟩ := isOf hZ HQ41 E_r39
        obtain ⟨_, _, ⟨T42, L42, k42, n42⟩, -, X42, ⟨Lc42, hQ42, l42, y42, z42⟩, st42⟩ := X41.virtualBack hx (y := (⟨"com/example/corpo/corpo/samples/Vector3", "y", "()D"⟩ : MethodName)) (z := (⟨"com/example/corpo/corpo/samples/Vector3", "y", "()D"⟩ : MethodName)) hown (mvT hZ (wq hw 73 rfl)) (mvT hZ (wq hw 53 rfl)) (notFace_of_selects (args := #[]) (mvT hZ (wq hw 55 rfl))) (mvT hZ (wq hw 55 rfl)) (mvT hZ (wq hw 54 rfl)) (by decide) (backOf (W := 0) (rm_vy l Z a0 hw [] r39 vM T39.heap n0 Z40 F_y_r39) hZ (wq hw 56 rfl) (wq hw 25 rfl) (by decide) (by decide)) q42a q42c (g := (mkF m 206 #[.val (.int p1), .val (.int p2), .val (.int p3), .val (.int p4), .val (.int p5), .val (.int xa), .val (.int nb), .val (.int xp), .val (.int xf), .val (.int xk), .val (.int xm), .val (.double iv), .second, .val (.double vS), .second, .val (.double vG), .second, .val (.double vE), .second, .val (.ref gb), .val (.ref r39), .val (.double vM), .second] [(.ref r39)])) rfl (by rw [hml]; rfl) (Steps.refl _) (argsL := []) (rest := []) (lenOf pd__28_29D rfl) rfl (by show 2 * 0 + _ ≤ _; exact Nat.le_of_eq rfl) (hb hby at_206) (fun _ _ => ⟨rfl, HQ41, (by decide : 10 + 0 ≤ _), (by decide : 30 + 0 ≤ _)⟩)
        dsimp only [Pt.U, Pt.locs, Pt.cells, Pt.slots] at X42 l42 y42 z42 st42 hQ42
        subst l42 y42 z42
        obtain ⟨rfl, N42q, HQ42⟩ := hQ42
        have N42 := Fr.app N41 N42q
        refine Goes.pre (U' := T42.setTop (mkF m 212 #[.val (.int p1), .val (.int p2), .val (.int p3), .val (.int p4), .val (.int p5), .val (.int xa), .val (.int nb), .val (.int xp), .val (.int xf), .val (.int xk), .val (.int xm), .val (.double iv), .second, .val (.double vS), .second, .val (.double vG), .second, .val (.double vE), .second, .val (.ref gb), .val (.ref r39), .val (.double vM), .second] [(.int (0 : Int32))])) (fun t k => st42.trans (XS.dload X42.here hx rfl (hb hby at_209) rfl (XS.dcmpS X42.here hx rfl (v := (0 : Int32)) (hb hby at_211) rfl (dcmpV_self i2 _) k))) ?_
        have hc212 : (0 : Int32) = (0 : Int32) := rfl
        refine Goes.pre (U' := T42.setTop (mkF m 217 #[.val (.int p1), .val (.int p2), .val (.int p3), .val (.int p4), .val (.int p5), .val (.int xa), .val (.int nb), .val (.int xp), .val (.int xf), .val (.int xk), .val (.int xm), .val (.double iv), .second, .val (.double vS), .second, .val (.double vG), .second, .val (.double vE), .second, .val (.ref gb), .val (.ref r39), .val (.double vM), .second] [(.ref r39)])) (fun t k => XS.ifNo X42.here hx rfl (hb hby at_212) rfl ((if0 _ _).trans (teq hc212).2) (XS.aload X42.here hx rfl (hb hby at_215) rfl rfl k)) ?_
        obtain ⟨cq43, kq43, q43a, q43b, q43c⟩ := isOf hZ HQ42 E_r39
        obtain ⟨_, _, ⟨T43, L43, k43, n43⟩, -, X43, ⟨Lc43, hQ43, l43, y43, z43⟩, st43⟩ := X42.virtualBack hx (y := (⟨"com/example/corpo/corpo/samples/Vector3", "z", "()D"⟩ : MethodName)) (z := (⟨"com/example/corpo/corpo/samples/Vector3", "z", "()D"⟩ : MethodName)) hown (mvT hZ (wq hw 74 rfl)) (mvT hZ (wq hw 58 rfl)) (notFace_of_selects (args := #[]) (mvT hZ (wq hw 60 rfl))) (mvT hZ (wq hw 60 rfl)) (mvT hZ (wq hw 59 rfl)) (by decide) (backOf (W := 0) (rm_vz l Z a0 hw [] r39 vM T39.heap n0 Z40 F_z_r39) hZ (wq hw 61 rfl) (wq hw 25 rfl) (by decide) (by decide)) q43a q43c (g := (mkF m 217 #[.val (.int p1), .val (.int p2), .val (.int p3), .val (.int p4), .val (.int p5), .val (.int xa), .val (.int nb), .val (.int xp), .val (.int xf), .val (.int xk), .val (.int xm), .val (.double iv), .second, .val (.double vS), .second, .val (.double vG), .second, .val (.double vE), .second, .val (.ref gb), .val (.ref r39), .val (.double vM), .second] [(.ref r39)])) rfl (by rw [hml]; rfl) (Steps.refl _) (argsL := []) (rest := []) (lenOf pd__28_29D rfl) rfl (by show 2 * 0 + _ ≤ _; exact Nat.le_of_eq rfl) (hb hby at_217) (fun _ _ => ⟨rfl, HQ42, (by decide : 10 + 0 ≤ _), (by decide : 30 + 0 ≤ _)⟩)
        dsimp only [Pt.U, Pt.locs, Pt.cells, Pt.slots] at X43 l43 y43 z43 st43 hQ43
        subst l43 y43 z43
        obtain ⟨rfl, N43q, HQ43⟩ := hQ43
        have N43 := Fr.app N42 N43q
        refine Goes.pre (U' := T43.setTop (mkF m 223 #[.val (.int p1), .val (.int p2), .val (.int p3), .val (.int p4), .val (.int p5), .val (.int xa), .val (.int nb), .val (.int xp), .val (.int xf), .val (.int xk), .val (.int xm), .val (.double iv), .second, .val (.double vS), .second, .val (.double vG), .second, .val (.double vE), .second, .val (.ref gb), .val (.ref r39), .val (.double vM), .second] [(.int (0 : Int32))])) (fun t k => st43.trans (XS.dload X43.here hx rfl (hb hby at_220) rfl (XS.dcmpS X43.here hx rfl (v := (0 : Int32)) (hb hby at_222) rfl (dcmpV_self i2 _) k))) ?_
        have hc223 : (0 : Int32) = (0 : Int32) := rfl
        refine Goes.pre (U' := T43.setTop (mkF m 231 #[.val (.int p1), .val (.int p2), .val (.int p3), .val (.int p4), .val (.int p5), .val (.int xa), .val (.int nb), .val (.int xp), .val (.int xf), .val (.int xk), .val (.int xm), .val (.double iv), .second, .val (.double vS), .second, .val (.double vG), .second, .val (.double vE), .second, .val (.ref gb), .val (.ref r39), .val (.double vM), .second] [(.int (1 : Int32))])) (fun t k => XS.ifNo X43.here hx rfl (hb hby at_223) rfl ((if0 _ _).trans (teq hc223).2) (XS.iconst X43.here hx rfl (hb hby at_226) (XS.goto X43.here hx rfl (pc0 := 227) (pc' := 231) rfl (hb hby at_227) (by decide) (by decide) k))) ?_
        refine Goes.ret X43 (v := (some (.int (1 : Int32)))) (fun h => by rw [hret] at h; cases h) hlk (by decide) (by decide) HQ43 (fun fs hr => retN X43 hx (t := .boolean) hret (by simp) (hb hby at_231) hr) ?_
        exact ⟨rfl, N43⟩
      ·
        refine Goes.pre (U' := T32.setTop (mkF m 154 #[.val (.int p1), .val (.int p2), .val (.int p3), .val (.int p4), .val (.int p5), .val (.int xa), .val (.int nb), .val (.int xp), .val (.int xf), .val (.int xk), .val (.int xm), .val (.double iv), .second, .val (.double vS), .second, .val (.double vG), .second, .val (.double vE), .second, .val (.ref gb), .unset, .unset, .unset] [(.ref gb)])) (fun t k => XS.icmpNo X32.here hx rfl (hb hby at_149) rfl (flt hc149).1 (XS.aload X32.here hx rfl (hb hby at_152) rfl rfl k)) ?_
        obtain ⟨cq44, kq44, q44a, q44b, q44c⟩ := isOf hZ rfl E_gb
        obtain ⟨_, _, ⟨T44, L44, k44, n44⟩, -, X44, ⟨Lc44, hQ44, l44, y44, z44⟩, st44⟩ := X32.virtualBack hx (y := (⟨"com/example/corpo/corpo/orientation/GyroBias", "age", "()V"⟩ : MethodName)) (z := (⟨"com/example/corpo/corpo/orientation/GyroBias", "age", "()V"⟩ : MethodName)) hown (mvT hZ (wq hw 18 rfl)) (mvT hZ (wq hw 19 rfl)) (notFace_of_selects (args := #[]) (mvT hZ (wq hw 21 rfl))) (mvT hZ (wq hw 21 rfl)) (mvT hZ (wq hw 20 rfl)) (by decide) (backOf (W := 0) (rm_age l Z a0 hw [] gb gr r0 r1 r2 kg kr v2 vG v3 T32.heap n0 Z33 F_covariance_gb F_growth_gb V_gr V_r0 V_r1 V_r2 b14 ne_gb_r0 ne_gr_r0 ne_r1_r0 ne_r2_r0 ne_gb_r1 ne_gr_r1 ne_r0_r1 ne_r2_r1 ne_gb_r2 ne_gr_r2 ne_r0_r2 ne_r1_r2 g_r0 g_r1 g_r2) hZ (wq hw 22 rfl) (wq hw 2 rfl) (by decide) (by decide)) q44a q44c (g := (mkF m 154 #[.val (.int p1), .val (.int p2), .val (.int p3), .val (.int p4), .val (.int p5), .val (.int xa), .val (.int nb), .val (.int xp), .val (.int xf), .val (.int xk), .val (.int xm), .val (.double iv), .second, .val (.double vS), .second, .val (.double vG), .second, .val (.double vE), .second, .val (.ref gb), .unset, .unset, .unset] [(.ref gb)])) rfl (by rw [hml]; rfl) (Steps.refl _) (argsL := []) (rest := []) (lenOf pd__28_29V rfl) rfl (by show 2 * 0 + _ ≤ _; exact Nat.le_of_eq rfl) (hb hby at_154) (fun _ _ => ⟨rfl, rfl, (by decide : 6 + 0 ≤ _), (by decide : 18 + 0 ≤ _)⟩)
        dsimp only [Pt.U, Pt.locs, Pt.cells, Pt.slots] at X44 l44 y44 z44 st44 hQ44
        subst l44 y44 z44
        obtain ⟨rfl, N44q, KQ44, fo0_44, fo1_44, fo2_44⟩ := hQ44
        have N44 := Fr.app N32 N44q
        have E_gb := E_gb.keep KQ44
        have F_value_gb := F_value_gb.keep KQ44 (ninS ne_gb_r0 (ninS ne_gb_r1 (ninS ne_gb_r2 nin0)))
        have F_covariance_gb := F_covariance_gb.keep KQ44 (ninS ne_gb_r0 (ninS ne_gb_r1 (ninS ne_gb_r2 nin0)))
        have F_growth_gb := F_growth_gb.keep KQ44 (ninS ne_gb_r0 (ninS ne_gb_r1 (ninS ne_gb_r2 nin0)))
        have V_va := V_va.keep KQ44 (ninS ne_va_r0 (ninS ne_va_r1 (ninS ne_va_r2 nin0)))
        have V_gr := V_gr.keep KQ44 (ninS ne_gr_r0 (ninS ne_gr_r1 (ninS ne_gr_r2 nin0)))
        have Z45 : n0 ≤ T44.heap.size := Nat.le_trans Z33 KQ44.1
        have V_r0 := fo0_44
        have V_r1 := fo1_44
        have V_r2 := fo2_44
        refine Goes.pre (U' := T44.setTop (mkF m 157 #[.val (.int p1), .val (.int p2), .val (.int p3), .val (.int p4), .val (.int p5), .val (.int xa), .val (.int nb), .val (.int xp), .val (.int xf), .val (.int xk), .val (.int xm), .val (.double iv), .second, .val (.double vS), .second, .val (.double vG), .second, .val (.double vE), .second, .val (.ref gb), .unset, .unset, .unset] [])) (fun t k => st44.trans k) ?_
        rw [(b18 (own_k3 hxk hc149))] at V_r0 V_r1 V_r2
        refine Goes.pre (U' := T44.setTop (mkF m 159 #[.val (.int p1), .val (.int p2), .val (.int p3), .val (.int p4), .val (.int p5), .val (.int xa), .val (.int nb), .val (.int xp), .val (.int xf), .val (.int xk), .val (.int xm), .val (.double iv), .second, .val (.double vS), .second, .val (.double vG), .second, .val (.double vE), .second, .val (.ref gb), .unset, .unset, .unset] [(.ref gb)])) (fun t k => XS.aload X44.here hx rfl (hb hby at_157) rfl rfl k) ?_
        obtain ⟨T46, h46, X46, e46, E46, A46, D46, -, st46⟩ := newO X44 hx hZ hown (wq hw 23 rfl) (wq hw 24 rfl) (wq hw 25 rfl) rfl (g := (mkF m 159 #[.val (.int p1), .val (.int p2), .val (.int p3), .val (.int p4), .val (.int p5), .val (.int xa), .val (.int nb), .val (.int xp), .val (.int xf), .val (.int xk), .val (.int xm), .val (.double iv), .second, .val (.double vS), .second, .val (.double vG), .second, .val (.double vE), .second, .val (.ref gb), .unset, .unset, .unset] [(.ref gb)])) rfl (hb hby at_159) (by decide) (by decide)
        obtain ⟨ve, g46⟩ : ∃ z, z = T44.heap.size := ⟨_, rfl⟩
        rw [← g46] at A46 D46 st46
        have ne_gb_ve : gb ≠ ve := Nat.ne_of_lt (Nat.lt_of_lt_of_le E_gb.lt (Nat.le_of_eq g46.symm))
        have ne_ve_gb := ne_gb_ve.symm
        have ne_gr_ve : gr ≠ ve := Nat.ne_of_lt (Nat.lt_of_lt_of_le V_gr.lt (Nat.le_of_eq g46.symm))
        have ne_ve_gr := ne_gr_ve.symm
        have ne_r0_ve : r0 ≠ ve := Nat.ne_of_lt (Nat.lt_of_lt_of_le V_r0.lt (Nat.le_of_eq g46.symm))
        have ne_ve_r0 := ne_r0_ve.symm
        have ne_r1_ve : r1 ≠ ve := Nat.ne_of_lt (Nat.lt_of_lt_of_le V_r1.lt (Nat.le_of_eq g46.symm))
        have ne_ve_r1 := ne_r1_ve.symm
        have ne_r2_ve : r2 ≠ ve := Nat.ne_of_lt (Nat.lt_of_lt_of_le V_r2.lt (Nat.le_of_eq g46.symm))
        have ne_ve_r2 := ne_r2_ve.symm
        have ne_va_ve : va ≠ ve := Nat.ne_of_lt (Nat.lt_of_lt_of_le V_va.lt (Nat.le_of_eq g46.symm))
        have ne_ve_va := ne_va_ve.symm
        have g_ve : n0 ≤ ve := Nat.le_trans Z45 (Nat.le_of_eq g46.symm)
        have E_gb := E_gb.ext E46
        have F_value_gb := F_value_gb.ext E46
        have F_covariance_gb := F_covariance_gb.ext E46
        have F_growth_gb := F_growth_gb.ext E46
        have V_va := V_va.ext E46
        have V_gr := V_gr.ext E46
        have V_r0 := V_r0.ext E46
        have V_r1 := V_r1.ext E46
        have V_r2 := V_r2.ext E46
        have Z46 : n0 ≤ h46.size := Nat.le_trans Z45 E46.1
        have E_ve := A46
        have F_x_ve : Fld Z h46 ve "com/example/corpo/corpo/samples/Vector3" "x" "D" (.double (0 : UInt64)) := D46 (Or.inr (wq hw 36 rfl)) (ty := .double) (by decide)
        have F_y_ve : Fld Z h46 ve "com/example/corpo/corpo/samples/Vector3" "y" "D" (.double (0 : UInt64)) := D46 (Or.inr (wq hw 38 rfl)) (ty := .double) (by decide)
        have F_z_ve : Fld Z h46 ve "com/example/corpo/corpo/samples/Vector3" "z" "D" (.double (0 : UInt64)) := D46 (Or.inr (wq hw 40 rfl)) (ty := .double) (by decide)
        refine Goes.pre (U' := T46.setTop (mkF m 166 #[.val (.int p1), .val (.int p2), .val (.int p3), .val (.int p4), .val (.int p5), .val (.int xa), .val (.int nb), .val (.int xp), .val (.int xf), .val (.int xk), .val (.int xm), .val (.double iv), .second, .val (.double vS), .second, .val (.double vG), .second, .val (.double vE), .second, .val (.ref gb), .unset, .unset, .unset] [(.double (4607182418800017408 : UInt64)), (.double (4607182418800017408 : UInt64)), (.double (4607182418800017408 : UInt64)), (.ref ve), (.ref ve), (.ref gb)])) (fun t k => st46 t (XS.dup X46.here hx rfl (hb hby at_162) rfl rfl (XS.dconst1 X46.here hx rfl (v := (4607182418800017408 : UInt64)) (hb hby at_163) (by decide +kernel) (XS.dconst1 X46.here hx rfl (v := (4607182418800017408 : UInt64)) (hb hby at_164) (by decide +kernel) (XS.dconst1 X46.here hx rfl (v := (4607182418800017408 : UInt64)) (hb hby at_165) (by decide +kernel) k))))) ?_
        obtain ⟨_, _, ⟨T47, L47, k47, n47⟩, -, X47, ⟨Lc47, hQ47, l47, y47, z47⟩, st47⟩ := X46.specialBack hx (y := (⟨"com/example/corpo/corpo/samples/Vector3", "<init>", "(DDD)V"⟩ : MethodName)) rfl hown (mvT hZ (wq hw 26 rfl)) (mvT hZ (wq hw 27 rfl)) (mvT hZ (wq hw 28 rfl)) (by decide) (backOf (W := 2) (rm_v3 l Z a0 hw [] ve (4607182418800017408 : UInt64) (4607182418800017408 : UInt64) (4607182418800017408 : UInt64) h46 n0 Z46 E_ve F_x_ve F_y_ve F_z_ve g_ve) hZ (wq hw 28 rfl) (wq hw 25 rfl) (by decide) (by decide)) (g := (mkF m 166 #[.val (.int p1), .val (.int p2), .val (.int p3), .val (.int p4), .val (.int p5), .val (.int xa), .val (.int nb), .val (.int xp), .val (.int xf), .val (.int xk), .val (.int xm), .val (.double iv), .second, .val (.double vS), .second, .val (.double vG), .second, .val (.double vE), .second, .val (.ref gb), .unset, .unset, .unset] [(.double (4607182418800017408 : UInt64)), (.double (4607182418800017408 : UInt64)), (.double (4607182418800017408 : UInt64)), (.ref ve), (.ref ve), (.ref gb)])) rfl (by rw [hml]; rfl) (Steps.refl _) (a := ve) (argsL := [(.double (4607182418800017408 : UInt64)), (.double (4607182418800017408 : UInt64)), (.double (4607182418800017408 : UInt64))]) (rest := [(.ref ve), (.ref gb)]) (lenOf pd__28DDD_29V rfl) rfl (by show 2 * 0 + _ ≤ _; exact Nat.le_of_eq rfl) (hb hby at_166) (fun _ _ => ⟨rfl, e46, (by decide : 7 + 0 ≤ _), (by decide : 21 + 0 ≤ _)⟩)
        dsimp only [Pt.U, Pt.locs, Pt.cells, Pt.slots] at X47 l47 y47 z47 st47 hQ47
        subst l47 y47 z47
        obtain ⟨rfl, N47q, KQ47, fo0_47, fo1_47, fo2_47⟩ := hQ47
        have N47 := Fr.app N44 N47q
        have E_gb := E_gb.keep KQ47
        have F_value_gb := F_value_gb.keep KQ47 (ninS ne_gb_ve nin0)
        have F_covariance_gb := F_covariance_gb.keep KQ47 (ninS ne_gb_ve nin0)
        have F_growth_gb := F_growth_gb.keep KQ47 (ninS ne_gb_ve nin0)
        have V_va := V_va.keep KQ47 (ninS ne_va_ve nin0)
        have V_gr := V_gr.keep KQ47 (ninS ne_gr_ve nin0)
        have V_r0 := V_r0.keep KQ47 (ninS ne_r0_ve nin0)
        have V_r1 := V_r1.keep KQ47 (ninS ne_r1_ve nin0)
        have V_r2 := V_r2.keep KQ47 (ninS ne_r2_ve nin0)
        have E_ve := E_ve.keep KQ47
        have Z48 : n0 ≤ T47.heap.size := Nat.le_trans Z46 KQ47.1
        have F_x_ve := fo0_47
        have F_y_ve := fo1_47
        have F_z_ve := fo2_47
        refine Goes.pre (U' := T47.setTop (mkF m 178 #[.val (.int p1), .val (.int p2), .val (.int p3), .val (.int p4), .val (.int p5), .val (.int xa), .val (.int nb), .val (.int xp), .val (.int xf), .val (.int xk), .val (.int xm), .val (.double iv), .second, .val (.double vS), .second, .val (.double vG), .second, .val (.double vE), .second, .val (.ref gb), .unset, .unset, .unset] [(.double vE), (.double vX), (.ref ve), (.ref gb)])) (fun t k => st47.trans (X47.ldc2DoubleC hx hown (mvT hZ (wq hw 41 rfl)) (g := (mkF m 169 #[.val (.int p1), .val (.int p2), .val (.int p3), .val (.int p4), .val (.int p5), .val (.int xa), .val (.int nb), .val (.int xp), .val (.int xf), .val (.int xk), .val (.int xm), .val (.double iv), .second, .val (.double vS), .second, .val (.double vG), .second, .val (.double vE), .second, .val (.ref gb), .unset, .unset, .unset] [(.ref ve), (.ref gb)])) rfl (hb hby at_169) _ (XS.iload X47.here hx rfl (hb hby at_172) rfl (XS.i2dS X47.here hx rfl (v := vM) (hb hby at_174) rfl i1 (XS.dmulS X47.here hx rfl (v := vX) (hb hby at_175) rfl i3.2 i3.1 (XS.dload X47.here hx rfl (hb hby at_176) rfl k)))))) ?_
        obtain ⟨cq49, kq49, q49a, q49b, q49c⟩ := isOf hZ rfl E_gb
        obtain ⟨_, _, ⟨T49, L49, k49, n49⟩, -, X49, ⟨Lc49, hQ49, l49, y49, z49⟩, st49⟩ := X47.virtualBack hx (y := (⟨"com/example/corpo/corpo/orientation/GyroBias", "observe", "(Lcom/example/corpo/corpo/samples/Vector3;DD)V"⟩ : MethodName)) (z := (⟨"com/example/corpo/corpo/orientation/GyroBias", "observe", "(Lcom/example/corpo/corpo/samples/Vector3;DD)V"⟩ : MethodName)) hown (mvT hZ (wq hw 42 rfl)) (mvT hZ (wq hw 43 rfl)) (notFace_of_selects (args := #[]) (mvT hZ (wq hw 45 rfl))) (mvT hZ (wq hw 45 rfl)) (mvT hZ (wq hw 44 rfl)) (by decide) (backOf (W := 0) (rm_obs l Z a0 hw [] gb ve va gr r0 r1 r2 kv kg kr vX vE w2 w3 w4 vq_ u1 u2 vM T47.heap n0 Z48 F_value_gb F_covariance_gb E_ve V_va F_x_ve F_y_ve F_z_ve V_gr V_r0 V_r1 V_r2 hob hom ne_gb_va ne_ve_va ne_gr_va ne_r0_va ne_r1_va ne_r2_va ne_gb_r0 ne_ve_r0 ne_va_r0 ne_gr_r0 ne_r1_r0 ne_r2_r0 ne_gb_r1 ne_ve_r1 ne_va_r1 ne_gr_r1 ne_r0_r1 ne_r2_r1 ne_gb_r2 ne_ve_r2 ne_va_r2 ne_gr_r2 ne_r0_r2 ne_r1_r2 g_va g_r0 g_r1 g_r2) hZ (wq hw 46 rfl) (wq hw 2 rfl) (by decide) (by decide)) q49a q49c (g := (mkF m 178 #[.val (.int p1), .val (.int p2), .val (.int p3), .val (.int p4), .val (.int p5), .val (.int xa), .val (.int nb), .val (.int xp), .val (.int xf), .val (.int xk), .val (.int xm), .val (.double iv), .second, .val (.double vS), .second, .val (.double vG), .second, .val (.double vE), .second, .val (.ref gb), .unset, .unset, .unset] [(.double vE), (.double vX), (.ref ve), (.ref gb)])) rfl (by rw [hml]; rfl) (Steps.refl _) (argsL := [(.ref ve), (.double vX), (.double vE)]) (rest := []) (lenOf pd__28Lcom_2fexample_2fcorpo_2fcorpo_2fsamples_2fVector3_3bDD_29V rfl) rfl (by show 2 * 0 + _ ≤ _; exact Nat.le_of_eq rfl) (hb hby at_178) (fun _ _ => ⟨rfl, rfl, (by decide : 7 + 2 ≤ _), (by decide : 21 + 6 ≤ _)⟩)
        dsimp only [Pt.U, Pt.locs, Pt.cells, Pt.slots] at X49 l49 y49 z49 st49 hQ49
        subst l49 y49 z49
        obtain ⟨rfl, N49q, KQ49, fo0_49⟩ := hQ49
        have N49 := Fr.app N47 N49q
        have E_gb := E_gb.keep KQ49
        have F_value_gb := F_value_gb.keep KQ49 (ninS ne_gb_va (ninS ne_gb_r0 (ninS ne_gb_r1 (ninS ne_gb_r2 nin0))))
        have F_covariance_gb := F_covariance_gb.keep KQ49 (ninS ne_gb_va (ninS ne_gb_r0 (ninS ne_gb_r1 (ninS ne_gb_r2 nin0))))
        have F_growth_gb := F_growth_gb.keep KQ49 (ninS ne_gb_va (ninS ne_gb_r0 (ninS ne_gb_r1 (ninS ne_gb_r2 nin0))))
        have V_gr := V_gr.keep KQ49 (ninS ne_gr_va (ninS ne_gr_r0 (ninS ne_gr_r1 (ninS ne_gr_r2 nin0))))
        have E_ve := E_ve.keep KQ49
        have F_x_ve := F_x_ve.keep KQ49 (ninS ne_ve_va (ninS ne_ve_r0 (ninS ne_ve_r1 (ninS ne_ve_r2 nin0))))
        have F_y_ve := F_y_ve.keep KQ49 (ninS ne_ve_va (ninS ne_ve_r0 (ninS ne_ve_r1 (ninS ne_ve_r2 nin0))))
        have F_z_ve := F_z_ve.keep KQ49 (ninS ne_ve_va (ninS ne_ve_r0 (ninS ne_ve_r1 (ninS ne_ve_r2 nin0))))
        have Z50 : n0 ≤ T49.heap.size := Nat.le_trans Z48 KQ49.1
        have V_va := fo0_49
        refine Goes.pre (U' := T49.setTop (mkF m 183 #[.val (.int p1), .val (.int p2), .val (.int p3), .val (.int p4), .val (.int p5), .val (.int xa), .val (.int nb), .val (.int xp), .val (.int xf), .val (.int xk), .val (.int xm), .val (.double iv), .second, .val (.double vS), .second, .val (.double vG), .second, .val (.double vE), .second, .val (.ref gb), .unset, .unset, .unset] [(.ref gb)])) (fun t k => st49.trans (XS.aload X49.here hx rfl (hb hby at_181) rfl rfl k)) ?_
        have lt_gb := E_gb.lt
        have lt_gr := V_gr.lt
        have lt_va := V_va.lt
        have lt_ve := E_ve.lt
        obtain ⟨cq51, kq51, q51a, q51b, q51c⟩ := isOf hZ rfl E_gb
        obtain ⟨_, _, ⟨T51, L51, k51, n51⟩, -, X51, ⟨Lc51, hQ51, l51, y51, z51⟩, st51⟩ := X49.virtualBack hx (y := (⟨"com/example/corpo/corpo/orientation/GyroBias", "value", "()Lcom/example/corpo/corpo/samples/Vector3;"⟩ : MethodName)) (z := (⟨"com/example/corpo/corpo/orientation/GyroBias", "value", "()Lcom/example/corpo/corpo/samples/Vector3;"⟩ : MethodName)) hown (mvT hZ (wq hw 65 rfl)) (mvT hZ (wq hw 66 rfl)) (notFace_of_selects (args := #[]) (mvT hZ (wq hw 68 rfl))) (mvT hZ (wq hw 68 rfl)) (mvT hZ (wq hw 67 rfl)) (by decide) (backOf (W := 0) (rm_value l Z a0 hw [] gb va kv vM vM vM T49.heap n0 Z50 F_value_gb V_va) hZ (wq hw 69 rfl) (wq hw 2 rfl) (by decide) (by decide)) q51a q51c (g := (mkF m 183 #[.val (.int p1), .val (.int p2), .val (.int p3), .val (.int p4), .val (.int p5), .val (.int xa), .val (.int nb), .val (.int xp), .val (.int xf), .val (.int xk), .val (.int xm), .val (.double iv), .second, .val (.double vS), .second, .val (.double vG), .second, .val (.double vE), .second, .val (.ref gb), .unset, .unset, .unset] [(.ref gb)])) rfl (by rw [hml]; rfl) (Steps.refl _) (argsL := []) (rest := []) (lenOf pd__28_29Lcom_2fexample_2fcorpo_2fcorpo_2fsamples_2fVector3_3b rfl) rfl (by show 2 * 0 + _ ≤ _; exact Nat.le_of_eq rfl) (hb hby at_183) (fun _ _ => ⟨rfl, rfl, (by decide : 9 + 1 ≤ _), (by decide : 27 + 3 ≤ _)⟩)
        dsimp only [Pt.U, Pt.locs, Pt.cells, Pt.slots] at X51 l51 y51 z51 st51 hQ51
        subst l51 y51 z51
        obtain ⟨r51, rfl, N51q, KQ51, fo0_51, fo1_51, fo2_51, fo3_51, g_r51, sl_r51⟩ := hQ51
        have N51 := Fr.app N49 N51q
        have E_gb := E_gb.keep KQ51
        have F_value_gb := F_value_gb.keep KQ51 nin0
        have F_covariance_gb := F_covariance_gb.keep KQ51 nin0
        have F_growth_gb := F_growth_gb.keep KQ51 nin0
        have V_gr := V_gr.keep KQ51 nin0
        have E_ve := E_ve.keep KQ51
        have F_x_ve := F_x_ve.keep KQ51 nin0
        have F_y_ve := F_y_ve.keep KQ51 nin0
        have F_z_ve := F_z_ve.keep KQ51 nin0
        have V_va := V_va.keep KQ51 nin0
        have Z52 : n0 ≤ T51.heap.size := Nat.le_trans Z50 KQ51.1
        have ne_gb_r51 : gb ≠ r51 := Nat.ne_of_lt (Nat.lt_of_lt_of_le lt_gb sl_r51)
        have ne_r51_gb := ne_gb_r51.symm
        have ne_gr_r51 : gr ≠ r51 := Nat.ne_of_lt (Nat.lt_of_lt_of_le lt_gr sl_r51)
        have ne_r51_gr := ne_gr_r51.symm
        have ne_va_r51 : va ≠ r51 := Nat.ne_of_lt (Nat.lt_of_lt_of_le lt_va sl_r51)
        have ne_r51_va := ne_va_r51.symm
        have ne_ve_r51 : ve ≠ r51 := Nat.ne_of_lt (Nat.lt_of_lt_of_le lt_ve sl_r51)
        have ne_r51_ve := ne_ve_r51.symm
        have E_r51 := fo0_51
        have F_x_r51 := fo1_51
        have F_y_r51 := fo2_51
        have F_z_r51 := fo3_51
        refine Goes.pre (U' := T51.setTop (mkF m 195 #[.val (.int p1), .val (.int p2), .val (.int p3), .val (.int p4), .val (.int p5), .val (.int xa), .val (.int nb), .val (.int xp), .val (.int xf), .val (.int xk), .val (.int xm), .val (.double iv), .second, .val (.double vS), .second, .val (.double vG), .second, .val (.double vE), .second, .val (.ref gb), .val (.ref r51), .val (.double vM), .second] [(.ref r51)])) (fun t k => st51.trans (XS.astore X51.here hx rfl (hb hby at_186) rfl rfl (l' := #[.val (.int p1), .val (.int p2), .val (.int p3), .val (.int p4), .val (.int p5), .val (.int xa), .val (.int nb), .val (.int xp), .val (.int xf), .val (.int xk), .val (.int xm), .val (.double iv), .second, .val (.double vS), .second, .val (.double vG), .second, .val (.double vE), .second, .val (.ref gb), .val (.ref r51), .unset, .unset]) rfl (XS.iload X51.here hx rfl (hb hby at_188) rfl (XS.i2dS X51.here hx rfl (v := vM) (hb hby at_190) rfl i1 (XS.dstore X51.here hx rfl (hb hby at_191) rfl (l' := #[.val (.int p1), .val (.int p2), .val (.int p3), .val (.int p4), .val (.int p5), .val (.int xa), .val (.int nb), .val (.int xp), .val (.int xf), .val (.int xk), .val (.int xm), .val (.double iv), .second, .val (.double vS), .second, .val (.double vG), .second, .val (.double vE), .second, .val (.ref gb), .val (.ref r51), .val (.double vM), .second]) rfl (XS.aload X51.here hx rfl (hb hby at_193) rfl rfl k)))))) ?_
        obtain ⟨cq53, kq53, q53a, q53b, q53c⟩ := isOf hZ rfl E_r51
        obtain ⟨_, _, ⟨T53, L53, k53, n53⟩, -, X53, ⟨Lc53, hQ53, l53, y53, z53⟩, st53⟩ := X51.virtualBack hx (y := (⟨"com/example/corpo/corpo/samples/Vector3", "x", "()D"⟩ : MethodName)) (z := (⟨"com/example/corpo/corpo/samples/Vector3", "x", "()D"⟩ : MethodName)) hown (mvT hZ (wq hw 72 rfl)) (mvT hZ (wq hw 48 rfl)) (notFace_of_selects (args := #[]) (mvT hZ (wq hw 50 rfl))) (mvT hZ (wq hw 50 rfl)) (mvT hZ (wq hw 49 rfl)) (by decide) (backOf (W := 0) (rm_vx l Z a0 hw [] r51 vM T51.heap n0 Z52 F_x_r51) hZ (wq hw 51 rfl) (wq hw 25 rfl) (by decide) (by decide)) q53a q53c (g := (mkF m 195 #[.val (.int p1), .val (.int p2), .val (.int p3), .val (.int p4), .val (.int p5), .val (.int xa), .val (.int nb), .val (.int xp), .val (.int xf), .val (.int xk), .val (.int xm), .val (.double iv), .second, .val (.double vS), .second, .val (.double vG), .second, .val (.double vE), .second, .val (.ref gb), .val (.ref r51), .val (.double vM), .second] [(.ref r51)])) rfl (by rw [hml]; rfl) (Steps.refl _) (argsL := []) (rest := []) (lenOf pd__28_29D rfl) rfl (by show 2 * 0 + _ ≤ _; exact Nat.le_of_eq rfl) (hb hby at_195) (fun _ _ => ⟨rfl, rfl, (by decide : 10 + 0 ≤ _), (by decide : 30 + 0 ≤ _)⟩)
        dsimp only [Pt.U, Pt.locs, Pt.cells, Pt.slots] at X53 l53 y53 z53 st53 hQ53
        subst l53 y53 z53
        obtain ⟨rfl, N53q, HQ53⟩ := hQ53
        have N53 := Fr.app N51 N53q
        refine Goes.pre (U' := T53.setTop (mkF m 201 #[.val (.int p1), .val (.int p2), .val (.int p3), .val (.int p4), .val (.int p5), .val (.int xa), .val (.int nb), .val (.int xp), .val (.int xf), .val (.int xk), .val (.int xm), .val (.double iv), .second, .val (.double vS), .second, .val (.double vG), .second, .val (.double vE), .second, .val (.ref gb), .val (.ref r51), .val (.double vM), .second] [(.int (0 : Int32))])) (fun t k => st53.trans (XS.dload X53.here hx rfl (hb hby at_198) rfl (XS.dcmpS X53.here hx rfl (v := (0 : Int32)) (hb hby at_200) rfl (dcmpV_self i2 _) k))) ?_
        have hc201 : (0 : Int32) = (0 : Int32) := rfl
        refine Goes.pre (U' := T53.setTop (mkF m 206 #[.val (.int p1), .val (.int p2), .val (.int p3), .val (.int p4), .val (.int p5), .val (.int xa), .val (.int nb), .val (.int xp), .val (.int xf), .val (.int xk), .val (.int xm), .val (.double iv), .second, .val (.double vS), .second, .val (.double vG), .second, .val (.double vE), .second, .val (.ref gb), .val (.ref r51), .val (.double vM), .second] [(.ref r51)])) (fun t k => XS.ifNo X53.here hx rfl (hb hby at_201) rfl ((if0 _ _).trans (teq hc201).2) (XS.aload X53.here hx rfl (hb hby at_204) rfl rfl k)) ?_
        obtain ⟨cq54, kq54, q54a, q54b, q54c⟩ := isOf hZ HQ53 E_r51
        obtain ⟨_, _, ⟨T54, L54, k54, n54⟩, -, X54, ⟨Lc54, hQ54, l54, y54, z54⟩, st54⟩ := X53.virtualBack hx (y := (⟨"com/example/corpo/corpo/samples/Vector3", "y", "()D"⟩ : MethodName)) (z := (⟨"com/example/corpo/corpo/samples/Vector3", "y", "()D"⟩ : MethodName)) hown (mvT hZ (wq hw 73 rfl)) (mvT hZ (wq hw 53 rfl)) (notFace_of_selects (args := #[]) (mvT hZ (wq hw 55 rfl))) (mvT hZ (wq hw 55 rfl)) (mvT hZ (wq hw 54 rfl)) (by decide) (backOf (W := 0) (rm_vy l Z a0 hw [] r51 vM T51.heap n0 Z52 F_y_r51) hZ (wq hw 56 rfl) (wq hw 25 rfl) (by decide) (by decide)) q54a q54c (g := (mkF m 206 #[.val (.int p1), .val (.int p2), .val (.int p3), .val (.int p4), .val (.int p5), .val (.int xa), .val (.int nb), .val (.int xp), .val (.int xf), .val (.int xk), .val (.int xm), .val (.double iv), .second, .val (.double vS), .second, .val (.double vG), .second, .val (.double vE), .second, .val (.ref gb), .val (.ref r51), .val (.double vM), .second] [(.ref r51)])) rfl (by rw [hml]; rfl) (Steps.refl _) (argsL := []) (rest := []) (lenOf pd__28_29D rfl) rfl (by show 2 * 0 + _ ≤ _; exact Nat.le_of_eq rfl) (hb hby at_206) (fun _ _ => ⟨rfl, HQ53, (by decide : 10 + 0 ≤ _), (by decide : 30 + 0 ≤ _)⟩)
        dsimp only [Pt.U, Pt.locs, Pt.cells, Pt.slots] at X54 l54 y54 z54 st54 hQ54
        subst l54 y54 z54
        obtain ⟨rfl, N54q, HQ54⟩ := hQ54
        have N54 := Fr.app N53 N54q
        refine Goes.pre (U' := T54.setTop (mkF m 212 #[.val (.int p1), .val (.int p2), .val (.int p3), .val (.int p4), .val (.int p5), .val (.int xa), .val (.int nb), .val (.int xp), .val (.int xf), .val (.int xk), .val (.int xm), .val (.double iv), .second, .val (.double vS), .second, .val (.double vG), .second, .val (.double vE), .second, .val (.ref gb), .val (.ref r51), .val (.double vM), .second] [(.int (0 : Int32))])) (fun t k => st54.trans (XS.dload X54.here hx rfl (hb hby at_209) rfl (XS.dcmpS X54.here hx rfl (v := (0 : Int32)) (hb hby at_211) rfl (dcmpV_self i2 _) k))) ?_
        have hc212 : (0 : Int32) = (0 : Int32) := rfl
        refine Goes.pre (U' := T54.setTop (mkF m 217 #[.val (.int p1), .val (.int p2), .val (.int p3), .val (.int p4), .val (.int p5), .val (.int xa), .val (.int nb), .val (.int xp), .val (.int xf), .val (.int xk), .val (.int xm), .val (.double iv), .second, .val (.double vS), .second, .val (.double vG), .second, .val (.double vE), .second, .val (.ref gb), .val (.ref r51), .val (.double vM), .second] [(.ref r51)])) (fun t k => XS.ifNo X54.here hx rfl (hb hby at_212) rfl ((if0 _ _).trans (teq hc212).2) (XS.aload X54.here hx rfl (hb hby at_215) rfl rfl k)) ?_
        obtain ⟨cq55, kq55, q55a, q55b, q55c⟩ := isOf hZ HQ54 E_r51
        obtain ⟨_, _, ⟨T55, L55, k55, n55⟩, -, X55, ⟨Lc55, hQ55, l55, y55, z55⟩, st55⟩ := X54.virtualBack hx (y := (⟨"com/example/corpo/corpo/samples/Vector3", "z", "()D"⟩ : MethodName)) (z := (⟨"com/example/corpo/corpo/samples/Vector3", "z", "()D"⟩ : MethodName)) hown (mvT hZ (wq hw 74 rfl)) (mvT hZ (wq hw 58 rfl)) (notFace_of_selects (args := #[]) (mvT hZ (wq hw 60 rfl))) (mvT hZ (wq hw 60 rfl)) (mvT hZ (wq hw 59 rfl)) (by decide) (backOf (W := 0) (rm_vz l Z a0 hw [] r51 vM T51.heap n0 Z52 F_z_r51) hZ (wq hw 61 rfl) (wq hw 25 rfl) (by decide) (by decide)) q55a q55c (g := (mkF m 217 #[.val (.int p1), .val (.int p2), .val (.int p3), .val (.int p4), .val (.int p5), .val (.int xa), .val (.int nb), .val (.int xp), .val (.int xf), .val (.int xk), .val (.int xm), .val (.double iv), .second, .val (.double vS), .second, .val (.double vG), .second, .val (.double vE), .second, .val (.ref gb), .val (.ref r51), .val (.double vM), .second] [(.ref r51)])) rfl (by rw [hml]; rfl) (Steps.refl _) (argsL := []) (rest := []) (lenOf pd__28_29D rfl) rfl (by show 2 * 0 + _ ≤ _; exact Nat.le_of_eq rfl) (hb hby at_217) (fun _ _ => ⟨rfl, HQ54, (by decide : 10 + 0 ≤ _), (by decide : 30 + 0 ≤ _)⟩)
        dsimp only [Pt.U, Pt.locs, Pt.cells, Pt.slots] at X55 l55 y55 z55 st55 hQ55
        subst l55 y55 z55
        obtain ⟨rfl, N55q, HQ55⟩ := hQ55
        have N55 := Fr.app N54 N55q
        refine Goes.pre (U' := T55.setTop (mkF m 223 #[.val (.int p1), .val (.int p2), .val (.int p3), .val (.int p4), .val (.int p5), .val (.int xa), .val (.int nb), .val (.int xp), .val (.int xf), .val (.int xk), .val (.int xm), .val (.double iv), .second, .val (.double vS), .second, .val (.double vG), .second, .val (.double vE), .second, .val (.ref gb), .val (.ref r51), .val (.double vM), .second] [(.int (0 : Int32))])) (fun t k => st55.trans (XS.dload X55.here hx rfl (hb hby at_220) rfl (XS.dcmpS X55.here hx rfl (v := (0 : Int32)) (hb hby at_222) rfl (dcmpV_self i2 _) k))) ?_
        have hc223 : (0 : Int32) = (0 : Int32) := rfl
        refine Goes.pre (U' := T55.setTop (mkF m 231 #[.val (.int p1), .val (.int p2), .val (.int p3), .val (.int p4), .val (.int p5), .val (.int xa), .val (.int nb), .val (.int xp), .val (.int xf), .val (.int xk), .val (.int xm), .val (.double iv), .second, .val (.double vS), .second, .val (.double vG), .second, .val (.double vE), .second, .val (.ref gb), .val (.ref r51), .val (.double vM), .second] [(.int (1 : Int32))])) (fun t k => XS.ifNo X55.here hx rfl (hb hby at_223) rfl ((if0 _ _).trans (teq hc223).2) (XS.iconst X55.here hx rfl (hb hby at_226) (XS.goto X55.here hx rfl (pc0 := 227) (pc' := 231) rfl (hb hby at_227) (by decide) (by decide) k))) ?_
        refine Goes.ret X55 (v := (some (.int (1 : Int32)))) (fun h => by rw [hret] at h; cases h) hlk (by decide) (by decide) HQ55 (fun fs hr => retN X55 hx (t := .boolean) hret (by simp) (hb hby at_231) hr) ?_
        exact ⟨rfl, N55⟩
set_option maxRecDepth 65536 in
set_option maxHeartbeats 40000000 in
theorem comes_1 {Post : Tables → Env → Array Value → State → Outcome → State → Prop} (hpost : ∀ tb e args s v u, (limb_1_1.after args s (.returned v) u = true ∧ limb_1_2.after args s (.returned v) u = true ∧ True) → FrameEnd s (.returned v) u (Jvm.fieldLocs frame_1_writes args s ++ Jvm.arrayLocs frame_1_arrays args s ++ Jvm.staticLocs frame_1_statics s) 32 128 → Post tb e args s (.returned v) u) :
    ArmFor flags0 classFile x code maxLocals ret World_1 tables_1 room_1 Calls_1 rest_1 Pre_1 Post := by
  intro l hfl _ _ p e ha hc hk s m args below hf hA hF happ hP
  obtain ⟨hcalls, hrest, hpre⟩ := hP
  obtain ⟨-, -, -, hnamed, -, -, -, hat⟩ := (Spec.applies_iff hf).mp happ
  obtain ⟨hg, hn⟩ := and_e (Cond.before_iff.mp (show (Jvm.Cond.and given_1 narrow_1).before args s = true from hpre))
  obtain ⟨g1, g2⟩ := and_e hg
  obtain ⟨g3, g4⟩ := and_e g2
  obtain ⟨g5, g6⟩ := and_e g4
  obtain ⟨g7, g8⟩ := and_e g6
  obtain ⟨g9, g10⟩ := and_e g8
  obtain ⟨w0, w1, w2, w3, w4, rfl⟩ : ∃ w0 w1 w2 w3 w4 : Value, args = #[w0, w1, w2, w3, w4] := by
    have hs : args.size = 5 := by simpa [Cond.value, given_1] using g1
    obtain ⟨L⟩ := args
    match L, hs with
    | [w0, w1, w2, w3, w4], _ => exact ⟨w0, w1, w2, w3, w4, rfl⟩
  have hw := fun d (hd : d ∈ tables_1) => atoms_spec (ws := Jvm.Cond.code x code maxLocals ret :: tables_1) hat d (List.mem_cons_of_mem _ hd)
  have hfit : Fit s := fun {y c} hc i hi => by
    obtain ⟨ha, rfl⟩ := Array.getElem?_eq_some_iff.mp hc
    have q := List.all_eq_true.mp ((Array.all_eq_true_iff_forall_mem.mp hF) _ (Array.getElem_mem ha)) i (List.mem_range.mpr hi)
    simpa [Array.getElem?_eq_getElem hi] using q
  obtain ⟨i0, ei0⟩ := is_v g3
  obtain rfl : w0 = (.int i0) := Option.some.inj ei0
  obtain ⟨i1, ei1⟩ := is_v g5
  obtain rfl : w1 = (.int i1) := Option.some.inj ei1
  obtain ⟨i2, ei2⟩ := is_v g7
  obtain rfl : w2 = (.int i2) := Option.some.inj ei2
  obtain ⟨i3, ei3⟩ := is_v g9
  obtain rfl : w3 = (.int i3) := Option.some.inj ei3
  obtain ⟨i4, ei4⟩ := is_v g10
  obtain rfl : w4 = (.int i4) := Option.some.inj ei4
  obtain ⟨n, o, h1, h2, h3, _, L, rfl, ⟨rfl, N⟩, hq⟩ := rm0 l s _ hw tables_1 i0 i1 i2 i3 i4 s.heap s.heap.size (Nat.le_refl _) p e ha hc hk s m _ below hf ((Spec.applies_iff_loose hf).mp happ).1 ⟨rfl, State.Warmed39.refl s, rfl⟩ trivial
  refine ⟨n, _, h1, h2, h3, hpost _ _ _ _ _ _ ⟨Cond.after_iff.mpr rfl, Cond.after_iff.mpr (eq_i res_at (Term.int_eval (1)) rfl), trivial⟩ ⟨hq.1, hq.2.1, (hq.2.2.sift fun y hy => Or.inr (N y hy)).mono (by decide) (by decide)⟩⟩
theorem main_1_1 : Claimed_1_1 := comes_1 fun _ _ _ _ _ _ h hF => ⟨h.1, hF⟩
theorem main_1_2 : Claimed_1_2 := comes_1 fun _ _ _ _ _ _ h hF => ⟨h.2.1, hF⟩
end Jvm.Pilot.@@N@@
namespace Jvm.Pilot.@@N@@
open Jvm Jvm.ClassFile Sem Op Lib Jvm.Free Jvm.Stand Jvm.Pilot.@@N@@.Jvm.D
/-! MADE BY PROGRAM (witnessworld.py) out of the Statement's table words and the real class files: 14 classes; the members and pool entries that the words name. The judged class is class 1, her method 1. -/
namespace start1
open Jvm.ClassFile
def u (s : String) : CpInfo := .utf8 (stringToUtf16 s)
/-- a pool by its gaps: so many unusable entries, then the entry; so many at the end -/
def gap : Nat → List CpInfo → List CpInfo
  | 0, r => r
  | n + 1, r => .unusable :: gap n r
def poolList (es : List (Nat × CpInfo)) (last : Nat) : List CpInfo := es.foldr (fun e r => gap e.1 (e.2 :: r)) (gap last [])
def pool (es : List (Nat × CpInfo)) (last : Nat) : Array CpInfo := ⟨poolList es last⟩
def fileOf (pool : Array CpInfo) (this : Nat) (attrs : Array Attribute := #[]) (ms : Array MethodInfo := #[]) (fl : Nat := 33) (sup : Nat := 0) (ifs : Array Nat := #[]) (fds : Array FieldInfo := #[]) : ClassFile where
  minorVersion := 0
  majorVersion := 65
  constantPool := pool
  accessFlags := fl
  thisClass := this
  superClass := sup
  interfaces := ifs
  fields := fds
  methods := ms
  attributes := attrs
def plain (name : String) (sup : Option ClassId) : Class where
  name := name
  kind := .ordinary
  loader := none
  accessFlags := 33
  super := sup
  interfaces := #[]
  cf := none
  fields := #[]
  methods := #[]
  instanceTypes := #[]
  staticTypes := #[]
  resolved := #[]
  callSites := []
  init := .initialized
  statics := none
  mirror := none

def pool0 : Array CpInfo := pool [(5, u "<init>"), (0, u "()V"), (1, .class_ 10), (1, u "java/lang/Object")] 113

def k0c0 : Code := { maxStack := 0, maxLocals := 1, code := object_method_1_code, exceptionTable := #[], attributes := #[] }
def k0m0 : Method := { name := "<init>", desc := "()V", sig := { parameters := [], returnType := none }, accessFlags := 1, code := some k0c0 }
/-- java/lang/Object -/
def k0 : Class := { plain "java/lang/Object" none with
  accessFlags := 33
  interfaces := #[]
  cf := some (fileOf pool0 8 #[] #[{ accessFlags := 1, nameIndex := 5, descriptorIndex := 6, attributes := #[] }] 33 0 #[] #[])
  fields := #[]
  methods := #[k0m0]
  instanceTypes := #[]
  staticTypes := #[]
  resolved := Array.replicate 124 none
  statics := none }

def pool1 : Array CpInfo := pool [(2, .class_ 4), (1, u "java/lang/Object"), (0, u "<init>"), (0, u "()V"), (0, .class_ 8), (0, u "com/example/corpo/corpo/orientation/GyroBias"), (0, .methodref 7 10), (0, .nameAndType 5 11), (0, u "(DDD)V"), (0, .methodref 7 13), (0, .nameAndType 14 6), (0, u "age"), (0, .class_ 16), (0, u "com/example/corpo/corpo/samples/Vector3"), (0, .methodref 15 10), (0, .double 4616189618054758400), (1, .methodref 7 21), (0, .nameAndType 22 23), (0, u "observe"), (0, u "(Lcom/example/corpo/corpo/samples/Vector3;DD)V"), (0, .methodref 7 25), (0, .nameAndType 26 27), (0, u "value"), (0, u "()Lcom/example/corpo/corpo/samples/Vector3;"), (0, .methodref 15 29), (0, .nameAndType 30 31), (0, u "x"), (0, u "()D"), (0, .methodref 15 33), (0, .nameAndType 34 31), (0, u "y"), (0, .methodref 15 36), (0, .nameAndType 37 31), (0, u "z"), (0, .class_ 39), (0, u "com/example/corpo/corpo/orientation/GyroBiasAgePinLaw"), (2, u "law"), (0, u "(IIIII)Z")] 3

def k1m0 : Method := { name := "<init>", desc := "()V", sig := { parameters := [], returnType := none }, accessFlags := 1, code := none }
def k1c1 : Code := { maxStack := 9, maxLocals := 23, code := code, exceptionTable := #[], attributes := #[] }
def k1m1 : Method := { name := "law", desc := "(IIIII)Z", sig := { parameters := [.int, .int, .int, .int, .int], returnType := some .boolean }, accessFlags := 9, code := some k1c1 }
/-- com/example/corpo/corpo/orientation/GyroBiasAgePinLaw -/
def k1 : Class := { plain "com/example/corpo/corpo/orientation/GyroBiasAgePinLaw" (some 0) with
  accessFlags := 49
  interfaces := #[]
  cf := some (fileOf pool1 38 #[] #[{ accessFlags := 1, nameIndex := 5, descriptorIndex := 6, attributes := #[] }, { accessFlags := 9, nameIndex := 42, descriptorIndex := 43, attributes := #[] }] 49 2 #[] #[])
  fields := #[]
  methods := #[k1m0, k1m1]
  instanceTypes := #[]
  staticTypes := #[]
  resolved := Array.replicate 47 none
  statics := none }

def pool2 : Array CpInfo := pool [(1, .methodref 2 3), (0, .class_ 4), (0, .nameAndType 5 6), (0, u "java/lang/Object"), (0, u "<init>"), (0, u "()V"), (0, .fieldref 8 9), (0, .class_ 10), (0, .nameAndType 11 12), (0, u "com/example/corpo/corpo/orientation/GyroBias"), (0, u "value"), (0, u "[D"), (0, .class_ 14), (0, u "[[D"), (0, .fieldref 8 16), (0, .nameAndType 17 14), (0, u "covariance"), (0, .fieldref 8 19), (0, .nameAndType 20 21), (0, u "growth"), (0, u "D"), (0, .class_ 23), (0, u "com/example/corpo/corpo/samples/Vector3"), (0, .methodref 22 25), (0, .nameAndType 5 26), (0, u "(DDD)V"), (0, .methodref 22 28), (0, .nameAndType 29 30), (0, u "x"), (0, u "()D"), (0, .methodref 22 32), (0, .nameAndType 33 30), (0, u "y"), (0, .methodref 22 35), (0, .nameAndType 36 30), (0, u "z"), (0, .methodref 8 38), (0, .nameAndType 39 40), (0, u "dot"), (0, u "([D[D)D"), (3, u "()Lcom/example/corpo/corpo/samples/Vector3;"), (2, u "age"), (0, u "observe"), (0, u "(Lcom/example/corpo/corpo/samples/Vector3;DD)V")] 3

def k2c0 : Code := { maxStack := 6, maxLocals := 8, code := prog_8_method_1_code, exceptionTable := #[], attributes := #[] }
def k2m0 : Method := { name := "<init>", desc := "(DDD)V", sig := { parameters := [.double, .double, .double], returnType := none }, accessFlags := 0, code := some k2c0 }
def k2c1 : Code := { maxStack := 8, maxLocals := 1, code := prog_8_method_2_code, exceptionTable := #[], attributes := #[] }
def k2m1 : Method := { name := "value", desc := "()Lcom/example/corpo/corpo/samples/Vector3;", sig := { parameters := [], returnType := some (.object "com/example/corpo/corpo/samples/Vector3") }, accessFlags := 0, code := some k2c1 }
def k2c2 : Code := { maxStack := 6, maxLocals := 2, code := prog_8_method_4_code, exceptionTable := #[], attributes := #[] }
def k2m2 : Method := { name := "age", desc := "()V", sig := { parameters := [], returnType := none }, accessFlags := 0, code := some k2c2 }
def k2c3 : Code := { maxStack := 8, maxLocals := 16, code := prog_8_method_5_code, exceptionTable := #[], attributes := #[] }
def k2m3 : Method := { name := "observe", desc := "(Lcom/example/corpo/corpo/samples/Vector3;DD)V", sig := { parameters := [(.object "com/example/corpo/corpo/samples/Vector3"), .double, .double], returnType := none }, accessFlags := 0, code := some k2c3 }
def k2c4 : Code := { maxStack := 6, maxLocals := 2, code := prog_8_method_6_code, exceptionTable := #[], attributes := #[] }
def k2m4 : Method := { name := "dot", desc := "([D[D)D", sig := { parameters := [(.array .double), (.array .double)], returnType := some .double }, accessFlags := 10, code := some k2c4 }
/-- com/example/corpo/corpo/orientation/GyroBias -/
def k2 : Class := { plain "com/example/corpo/corpo/orientation/GyroBias" (some 0) with
  accessFlags := 32
  interfaces := #[]
  cf := some (fileOf pool2 8 #[] #[{ accessFlags := 0, nameIndex := 5, descriptorIndex := 26, attributes := #[] }, { accessFlags := 0, nameIndex := 11, descriptorIndex := 44, attributes := #[] }, { accessFlags := 0, nameIndex := 47, descriptorIndex := 6, attributes := #[] }, { accessFlags := 0, nameIndex := 48, descriptorIndex := 49, attributes := #[] }, { accessFlags := 10, nameIndex := 39, descriptorIndex := 40, attributes := #[] }] 32 2 #[] #[{ accessFlags := 18, nameIndex := 11, descriptorIndex := 12, attributes := #[] }, { accessFlags := 18, nameIndex := 17, descriptorIndex := 14, attributes := #[] }, { accessFlags := 18, nameIndex := 20, descriptorIndex := 21, attributes := #[] }])
  fields := #[{ name := "value", type := (.array .double), accessFlags := 18, slot := 0, constantValue := 0 }, { name := "covariance", type := (.array (.array .double)), accessFlags := 18, slot := 1, constantValue := 0 }, { name := "growth", type := .double, accessFlags := 18, slot := 2, constantValue := 0 }]
  methods := #[k2m0, k2m1, k2m2, k2m3, k2m4]
  instanceTypes := #[(.array .double), (.array (.array .double)), .double]
  staticTypes := #[]
  resolved := Array.replicate 53 none
  statics := none }

def pool3 : Array CpInfo := pool [(1, .methodref 2 3), (0, .class_ 4), (0, .nameAndType 5 6), (0, u "java/lang/Object"), (0, u "<init>"), (0, u "()V"), (0, .class_ 8), (0, u "java/lang/Record")] 13

def k3c0 : Code := { maxStack := 1, maxLocals := 1, code := jdk_30_method_1_code, exceptionTable := #[], attributes := #[] }
def k3m0 : Method := { name := "<init>", desc := "()V", sig := { parameters := [], returnType := none }, accessFlags := 4, code := some k3c0 }
/-- java/lang/Record -/
def k3 : Class := { plain "java/lang/Record" (some 0) with
  accessFlags := 1057
  interfaces := #[]
  cf := some (fileOf pool3 7 #[] #[{ accessFlags := 4, nameIndex := 5, descriptorIndex := 6, attributes := #[] }] 1057 2 #[] #[])
  fields := #[]
  methods := #[k3m0]
  instanceTypes := #[]
  staticTypes := #[]
  resolved := Array.replicate 22 none
  statics := none }

def pool4 : Array CpInfo := pool [(1, .methodref 2 3), (0, .class_ 4), (0, .nameAndType 5 6), (0, u "java/lang/Record"), (0, u "<init>"), (0, u "()V"), (0, .fieldref 8 9), (0, .class_ 10), (0, .nameAndType 11 12), (0, u "com/example/corpo/corpo/samples/Vector3"), (0, u "x"), (0, u "D"), (0, .fieldref 8 14), (0, .nameAndType 15 12), (0, u "y"), (0, .fieldref 8 17), (0, .nameAndType 18 12), (0, u "z"), (2, u "(DDD)V"), (25, u "()D")] 25

def k4c0 : Code := { maxStack := 3, maxLocals := 7, code := prog_37_method_1_code, exceptionTable := #[], attributes := #[] }
def k4m0 : Method := { name := "<init>", desc := "(DDD)V", sig := { parameters := [.double, .double, .double], returnType := none }, accessFlags := 1, code := some k4c0 }
def k4c1 : Code := { maxStack := 2, maxLocals := 1, code := prog_37_method_8_code, exceptionTable := #[], attributes := #[] }
def k4m1 : Method := { name := "x", desc := "()D", sig := { parameters := [], returnType := some .double }, accessFlags := 1, code := some k4c1 }
def k4c2 : Code := { maxStack := 2, maxLocals := 1, code := prog_37_method_9_code, exceptionTable := #[], attributes := #[] }
def k4m2 : Method := { name := "y", desc := "()D", sig := { parameters := [], returnType := some .double }, accessFlags := 1, code := some k4c2 }
def k4c3 : Code := { maxStack := 2, maxLocals := 1, code := prog_37_method_10_code, exceptionTable := #[], attributes := #[] }
def k4m3 : Method := { name := "z", desc := "()D", sig := { parameters := [], returnType := some .double }, accessFlags := 1, code := some k4c3 }
/-- com/example/corpo/corpo/samples/Vector3 -/
def k4 : Class := { plain "com/example/corpo/corpo/samples/Vector3" (some 3) with
  accessFlags := 49
  interfaces := #[]
  cf := some (fileOf pool4 8 #[] #[{ accessFlags := 1, nameIndex := 5, descriptorIndex := 21, attributes := #[] }, { accessFlags := 1, nameIndex := 11, descriptorIndex := 47, attributes := #[] }, { accessFlags := 1, nameIndex := 15, descriptorIndex := 47, attributes := #[] }, { accessFlags := 1, nameIndex := 18, descriptorIndex := 47, attributes := #[] }] 49 2 #[] #[{ accessFlags := 18, nameIndex := 11, descriptorIndex := 12, attributes := #[] }, { accessFlags := 18, nameIndex := 15, descriptorIndex := 12, attributes := #[] }, { accessFlags := 18, nameIndex := 18, descriptorIndex := 12, attributes := #[] }])
  fields := #[{ name := "x", type := .double, accessFlags := 18, slot := 0, constantValue := 0 }, { name := "y", type := .double, accessFlags := 18, slot := 1, constantValue := 0 }, { name := "z", type := .double, accessFlags := 18, slot := 2, constantValue := 0 }]
  methods := #[k4m0, k4m1, k4m2, k4m3]
  instanceTypes := #[.double, .double, .double]
  staticTypes := #[]
  resolved := Array.replicate 73 none
  statics := none }

def pool5 : Array CpInfo := pool [(1, u "java/lang/Cloneable"), (0, .class_ 1), (0, u "java/lang/Object"), (0, .class_ 3)] 3

/-- java/lang/Cloneable -/
def k5 : Class := { plain "java/lang/Cloneable" (some 0) with
  accessFlags := 1537
  interfaces := #[]
  cf := some (fileOf pool5 2 #[] #[] 1537 4 #[] #[])
  fields := #[]
  methods := #[]
  instanceTypes := #[]
  staticTypes := #[]
  resolved := Array.replicate 8 none
  statics := none }

def pool6 : Array CpInfo := pool [(1, u "java/io/Serializable"), (0, .class_ 1), (0, u "java/lang/Object"), (0, .class_ 3)] 3

/-- java/io/Serializable -/
def k6 : Class := { plain "java/io/Serializable" (some 0) with
  accessFlags := 1537
  interfaces := #[]
  cf := some (fileOf pool6 2 #[] #[] 1537 4 #[] #[])
  fields := #[]
  methods := #[]
  instanceTypes := #[]
  staticTypes := #[]
  resolved := Array.replicate 8 none
  statics := none }

/-- the primitive byte -/
def k7 : Class := { plain "byte" none with kind := .primitive 'B', accessFlags := 0x411 }
/-- [B -/
def k8 : Class := { plain "[B" (some 0) with kind := .array 7 .byte, interfaces := #[5, 6], accessFlags := 1041 }

/-- the primitive double -/
def k9 : Class := { plain "double" none with kind := .primitive 'D', accessFlags := 0x411 }
/-- [D -/
def k10 : Class := { plain "[D" (some 0) with kind := .array 9 .double, interfaces := #[5, 6], accessFlags := 1041 }

/-- the primitive int -/
def k11 : Class := { plain "int" none with kind := .primitive 'I', accessFlags := 0x411 }
/-- [I -/
def k12 : Class := { plain "[I" (some 0) with kind := .array 11 .int, interfaces := #[5, 6], accessFlags := 1041 }

/-- [[D -/
def k13 : Class := { plain "[[D" (some 0) with kind := .array 10 (.array .double), interfaces := #[5, 6], accessFlags := 1041 }

def heap : Heap := #[]
def classes : Array Class := #[k0, k1, k2, k3, k4, k5, k6, k7, k8, k9, k10, k11, k12, k13]
def interned : List (Array UInt16 × Addr) := []
def slotsUsed : Nat := 0
def theMethod : MethodId := ⟨1, 1⟩
def args0 : Array Value := #[.int 5, .int 6, .int 1, .int 2, .int 7]
def aboutOver (below : List Frame) : State where
  vm := { classes := classes, interned := interned.toArray }
  heap := heap
  slotsUsed := slotsUsed
  threads := #[{ frames := .invoking theMethod args0 :: below }]
def below0 : List Frame := [.native { method := ⟨0, 0⟩, args := #[] }]
def about1 : State := aboutOver below0
def p0 : Program := .bare "" "" ""
def e0 : Env := launch0.env 0 0 0
theorem w_frames : about1.frames = Frame.invoking theMethod args0 :: below0 := rfl
set_option maxRecDepth 65536 in
theorem w_args : argsFit about1.vm theMethod args0 = true := by decide +kernel
set_option maxRecDepth 65536 in
theorem w_heap : heapFits about1 = true := by decide +kernel
set_option maxRecDepth 65536 in
theorem w_runnable : about1.curStatus? = some .runnable := by decide +kernel
set_option maxRecDepth 65536 in
theorem w_alone : about1.alone = true := by decide +kernel
set_option maxRecDepth 65536 in
theorem w_named : about1.methodNamed? x = some theMethod := by decide +kernel
set_option maxRecDepth 65536 in
theorem w_hears : about1.hears theMethod below0 = true := by decide +kernel
set_option maxRecDepth 65536 in
theorem w_ripe : about1.ripe theMethod args0 below0 = true := by decide +kernel
theorem w_running : about1.status = .running := rfl
set_option maxRecDepth 65536 in
theorem w_room : about1.hasRoom e0.platform room_1 = true :=
  launch0.hasRoom_least _ room_1 (by decide +kernel) (by decide +kernel) (by decide +kernel) (by decide +kernel) (by decide +kernel) (by decide +kernel)
theorem allAtoms_all (ts : List Jvm.Cond) (a : Array Jvm.Value) (st : Jvm.State) : (allAtoms ts).before a st = ts.all (fun c => c.before a st) := by
  induction ts with
  | nil => rfl
  | cons c t ih =>
    show (Jvm.Cond.and c (allAtoms t)).before a st = _
    rw [Jvm.Cond.before_and, ih, List.all_cons]
def words1 : List Jvm.Cond := Jvm.Cond.code x code maxLocals ret :: tables_1
/-- a 'code' word, met by the world's own term for the bytes: nothing is compared byte by byte -/
theorem code_word {y : MethodName} {bytes : ByteArray} {mx : Nat} {rt : Option FieldType} {a : Array Value} {s : State} {m : MethodId} {meth : Method} {c : Code} (h1 : s.methodNamed? y = some m) (h2 : s.vm.method? m = some meth) (h3 : meth.code = some c) (h4 : c.code = bytes)
    (h5 : (c.maxLocals == mx && c.exceptionTable.isEmpty && decide (c.maxStack ≤ mostOperands) && decide (meth.sig.returnType = rt) && !meth.locks && decide (parseMethodDescriptor y.desc = some meth.sig)) = true) : (Jvm.Cond.code y bytes mx rt).before a s = true := by
  simp only [Bool.and_eq_true, beq_iff_eq, Bool.not_eq_true', decide_eq_true_eq] at h5
  obtain ⟨⟨⟨⟨⟨g1, g2⟩, g3⟩, g4⟩, g5⟩, g6⟩ := h5
  simp [Cond.before, Cond.holds, Cond.value, h1, h2, h3, h4, g1, g2, g3, g4, g5, g6]
def isCode : Jvm.Cond → Bool
  | .code _ _ _ _ => true
  | _ => false
theorem all_split {L : List Jvm.Cond} {P : Jvm.Cond → Bool} (h1 : L.all (fun c => isCode c || P c) = true) (h2 : ∀ c ∈ L.filter isCode, P c = true) : L.all P = true := by
  refine List.all_eq_true.mpr fun c hc => ?_
  have h := List.all_eq_true.mp h1 c hc
  rcases Bool.eq_false_or_eq_true (isCode c) with hi | hi
  · exact h2 c (List.mem_filter.mpr ⟨hc, hi⟩)
  · simpa [hi] using h
set_option maxRecDepth 65536 in
theorem w_c0 : (Jvm.Cond.code x code maxLocals ret).before args0 about1 = true := code_word (m := ⟨1, 1⟩) (meth := k1m1) (c := k1c1) (by decide +kernel) rfl rfl rfl (by decide +kernel)
set_option maxRecDepth 65536 in
theorem w_c1 : (Jvm.Cond.code ({ cls := "com/example/corpo/corpo/orientation/GyroBias", name := "<init>", desc := "(DDD)V" } : Jvm.MethodName) prog_8_method_1_code (8 : Nat) (Option.none : Option Jvm.ClassFile.FieldType)).before args0 about1 = true := code_word (m := ⟨2, 0⟩) (meth := k2m0) (c := k2c0) (by decide +kernel) rfl rfl rfl (by decide +kernel)
set_option maxRecDepth 65536 in
theorem w_c2 : (Jvm.Cond.code ({ cls := "java/lang/Object", name := "<init>", desc := "()V" } : Jvm.MethodName) object_method_1_code (1 : Nat) (Option.none : Option Jvm.ClassFile.FieldType)).before args0 about1 = true := code_word (m := ⟨0, 0⟩) (meth := k0m0) (c := k0c0) (by decide +kernel) rfl rfl rfl (by decide +kernel)
set_option maxRecDepth 65536 in
theorem w_c3 : (Jvm.Cond.code ({ cls := "com/example/corpo/corpo/orientation/GyroBias", name := "age", desc := "()V" } : Jvm.MethodName) prog_8_method_4_code (2 : Nat) (Option.none : Option Jvm.ClassFile.FieldType)).before args0 about1 = true := code_word (m := ⟨2, 2⟩) (meth := k2m2) (c := k2c2) (by decide +kernel) rfl rfl rfl (by decide +kernel)
set_option maxRecDepth 65536 in
theorem w_c4 : (Jvm.Cond.code ({ cls := "com/example/corpo/corpo/samples/Vector3", name := "<init>", desc := "(DDD)V" } : Jvm.MethodName) prog_37_method_1_code (7 : Nat) (Option.none : Option Jvm.ClassFile.FieldType)).before args0 about1 = true := code_word (m := ⟨4, 0⟩) (meth := k4m0) (c := k4c0) (by decide +kernel) rfl rfl rfl (by decide +kernel)
set_option maxRecDepth 65536 in
theorem w_c5 : (Jvm.Cond.code ({ cls := "java/lang/Record", name := "<init>", desc := "()V" } : Jvm.MethodName) jdk_30_method_1_code (1 : Nat) (Option.none : Option Jvm.ClassFile.FieldType)).before args0 about1 = true := code_word (m := ⟨3, 0⟩) (meth := k3m0) (c := k3c0) (by decide +kernel) rfl rfl rfl (by decide +kernel)
set_option maxRecDepth 65536 in
theorem w_c6 : (Jvm.Cond.code ({ cls := "com/example/corpo/corpo/orientation/GyroBias", name := "observe", desc := "(Lcom/example/corpo/corpo/samples/Vector3;DD)V" } : Jvm.MethodName) prog_8_method_5_code (16 : Nat) (Option.none : Option Jvm.ClassFile.FieldType)).before args0 about1 = true := code_word (m := ⟨2, 3⟩) (meth := k2m3) (c := k2c3) (by decide +kernel) rfl rfl rfl (by decide +kernel)
set_option maxRecDepth 65536 in
theorem w_c7 : (Jvm.Cond.code ({ cls := "com/example/corpo/corpo/samples/Vector3", name := "x", desc := "()D" } : Jvm.MethodName) prog_37_method_8_code (1 : Nat) (Option.some Jvm.ClassFile.FieldType.double)).before args0 about1 = true := code_word (m := ⟨4, 1⟩) (meth := k4m1) (c := k4c1) (by decide +kernel) rfl rfl rfl (by decide +kernel)
set_option maxRecDepth 65536 in
theorem w_c8 : (Jvm.Cond.code ({ cls := "com/example/corpo/corpo/samples/Vector3", name := "y", desc := "()D" } : Jvm.MethodName) prog_37_method_9_code (1 : Nat) (Option.some Jvm.ClassFile.FieldType.double)).before args0 about1 = true := code_word (m := ⟨4, 2⟩) (meth := k4m2) (c := k4c2) (by decide +kernel) rfl rfl rfl (by decide +kernel)
set_option maxRecDepth 65536 in
theorem w_c9 : (Jvm.Cond.code ({ cls := "com/example/corpo/corpo/samples/Vector3", name := "z", desc := "()D" } : Jvm.MethodName) prog_37_method_10_code (1 : Nat) (Option.some Jvm.ClassFile.FieldType.double)).before args0 about1 = true := code_word (m := ⟨4, 3⟩) (meth := k4m3) (c := k4c3) (by decide +kernel) rfl rfl rfl (by decide +kernel)
set_option maxRecDepth 65536 in
theorem w_c10 : (Jvm.Cond.code ({ cls := "com/example/corpo/corpo/orientation/GyroBias", name := "dot", desc := "([D[D)D" } : Jvm.MethodName) prog_8_method_6_code (2 : Nat) (Option.some Jvm.ClassFile.FieldType.double)).before args0 about1 = true := code_word (m := ⟨2, 4⟩) (meth := k2m4) (c := k2c4) (by decide +kernel) rfl rfl rfl (by decide +kernel)
set_option maxRecDepth 65536 in
theorem w_c11 : (Jvm.Cond.code ({ cls := "com/example/corpo/corpo/orientation/GyroBias", name := "value", desc := "()Lcom/example/corpo/corpo/samples/Vector3;" } : Jvm.MethodName) prog_8_method_2_code (1 : Nat) (Option.some (Jvm.ClassFile.FieldType.object "com/example/corpo/corpo/samples/Vector3"))).before args0 about1 = true := code_word (m := ⟨2, 1⟩) (meth := k2m1) (c := k2c1) (by decide +kernel) rfl rfl rfl (by decide +kernel)
def codes1 : List Jvm.Cond := [Jvm.Cond.code x code maxLocals ret, Jvm.Cond.code ({ cls := "com/example/corpo/corpo/orientation/GyroBias", name := "<init>", desc := "(DDD)V" } : Jvm.MethodName) prog_8_method_1_code (8 : Nat) (Option.none : Option Jvm.ClassFile.FieldType), Jvm.Cond.code ({ cls := "java/lang/Object", name := "<init>", desc := "()V" } : Jvm.MethodName) object_method_1_code (1 : Nat) (Option.none : Option Jvm.ClassFile.FieldType), Jvm.Cond.code ({ cls := "com/example/corpo/corpo/orientation/GyroBias", name := "age", desc := "()V" } : Jvm.MethodName) prog_8_method_4_code (2 : Nat) (Option.none : Option Jvm.ClassFile.FieldType), Jvm.Cond.code ({ cls := "com/example/corpo/corpo/samples/Vector3", name := "<init>", desc := "(DDD)V" } : Jvm.MethodName) prog_37_method_1_code (7 : Nat) (Option.none : Option Jvm.ClassFile.FieldType), Jvm.Cond.code ({ cls := "java/lang/Record", name := "<init>", desc := "()V" } : Jvm.MethodName) jdk_30_method_1_code (1 : Nat) (Option.none : Option Jvm.ClassFile.FieldType), Jvm.Cond.code ({ cls := "com/example/corpo/corpo/orientation/GyroBias", name := "observe", desc := "(Lcom/example/corpo/corpo/samples/Vector3;DD)V" } : Jvm.MethodName) prog_8_method_5_code (16 : Nat) (Option.none : Option Jvm.ClassFile.FieldType), Jvm.Cond.code ({ cls := "com/example/corpo/corpo/samples/Vector3", name := "x", desc := "()D" } : Jvm.MethodName) prog_37_method_8_code (1 : Nat) (Option.some Jvm.ClassFile.FieldType.double), Jvm.Cond.code ({ cls := "com/example/corpo/corpo/samples/Vector3", name := "y", desc := "()D" } : Jvm.MethodName) prog_37_method_9_code (1 : Nat) (Option.some Jvm.ClassFile.FieldType.double), Jvm.Cond.code ({ cls := "com/example/corpo/corpo/samples/Vector3", name := "z", desc := "()D" } : Jvm.MethodName) prog_37_method_10_code (1 : Nat) (Option.some Jvm.ClassFile.FieldType.double), Jvm.Cond.code ({ cls := "com/example/corpo/corpo/orientation/GyroBias", name := "dot", desc := "([D[D)D" } : Jvm.MethodName) prog_8_method_6_code (2 : Nat) (Option.some Jvm.ClassFile.FieldType.double), Jvm.Cond.code ({ cls := "com/example/corpo/corpo/orientation/GyroBias", name := "value", desc := "()Lcom/example/corpo/corpo/samples/Vector3;" } : Jvm.MethodName) prog_8_method_2_code (1 : Nat) (Option.some (Jvm.ClassFile.FieldType.object "com/example/corpo/corpo/samples/Vector3"))]
set_option maxRecDepth 65536 in
theorem codes_eq : words1.filter isCode = codes1 := rfl
theorem w_codes : ∀ c ∈ words1.filter isCode, c.before args0 about1 = true := by
  rw [codes_eq]
  intro c hc
  simp only [codes1, List.mem_cons, List.not_mem_nil, or_false] at hc
  rcases hc with rfl | rfl | rfl | rfl | rfl | rfl | rfl | rfl | rfl | rfl | rfl | rfl
  · exact w_c0
  · exact w_c1
  · exact w_c2
  · exact w_c3
  · exact w_c4
  · exact w_c5
  · exact w_c6
  · exact w_c7
  · exact w_c8
  · exact w_c9
  · exact w_c10
  · exact w_c11
set_option maxRecDepth 65536 in
theorem w_t1 : (words1.take 24).all (fun c => isCode c || c.before args0 about1) = true := by decide +kernel
set_option maxRecDepth 65536 in
theorem w_t2 : ((words1.drop 24).take 24).all (fun c => isCode c || c.before args0 about1) = true := by decide +kernel
set_option maxRecDepth 65536 in
theorem w_t3 : (((words1.drop 24).drop 24).take 24).all (fun c => isCode c || c.before args0 about1) = true := by decide +kernel
set_option maxRecDepth 65536 in
theorem w_t4 : (((words1.drop 24).drop 24).drop 24).all (fun c => isCode c || c.before args0 about1) = true := by decide +kernel
theorem w_tables : (allAtoms (Jvm.Cond.code x code maxLocals ret :: tables_1)).before args0 about1 = true := by
  rw [allAtoms_all]
  show words1.all (fun c => c.before args0 about1) = true
  refine all_split ?_ w_codes
  rw [← List.take_append_drop 24 words1, List.all_append, w_t1, ← List.take_append_drop 24 (words1.drop 24), List.all_append, w_t2, ← List.take_append_drop 24 ((words1.drop 24).drop 24), List.all_append, w_t3, w_t4]
  rfl
set_option maxRecDepth 65536 in
theorem w_case : (Jvm.Cond.and given_1 narrow_1).before args0 about1 = true := by decide +kernel
theorem w_applies : (headSpec (Jvm.Cond.code x code maxLocals ret :: tables_1) room_1).applies x e0.platform about1 = true :=
  (Spec.applies_iff w_frames).mpr ⟨w_running, w_runnable, w_alone, w_named, w_hears, w_ripe, w_room, w_tables⟩
theorem atStart : AtStart classFile x code maxLocals ret World_1 tables_1 room_1 Calls_1 rest_1 Pre_1 launch0 p0 e0 about1 theMethod args0 below0 :=
  ⟨lists_1, trivial, launch0.admits_env _ _ _, launch0.least_env, fairChoices_fair.cas, fairChoices_fair.clock, w_frames, w_args, w_heap, w_applies, trivial, trivial, w_case⟩
end start1
theorem witness_1 : WitnessClaimed_1 := ⟨start1.p0, start1.e0, start1.about1, start1.theMethod, start1.args0, start1.below0, start1.atStart⟩
end Jvm.Pilot.@@N@@
