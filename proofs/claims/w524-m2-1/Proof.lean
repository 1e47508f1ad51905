import JvmDerived
import JvmDerived.Pilot.@@N@@Statement
import JvmDerived.Pilot.@@N@@Code
set_option linter.unusedVariables false
set_option linter.unusedSimpArgs false
namespace Jvm.Pilot.@@N@@
open Jvm Jvm.ClassFile Sem Op Lib Jvm.Free Jvm.Stand Jvm.LawKit Jvm.RoadKit Bundle Jvm.Pilot.@@N@@.Jvm.D
/-- the run from A comes to a return that Q speaks of -/
def own_Fin (p : Program) (e : Env) (below : List Frame) (s : State) (kc ks : Nat) (Q : Option Value → Heap → List Loc → Prop) (A : State) : Prop :=
  ∃ s₂ o, Steps p.tables e below A s₂ ∧ s₂.status = .running ∧ Ended s₂ below o ∧ ∃ v L, o = .returned v ∧ Q v s₂.heap L ∧ FrameEnd s o s₂ L kc ks
section Own
variable {p : Program} {l : Launch} {e : Env} {R : Room} {s : State} {m : MethodId} {args : Array Value} {below : List Frame} {meth : Method} {c : Code} {T : State} {locs : List Loc} {cells slots kc ks : Nat} {Q : Option Value → Heap → List Loc → Prop}
theorem own_back {A B : State} (h : ∀ t, Steps p.tables e below B t → Steps p.tables e below A t) (k : own_Fin p e below s kc ks Q B) : own_Fin p e below s kc ks Q A := by
  obtain ⟨s2, o, h1, r⟩ := k
  exact ⟨s2, o, h _ h1, r⟩
theorem own_retN (X : Stand p l e R s m args below meth c T locs cells slots) (hx : p.tables.exec = Jvm.exec) (hlk : meth.locks = false) {t : FieldType} (ht : t = .boolean ∨ t = .byte ∨ t = .char ∨ t = .short) {pc : Nat} {Ls : Array Slot} {z : Int32} {rest : List Value} (hret : meth.sig.returnType = some t) (hd : decode c.code pc = .ok (.ireturn, 1)) (hc : cells ≤ kc) (hs : slots ≤ ks)
    (hQ : Q (some (.int (nar t z))) T.heap locs) : own_Fin p e below s kc ks Q (T.setTop (mkF m pc Ls (.int z :: rest))) := by
  obtain ⟨fs, hr, hrun, hended, hW, hsame⟩ := X.leave (v := some (.int (nar t z))) (fun h => by rw [hret] at h; cases h) hlk
  exact ⟨_, _, retN X hx hret ht hd hr, hrun, hended, _, _, rfl, hQ, ⟨_, rfl⟩, hW, hsame.mono hc hs⟩
theorem own_retZ (X : Stand p l e R s m args below meth c T locs cells slots) (hx : p.tables.exec = Jvm.exec) (hlk : meth.locks = false) {pc : Nat} {Ls : Array Slot} {z : Int32} {rest : List Value} (hret : meth.sig.returnType = some .boolean) (hd : decode c.code pc = .ok (.ireturn, 1)) (hc : cells ≤ kc) (hs : slots ≤ ks)
    (hQ : Q (some (.int (z &&& 1))) T.heap locs) : own_Fin p e below s kc ks Q (T.setTop (mkF m pc Ls (.int z :: rest))) := own_retN X hx hlk (Or.inl rfl) hret hd hc hs hQ
theorem own_retB (X : Stand p l e R s m args below meth c T locs cells slots) (hx : p.tables.exec = Jvm.exec) (hlk : meth.locks = false) {pc : Nat} {Ls : Array Slot} {z : Int32} {rest : List Value} (hret : meth.sig.returnType = some .byte) (hd : decode c.code pc = .ok (.ireturn, 1)) (hc : cells ≤ kc) (hs : slots ≤ ks)
    (hQ : Q (some (.int (nar .byte z))) T.heap locs) : own_Fin p e below s kc ks Q (T.setTop (mkF m pc Ls (.int z :: rest))) := own_retN X hx hlk (Or.inr (Or.inl rfl)) hret hd hc hs hQ
theorem own_retI (X : Stand p l e R s m args below meth c T locs cells slots) (hx : p.tables.exec = Jvm.exec) (hlk : meth.locks = false) {pc : Nat} {Ls : Array Slot} {z : Int32} {rest : List Value} (hret : meth.sig.returnType = some .int) (hd : decode c.code pc = .ok (.ireturn, 1)) (hc : cells ≤ kc) (hs : slots ≤ ks)
    (hQ : Q (some (.int z)) T.heap locs) : own_Fin p e below s kc ks Q (T.setTop (mkF m pc Ls (.int z :: rest))) := by
  obtain ⟨fs, hr, hrun, hended, hW, hsame⟩ := X.leave (v := some (.int z)) (fun h => by rw [hret] at h; cases h) hlk
  exact ⟨_, _, retOut X hx hret rfl (Or.inl ⟨rfl, Or.inl rfl, z, rfl⟩) hd hr, hrun, hended, _, _, rfl, hQ, ⟨_, rfl⟩, hW, hsame.mono hc hs⟩
theorem own_retJ (X : Stand p l e R s m args below meth c T locs cells slots) (hx : p.tables.exec = Jvm.exec) (hlk : meth.locks = false) {pc : Nat} {Ls : Array Slot} {z : Int64} {rest : List Value} (hret : meth.sig.returnType = some .long) (hd : decode c.code pc = .ok (.lreturn, 1)) (hc : cells ≤ kc) (hs : slots ≤ ks)
    (hQ : Q (some (.long z)) T.heap locs) : own_Fin p e below s kc ks Q (T.setTop (mkF m pc Ls (.long z :: rest))) := by
  obtain ⟨fs, hr, hrun, hended, hW, hsame⟩ := X.leave (v := some (.long z)) (fun h => by rw [hret] at h; cases h) hlk
  exact ⟨_, _, retOut X hx hret rfl (Or.inr (Or.inl ⟨rfl, rfl, z, rfl⟩)) hd hr, hrun, hended, _, _, rfl, hQ, ⟨_, rfl⟩, hW, hsame.mono hc hs⟩
theorem own_retA (X : Stand p l e R s m args below meth c T locs cells slots) (hx : p.tables.exec = Jvm.exec) (hlk : meth.locks = false) {pc : Nat} {Ls : Array Slot} {w : Value} {rest : List Value} {t : FieldType} (hret : meth.sig.returnType = some t) (ht : t.isReference = true) (hw : w.isRef = true) (hd : decode c.code pc = .ok (.areturn, 1)) (hc : cells ≤ kc) (hs : slots ≤ ks)
    (hQ : Q (some w) T.heap locs) : own_Fin p e below s kc ks Q (T.setTop (mkF m pc Ls (w :: rest))) := by
  obtain ⟨fs, hr, hrun, hended, hW, hsame⟩ := X.leave (v := some w) (fun h => by rw [hret] at h; cases h) hlk
  have hn : narrow t w = w := by cases t <;> first | rfl | cases ht
  exact ⟨_, _, retOut X hx hret hn (Or.inr (Or.inr (Or.inr (Or.inr ⟨rfl, ht, hw⟩)))) hd hr, hrun, hended, _, _, rfl, hQ, ⟨_, rfl⟩, hW, hsame.mono hc hs⟩
theorem own_ret0 (X : Stand p l e R s m args below meth c T locs cells slots) (hx : p.tables.exec = Jvm.exec) (hlk : meth.locks = false) {pc : Nat} {Ls : Array Slot} (hret : meth.sig.returnType = none) (hd : decode c.code pc = .ok (.return_, 1)) (hc : cells ≤ kc) (hs : slots ≤ ks)
    (hQ : Q none T.heap locs) : own_Fin p e below s kc ks Q (T.setTop (mkF m pc Ls [])) := by
  obtain ⟨fs, hr, hrun, hended, hW, hsame⟩ := X.leave (v := none) (fun _ => rfl) hlk
  exact ⟨_, _, X.returnOut hx hret hd hr, hrun, hended, _, _, rfl, hQ, ⟨_, rfl⟩, hW, hsame.mono hc hs⟩
end Own
open Jvm.FP in
/-- rounding is monotone (magnitudes, whole denominators) -/
theorem own_rmono {f : Core.Fmt} (hf : Core.Good f) {A A' : Nat} {e e' e0 : Int} (h0 : e0 ≤ f.qmin) (he : e0 ≤ e) (he' : e0 ≤ e') (h : Core.inUnits A e e0 ≤ Core.inUnits A' e' e0) :
    Core.zmag f (Core.roundRatio f false A 1 e) ≤ Core.zmag f (Core.roundRatio f false A' 1 e') := by
  refine Nat.le_of_not_lt fun hlt => ?_
  have fa := Core.roundRatio_fits hf false A (B := 1) (by decide) e
  have fb := Core.roundRatio_fits hf false A' (B := 1) (by decide) e'
  have nb := Core.roundRatio_ne_nan f false A' 1 e'
  have hne : Core.inUnits A e e0 ≠ Core.inUnits A' e' e0 := fun q => by
    have q' : A * 2 ^ (e - e0).toNat = A' * 2 ^ (e' - e0).toNat := q
    have hc : Core.roundRatio f false A 1 e = Core.roundRatio f false A' 1 e' := Core.roundRatio_congr (by decide) (by decide) (by
      rcases Int.le_total e e' with hh | hh
      · have x1 : (e' - e0).toNat = (e' - e).toNat + (e - e0).toNat := by omega
        rw [x1, Nat.pow_add, ← Nat.mul_assoc] at q'
        have x2 := Nat.eq_of_mul_eq_mul_right (Nat.two_pow_pos (e - e0).toNat) q'
        have x3 : (e - e').toNat = 0 := by omega
        rw [x3, Nat.pow_zero, Nat.mul_one, Nat.mul_one, Nat.mul_one]
        exact x2
      · have x1 : (e - e0).toNat = (e - e').toNat + (e' - e0).toNat := by omega
        rw [x1, Nat.pow_add, ← Nat.mul_assoc] at q'
        have x2 := Nat.eq_of_mul_eq_mul_right (Nat.two_pow_pos (e' - e0).toNat) q'
        have x3 : (e' - e).toNat = 0 := by omega
        rw [x3, Nat.pow_zero, Nat.mul_one, Nat.mul_one, Nat.mul_one]
        exact x2)
    rw [hc] at hlt
    exact Nat.lt_irrefl _ hlt
  have i1 : ¬ Core.inUnits A e e0 ≤ Core.zmag f (Core.roundRatio f false A' 1 e') * 2 ^ (f.qmin - e0).toNat * 1 := fun q => by
    have := Core.zmag_roundRatio_le hf (s := false) (by decide) fb nb h0 he q
    omega
  have i2 : ¬ Core.zmag f (Core.roundRatio f false A 1 e) * 2 ^ (f.qmin - e0).toNat * 1 ≤ Core.inUnits A' e' e0 := fun q => by
    have := Core.zmag_roundRatio_ge hf (s := false) (by decide) fa h0 he' q
    omega
  rcases Core.roundRatio_cases f false A' 1 e' with ⟨c', q', hR'⟩ | hR'
  · rcases Core.roundRatio_cases f false A 1 e with ⟨c, q, hR⟩ | hR
    · rw [hR] at hlt fa i2
      rw [hR'] at hlt fb i1
      have d1 := Core.roundRatio_nearest hf (by decide) hR fb.1 fb.2.1 h0 he
      have d2 := Core.roundRatio_nearest hf (by decide) hR' fa.1 fa.2.1 h0 he'
      unfold Core.distance at d1 d2
      rw [Core.units_fin fa h0, Core.units_fin fb h0] at d1
      rw [Core.units_fin fb h0, Core.units_fin fa h0] at d2
      generalize Core.zmag f (.fin false c q) * 2 ^ (f.qmin - e0).toNat = x at *
      generalize Core.zmag f (.fin false c' q') * 2 ^ (f.qmin - e0).toNat = y at *
      generalize Core.inUnits A e e0 = a at *
      generalize Core.inUnits A' e' e0 = b at *
      omega
    · have mv : ∀ (B : Nat) (z : Int), e0 ≤ z → Core.inUnits B z (e0 - 1) = 2 * Core.inUnits B z e0 := fun B z hz => by
        rw [Core.inUnits_move B (r := e0) (by omega) hz, show (e0 - (e0 - 1)).toNat = 1 by omega]
        omega
      have t1 := (Core.roundRatio_inf hf (s := false) (A := A) (B := 1) (e := e) (e0 := e0 - 1) (by decide) (by omega) (by omega)).mp hR
      have t2 := (Core.roundRatio_inf hf (s := false) (A := A') (B := 1) (e := e') (e0 := e0 - 1) (by decide) (by omega) (by omega)).mpr (Nat.le_trans t1 (by rw [mv A e he, mv A' e' he']; omega))
      rw [hR'] at t2
      cases t2
  · have q := Core.zmag_le_top hf fa
    rw [hR'] at hlt
    have e1 : Core.zmag f (.inf false) = f.tails * 2 ^ (f.exps - 2) := rfl
    rw [e1] at hlt
    exact absurd q (Nat.not_le.mpr hlt)
/-- not below 0, and no NaN -/
def own_PN (x : UInt64) : Prop := x.toNat ≤ 9218868437227405312
/-- not below 0, and finite -/
def own_PF (x : UInt64) : Prop := x.toNat < 9218868437227405312
theorem own_pf {x : UInt64} (h : own_PF x) : own_PN x := Nat.le_of_lt h
theorem own_nn {x : UInt64} (h : own_PN x) : Jvm.Free.Fl.NoNaN64 x := (Jvm.Free.Fl.noNaN64_iff x).mpr (by unfold own_PN at h; omega)
open Jvm.FP in
theorem own_pn_nan {x : UInt64} (h : own_PN x) : Core.val64 x ≠ .nan := (Core.ne_nan x).mpr (by unfold own_PN at h; omega)
open Jvm.FP in
theorem own_pn_zmag {x : UInt64} (h : own_PN x) : Core.zmag Core.b64 (Core.val64 x) = Core.unitsOf Core.b64 x.toNat := by
  rw [Core.zmag_bits (own_pn_nan h), Nat.mod_eq_of_lt (by unfold own_PN at h; omega)]
open Jvm.FP in
theorem own_pn_of {x : UInt64} {A : Nat} {e : Int} (h : Core.val64 x = Core.roundRatio Core.b64 false A 1 e) : own_PN x := by
  have n : Core.val64 x ≠ .nan := by rw [h]; exact Core.roundRatio_ne_nan _ _ _ _ _
  have s := Core.sgn_bits n
  rw [h, Core.sgn_roundRatio] at s
  have s' : ¬ 2 ^ 63 ≤ x.toNat := fun q => by rw [decide_eq_true q] at s; cases s
  have m := (Core.ne_nan x).mp n
  unfold own_PN
  omega
open Jvm.FP in
theorem own_fin {x : UInt64} (h : own_PF x) : ∃ (c : Nat) (q : Int), Core.val64 x = .fin false c q ∧ Core.fits Core.b64 (.fin false c q) ∧ Core.zmag Core.b64 (.fin false c q) = Core.unitsOf Core.b64 x.toNat := by
  have hn := own_pn_nan (own_pf h)
  obtain ⟨s, c, q, e⟩ := (Core.fin_bits x).mpr (by unfold own_PF at h; omega)
  have sg := Core.sgn_bits hn
  have q0 : ¬ 2 ^ 63 ≤ x.toNat := by unfold own_PF at h; omega
  rw [e, decide_eq_false q0] at sg
  have hs : s = false := sg
  subst hs
  have ft := Core.val64_fits x
  have z := own_pn_zmag (own_pf h)
  rw [e] at ft z
  exact ⟨c, q, e, ft, z⟩
open Jvm.FP in
theorem own_mulm {s a b : UInt64} (hs : own_PF s) (ha : own_PF a) (hb : own_PF b) (h : a.toNat ≤ b.toNat) : own_PN (FP.dmul s a) ∧ own_PN (FP.dmul s b) ∧ (FP.dmul s a).toNat ≤ (FP.dmul s b).toNat := by
  obtain ⟨cs, qs, es, fs, zs⟩ := own_fin hs
  obtain ⟨ca, qa, ea, fa, za⟩ := own_fin ha
  obtain ⟨cb, qb, eb, fb, zb⟩ := own_fin hb
  have va : Core.val64 (FP.dmul s a) = Core.roundRatio Core.b64 false (cs * ca) 1 (qs + qa) := by
    rw [show FP.dmul s a = Core.dmul s a from rfl, Core.val64_dmul, es, ea]; rfl
  have vb : Core.val64 (FP.dmul s b) = Core.roundRatio Core.b64 false (cs * cb) 1 (qs + qb) := by
    rw [show FP.dmul s b = Core.dmul s b from rfl, Core.val64_dmul, es, eb]; rfl
  obtain ⟨-, ua1, ua2⟩ := Core.product_units fs fa
  obtain ⟨-, ub1, ub2⟩ := Core.product_units fs fb
  have pa := own_pn_of va
  have pb := own_pn_of vb
  refine ⟨pa, pb, ?_⟩
  have m := own_rmono Core.good_b64 (A := cs * ca) (A' := cs * cb) (e := qs + qa) (e' := qs + qb) (e0 := 2 * Core.b64.qmin) (by rw [Core.qmin_b64]; decide) ua1 ub1 (by rw [ua2, ub2, zs, za, zb]; exact Nat.mul_le_mul_left _ (Core.unitsOf_le_iff.mpr h))
  rw [← va, ← vb, own_pn_zmag pa, own_pn_zmag pb] at m
  exact Core.unitsOf_le_iff.mp m
open Jvm.FP in
theorem own_sum {c d : Nat} {q r : Int} (hx : Core.fits Core.b64 (.fin false c q)) (hy : Core.fits Core.b64 (.fin false d r)) :
    ∃ (n : Nat) (e : Int), Core.round Core.b64 (Core.exactSum (.fin false c q) (.fin false d r)) = Core.roundRatio Core.b64 false n 1 e ∧ Core.b64.qmin ≤ e ∧ Core.inUnits n e Core.b64.qmin = Core.zmag Core.b64 (.fin false c q) + Core.zmag Core.b64 (.fin false d r) := by
  obtain ⟨sg, n, e, h1, h2, h3⟩ := Core.sum_units hx hy
  have sf : ∀ z : Nat, Core.signed false z = (z : Int) := fun z => by simp [Core.signed]
  have hsg : sg = false := by
    have h4 : Core.exactSum (.fin false c q) (.fin false d r) = .fin (Core.sumSign false false (Core.sumUnits false c q false d r (min q r))) (Core.sumUnits false c q false d r (min q r)).natAbs (min q r) := rfl
    rw [h1] at h4
    have h5 := (Core.Datum.fin.inj h4).1
    have h6 : 0 ≤ Core.sumUnits false c q false d r (min q r) := by
      unfold Core.sumUnits
      rw [sf, sf]
      omega
    rw [h5]
    unfold Core.sumSign
    split
    · rfl
    · exact decide_eq_false (by omega)
  subst hsg
  refine ⟨n, e, by rw [h1]; rfl, h2, ?_⟩
  have z1 : Core.zval Core.b64 (.fin false c q) = (Core.zmag Core.b64 (.fin false c q) : Int) := sf _
  have z2 : Core.zval Core.b64 (.fin false d r) = (Core.zmag Core.b64 (.fin false d r) : Int) := sf _
  rw [sf, z1, z2] at h3
  omega
open Jvm.FP in
theorem own_addm {s a b : UInt64} (hs : own_PF s) (ha : own_PF a) (hb : own_PF b) (h : a.toNat ≤ b.toNat) : own_PN (FP.dadd s a) ∧ own_PN (FP.dadd s b) ∧ (FP.dadd s a).toNat ≤ (FP.dadd s b).toNat := by
  obtain ⟨cs, qs, es, fs, zs⟩ := own_fin hs
  obtain ⟨ca, qa, ea, fa, za⟩ := own_fin ha
  obtain ⟨cb, qb, eb, fb, zb⟩ := own_fin hb
  obtain ⟨na, xa, ra, ua1, ua2⟩ := own_sum fs fa
  obtain ⟨nb, xb, rb, ub1, ub2⟩ := own_sum fs fb
  have va : Core.val64 (FP.dadd s a) = Core.roundRatio Core.b64 false na 1 xa := by
    rw [show FP.dadd s a = Core.dadd s a from rfl, Core.val64_dadd, es, ea]; exact ra
  have vb : Core.val64 (FP.dadd s b) = Core.roundRatio Core.b64 false nb 1 xb := by
    rw [show FP.dadd s b = Core.dadd s b from rfl, Core.val64_dadd, es, eb]; exact rb
  have pa := own_pn_of va
  have pb := own_pn_of vb
  refine ⟨pa, pb, ?_⟩
  have m := own_rmono Core.good_b64 (A := na) (A' := nb) (e := xa) (e' := xb) (e0 := Core.b64.qmin) (Int.le_refl _) ua1 ub1 (by rw [ua2, ub2, zs, za, zb]; exact Nat.add_le_add_left (Core.unitsOf_le_iff.mpr h) _)
  rw [← va, ← vb, own_pn_zmag pa, own_pn_zmag pb] at m
  exact Core.unitsOf_le_iff.mp m
open Jvm.FP in
theorem own_i2dm {i j : Int32} (h0 : 0 ≤ i.toInt) (h : i.toInt ≤ j.toInt) : own_PN (FP.i2d i) ∧ own_PN (FP.i2d j) ∧ (FP.i2d i).toNat ≤ (FP.i2d j).toNat := by
  have v : ∀ z : Int32, 0 ≤ z.toInt → Core.val64 (FP.i2d z) = Core.roundRatio Core.b64 false z.toInt.natAbs 1 0 := fun z hz => by
    rw [show FP.i2d z = Core.i2d z from rfl, Core.val64_i2d]
    show Core.roundRatio Core.b64 (decide (z.toInt < 0)) z.toInt.natAbs 1 0 = _
    rw [decide_eq_false (by omega)]
  have va := v i h0
  have vb := v j (by omega)
  have pa := own_pn_of va
  have pb := own_pn_of vb
  refine ⟨pa, pb, ?_⟩
  have m := own_rmono Core.good_b64 (A := i.toInt.natAbs) (A' := j.toInt.natAbs) (e := 0) (e' := 0) (e0 := Core.b64.qmin) (Int.le_refl _) (by rw [Core.qmin_b64]; decide) (by rw [Core.qmin_b64]; decide) (Nat.mul_le_mul_right _ (by omega))
  rw [← va, ← vb, own_pn_zmag pa, own_pn_zmag pb] at m
  exact Core.unitsOf_le_iff.mp m
open Jvm.FP in
theorem own_infm {a : UInt64} (h1 : 0 < a.toNat) (ha : own_PF a) : FP.dmul 9218868437227405312 a = 9218868437227405312 := by
  obtain ⟨c, q, e, -, z⟩ := own_fin ha
  have hc : ¬ c = 0 := fun h => by
    subst h
    have z0 : Core.zmag Core.b64 (.fin false 0 q) = 0 := Nat.zero_mul _
    rw [z0] at z
    have := Core.unitsOf_eq_zero.mp z.symm
    omega
  have vi : Core.val64 9218868437227405312 = .inf false := by decide +kernel
  show UInt64.ofNat (Core.encode Core.b64 (Core.round Core.b64 (Core.exactProduct (Core.val64 9218868437227405312) (Core.val64 a)))) = _
  rw [vi, e]
  show UInt64.ofNat (Core.encode Core.b64 (Core.round Core.b64 (if c = 0 then .nan else .inf (false != false)))) = _
  rw [if_neg hc]
  decide +kernel
theorem own_mulS {s a b : UInt64} (hs : own_PN s) (h1 : 0 < a.toNat) (ha : own_PF a) (hb : own_PF b) (h : a.toNat ≤ b.toNat) : own_PN (FP.dmul s a) ∧ own_PN (FP.dmul s b) ∧ (FP.dmul s a).toNat ≤ (FP.dmul s b).toNat := by
  by_cases q : s.toNat < 9218868437227405312
  · exact own_mulm q ha hb h
  · have e : s = 9218868437227405312 := UInt64.toNat_inj.mp (by unfold own_PN at hs; show s.toNat = 9218868437227405312; omega)
    subst e
    rw [own_infm h1 ha, own_infm (by omega) hb]
    exact ⟨Nat.le_refl _, Nat.le_refl _, Nat.le_refl _⟩
/-- what dcmpl and dcmpg push -/
def own_c (x y : UInt64) : Int32 := if x.toNat < y.toNat then -1 else if x.toNat = y.toNat then 0 else 1
open Jvm.FP in
theorem own_cmp {x y : UInt64} (hx : own_PN x) (hy : own_PN y) (o : CmpOp) : cmpValue (FP.dcmp x y) o = own_c x y := by
  have e : FP.dcmp x y = some (compare (x.toNat : Int) (y.toNat : Int)) := by
    rw [show FP.dcmp x y = Core.dcmp x y from rfl, Core.dcmp_key (own_pn_nan hx) (own_pn_nan hy)]
    have k1 : Core.dkey x = (x.toNat : Int) := if_neg (by unfold own_PN at hx; omega)
    have k2 : Core.dkey y = (y.toNat : Int) := if_neg (by unfold own_PN at hy; omega)
    rw [k1, k2]
  rw [e]
  unfold own_c
  rcases Nat.lt_trichotomy x.toNat y.toNat with q | q | q
  · rw [(Core.compare_lt_iff _ _).mpr (show (x.toNat : Int) < y.toNat by omega), if_pos q]; cases o <;> rfl
  · rw [(Core.compare_eq_iff _ _).mpr (show (x.toNat : Int) = y.toNat by omega), if_neg (by omega), if_pos q]; cases o <;> rfl
  · rw [(Core.compare_gt_iff _ _).mpr (show (y.toNat : Int) < x.toNat by omega), if_neg (by omega), if_neg (by omega)]; cases o <;> rfl
theorem own_cn {x y : UInt64} : own_c x y < (0 : Int32) ↔ x.toNat < y.toNat := by
  unfold own_c
  split
  · rename_i h
    exact ⟨fun _ => h, fun _ => by decide⟩
  · split
    · exact ⟨fun q => absurd q (by decide), fun q => by omega⟩
    · exact ⟨fun q => absurd q (by decide), fun q => by omega⟩
theorem own_cp {x y : UInt64} : (0 : Int32) < own_c x y ↔ y.toNat < x.toNat := by
  unfold own_c
  split
  · exact ⟨fun q => absurd q (by decide), fun q => by omega⟩
  · split
    · exact ⟨fun q => absurd q (by decide), fun q => by omega⟩
    · exact ⟨fun _ => by omega, fun _ => by decide⟩
theorem own_cz {x y : UInt64} : own_c x y = (0 : Int32) ↔ x.toNat = y.toNat := by
  unfold own_c
  split
  · exact ⟨fun q => absurd q (by decide), fun q => by omega⟩
  · split
    · rename_i h
      exact ⟨fun _ => h, fun _ => rfl⟩
    · exact ⟨fun q => absurd q (by decide), fun q => by omega⟩
/-- the sums and products that the program makes -/
def own_X (p : Int32) : UInt64 := FP.dmul (FP.i2d (p + (4 : Int32))) 4377498837804122112
def own_E (k : Int32) : UInt64 := FP.ddiv (FP.i2d k) 4634204016564240384
def own_W (e : UInt64) : UInt64 := FP.dmul 4611686018427387904 e
def own_Y (k : Int32) : UInt64 := own_W (own_E k)
def own_m (x y : UInt64) : UInt64 := FP.dadd x y
def own_t (x y : UInt64) : UInt64 := FP.dmul 4611686018427387904 (own_m x y)
def own_u (x y : UInt64) : UInt64 := FP.dadd 4607182418800017408 (own_t x y)
def own_G (k : Int32) : UInt64 := FP.ddiv (FP.i2d k) 4625196817309499392
def own_F1 (k : Int32) : UInt64 := FP.dadd 4607182418800017408 (own_G k)
def own_F2 (k : Int32) : UInt64 := FP.dadd (own_F1 k) 4562146422526312448
theorem own_mc (x y : UInt64) : own_m x y = FP.dadd y x := FP.Core.dadd_comm x y
theorem own_chain {x1 x x2 y : UInt64} (h1 : x1.toNat ≤ x.toNat) (h2 : x.toNat ≤ x2.toNat) (hx2 : own_PF x2) (hy : own_PF y) (m2 : own_PF (own_m x2 y)) (t2 : own_PF (own_t x2 y)) (u2 : own_PF (own_u x2 y)) :
    own_PF (own_m x y) ∧ own_PF (own_t x y) ∧ own_PF (own_u x y) ∧ (own_m x1 y).toNat ≤ (own_m x y).toNat ∧ (own_m x y).toNat ≤ (own_m x2 y).toNat ∧ (own_u x1 y).toNat ≤ (own_u x y).toNat ∧ (own_u x y).toNat ≤ (own_u x2 y).toNat := by
  have hx : own_PF x := Nat.lt_of_le_of_lt h2 hx2
  have hx1 : own_PF x1 := Nat.lt_of_le_of_lt h1 hx
  obtain ⟨-, -, a1⟩ := own_addm hy hx1 hx h1
  obtain ⟨-, -, a2⟩ := own_addm hy hx hx2 h2
  rw [← own_mc, ← own_mc] at a1 a2
  have hm : own_PF (own_m x y) := Nat.lt_of_le_of_lt a2 m2
  have hm1 : own_PF (own_m x1 y) := Nat.lt_of_le_of_lt a1 hm
  have two : own_PF 4611686018427387904 := by unfold own_PF; decide
  have one : own_PF 4607182418800017408 := by unfold own_PF; decide
  obtain ⟨-, -, b1⟩ := own_mulm two hm1 hm a1
  obtain ⟨-, -, b2⟩ := own_mulm two hm m2 a2
  have ht : own_PF (own_t x y) := Nat.lt_of_le_of_lt b2 t2
  have ht1 : own_PF (own_t x1 y) := Nat.lt_of_le_of_lt b1 ht
  obtain ⟨-, -, d1⟩ := own_addm one ht1 ht b1
  obtain ⟨-, -, d2⟩ := own_addm one ht t2 b2
  exact ⟨hm, ht, Nat.lt_of_le_of_lt d2 u2, a1, a2, d1, d2⟩
theorem own_Xb {p : Int32} (h1 : 1 ≤ p.toInt) (h2 : p.toInt ≤ 1073741824) : (own_X 1).toNat ≤ (own_X p).toNat ∧ (own_X p).toNat ≤ (own_X 1073741824).toNat := by
  have e : (p + (4 : Int32)).toInt = p.toInt + 4 := by
    rw [Int32.toInt_add, show (4 : Int32).toInt = 4 from rfl]
    exact Int.bmod_eq_of_le (by omega) (by omega)
  have e1 : ((1 : Int32) + (4 : Int32)).toInt = 5 := by decide
  have e2 : ((1073741824 : Int32) + (4 : Int32)).toInt = 1073741828 := by decide
  obtain ⟨-, -, a1⟩ := own_i2dm (i := (1 : Int32) + (4 : Int32)) (j := p + (4 : Int32)) (by omega) (by omega)
  obtain ⟨-, -, a2⟩ := own_i2dm (i := p + (4 : Int32)) (j := (1073741824 : Int32) + (4 : Int32)) (by omega) (by omega)
  have top : own_PF (FP.i2d ((1073741824 : Int32) + (4 : Int32))) := by unfold own_PF; decide +kernel
  have mid : own_PF (FP.i2d (p + (4 : Int32))) := Nat.lt_of_le_of_lt a2 top
  have bot : own_PF (FP.i2d ((1 : Int32) + (4 : Int32))) := Nat.lt_of_le_of_lt a1 mid
  have cc : own_PF 4377498837804122112 := by unfold own_PF; decide
  obtain ⟨-, -, b1⟩ := own_mulm cc bot mid a1
  obtain ⟨-, -, b2⟩ := own_mulm cc mid top a2
  have cm : ∀ z : UInt64, FP.dmul z 4377498837804122112 = FP.dmul 4377498837804122112 z := fun z => FP.Core.dmul_comm z _
  refine ⟨?_, ?_⟩
  · show (FP.dmul (FP.i2d ((1 : Int32) + (4 : Int32))) 4377498837804122112).toNat ≤ (FP.dmul (FP.i2d (p + (4 : Int32))) 4377498837804122112).toNat
    rw [cm (FP.i2d ((1 : Int32) + (4 : Int32))), cm (FP.i2d (p + (4 : Int32)))]
    exact b1
  · show (FP.dmul (FP.i2d (p + (4 : Int32))) 4377498837804122112).toNat ≤ (FP.dmul (FP.i2d ((1073741824 : Int32) + (4 : Int32))) 4377498837804122112).toNat
    rw [cm (FP.i2d ((1073741824 : Int32) + (4 : Int32))), cm (FP.i2d (p + (4 : Int32)))]
    exact b2
set_option maxRecDepth 65536 in
theorem own_tab : ∀ n : Fin 16, (own_E (Int32.ofNat n.val)).toNat < 9218868437227405312 ∧ (own_Y (Int32.ofNat n.val)).toNat < 9218868437227405312 ∧ (own_m (own_X 1073741824) (own_Y (Int32.ofNat n.val))).toNat < 9218868437227405312 ∧ (own_t (own_X 1073741824) (own_Y (Int32.ofNat n.val))).toNat < 9218868437227405312 ∧ (own_u (own_X 1073741824) (own_Y (Int32.ofNat n.val))).toNat < 9218868437227405312 := by decide +kernel
set_option maxRecDepth 65536 in
theorem own_tabS : ∀ n : Fin 16, Int32.ofNat n.val < (8 : Int32) → (own_m (own_X 1073741824) (own_Y (Int32.ofNat n.val))).toNat ≤ 4598175219545276416 ∧ 0 < (own_F1 (Int32.ofNat n.val)).toNat ∧ (own_F1 (Int32.ofNat n.val)).toNat ≤ (own_u (own_X 1) (own_Y (Int32.ofNat n.val))).toNat ∧ (own_u (own_X 1073741824) (own_Y (Int32.ofNat n.val))).toNat ≤ (own_F2 (Int32.ofNat n.val)).toNat ∧ (own_G (Int32.ofNat n.val)).toNat < 9218868437227405312 ∧ (own_F2 (Int32.ofNat n.val)).toNat < 9218868437227405312 := by decide +kernel
set_option maxRecDepth 65536 in
theorem own_tabB : ∀ n : Fin 16, ¬ Int32.ofNat n.val < (8 : Int32) → 4598175219545276416 < (own_m (own_X 1) (own_Y (Int32.ofNat n.val))).toNat := by decide +kernel
theorem own_Xtop : own_PF (own_X 1073741824) := by unfold own_PF; decide +kernel
theorem own_f64 {x : UInt64} (h : own_PF x) : Jvm.Free.Fl.Fin64 x := (Jvm.Free.Fl.fin64_iff x).mpr (by unfold own_PF at h; omega)
theorem own_one : own_PF 4607182418800017408 := by unfold own_PF; decide
theorem own_dsub {x : UInt64} (h : own_PF x) : Jvm.Free.Fl.NoNaN64 (FP.dsub 4607182418800017408 x) := Jvm.Free.Fl.dsub_out (own_nn (own_pf own_one)) (own_f64 h)
/-- what above gives, of the scaled sum -/
def own_ab (x : UInt64) : UInt64 := if x.toNat < (288230376151711744 : UInt64).toNat then 288230376151711744 else x
theorem own_abT {x : UInt64} (h : x.toNat < (288230376151711744 : UInt64).toNat) : own_ab x = 288230376151711744 := if_pos h
theorem own_abF {x : UInt64} (h : ¬ x.toNat < (288230376151711744 : UInt64).toNat) : own_ab x = x := if_neg h
theorem own_ab_pn {x : UInt64} (h : own_PN x) : own_PN (own_ab x) := by
  unfold own_ab
  split
  · unfold own_PN; decide
  · exact h
theorem own_ab_ge (x : UInt64) : (288230376151711744 : UInt64).toNat ≤ (own_ab x).toNat := by
  unfold own_ab
  split
  · exact Nat.le_refl _
  · omega
theorem own_ab_low {x y : UInt64} (h : y.toNat ≤ x.toNat) : y.toNat ≤ (own_ab x).toNat := by
  unfold own_ab
  split
  · omega
  · exact h
theorem own_ab_hi {x y : UInt64} (h : x.toNat ≤ y.toNat) (hy : (288230376151711744 : UInt64).toNat < y.toNat) : (own_ab x).toNat ≤ y.toNat := by
  unfold own_ab
  split
  · omega
  · exact h
theorem own_ab_fl {x y : UInt64} (h : x.toNat ≤ y.toNat) (hy : ¬ (288230376151711744 : UInt64).toNat < y.toNat) : (own_ab x).toNat ≤ (288230376151711744 : UInt64).toNat := by
  unfold own_ab
  split
  · exact Nat.le_refl _
  · omega
theorem own_ne_inf {u : UInt64} (h : own_PF u) : ¬ own_c u 9218868437227405312 = (0 : Int32) := fun q => by
  have q1 := own_cz.mp q
  have e : (9218868437227405312 : UInt64).toNat = 9218868437227405312 := rfl
  unfold own_PF at h
  omega
theorem own_qN : (4598175219545276416 : UInt64).toNat = 4598175219545276416 := rfl
theorem own_andn (z : Int32) (n : Nat) (hn : n < 2147483648) : (z &&& Int32.ofNat n).toInt = (z &&& Int32.ofNat n).toBitVec.toNat ∧ (z &&& Int32.ofNat n).toBitVec.toNat ≤ n := by
  have hb : (z &&& Int32.ofNat n).toBitVec.toNat ≤ n := by
    have e : (Int32.ofNat n).toBitVec.toNat = n := by
      show (BitVec.ofNat 32 n).toNat = n
      rw [BitVec.toNat_ofNat]
      omega
    simp only [Int32.toBitVec_and, BitVec.toNat_and, e]
    exact Nat.and_le_right
  refine ⟨?_, hb⟩
  show (z &&& Int32.ofNat n).toBitVec.toInt = _
  rw [BitVec.toInt_eq_toNat_of_lt (by omega)]
theorem own_k16 (z : Int32) : ∃ n : Fin 16, z &&& (15 : Int32) = Int32.ofNat n.val := by
  have h := (own_andn z 15 (by decide)).2
  refine ⟨⟨(z &&& (15 : Int32)).toBitVec.toNat, Nat.lt_of_le_of_lt h (by decide)⟩, ?_⟩
  apply Int32.toBitVec_inj.mp
  show _ = BitVec.ofNat 32 _
  rw [BitVec.ofNat_toNat]; simp
theorem own_p30 (z : Int32) : 1 ≤ ((z &&& (1073741823 : Int32)) + (1 : Int32)).toInt ∧ ((z &&& (1073741823 : Int32)) + (1 : Int32)).toInt ≤ 1073741824 := by
  obtain ⟨h1, h2⟩ := own_andn z 1073741823 (by decide)
  have h1' : (z &&& (1073741823 : Int32)).toInt = (z &&& (1073741823 : Int32)).toBitVec.toNat := h1
  have h2' : (z &&& (1073741823 : Int32)).toBitVec.toNat ≤ 1073741823 := h2
  have e : ((z &&& (1073741823 : Int32)) + (1 : Int32)).toInt = (z &&& (1073741823 : Int32)).toInt + 1 := by
    rw [Int32.toInt_add, show (1 : Int32).toInt = 1 from rfl]
    exact Int.bmod_eq_of_le (by omega) (by omega)
  omega
theorem own_sum0 (z : Int32) : own_PF (FP.i2d (z &&& (2147483647 : Int32))) := by
  obtain ⟨h1, h2⟩ := own_andn z 2147483647 (by decide)
  have h1' : (z &&& (2147483647 : Int32)).toInt = (z &&& (2147483647 : Int32)).toBitVec.toNat := h1
  have h2' : (z &&& (2147483647 : Int32)).toBitVec.toNat ≤ 2147483647 := h2
  have e : (2147483647 : Int32).toInt = 2147483647 := rfl
  obtain ⟨-, -, a⟩ := own_i2dm (i := z &&& (2147483647 : Int32)) (j := 2147483647) (by omega) (by omega)
  exact Nat.lt_of_le_of_lt a (by decide +kernel)
theorem own_sum1 (z : Int32) : own_PN (FP.dmul (FP.i2d (z &&& (2147483647 : Int32))) 148618787703226368) :=
  (own_mulm (own_sum0 z) (a := 148618787703226368) (b := 148618787703226368) (by unfold own_PF; decide) (by unfold own_PF; decide) (Nat.le_refl _)).1
theorem own_pn0 : own_PN 0 := by unfold own_PN; decide
theorem own_pnI : own_PN 9218868437227405312 := by unfold own_PN; decide
theorem own_pnF : own_PN 288230376151711744 := by unfold own_PN; decide
theorem own_pnQ : own_PN 4598175219545276416 := by unfold own_PN; decide
/-- all that the law wants of its numbers, where the error is small -/
theorem own_small {p k : Int32} {n : Fin 16} (hp : 1 ≤ p.toInt ∧ p.toInt ≤ 1073741824) (hn : k = Int32.ofNat n.val) (h8 : k < (8 : Int32)) :
    ¬ (4598175219545276416 : UInt64).toNat < (own_m (own_X p) (own_Y k)).toNat ∧ own_PF (own_G k) ∧ own_PF (own_F1 k) ∧ own_PF (own_F2 k) ∧ 0 < (own_F1 k).toNat ∧ (own_F1 k).toNat ≤ (own_u (own_X p) (own_Y k)).toNat ∧ (own_u (own_X p) (own_Y k)).toNat ≤ (own_F2 k).toNat := by
  subst hn
  obtain ⟨x1, x2⟩ := own_Xb hp.1 hp.2
  obtain ⟨-, t1, t2, t3, t4⟩ := own_tab n
  obtain ⟨s1, s2, s3, s4, s5, s6⟩ := own_tabS n h8
  obtain ⟨-, -, c3, c4, c5, c6, c7⟩ := own_chain x1 x2 own_Xtop t1 t2 t3 t4
  have q : (own_F1 (Int32.ofNat n.val)).toNat ≤ (own_F2 (Int32.ofNat n.val)).toNat := by omega
  exact ⟨by rw [own_qN]; omega, s5, Nat.lt_of_le_of_lt q s6, s6, s2, by omega, by omega⟩
theorem own_big {p k : Int32} {n : Fin 16} (hp : 1 ≤ p.toInt ∧ p.toInt ≤ 1073741824) (hn : k = Int32.ofNat n.val) (h8 : ¬ k < (8 : Int32)) : (4598175219545276416 : UInt64).toNat < (own_m (own_X p) (own_Y k)).toNat := by
  subst hn
  obtain ⟨x1, x2⟩ := own_Xb hp.1 hp.2
  obtain ⟨-, t1, t2, t3, t4⟩ := own_tab n
  have b := own_tabB n h8
  obtain ⟨-, -, c3, c4, c5, c6, c7⟩ := own_chain x1 x2 own_Xtop t1 t2 t3 t4
  rw [own_qN]
  omega
theorem own_all {p k : Int32} {n : Fin 16} (hp : 1 ≤ p.toInt ∧ p.toInt ≤ 1073741824) (hn : k = Int32.ofNat n.val) :
    own_PF (own_E k) ∧ own_PF (own_X p) ∧ own_PF (own_Y k) ∧ own_PF (own_m (own_X p) (own_Y k)) ∧ own_PF (own_t (own_X p) (own_Y k)) ∧ own_PF (own_u (own_X p) (own_Y k)) := by
  subst hn
  obtain ⟨x1, x2⟩ := own_Xb hp.1 hp.2
  obtain ⟨t0, t1, t2, t3, t4⟩ := own_tab n
  obtain ⟨c1, c2, c3, -, -, -, -⟩ := own_chain x1 x2 own_Xtop t1 t2 t3 t4
  exact ⟨t0, Nat.lt_of_le_of_lt x2 own_Xtop, t1, c1, c2, c3⟩
section OwnD
variable {p : Program} {l : Launch} {e : Env} {R : Room} {s : State} {m : MethodId} {args : Array Value} {below : List Frame} {meth : Method} {c : Code} {T : State} {locs : List Loc} {cells slots kc ks : Nat} {Q : Option Value → Heap → List Loc → Prop}
theorem own_retD (X : Stand p l e R s m args below meth c T locs cells slots) (hx : p.tables.exec = Jvm.exec) (hlk : meth.locks = false) {pc : Nat} {Ls : Array Slot} {z : UInt64} {rest : List Value} (hret : meth.sig.returnType = some .double) (hd : decode c.code pc = .ok (.dreturn, 1)) (hc : cells ≤ kc) (hs : slots ≤ ks)
    (hQ : Q (some (.double z)) T.heap locs) : own_Fin p e below s kc ks Q (T.setTop (mkF m pc Ls (.double z :: rest))) := by
  obtain ⟨fs, hr, hrun, hended, hW, hsame⟩ := X.leave (v := some (.double z)) (fun h => by rw [hret] at h; cases h) hlk
  exact ⟨_, _, retOut X hx hret rfl (Or.inr (Or.inr (Or.inl ⟨rfl, rfl, z, rfl⟩))) hd hr, hrun, hended, _, _, rfl, hQ, ⟨_, rfl⟩, hW, hsame.mono hc hs⟩
end OwnD
theorem d1_0 : decode prog_67_method_1_code 0 = .ok (.aload_n 0, 1) := by decide +kernel
theorem d1_1 : decode prog_67_method_1_code 1 = .ok (.invokespecial 1, 3) := by decide +kernel
theorem d1_4 : decode prog_67_method_1_code 4 = .ok (.iload_n 1, 1) := by decide +kernel
theorem d1_5 : decode prog_67_method_1_code 5 = .ok (.iconst 4, 1) := by decide +kernel
theorem d1_6 : decode prog_67_method_1_code 6 = .ok (.iadd, 1) := by decide +kernel
theorem d1_7 : decode prog_67_method_1_code 7 = .ok (.i2d, 1) := by decide +kernel
theorem d1_8 : decode prog_67_method_1_code 8 = .ok (.ldc2_w 7, 3) := by decide +kernel
theorem d1_11 : decode prog_67_method_1_code 11 = .ok (.dmul, 1) := by decide +kernel
theorem d1_12 : decode prog_67_method_1_code 12 = .ok (.ldc2_w 9, 3) := by decide +kernel
theorem d1_15 : decode prog_67_method_1_code 15 = .ok (.dload_n 2, 1) := by decide +kernel
theorem d1_16 : decode prog_67_method_1_code 16 = .ok (.dmul, 1) := by decide +kernel
theorem d1_17 : decode prog_67_method_1_code 17 = .ok (.dadd, 1) := by decide +kernel
theorem d1_18 : decode prog_67_method_1_code 18 = .ok (.dstore 4, 2) := by decide +kernel
theorem d1_20 : decode prog_67_method_1_code 20 = .ok (.aload_n 0, 1) := by decide +kernel
theorem d1_21 : decode prog_67_method_1_code 21 = .ok (.dload 4, 2) := by decide +kernel
theorem d1_23 : decode prog_67_method_1_code 23 = .ok (.dconst 1, 1) := by decide +kernel
theorem d1_24 : decode prog_67_method_1_code 24 = .ok (.dcmp .g, 1) := by decide +kernel
theorem d1_25 : decode prog_67_method_1_code 25 = .ok (.ifCond .ge 10, 3) := by decide +kernel
theorem d1_28 : decode prog_67_method_1_code 28 = .ok (.dconst 1, 1) := by decide +kernel
theorem d1_29 : decode prog_67_method_1_code 29 = .ok (.dload 4, 2) := by decide +kernel
theorem d1_31 : decode prog_67_method_1_code 31 = .ok (.dsub, 1) := by decide +kernel
theorem d1_32 : decode prog_67_method_1_code 32 = .ok (.goto 4, 3) := by decide +kernel
theorem d1_35 : decode prog_67_method_1_code 35 = .ok (.dconst 0, 1) := by decide +kernel
theorem d1_36 : decode prog_67_method_1_code 36 = .ok (.putfield 11, 3) := by decide +kernel
theorem d1_39 : decode prog_67_method_1_code 39 = .ok (.aload_n 0, 1) := by decide +kernel
theorem d1_40 : decode prog_67_method_1_code 40 = .ok (.dload 4, 2) := by decide +kernel
theorem d1_42 : decode prog_67_method_1_code 42 = .ok (.ldc2_w 17, 3) := by decide +kernel
theorem d1_45 : decode prog_67_method_1_code 45 = .ok (.dcmp .g, 1) := by decide +kernel
theorem d1_46 : decode prog_67_method_1_code 46 = .ok (.ifCond .gt 14, 3) := by decide +kernel
theorem d1_49 : decode prog_67_method_1_code 49 = .ok (.dconst 1, 1) := by decide +kernel
theorem d1_50 : decode prog_67_method_1_code 50 = .ok (.ldc2_w 9, 3) := by decide +kernel
theorem d1_53 : decode prog_67_method_1_code 53 = .ok (.dload 4, 2) := by decide +kernel
theorem d1_55 : decode prog_67_method_1_code 55 = .ok (.dmul, 1) := by decide +kernel
theorem d1_56 : decode prog_67_method_1_code 56 = .ok (.dadd, 1) := by decide +kernel
theorem d1_57 : decode prog_67_method_1_code 57 = .ok (.goto 6, 3) := by decide +kernel
theorem d1_63 : decode prog_67_method_1_code 63 = .ok (.putfield 23, 3) := by decide +kernel
theorem d1_66 : decode prog_67_method_1_code 66 = .ok (.return_, 1) := by decide +kernel
theorem pn_1 : plainName "com/example/lone1/lone1/math/SumBounds" = true := by first | (simp [plainName, overriddenIn]; done) | decide +kernel
theorem ef_1 (m : MethodId) (x0 : Addr) (x1 : Int32) (x2 : UInt64) : entryFrame m #[(.ref x0), (.int x1), (.double x2)] 6 = mkF m 0 #[.val (.ref x0), .val (.int x1), .val (.double x2), .second, .unset, .unset] [] := by first | (simp [entryFrame, mkF, argsToLocals, Value.category]; done) | rfl
def Q1_s (Z : State) (o0 : Addr) (p1 : Int32) (er : UInt64) (h0 : Heap) (n0 : Nat) (v : Option Value) (h : Heap) (L : List Loc) : Prop := v = none ∧ Fr n0 L ∧ Keep h0 h [o0] ∧ Exa Z h o0 "com/example/lone1/lone1/math/SumBounds" ∧ Fld Z h o0 "com/example/lone1/lone1/math/SumBounds" "up" "D" (.double (own_u (own_X p1) (own_W er)))
set_option maxRecDepth 65536 in
set_option maxHeartbeats 40000000 in
theorem rm1_s (l : Launch) (Z : State) (a0 : Array Value) (hw : ∀ d ∈ tables_1, d.before a0 Z = true) (ws : List Jvm.Cond) (o0 : Addr) (p1 : Int32) (er : UInt64) (h0 : Heap) (n0 : Nat) (Z0 : n0 ≤ h0.size) (E_o0 : Exa Z h0 o0 "com/example/lone1/lone1/math/SumBounds") (F_d : Fld Z h0 o0 "com/example/lone1/lone1/math/SumBounds" "down" "D" (.double (0 : UInt64))) (F_u : Fld Z h0 o0 "com/example/lone1/lone1/math/SumBounds" "up" "D" (.double (0 : UInt64))) (g_o0 : n0 ≤ o0) (pX : own_PN (own_X p1)) (pW : own_PN (own_W er)) (pM : own_PF (own_m (own_X p1) (own_W er))) (hq : ¬ (4598175219545276416 : UInt64).toNat < (own_m (own_X p1) (own_W er)).toNat) (pT : own_PN (own_t (own_X p1) (own_W er))) (pU : own_PN (own_u (own_X p1) (own_W er))) :
    MetFree l (⟨"com/example/lone1/lone1/math/SumBounds", "<init>", "(ID)V"⟩ : MethodName) (head1 (Jvm.Cond.code (⟨"com/example/lone1/lone1/math/SumBounds", "<init>", "(ID)V"⟩ : MethodName) prog_67_method_1_code 6 none :: ws) ({ frames := 1, cells := 0, slots := 0, locals := 12 } : Room)) (fun a U => a = #[(.ref o0), (.int p1), (.double er)] ∧ Z.Warmed39 U.vm ∧ U.heap = h0) (fun _ _ _ _ _ => True) (fun _ U o U' => ∃ v L, o = .returned v ∧ Q1_s Z o0 p1 er h0 n0 v U'.heap L ∧ FrameEnd U o U' L ({ frames := 1, cells := 0, slots := 0, locals := 12 } : Room).cells ({ frames := 1, cells := 0, slots := 0, locals := 12 } : Room).slots) := by
  refine MetFree.of_bodySF (plainFor_of_name pn_1) hisR ?_
  intro p e s m args below meth c s₁ Bd hml0 hP hK
  obtain ⟨rfl, hZ, hh⟩ := hP
  have hx := Bd.exec
  have hby := Bd.bytes
  have hml : c.maxLocals = 6 := hml0
  have hown : s.vm.findClass "com/example/lone1/lone1/math/SumBounds" = some m.cls := findClass_of_methodNamed Bd.named
  have hnm := (name_of_methodNamed Bd.named Bd.method).1
  have X0 : Stand p l e ({ frames := 1, cells := 0, slots := 0, locals := 12 } : Room) s m #[(.ref o0), (.int p1), (.double er)] below meth c s₁ [] 0 0 := Stand.of_body Bd
  have e0 : s₁.heap = h0 := by rw [← hh, Bd.state]; rfl
  have N0 := Fr.nil n0
  obtain ⟨F, hF⟩ : ∃ F : State → Prop, F = own_Fin p e below s ({ frames := 1, cells := 0, slots := 0, locals := 12 } : Room).cells ({ frames := 1, cells := 0, slots := 0, locals := 12 } : Room).slots (fun v h L => Q1_s Z o0 p1 er h0 n0 v h L) := ⟨_, rfl⟩
  have bk : ∀ {A B : State}, (∀ t, Steps p.tables e below B t → Steps p.tables e below A t) → F B → F A := by
    intro A B h k
    rw [hF] at k ⊢
    exact own_back h k
  suffices hgo : F (s₁.setTop (mkF m 0 #[.val (.ref o0), .val (.int p1), .val (.double er), .second, .unset, .unset] [])) by
    have hgo' := bk (fun t k => castTop (T := s₁) (ef_1 m o0 p1 er) k) hgo
    rw [hF] at hgo'
    exact hgo'
  refine bk (fun t k => XS.aloadN X0.here hx rfl (hb hby d1_0) rfl rfl k) ?_
  show F (s₁.setTop (mkF m 1 #[.val (.ref o0), .val (.int p1), .val (.double er), .second, .unset, .unset] [(.ref o0)]))
  obtain ⟨T1, X1, e1, st1⟩ := initO X0 hx hZ hown (hw _ (List.mem_of_getElem? (i := 8) rfl)) (hw _ (List.mem_of_getElem? (i := 9) rfl)) (hw _ (List.mem_of_getElem? (i := 10) rfl)) e0 (g := (mkF m 1 #[.val (.ref o0), .val (.int p1), .val (.double er), .second, .unset, .unset] [(.ref o0)])) rfl (by rw [hml]; rfl) rfl (hb hby d1_1) (by decide) (W := 0) (by show 2 * 0 + _ ≤ _; exact Nat.le_of_eq rfl) (by decide)
  refine bk (fun t k => st1 t k) ?_
  refine bk (fun t k => XS.iloadN X1.here hx rfl (hb hby d1_4) rfl k) ?_
  refine bk (fun t k => XS.iconst X1.here hx rfl (hb hby d1_5) k) ?_
  show F (T1.setTop (mkF m 6 #[.val (.ref o0), .val (.int p1), .val (.double er), .second, .unset, .unset] [(.int (4 : Int32)), (.int p1)]))
  refine bk (fun t k => XS.iadd X1.here hx rfl (hb hby d1_6) rfl k) ?_
  show F (T1.setTop (mkF m 7 #[.val (.ref o0), .val (.int p1), .val (.double er), .second, .unset, .unset] [(.int (p1 + (4 : Int32)))]))
  refine bk (fun t k => XS.i2dS X1.here hx rfl (hb hby d1_7) rfl (v := (FP.i2d (p1 + (4 : Int32)))) rfl k) ?_
  show F (T1.setTop (mkF m 8 #[.val (.ref o0), .val (.int p1), .val (.double er), .second, .unset, .unset] [(.double (FP.i2d (p1 + (4 : Int32))))]))
  refine bk (fun t k => X1.ldc2DoubleC hx hown (mvT hZ (hw _ (List.mem_of_getElem? (i := 11) rfl))) (g := (mkF m 8 #[.val (.ref o0), .val (.int p1), .val (.double er), .second, .unset, .unset] [(.double (FP.i2d (p1 + (4 : Int32))))])) rfl (hb hby d1_8) t k) ?_
  show F (T1.setTop (mkF m 11 #[.val (.ref o0), .val (.int p1), .val (.double er), .second, .unset, .unset] [(.double (4377498837804122112 : UInt64)), (.double (FP.i2d (p1 + (4 : Int32))))]))
  refine bk (fun t k => XS.dmulS X1.here hx rfl (hb hby d1_11) rfl (own_nn pX) (v := (own_X p1)) rfl k) ?_
  show F (T1.setTop (mkF m 12 #[.val (.ref o0), .val (.int p1), .val (.double er), .second, .unset, .unset] [(.double (own_X p1))]))
  refine bk (fun t k => X1.ldc2DoubleC hx hown (mvT hZ (hw _ (List.mem_of_getElem? (i := 12) rfl))) (g := (mkF m 12 #[.val (.ref o0), .val (.int p1), .val (.double er), .second, .unset, .unset] [(.double (own_X p1))])) rfl (hb hby d1_12) t k) ?_
  show F (T1.setTop (mkF m 15 #[.val (.ref o0), .val (.int p1), .val (.double er), .second, .unset, .unset] [(.double (4611686018427387904 : UInt64)), (.double (own_X p1))]))
  refine bk (fun t k => XS.dloadN X1.here hx rfl (hb hby d1_15) rfl k) ?_
  show F (T1.setTop (mkF m 16 #[.val (.ref o0), .val (.int p1), .val (.double er), .second, .unset, .unset] [(.double er), (.double (4611686018427387904 : UInt64)), (.double (own_X p1))]))
  refine bk (fun t k => XS.dmulS X1.here hx rfl (hb hby d1_16) rfl (own_nn pW) (v := (own_W er)) rfl k) ?_
  show F (T1.setTop (mkF m 17 #[.val (.ref o0), .val (.int p1), .val (.double er), .second, .unset, .unset] [(.double (own_W er)), (.double (own_X p1))]))
  refine bk (fun t k => XS.daddS X1.here hx rfl (hb hby d1_17) rfl (own_nn (own_pf pM)) (v := (own_m (own_X p1) (own_W er))) rfl k) ?_
  show F (T1.setTop (mkF m 18 #[.val (.ref o0), .val (.int p1), .val (.double er), .second, .unset, .unset] [(.double (own_m (own_X p1) (own_W er)))]))
  refine bk (fun t k => XS.dstore X1.here hx rfl (hb hby d1_18) rfl (l' := #[.val (.ref o0), .val (.int p1), .val (.double er), .second, .val (.double (own_m (own_X p1) (own_W er))), .second]) rfl k) ?_
  refine bk (fun t k => XS.aloadN X1.here hx rfl (hb hby d1_20) rfl rfl k) ?_
  show F (T1.setTop (mkF m 21 #[.val (.ref o0), .val (.int p1), .val (.double er), .second, .val (.double (own_m (own_X p1) (own_W er))), .second] [(.ref o0)]))
  refine bk (fun t k => XS.dload X1.here hx rfl (hb hby d1_21) rfl k) ?_
  show F (T1.setTop (mkF m 23 #[.val (.ref o0), .val (.int p1), .val (.double er), .second, .val (.double (own_m (own_X p1) (own_W er))), .second] [(.double (own_m (own_X p1) (own_W er))), (.ref o0)]))
  refine bk (fun t k => XS.dconst1 X1.here hx rfl (hb hby d1_23) (v := (4607182418800017408 : UInt64)) rfl k) ?_
  show F (T1.setTop (mkF m 24 #[.val (.ref o0), .val (.int p1), .val (.double er), .second, .val (.double (own_m (own_X p1) (own_W er))), .second] [(.double (4607182418800017408 : UInt64)), (.double (own_m (own_X p1) (own_W er))), (.ref o0)]))
  refine bk (fun t k => XS.dcmpS X1.here hx rfl (hb hby d1_24) rfl (v := (own_c (own_m (own_X p1) (own_W er)) (4607182418800017408 : UInt64))) (own_cmp (own_pf pM) (own_pf own_one) _) k) ?_
  show F (T1.setTop (mkF m 25 #[.val (.ref o0), .val (.int p1), .val (.double er), .second, .val (.double (own_m (own_X p1) (own_W er))), .second] [(.int (own_c (own_m (own_X p1) (own_W er)) (4607182418800017408 : UInt64))), (.ref o0)]))
  by_cases hc25_2 : (own_c (own_m (own_X p1) (own_W er)) (4607182418800017408 : UInt64)) < (0 : Int32)
  · refine bk (fun t k => XS.ifNo X1.here hx rfl (hb hby d1_25) rfl ((if0 _ _).trans (tlt hc25_2).2.1) k) ?_
    show F (T1.setTop (mkF m 28 #[.val (.ref o0), .val (.int p1), .val (.double er), .second, .val (.double (own_m (own_X p1) (own_W er))), .second] [(.ref o0)]))
    refine bk (fun t k => XS.dconst1 X1.here hx rfl (hb hby d1_28) (v := (4607182418800017408 : UInt64)) rfl k) ?_
    show F (T1.setTop (mkF m 29 #[.val (.ref o0), .val (.int p1), .val (.double er), .second, .val (.double (own_m (own_X p1) (own_W er))), .second] [(.double (4607182418800017408 : UInt64)), (.ref o0)]))
    refine bk (fun t k => XS.dload X1.here hx rfl (hb hby d1_29) rfl k) ?_
    show F (T1.setTop (mkF m 31 #[.val (.ref o0), .val (.int p1), .val (.double er), .second, .val (.double (own_m (own_X p1) (own_W er))), .second] [(.double (own_m (own_X p1) (own_W er))), (.double (4607182418800017408 : UInt64)), (.ref o0)]))
    refine bk (fun t k => XS.dsubS X1.here hx rfl (hb hby d1_31) rfl (own_dsub pM) (v := (FP.dsub (4607182418800017408 : UInt64) (own_m (own_X p1) (own_W er)))) rfl k) ?_
    refine bk (fun t k => XS.goto X1.here hx rfl (pc0 := 32) (pc' := 36) rfl (hb hby d1_32) (by decide) (by decide) k) ?_
    show F (T1.setTop (mkF m 36 #[.val (.ref o0), .val (.int p1), .val (.double er), .second, .val (.double (own_m (own_X p1) (own_W er))), .second] [(.double (FP.dsub (4607182418800017408 : UInt64) (own_m (own_X p1) (own_W er)))), (.ref o0)]))
    obtain ⟨T3, h3, X3, e3, W3, st3⟩ := putF X1 hx hZ hown (host := "") (Or.inl (hw _ (List.mem_of_getElem? (i := 13) rfl))) Via.refl e1 F_d E_o0 (Or.inr ⟨(hw _ (List.mem_of_getElem? (i := 14) rfl)), rfl, hnm⟩) (hw _ (List.mem_of_getElem? (i := 3) rfl)) (ty := .double) (by decide) rfl rfl (g := (mkF m 36 #[.val (.ref o0), .val (.int p1), .val (.double er), .second, .val (.double (own_m (own_X p1) (own_W er))), .second] [(.double (FP.dsub (4607182418800017408 : UInt64) (own_m (own_X p1) (own_W er)))), (.ref o0)])) rfl rfl (hb hby d1_36)
    have f4 := E_o0.wr W3
    have f5 := F_d.same W3
    have f6 := F_u.other W3 (Or.inr (slot_ne (Or.inr (hw _ (List.mem_of_getElem? (i := 17) rfl))) (Or.inr (hw _ (List.mem_of_getElem? (i := 14) rfl))) (by decide) (t := .double) (t' := .double) (by decide) (by decide)))
    have f7 := Nat.le_trans Z0 (Keep.of_wr W3).1
    have f8 := (Keep.refl h0 [o0]).wr W3 (Or.inl (List.mem_of_getElem? (i := 0) rfl))
    have N3 := Fr.snoc X3 N0 g_o0
    refine bk (fun t k => st3 t k) ?_
    refine bk (fun t k => XS.aloadN X3.here hx rfl (hb hby d1_39) rfl rfl k) ?_
    show F (T3.setTop (mkF m 40 #[.val (.ref o0), .val (.int p1), .val (.double er), .second, .val (.double (own_m (own_X p1) (own_W er))), .second] [(.ref o0)]))
    refine bk (fun t k => XS.dload X3.here hx rfl (hb hby d1_40) rfl k) ?_
    show F (T3.setTop (mkF m 42 #[.val (.ref o0), .val (.int p1), .val (.double er), .second, .val (.double (own_m (own_X p1) (own_W er))), .second] [(.double (own_m (own_X p1) (own_W er))), (.ref o0)]))
    refine bk (fun t k => X3.ldc2DoubleC hx hown (mvT hZ (hw _ (List.mem_of_getElem? (i := 15) rfl))) (g := (mkF m 42 #[.val (.ref o0), .val (.int p1), .val (.double er), .second, .val (.double (own_m (own_X p1) (own_W er))), .second] [(.double (own_m (own_X p1) (own_W er))), (.ref o0)])) rfl (hb hby d1_42) t k) ?_
    show F (T3.setTop (mkF m 45 #[.val (.ref o0), .val (.int p1), .val (.double er), .second, .val (.double (own_m (own_X p1) (own_W er))), .second] [(.double (4598175219545276416 : UInt64)), (.double (own_m (own_X p1) (own_W er))), (.ref o0)]))
    refine bk (fun t k => XS.dcmpS X3.here hx rfl (hb hby d1_45) rfl (v := (own_c (own_m (own_X p1) (own_W er)) (4598175219545276416 : UInt64))) (own_cmp (own_pf pM) own_pnQ _) k) ?_
    show F (T3.setTop (mkF m 46 #[.val (.ref o0), .val (.int p1), .val (.double er), .second, .val (.double (own_m (own_X p1) (own_W er))), .second] [(.int (own_c (own_m (own_X p1) (own_W er)) (4598175219545276416 : UInt64))), (.ref o0)]))
    refine bk (fun t k => XS.ifNo X3.here hx rfl (hb hby d1_46) rfl ((if0 _ _).trans (flt (fun q => hq (own_cp.mp q))).2.2.1) k) ?_
    show F (T3.setTop (mkF m 49 #[.val (.ref o0), .val (.int p1), .val (.double er), .second, .val (.double (own_m (own_X p1) (own_W er))), .second] [(.ref o0)]))
    refine bk (fun t k => XS.dconst1 X3.here hx rfl (hb hby d1_49) (v := (4607182418800017408 : UInt64)) rfl k) ?_
    show F (T3.setTop (mkF m 50 #[.val (.ref o0), .val (.int p1), .val (.double er), .second, .val (.double (own_m (own_X p1) (own_W er))), .second] [(.double (4607182418800017408 : UInt64)), (.ref o0)]))
    refine bk (fun t k => X3.ldc2DoubleC hx hown (mvT hZ (hw _ (List.mem_of_getElem? (i := 12) rfl))) (g := (mkF m 50 #[.val (.ref o0), .val (.int p1), .val (.double er), .second, .val (.double (own_m (own_X p1) (own_W er))), .second] [(.double (4607182418800017408 : UInt64)), (.ref o0)])) rfl (hb hby d1_50) t k) ?_
    show F (T3.setTop (mkF m 53 #[.val (.ref o0), .val (.int p1), .val (.double er), .second, .val (.double (own_m (own_X p1) (own_W er))), .second] [(.double (4611686018427387904 : UInt64)), (.double (4607182418800017408 : UInt64)), (.ref o0)]))
    refine bk (fun t k => XS.dload X3.here hx rfl (hb hby d1_53) rfl k) ?_
    show F (T3.setTop (mkF m 55 #[.val (.ref o0), .val (.int p1), .val (.double er), .second, .val (.double (own_m (own_X p1) (own_W er))), .second] [(.double (own_m (own_X p1) (own_W er))), (.double (4611686018427387904 : UInt64)), (.double (4607182418800017408 : UInt64)), (.ref o0)]))
    refine bk (fun t k => XS.dmulS X3.here hx rfl (hb hby d1_55) rfl (own_nn pT) (v := (own_t (own_X p1) (own_W er))) rfl k) ?_
    show F (T3.setTop (mkF m 56 #[.val (.ref o0), .val (.int p1), .val (.double er), .second, .val (.double (own_m (own_X p1) (own_W er))), .second] [(.double (own_t (own_X p1) (own_W er))), (.double (4607182418800017408 : UInt64)), (.ref o0)]))
    refine bk (fun t k => XS.daddS X3.here hx rfl (hb hby d1_56) rfl (own_nn pU) (v := (own_u (own_X p1) (own_W er))) rfl k) ?_
    refine bk (fun t k => XS.goto X3.here hx rfl (pc0 := 57) (pc' := 63) rfl (hb hby d1_57) (by decide) (by decide) k) ?_
    show F (T3.setTop (mkF m 63 #[.val (.ref o0), .val (.int p1), .val (.double er), .second, .val (.double (own_m (own_X p1) (own_W er))), .second] [(.double (own_u (own_X p1) (own_W er))), (.ref o0)]))
    obtain ⟨T9, h9, X9, e9, W9, st9⟩ := putF X3 hx hZ hown (host := "") (Or.inl (hw _ (List.mem_of_getElem? (i := 16) rfl))) Via.refl e3 f6 f4 (Or.inr ⟨(hw _ (List.mem_of_getElem? (i := 17) rfl)), rfl, hnm⟩) (hw _ (List.mem_of_getElem? (i := 3) rfl)) (ty := .double) (by decide) rfl rfl (g := (mkF m 63 #[.val (.ref o0), .val (.int p1), .val (.double er), .second, .val (.double (own_m (own_X p1) (own_W er))), .second] [(.double (own_u (own_X p1) (own_W er))), (.ref o0)])) rfl rfl (hb hby d1_63)
    have f10 := f4.wr W9
    have f11 := f5.other W9 (Or.inr (slot_ne (Or.inr (hw _ (List.mem_of_getElem? (i := 14) rfl))) (Or.inr (hw _ (List.mem_of_getElem? (i := 17) rfl))) (by decide) (t := .double) (t' := .double) (by decide) (by decide)))
    have f12 := f6.same W9
    have f13 := Nat.le_trans f7 (Keep.of_wr W9).1
    have f14 := f8.wr W9 (Or.inl (List.mem_of_getElem? (i := 0) rfl))
    have N9 := Fr.snoc X9 N3 g_o0
    refine bk (fun t k => st9 t k) ?_
    show F (T9.setTop (mkF m 66 #[.val (.ref o0), .val (.int p1), .val (.double er), .second, .val (.double (own_m (own_X p1) (own_W er))), .second] []))
    rw [hF]
    refine own_ret0 X9 hx Bd.notSynchronized Bd.returns (hb hby d1_66) (by decide) (by decide) ?_
    rw [e9]
    exact ⟨rfl, N9, f14, f10, f12⟩
  · refine bk (fun t k => XS.ifYes X1.here hx rfl (pc0 := 25) (pc' := 35) rfl (hb hby d1_25) rfl ((if0 _ _).trans (flt hc25_2).2.1) (by decide) (by decide) k) ?_
    show F (T1.setTop (mkF m 35 #[.val (.ref o0), .val (.int p1), .val (.double er), .second, .val (.double (own_m (own_X p1) (own_W er))), .second] [(.ref o0)]))
    refine bk (fun t k => XS.dconst0 X1.here hx rfl (hb hby d1_35) (v := (0 : UInt64)) rfl k) ?_
    show F (T1.setTop (mkF m 36 #[.val (.ref o0), .val (.int p1), .val (.double er), .second, .val (.double (own_m (own_X p1) (own_W er))), .second] [(.double (0 : UInt64)), (.ref o0)]))
    obtain ⟨T15, h15, X15, e15, W15, st15⟩ := putF X1 hx hZ hown (host := "") (Or.inl (hw _ (List.mem_of_getElem? (i := 13) rfl))) Via.refl e1 F_d E_o0 (Or.inr ⟨(hw _ (List.mem_of_getElem? (i := 14) rfl)), rfl, hnm⟩) (hw _ (List.mem_of_getElem? (i := 3) rfl)) (ty := .double) (by decide) rfl rfl (g := (mkF m 36 #[.val (.ref o0), .val (.int p1), .val (.double er), .second, .val (.double (own_m (own_X p1) (own_W er))), .second] [(.double (0 : UInt64)), (.ref o0)])) rfl rfl (hb hby d1_36)
    have f16 := E_o0.wr W15
    have f17 := F_d.same W15
    have f18 := F_u.other W15 (Or.inr (slot_ne (Or.inr (hw _ (List.mem_of_getElem? (i := 17) rfl))) (Or.inr (hw _ (List.mem_of_getElem? (i := 14) rfl))) (by decide) (t := .double) (t' := .double) (by decide) (by decide)))
    have f19 := Nat.le_trans Z0 (Keep.of_wr W15).1
    have f20 := (Keep.refl h0 [o0]).wr W15 (Or.inl (List.mem_of_getElem? (i := 0) rfl))
    have N15 := Fr.snoc X15 N0 g_o0
    refine bk (fun t k => st15 t k) ?_
    refine bk (fun t k => XS.aloadN X15.here hx rfl (hb hby d1_39) rfl rfl k) ?_
    show F (T15.setTop (mkF m 40 #[.val (.ref o0), .val (.int p1), .val (.double er), .second, .val (.double (own_m (own_X p1) (own_W er))), .second] [(.ref o0)]))
    refine bk (fun t k => XS.dload X15.here hx rfl (hb hby d1_40) rfl k) ?_
    show F (T15.setTop (mkF m 42 #[.val (.ref o0), .val (.int p1), .val (.double er), .second, .val (.double (own_m (own_X p1) (own_W er))), .second] [(.double (own_m (own_X p1) (own_W er))), (.ref o0)]))
    refine bk (fun t k => X15.ldc2DoubleC hx hown (mvT hZ (hw _ (List.mem_of_getElem? (i := 15) rfl))) (g := (mkF m 42 #[.val (.ref o0), .val (.int p1), .val (.double er), .second, .val (.double (own_m (own_X p1) (own_W er))), .second] [(.double (own_m (own_X p1) (own_W er))), (.ref o0)])) rfl (hb hby d1_42) t k) ?_
    show F (T15.setTop (mkF m 45 #[.val (.ref o0), .val (.int p1), .val (.double er), .second, .val (.double (own_m (own_X p1) (own_W er))), .second] [(.double (4598175219545276416 : UInt64)), (.double (own_m (own_X p1) (own_W er))), (.ref o0)]))
    refine bk (fun t k => XS.dcmpS X15.here hx rfl (hb hby d1_45) rfl (v := (own_c (own_m (own_X p1) (own_W er)) (4598175219545276416 : UInt64))) (own_cmp (own_pf pM) own_pnQ _) k) ?_
    show F (T15.setTop (mkF m 46 #[.val (.ref o0), .val (.int p1), .val (.double er), .second, .val (.double (own_m (own_X p1) (own_W er))), .second] [(.int (own_c (own_m (own_X p1) (own_W er)) (4598175219545276416 : UInt64))), (.ref o0)]))
    refine bk (fun t k => XS.ifNo X15.here hx rfl (hb hby d1_46) rfl ((if0 _ _).trans (flt (fun q => hq (own_cp.mp q))).2.2.1) k) ?_
    show F (T15.setTop (mkF m 49 #[.val (.ref o0), .val (.int p1), .val (.double er), .second, .val (.double (own_m (own_X p1) (own_W er))), .second] [(.ref o0)]))
    refine bk (fun t k => XS.dconst1 X15.here hx rfl (hb hby d1_49) (v := (4607182418800017408 : UInt64)) rfl k) ?_
    show F (T15.setTop (mkF m 50 #[.val (.ref o0), .val (.int p1), .val (.double er), .second, .val (.double (own_m (own_X p1) (own_W er))), .second] [(.double (4607182418800017408 : UInt64)), (.ref o0)]))
    refine bk (fun t k => X15.ldc2DoubleC hx hown (mvT hZ (hw _ (List.mem_of_getElem? (i := 12) rfl))) (g := (mkF m 50 #[.val (.ref o0), .val (.int p1), .val (.double er), .second, .val (.double (own_m (own_X p1) (own_W er))), .second] [(.double (4607182418800017408 : UInt64)), (.ref o0)])) rfl (hb hby d1_50) t k) ?_
    show F (T15.setTop (mkF m 53 #[.val (.ref o0), .val (.int p1), .val (.double er), .second, .val (.double (own_m (own_X p1) (own_W er))), .second] [(.double (4611686018427387904 : UInt64)), (.double (4607182418800017408 : UInt64)), (.ref o0)]))
    refine bk (fun t k => XS.dload X15.here hx rfl (hb hby d1_53) rfl k) ?_
    show F (T15.setTop (mkF m 55 #[.val (.ref o0), .val (.int p1), .val (.double er), .second, .val (.double (own_m (own_X p1) (own_W er))), .second] [(.double (own_m (own_X p1) (own_W er))), (.double (4611686018427387904 : UInt64)), (.double (4607182418800017408 : UInt64)), (.ref o0)]))
    refine bk (fun t k => XS.dmulS X15.here hx rfl (hb hby d1_55) rfl (own_nn pT) (v := (own_t (own_X p1) (own_W er))) rfl k) ?_
    show F (T15.setTop (mkF m 56 #[.val (.ref o0), .val (.int p1), .val (.double er), .second, .val (.double (own_m (own_X p1) (own_W er))), .second] [(.double (own_t (own_X p1) (own_W er))), (.double (4607182418800017408 : UInt64)), (.ref o0)]))
    refine bk (fun t k => XS.daddS X15.here hx rfl (hb hby d1_56) rfl (own_nn pU) (v := (own_u (own_X p1) (own_W er))) rfl k) ?_
    refine bk (fun t k => XS.goto X15.here hx rfl (pc0 := 57) (pc' := 63) rfl (hb hby d1_57) (by decide) (by decide) k) ?_
    show F (T15.setTop (mkF m 63 #[.val (.ref o0), .val (.int p1), .val (.double er), .second, .val (.double (own_m (own_X p1) (own_W er))), .second] [(.double (own_u (own_X p1) (own_W er))), (.ref o0)]))
    obtain ⟨T21, h21, X21, e21, W21, st21⟩ := putF X15 hx hZ hown (host := "") (Or.inl (hw _ (List.mem_of_getElem? (i := 16) rfl))) Via.refl e15 f18 f16 (Or.inr ⟨(hw _ (List.mem_of_getElem? (i := 17) rfl)), rfl, hnm⟩) (hw _ (List.mem_of_getElem? (i := 3) rfl)) (ty := .double) (by decide) rfl rfl (g := (mkF m 63 #[.val (.ref o0), .val (.int p1), .val (.double er), .second, .val (.double (own_m (own_X p1) (own_W er))), .second] [(.double (own_u (own_X p1) (own_W er))), (.ref o0)])) rfl rfl (hb hby d1_63)
    have f22 := f16.wr W21
    have f23 := f17.other W21 (Or.inr (slot_ne (Or.inr (hw _ (List.mem_of_getElem? (i := 14) rfl))) (Or.inr (hw _ (List.mem_of_getElem? (i := 17) rfl))) (by decide) (t := .double) (t' := .double) (by decide) (by decide)))
    have f24 := f18.same W21
    have f25 := Nat.le_trans f19 (Keep.of_wr W21).1
    have f26 := f20.wr W21 (Or.inl (List.mem_of_getElem? (i := 0) rfl))
    have N21 := Fr.snoc X21 N15 g_o0
    refine bk (fun t k => st21 t k) ?_
    show F (T21.setTop (mkF m 66 #[.val (.ref o0), .val (.int p1), .val (.double er), .second, .val (.double (own_m (own_X p1) (own_W er))), .second] []))
    rw [hF]
    refine own_ret0 X21 hx Bd.notSynchronized Bd.returns (hb hby d1_66) (by decide) (by decide) ?_
    rw [e21]
    exact ⟨rfl, N21, f26, f22, f24⟩
theorem d1_60 : decode prog_67_method_1_code 60 = .ok (.ldc2_w 21, 3) := by decide +kernel
def Q1_b (Z : State) (o0 : Addr) (p1 : Int32) (er : UInt64) (h0 : Heap) (n0 : Nat) (v : Option Value) (h : Heap) (L : List Loc) : Prop := v = none ∧ Fr n0 L ∧ Keep h0 h [o0] ∧ Exa Z h o0 "com/example/lone1/lone1/math/SumBounds" ∧ Fld Z h o0 "com/example/lone1/lone1/math/SumBounds" "up" "D" (.double (9218868437227405312 : UInt64))
set_option maxRecDepth 65536 in
set_option maxHeartbeats 40000000 in
theorem rm1_b (l : Launch) (Z : State) (a0 : Array Value) (hw : ∀ d ∈ tables_1, d.before a0 Z = true) (ws : List Jvm.Cond) (o0 : Addr) (p1 : Int32) (er : UInt64) (h0 : Heap) (n0 : Nat) (Z0 : n0 ≤ h0.size) (E_o0 : Exa Z h0 o0 "com/example/lone1/lone1/math/SumBounds") (F_d : Fld Z h0 o0 "com/example/lone1/lone1/math/SumBounds" "down" "D" (.double (0 : UInt64))) (F_u : Fld Z h0 o0 "com/example/lone1/lone1/math/SumBounds" "up" "D" (.double (0 : UInt64))) (g_o0 : n0 ≤ o0) (pX : own_PN (own_X p1)) (pW : own_PN (own_W er)) (pM : own_PF (own_m (own_X p1) (own_W er))) (hq : (4598175219545276416 : UInt64).toNat < (own_m (own_X p1) (own_W er)).toNat) :
    MetFree l (⟨"com/example/lone1/lone1/math/SumBounds", "<init>", "(ID)V"⟩ : MethodName) (head1 (Jvm.Cond.code (⟨"com/example/lone1/lone1/math/SumBounds", "<init>", "(ID)V"⟩ : MethodName) prog_67_method_1_code 6 none :: ws) ({ frames := 1, cells := 0, slots := 0, locals := 12 } : Room)) (fun a U => a = #[(.ref o0), (.int p1), (.double er)] ∧ Z.Warmed39 U.vm ∧ U.heap = h0) (fun _ _ _ _ _ => True) (fun _ U o U' => ∃ v L, o = .returned v ∧ Q1_b Z o0 p1 er h0 n0 v U'.heap L ∧ FrameEnd U o U' L ({ frames := 1, cells := 0, slots := 0, locals := 12 } : Room).cells ({ frames := 1, cells := 0, slots := 0, locals := 12 } : Room).slots) := by
  refine MetFree.of_bodySF (plainFor_of_name pn_1) hisR ?_
  intro p e s m args below meth c s₁ Bd hml0 hP hK
  obtain ⟨rfl, hZ, hh⟩ := hP
  have hx := Bd.exec
  have hby := Bd.bytes
  have hml : c.maxLocals = 6 := hml0
  have hown : s.vm.findClass "com/example/lone1/lone1/math/SumBounds" = some m.cls := findClass_of_methodNamed Bd.named
  have hnm := (name_of_methodNamed Bd.named Bd.method).1
  have X0 : Stand p l e ({ frames := 1, cells := 0, slots := 0, locals := 12 } : Room) s m #[(.ref o0), (.int p1), (.double er)] below meth c s₁ [] 0 0 := Stand.of_body Bd
  have e0 : s₁.heap = h0 := by rw [← hh, Bd.state]; rfl
  have N0 := Fr.nil n0
  obtain ⟨F, hF⟩ : ∃ F : State → Prop, F = own_Fin p e below s ({ frames := 1, cells := 0, slots := 0, locals := 12 } : Room).cells ({ frames := 1, cells := 0, slots := 0, locals := 12 } : Room).slots (fun v h L => Q1_b Z o0 p1 er h0 n0 v h L) := ⟨_, rfl⟩
  have bk : ∀ {A B : State}, (∀ t, Steps p.tables e below B t → Steps p.tables e below A t) → F B → F A := by
    intro A B h k
    rw [hF] at k ⊢
    exact own_back h k
  suffices hgo : F (s₁.setTop (mkF m 0 #[.val (.ref o0), .val (.int p1), .val (.double er), .second, .unset, .unset] [])) by
    have hgo' := bk (fun t k => castTop (T := s₁) (ef_1 m o0 p1 er) k) hgo
    rw [hF] at hgo'
    exact hgo'
  refine bk (fun t k => XS.aloadN X0.here hx rfl (hb hby d1_0) rfl rfl k) ?_
  show F (s₁.setTop (mkF m 1 #[.val (.ref o0), .val (.int p1), .val (.double er), .second, .unset, .unset] [(.ref o0)]))
  obtain ⟨T1, X1, e1, st1⟩ := initO X0 hx hZ hown (hw _ (List.mem_of_getElem? (i := 8) rfl)) (hw _ (List.mem_of_getElem? (i := 9) rfl)) (hw _ (List.mem_of_getElem? (i := 10) rfl)) e0 (g := (mkF m 1 #[.val (.ref o0), .val (.int p1), .val (.double er), .second, .unset, .unset] [(.ref o0)])) rfl (by rw [hml]; rfl) rfl (hb hby d1_1) (by decide) (W := 0) (by show 2 * 0 + _ ≤ _; exact Nat.le_of_eq rfl) (by decide)
  refine bk (fun t k => st1 t k) ?_
  refine bk (fun t k => XS.iloadN X1.here hx rfl (hb hby d1_4) rfl k) ?_
  refine bk (fun t k => XS.iconst X1.here hx rfl (hb hby d1_5) k) ?_
  show F (T1.setTop (mkF m 6 #[.val (.ref o0), .val (.int p1), .val (.double er), .second, .unset, .unset] [(.int (4 : Int32)), (.int p1)]))
  refine bk (fun t k => XS.iadd X1.here hx rfl (hb hby d1_6) rfl k) ?_
  show F (T1.setTop (mkF m 7 #[.val (.ref o0), .val (.int p1), .val (.double er), .second, .unset, .unset] [(.int (p1 + (4 : Int32)))]))
  refine bk (fun t k => XS.i2dS X1.here hx rfl (hb hby d1_7) rfl (v := (FP.i2d (p1 + (4 : Int32)))) rfl k) ?_
  show F (T1.setTop (mkF m 8 #[.val (.ref o0), .val (.int p1), .val (.double er), .second, .unset, .unset] [(.double (FP.i2d (p1 + (4 : Int32))))]))
  refine bk (fun t k => X1.ldc2DoubleC hx hown (mvT hZ (hw _ (List.mem_of_getElem? (i := 11) rfl))) (g := (mkF m 8 #[.val (.ref o0), .val (.int p1), .val (.double er), .second, .unset, .unset] [(.double (FP.i2d (p1 + (4 : Int32))))])) rfl (hb hby d1_8) t k) ?_
  show F (T1.setTop (mkF m 11 #[.val (.ref o0), .val (.int p1), .val (.double er), .second, .unset, .unset] [(.double (4377498837804122112 : UInt64)), (.double (FP.i2d (p1 + (4 : Int32))))]))
  refine bk (fun t k => XS.dmulS X1.here hx rfl (hb hby d1_11) rfl (own_nn pX) (v := (own_X p1)) rfl k) ?_
  show F (T1.setTop (mkF m 12 #[.val (.ref o0), .val (.int p1), .val (.double er), .second, .unset, .unset] [(.double (own_X p1))]))
  refine bk (fun t k => X1.ldc2DoubleC hx hown (mvT hZ (hw _ (List.mem_of_getElem? (i := 12) rfl))) (g := (mkF m 12 #[.val (.ref o0), .val (.int p1), .val (.double er), .second, .unset, .unset] [(.double (own_X p1))])) rfl (hb hby d1_12) t k) ?_
  show F (T1.setTop (mkF m 15 #[.val (.ref o0), .val (.int p1), .val (.double er), .second, .unset, .unset] [(.double (4611686018427387904 : UInt64)), (.double (own_X p1))]))
  refine bk (fun t k => XS.dloadN X1.here hx rfl (hb hby d1_15) rfl k) ?_
  show F (T1.setTop (mkF m 16 #[.val (.ref o0), .val (.int p1), .val (.double er), .second, .unset, .unset] [(.double er), (.double (4611686018427387904 : UInt64)), (.double (own_X p1))]))
  refine bk (fun t k => XS.dmulS X1.here hx rfl (hb hby d1_16) rfl (own_nn pW) (v := (own_W er)) rfl k) ?_
  show F (T1.setTop (mkF m 17 #[.val (.ref o0), .val (.int p1), .val (.double er), .second, .unset, .unset] [(.double (own_W er)), (.double (own_X p1))]))
  refine bk (fun t k => XS.daddS X1.here hx rfl (hb hby d1_17) rfl (own_nn (own_pf pM)) (v := (own_m (own_X p1) (own_W er))) rfl k) ?_
  show F (T1.setTop (mkF m 18 #[.val (.ref o0), .val (.int p1), .val (.double er), .second, .unset, .unset] [(.double (own_m (own_X p1) (own_W er)))]))
  refine bk (fun t k => XS.dstore X1.here hx rfl (hb hby d1_18) rfl (l' := #[.val (.ref o0), .val (.int p1), .val (.double er), .second, .val (.double (own_m (own_X p1) (own_W er))), .second]) rfl k) ?_
  refine bk (fun t k => XS.aloadN X1.here hx rfl (hb hby d1_20) rfl rfl k) ?_
  show F (T1.setTop (mkF m 21 #[.val (.ref o0), .val (.int p1), .val (.double er), .second, .val (.double (own_m (own_X p1) (own_W er))), .second] [(.ref o0)]))
  refine bk (fun t k => XS.dload X1.here hx rfl (hb hby d1_21) rfl k) ?_
  show F (T1.setTop (mkF m 23 #[.val (.ref o0), .val (.int p1), .val (.double er), .second, .val (.double (own_m (own_X p1) (own_W er))), .second] [(.double (own_m (own_X p1) (own_W er))), (.ref o0)]))
  refine bk (fun t k => XS.dconst1 X1.here hx rfl (hb hby d1_23) (v := (4607182418800017408 : UInt64)) rfl k) ?_
  show F (T1.setTop (mkF m 24 #[.val (.ref o0), .val (.int p1), .val (.double er), .second, .val (.double (own_m (own_X p1) (own_W er))), .second] [(.double (4607182418800017408 : UInt64)), (.double (own_m (own_X p1) (own_W er))), (.ref o0)]))
  refine bk (fun t k => XS.dcmpS X1.here hx rfl (hb hby d1_24) rfl (v := (own_c (own_m (own_X p1) (own_W er)) (4607182418800017408 : UInt64))) (own_cmp (own_pf pM) (own_pf own_one) _) k) ?_
  show F (T1.setTop (mkF m 25 #[.val (.ref o0), .val (.int p1), .val (.double er), .second, .val (.double (own_m (own_X p1) (own_W er))), .second] [(.int (own_c (own_m (own_X p1) (own_W er)) (4607182418800017408 : UInt64))), (.ref o0)]))
  by_cases hc25_2 : (own_c (own_m (own_X p1) (own_W er)) (4607182418800017408 : UInt64)) < (0 : Int32)
  · refine bk (fun t k => XS.ifNo X1.here hx rfl (hb hby d1_25) rfl ((if0 _ _).trans (tlt hc25_2).2.1) k) ?_
    show F (T1.setTop (mkF m 28 #[.val (.ref o0), .val (.int p1), .val (.double er), .second, .val (.double (own_m (own_X p1) (own_W er))), .second] [(.ref o0)]))
    refine bk (fun t k => XS.dconst1 X1.here hx rfl (hb hby d1_28) (v := (4607182418800017408 : UInt64)) rfl k) ?_
    show F (T1.setTop (mkF m 29 #[.val (.ref o0), .val (.int p1), .val (.double er), .second, .val (.double (own_m (own_X p1) (own_W er))), .second] [(.double (4607182418800017408 : UInt64)), (.ref o0)]))
    refine bk (fun t k => XS.dload X1.here hx rfl (hb hby d1_29) rfl k) ?_
    show F (T1.setTop (mkF m 31 #[.val (.ref o0), .val (.int p1), .val (.double er), .second, .val (.double (own_m (own_X p1) (own_W er))), .second] [(.double (own_m (own_X p1) (own_W er))), (.double (4607182418800017408 : UInt64)), (.ref o0)]))
    refine bk (fun t k => XS.dsubS X1.here hx rfl (hb hby d1_31) rfl (own_dsub pM) (v := (FP.dsub (4607182418800017408 : UInt64) (own_m (own_X p1) (own_W er)))) rfl k) ?_
    refine bk (fun t k => XS.goto X1.here hx rfl (pc0 := 32) (pc' := 36) rfl (hb hby d1_32) (by decide) (by decide) k) ?_
    show F (T1.setTop (mkF m 36 #[.val (.ref o0), .val (.int p1), .val (.double er), .second, .val (.double (own_m (own_X p1) (own_W er))), .second] [(.double (FP.dsub (4607182418800017408 : UInt64) (own_m (own_X p1) (own_W er)))), (.ref o0)]))
    obtain ⟨T3, h3, X3, e3, W3, st3⟩ := putF X1 hx hZ hown (host := "") (Or.inl (hw _ (List.mem_of_getElem? (i := 13) rfl))) Via.refl e1 F_d E_o0 (Or.inr ⟨(hw _ (List.mem_of_getElem? (i := 14) rfl)), rfl, hnm⟩) (hw _ (List.mem_of_getElem? (i := 3) rfl)) (ty := .double) (by decide) rfl rfl (g := (mkF m 36 #[.val (.ref o0), .val (.int p1), .val (.double er), .second, .val (.double (own_m (own_X p1) (own_W er))), .second] [(.double (FP.dsub (4607182418800017408 : UInt64) (own_m (own_X p1) (own_W er)))), (.ref o0)])) rfl rfl (hb hby d1_36)
    have f4 := E_o0.wr W3
    have f5 := F_d.same W3
    have f6 := F_u.other W3 (Or.inr (slot_ne (Or.inr (hw _ (List.mem_of_getElem? (i := 17) rfl))) (Or.inr (hw _ (List.mem_of_getElem? (i := 14) rfl))) (by decide) (t := .double) (t' := .double) (by decide) (by decide)))
    have f7 := Nat.le_trans Z0 (Keep.of_wr W3).1
    have f8 := (Keep.refl h0 [o0]).wr W3 (Or.inl (List.mem_of_getElem? (i := 0) rfl))
    have N3 := Fr.snoc X3 N0 g_o0
    refine bk (fun t k => st3 t k) ?_
    refine bk (fun t k => XS.aloadN X3.here hx rfl (hb hby d1_39) rfl rfl k) ?_
    show F (T3.setTop (mkF m 40 #[.val (.ref o0), .val (.int p1), .val (.double er), .second, .val (.double (own_m (own_X p1) (own_W er))), .second] [(.ref o0)]))
    refine bk (fun t k => XS.dload X3.here hx rfl (hb hby d1_40) rfl k) ?_
    show F (T3.setTop (mkF m 42 #[.val (.ref o0), .val (.int p1), .val (.double er), .second, .val (.double (own_m (own_X p1) (own_W er))), .second] [(.double (own_m (own_X p1) (own_W er))), (.ref o0)]))
    refine bk (fun t k => X3.ldc2DoubleC hx hown (mvT hZ (hw _ (List.mem_of_getElem? (i := 15) rfl))) (g := (mkF m 42 #[.val (.ref o0), .val (.int p1), .val (.double er), .second, .val (.double (own_m (own_X p1) (own_W er))), .second] [(.double (own_m (own_X p1) (own_W er))), (.ref o0)])) rfl (hb hby d1_42) t k) ?_
    show F (T3.setTop (mkF m 45 #[.val (.ref o0), .val (.int p1), .val (.double er), .second, .val (.double (own_m (own_X p1) (own_W er))), .second] [(.double (4598175219545276416 : UInt64)), (.double (own_m (own_X p1) (own_W er))), (.ref o0)]))
    refine bk (fun t k => XS.dcmpS X3.here hx rfl (hb hby d1_45) rfl (v := (own_c (own_m (own_X p1) (own_W er)) (4598175219545276416 : UInt64))) (own_cmp (own_pf pM) own_pnQ _) k) ?_
    show F (T3.setTop (mkF m 46 #[.val (.ref o0), .val (.int p1), .val (.double er), .second, .val (.double (own_m (own_X p1) (own_W er))), .second] [(.int (own_c (own_m (own_X p1) (own_W er)) (4598175219545276416 : UInt64))), (.ref o0)]))
    refine bk (fun t k => XS.ifYes X3.here hx rfl (pc0 := 46) (pc' := 60) rfl (hb hby d1_46) rfl ((if0 _ _).trans (tlt (own_cp.mpr hq)).2.2.1) (by decide) (by decide) k) ?_
    show F (T3.setTop (mkF m 60 #[.val (.ref o0), .val (.int p1), .val (.double er), .second, .val (.double (own_m (own_X p1) (own_W er))), .second] [(.ref o0)]))
    refine bk (fun t k => X3.ldc2DoubleC hx hown (mvT hZ (hw _ (List.mem_of_getElem? (i := 24) rfl))) (g := (mkF m 60 #[.val (.ref o0), .val (.int p1), .val (.double er), .second, .val (.double (own_m (own_X p1) (own_W er))), .second] [(.ref o0)])) rfl (hb hby d1_60) t k) ?_
    show F (T3.setTop (mkF m 63 #[.val (.ref o0), .val (.int p1), .val (.double er), .second, .val (.double (own_m (own_X p1) (own_W er))), .second] [(.double (9218868437227405312 : UInt64)), (.ref o0)]))
    obtain ⟨T9, h9, X9, e9, W9, st9⟩ := putF X3 hx hZ hown (host := "") (Or.inl (hw _ (List.mem_of_getElem? (i := 16) rfl))) Via.refl e3 f6 f4 (Or.inr ⟨(hw _ (List.mem_of_getElem? (i := 17) rfl)), rfl, hnm⟩) (hw _ (List.mem_of_getElem? (i := 3) rfl)) (ty := .double) (by decide) rfl rfl (g := (mkF m 63 #[.val (.ref o0), .val (.int p1), .val (.double er), .second, .val (.double (own_m (own_X p1) (own_W er))), .second] [(.double (9218868437227405312 : UInt64)), (.ref o0)])) rfl rfl (hb hby d1_63)
    have f10 := f4.wr W9
    have f11 := f5.other W9 (Or.inr (slot_ne (Or.inr (hw _ (List.mem_of_getElem? (i := 14) rfl))) (Or.inr (hw _ (List.mem_of_getElem? (i := 17) rfl))) (by decide) (t := .double) (t' := .double) (by decide) (by decide)))
    have f12 := f6.same W9
    have f13 := Nat.le_trans f7 (Keep.of_wr W9).1
    have f14 := f8.wr W9 (Or.inl (List.mem_of_getElem? (i := 0) rfl))
    have N9 := Fr.snoc X9 N3 g_o0
    refine bk (fun t k => st9 t k) ?_
    show F (T9.setTop (mkF m 66 #[.val (.ref o0), .val (.int p1), .val (.double er), .second, .val (.double (own_m (own_X p1) (own_W er))), .second] []))
    rw [hF]
    refine own_ret0 X9 hx Bd.notSynchronized Bd.returns (hb hby d1_66) (by decide) (by decide) ?_
    rw [e9]
    exact ⟨rfl, N9, f14, f10, f12⟩
  · refine bk (fun t k => XS.ifYes X1.here hx rfl (pc0 := 25) (pc' := 35) rfl (hb hby d1_25) rfl ((if0 _ _).trans (flt hc25_2).2.1) (by decide) (by decide) k) ?_
    show F (T1.setTop (mkF m 35 #[.val (.ref o0), .val (.int p1), .val (.double er), .second, .val (.double (own_m (own_X p1) (own_W er))), .second] [(.ref o0)]))
    refine bk (fun t k => XS.dconst0 X1.here hx rfl (hb hby d1_35) (v := (0 : UInt64)) rfl k) ?_
    show F (T1.setTop (mkF m 36 #[.val (.ref o0), .val (.int p1), .val (.double er), .second, .val (.double (own_m (own_X p1) (own_W er))), .second] [(.double (0 : UInt64)), (.ref o0)]))
    obtain ⟨T15, h15, X15, e15, W15, st15⟩ := putF X1 hx hZ hown (host := "") (Or.inl (hw _ (List.mem_of_getElem? (i := 13) rfl))) Via.refl e1 F_d E_o0 (Or.inr ⟨(hw _ (List.mem_of_getElem? (i := 14) rfl)), rfl, hnm⟩) (hw _ (List.mem_of_getElem? (i := 3) rfl)) (ty := .double) (by decide) rfl rfl (g := (mkF m 36 #[.val (.ref o0), .val (.int p1), .val (.double er), .second, .val (.double (own_m (own_X p1) (own_W er))), .second] [(.double (0 : UInt64)), (.ref o0)])) rfl rfl (hb hby d1_36)
    have f16 := E_o0.wr W15
    have f17 := F_d.same W15
    have f18 := F_u.other W15 (Or.inr (slot_ne (Or.inr (hw _ (List.mem_of_getElem? (i := 17) rfl))) (Or.inr (hw _ (List.mem_of_getElem? (i := 14) rfl))) (by decide) (t := .double) (t' := .double) (by decide) (by decide)))
    have f19 := Nat.le_trans Z0 (Keep.of_wr W15).1
    have f20 := (Keep.refl h0 [o0]).wr W15 (Or.inl (List.mem_of_getElem? (i := 0) rfl))
    have N15 := Fr.snoc X15 N0 g_o0
    refine bk (fun t k => st15 t k) ?_
    refine bk (fun t k => XS.aloadN X15.here hx rfl (hb hby d1_39) rfl rfl k) ?_
    show F (T15.setTop (mkF m 40 #[.val (.ref o0), .val (.int p1), .val (.double er), .second, .val (.double (own_m (own_X p1) (own_W er))), .second] [(.ref o0)]))
    refine bk (fun t k => XS.dload X15.here hx rfl (hb hby d1_40) rfl k) ?_
    show F (T15.setTop (mkF m 42 #[.val (.ref o0), .val (.int p1), .val (.double er), .second, .val (.double (own_m (own_X p1) (own_W er))), .second] [(.double (own_m (own_X p1) (own_W er))), (.ref o0)]))
    refine bk (fun t k => X15.ldc2DoubleC hx hown (mvT hZ (hw _ (List.mem_of_getElem? (i := 15) rfl))) (g := (mkF m 42 #[.val (.ref o0), .val (.int p1), .val (.double er), .second, .val (.double (own_m (own_X p1) (own_W er))), .second] [(.double (own_m (own_X p1) (own_W er))), (.ref o0)])) rfl (hb hby d1_42) t k) ?_
    show F (T15.setTop (mkF m 45 #[.val (.ref o0), .val (.int p1), .val (.double er), .second, .val (.double (own_m (own_X p1) (own_W er))), .second] [(.double (4598175219545276416 : UInt64)), (.double (own_m (own_X p1) (own_W er))), (.ref o0)]))
    refine bk (fun t k => XS.dcmpS X15.here hx rfl (hb hby d1_45) rfl (v := (own_c (own_m (own_X p1) (own_W er)) (4598175219545276416 : UInt64))) (own_cmp (own_pf pM) own_pnQ _) k) ?_
    show F (T15.setTop (mkF m 46 #[.val (.ref o0), .val (.int p1), .val (.double er), .second, .val (.double (own_m (own_X p1) (own_W er))), .second] [(.int (own_c (own_m (own_X p1) (own_W er)) (4598175219545276416 : UInt64))), (.ref o0)]))
    refine bk (fun t k => XS.ifYes X15.here hx rfl (pc0 := 46) (pc' := 60) rfl (hb hby d1_46) rfl ((if0 _ _).trans (tlt (own_cp.mpr hq)).2.2.1) (by decide) (by decide) k) ?_
    show F (T15.setTop (mkF m 60 #[.val (.ref o0), .val (.int p1), .val (.double er), .second, .val (.double (own_m (own_X p1) (own_W er))), .second] [(.ref o0)]))
    refine bk (fun t k => X15.ldc2DoubleC hx hown (mvT hZ (hw _ (List.mem_of_getElem? (i := 24) rfl))) (g := (mkF m 60 #[.val (.ref o0), .val (.int p1), .val (.double er), .second, .val (.double (own_m (own_X p1) (own_W er))), .second] [(.ref o0)])) rfl (hb hby d1_60) t k) ?_
    show F (T15.setTop (mkF m 63 #[.val (.ref o0), .val (.int p1), .val (.double er), .second, .val (.double (own_m (own_X p1) (own_W er))), .second] [(.double (9218868437227405312 : UInt64)), (.ref o0)]))
    obtain ⟨T21, h21, X21, e21, W21, st21⟩ := putF X15 hx hZ hown (host := "") (Or.inl (hw _ (List.mem_of_getElem? (i := 16) rfl))) Via.refl e15 f18 f16 (Or.inr ⟨(hw _ (List.mem_of_getElem? (i := 17) rfl)), rfl, hnm⟩) (hw _ (List.mem_of_getElem? (i := 3) rfl)) (ty := .double) (by decide) rfl rfl (g := (mkF m 63 #[.val (.ref o0), .val (.int p1), .val (.double er), .second, .val (.double (own_m (own_X p1) (own_W er))), .second] [(.double (9218868437227405312 : UInt64)), (.ref o0)])) rfl rfl (hb hby d1_63)
    have f22 := f16.wr W21
    have f23 := f17.other W21 (Or.inr (slot_ne (Or.inr (hw _ (List.mem_of_getElem? (i := 14) rfl))) (Or.inr (hw _ (List.mem_of_getElem? (i := 17) rfl))) (by decide) (t := .double) (t' := .double) (by decide) (by decide)))
    have f24 := f18.same W21
    have f25 := Nat.le_trans f19 (Keep.of_wr W21).1
    have f26 := f20.wr W21 (Or.inl (List.mem_of_getElem? (i := 0) rfl))
    have N21 := Fr.snoc X21 N15 g_o0
    refine bk (fun t k => st21 t k) ?_
    show F (T21.setTop (mkF m 66 #[.val (.ref o0), .val (.int p1), .val (.double er), .second, .val (.double (own_m (own_X p1) (own_W er))), .second] []))
    rw [hF]
    refine own_ret0 X21 hx Bd.notSynchronized Bd.returns (hb hby d1_66) (by decide) (by decide) ?_
    rw [e21]
    exact ⟨rfl, N21, f26, f22, f24⟩
theorem d3_0 : decode prog_67_method_3_code 0 = .ok (.iload_n 3, 1) := by decide +kernel
theorem d3_1 : decode prog_67_method_3_code 1 = .ok (.ifCond .ne 9, 3) := by decide +kernel
theorem d3_4 : decode prog_67_method_3_code 4 = .ok (.dconst 0, 1) := by decide +kernel
theorem d3_5 : decode prog_67_method_3_code 5 = .ok (.dstore 4, 2) := by decide +kernel
theorem d3_7 : decode prog_67_method_3_code 7 = .ok (.goto 50, 3) := by decide +kernel
theorem d3_57 : decode prog_67_method_3_code 57 = .ok (.dload 4, 2) := by decide +kernel
theorem d3_59 : decode prog_67_method_3_code 59 = .ok (.dreturn, 1) := by decide +kernel
theorem pn_3 : plainName "com/example/lone1/lone1/math/SumBounds" = true := by first | (simp [plainName, overriddenIn]; done) | decide +kernel
theorem ef_3 (m : MethodId) (x0 : Addr) (x1 : UInt64) (x2 : Int32) : entryFrame m #[(.ref x0), (.double x1), (.int x2)] 8 = mkF m 0 #[.val (.ref x0), .val (.double x1), .second, .val (.int x2), .unset, .unset, .unset, .unset] [] := by first | (simp [entryFrame, mkF, argsToLocals, Value.category]; done) | rfl
def Q3_f (Z : State) (o0 : Addr) (sm : UInt64) (h0 : Heap) (n0 : Nat) (v : Option Value) (h : Heap) (L : List Loc) : Prop := v = some (.double (0 : UInt64)) ∧ Fr n0 L ∧ h = h0
set_option maxRecDepth 65536 in
set_option maxHeartbeats 40000000 in
theorem rm3_f (l : Launch) (Z : State) (a0 : Array Value) (hw : ∀ d ∈ tables_1, d.before a0 Z = true) (ws : List Jvm.Cond) (o0 : Addr) (sm : UInt64) (h0 : Heap) (n0 : Nat) (Z0 : n0 ≤ h0.size) :
    MetFree l (⟨"com/example/lone1/lone1/math/SumBounds", "above", "(DZ)D"⟩ : MethodName) (head1 (Jvm.Cond.code (⟨"com/example/lone1/lone1/math/SumBounds", "above", "(DZ)D"⟩ : MethodName) prog_67_method_3_code 8 (some .double) :: ws) ({ frames := 0, cells := 0, slots := 0, locals := 0 } : Room)) (fun a U => a = #[(.ref o0), (.double sm), (.int (0 : Int32))] ∧ Z.Warmed39 U.vm ∧ U.heap = h0) (fun _ _ _ _ _ => True) (fun _ U o U' => ∃ v L, o = .returned v ∧ Q3_f Z o0 sm h0 n0 v U'.heap L ∧ FrameEnd U o U' L ({ frames := 0, cells := 0, slots := 0, locals := 0 } : Room).cells ({ frames := 0, cells := 0, slots := 0, locals := 0 } : Room).slots) := by
  refine MetFree.of_bodySF (plainFor_of_name pn_3) hisR ?_
  intro p e s m args below meth c s₁ Bd hml0 hP hK
  obtain ⟨rfl, hZ, hh⟩ := hP
  have hx := Bd.exec
  have hby := Bd.bytes
  have hml : c.maxLocals = 8 := hml0
  have hown : s.vm.findClass "com/example/lone1/lone1/math/SumBounds" = some m.cls := findClass_of_methodNamed Bd.named
  have hnm := (name_of_methodNamed Bd.named Bd.method).1
  have X0 : Stand p l e ({ frames := 0, cells := 0, slots := 0, locals := 0 } : Room) s m #[(.ref o0), (.double sm), (.int (0 : Int32))] below meth c s₁ [] 0 0 := Stand.of_body Bd
  have e0 : s₁.heap = h0 := by rw [← hh, Bd.state]; rfl
  have N0 := Fr.nil n0
  obtain ⟨F, hF⟩ : ∃ F : State → Prop, F = own_Fin p e below s ({ frames := 0, cells := 0, slots := 0, locals := 0 } : Room).cells ({ frames := 0, cells := 0, slots := 0, locals := 0 } : Room).slots (fun v h L => Q3_f Z o0 sm h0 n0 v h L) := ⟨_, rfl⟩
  have bk : ∀ {A B : State}, (∀ t, Steps p.tables e below B t → Steps p.tables e below A t) → F B → F A := by
    intro A B h k
    rw [hF] at k ⊢
    exact own_back h k
  suffices hgo : F (s₁.setTop (mkF m 0 #[.val (.ref o0), .val (.double sm), .second, .val (.int (0 : Int32)), .unset, .unset, .unset, .unset] [])) by
    have hgo' := bk (fun t k => castTop (T := s₁) (ef_3 m o0 sm (0 : Int32)) k) hgo
    rw [hF] at hgo'
    exact hgo'
  refine bk (fun t k => XS.iloadN X0.here hx rfl (hb hby d3_0) rfl k) ?_
  show F (s₁.setTop (mkF m 1 #[.val (.ref o0), .val (.double sm), .second, .val (.int (0 : Int32)), .unset, .unset, .unset, .unset] [(.int (0 : Int32))]))
  refine bk (fun t k => XS.ifNo X0.here hx rfl (hb hby d3_1) rfl ((if0 _ _).trans (teq (by decide : (0 : Int32) = (0 : Int32))).2) k) ?_
  show F (s₁.setTop (mkF m 4 #[.val (.ref o0), .val (.double sm), .second, .val (.int (0 : Int32)), .unset, .unset, .unset, .unset] []))
  refine bk (fun t k => XS.dconst0 X0.here hx rfl (hb hby d3_4) (v := (0 : UInt64)) rfl k) ?_
  show F (s₁.setTop (mkF m 5 #[.val (.ref o0), .val (.double sm), .second, .val (.int (0 : Int32)), .unset, .unset, .unset, .unset] [(.double (0 : UInt64))]))
  refine bk (fun t k => XS.dstore X0.here hx rfl (hb hby d3_5) rfl (l' := #[.val (.ref o0), .val (.double sm), .second, .val (.int (0 : Int32)), .val (.double (0 : UInt64)), .second, .unset, .unset]) rfl k) ?_
  refine bk (fun t k => XS.goto X0.here hx rfl (pc0 := 7) (pc' := 57) rfl (hb hby d3_7) (by decide) (by decide) k) ?_
  show F (s₁.setTop (mkF m 57 #[.val (.ref o0), .val (.double sm), .second, .val (.int (0 : Int32)), .val (.double (0 : UInt64)), .second, .unset, .unset] []))
  refine bk (fun t k => XS.dload X0.here hx rfl (hb hby d3_57) rfl k) ?_
  show F (s₁.setTop (mkF m 59 #[.val (.ref o0), .val (.double sm), .second, .val (.int (0 : Int32)), .val (.double (0 : UInt64)), .second, .unset, .unset] [(.double (0 : UInt64))]))
  rw [hF]
  refine own_retD X0 hx Bd.notSynchronized Bd.returns (hb hby d3_59) (by decide) (by decide) ?_
  rw [e0]
  exact ⟨rfl, N0, rfl⟩
theorem d3_10 : decode prog_67_method_3_code 10 = .ok (.aload_n 0, 1) := by decide +kernel
theorem d3_11 : decode prog_67_method_3_code 11 = .ok (.getfield 23, 3) := by decide +kernel
theorem d3_14 : decode prog_67_method_3_code 14 = .ok (.ldc2_w 21, 3) := by decide +kernel
theorem d3_17 : decode prog_67_method_3_code 17 = .ok (.dcmp .l, 1) := by decide +kernel
theorem d3_18 : decode prog_67_method_3_code 18 = .ok (.ifCond .ne 12, 3) := by decide +kernel
theorem d3_21 : decode prog_67_method_3_code 21 = .ok (.aload_n 0, 1) := by decide +kernel
theorem d3_22 : decode prog_67_method_3_code 22 = .ok (.getfield 23, 3) := by decide +kernel
theorem d3_25 : decode prog_67_method_3_code 25 = .ok (.dstore 4, 2) := by decide +kernel
theorem d3_27 : decode prog_67_method_3_code 27 = .ok (.goto 30, 3) := by decide +kernel
def Q3_b (Z : State) (o0 : Addr) (sm : UInt64) (h0 : Heap) (n0 : Nat) (v : Option Value) (h : Heap) (L : List Loc) : Prop := v = some (.double (9218868437227405312 : UInt64)) ∧ Fr n0 L ∧ h = h0
set_option maxRecDepth 65536 in
set_option maxHeartbeats 40000000 in
theorem rm3_b (l : Launch) (Z : State) (a0 : Array Value) (hw : ∀ d ∈ tables_1, d.before a0 Z = true) (ws : List Jvm.Cond) (o0 : Addr) (sm : UInt64) (h0 : Heap) (n0 : Nat) (Z0 : n0 ≤ h0.size) (F_u : Fld Z h0 o0 "com/example/lone1/lone1/math/SumBounds" "up" "D" (.double (9218868437227405312 : UInt64))) :
    MetFree l (⟨"com/example/lone1/lone1/math/SumBounds", "above", "(DZ)D"⟩ : MethodName) (head1 (Jvm.Cond.code (⟨"com/example/lone1/lone1/math/SumBounds", "above", "(DZ)D"⟩ : MethodName) prog_67_method_3_code 8 (some .double) :: ws) ({ frames := 0, cells := 0, slots := 0, locals := 0 } : Room)) (fun a U => a = #[(.ref o0), (.double sm), (.int (1 : Int32))] ∧ Z.Warmed39 U.vm ∧ U.heap = h0) (fun _ _ _ _ _ => True) (fun _ U o U' => ∃ v L, o = .returned v ∧ Q3_b Z o0 sm h0 n0 v U'.heap L ∧ FrameEnd U o U' L ({ frames := 0, cells := 0, slots := 0, locals := 0 } : Room).cells ({ frames := 0, cells := 0, slots := 0, locals := 0 } : Room).slots) := by
  refine MetFree.of_bodySF (plainFor_of_name pn_3) hisR ?_
  intro p e s m args below meth c s₁ Bd hml0 hP hK
  obtain ⟨rfl, hZ, hh⟩ := hP
  have hx := Bd.exec
  have hby := Bd.bytes
  have hml : c.maxLocals = 8 := hml0
  have hown : s.vm.findClass "com/example/lone1/lone1/math/SumBounds" = some m.cls := findClass_of_methodNamed Bd.named
  have hnm := (name_of_methodNamed Bd.named Bd.method).1
  have X0 : Stand p l e ({ frames := 0, cells := 0, slots := 0, locals := 0 } : Room) s m #[(.ref o0), (.double sm), (.int (1 : Int32))] below meth c s₁ [] 0 0 := Stand.of_body Bd
  have e0 : s₁.heap = h0 := by rw [← hh, Bd.state]; rfl
  have N0 := Fr.nil n0
  obtain ⟨F, hF⟩ : ∃ F : State → Prop, F = own_Fin p e below s ({ frames := 0, cells := 0, slots := 0, locals := 0 } : Room).cells ({ frames := 0, cells := 0, slots := 0, locals := 0 } : Room).slots (fun v h L => Q3_b Z o0 sm h0 n0 v h L) := ⟨_, rfl⟩
  have bk : ∀ {A B : State}, (∀ t, Steps p.tables e below B t → Steps p.tables e below A t) → F B → F A := by
    intro A B h k
    rw [hF] at k ⊢
    exact own_back h k
  suffices hgo : F (s₁.setTop (mkF m 0 #[.val (.ref o0), .val (.double sm), .second, .val (.int (1 : Int32)), .unset, .unset, .unset, .unset] [])) by
    have hgo' := bk (fun t k => castTop (T := s₁) (ef_3 m o0 sm (1 : Int32)) k) hgo
    rw [hF] at hgo'
    exact hgo'
  refine bk (fun t k => XS.iloadN X0.here hx rfl (hb hby d3_0) rfl k) ?_
  show F (s₁.setTop (mkF m 1 #[.val (.ref o0), .val (.double sm), .second, .val (.int (1 : Int32)), .unset, .unset, .unset, .unset] [(.int (1 : Int32))]))
  refine bk (fun t k => XS.ifYes X0.here hx rfl (pc0 := 1) (pc' := 10) rfl (hb hby d3_1) rfl ((if0 _ _).trans (feq (by decide : ¬ ((1 : Int32) = (0 : Int32)))).2) (by decide) (by decide) k) ?_
  refine bk (fun t k => XS.aloadN X0.here hx rfl (hb hby d3_10) rfl rfl k) ?_
  show F (s₁.setTop (mkF m 11 #[.val (.ref o0), .val (.double sm), .second, .val (.int (1 : Int32)), .unset, .unset, .unset, .unset] [(.ref o0)]))
  obtain ⟨T1, X1, e1, st1⟩ := getF X0 hx hZ hown (host := "") (Or.inl (hw _ (List.mem_of_getElem? (i := 16) rfl))) Via.refl e0 F_u (g := (mkF m 11 #[.val (.ref o0), .val (.double sm), .second, .val (.int (1 : Int32)), .unset, .unset, .unset, .unset] [(.ref o0)])) rfl rfl (hb hby d3_11)
  refine bk (fun t k => st1 t k) ?_
  show F (T1.setTop (mkF m 14 #[.val (.ref o0), .val (.double sm), .second, .val (.int (1 : Int32)), .unset, .unset, .unset, .unset] [(.double (9218868437227405312 : UInt64))]))
  refine bk (fun t k => X1.ldc2DoubleC hx hown (mvT hZ (hw _ (List.mem_of_getElem? (i := 24) rfl))) (g := (mkF m 14 #[.val (.ref o0), .val (.double sm), .second, .val (.int (1 : Int32)), .unset, .unset, .unset, .unset] [(.double (9218868437227405312 : UInt64))])) rfl (hb hby d3_14) t k) ?_
  show F (T1.setTop (mkF m 17 #[.val (.ref o0), .val (.double sm), .second, .val (.int (1 : Int32)), .unset, .unset, .unset, .unset] [(.double (9218868437227405312 : UInt64)), (.double (9218868437227405312 : UInt64))]))
  refine bk (fun t k => XS.dcmpS X1.here hx rfl (hb hby d3_17) rfl (v := (own_c (9218868437227405312 : UInt64) (9218868437227405312 : UInt64))) (own_cmp own_pnI own_pnI _) k) ?_
  show F (T1.setTop (mkF m 18 #[.val (.ref o0), .val (.double sm), .second, .val (.int (1 : Int32)), .unset, .unset, .unset, .unset] [(.int (own_c (9218868437227405312 : UInt64) (9218868437227405312 : UInt64)))]))
  refine bk (fun t k => XS.ifNo X1.here hx rfl (hb hby d3_18) rfl ((if0 _ _).trans (teq (own_cz.mpr rfl)).2) k) ?_
  refine bk (fun t k => XS.aloadN X1.here hx rfl (hb hby d3_21) rfl rfl k) ?_
  show F (T1.setTop (mkF m 22 #[.val (.ref o0), .val (.double sm), .second, .val (.int (1 : Int32)), .unset, .unset, .unset, .unset] [(.ref o0)]))
  obtain ⟨T2, X2, e2, st2⟩ := getF X1 hx hZ hown (host := "") (Or.inl (hw _ (List.mem_of_getElem? (i := 16) rfl))) Via.refl e1 F_u (g := (mkF m 22 #[.val (.ref o0), .val (.double sm), .second, .val (.int (1 : Int32)), .unset, .unset, .unset, .unset] [(.ref o0)])) rfl rfl (hb hby d3_22)
  refine bk (fun t k => st2 t k) ?_
  show F (T2.setTop (mkF m 25 #[.val (.ref o0), .val (.double sm), .second, .val (.int (1 : Int32)), .unset, .unset, .unset, .unset] [(.double (9218868437227405312 : UInt64))]))
  refine bk (fun t k => XS.dstore X2.here hx rfl (hb hby d3_25) rfl (l' := #[.val (.ref o0), .val (.double sm), .second, .val (.int (1 : Int32)), .val (.double (9218868437227405312 : UInt64)), .second, .unset, .unset]) rfl k) ?_
  refine bk (fun t k => XS.goto X2.here hx rfl (pc0 := 27) (pc' := 57) rfl (hb hby d3_27) (by decide) (by decide) k) ?_
  show F (T2.setTop (mkF m 57 #[.val (.ref o0), .val (.double sm), .second, .val (.int (1 : Int32)), .val (.double (9218868437227405312 : UInt64)), .second, .unset, .unset] []))
  refine bk (fun t k => XS.dload X2.here hx rfl (hb hby d3_57) rfl k) ?_
  show F (T2.setTop (mkF m 59 #[.val (.ref o0), .val (.double sm), .second, .val (.int (1 : Int32)), .val (.double (9218868437227405312 : UInt64)), .second, .unset, .unset] [(.double (9218868437227405312 : UInt64))]))
  rw [hF]
  refine own_retD X2 hx Bd.notSynchronized Bd.returns (hb hby d3_59) (by decide) (by decide) ?_
  rw [e2]
  exact ⟨rfl, N0, rfl⟩
theorem d3_30 : decode prog_67_method_3_code 30 = .ok (.dload_n 1, 1) := by decide +kernel
theorem d3_31 : decode prog_67_method_3_code 31 = .ok (.aload_n 0, 1) := by decide +kernel
theorem d3_32 : decode prog_67_method_3_code 32 = .ok (.getfield 23, 3) := by decide +kernel
theorem d3_35 : decode prog_67_method_3_code 35 = .ok (.dmul, 1) := by decide +kernel
theorem d3_36 : decode prog_67_method_3_code 36 = .ok (.dstore 6, 2) := by decide +kernel
theorem d3_38 : decode prog_67_method_3_code 38 = .ok (.dload 6, 2) := by decide +kernel
theorem d3_40 : decode prog_67_method_3_code 40 = .ok (.ldc2_w 30, 3) := by decide +kernel
theorem d3_43 : decode prog_67_method_3_code 43 = .ok (.dcmp .g, 1) := by decide +kernel
theorem d3_44 : decode prog_67_method_3_code 44 = .ok (.ifCond .ge 9, 3) := by decide +kernel
theorem d3_47 : decode prog_67_method_3_code 47 = .ok (.ldc2_w 30, 3) := by decide +kernel
theorem d3_50 : decode prog_67_method_3_code 50 = .ok (.goto 5, 3) := by decide +kernel
theorem d3_53 : decode prog_67_method_3_code 53 = .ok (.dload 6, 2) := by decide +kernel
theorem d3_55 : decode prog_67_method_3_code 55 = .ok (.dstore 4, 2) := by decide +kernel
def Q3_s (Z : State) (o0 : Addr) (sm : UInt64) (u : UInt64) (h0 : Heap) (n0 : Nat) (v : Option Value) (h : Heap) (L : List Loc) : Prop := v = some (.double (own_ab (FP.dmul sm u))) ∧ Fr n0 L ∧ h = h0
set_option maxRecDepth 65536 in
set_option maxHeartbeats 40000000 in
theorem rm3_s (l : Launch) (Z : State) (a0 : Array Value) (hw : ∀ d ∈ tables_1, d.before a0 Z = true) (ws : List Jvm.Cond) (o0 : Addr) (sm : UInt64) (u : UInt64) (h0 : Heap) (n0 : Nat) (Z0 : n0 ≤ h0.size) (F_u : Fld Z h0 o0 "com/example/lone1/lone1/math/SumBounds" "up" "D" (.double u)) (pU : own_PF u) (pS : own_PN (FP.dmul sm u)) :
    MetFree l (⟨"com/example/lone1/lone1/math/SumBounds", "above", "(DZ)D"⟩ : MethodName) (head1 (Jvm.Cond.code (⟨"com/example/lone1/lone1/math/SumBounds", "above", "(DZ)D"⟩ : MethodName) prog_67_method_3_code 8 (some .double) :: ws) ({ frames := 0, cells := 0, slots := 0, locals := 0 } : Room)) (fun a U => a = #[(.ref o0), (.double sm), (.int (1 : Int32))] ∧ Z.Warmed39 U.vm ∧ U.heap = h0) (fun _ _ _ _ _ => True) (fun _ U o U' => ∃ v L, o = .returned v ∧ Q3_s Z o0 sm u h0 n0 v U'.heap L ∧ FrameEnd U o U' L ({ frames := 0, cells := 0, slots := 0, locals := 0 } : Room).cells ({ frames := 0, cells := 0, slots := 0, locals := 0 } : Room).slots) := by
  refine MetFree.of_bodySF (plainFor_of_name pn_3) hisR ?_
  intro p e s m args below meth c s₁ Bd hml0 hP hK
  obtain ⟨rfl, hZ, hh⟩ := hP
  have hx := Bd.exec
  have hby := Bd.bytes
  have hml : c.maxLocals = 8 := hml0
  have hown : s.vm.findClass "com/example/lone1/lone1/math/SumBounds" = some m.cls := findClass_of_methodNamed Bd.named
  have hnm := (name_of_methodNamed Bd.named Bd.method).1
  have X0 : Stand p l e ({ frames := 0, cells := 0, slots := 0, locals := 0 } : Room) s m #[(.ref o0), (.double sm), (.int (1 : Int32))] below meth c s₁ [] 0 0 := Stand.of_body Bd
  have e0 : s₁.heap = h0 := by rw [← hh, Bd.state]; rfl
  have N0 := Fr.nil n0
  obtain ⟨F, hF⟩ : ∃ F : State → Prop, F = own_Fin p e below s ({ frames := 0, cells := 0, slots := 0, locals := 0 } : Room).cells ({ frames := 0, cells := 0, slots := 0, locals := 0 } : Room).slots (fun v h L => Q3_s Z o0 sm u h0 n0 v h L) := ⟨_, rfl⟩
  have bk : ∀ {A B : State}, (∀ t, Steps p.tables e below B t → Steps p.tables e below A t) → F B → F A := by
    intro A B h k
    rw [hF] at k ⊢
    exact own_back h k
  suffices hgo : F (s₁.setTop (mkF m 0 #[.val (.ref o0), .val (.double sm), .second, .val (.int (1 : Int32)), .unset, .unset, .unset, .unset] [])) by
    have hgo' := bk (fun t k => castTop (T := s₁) (ef_3 m o0 sm (1 : Int32)) k) hgo
    rw [hF] at hgo'
    exact hgo'
  refine bk (fun t k => XS.iloadN X0.here hx rfl (hb hby d3_0) rfl k) ?_
  show F (s₁.setTop (mkF m 1 #[.val (.ref o0), .val (.double sm), .second, .val (.int (1 : Int32)), .unset, .unset, .unset, .unset] [(.int (1 : Int32))]))
  refine bk (fun t k => XS.ifYes X0.here hx rfl (pc0 := 1) (pc' := 10) rfl (hb hby d3_1) rfl ((if0 _ _).trans (feq (by decide : ¬ ((1 : Int32) = (0 : Int32)))).2) (by decide) (by decide) k) ?_
  refine bk (fun t k => XS.aloadN X0.here hx rfl (hb hby d3_10) rfl rfl k) ?_
  show F (s₁.setTop (mkF m 11 #[.val (.ref o0), .val (.double sm), .second, .val (.int (1 : Int32)), .unset, .unset, .unset, .unset] [(.ref o0)]))
  obtain ⟨T1, X1, e1, st1⟩ := getF X0 hx hZ hown (host := "") (Or.inl (hw _ (List.mem_of_getElem? (i := 16) rfl))) Via.refl e0 F_u (g := (mkF m 11 #[.val (.ref o0), .val (.double sm), .second, .val (.int (1 : Int32)), .unset, .unset, .unset, .unset] [(.ref o0)])) rfl rfl (hb hby d3_11)
  refine bk (fun t k => st1 t k) ?_
  show F (T1.setTop (mkF m 14 #[.val (.ref o0), .val (.double sm), .second, .val (.int (1 : Int32)), .unset, .unset, .unset, .unset] [(.double u)]))
  refine bk (fun t k => X1.ldc2DoubleC hx hown (mvT hZ (hw _ (List.mem_of_getElem? (i := 24) rfl))) (g := (mkF m 14 #[.val (.ref o0), .val (.double sm), .second, .val (.int (1 : Int32)), .unset, .unset, .unset, .unset] [(.double u)])) rfl (hb hby d3_14) t k) ?_
  show F (T1.setTop (mkF m 17 #[.val (.ref o0), .val (.double sm), .second, .val (.int (1 : Int32)), .unset, .unset, .unset, .unset] [(.double (9218868437227405312 : UInt64)), (.double u)]))
  refine bk (fun t k => XS.dcmpS X1.here hx rfl (hb hby d3_17) rfl (v := (own_c u (9218868437227405312 : UInt64))) (own_cmp (own_pf pU) own_pnI _) k) ?_
  show F (T1.setTop (mkF m 18 #[.val (.ref o0), .val (.double sm), .second, .val (.int (1 : Int32)), .unset, .unset, .unset, .unset] [(.int (own_c u (9218868437227405312 : UInt64)))]))
  refine bk (fun t k => XS.ifYes X1.here hx rfl (pc0 := 18) (pc' := 30) rfl (hb hby d3_18) rfl ((if0 _ _).trans (feq (own_ne_inf pU)).2) (by decide) (by decide) k) ?_
  show F (T1.setTop (mkF m 30 #[.val (.ref o0), .val (.double sm), .second, .val (.int (1 : Int32)), .unset, .unset, .unset, .unset] []))
  refine bk (fun t k => XS.dloadN X1.here hx rfl (hb hby d3_30) rfl k) ?_
  refine bk (fun t k => XS.aloadN X1.here hx rfl (hb hby d3_31) rfl rfl k) ?_
  show F (T1.setTop (mkF m 32 #[.val (.ref o0), .val (.double sm), .second, .val (.int (1 : Int32)), .unset, .unset, .unset, .unset] [(.ref o0), (.double sm)]))
  obtain ⟨T2, X2, e2, st2⟩ := getF X1 hx hZ hown (host := "") (Or.inl (hw _ (List.mem_of_getElem? (i := 16) rfl))) Via.refl e1 F_u (g := (mkF m 32 #[.val (.ref o0), .val (.double sm), .second, .val (.int (1 : Int32)), .unset, .unset, .unset, .unset] [(.ref o0), (.double sm)])) rfl rfl (hb hby d3_32)
  refine bk (fun t k => st2 t k) ?_
  show F (T2.setTop (mkF m 35 #[.val (.ref o0), .val (.double sm), .second, .val (.int (1 : Int32)), .unset, .unset, .unset, .unset] [(.double u), (.double sm)]))
  refine bk (fun t k => XS.dmulS X2.here hx rfl (hb hby d3_35) rfl (own_nn pS) (v := (FP.dmul sm u)) rfl k) ?_
  show F (T2.setTop (mkF m 36 #[.val (.ref o0), .val (.double sm), .second, .val (.int (1 : Int32)), .unset, .unset, .unset, .unset] [(.double (FP.dmul sm u))]))
  refine bk (fun t k => XS.dstore X2.here hx rfl (hb hby d3_36) rfl (l' := #[.val (.ref o0), .val (.double sm), .second, .val (.int (1 : Int32)), .unset, .unset, .val (.double (FP.dmul sm u)), .second]) rfl k) ?_
  show F (T2.setTop (mkF m 38 #[.val (.ref o0), .val (.double sm), .second, .val (.int (1 : Int32)), .unset, .unset, .val (.double (FP.dmul sm u)), .second] []))
  refine bk (fun t k => XS.dload X2.here hx rfl (hb hby d3_38) rfl k) ?_
  show F (T2.setTop (mkF m 40 #[.val (.ref o0), .val (.double sm), .second, .val (.int (1 : Int32)), .unset, .unset, .val (.double (FP.dmul sm u)), .second] [(.double (FP.dmul sm u))]))
  refine bk (fun t k => X2.ldc2DoubleC hx hown (mvT hZ (hw _ (List.mem_of_getElem? (i := 25) rfl))) (g := (mkF m 40 #[.val (.ref o0), .val (.double sm), .second, .val (.int (1 : Int32)), .unset, .unset, .val (.double (FP.dmul sm u)), .second] [(.double (FP.dmul sm u))])) rfl (hb hby d3_40) t k) ?_
  show F (T2.setTop (mkF m 43 #[.val (.ref o0), .val (.double sm), .second, .val (.int (1 : Int32)), .unset, .unset, .val (.double (FP.dmul sm u)), .second] [(.double (288230376151711744 : UInt64)), (.double (FP.dmul sm u))]))
  refine bk (fun t k => XS.dcmpS X2.here hx rfl (hb hby d3_43) rfl (v := (own_c (FP.dmul sm u) (288230376151711744 : UInt64))) (own_cmp pS own_pnF _) k) ?_
  show F (T2.setTop (mkF m 44 #[.val (.ref o0), .val (.double sm), .second, .val (.int (1 : Int32)), .unset, .unset, .val (.double (FP.dmul sm u)), .second] [(.int (own_c (FP.dmul sm u) (288230376151711744 : UInt64)))]))
  by_cases hc44_3 : (own_c (FP.dmul sm u) (288230376151711744 : UInt64)) < (0 : Int32)
  · refine bk (fun t k => XS.ifNo X2.here hx rfl (hb hby d3_44) rfl ((if0 _ _).trans (tlt hc44_3).2.1) k) ?_
    show F (T2.setTop (mkF m 47 #[.val (.ref o0), .val (.double sm), .second, .val (.int (1 : Int32)), .unset, .unset, .val (.double (FP.dmul sm u)), .second] []))
    refine bk (fun t k => X2.ldc2DoubleC hx hown (mvT hZ (hw _ (List.mem_of_getElem? (i := 25) rfl))) (g := (mkF m 47 #[.val (.ref o0), .val (.double sm), .second, .val (.int (1 : Int32)), .unset, .unset, .val (.double (FP.dmul sm u)), .second] [])) rfl (hb hby d3_47) t k) ?_
    refine bk (fun t k => XS.goto X2.here hx rfl (pc0 := 50) (pc' := 55) rfl (hb hby d3_50) (by decide) (by decide) k) ?_
    show F (T2.setTop (mkF m 55 #[.val (.ref o0), .val (.double sm), .second, .val (.int (1 : Int32)), .unset, .unset, .val (.double (FP.dmul sm u)), .second] [(.double (288230376151711744 : UInt64))]))
    refine bk (fun t k => XS.dstore X2.here hx rfl (hb hby d3_55) rfl (l' := #[.val (.ref o0), .val (.double sm), .second, .val (.int (1 : Int32)), .val (.double (288230376151711744 : UInt64)), .second, .val (.double (FP.dmul sm u)), .second]) rfl k) ?_
    show F (T2.setTop (mkF m 57 #[.val (.ref o0), .val (.double sm), .second, .val (.int (1 : Int32)), .val (.double (288230376151711744 : UInt64)), .second, .val (.double (FP.dmul sm u)), .second] []))
    refine bk (fun t k => XS.dload X2.here hx rfl (hb hby d3_57) rfl k) ?_
    show F (T2.setTop (mkF m 59 #[.val (.ref o0), .val (.double sm), .second, .val (.int (1 : Int32)), .val (.double (288230376151711744 : UInt64)), .second, .val (.double (FP.dmul sm u)), .second] [(.double (288230376151711744 : UInt64))]))
    rw [hF]
    refine own_retD X2 hx Bd.notSynchronized Bd.returns (hb hby d3_59) (by decide) (by decide) ?_
    rw [e2]
    refine ⟨?_, N0, rfl⟩
    show some (Value.double (288230376151711744 : UInt64)) = some (Value.double (own_ab (FP.dmul sm u)))
    rw [own_abT (own_cn.mp hc44_3)]
  · refine bk (fun t k => XS.ifYes X2.here hx rfl (pc0 := 44) (pc' := 53) rfl (hb hby d3_44) rfl ((if0 _ _).trans (flt hc44_3).2.1) (by decide) (by decide) k) ?_
    show F (T2.setTop (mkF m 53 #[.val (.ref o0), .val (.double sm), .second, .val (.int (1 : Int32)), .unset, .unset, .val (.double (FP.dmul sm u)), .second] []))
    refine bk (fun t k => XS.dload X2.here hx rfl (hb hby d3_53) rfl k) ?_
    show F (T2.setTop (mkF m 55 #[.val (.ref o0), .val (.double sm), .second, .val (.int (1 : Int32)), .unset, .unset, .val (.double (FP.dmul sm u)), .second] [(.double (FP.dmul sm u))]))
    refine bk (fun t k => XS.dstore X2.here hx rfl (hb hby d3_55) rfl (l' := #[.val (.ref o0), .val (.double sm), .second, .val (.int (1 : Int32)), .val (.double (FP.dmul sm u)), .second, .val (.double (FP.dmul sm u)), .second]) rfl k) ?_
    show F (T2.setTop (mkF m 57 #[.val (.ref o0), .val (.double sm), .second, .val (.int (1 : Int32)), .val (.double (FP.dmul sm u)), .second, .val (.double (FP.dmul sm u)), .second] []))
    refine bk (fun t k => XS.dload X2.here hx rfl (hb hby d3_57) rfl k) ?_
    show F (T2.setTop (mkF m 59 #[.val (.ref o0), .val (.double sm), .second, .val (.int (1 : Int32)), .val (.double (FP.dmul sm u)), .second, .val (.double (FP.dmul sm u)), .second] [(.double (FP.dmul sm u))]))
    rw [hF]
    refine own_retD X2 hx Bd.notSynchronized Bd.returns (hb hby d3_59) (by decide) (by decide) ?_
    rw [e2]
    refine ⟨?_, N0, rfl⟩
    show some (Value.double (FP.dmul sm u)) = some (Value.double (own_ab (FP.dmul sm u)))
    rw [own_abF (fun q => hc44_3 (own_cn.mpr q))]
theorem pd0__ID_V : parseMethodDescriptor "(ID)V" = some ⟨[.int, .double], none⟩ := by decide +kernel
theorem pd0__DZ_D : parseMethodDescriptor "(DZ)D" = some ⟨[.double, .boolean], some .double⟩ := by decide +kernel
theorem pn_0 : plainName "com/example/lone1/lone1/math/SumBoundsAbovePinLaw" = true := by first | (simp [plainName, overriddenIn]; done) | decide +kernel
theorem ef_0 (m : MethodId) (x0 : Int32) (x1 : Int32) (x2 : Int32) (x3 : Int32) : entryFrame m #[(.int x0), (.int x1), (.int x2), (.int x3)] maxLocals = mkF m 0 #[.val (.int x0), .val (.int x1), .val (.int x2), .val (.int x3), .unset, .unset, .unset, .unset, .unset, .unset, .unset, .unset, .unset, .unset, .unset, .unset, .unset, .unset, .unset, .unset, .unset, .unset, .unset, .unset] [] := by first | (simp [entryFrame, mkF, argsToLocals, Value.category, maxLocals]; done) | rfl
def Q0 (Z : State) (p0 : Int32) (p1 : Int32) (p2 : Int32) (p3 : Int32) (h0 : Heap) (n0 : Nat) (v : Option Value) (h : Heap) (L : List Loc) : Prop := v = some (.int (1 : Int32)) ∧ Fr n0 L
set_option maxRecDepth 65536 in
set_option maxHeartbeats 40000000 in
theorem rm0 (l : Launch) (Z : State) (a0 : Array Value) (hw : ∀ d ∈ tables_1, d.before a0 Z = true) (ws : List Jvm.Cond) (p0 : Int32) (p1 : Int32) (p2 : Int32) (p3 : Int32) (h0 : Heap) (n0 : Nat) (Z0 : n0 ≤ h0.size) :
    MetFree l x (head1 (Jvm.Cond.code x code maxLocals ret :: ws) room_1) (fun a U => a = #[(.int p0), (.int p1), (.int p2), (.int p3)] ∧ Z.Warmed39 U.vm ∧ U.heap = h0) (fun _ _ _ _ _ => True) (fun _ U o U' => ∃ v L, o = .returned v ∧ Q0 Z p0 p1 p2 p3 h0 n0 v U'.heap L ∧ FrameEnd U o U' L room_1.cells room_1.slots) := by
  refine MetFree.of_bodySF (plainFor_of_name pn_0) hisR ?_
  intro p e s m args below meth c s₁ Bd hml0 hP hK
  obtain ⟨rfl, hZ, hh⟩ := hP
  have hx := Bd.exec
  have hby := Bd.bytes
  have hml : c.maxLocals = 24 := hml0
  have hown : s.vm.findClass "com/example/lone1/lone1/math/SumBoundsAbovePinLaw" = some m.cls := findClass_of_methodNamed Bd.named
  have hnm := (name_of_methodNamed Bd.named Bd.method).1
  have X0 : Stand p l e room_1 s m #[(.int p0), (.int p1), (.int p2), (.int p3)] below meth c s₁ [] 0 0 := Stand.of_body Bd
  have e0 : s₁.heap = h0 := by rw [← hh, Bd.state]; rfl
  have N0 := Fr.nil n0
  obtain ⟨F, hF⟩ : ∃ F : State → Prop, F = own_Fin p e below s room_1.cells room_1.slots (fun v h L => Q0 Z p0 p1 p2 p3 h0 n0 v h L) := ⟨_, rfl⟩
  have bk : ∀ {A B : State}, (∀ t, Steps p.tables e below B t → Steps p.tables e below A t) → F B → F A := by
    intro A B h k
    rw [hF] at k ⊢
    exact own_back h k
  suffices hgo : F (s₁.setTop (mkF m 0 #[.val (.int p0), .val (.int p1), .val (.int p2), .val (.int p3), .unset, .unset, .unset, .unset, .unset, .unset, .unset, .unset, .unset, .unset, .unset, .unset, .unset, .unset, .unset, .unset, .unset, .unset, .unset, .unset] [])) by
    have hgo' := bk (fun t k => castTop (T := s₁) (ef_0 m p0 p1 p2 p3) k) hgo
    rw [hF] at hgo'
    exact hgo'
  obtain ⟨pp, hpp⟩ : ∃ z : Int32, z = ((p0 &&& (1073741823 : Int32)) + (1 : Int32)) := ⟨_, rfl⟩
  have hp := own_p30 p0
  rw [← hpp] at hp
  obtain ⟨nk, hk0⟩ := own_k16 p1
  obtain ⟨kk, hkk⟩ : ∃ z : Int32, z = (p1 &&& (15 : Int32)) := ⟨_, rfl⟩
  rw [← hkk] at hk0
  have hAll := own_all hp hk0
  have w_0 := hw _ (List.mem_of_getElem? (i := 0) rfl)
  have w_1 := hw _ (List.mem_of_getElem? (i := 1) rfl)
  have w_2 := hw _ (List.mem_of_getElem? (i := 2) rfl)
  have w_3 := hw _ (List.mem_of_getElem? (i := 3) rfl)
  have w_4 := hw _ (List.mem_of_getElem? (i := 4) rfl)
  have w_5 := hw _ (List.mem_of_getElem? (i := 5) rfl)
  have w_6 := hw _ (List.mem_of_getElem? (i := 6) rfl)
  have w_7 := hw _ (List.mem_of_getElem? (i := 7) rfl)
  have w_14 := hw _ (List.mem_of_getElem? (i := 14) rfl)
  have w_17 := hw _ (List.mem_of_getElem? (i := 17) rfl)
  have w_18 := hw _ (List.mem_of_getElem? (i := 18) rfl)
  have w_19 := hw _ (List.mem_of_getElem? (i := 19) rfl)
  have w_20 := hw _ (List.mem_of_getElem? (i := 20) rfl)
  have w_21 := hw _ (List.mem_of_getElem? (i := 21) rfl)
  have w_22 := hw _ (List.mem_of_getElem? (i := 22) rfl)
  have w_23 := hw _ (List.mem_of_getElem? (i := 23) rfl)
  have w_26 := hw _ (List.mem_of_getElem? (i := 26) rfl)
  have w_27 := hw _ (List.mem_of_getElem? (i := 27) rfl)
  have w_28 := hw _ (List.mem_of_getElem? (i := 28) rfl)
  have w_29 := hw _ (List.mem_of_getElem? (i := 29) rfl)
  have w_30 := hw _ (List.mem_of_getElem? (i := 30) rfl)
  by_cases hc900_1 : kk < (8 : Int32)
  · have hSml := own_small hp hk0 hc900_1
    refine bk (fun t k => XS.iloadN X0.here hx rfl (hb hby at_0) rfl k) ?_
    show F (s₁.setTop (mkF m 1 #[.val (.int p0), .val (.int p1), .val (.int p2), .val (.int p3), .unset, .unset, .unset, .unset, .unset, .unset, .unset, .unset, .unset, .unset, .unset, .unset, .unset, .unset, .unset, .unset, .unset, .unset, .unset, .unset] [(.int p0)]))
    refine bk (fun t k => X0.ldcInt hx hown (mvT hZ w_0) (g := (mkF m 1 #[.val (.int p0), .val (.int p1), .val (.int p2), .val (.int p3), .unset, .unset, .unset, .unset, .unset, .unset, .unset, .unset, .unset, .unset, .unset, .unset, .unset, .unset, .unset, .unset, .unset, .unset, .unset, .unset] [(.int p0)])) rfl (hb hby at_1) t k) ?_
    show F (s₁.setTop (mkF m 3 #[.val (.int p0), .val (.int p1), .val (.int p2), .val (.int p3), .unset, .unset, .unset, .unset, .unset, .unset, .unset, .unset, .unset, .unset, .unset, .unset, .unset, .unset, .unset, .unset, .unset, .unset, .unset, .unset] [(.int (1073741823 : Int32)), (.int p0)]))
    refine bk (fun t k => XS.iand X0.here hx rfl (hb hby at_3) rfl k) ?_
    refine bk (fun t k => XS.iconst X0.here hx rfl (hb hby at_4) k) ?_
    show F (s₁.setTop (mkF m 5 #[.val (.int p0), .val (.int p1), .val (.int p2), .val (.int p3), .unset, .unset, .unset, .unset, .unset, .unset, .unset, .unset, .unset, .unset, .unset, .unset, .unset, .unset, .unset, .unset, .unset, .unset, .unset, .unset] [(.int (1 : Int32)), (.int (p0 &&& (1073741823 : Int32)))]))
    refine bk (fun t k => XS.iadd X0.here hx rfl (hb hby at_5) rfl k) ?_
    show F (s₁.setTop (mkF m 6 #[.val (.int p0), .val (.int p1), .val (.int p2), .val (.int p3), .unset, .unset, .unset, .unset, .unset, .unset, .unset, .unset, .unset, .unset, .unset, .unset, .unset, .unset, .unset, .unset, .unset, .unset, .unset, .unset] [(.int ((p0 &&& (1073741823 : Int32)) + (1 : Int32)))]))
    rw [← hpp]
    show F (s₁.setTop (mkF m 6 #[.val (.int p0), .val (.int p1), .val (.int p2), .val (.int p3), .unset, .unset, .unset, .unset, .unset, .unset, .unset, .unset, .unset, .unset, .unset, .unset, .unset, .unset, .unset, .unset, .unset, .unset, .unset, .unset] [(.int pp)]))
    refine bk (fun t k => XS.istore X0.here hx rfl (hb hby at_6) rfl (l' := #[.val (.int p0), .val (.int p1), .val (.int p2), .val (.int p3), .val (.int pp), .unset, .unset, .unset, .unset, .unset, .unset, .unset, .unset, .unset, .unset, .unset, .unset, .unset, .unset, .unset, .unset, .unset, .unset, .unset]) rfl k) ?_
    refine bk (fun t k => XS.iloadN X0.here hx rfl (hb hby at_8) rfl k) ?_
    refine bk (fun t k => XS.bipush X0.here hx rfl (hb hby at_9) k) ?_
    show F (s₁.setTop (mkF m 11 #[.val (.int p0), .val (.int p1), .val (.int p2), .val (.int p3), .val (.int pp), .unset, .unset, .unset, .unset, .unset, .unset, .unset, .unset, .unset, .unset, .unset, .unset, .unset, .unset, .unset, .unset, .unset, .unset, .unset] [(.int (15 : Int32)), (.int p1)]))
    refine bk (fun t k => XS.iand X0.here hx rfl (hb hby at_11) rfl k) ?_
    show F (s₁.setTop (mkF m 12 #[.val (.int p0), .val (.int p1), .val (.int p2), .val (.int p3), .val (.int pp), .unset, .unset, .unset, .unset, .unset, .unset, .unset, .unset, .unset, .unset, .unset, .unset, .unset, .unset, .unset, .unset, .unset, .unset, .unset] [(.int (p1 &&& (15 : Int32)))]))
    rw [← hkk]
    show F (s₁.setTop (mkF m 12 #[.val (.int p0), .val (.int p1), .val (.int p2), .val (.int p3), .val (.int pp), .unset, .unset, .unset, .unset, .unset, .unset, .unset, .unset, .unset, .unset, .unset, .unset, .unset, .unset, .unset, .unset, .unset, .unset, .unset] [(.int kk)]))
    refine bk (fun t k => XS.istore X0.here hx rfl (hb hby at_12) rfl (l' := #[.val (.int p0), .val (.int p1), .val (.int p2), .val (.int p3), .val (.int pp), .val (.int kk), .unset, .unset, .unset, .unset, .unset, .unset, .unset, .unset, .unset, .unset, .unset, .unset, .unset, .unset, .unset, .unset, .unset, .unset]) rfl k) ?_
    refine bk (fun t k => XS.iload X0.here hx rfl (hb hby at_14) rfl k) ?_
    show F (s₁.setTop (mkF m 16 #[.val (.int p0), .val (.int p1), .val (.int p2), .val (.int p3), .val (.int pp), .val (.int kk), .unset, .unset, .unset, .unset, .unset, .unset, .unset, .unset, .unset, .unset, .unset, .unset, .unset, .unset, .unset, .unset, .unset, .unset] [(.int kk)]))
    refine bk (fun t k => XS.i2dS X0.here hx rfl (hb hby at_16) rfl (v := (FP.i2d kk)) rfl k) ?_
    show F (s₁.setTop (mkF m 17 #[.val (.int p0), .val (.int p1), .val (.int p2), .val (.int p3), .val (.int pp), .val (.int kk), .unset, .unset, .unset, .unset, .unset, .unset, .unset, .unset, .unset, .unset, .unset, .unset, .unset, .unset, .unset, .unset, .unset, .unset] [(.double (FP.i2d kk))]))
    refine bk (fun t k => X0.ldc2DoubleC hx hown (mvT hZ w_1) (g := (mkF m 17 #[.val (.int p0), .val (.int p1), .val (.int p2), .val (.int p3), .val (.int pp), .val (.int kk), .unset, .unset, .unset, .unset, .unset, .unset, .unset, .unset, .unset, .unset, .unset, .unset, .unset, .unset, .unset, .unset, .unset, .unset] [(.double (FP.i2d kk))])) rfl (hb hby at_17) t k) ?_
    show F (s₁.setTop (mkF m 20 #[.val (.int p0), .val (.int p1), .val (.int p2), .val (.int p3), .val (.int pp), .val (.int kk), .unset, .unset, .unset, .unset, .unset, .unset, .unset, .unset, .unset, .unset, .unset, .unset, .unset, .unset, .unset, .unset, .unset, .unset] [(.double (4634204016564240384 : UInt64)), (.double (FP.i2d kk))]))
    refine bk (fun t k => XS.ddivS X0.here hx rfl (hb hby at_20) rfl (own_nn (own_pf hAll.1)) (v := (own_E kk)) rfl k) ?_
    show F (s₁.setTop (mkF m 21 #[.val (.int p0), .val (.int p1), .val (.int p2), .val (.int p3), .val (.int pp), .val (.int kk), .unset, .unset, .unset, .unset, .unset, .unset, .unset, .unset, .unset, .unset, .unset, .unset, .unset, .unset, .unset, .unset, .unset, .unset] [(.double (own_E kk))]))
    refine bk (fun t k => XS.dstore X0.here hx rfl (hb hby at_21) rfl (l' := #[.val (.int p0), .val (.int p1), .val (.int p2), .val (.int p3), .val (.int pp), .val (.int kk), .val (.double (own_E kk)), .second, .unset, .unset, .unset, .unset, .unset, .unset, .unset, .unset, .unset, .unset, .unset, .unset, .unset, .unset, .unset, .unset]) rfl k) ?_
    show F (s₁.setTop (mkF m 23 #[.val (.int p0), .val (.int p1), .val (.int p2), .val (.int p3), .val (.int pp), .val (.int kk), .val (.double (own_E kk)), .second, .unset, .unset, .unset, .unset, .unset, .unset, .unset, .unset, .unset, .unset, .unset, .unset, .unset, .unset, .unset, .unset] []))
    obtain ⟨T2, h2, X2, e2, E2, A2, D2, -, st2⟩ := newO X0 hx hZ hown w_2 w_3 w_4 e0 (g := (mkF m 23 #[.val (.int p0), .val (.int p1), .val (.int p2), .val (.int p3), .val (.int pp), .val (.int kk), .val (.double (own_E kk)), .second, .unset, .unset, .unset, .unset, .unset, .unset, .unset, .unset, .unset, .unset, .unset, .unset, .unset, .unset, .unset, .unset] [])) rfl (hb hby at_23) (by decide) (by decide)
    obtain ⟨b2, g2⟩ : ∃ z, z = h0.size := ⟨_, rfl⟩
    rw [← g2] at A2 D2 st2
    have Gb2 : n0 ≤ b2 := Nat.le_trans Z0 (Nat.le_of_eq g2.symm)
    have f3 := Nat.le_trans Z0 E2.1
    have F_down_b2 : Fld Z h2 b2 "com/example/lone1/lone1/math/SumBounds" "down" "D" (.double (0 : UInt64)) := D2 (Or.inr w_14) (ty := .double) (by decide)
    have F_up_b2 : Fld Z h2 b2 "com/example/lone1/lone1/math/SumBounds" "up" "D" (.double (0 : UInt64)) := D2 (Or.inr w_17) (ty := .double) (by decide)
    refine bk (fun t k => st2 t k) ?_
    refine bk (fun t k => XS.dup X2.here hx rfl (hb hby at_26) rfl rfl k) ?_
    refine bk (fun t k => XS.iload X2.here hx rfl (hb hby at_27) rfl k) ?_
    show F (T2.setTop (mkF m 29 #[.val (.int p0), .val (.int p1), .val (.int p2), .val (.int p3), .val (.int pp), .val (.int kk), .val (.double (own_E kk)), .second, .unset, .unset, .unset, .unset, .unset, .unset, .unset, .unset, .unset, .unset, .unset, .unset, .unset, .unset, .unset, .unset] [(.int pp), (.ref b2), (.ref b2)]))
    refine bk (fun t k => XS.dload X2.here hx rfl (hb hby at_29) rfl k) ?_
    show F (T2.setTop (mkF m 31 #[.val (.int p0), .val (.int p1), .val (.int p2), .val (.int p3), .val (.int pp), .val (.int kk), .val (.double (own_E kk)), .second, .unset, .unset, .unset, .unset, .unset, .unset, .unset, .unset, .unset, .unset, .unset, .unset, .unset, .unset, .unset, .unset] [(.double (own_E kk)), (.int pp), (.ref b2), (.ref b2)]))
    obtain ⟨_, _, ⟨T4, L4, k4, n4⟩, -, X4, ⟨Lc4, hQ4, l4, y4, z4⟩, st4⟩ := X2.specialBack hx (y := (⟨"com/example/lone1/lone1/math/SumBounds", "<init>", "(ID)V"⟩ : MethodName)) rfl hown (mvT hZ w_5) (mvT hZ w_6) (mvT hZ w_7) (by decide) (backOf (W := 1) (rm1_s l Z a0 hw [] b2 pp (own_E kk) h2 n0 f3 A2 F_down_b2 F_up_b2 Gb2 (own_pf hAll.2.1) (own_pf hAll.2.2.1) hAll.2.2.2.1 hSml.1 (own_pf hAll.2.2.2.2.1) (own_pf hAll.2.2.2.2.2)) hZ w_7 w_4 (by decide) (by decide)) (g := (mkF m 31 #[.val (.int p0), .val (.int p1), .val (.int p2), .val (.int p3), .val (.int pp), .val (.int kk), .val (.double (own_E kk)), .second, .unset, .unset, .unset, .unset, .unset, .unset, .unset, .unset, .unset, .unset, .unset, .unset, .unset, .unset, .unset, .unset] [(.double (own_E kk)), (.int pp), (.ref b2), (.ref b2)])) rfl (by rw [hml]; rfl) (Steps.refl _) (a := b2) (argsL := [(.int pp), (.double (own_E kk))]) (rest := [(.ref b2)]) (lenOf pd0__ID_V rfl) rfl (by show 2 * 0 + _ ≤ _; exact Nat.le_of_eq rfl) (hb hby at_31) (fun _ _ => ⟨rfl, e2, (by decide : 1 + 0 ≤ _), (by decide : 2 + 0 ≤ _)⟩)
    dsimp only [Pt.U, Pt.locs, Pt.cells, Pt.slots] at X4 l4 y4 z4 st4 hQ4
    subst l4 y4 z4
    obtain ⟨rfl, N4q, K4, gE4, gU4⟩ := hQ4
    have N4 := Fr.app N0 N4q
    have f5 := Nat.le_trans f3 K4.1
    have f6 := A2.keep K4
    refine bk (fun t k => st4.trans k) ?_
    show F (T4.setTop (mkF m 34 #[.val (.int p0), .val (.int p1), .val (.int p2), .val (.int p3), .val (.int pp), .val (.int kk), .val (.double (own_E kk)), .second, .unset, .unset, .unset, .unset, .unset, .unset, .unset, .unset, .unset, .unset, .unset, .unset, .unset, .unset, .unset, .unset] [(.ref b2)]))
    refine bk (fun t k => XS.astore X4.here hx rfl (hb hby at_34) rfl rfl (l' := #[.val (.int p0), .val (.int p1), .val (.int p2), .val (.int p3), .val (.int pp), .val (.int kk), .val (.double (own_E kk)), .second, .val (.ref b2), .unset, .unset, .unset, .unset, .unset, .unset, .unset, .unset, .unset, .unset, .unset, .unset, .unset, .unset, .unset]) rfl k) ?_
    refine bk (fun t k => XS.iloadN X4.here hx rfl (hb hby at_36) rfl k) ?_
    show F (T4.setTop (mkF m 37 #[.val (.int p0), .val (.int p1), .val (.int p2), .val (.int p3), .val (.int pp), .val (.int kk), .val (.double (own_E kk)), .second, .val (.ref b2), .unset, .unset, .unset, .unset, .unset, .unset, .unset, .unset, .unset, .unset, .unset, .unset, .unset, .unset, .unset] [(.int p3)]))
    refine bk (fun t k => X4.ldcInt hx hown (mvT hZ w_18) (g := (mkF m 37 #[.val (.int p0), .val (.int p1), .val (.int p2), .val (.int p3), .val (.int pp), .val (.int kk), .val (.double (own_E kk)), .second, .val (.ref b2), .unset, .unset, .unset, .unset, .unset, .unset, .unset, .unset, .unset, .unset, .unset, .unset, .unset, .unset, .unset] [(.int p3)])) rfl (hb hby at_37) t k) ?_
    show F (T4.setTop (mkF m 39 #[.val (.int p0), .val (.int p1), .val (.int p2), .val (.int p3), .val (.int pp), .val (.int kk), .val (.double (own_E kk)), .second, .val (.ref b2), .unset, .unset, .unset, .unset, .unset, .unset, .unset, .unset, .unset, .unset, .unset, .unset, .unset, .unset, .unset] [(.int (2147483647 : Int32)), (.int p3)]))
    refine bk (fun t k => XS.iand X4.here hx rfl (hb hby at_39) rfl k) ?_
    show F (T4.setTop (mkF m 40 #[.val (.int p0), .val (.int p1), .val (.int p2), .val (.int p3), .val (.int pp), .val (.int kk), .val (.double (own_E kk)), .second, .val (.ref b2), .unset, .unset, .unset, .unset, .unset, .unset, .unset, .unset, .unset, .unset, .unset, .unset, .unset, .unset, .unset] [(.int (p3 &&& (2147483647 : Int32)))]))
    refine bk (fun t k => XS.istore X4.here hx rfl (hb hby at_40) rfl (l' := #[.val (.int p0), .val (.int p1), .val (.int p2), .val (.int p3), .val (.int pp), .val (.int kk), .val (.double (own_E kk)), .second, .val (.ref b2), .val (.int (p3 &&& (2147483647 : Int32))), .unset, .unset, .unset, .unset, .unset, .unset, .unset, .unset, .unset, .unset, .unset, .unset, .unset, .unset]) rfl k) ?_
    refine bk (fun t k => XS.iloadN X4.here hx rfl (hb hby at_42) rfl k) ?_
    refine bk (fun t k => XS.iconst X4.here hx rfl (hb hby at_43) k) ?_
    show F (T4.setTop (mkF m 44 #[.val (.int p0), .val (.int p1), .val (.int p2), .val (.int p3), .val (.int pp), .val (.int kk), .val (.double (own_E kk)), .second, .val (.ref b2), .val (.int (p3 &&& (2147483647 : Int32))), .unset, .unset, .unset, .unset, .unset, .unset, .unset, .unset, .unset, .unset, .unset, .unset, .unset, .unset] [(.int (3 : Int32)), (.int p2)]))
    refine bk (fun t k => XS.iand X4.here hx rfl (hb hby at_44) rfl k) ?_
    show F (T4.setTop (mkF m 45 #[.val (.int p0), .val (.int p1), .val (.int p2), .val (.int p3), .val (.int pp), .val (.int kk), .val (.double (own_E kk)), .second, .val (.ref b2), .val (.int (p3 &&& (2147483647 : Int32))), .unset, .unset, .unset, .unset, .unset, .unset, .unset, .unset, .unset, .unset, .unset, .unset, .unset, .unset] [(.int (p2 &&& (3 : Int32)))]))
    refine bk (fun t k => XS.istore X4.here hx rfl (hb hby at_45) rfl (l' := #[.val (.int p0), .val (.int p1), .val (.int p2), .val (.int p3), .val (.int pp), .val (.int kk), .val (.double (own_E kk)), .second, .val (.ref b2), .val (.int (p3 &&& (2147483647 : Int32))), .val (.int (p2 &&& (3 : Int32))), .unset, .unset, .unset, .unset, .unset, .unset, .unset, .unset, .unset, .unset, .unset, .unset, .unset]) rfl k) ?_
    have J95 : ∀ (sm : UInt64) (hsm : own_PN sm), F (T4.setTop (mkF m 95 #[.val (.int p0), .val (.int p1), .val (.int p2), .val (.int p3), .val (.int pp), .val (.int kk), .val (.double (own_E kk)), .second, .val (.ref b2), .val (.int (p3 &&& (2147483647 : Int32))), .val (.int (p2 &&& (3 : Int32))), .val (.double sm), .second, .unset, .unset, .unset, .unset, .unset, .unset, .unset, .unset, .unset, .unset, .unset] [])) := by
      intro sm hsm
      have lw := own_mulS hsm hSml.2.2.2.2.1 hSml.2.2.1 hAll.2.2.2.2.2 hSml.2.2.2.2.2.1
      have hw2 := own_mulS hsm (Nat.lt_of_lt_of_le hSml.2.2.2.2.1 hSml.2.2.2.2.2.1) hAll.2.2.2.2.2 hSml.2.2.2.1 hSml.2.2.2.2.2.2
      have pR := own_ab_pn lw.2.1
      refine bk (fun t k => XS.iloadN X4.here hx rfl (hb hby at_95) rfl k) ?_
      refine bk (fun t k => XS.iconst X4.here hx rfl (hb hby at_96) k) ?_
      show F (T4.setTop (mkF m 97 #[.val (.int p0), .val (.int p1), .val (.int p2), .val (.int p3), .val (.int pp), .val (.int kk), .val (.double (own_E kk)), .second, .val (.ref b2), .val (.int (p3 &&& (2147483647 : Int32))), .val (.int (p2 &&& (3 : Int32))), .val (.double sm), .second, .unset, .unset, .unset, .unset, .unset, .unset, .unset, .unset, .unset, .unset, .unset] [(.int (2 : Int32)), (.int p2)]))
      refine bk (fun t k => XS.ishr X4.here hx rfl (hb hby at_97) rfl k) ?_
      refine bk (fun t k => XS.iconst X4.here hx rfl (hb hby at_98) k) ?_
      show F (T4.setTop (mkF m 99 #[.val (.int p0), .val (.int p1), .val (.int p2), .val (.int p3), .val (.int pp), .val (.int kk), .val (.double (own_E kk)), .second, .val (.ref b2), .val (.int (p3 &&& (2147483647 : Int32))), .val (.int (p2 &&& (3 : Int32))), .val (.double sm), .second, .unset, .unset, .unset, .unset, .unset, .unset, .unset, .unset, .unset, .unset, .unset] [(.int (1 : Int32)), (.int (p2 >>> ((2 : Int32) &&& 31)))]))
      refine bk (fun t k => XS.iand X4.here hx rfl (hb hby at_99) rfl k) ?_
      show F (T4.setTop (mkF m 100 #[.val (.int p0), .val (.int p1), .val (.int p2), .val (.int p3), .val (.int pp), .val (.int kk), .val (.double (own_E kk)), .second, .val (.ref b2), .val (.int (p3 &&& (2147483647 : Int32))), .val (.int (p2 &&& (3 : Int32))), .val (.double sm), .second, .unset, .unset, .unset, .unset, .unset, .unset, .unset, .unset, .unset, .unset, .unset] [(.int ((p2 >>> ((2 : Int32) &&& 31)) &&& (1 : Int32)))]))
      by_cases hc100_7 : ((p2 >>> ((2 : Int32) &&& 31)) &&& (1 : Int32)) = (0 : Int32)
      · refine bk (fun t k => XS.ifYes X4.here hx rfl (pc0 := 100) (pc' := 107) rfl (hb hby at_100) rfl ((if0 _ _).trans (teq hc100_7).1) (by decide) (by decide) k) ?_
        refine bk (fun t k => XS.iconst X4.here hx rfl (hb hby at_107) k) ?_
        show F (T4.setTop (mkF m 108 #[.val (.int p0), .val (.int p1), .val (.int p2), .val (.int p3), .val (.int pp), .val (.int kk), .val (.double (own_E kk)), .second, .val (.ref b2), .val (.int (p3 &&& (2147483647 : Int32))), .val (.int (p2 &&& (3 : Int32))), .val (.double sm), .second, .unset, .unset, .unset, .unset, .unset, .unset, .unset, .unset, .unset, .unset, .unset] [(.int (0 : Int32))]))
        refine bk (fun t k => XS.istore X4.here hx rfl (hb hby at_108) rfl (l' := #[.val (.int p0), .val (.int p1), .val (.int p2), .val (.int p3), .val (.int pp), .val (.int kk), .val (.double (own_E kk)), .second, .val (.ref b2), .val (.int (p3 &&& (2147483647 : Int32))), .val (.int (p2 &&& (3 : Int32))), .val (.double sm), .second, .val (.int (0 : Int32)), .unset, .unset, .unset, .unset, .unset, .unset, .unset, .unset, .unset, .unset]) rfl k) ?_
        refine bk (fun t k => XS.aload X4.here hx rfl (hb hby at_110) rfl rfl k) ?_
        show F (T4.setTop (mkF m 112 #[.val (.int p0), .val (.int p1), .val (.int p2), .val (.int p3), .val (.int pp), .val (.int kk), .val (.double (own_E kk)), .second, .val (.ref b2), .val (.int (p3 &&& (2147483647 : Int32))), .val (.int (p2 &&& (3 : Int32))), .val (.double sm), .second, .val (.int (0 : Int32)), .unset, .unset, .unset, .unset, .unset, .unset, .unset, .unset, .unset, .unset] [(.ref b2)]))
        refine bk (fun t k => XS.dload X4.here hx rfl (hb hby at_112) rfl k) ?_
        refine bk (fun t k => XS.iload X4.here hx rfl (hb hby at_114) rfl k) ?_
        show F (T4.setTop (mkF m 116 #[.val (.int p0), .val (.int p1), .val (.int p2), .val (.int p3), .val (.int pp), .val (.int kk), .val (.double (own_E kk)), .second, .val (.ref b2), .val (.int (p3 &&& (2147483647 : Int32))), .val (.int (p2 &&& (3 : Int32))), .val (.double sm), .second, .val (.int (0 : Int32)), .unset, .unset, .unset, .unset, .unset, .unset, .unset, .unset, .unset, .unset] [(.int (0 : Int32)), (.double sm), (.ref b2)]))
        obtain ⟨cq8, kq8, q8a, q8b, q8c⟩ := isOf hZ rfl (gE4)
        obtain ⟨_, _, ⟨T8, L8, k8, n8⟩, -, X8, ⟨Lc8, hQ8, l8, y8, z8⟩, st8⟩ := X4.virtualBack hx (y := (⟨"com/example/lone1/lone1/math/SumBounds", "above", "(DZ)D"⟩ : MethodName)) (z := (⟨"com/example/lone1/lone1/math/SumBounds", "above", "(DZ)D"⟩ : MethodName)) hown (mvT hZ w_19) (mvT hZ w_20) (notFace_of_selects (args := #[]) (mvT hZ w_22)) (mvT hZ w_22) (mvT hZ w_21) (by decide) (backOf (W := 0) (rm3_f l Z a0 hw [] b2 sm T4.heap n0 f5) hZ w_23 w_4 (by decide) (by decide)) q8a q8c (g := (mkF m 116 #[.val (.int p0), .val (.int p1), .val (.int p2), .val (.int p3), .val (.int pp), .val (.int kk), .val (.double (own_E kk)), .second, .val (.ref b2), .val (.int (p3 &&& (2147483647 : Int32))), .val (.int (p2 &&& (3 : Int32))), .val (.double sm), .second, .val (.int (0 : Int32)), .unset, .unset, .unset, .unset, .unset, .unset, .unset, .unset, .unset, .unset] [(.int (0 : Int32)), (.double sm), (.ref b2)])) rfl (by rw [hml]; rfl) (Steps.refl _) (argsL := [(.double sm), (.int (0 : Int32))]) (rest := []) (lenOf pd0__DZ_D rfl) rfl (by show 2 * 0 + _ ≤ _; exact Nat.le_of_eq rfl) (hb hby at_116) (fun _ _ => ⟨rfl, rfl, (by decide : 1 + 0 ≤ _), (by decide : 2 + 0 ≤ _)⟩)
        dsimp only [Pt.U, Pt.locs, Pt.cells, Pt.slots] at X8 l8 y8 z8 st8 hQ8
        subst l8 y8 z8
        obtain ⟨rfl, N8q, e8⟩ := hQ8
        have N8 := Fr.app N4 N8q
        refine bk (fun t k => st8.trans k) ?_
        show F (T8.setTop (mkF m 119 #[.val (.int p0), .val (.int p1), .val (.int p2), .val (.int p3), .val (.int pp), .val (.int kk), .val (.double (own_E kk)), .second, .val (.ref b2), .val (.int (p3 &&& (2147483647 : Int32))), .val (.int (p2 &&& (3 : Int32))), .val (.double sm), .second, .val (.int (0 : Int32)), .unset, .unset, .unset, .unset, .unset, .unset, .unset, .unset, .unset, .unset] [(.double (0 : UInt64))]))
        refine bk (fun t k => XS.dstore X8.here hx rfl (hb hby at_119) rfl (l' := #[.val (.int p0), .val (.int p1), .val (.int p2), .val (.int p3), .val (.int pp), .val (.int kk), .val (.double (own_E kk)), .second, .val (.ref b2), .val (.int (p3 &&& (2147483647 : Int32))), .val (.int (p2 &&& (3 : Int32))), .val (.double sm), .second, .val (.int (0 : Int32)), .val (.double (0 : UInt64)), .second, .unset, .unset, .unset, .unset, .unset, .unset, .unset, .unset]) rfl k) ?_
        refine bk (fun t k => XS.iload X8.here hx rfl (hb hby at_121) rfl k) ?_
        show F (T8.setTop (mkF m 123 #[.val (.int p0), .val (.int p1), .val (.int p2), .val (.int p3), .val (.int pp), .val (.int kk), .val (.double (own_E kk)), .second, .val (.ref b2), .val (.int (p3 &&& (2147483647 : Int32))), .val (.int (p2 &&& (3 : Int32))), .val (.double sm), .second, .val (.int (0 : Int32)), .val (.double (0 : UInt64)), .second, .unset, .unset, .unset, .unset, .unset, .unset, .unset, .unset] [(.int (0 : Int32))]))
        refine bk (fun t k => XS.ifNo X8.here hx rfl (hb hby at_123) rfl ((if0 _ _).trans (teq (by decide : (0 : Int32) = (0 : Int32))).2) k) ?_
        show F (T8.setTop (mkF m 126 #[.val (.int p0), .val (.int p1), .val (.int p2), .val (.int p3), .val (.int pp), .val (.int kk), .val (.double (own_E kk)), .second, .val (.ref b2), .val (.int (p3 &&& (2147483647 : Int32))), .val (.int (p2 &&& (3 : Int32))), .val (.double sm), .second, .val (.int (0 : Int32)), .val (.double (0 : UInt64)), .second, .unset, .unset, .unset, .unset, .unset, .unset, .unset, .unset] []))
        refine bk (fun t k => XS.dload X8.here hx rfl (hb hby at_126) rfl k) ?_
        show F (T8.setTop (mkF m 128 #[.val (.int p0), .val (.int p1), .val (.int p2), .val (.int p3), .val (.int pp), .val (.int kk), .val (.double (own_E kk)), .second, .val (.ref b2), .val (.int (p3 &&& (2147483647 : Int32))), .val (.int (p2 &&& (3 : Int32))), .val (.double sm), .second, .val (.int (0 : Int32)), .val (.double (0 : UInt64)), .second, .unset, .unset, .unset, .unset, .unset, .unset, .unset, .unset] [(.double (0 : UInt64))]))
        refine bk (fun t k => XS.dconst0 X8.here hx rfl (hb hby at_128) (v := (0 : UInt64)) rfl k) ?_
        show F (T8.setTop (mkF m 129 #[.val (.int p0), .val (.int p1), .val (.int p2), .val (.int p3), .val (.int pp), .val (.int kk), .val (.double (own_E kk)), .second, .val (.ref b2), .val (.int (p3 &&& (2147483647 : Int32))), .val (.int (p2 &&& (3 : Int32))), .val (.double sm), .second, .val (.int (0 : Int32)), .val (.double (0 : UInt64)), .second, .unset, .unset, .unset, .unset, .unset, .unset, .unset, .unset] [(.double (0 : UInt64)), (.double (0 : UInt64))]))
        refine bk (fun t k => XS.dcmpS X8.here hx rfl (hb hby at_129) rfl (v := (own_c (0 : UInt64) (0 : UInt64))) (own_cmp own_pn0 own_pn0 _) k) ?_
        show F (T8.setTop (mkF m 130 #[.val (.int p0), .val (.int p1), .val (.int p2), .val (.int p3), .val (.int pp), .val (.int kk), .val (.double (own_E kk)), .second, .val (.ref b2), .val (.int (p3 &&& (2147483647 : Int32))), .val (.int (p2 &&& (3 : Int32))), .val (.double sm), .second, .val (.int (0 : Int32)), .val (.double (0 : UInt64)), .second, .unset, .unset, .unset, .unset, .unset, .unset, .unset, .unset] [(.int (own_c (0 : UInt64) (0 : UInt64)))]))
        refine bk (fun t k => XS.ifNo X8.here hx rfl (hb hby at_130) rfl ((if0 _ _).trans (teq (own_cz.mpr rfl)).2) k) ?_
        refine bk (fun t k => XS.iconst X8.here hx rfl (hb hby at_133) k) ?_
        refine bk (fun t k => XS.goto X8.here hx rfl (pc0 := 134) (pc' := 138) rfl (hb hby at_134) (by decide) (by decide) k) ?_
        show F (T8.setTop (mkF m 138 #[.val (.int p0), .val (.int p1), .val (.int p2), .val (.int p3), .val (.int pp), .val (.int kk), .val (.double (own_E kk)), .second, .val (.ref b2), .val (.int (p3 &&& (2147483647 : Int32))), .val (.int (p2 &&& (3 : Int32))), .val (.double sm), .second, .val (.int (0 : Int32)), .val (.double (0 : UInt64)), .second, .unset, .unset, .unset, .unset, .unset, .unset, .unset, .unset] [(.int (1 : Int32))]))
        rw [hF]
        refine own_retZ X8 hx Bd.notSynchronized Bd.returns (hb hby at_138) (by decide) (by decide) ?_
        rw [e8]
        exact ⟨rfl, N8⟩
      · refine bk (fun t k => XS.ifNo X4.here hx rfl (hb hby at_100) rfl ((if0 _ _).trans (feq hc100_7).1) k) ?_
        refine bk (fun t k => XS.iconst X4.here hx rfl (hb hby at_103) k) ?_
        refine bk (fun t k => XS.goto X4.here hx rfl (pc0 := 104) (pc' := 108) rfl (hb hby at_104) (by decide) (by decide) k) ?_
        show F (T4.setTop (mkF m 108 #[.val (.int p0), .val (.int p1), .val (.int p2), .val (.int p3), .val (.int pp), .val (.int kk), .val (.double (own_E kk)), .second, .val (.ref b2), .val (.int (p3 &&& (2147483647 : Int32))), .val (.int (p2 &&& (3 : Int32))), .val (.double sm), .second, .unset, .unset, .unset, .unset, .unset, .unset, .unset, .unset, .unset, .unset, .unset] [(.int (1 : Int32))]))
        refine bk (fun t k => XS.istore X4.here hx rfl (hb hby at_108) rfl (l' := #[.val (.int p0), .val (.int p1), .val (.int p2), .val (.int p3), .val (.int pp), .val (.int kk), .val (.double (own_E kk)), .second, .val (.ref b2), .val (.int (p3 &&& (2147483647 : Int32))), .val (.int (p2 &&& (3 : Int32))), .val (.double sm), .second, .val (.int (1 : Int32)), .unset, .unset, .unset, .unset, .unset, .unset, .unset, .unset, .unset, .unset]) rfl k) ?_
        refine bk (fun t k => XS.aload X4.here hx rfl (hb hby at_110) rfl rfl k) ?_
        show F (T4.setTop (mkF m 112 #[.val (.int p0), .val (.int p1), .val (.int p2), .val (.int p3), .val (.int pp), .val (.int kk), .val (.double (own_E kk)), .second, .val (.ref b2), .val (.int (p3 &&& (2147483647 : Int32))), .val (.int (p2 &&& (3 : Int32))), .val (.double sm), .second, .val (.int (1 : Int32)), .unset, .unset, .unset, .unset, .unset, .unset, .unset, .unset, .unset, .unset] [(.ref b2)]))
        refine bk (fun t k => XS.dload X4.here hx rfl (hb hby at_112) rfl k) ?_
        refine bk (fun t k => XS.iload X4.here hx rfl (hb hby at_114) rfl k) ?_
        show F (T4.setTop (mkF m 116 #[.val (.int p0), .val (.int p1), .val (.int p2), .val (.int p3), .val (.int pp), .val (.int kk), .val (.double (own_E kk)), .second, .val (.ref b2), .val (.int (p3 &&& (2147483647 : Int32))), .val (.int (p2 &&& (3 : Int32))), .val (.double sm), .second, .val (.int (1 : Int32)), .unset, .unset, .unset, .unset, .unset, .unset, .unset, .unset, .unset, .unset] [(.int (1 : Int32)), (.double sm), (.ref b2)]))
        obtain ⟨cq9, kq9, q9a, q9b, q9c⟩ := isOf hZ rfl (gE4)
        obtain ⟨_, _, ⟨T9, L9, k9, n9⟩, -, X9, ⟨Lc9, hQ9, l9, y9, z9⟩, st9⟩ := X4.virtualBack hx (y := (⟨"com/example/lone1/lone1/math/SumBounds", "above", "(DZ)D"⟩ : MethodName)) (z := (⟨"com/example/lone1/lone1/math/SumBounds", "above", "(DZ)D"⟩ : MethodName)) hown (mvT hZ w_19) (mvT hZ w_20) (notFace_of_selects (args := #[]) (mvT hZ w_22)) (mvT hZ w_22) (mvT hZ w_21) (by decide) (backOf (W := 0) (rm3_s l Z a0 hw [] b2 sm (own_u (own_X pp) (own_Y kk)) T4.heap n0 f5 gU4 hAll.2.2.2.2.2 lw.2.1) hZ w_23 w_4 (by decide) (by decide)) q9a q9c (g := (mkF m 116 #[.val (.int p0), .val (.int p1), .val (.int p2), .val (.int p3), .val (.int pp), .val (.int kk), .val (.double (own_E kk)), .second, .val (.ref b2), .val (.int (p3 &&& (2147483647 : Int32))), .val (.int (p2 &&& (3 : Int32))), .val (.double sm), .second, .val (.int (1 : Int32)), .unset, .unset, .unset, .unset, .unset, .unset, .unset, .unset, .unset, .unset] [(.int (1 : Int32)), (.double sm), (.ref b2)])) rfl (by rw [hml]; rfl) (Steps.refl _) (argsL := [(.double sm), (.int (1 : Int32))]) (rest := []) (lenOf pd0__DZ_D rfl) rfl (by show 2 * 0 + _ ≤ _; exact Nat.le_of_eq rfl) (hb hby at_116) (fun _ _ => ⟨rfl, rfl, (by decide : 1 + 0 ≤ _), (by decide : 2 + 0 ≤ _)⟩)
        dsimp only [Pt.U, Pt.locs, Pt.cells, Pt.slots] at X9 l9 y9 z9 st9 hQ9
        subst l9 y9 z9
        obtain ⟨rfl, N9q, e9⟩ := hQ9
        have N9 := Fr.app N4 N9q
        refine bk (fun t k => st9.trans k) ?_
        show F (T9.setTop (mkF m 119 #[.val (.int p0), .val (.int p1), .val (.int p2), .val (.int p3), .val (.int pp), .val (.int kk), .val (.double (own_E kk)), .second, .val (.ref b2), .val (.int (p3 &&& (2147483647 : Int32))), .val (.int (p2 &&& (3 : Int32))), .val (.double sm), .second, .val (.int (1 : Int32)), .unset, .unset, .unset, .unset, .unset, .unset, .unset, .unset, .unset, .unset] [(.double (own_ab (FP.dmul sm (own_u (own_X pp) (own_Y kk)))))]))
        refine bk (fun t k => XS.dstore X9.here hx rfl (hb hby at_119) rfl (l' := #[.val (.int p0), .val (.int p1), .val (.int p2), .val (.int p3), .val (.int pp), .val (.int kk), .val (.double (own_E kk)), .second, .val (.ref b2), .val (.int (p3 &&& (2147483647 : Int32))), .val (.int (p2 &&& (3 : Int32))), .val (.double sm), .second, .val (.int (1 : Int32)), .val (.double (own_ab (FP.dmul sm (own_u (own_X pp) (own_Y kk))))), .second, .unset, .unset, .unset, .unset, .unset, .unset, .unset, .unset]) rfl k) ?_
        refine bk (fun t k => XS.iload X9.here hx rfl (hb hby at_121) rfl k) ?_
        show F (T9.setTop (mkF m 123 #[.val (.int p0), .val (.int p1), .val (.int p2), .val (.int p3), .val (.int pp), .val (.int kk), .val (.double (own_E kk)), .second, .val (.ref b2), .val (.int (p3 &&& (2147483647 : Int32))), .val (.int (p2 &&& (3 : Int32))), .val (.double sm), .second, .val (.int (1 : Int32)), .val (.double (own_ab (FP.dmul sm (own_u (own_X pp) (own_Y kk))))), .second, .unset, .unset, .unset, .unset, .unset, .unset, .unset, .unset] [(.int (1 : Int32))]))
        refine bk (fun t k => XS.ifYes X9.here hx rfl (pc0 := 123) (pc' := 139) rfl (hb hby at_123) rfl ((if0 _ _).trans (feq (by decide : ¬ ((1 : Int32) = (0 : Int32)))).2) (by decide) (by decide) k) ?_
        refine bk (fun t k => XS.iload X9.here hx rfl (hb hby at_139) rfl k) ?_
        refine bk (fun t k => XS.bipush X9.here hx rfl (hb hby at_141) k) ?_
        show F (T9.setTop (mkF m 143 #[.val (.int p0), .val (.int p1), .val (.int p2), .val (.int p3), .val (.int pp), .val (.int kk), .val (.double (own_E kk)), .second, .val (.ref b2), .val (.int (p3 &&& (2147483647 : Int32))), .val (.int (p2 &&& (3 : Int32))), .val (.double sm), .second, .val (.int (1 : Int32)), .val (.double (own_ab (FP.dmul sm (own_u (own_X pp) (own_Y kk))))), .second, .unset, .unset, .unset, .unset, .unset, .unset, .unset, .unset] [(.int (8 : Int32)), (.int kk)]))
        refine bk (fun t k => XS.icmpYes X9.here hx rfl (pc0 := 143) (pc' := 161) rfl (hb hby at_143) rfl (tlt hc900_1).1 (by decide) (by decide) k) ?_
        show F (T9.setTop (mkF m 161 #[.val (.int p0), .val (.int p1), .val (.int p2), .val (.int p3), .val (.int pp), .val (.int kk), .val (.double (own_E kk)), .second, .val (.ref b2), .val (.int (p3 &&& (2147483647 : Int32))), .val (.int (p2 &&& (3 : Int32))), .val (.double sm), .second, .val (.int (1 : Int32)), .val (.double (own_ab (FP.dmul sm (own_u (own_X pp) (own_Y kk))))), .second, .unset, .unset, .unset, .unset, .unset, .unset, .unset, .unset] []))
        refine bk (fun t k => X9.ldc2DoubleC hx hown (mvT hZ w_26) (g := (mkF m 161 #[.val (.int p0), .val (.int p1), .val (.int p2), .val (.int p3), .val (.int pp), .val (.int kk), .val (.double (own_E kk)), .second, .val (.ref b2), .val (.int (p3 &&& (2147483647 : Int32))), .val (.int (p2 &&& (3 : Int32))), .val (.double sm), .second, .val (.int (1 : Int32)), .val (.double (own_ab (FP.dmul sm (own_u (own_X pp) (own_Y kk))))), .second, .unset, .unset, .unset, .unset, .unset, .unset, .unset, .unset] [])) rfl (hb hby at_161) t k) ?_
        show F (T9.setTop (mkF m 164 #[.val (.int p0), .val (.int p1), .val (.int p2), .val (.int p3), .val (.int pp), .val (.int kk), .val (.double (own_E kk)), .second, .val (.ref b2), .val (.int (p3 &&& (2147483647 : Int32))), .val (.int (p2 &&& (3 : Int32))), .val (.double sm), .second, .val (.int (1 : Int32)), .val (.double (own_ab (FP.dmul sm (own_u (own_X pp) (own_Y kk))))), .second, .unset, .unset, .unset, .unset, .unset, .unset, .unset, .unset] [(.double (288230376151711744 : UInt64))]))
        refine bk (fun t k => XS.dstore X9.here hx rfl (hb hby at_164) rfl (l' := #[.val (.int p0), .val (.int p1), .val (.int p2), .val (.int p3), .val (.int pp), .val (.int kk), .val (.double (own_E kk)), .second, .val (.ref b2), .val (.int (p3 &&& (2147483647 : Int32))), .val (.int (p2 &&& (3 : Int32))), .val (.double sm), .second, .val (.int (1 : Int32)), .val (.double (own_ab (FP.dmul sm (own_u (own_X pp) (own_Y kk))))), .second, .val (.double (288230376151711744 : UInt64)), .second, .unset, .unset, .unset, .unset, .unset, .unset]) rfl k) ?_
        show F (T9.setTop (mkF m 166 #[.val (.int p0), .val (.int p1), .val (.int p2), .val (.int p3), .val (.int pp), .val (.int kk), .val (.double (own_E kk)), .second, .val (.ref b2), .val (.int (p3 &&& (2147483647 : Int32))), .val (.int (p2 &&& (3 : Int32))), .val (.double sm), .second, .val (.int (1 : Int32)), .val (.double (own_ab (FP.dmul sm (own_u (own_X pp) (own_Y kk))))), .second, .val (.double (288230376151711744 : UInt64)), .second, .unset, .unset, .unset, .unset, .unset, .unset] []))
        refine bk (fun t k => XS.dload X9.here hx rfl (hb hby at_166) rfl k) ?_
        show F (T9.setTop (mkF m 168 #[.val (.int p0), .val (.int p1), .val (.int p2), .val (.int p3), .val (.int pp), .val (.int kk), .val (.double (own_E kk)), .second, .val (.ref b2), .val (.int (p3 &&& (2147483647 : Int32))), .val (.int (p2 &&& (3 : Int32))), .val (.double sm), .second, .val (.int (1 : Int32)), .val (.double (own_ab (FP.dmul sm (own_u (own_X pp) (own_Y kk))))), .second, .val (.double (288230376151711744 : UInt64)), .second, .unset, .unset, .unset, .unset, .unset, .unset] [(.double sm)]))
        refine bk (fun t k => XS.dconst1 X9.here hx rfl (hb hby at_168) (v := (4607182418800017408 : UInt64)) rfl k) ?_
        refine bk (fun t k => XS.iload X9.here hx rfl (hb hby at_169) rfl k) ?_
        show F (T9.setTop (mkF m 171 #[.val (.int p0), .val (.int p1), .val (.int p2), .val (.int p3), .val (.int pp), .val (.int kk), .val (.double (own_E kk)), .second, .val (.ref b2), .val (.int (p3 &&& (2147483647 : Int32))), .val (.int (p2 &&& (3 : Int32))), .val (.double sm), .second, .val (.int (1 : Int32)), .val (.double (own_ab (FP.dmul sm (own_u (own_X pp) (own_Y kk))))), .second, .val (.double (288230376151711744 : UInt64)), .second, .unset, .unset, .unset, .unset, .unset, .unset] [(.int kk), (.double (4607182418800017408 : UInt64)), (.double sm)]))
        refine bk (fun t k => XS.i2dS X9.here hx rfl (hb hby at_171) rfl (v := (FP.i2d kk)) rfl k) ?_
        show F (T9.setTop (mkF m 172 #[.val (.int p0), .val (.int p1), .val (.int p2), .val (.int p3), .val (.int pp), .val (.int kk), .val (.double (own_E kk)), .second, .val (.ref b2), .val (.int (p3 &&& (2147483647 : Int32))), .val (.int (p2 &&& (3 : Int32))), .val (.double sm), .second, .val (.int (1 : Int32)), .val (.double (own_ab (FP.dmul sm (own_u (own_X pp) (own_Y kk))))), .second, .val (.double (288230376151711744 : UInt64)), .second, .unset, .unset, .unset, .unset, .unset, .unset] [(.double (FP.i2d kk)), (.double (4607182418800017408 : UInt64)), (.double sm)]))
        refine bk (fun t k => X9.ldc2DoubleC hx hown (mvT hZ w_27) (g := (mkF m 172 #[.val (.int p0), .val (.int p1), .val (.int p2), .val (.int p3), .val (.int pp), .val (.int kk), .val (.double (own_E kk)), .second, .val (.ref b2), .val (.int (p3 &&& (2147483647 : Int32))), .val (.int (p2 &&& (3 : Int32))), .val (.double sm), .second, .val (.int (1 : Int32)), .val (.double (own_ab (FP.dmul sm (own_u (own_X pp) (own_Y kk))))), .second, .val (.double (288230376151711744 : UInt64)), .second, .unset, .unset, .unset, .unset, .unset, .unset] [(.double (FP.i2d kk)), (.double (4607182418800017408 : UInt64)), (.double sm)])) rfl (hb hby at_172) t k) ?_
        show F (T9.setTop (mkF m 175 #[.val (.int p0), .val (.int p1), .val (.int p2), .val (.int p3), .val (.int pp), .val (.int kk), .val (.double (own_E kk)), .second, .val (.ref b2), .val (.int (p3 &&& (2147483647 : Int32))), .val (.int (p2 &&& (3 : Int32))), .val (.double sm), .second, .val (.int (1 : Int32)), .val (.double (own_ab (FP.dmul sm (own_u (own_X pp) (own_Y kk))))), .second, .val (.double (288230376151711744 : UInt64)), .second, .unset, .unset, .unset, .unset, .unset, .unset] [(.double (4625196817309499392 : UInt64)), (.double (FP.i2d kk)), (.double (4607182418800017408 : UInt64)), (.double sm)]))
        refine bk (fun t k => XS.ddivS X9.here hx rfl (hb hby at_175) rfl (own_nn (own_pf hSml.2.1)) (v := (own_G kk)) rfl k) ?_
        show F (T9.setTop (mkF m 176 #[.val (.int p0), .val (.int p1), .val (.int p2), .val (.int p3), .val (.int pp), .val (.int kk), .val (.double (own_E kk)), .second, .val (.ref b2), .val (.int (p3 &&& (2147483647 : Int32))), .val (.int (p2 &&& (3 : Int32))), .val (.double sm), .second, .val (.int (1 : Int32)), .val (.double (own_ab (FP.dmul sm (own_u (own_X pp) (own_Y kk))))), .second, .val (.double (288230376151711744 : UInt64)), .second, .unset, .unset, .unset, .unset, .unset, .unset] [(.double (own_G kk)), (.double (4607182418800017408 : UInt64)), (.double sm)]))
        refine bk (fun t k => XS.daddS X9.here hx rfl (hb hby at_176) rfl (own_nn (own_pf hSml.2.2.1)) (v := (own_F1 kk)) rfl k) ?_
        show F (T9.setTop (mkF m 177 #[.val (.int p0), .val (.int p1), .val (.int p2), .val (.int p3), .val (.int pp), .val (.int kk), .val (.double (own_E kk)), .second, .val (.ref b2), .val (.int (p3 &&& (2147483647 : Int32))), .val (.int (p2 &&& (3 : Int32))), .val (.double sm), .second, .val (.int (1 : Int32)), .val (.double (own_ab (FP.dmul sm (own_u (own_X pp) (own_Y kk))))), .second, .val (.double (288230376151711744 : UInt64)), .second, .unset, .unset, .unset, .unset, .unset, .unset] [(.double (own_F1 kk)), (.double sm)]))
        refine bk (fun t k => XS.dmulS X9.here hx rfl (hb hby at_177) rfl (own_nn lw.1) (v := (FP.dmul sm (own_F1 kk))) rfl k) ?_
        show F (T9.setTop (mkF m 178 #[.val (.int p0), .val (.int p1), .val (.int p2), .val (.int p3), .val (.int pp), .val (.int kk), .val (.double (own_E kk)), .second, .val (.ref b2), .val (.int (p3 &&& (2147483647 : Int32))), .val (.int (p2 &&& (3 : Int32))), .val (.double sm), .second, .val (.int (1 : Int32)), .val (.double (own_ab (FP.dmul sm (own_u (own_X pp) (own_Y kk))))), .second, .val (.double (288230376151711744 : UInt64)), .second, .unset, .unset, .unset, .unset, .unset, .unset] [(.double (FP.dmul sm (own_F1 kk)))]))
        refine bk (fun t k => XS.dstore X9.here hx rfl (hb hby at_178) rfl (l' := #[.val (.int p0), .val (.int p1), .val (.int p2), .val (.int p3), .val (.int pp), .val (.int kk), .val (.double (own_E kk)), .second, .val (.ref b2), .val (.int (p3 &&& (2147483647 : Int32))), .val (.int (p2 &&& (3 : Int32))), .val (.double sm), .second, .val (.int (1 : Int32)), .val (.double (own_ab (FP.dmul sm (own_u (own_X pp) (own_Y kk))))), .second, .val (.double (288230376151711744 : UInt64)), .second, .val (.double (FP.dmul sm (own_F1 kk))), .second, .unset, .unset, .unset, .unset]) rfl k) ?_
        show F (T9.setTop (mkF m 180 #[.val (.int p0), .val (.int p1), .val (.int p2), .val (.int p3), .val (.int pp), .val (.int kk), .val (.double (own_E kk)), .second, .val (.ref b2), .val (.int (p3 &&& (2147483647 : Int32))), .val (.int (p2 &&& (3 : Int32))), .val (.double sm), .second, .val (.int (1 : Int32)), .val (.double (own_ab (FP.dmul sm (own_u (own_X pp) (own_Y kk))))), .second, .val (.double (288230376151711744 : UInt64)), .second, .val (.double (FP.dmul sm (own_F1 kk))), .second, .unset, .unset, .unset, .unset] []))
        refine bk (fun t k => XS.dload X9.here hx rfl (hb hby at_180) rfl k) ?_
        show F (T9.setTop (mkF m 182 #[.val (.int p0), .val (.int p1), .val (.int p2), .val (.int p3), .val (.int pp), .val (.int kk), .val (.double (own_E kk)), .second, .val (.ref b2), .val (.int (p3 &&& (2147483647 : Int32))), .val (.int (p2 &&& (3 : Int32))), .val (.double sm), .second, .val (.int (1 : Int32)), .val (.double (own_ab (FP.dmul sm (own_u (own_X pp) (own_Y kk))))), .second, .val (.double (288230376151711744 : UInt64)), .second, .val (.double (FP.dmul sm (own_F1 kk))), .second, .unset, .unset, .unset, .unset] [(.double sm)]))
        refine bk (fun t k => XS.dconst1 X9.here hx rfl (hb hby at_182) (v := (4607182418800017408 : UInt64)) rfl k) ?_
        refine bk (fun t k => XS.iload X9.here hx rfl (hb hby at_183) rfl k) ?_
        show F (T9.setTop (mkF m 185 #[.val (.int p0), .val (.int p1), .val (.int p2), .val (.int p3), .val (.int pp), .val (.int kk), .val (.double (own_E kk)), .second, .val (.ref b2), .val (.int (p3 &&& (2147483647 : Int32))), .val (.int (p2 &&& (3 : Int32))), .val (.double sm), .second, .val (.int (1 : Int32)), .val (.double (own_ab (FP.dmul sm (own_u (own_X pp) (own_Y kk))))), .second, .val (.double (288230376151711744 : UInt64)), .second, .val (.double (FP.dmul sm (own_F1 kk))), .second, .unset, .unset, .unset, .unset] [(.int kk), (.double (4607182418800017408 : UInt64)), (.double sm)]))
        refine bk (fun t k => XS.i2dS X9.here hx rfl (hb hby at_185) rfl (v := (FP.i2d kk)) rfl k) ?_
        show F (T9.setTop (mkF m 186 #[.val (.int p0), .val (.int p1), .val (.int p2), .val (.int p3), .val (.int pp), .val (.int kk), .val (.double (own_E kk)), .second, .val (.ref b2), .val (.int (p3 &&& (2147483647 : Int32))), .val (.int (p2 &&& (3 : Int32))), .val (.double sm), .second, .val (.int (1 : Int32)), .val (.double (own_ab (FP.dmul sm (own_u (own_X pp) (own_Y kk))))), .second, .val (.double (288230376151711744 : UInt64)), .second, .val (.double (FP.dmul sm (own_F1 kk))), .second, .unset, .unset, .unset, .unset] [(.double (FP.i2d kk)), (.double (4607182418800017408 : UInt64)), (.double sm)]))
        refine bk (fun t k => X9.ldc2DoubleC hx hown (mvT hZ w_27) (g := (mkF m 186 #[.val (.int p0), .val (.int p1), .val (.int p2), .val (.int p3), .val (.int pp), .val (.int kk), .val (.double (own_E kk)), .second, .val (.ref b2), .val (.int (p3 &&& (2147483647 : Int32))), .val (.int (p2 &&& (3 : Int32))), .val (.double sm), .second, .val (.int (1 : Int32)), .val (.double (own_ab (FP.dmul sm (own_u (own_X pp) (own_Y kk))))), .second, .val (.double (288230376151711744 : UInt64)), .second, .val (.double (FP.dmul sm (own_F1 kk))), .second, .unset, .unset, .unset, .unset] [(.double (FP.i2d kk)), (.double (4607182418800017408 : UInt64)), (.double sm)])) rfl (hb hby at_186) t k) ?_
        show F (T9.setTop (mkF m 189 #[.val (.int p0), .val (.int p1), .val (.int p2), .val (.int p3), .val (.int pp), .val (.int kk), .val (.double (own_E kk)), .second, .val (.ref b2), .val (.int (p3 &&& (2147483647 : Int32))), .val (.int (p2 &&& (3 : Int32))), .val (.double sm), .second, .val (.int (1 : Int32)), .val (.double (own_ab (FP.dmul sm (own_u (own_X pp) (own_Y kk))))), .second, .val (.double (288230376151711744 : UInt64)), .second, .val (.double (FP.dmul sm (own_F1 kk))), .second, .unset, .unset, .unset, .unset] [(.double (4625196817309499392 : UInt64)), (.double (FP.i2d kk)), (.double (4607182418800017408 : UInt64)), (.double sm)]))
        refine bk (fun t k => XS.ddivS X9.here hx rfl (hb hby at_189) rfl (own_nn (own_pf hSml.2.1)) (v := (own_G kk)) rfl k) ?_
        show F (T9.setTop (mkF m 190 #[.val (.int p0), .val (.int p1), .val (.int p2), .val (.int p3), .val (.int pp), .val (.int kk), .val (.double (own_E kk)), .second, .val (.ref b2), .val (.int (p3 &&& (2147483647 : Int32))), .val (.int (p2 &&& (3 : Int32))), .val (.double sm), .second, .val (.int (1 : Int32)), .val (.double (own_ab (FP.dmul sm (own_u (own_X pp) (own_Y kk))))), .second, .val (.double (288230376151711744 : UInt64)), .second, .val (.double (FP.dmul sm (own_F1 kk))), .second, .unset, .unset, .unset, .unset] [(.double (own_G kk)), (.double (4607182418800017408 : UInt64)), (.double sm)]))
        refine bk (fun t k => XS.daddS X9.here hx rfl (hb hby at_190) rfl (own_nn (own_pf hSml.2.2.1)) (v := (own_F1 kk)) rfl k) ?_
        show F (T9.setTop (mkF m 191 #[.val (.int p0), .val (.int p1), .val (.int p2), .val (.int p3), .val (.int pp), .val (.int kk), .val (.double (own_E kk)), .second, .val (.ref b2), .val (.int (p3 &&& (2147483647 : Int32))), .val (.int (p2 &&& (3 : Int32))), .val (.double sm), .second, .val (.int (1 : Int32)), .val (.double (own_ab (FP.dmul sm (own_u (own_X pp) (own_Y kk))))), .second, .val (.double (288230376151711744 : UInt64)), .second, .val (.double (FP.dmul sm (own_F1 kk))), .second, .unset, .unset, .unset, .unset] [(.double (own_F1 kk)), (.double sm)]))
        refine bk (fun t k => X9.ldc2DoubleC hx hown (mvT hZ w_28) (g := (mkF m 191 #[.val (.int p0), .val (.int p1), .val (.int p2), .val (.int p3), .val (.int pp), .val (.int kk), .val (.double (own_E kk)), .second, .val (.ref b2), .val (.int (p3 &&& (2147483647 : Int32))), .val (.int (p2 &&& (3 : Int32))), .val (.double sm), .second, .val (.int (1 : Int32)), .val (.double (own_ab (FP.dmul sm (own_u (own_X pp) (own_Y kk))))), .second, .val (.double (288230376151711744 : UInt64)), .second, .val (.double (FP.dmul sm (own_F1 kk))), .second, .unset, .unset, .unset, .unset] [(.double (own_F1 kk)), (.double sm)])) rfl (hb hby at_191) t k) ?_
        show F (T9.setTop (mkF m 194 #[.val (.int p0), .val (.int p1), .val (.int p2), .val (.int p3), .val (.int pp), .val (.int kk), .val (.double (own_E kk)), .second, .val (.ref b2), .val (.int (p3 &&& (2147483647 : Int32))), .val (.int (p2 &&& (3 : Int32))), .val (.double sm), .second, .val (.int (1 : Int32)), .val (.double (own_ab (FP.dmul sm (own_u (own_X pp) (own_Y kk))))), .second, .val (.double (288230376151711744 : UInt64)), .second, .val (.double (FP.dmul sm (own_F1 kk))), .second, .unset, .unset, .unset, .unset] [(.double (4562146422526312448 : UInt64)), (.double (own_F1 kk)), (.double sm)]))
        refine bk (fun t k => XS.daddS X9.here hx rfl (hb hby at_194) rfl (own_nn (own_pf hSml.2.2.2.1)) (v := (own_F2 kk)) rfl k) ?_
        show F (T9.setTop (mkF m 195 #[.val (.int p0), .val (.int p1), .val (.int p2), .val (.int p3), .val (.int pp), .val (.int kk), .val (.double (own_E kk)), .second, .val (.ref b2), .val (.int (p3 &&& (2147483647 : Int32))), .val (.int (p2 &&& (3 : Int32))), .val (.double sm), .second, .val (.int (1 : Int32)), .val (.double (own_ab (FP.dmul sm (own_u (own_X pp) (own_Y kk))))), .second, .val (.double (288230376151711744 : UInt64)), .second, .val (.double (FP.dmul sm (own_F1 kk))), .second, .unset, .unset, .unset, .unset] [(.double (own_F2 kk)), (.double sm)]))
        refine bk (fun t k => XS.dmulS X9.here hx rfl (hb hby at_195) rfl (own_nn hw2.2.1) (v := (FP.dmul sm (own_F2 kk))) rfl k) ?_
        show F (T9.setTop (mkF m 196 #[.val (.int p0), .val (.int p1), .val (.int p2), .val (.int p3), .val (.int pp), .val (.int kk), .val (.double (own_E kk)), .second, .val (.ref b2), .val (.int (p3 &&& (2147483647 : Int32))), .val (.int (p2 &&& (3 : Int32))), .val (.double sm), .second, .val (.int (1 : Int32)), .val (.double (own_ab (FP.dmul sm (own_u (own_X pp) (own_Y kk))))), .second, .val (.double (288230376151711744 : UInt64)), .second, .val (.double (FP.dmul sm (own_F1 kk))), .second, .unset, .unset, .unset, .unset] [(.double (FP.dmul sm (own_F2 kk)))]))
        refine bk (fun t k => XS.dstore X9.here hx rfl (hb hby at_196) rfl (l' := #[.val (.int p0), .val (.int p1), .val (.int p2), .val (.int p3), .val (.int pp), .val (.int kk), .val (.double (own_E kk)), .second, .val (.ref b2), .val (.int (p3 &&& (2147483647 : Int32))), .val (.int (p2 &&& (3 : Int32))), .val (.double sm), .second, .val (.int (1 : Int32)), .val (.double (own_ab (FP.dmul sm (own_u (own_X pp) (own_Y kk))))), .second, .val (.double (288230376151711744 : UInt64)), .second, .val (.double (FP.dmul sm (own_F1 kk))), .second, .val (.double (FP.dmul sm (own_F2 kk))), .second, .unset, .unset]) rfl k) ?_
        show F (T9.setTop (mkF m 198 #[.val (.int p0), .val (.int p1), .val (.int p2), .val (.int p3), .val (.int pp), .val (.int kk), .val (.double (own_E kk)), .second, .val (.ref b2), .val (.int (p3 &&& (2147483647 : Int32))), .val (.int (p2 &&& (3 : Int32))), .val (.double sm), .second, .val (.int (1 : Int32)), .val (.double (own_ab (FP.dmul sm (own_u (own_X pp) (own_Y kk))))), .second, .val (.double (288230376151711744 : UInt64)), .second, .val (.double (FP.dmul sm (own_F1 kk))), .second, .val (.double (FP.dmul sm (own_F2 kk))), .second, .unset, .unset] []))
        refine bk (fun t k => XS.dload X9.here hx rfl (hb hby at_198) rfl k) ?_
        show F (T9.setTop (mkF m 200 #[.val (.int p0), .val (.int p1), .val (.int p2), .val (.int p3), .val (.int pp), .val (.int kk), .val (.double (own_E kk)), .second, .val (.ref b2), .val (.int (p3 &&& (2147483647 : Int32))), .val (.int (p2 &&& (3 : Int32))), .val (.double sm), .second, .val (.int (1 : Int32)), .val (.double (own_ab (FP.dmul sm (own_u (own_X pp) (own_Y kk))))), .second, .val (.double (288230376151711744 : UInt64)), .second, .val (.double (FP.dmul sm (own_F1 kk))), .second, .val (.double (FP.dmul sm (own_F2 kk))), .second, .unset, .unset] [(.double (FP.dmul sm (own_F2 kk)))]))
        refine bk (fun t k => XS.dload X9.here hx rfl (hb hby at_200) rfl k) ?_
        show F (T9.setTop (mkF m 202 #[.val (.int p0), .val (.int p1), .val (.int p2), .val (.int p3), .val (.int pp), .val (.int kk), .val (.double (own_E kk)), .second, .val (.ref b2), .val (.int (p3 &&& (2147483647 : Int32))), .val (.int (p2 &&& (3 : Int32))), .val (.double sm), .second, .val (.int (1 : Int32)), .val (.double (own_ab (FP.dmul sm (own_u (own_X pp) (own_Y kk))))), .second, .val (.double (288230376151711744 : UInt64)), .second, .val (.double (FP.dmul sm (own_F1 kk))), .second, .val (.double (FP.dmul sm (own_F2 kk))), .second, .unset, .unset] [(.double (288230376151711744 : UInt64)), (.double (FP.dmul sm (own_F2 kk)))]))
        refine bk (fun t k => XS.dcmpS X9.here hx rfl (hb hby at_202) rfl (v := (own_c (FP.dmul sm (own_F2 kk)) (288230376151711744 : UInt64))) (own_cmp hw2.2.1 own_pnF _) k) ?_
        show F (T9.setTop (mkF m 203 #[.val (.int p0), .val (.int p1), .val (.int p2), .val (.int p3), .val (.int pp), .val (.int kk), .val (.double (own_E kk)), .second, .val (.ref b2), .val (.int (p3 &&& (2147483647 : Int32))), .val (.int (p2 &&& (3 : Int32))), .val (.double sm), .second, .val (.int (1 : Int32)), .val (.double (own_ab (FP.dmul sm (own_u (own_X pp) (own_Y kk))))), .second, .val (.double (288230376151711744 : UInt64)), .second, .val (.double (FP.dmul sm (own_F1 kk))), .second, .val (.double (FP.dmul sm (own_F2 kk))), .second, .unset, .unset] [(.int (own_c (FP.dmul sm (own_F2 kk)) (288230376151711744 : UInt64)))]))
        by_cases hc203_10 : (0 : Int32) < (own_c (FP.dmul sm (own_F2 kk)) (288230376151711744 : UInt64))
        · refine bk (fun t k => XS.ifNo X9.here hx rfl (hb hby at_203) rfl ((if0 _ _).trans (tlt hc203_10).2.2.2) k) ?_
          show F (T9.setTop (mkF m 206 #[.val (.int p0), .val (.int p1), .val (.int p2), .val (.int p3), .val (.int pp), .val (.int kk), .val (.double (own_E kk)), .second, .val (.ref b2), .val (.int (p3 &&& (2147483647 : Int32))), .val (.int (p2 &&& (3 : Int32))), .val (.double sm), .second, .val (.int (1 : Int32)), .val (.double (own_ab (FP.dmul sm (own_u (own_X pp) (own_Y kk))))), .second, .val (.double (288230376151711744 : UInt64)), .second, .val (.double (FP.dmul sm (own_F1 kk))), .second, .val (.double (FP.dmul sm (own_F2 kk))), .second, .unset, .unset] []))
          refine bk (fun t k => XS.dload X9.here hx rfl (hb hby at_206) rfl k) ?_
          refine bk (fun t k => XS.goto X9.here hx rfl (pc0 := 208) (pc' := 213) rfl (hb hby at_208) (by decide) (by decide) k) ?_
          show F (T9.setTop (mkF m 213 #[.val (.int p0), .val (.int p1), .val (.int p2), .val (.int p3), .val (.int pp), .val (.int kk), .val (.double (own_E kk)), .second, .val (.ref b2), .val (.int (p3 &&& (2147483647 : Int32))), .val (.int (p2 &&& (3 : Int32))), .val (.double sm), .second, .val (.int (1 : Int32)), .val (.double (own_ab (FP.dmul sm (own_u (own_X pp) (own_Y kk))))), .second, .val (.double (288230376151711744 : UInt64)), .second, .val (.double (FP.dmul sm (own_F1 kk))), .second, .val (.double (FP.dmul sm (own_F2 kk))), .second, .unset, .unset] [(.double (FP.dmul sm (own_F2 kk)))]))
          refine bk (fun t k => XS.dstore X9.here hx rfl (hb hby at_213) rfl (l' := #[.val (.int p0), .val (.int p1), .val (.int p2), .val (.int p3), .val (.int pp), .val (.int kk), .val (.double (own_E kk)), .second, .val (.ref b2), .val (.int (p3 &&& (2147483647 : Int32))), .val (.int (p2 &&& (3 : Int32))), .val (.double sm), .second, .val (.int (1 : Int32)), .val (.double (own_ab (FP.dmul sm (own_u (own_X pp) (own_Y kk))))), .second, .val (.double (288230376151711744 : UInt64)), .second, .val (.double (FP.dmul sm (own_F1 kk))), .second, .val (.double (FP.dmul sm (own_F2 kk))), .second, .val (.double (FP.dmul sm (own_F2 kk))), .second]) rfl k) ?_
          show F (T9.setTop (mkF m 215 #[.val (.int p0), .val (.int p1), .val (.int p2), .val (.int p3), .val (.int pp), .val (.int kk), .val (.double (own_E kk)), .second, .val (.ref b2), .val (.int (p3 &&& (2147483647 : Int32))), .val (.int (p2 &&& (3 : Int32))), .val (.double sm), .second, .val (.int (1 : Int32)), .val (.double (own_ab (FP.dmul sm (own_u (own_X pp) (own_Y kk))))), .second, .val (.double (288230376151711744 : UInt64)), .second, .val (.double (FP.dmul sm (own_F1 kk))), .second, .val (.double (FP.dmul sm (own_F2 kk))), .second, .val (.double (FP.dmul sm (own_F2 kk))), .second] []))
          refine bk (fun t k => XS.dload X9.here hx rfl (hb hby at_215) rfl k) ?_
          show F (T9.setTop (mkF m 217 #[.val (.int p0), .val (.int p1), .val (.int p2), .val (.int p3), .val (.int pp), .val (.int kk), .val (.double (own_E kk)), .second, .val (.ref b2), .val (.int (p3 &&& (2147483647 : Int32))), .val (.int (p2 &&& (3 : Int32))), .val (.double sm), .second, .val (.int (1 : Int32)), .val (.double (own_ab (FP.dmul sm (own_u (own_X pp) (own_Y kk))))), .second, .val (.double (288230376151711744 : UInt64)), .second, .val (.double (FP.dmul sm (own_F1 kk))), .second, .val (.double (FP.dmul sm (own_F2 kk))), .second, .val (.double (FP.dmul sm (own_F2 kk))), .second] [(.double (own_ab (FP.dmul sm (own_u (own_X pp) (own_Y kk)))))]))
          refine bk (fun t k => XS.dload X9.here hx rfl (hb hby at_217) rfl k) ?_
          show F (T9.setTop (mkF m 219 #[.val (.int p0), .val (.int p1), .val (.int p2), .val (.int p3), .val (.int pp), .val (.int kk), .val (.double (own_E kk)), .second, .val (.ref b2), .val (.int (p3 &&& (2147483647 : Int32))), .val (.int (p2 &&& (3 : Int32))), .val (.double sm), .second, .val (.int (1 : Int32)), .val (.double (own_ab (FP.dmul sm (own_u (own_X pp) (own_Y kk))))), .second, .val (.double (288230376151711744 : UInt64)), .second, .val (.double (FP.dmul sm (own_F1 kk))), .second, .val (.double (FP.dmul sm (own_F2 kk))), .second, .val (.double (FP.dmul sm (own_F2 kk))), .second] [(.double (288230376151711744 : UInt64)), (.double (own_ab (FP.dmul sm (own_u (own_X pp) (own_Y kk)))))]))
          refine bk (fun t k => XS.dcmpS X9.here hx rfl (hb hby at_219) rfl (v := (own_c (own_ab (FP.dmul sm (own_u (own_X pp) (own_Y kk)))) (288230376151711744 : UInt64))) (own_cmp pR own_pnF _) k) ?_
          show F (T9.setTop (mkF m 220 #[.val (.int p0), .val (.int p1), .val (.int p2), .val (.int p3), .val (.int pp), .val (.int kk), .val (.double (own_E kk)), .second, .val (.ref b2), .val (.int (p3 &&& (2147483647 : Int32))), .val (.int (p2 &&& (3 : Int32))), .val (.double sm), .second, .val (.int (1 : Int32)), .val (.double (own_ab (FP.dmul sm (own_u (own_X pp) (own_Y kk))))), .second, .val (.double (288230376151711744 : UInt64)), .second, .val (.double (FP.dmul sm (own_F1 kk))), .second, .val (.double (FP.dmul sm (own_F2 kk))), .second, .val (.double (FP.dmul sm (own_F2 kk))), .second] [(.int (own_c (own_ab (FP.dmul sm (own_u (own_X pp) (own_Y kk)))) (288230376151711744 : UInt64)))]))
          refine bk (fun t k => XS.ifNo X9.here hx rfl (hb hby at_220) rfl ((if0 _ _).trans (flt (fun q => absurd (own_cn.mp q) (Nat.not_lt.mpr (own_ab_ge _)))).1) k) ?_
          show F (T9.setTop (mkF m 223 #[.val (.int p0), .val (.int p1), .val (.int p2), .val (.int p3), .val (.int pp), .val (.int kk), .val (.double (own_E kk)), .second, .val (.ref b2), .val (.int (p3 &&& (2147483647 : Int32))), .val (.int (p2 &&& (3 : Int32))), .val (.double sm), .second, .val (.int (1 : Int32)), .val (.double (own_ab (FP.dmul sm (own_u (own_X pp) (own_Y kk))))), .second, .val (.double (288230376151711744 : UInt64)), .second, .val (.double (FP.dmul sm (own_F1 kk))), .second, .val (.double (FP.dmul sm (own_F2 kk))), .second, .val (.double (FP.dmul sm (own_F2 kk))), .second] []))
          refine bk (fun t k => XS.dload X9.here hx rfl (hb hby at_223) rfl k) ?_
          show F (T9.setTop (mkF m 225 #[.val (.int p0), .val (.int p1), .val (.int p2), .val (.int p3), .val (.int pp), .val (.int kk), .val (.double (own_E kk)), .second, .val (.ref b2), .val (.int (p3 &&& (2147483647 : Int32))), .val (.int (p2 &&& (3 : Int32))), .val (.double sm), .second, .val (.int (1 : Int32)), .val (.double (own_ab (FP.dmul sm (own_u (own_X pp) (own_Y kk))))), .second, .val (.double (288230376151711744 : UInt64)), .second, .val (.double (FP.dmul sm (own_F1 kk))), .second, .val (.double (FP.dmul sm (own_F2 kk))), .second, .val (.double (FP.dmul sm (own_F2 kk))), .second] [(.double (own_ab (FP.dmul sm (own_u (own_X pp) (own_Y kk)))))]))
          refine bk (fun t k => XS.dload X9.here hx rfl (hb hby at_225) rfl k) ?_
          show F (T9.setTop (mkF m 227 #[.val (.int p0), .val (.int p1), .val (.int p2), .val (.int p3), .val (.int pp), .val (.int kk), .val (.double (own_E kk)), .second, .val (.ref b2), .val (.int (p3 &&& (2147483647 : Int32))), .val (.int (p2 &&& (3 : Int32))), .val (.double sm), .second, .val (.int (1 : Int32)), .val (.double (own_ab (FP.dmul sm (own_u (own_X pp) (own_Y kk))))), .second, .val (.double (288230376151711744 : UInt64)), .second, .val (.double (FP.dmul sm (own_F1 kk))), .second, .val (.double (FP.dmul sm (own_F2 kk))), .second, .val (.double (FP.dmul sm (own_F2 kk))), .second] [(.double (FP.dmul sm (own_F1 kk))), (.double (own_ab (FP.dmul sm (own_u (own_X pp) (own_Y kk)))))]))
          refine bk (fun t k => XS.dcmpS X9.here hx rfl (hb hby at_227) rfl (v := (own_c (own_ab (FP.dmul sm (own_u (own_X pp) (own_Y kk)))) (FP.dmul sm (own_F1 kk)))) (own_cmp pR lw.1 _) k) ?_
          show F (T9.setTop (mkF m 228 #[.val (.int p0), .val (.int p1), .val (.int p2), .val (.int p3), .val (.int pp), .val (.int kk), .val (.double (own_E kk)), .second, .val (.ref b2), .val (.int (p3 &&& (2147483647 : Int32))), .val (.int (p2 &&& (3 : Int32))), .val (.double sm), .second, .val (.int (1 : Int32)), .val (.double (own_ab (FP.dmul sm (own_u (own_X pp) (own_Y kk))))), .second, .val (.double (288230376151711744 : UInt64)), .second, .val (.double (FP.dmul sm (own_F1 kk))), .second, .val (.double (FP.dmul sm (own_F2 kk))), .second, .val (.double (FP.dmul sm (own_F2 kk))), .second] [(.int (own_c (own_ab (FP.dmul sm (own_u (own_X pp) (own_Y kk)))) (FP.dmul sm (own_F1 kk))))]))
          refine bk (fun t k => XS.ifNo X9.here hx rfl (hb hby at_228) rfl ((if0 _ _).trans (flt (fun q => absurd (own_cn.mp q) (Nat.not_lt.mpr (own_ab_low lw.2.2)))).1) k) ?_
          show F (T9.setTop (mkF m 231 #[.val (.int p0), .val (.int p1), .val (.int p2), .val (.int p3), .val (.int pp), .val (.int kk), .val (.double (own_E kk)), .second, .val (.ref b2), .val (.int (p3 &&& (2147483647 : Int32))), .val (.int (p2 &&& (3 : Int32))), .val (.double sm), .second, .val (.int (1 : Int32)), .val (.double (own_ab (FP.dmul sm (own_u (own_X pp) (own_Y kk))))), .second, .val (.double (288230376151711744 : UInt64)), .second, .val (.double (FP.dmul sm (own_F1 kk))), .second, .val (.double (FP.dmul sm (own_F2 kk))), .second, .val (.double (FP.dmul sm (own_F2 kk))), .second] []))
          refine bk (fun t k => XS.dload X9.here hx rfl (hb hby at_231) rfl k) ?_
          show F (T9.setTop (mkF m 233 #[.val (.int p0), .val (.int p1), .val (.int p2), .val (.int p3), .val (.int pp), .val (.int kk), .val (.double (own_E kk)), .second, .val (.ref b2), .val (.int (p3 &&& (2147483647 : Int32))), .val (.int (p2 &&& (3 : Int32))), .val (.double sm), .second, .val (.int (1 : Int32)), .val (.double (own_ab (FP.dmul sm (own_u (own_X pp) (own_Y kk))))), .second, .val (.double (288230376151711744 : UInt64)), .second, .val (.double (FP.dmul sm (own_F1 kk))), .second, .val (.double (FP.dmul sm (own_F2 kk))), .second, .val (.double (FP.dmul sm (own_F2 kk))), .second] [(.double (own_ab (FP.dmul sm (own_u (own_X pp) (own_Y kk)))))]))
          refine bk (fun t k => XS.dload X9.here hx rfl (hb hby at_233) rfl k) ?_
          show F (T9.setTop (mkF m 235 #[.val (.int p0), .val (.int p1), .val (.int p2), .val (.int p3), .val (.int pp), .val (.int kk), .val (.double (own_E kk)), .second, .val (.ref b2), .val (.int (p3 &&& (2147483647 : Int32))), .val (.int (p2 &&& (3 : Int32))), .val (.double sm), .second, .val (.int (1 : Int32)), .val (.double (own_ab (FP.dmul sm (own_u (own_X pp) (own_Y kk))))), .second, .val (.double (288230376151711744 : UInt64)), .second, .val (.double (FP.dmul sm (own_F1 kk))), .second, .val (.double (FP.dmul sm (own_F2 kk))), .second, .val (.double (FP.dmul sm (own_F2 kk))), .second] [(.double (FP.dmul sm (own_F2 kk))), (.double (own_ab (FP.dmul sm (own_u (own_X pp) (own_Y kk)))))]))
          refine bk (fun t k => XS.dcmpS X9.here hx rfl (hb hby at_235) rfl (v := (own_c (own_ab (FP.dmul sm (own_u (own_X pp) (own_Y kk)))) (FP.dmul sm (own_F2 kk)))) (own_cmp pR hw2.2.1 _) k) ?_
          show F (T9.setTop (mkF m 236 #[.val (.int p0), .val (.int p1), .val (.int p2), .val (.int p3), .val (.int pp), .val (.int kk), .val (.double (own_E kk)), .second, .val (.ref b2), .val (.int (p3 &&& (2147483647 : Int32))), .val (.int (p2 &&& (3 : Int32))), .val (.double sm), .second, .val (.int (1 : Int32)), .val (.double (own_ab (FP.dmul sm (own_u (own_X pp) (own_Y kk))))), .second, .val (.double (288230376151711744 : UInt64)), .second, .val (.double (FP.dmul sm (own_F1 kk))), .second, .val (.double (FP.dmul sm (own_F2 kk))), .second, .val (.double (FP.dmul sm (own_F2 kk))), .second] [(.int (own_c (own_ab (FP.dmul sm (own_u (own_X pp) (own_Y kk)))) (FP.dmul sm (own_F2 kk))))]))
          refine bk (fun t k => XS.ifNo X9.here hx rfl (hb hby at_236) rfl ((if0 _ _).trans (flt (fun q => absurd (own_cp.mp q) (Nat.not_lt.mpr (own_ab_hi hw2.2.2 (own_cp.mp hc203_10))))).2.2.1) k) ?_
          refine bk (fun t k => XS.iconst X9.here hx rfl (hb hby at_239) k) ?_
          refine bk (fun t k => XS.goto X9.here hx rfl (pc0 := 240) (pc' := 244) rfl (hb hby at_240) (by decide) (by decide) k) ?_
          show F (T9.setTop (mkF m 244 #[.val (.int p0), .val (.int p1), .val (.int p2), .val (.int p3), .val (.int pp), .val (.int kk), .val (.double (own_E kk)), .second, .val (.ref b2), .val (.int (p3 &&& (2147483647 : Int32))), .val (.int (p2 &&& (3 : Int32))), .val (.double sm), .second, .val (.int (1 : Int32)), .val (.double (own_ab (FP.dmul sm (own_u (own_X pp) (own_Y kk))))), .second, .val (.double (288230376151711744 : UInt64)), .second, .val (.double (FP.dmul sm (own_F1 kk))), .second, .val (.double (FP.dmul sm (own_F2 kk))), .second, .val (.double (FP.dmul sm (own_F2 kk))), .second] [(.int (1 : Int32))]))
          rw [hF]
          refine own_retZ X9 hx Bd.notSynchronized Bd.returns (hb hby at_244) (by decide) (by decide) ?_
          rw [e9]
          exact ⟨rfl, N9⟩
        · refine bk (fun t k => XS.ifYes X9.here hx rfl (pc0 := 203) (pc' := 211) rfl (hb hby at_203) rfl ((if0 _ _).trans (flt hc203_10).2.2.2) (by decide) (by decide) k) ?_
          show F (T9.setTop (mkF m 211 #[.val (.int p0), .val (.int p1), .val (.int p2), .val (.int p3), .val (.int pp), .val (.int kk), .val (.double (own_E kk)), .second, .val (.ref b2), .val (.int (p3 &&& (2147483647 : Int32))), .val (.int (p2 &&& (3 : Int32))), .val (.double sm), .second, .val (.int (1 : Int32)), .val (.double (own_ab (FP.dmul sm (own_u (own_X pp) (own_Y kk))))), .second, .val (.double (288230376151711744 : UInt64)), .second, .val (.double (FP.dmul sm (own_F1 kk))), .second, .val (.double (FP.dmul sm (own_F2 kk))), .second, .unset, .unset] []))
          refine bk (fun t k => XS.dload X9.here hx rfl (hb hby at_211) rfl k) ?_
          show F (T9.setTop (mkF m 213 #[.val (.int p0), .val (.int p1), .val (.int p2), .val (.int p3), .val (.int pp), .val (.int kk), .val (.double (own_E kk)), .second, .val (.ref b2), .val (.int (p3 &&& (2147483647 : Int32))), .val (.int (p2 &&& (3 : Int32))), .val (.double sm), .second, .val (.int (1 : Int32)), .val (.double (own_ab (FP.dmul sm (own_u (own_X pp) (own_Y kk))))), .second, .val (.double (288230376151711744 : UInt64)), .second, .val (.double (FP.dmul sm (own_F1 kk))), .second, .val (.double (FP.dmul sm (own_F2 kk))), .second, .unset, .unset] [(.double (288230376151711744 : UInt64))]))
          refine bk (fun t k => XS.dstore X9.here hx rfl (hb hby at_213) rfl (l' := #[.val (.int p0), .val (.int p1), .val (.int p2), .val (.int p3), .val (.int pp), .val (.int kk), .val (.double (own_E kk)), .second, .val (.ref b2), .val (.int (p3 &&& (2147483647 : Int32))), .val (.int (p2 &&& (3 : Int32))), .val (.double sm), .second, .val (.int (1 : Int32)), .val (.double (own_ab (FP.dmul sm (own_u (own_X pp) (own_Y kk))))), .second, .val (.double (288230376151711744 : UInt64)), .second, .val (.double (FP.dmul sm (own_F1 kk))), .second, .val (.double (FP.dmul sm (own_F2 kk))), .second, .val (.double (288230376151711744 : UInt64)), .second]) rfl k) ?_
          show F (T9.setTop (mkF m 215 #[.val (.int p0), .val (.int p1), .val (.int p2), .val (.int p3), .val (.int pp), .val (.int kk), .val (.double (own_E kk)), .second, .val (.ref b2), .val (.int (p3 &&& (2147483647 : Int32))), .val (.int (p2 &&& (3 : Int32))), .val (.double sm), .second, .val (.int (1 : Int32)), .val (.double (own_ab (FP.dmul sm (own_u (own_X pp) (own_Y kk))))), .second, .val (.double (288230376151711744 : UInt64)), .second, .val (.double (FP.dmul sm (own_F1 kk))), .second, .val (.double (FP.dmul sm (own_F2 kk))), .second, .val (.double (288230376151711744 : UInt64)), .second] []))
          refine bk (fun t k => XS.dload X9.here hx rfl (hb hby at_215) rfl k) ?_
          show F (T9.setTop (mkF m 217 #[.val (.int p0), .val (.int p1), .val (.int p2), .val (.int p3), .val (.int pp), .val (.int kk), .val (.double (own_E kk)), .second, .val (.ref b2), .val (.int (p3 &&& (2147483647 : Int32))), .val (.int (p2 &&& (3 : Int32))), .val (.double sm), .second, .val (.int (1 : Int32)), .val (.double (own_ab (FP.dmul sm (own_u (own_X pp) (own_Y kk))))), .second, .val (.double (288230376151711744 : UInt64)), .second, .val (.double (FP.dmul sm (own_F1 kk))), .second, .val (.double (FP.dmul sm (own_F2 kk))), .second, .val (.double (288230376151711744 : UInt64)), .second] [(.double (own_ab (FP.dmul sm (own_u (own_X pp) (own_Y kk)))))]))
          refine bk (fun t k => XS.dload X9.here hx rfl (hb hby at_217) rfl k) ?_
          show F (T9.setTop (mkF m 219 #[.val (.int p0), .val (.int p1), .val (.int p2), .val (.int p3), .val (.int pp), .val (.int kk), .val (.double (own_E kk)), .second, .val (.ref b2), .val (.int (p3 &&& (2147483647 : Int32))), .val (.int (p2 &&& (3 : Int32))), .val (.double sm), .second, .val (.int (1 : Int32)), .val (.double (own_ab (FP.dmul sm (own_u (own_X pp) (own_Y kk))))), .second, .val (.double (288230376151711744 : UInt64)), .second, .val (.double (FP.dmul sm (own_F1 kk))), .second, .val (.double (FP.dmul sm (own_F2 kk))), .second, .val (.double (288230376151711744 : UInt64)), .second] [(.double (288230376151711744 : UInt64)), (.double (own_ab (FP.dmul sm (own_u (own_X pp) (own_Y kk)))))]))
          refine bk (fun t k => XS.dcmpS X9.here hx rfl (hb hby at_219) rfl (v := (own_c (own_ab (FP.dmul sm (own_u (own_X pp) (own_Y kk)))) (288230376151711744 : UInt64))) (own_cmp pR own_pnF _) k) ?_
          show F (T9.setTop (mkF m 220 #[.val (.int p0), .val (.int p1), .val (.int p2), .val (.int p3), .val (.int pp), .val (.int kk), .val (.double (own_E kk)), .second, .val (.ref b2), .val (.int (p3 &&& (2147483647 : Int32))), .val (.int (p2 &&& (3 : Int32))), .val (.double sm), .second, .val (.int (1 : Int32)), .val (.double (own_ab (FP.dmul sm (own_u (own_X pp) (own_Y kk))))), .second, .val (.double (288230376151711744 : UInt64)), .second, .val (.double (FP.dmul sm (own_F1 kk))), .second, .val (.double (FP.dmul sm (own_F2 kk))), .second, .val (.double (288230376151711744 : UInt64)), .second] [(.int (own_c (own_ab (FP.dmul sm (own_u (own_X pp) (own_Y kk)))) (288230376151711744 : UInt64)))]))
          refine bk (fun t k => XS.ifNo X9.here hx rfl (hb hby at_220) rfl ((if0 _ _).trans (flt (fun q => absurd (own_cn.mp q) (Nat.not_lt.mpr (own_ab_ge _)))).1) k) ?_
          show F (T9.setTop (mkF m 223 #[.val (.int p0), .val (.int p1), .val (.int p2), .val (.int p3), .val (.int pp), .val (.int kk), .val (.double (own_E kk)), .second, .val (.ref b2), .val (.int (p3 &&& (2147483647 : Int32))), .val (.int (p2 &&& (3 : Int32))), .val (.double sm), .second, .val (.int (1 : Int32)), .val (.double (own_ab (FP.dmul sm (own_u (own_X pp) (own_Y kk))))), .second, .val (.double (288230376151711744 : UInt64)), .second, .val (.double (FP.dmul sm (own_F1 kk))), .second, .val (.double (FP.dmul sm (own_F2 kk))), .second, .val (.double (288230376151711744 : UInt64)), .second] []))
          refine bk (fun t k => XS.dload X9.here hx rfl (hb hby at_223) rfl k) ?_
          show F (T9.setTop (mkF m 225 #[.val (.int p0), .val (.int p1), .val (.int p2), .val (.int p3), .val (.int pp), .val (.int kk), .val (.double (own_E kk)), .second, .val (.ref b2), .val (.int (p3 &&& (2147483647 : Int32))), .val (.int (p2 &&& (3 : Int32))), .val (.double sm), .second, .val (.int (1 : Int32)), .val (.double (own_ab (FP.dmul sm (own_u (own_X pp) (own_Y kk))))), .second, .val (.double (288230376151711744 : UInt64)), .second, .val (.double (FP.dmul sm (own_F1 kk))), .second, .val (.double (FP.dmul sm (own_F2 kk))), .second, .val (.double (288230376151711744 : UInt64)), .second] [(.double (own_ab (FP.dmul sm (own_u (own_X pp) (own_Y kk)))))]))
          refine bk (fun t k => XS.dload X9.here hx rfl (hb hby at_225) rfl k) ?_
          show F (T9.setTop (mkF m 227 #[.val (.int p0), .val (.int p1), .val (.int p2), .val (.int p3), .val (.int pp), .val (.int kk), .val (.double (own_E kk)), .second, .val (.ref b2), .val (.int (p3 &&& (2147483647 : Int32))), .val (.int (p2 &&& (3 : Int32))), .val (.double sm), .second, .val (.int (1 : Int32)), .val (.double (own_ab (FP.dmul sm (own_u (own_X pp) (own_Y kk))))), .second, .val (.double (288230376151711744 : UInt64)), .second, .val (.double (FP.dmul sm (own_F1 kk))), .second, .val (.double (FP.dmul sm (own_F2 kk))), .second, .val (.double (288230376151711744 : UInt64)), .second] [(.double (FP.dmul sm (own_F1 kk))), (.double (own_ab (FP.dmul sm (own_u (own_X pp) (own_Y kk)))))]))
          refine bk (fun t k => XS.dcmpS X9.here hx rfl (hb hby at_227) rfl (v := (own_c (own_ab (FP.dmul sm (own_u (own_X pp) (own_Y kk)))) (FP.dmul sm (own_F1 kk)))) (own_cmp pR lw.1 _) k) ?_
          show F (T9.setTop (mkF m 228 #[.val (.int p0), .val (.int p1), .val (.int p2), .val (.int p3), .val (.int pp), .val (.int kk), .val (.double (own_E kk)), .second, .val (.ref b2), .val (.int (p3 &&& (2147483647 : Int32))), .val (.int (p2 &&& (3 : Int32))), .val (.double sm), .second, .val (.int (1 : Int32)), .val (.double (own_ab (FP.dmul sm (own_u (own_X pp) (own_Y kk))))), .second, .val (.double (288230376151711744 : UInt64)), .second, .val (.double (FP.dmul sm (own_F1 kk))), .second, .val (.double (FP.dmul sm (own_F2 kk))), .second, .val (.double (288230376151711744 : UInt64)), .second] [(.int (own_c (own_ab (FP.dmul sm (own_u (own_X pp) (own_Y kk)))) (FP.dmul sm (own_F1 kk))))]))
          refine bk (fun t k => XS.ifNo X9.here hx rfl (hb hby at_228) rfl ((if0 _ _).trans (flt (fun q => absurd (own_cn.mp q) (Nat.not_lt.mpr (own_ab_low lw.2.2)))).1) k) ?_
          show F (T9.setTop (mkF m 231 #[.val (.int p0), .val (.int p1), .val (.int p2), .val (.int p3), .val (.int pp), .val (.int kk), .val (.double (own_E kk)), .second, .val (.ref b2), .val (.int (p3 &&& (2147483647 : Int32))), .val (.int (p2 &&& (3 : Int32))), .val (.double sm), .second, .val (.int (1 : Int32)), .val (.double (own_ab (FP.dmul sm (own_u (own_X pp) (own_Y kk))))), .second, .val (.double (288230376151711744 : UInt64)), .second, .val (.double (FP.dmul sm (own_F1 kk))), .second, .val (.double (FP.dmul sm (own_F2 kk))), .second, .val (.double (288230376151711744 : UInt64)), .second] []))
          refine bk (fun t k => XS.dload X9.here hx rfl (hb hby at_231) rfl k) ?_
          show F (T9.setTop (mkF m 233 #[.val (.int p0), .val (.int p1), .val (.int p2), .val (.int p3), .val (.int pp), .val (.int kk), .val (.double (own_E kk)), .second, .val (.ref b2), .val (.int (p3 &&& (2147483647 : Int32))), .val (.int (p2 &&& (3 : Int32))), .val (.double sm), .second, .val (.int (1 : Int32)), .val (.double (own_ab (FP.dmul sm (own_u (own_X pp) (own_Y kk))))), .second, .val (.double (288230376151711744 : UInt64)), .second, .val (.double (FP.dmul sm (own_F1 kk))), .second, .val (.double (FP.dmul sm (own_F2 kk))), .second, .val (.double (288230376151711744 : UInt64)), .second] [(.double (own_ab (FP.dmul sm (own_u (own_X pp) (own_Y kk)))))]))
          refine bk (fun t k => XS.dload X9.here hx rfl (hb hby at_233) rfl k) ?_
          show F (T9.setTop (mkF m 235 #[.val (.int p0), .val (.int p1), .val (.int p2), .val (.int p3), .val (.int pp), .val (.int kk), .val (.double (own_E kk)), .second, .val (.ref b2), .val (.int (p3 &&& (2147483647 : Int32))), .val (.int (p2 &&& (3 : Int32))), .val (.double sm), .second, .val (.int (1 : Int32)), .val (.double (own_ab (FP.dmul sm (own_u (own_X pp) (own_Y kk))))), .second, .val (.double (288230376151711744 : UInt64)), .second, .val (.double (FP.dmul sm (own_F1 kk))), .second, .val (.double (FP.dmul sm (own_F2 kk))), .second, .val (.double (288230376151711744 : UInt64)), .second] [(.double (288230376151711744 : UInt64)), (.double (own_ab (FP.dmul sm (own_u (own_X pp) (own_Y kk)))))]))
          refine bk (fun t k => XS.dcmpS X9.here hx rfl (hb hby at_235) rfl (v := (own_c (own_ab (FP.dmul sm (own_u (own_X pp) (own_Y kk)))) (288230376151711744 : UInt64))) (own_cmp pR own_pnF _) k) ?_
          show F (T9.setTop (mkF m 236 #[.val (.int p0), .val (.int p1), .val (.int p2), .val (.int p3), .val (.int pp), .val (.int kk), .val (.double (own_E kk)), .second, .val (.ref b2), .val (.int (p3 &&& (2147483647 : Int32))), .val (.int (p2 &&& (3 : Int32))), .val (.double sm), .second, .val (.int (1 : Int32)), .val (.double (own_ab (FP.dmul sm (own_u (own_X pp) (own_Y kk))))), .second, .val (.double (288230376151711744 : UInt64)), .second, .val (.double (FP.dmul sm (own_F1 kk))), .second, .val (.double (FP.dmul sm (own_F2 kk))), .second, .val (.double (288230376151711744 : UInt64)), .second] [(.int (own_c (own_ab (FP.dmul sm (own_u (own_X pp) (own_Y kk)))) (288230376151711744 : UInt64)))]))
          refine bk (fun t k => XS.ifNo X9.here hx rfl (hb hby at_236) rfl ((if0 _ _).trans (flt (fun q => absurd (own_cp.mp q) (Nat.not_lt.mpr (own_ab_fl hw2.2.2 (fun q => hc203_10 (own_cp.mpr q)))))).2.2.1) k) ?_
          refine bk (fun t k => XS.iconst X9.here hx rfl (hb hby at_239) k) ?_
          refine bk (fun t k => XS.goto X9.here hx rfl (pc0 := 240) (pc' := 244) rfl (hb hby at_240) (by decide) (by decide) k) ?_
          show F (T9.setTop (mkF m 244 #[.val (.int p0), .val (.int p1), .val (.int p2), .val (.int p3), .val (.int pp), .val (.int kk), .val (.double (own_E kk)), .second, .val (.ref b2), .val (.int (p3 &&& (2147483647 : Int32))), .val (.int (p2 &&& (3 : Int32))), .val (.double sm), .second, .val (.int (1 : Int32)), .val (.double (own_ab (FP.dmul sm (own_u (own_X pp) (own_Y kk))))), .second, .val (.double (288230376151711744 : UInt64)), .second, .val (.double (FP.dmul sm (own_F1 kk))), .second, .val (.double (FP.dmul sm (own_F2 kk))), .second, .val (.double (288230376151711744 : UInt64)), .second] [(.int (1 : Int32))]))
          rw [hF]
          refine own_retZ X9 hx Bd.notSynchronized Bd.returns (hb hby at_244) (by decide) (by decide) ?_
          rw [e9]
          exact ⟨rfl, N9⟩
    refine bk (fun t k => XS.iload X4.here hx rfl (hb hby at_47) rfl k) ?_
    show F (T4.setTop (mkF m 49 #[.val (.int p0), .val (.int p1), .val (.int p2), .val (.int p3), .val (.int pp), .val (.int kk), .val (.double (own_E kk)), .second, .val (.ref b2), .val (.int (p3 &&& (2147483647 : Int32))), .val (.int (p2 &&& (3 : Int32))), .unset, .unset, .unset, .unset, .unset, .unset, .unset, .unset, .unset, .unset, .unset, .unset, .unset] [(.int (p2 &&& (3 : Int32)))]))
    by_cases hc49_11 : (p2 &&& (3 : Int32)) = (0 : Int32)
    · refine bk (fun t k => XS.ifNo X4.here hx rfl (hb hby at_49) rfl ((if0 _ _).trans (teq hc49_11).2) k) ?_
      refine bk (fun t k => XS.iload X4.here hx rfl (hb hby at_52) rfl k) ?_
      show F (T4.setTop (mkF m 54 #[.val (.int p0), .val (.int p1), .val (.int p2), .val (.int p3), .val (.int pp), .val (.int kk), .val (.double (own_E kk)), .second, .val (.ref b2), .val (.int (p3 &&& (2147483647 : Int32))), .val (.int (p2 &&& (3 : Int32))), .unset, .unset, .unset, .unset, .unset, .unset, .unset, .unset, .unset, .unset, .unset, .unset, .unset] [(.int (p3 &&& (2147483647 : Int32)))]))
      refine bk (fun t k => XS.i2dS X4.here hx rfl (hb hby at_54) rfl (v := (FP.i2d (p3 &&& (2147483647 : Int32)))) rfl k) ?_
      show F (T4.setTop (mkF m 55 #[.val (.int p0), .val (.int p1), .val (.int p2), .val (.int p3), .val (.int pp), .val (.int kk), .val (.double (own_E kk)), .second, .val (.ref b2), .val (.int (p3 &&& (2147483647 : Int32))), .val (.int (p2 &&& (3 : Int32))), .unset, .unset, .unset, .unset, .unset, .unset, .unset, .unset, .unset, .unset, .unset, .unset, .unset] [(.double (FP.i2d (p3 &&& (2147483647 : Int32))))]))
      refine bk (fun t k => XS.dstore X4.here hx rfl (hb hby at_55) rfl (l' := #[.val (.int p0), .val (.int p1), .val (.int p2), .val (.int p3), .val (.int pp), .val (.int kk), .val (.double (own_E kk)), .second, .val (.ref b2), .val (.int (p3 &&& (2147483647 : Int32))), .val (.int (p2 &&& (3 : Int32))), .val (.double (FP.i2d (p3 &&& (2147483647 : Int32)))), .second, .unset, .unset, .unset, .unset, .unset, .unset, .unset, .unset, .unset, .unset, .unset]) rfl k) ?_
      refine bk (fun t k => XS.goto X4.here hx rfl (pc0 := 57) (pc' := 95) rfl (hb hby at_57) (by decide) (by decide) k) ?_
      show F (T4.setTop (mkF m 95 #[.val (.int p0), .val (.int p1), .val (.int p2), .val (.int p3), .val (.int pp), .val (.int kk), .val (.double (own_E kk)), .second, .val (.ref b2), .val (.int (p3 &&& (2147483647 : Int32))), .val (.int (p2 &&& (3 : Int32))), .val (.double (FP.i2d (p3 &&& (2147483647 : Int32)))), .second, .unset, .unset, .unset, .unset, .unset, .unset, .unset, .unset, .unset, .unset, .unset] []))
      exact J95 _ (own_pf (own_sum0 p3))
    · refine bk (fun t k => XS.ifYes X4.here hx rfl (pc0 := 49) (pc' := 60) rfl (hb hby at_49) rfl ((if0 _ _).trans (feq hc49_11).2) (by decide) (by decide) k) ?_
      refine bk (fun t k => XS.iload X4.here hx rfl (hb hby at_60) rfl k) ?_
      refine bk (fun t k => XS.iconst X4.here hx rfl (hb hby at_62) k) ?_
      show F (T4.setTop (mkF m 63 #[.val (.int p0), .val (.int p1), .val (.int p2), .val (.int p3), .val (.int pp), .val (.int kk), .val (.double (own_E kk)), .second, .val (.ref b2), .val (.int (p3 &&& (2147483647 : Int32))), .val (.int (p2 &&& (3 : Int32))), .unset, .unset, .unset, .unset, .unset, .unset, .unset, .unset, .unset, .unset, .unset, .unset, .unset] [(.int (1 : Int32)), (.int (p2 &&& (3 : Int32)))]))
      by_cases hc63_12 : (p2 &&& (3 : Int32)) = (1 : Int32)
      · refine bk (fun t k => XS.icmpNo X4.here hx rfl (hb hby at_63) rfl (teq hc63_12).2 k) ?_
        refine bk (fun t k => XS.iload X4.here hx rfl (hb hby at_66) rfl k) ?_
        show F (T4.setTop (mkF m 68 #[.val (.int p0), .val (.int p1), .val (.int p2), .val (.int p3), .val (.int pp), .val (.int kk), .val (.double (own_E kk)), .second, .val (.ref b2), .val (.int (p3 &&& (2147483647 : Int32))), .val (.int (p2 &&& (3 : Int32))), .unset, .unset, .unset, .unset, .unset, .unset, .unset, .unset, .unset, .unset, .unset, .unset, .unset] [(.int (p3 &&& (2147483647 : Int32)))]))
        refine bk (fun t k => XS.i2dS X4.here hx rfl (hb hby at_68) rfl (v := (FP.i2d (p3 &&& (2147483647 : Int32)))) rfl k) ?_
        show F (T4.setTop (mkF m 69 #[.val (.int p0), .val (.int p1), .val (.int p2), .val (.int p3), .val (.int pp), .val (.int kk), .val (.double (own_E kk)), .second, .val (.ref b2), .val (.int (p3 &&& (2147483647 : Int32))), .val (.int (p2 &&& (3 : Int32))), .unset, .unset, .unset, .unset, .unset, .unset, .unset, .unset, .unset, .unset, .unset, .unset, .unset] [(.double (FP.i2d (p3 &&& (2147483647 : Int32))))]))
        refine bk (fun t k => X4.ldc2DoubleC hx hown (mvT hZ w_30) (g := (mkF m 69 #[.val (.int p0), .val (.int p1), .val (.int p2), .val (.int p3), .val (.int pp), .val (.int kk), .val (.double (own_E kk)), .second, .val (.ref b2), .val (.int (p3 &&& (2147483647 : Int32))), .val (.int (p2 &&& (3 : Int32))), .unset, .unset, .unset, .unset, .unset, .unset, .unset, .unset, .unset, .unset, .unset, .unset, .unset] [(.double (FP.i2d (p3 &&& (2147483647 : Int32))))])) rfl (hb hby at_69) t k) ?_
        show F (T4.setTop (mkF m 72 #[.val (.int p0), .val (.int p1), .val (.int p2), .val (.int p3), .val (.int pp), .val (.int kk), .val (.double (own_E kk)), .second, .val (.ref b2), .val (.int (p3 &&& (2147483647 : Int32))), .val (.int (p2 &&& (3 : Int32))), .unset, .unset, .unset, .unset, .unset, .unset, .unset, .unset, .unset, .unset, .unset, .unset, .unset] [(.double (148618787703226368 : UInt64)), (.double (FP.i2d (p3 &&& (2147483647 : Int32))))]))
        refine bk (fun t k => XS.dmulS X4.here hx rfl (hb hby at_72) rfl (own_nn (own_sum1 p3)) (v := (FP.dmul (FP.i2d (p3 &&& (2147483647 : Int32))) (148618787703226368 : UInt64))) rfl k) ?_
        show F (T4.setTop (mkF m 73 #[.val (.int p0), .val (.int p1), .val (.int p2), .val (.int p3), .val (.int pp), .val (.int kk), .val (.double (own_E kk)), .second, .val (.ref b2), .val (.int (p3 &&& (2147483647 : Int32))), .val (.int (p2 &&& (3 : Int32))), .unset, .unset, .unset, .unset, .unset, .unset, .unset, .unset, .unset, .unset, .unset, .unset, .unset] [(.double (FP.dmul (FP.i2d (p3 &&& (2147483647 : Int32))) (148618787703226368 : UInt64)))]))
        refine bk (fun t k => XS.dstore X4.here hx rfl (hb hby at_73) rfl (l' := #[.val (.int p0), .val (.int p1), .val (.int p2), .val (.int p3), .val (.int pp), .val (.int kk), .val (.double (own_E kk)), .second, .val (.ref b2), .val (.int (p3 &&& (2147483647 : Int32))), .val (.int (p2 &&& (3 : Int32))), .val (.double (FP.dmul (FP.i2d (p3 &&& (2147483647 : Int32))) (148618787703226368 : UInt64))), .second, .unset, .unset, .unset, .unset, .unset, .unset, .unset, .unset, .unset, .unset, .unset]) rfl k) ?_
        refine bk (fun t k => XS.goto X4.here hx rfl (pc0 := 75) (pc' := 95) rfl (hb hby at_75) (by decide) (by decide) k) ?_
        show F (T4.setTop (mkF m 95 #[.val (.int p0), .val (.int p1), .val (.int p2), .val (.int p3), .val (.int pp), .val (.int kk), .val (.double (own_E kk)), .second, .val (.ref b2), .val (.int (p3 &&& (2147483647 : Int32))), .val (.int (p2 &&& (3 : Int32))), .val (.double (FP.dmul (FP.i2d (p3 &&& (2147483647 : Int32))) (148618787703226368 : UInt64))), .second, .unset, .unset, .unset, .unset, .unset, .unset, .unset, .unset, .unset, .unset, .unset] []))
        exact J95 _ (own_sum1 p3)
      · refine bk (fun t k => XS.icmpYes X4.here hx rfl (pc0 := 63) (pc' := 78) rfl (hb hby at_63) rfl (feq hc63_12).2 (by decide) (by decide) k) ?_
        refine bk (fun t k => XS.iload X4.here hx rfl (hb hby at_78) rfl k) ?_
        refine bk (fun t k => XS.iconst X4.here hx rfl (hb hby at_80) k) ?_
        show F (T4.setTop (mkF m 81 #[.val (.int p0), .val (.int p1), .val (.int p2), .val (.int p3), .val (.int pp), .val (.int kk), .val (.double (own_E kk)), .second, .val (.ref b2), .val (.int (p3 &&& (2147483647 : Int32))), .val (.int (p2 &&& (3 : Int32))), .unset, .unset, .unset, .unset, .unset, .unset, .unset, .unset, .unset, .unset, .unset, .unset, .unset] [(.int (2 : Int32)), (.int (p2 &&& (3 : Int32)))]))
        by_cases hc81_13 : (p2 &&& (3 : Int32)) = (2 : Int32)
        · refine bk (fun t k => XS.icmpNo X4.here hx rfl (hb hby at_81) rfl (teq hc81_13).2 k) ?_
          show F (T4.setTop (mkF m 84 #[.val (.int p0), .val (.int p1), .val (.int p2), .val (.int p3), .val (.int pp), .val (.int kk), .val (.double (own_E kk)), .second, .val (.ref b2), .val (.int (p3 &&& (2147483647 : Int32))), .val (.int (p2 &&& (3 : Int32))), .unset, .unset, .unset, .unset, .unset, .unset, .unset, .unset, .unset, .unset, .unset, .unset, .unset] []))
          refine bk (fun t k => XS.dconst0 X4.here hx rfl (hb hby at_84) (v := (0 : UInt64)) rfl k) ?_
          show F (T4.setTop (mkF m 85 #[.val (.int p0), .val (.int p1), .val (.int p2), .val (.int p3), .val (.int pp), .val (.int kk), .val (.double (own_E kk)), .second, .val (.ref b2), .val (.int (p3 &&& (2147483647 : Int32))), .val (.int (p2 &&& (3 : Int32))), .unset, .unset, .unset, .unset, .unset, .unset, .unset, .unset, .unset, .unset, .unset, .unset, .unset] [(.double (0 : UInt64))]))
          refine bk (fun t k => XS.dstore X4.here hx rfl (hb hby at_85) rfl (l' := #[.val (.int p0), .val (.int p1), .val (.int p2), .val (.int p3), .val (.int pp), .val (.int kk), .val (.double (own_E kk)), .second, .val (.ref b2), .val (.int (p3 &&& (2147483647 : Int32))), .val (.int (p2 &&& (3 : Int32))), .val (.double (0 : UInt64)), .second, .unset, .unset, .unset, .unset, .unset, .unset, .unset, .unset, .unset, .unset, .unset]) rfl k) ?_
          refine bk (fun t k => XS.goto X4.here hx rfl (pc0 := 87) (pc' := 95) rfl (hb hby at_87) (by decide) (by decide) k) ?_
          show F (T4.setTop (mkF m 95 #[.val (.int p0), .val (.int p1), .val (.int p2), .val (.int p3), .val (.int pp), .val (.int kk), .val (.double (own_E kk)), .second, .val (.ref b2), .val (.int (p3 &&& (2147483647 : Int32))), .val (.int (p2 &&& (3 : Int32))), .val (.double (0 : UInt64)), .second, .unset, .unset, .unset, .unset, .unset, .unset, .unset, .unset, .unset, .unset, .unset] []))
          exact J95 _ own_pn0
        · refine bk (fun t k => XS.icmpYes X4.here hx rfl (pc0 := 81) (pc' := 90) rfl (hb hby at_81) rfl (feq hc81_13).2 (by decide) (by decide) k) ?_
          show F (T4.setTop (mkF m 90 #[.val (.int p0), .val (.int p1), .val (.int p2), .val (.int p3), .val (.int pp), .val (.int kk), .val (.double (own_E kk)), .second, .val (.ref b2), .val (.int (p3 &&& (2147483647 : Int32))), .val (.int (p2 &&& (3 : Int32))), .unset, .unset, .unset, .unset, .unset, .unset, .unset, .unset, .unset, .unset, .unset, .unset, .unset] []))
          refine bk (fun t k => X4.ldc2DoubleC hx hown (mvT hZ w_29) (g := (mkF m 90 #[.val (.int p0), .val (.int p1), .val (.int p2), .val (.int p3), .val (.int pp), .val (.int kk), .val (.double (own_E kk)), .second, .val (.ref b2), .val (.int (p3 &&& (2147483647 : Int32))), .val (.int (p2 &&& (3 : Int32))), .unset, .unset, .unset, .unset, .unset, .unset, .unset, .unset, .unset, .unset, .unset, .unset, .unset] [])) rfl (hb hby at_90) t k) ?_
          show F (T4.setTop (mkF m 93 #[.val (.int p0), .val (.int p1), .val (.int p2), .val (.int p3), .val (.int pp), .val (.int kk), .val (.double (own_E kk)), .second, .val (.ref b2), .val (.int (p3 &&& (2147483647 : Int32))), .val (.int (p2 &&& (3 : Int32))), .unset, .unset, .unset, .unset, .unset, .unset, .unset, .unset, .unset, .unset, .unset, .unset, .unset] [(.double (9218868437227405312 : UInt64))]))
          refine bk (fun t k => XS.dstore X4.here hx rfl (hb hby at_93) rfl (l' := #[.val (.int p0), .val (.int p1), .val (.int p2), .val (.int p3), .val (.int pp), .val (.int kk), .val (.double (own_E kk)), .second, .val (.ref b2), .val (.int (p3 &&& (2147483647 : Int32))), .val (.int (p2 &&& (3 : Int32))), .val (.double (9218868437227405312 : UInt64)), .second, .unset, .unset, .unset, .unset, .unset, .unset, .unset, .unset, .unset, .unset, .unset]) rfl k) ?_
          show F (T4.setTop (mkF m 95 #[.val (.int p0), .val (.int p1), .val (.int p2), .val (.int p3), .val (.int pp), .val (.int kk), .val (.double (own_E kk)), .second, .val (.ref b2), .val (.int (p3 &&& (2147483647 : Int32))), .val (.int (p2 &&& (3 : Int32))), .val (.double (9218868437227405312 : UInt64)), .second, .unset, .unset, .unset, .unset, .unset, .unset, .unset, .unset, .unset, .unset, .unset] []))
          exact J95 _ own_pnI
  · have hBig := own_big hp hk0 hc900_1
    refine bk (fun t k => XS.iloadN X0.here hx rfl (hb hby at_0) rfl k) ?_
    show F (s₁.setTop (mkF m 1 #[.val (.int p0), .val (.int p1), .val (.int p2), .val (.int p3), .unset, .unset, .unset, .unset, .unset, .unset, .unset, .unset, .unset, .unset, .unset, .unset, .unset, .unset, .unset, .unset, .unset, .unset, .unset, .unset] [(.int p0)]))
    refine bk (fun t k => X0.ldcInt hx hown (mvT hZ w_0) (g := (mkF m 1 #[.val (.int p0), .val (.int p1), .val (.int p2), .val (.int p3), .unset, .unset, .unset, .unset, .unset, .unset, .unset, .unset, .unset, .unset, .unset, .unset, .unset, .unset, .unset, .unset, .unset, .unset, .unset, .unset] [(.int p0)])) rfl (hb hby at_1) t k) ?_
    show F (s₁.setTop (mkF m 3 #[.val (.int p0), .val (.int p1), .val (.int p2), .val (.int p3), .unset, .unset, .unset, .unset, .unset, .unset, .unset, .unset, .unset, .unset, .unset, .unset, .unset, .unset, .unset, .unset, .unset, .unset, .unset, .unset] [(.int (1073741823 : Int32)), (.int p0)]))
    refine bk (fun t k => XS.iand X0.here hx rfl (hb hby at_3) rfl k) ?_
    refine bk (fun t k => XS.iconst X0.here hx rfl (hb hby at_4) k) ?_
    show F (s₁.setTop (mkF m 5 #[.val (.int p0), .val (.int p1), .val (.int p2), .val (.int p3), .unset, .unset, .unset, .unset, .unset, .unset, .unset, .unset, .unset, .unset, .unset, .unset, .unset, .unset, .unset, .unset, .unset, .unset, .unset, .unset] [(.int (1 : Int32)), (.int (p0 &&& (1073741823 : Int32)))]))
    refine bk (fun t k => XS.iadd X0.here hx rfl (hb hby at_5) rfl k) ?_
    show F (s₁.setTop (mkF m 6 #[.val (.int p0), .val (.int p1), .val (.int p2), .val (.int p3), .unset, .unset, .unset, .unset, .unset, .unset, .unset, .unset, .unset, .unset, .unset, .unset, .unset, .unset, .unset, .unset, .unset, .unset, .unset, .unset] [(.int ((p0 &&& (1073741823 : Int32)) + (1 : Int32)))]))
    rw [← hpp]
    show F (s₁.setTop (mkF m 6 #[.val (.int p0), .val (.int p1), .val (.int p2), .val (.int p3), .unset, .unset, .unset, .unset, .unset, .unset, .unset, .unset, .unset, .unset, .unset, .unset, .unset, .unset, .unset, .unset, .unset, .unset, .unset, .unset] [(.int pp)]))
    refine bk (fun t k => XS.istore X0.here hx rfl (hb hby at_6) rfl (l' := #[.val (.int p0), .val (.int p1), .val (.int p2), .val (.int p3), .val (.int pp), .unset, .unset, .unset, .unset, .unset, .unset, .unset, .unset, .unset, .unset, .unset, .unset, .unset, .unset, .unset, .unset, .unset, .unset, .unset]) rfl k) ?_
    refine bk (fun t k => XS.iloadN X0.here hx rfl (hb hby at_8) rfl k) ?_
    refine bk (fun t k => XS.bipush X0.here hx rfl (hb hby at_9) k) ?_
    show F (s₁.setTop (mkF m 11 #[.val (.int p0), .val (.int p1), .val (.int p2), .val (.int p3), .val (.int pp), .unset, .unset, .unset, .unset, .unset, .unset, .unset, .unset, .unset, .unset, .unset, .unset, .unset, .unset, .unset, .unset, .unset, .unset, .unset] [(.int (15 : Int32)), (.int p1)]))
    refine bk (fun t k => XS.iand X0.here hx rfl (hb hby at_11) rfl k) ?_
    show F (s₁.setTop (mkF m 12 #[.val (.int p0), .val (.int p1), .val (.int p2), .val (.int p3), .val (.int pp), .unset, .unset, .unset, .unset, .unset, .unset, .unset, .unset, .unset, .unset, .unset, .unset, .unset, .unset, .unset, .unset, .unset, .unset, .unset] [(.int (p1 &&& (15 : Int32)))]))
    rw [← hkk]
    show F (s₁.setTop (mkF m 12 #[.val (.int p0), .val (.int p1), .val (.int p2), .val (.int p3), .val (.int pp), .unset, .unset, .unset, .unset, .unset, .unset, .unset, .unset, .unset, .unset, .unset, .unset, .unset, .unset, .unset, .unset, .unset, .unset, .unset] [(.int kk)]))
    refine bk (fun t k => XS.istore X0.here hx rfl (hb hby at_12) rfl (l' := #[.val (.int p0), .val (.int p1), .val (.int p2), .val (.int p3), .val (.int pp), .val (.int kk), .unset, .unset, .unset, .unset, .unset, .unset, .unset, .unset, .unset, .unset, .unset, .unset, .unset, .unset, .unset, .unset, .unset, .unset]) rfl k) ?_
    refine bk (fun t k => XS.iload X0.here hx rfl (hb hby at_14) rfl k) ?_
    show F (s₁.setTop (mkF m 16 #[.val (.int p0), .val (.int p1), .val (.int p2), .val (.int p3), .val (.int pp), .val (.int kk), .unset, .unset, .unset, .unset, .unset, .unset, .unset, .unset, .unset, .unset, .unset, .unset, .unset, .unset, .unset, .unset, .unset, .unset] [(.int kk)]))
    refine bk (fun t k => XS.i2dS X0.here hx rfl (hb hby at_16) rfl (v := (FP.i2d kk)) rfl k) ?_
    show F (s₁.setTop (mkF m 17 #[.val (.int p0), .val (.int p1), .val (.int p2), .val (.int p3), .val (.int pp), .val (.int kk), .unset, .unset, .unset, .unset, .unset, .unset, .unset, .unset, .unset, .unset, .unset, .unset, .unset, .unset, .unset, .unset, .unset, .unset] [(.double (FP.i2d kk))]))
    refine bk (fun t k => X0.ldc2DoubleC hx hown (mvT hZ w_1) (g := (mkF m 17 #[.val (.int p0), .val (.int p1), .val (.int p2), .val (.int p3), .val (.int pp), .val (.int kk), .unset, .unset, .unset, .unset, .unset, .unset, .unset, .unset, .unset, .unset, .unset, .unset, .unset, .unset, .unset, .unset, .unset, .unset] [(.double (FP.i2d kk))])) rfl (hb hby at_17) t k) ?_
    show F (s₁.setTop (mkF m 20 #[.val (.int p0), .val (.int p1), .val (.int p2), .val (.int p3), .val (.int pp), .val (.int kk), .unset, .unset, .unset, .unset, .unset, .unset, .unset, .unset, .unset, .unset, .unset, .unset, .unset, .unset, .unset, .unset, .unset, .unset] [(.double (4634204016564240384 : UInt64)), (.double (FP.i2d kk))]))
    refine bk (fun t k => XS.ddivS X0.here hx rfl (hb hby at_20) rfl (own_nn (own_pf hAll.1)) (v := (own_E kk)) rfl k) ?_
    show F (s₁.setTop (mkF m 21 #[.val (.int p0), .val (.int p1), .val (.int p2), .val (.int p3), .val (.int pp), .val (.int kk), .unset, .unset, .unset, .unset, .unset, .unset, .unset, .unset, .unset, .unset, .unset, .unset, .unset, .unset, .unset, .unset, .unset, .unset] [(.double (own_E kk))]))
    refine bk (fun t k => XS.dstore X0.here hx rfl (hb hby at_21) rfl (l' := #[.val (.int p0), .val (.int p1), .val (.int p2), .val (.int p3), .val (.int pp), .val (.int kk), .val (.double (own_E kk)), .second, .unset, .unset, .unset, .unset, .unset, .unset, .unset, .unset, .unset, .unset, .unset, .unset, .unset, .unset, .unset, .unset]) rfl k) ?_
    show F (s₁.setTop (mkF m 23 #[.val (.int p0), .val (.int p1), .val (.int p2), .val (.int p3), .val (.int pp), .val (.int kk), .val (.double (own_E kk)), .second, .unset, .unset, .unset, .unset, .unset, .unset, .unset, .unset, .unset, .unset, .unset, .unset, .unset, .unset, .unset, .unset] []))
    obtain ⟨T14, h14, X14, e14, E14, A14, D14, -, st14⟩ := newO X0 hx hZ hown w_2 w_3 w_4 e0 (g := (mkF m 23 #[.val (.int p0), .val (.int p1), .val (.int p2), .val (.int p3), .val (.int pp), .val (.int kk), .val (.double (own_E kk)), .second, .unset, .unset, .unset, .unset, .unset, .unset, .unset, .unset, .unset, .unset, .unset, .unset, .unset, .unset, .unset, .unset] [])) rfl (hb hby at_23) (by decide) (by decide)
    obtain ⟨b14, g14⟩ : ∃ z, z = h0.size := ⟨_, rfl⟩
    rw [← g14] at A14 D14 st14
    have Gb14 : n0 ≤ b14 := Nat.le_trans Z0 (Nat.le_of_eq g14.symm)
    have f15 := Nat.le_trans Z0 E14.1
    have F_down_b14 : Fld Z h14 b14 "com/example/lone1/lone1/math/SumBounds" "down" "D" (.double (0 : UInt64)) := D14 (Or.inr w_14) (ty := .double) (by decide)
    have F_up_b14 : Fld Z h14 b14 "com/example/lone1/lone1/math/SumBounds" "up" "D" (.double (0 : UInt64)) := D14 (Or.inr w_17) (ty := .double) (by decide)
    refine bk (fun t k => st14 t k) ?_
    refine bk (fun t k => XS.dup X14.here hx rfl (hb hby at_26) rfl rfl k) ?_
    refine bk (fun t k => XS.iload X14.here hx rfl (hb hby at_27) rfl k) ?_
    show F (T14.setTop (mkF m 29 #[.val (.int p0), .val (.int p1), .val (.int p2), .val (.int p3), .val (.int pp), .val (.int kk), .val (.double (own_E kk)), .second, .unset, .unset, .unset, .unset, .unset, .unset, .unset, .unset, .unset, .unset, .unset, .unset, .unset, .unset, .unset, .unset] [(.int pp), (.ref b14), (.ref b14)]))
    refine bk (fun t k => XS.dload X14.here hx rfl (hb hby at_29) rfl k) ?_
    show F (T14.setTop (mkF m 31 #[.val (.int p0), .val (.int p1), .val (.int p2), .val (.int p3), .val (.int pp), .val (.int kk), .val (.double (own_E kk)), .second, .unset, .unset, .unset, .unset, .unset, .unset, .unset, .unset, .unset, .unset, .unset, .unset, .unset, .unset, .unset, .unset] [(.double (own_E kk)), (.int pp), (.ref b14), (.ref b14)]))
    obtain ⟨_, _, ⟨T16, L16, k16, n16⟩, -, X16, ⟨Lc16, hQ16, l16, y16, z16⟩, st16⟩ := X14.specialBack hx (y := (⟨"com/example/lone1/lone1/math/SumBounds", "<init>", "(ID)V"⟩ : MethodName)) rfl hown (mvT hZ w_5) (mvT hZ w_6) (mvT hZ w_7) (by decide) (backOf (W := 1) (rm1_b l Z a0 hw [] b14 pp (own_E kk) h14 n0 f15 A14 F_down_b14 F_up_b14 Gb14 (own_pf hAll.2.1) (own_pf hAll.2.2.1) hAll.2.2.2.1 hBig) hZ w_7 w_4 (by decide) (by decide)) (g := (mkF m 31 #[.val (.int p0), .val (.int p1), .val (.int p2), .val (.int p3), .val (.int pp), .val (.int kk), .val (.double (own_E kk)), .second, .unset, .unset, .unset, .unset, .unset, .unset, .unset, .unset, .unset, .unset, .unset, .unset, .unset, .unset, .unset, .unset] [(.double (own_E kk)), (.int pp), (.ref b14), (.ref b14)])) rfl (by rw [hml]; rfl) (Steps.refl _) (a := b14) (argsL := [(.int pp), (.double (own_E kk))]) (rest := [(.ref b14)]) (lenOf pd0__ID_V rfl) rfl (by show 2 * 0 + _ ≤ _; exact Nat.le_of_eq rfl) (hb hby at_31) (fun _ _ => ⟨rfl, e14, (by decide : 1 + 0 ≤ _), (by decide : 2 + 0 ≤ _)⟩)
    dsimp only [Pt.U, Pt.locs, Pt.cells, Pt.slots] at X16 l16 y16 z16 st16 hQ16
    subst l16 y16 z16
    obtain ⟨rfl, N16q, K16, gE16, gU16⟩ := hQ16
    have N16 := Fr.app N0 N16q
    have f17 := Nat.le_trans f15 K16.1
    have f18 := A14.keep K16
    refine bk (fun t k => st16.trans k) ?_
    show F (T16.setTop (mkF m 34 #[.val (.int p0), .val (.int p1), .val (.int p2), .val (.int p3), .val (.int pp), .val (.int kk), .val (.double (own_E kk)), .second, .unset, .unset, .unset, .unset, .unset, .unset, .unset, .unset, .unset, .unset, .unset, .unset, .unset, .unset, .unset, .unset] [(.ref b14)]))
    refine bk (fun t k => XS.astore X16.here hx rfl (hb hby at_34) rfl rfl (l' := #[.val (.int p0), .val (.int p1), .val (.int p2), .val (.int p3), .val (.int pp), .val (.int kk), .val (.double (own_E kk)), .second, .val (.ref b14), .unset, .unset, .unset, .unset, .unset, .unset, .unset, .unset, .unset, .unset, .unset, .unset, .unset, .unset, .unset]) rfl k) ?_
    refine bk (fun t k => XS.iloadN X16.here hx rfl (hb hby at_36) rfl k) ?_
    show F (T16.setTop (mkF m 37 #[.val (.int p0), .val (.int p1), .val (.int p2), .val (.int p3), .val (.int pp), .val (.int kk), .val (.double (own_E kk)), .second, .val (.ref b14), .unset, .unset, .unset, .unset, .unset, .unset, .unset, .unset, .unset, .unset, .unset, .unset, .unset, .unset, .unset] [(.int p3)]))
    refine bk (fun t k => X16.ldcInt hx hown (mvT hZ w_18) (g := (mkF m 37 #[.val (.int p0), .val (.int p1), .val (.int p2), .val (.int p3), .val (.int pp), .val (.int kk), .val (.double (own_E kk)), .second, .val (.ref b14), .unset, .unset, .unset, .unset, .unset, .unset, .unset, .unset, .unset, .unset, .unset, .unset, .unset, .unset, .unset] [(.int p3)])) rfl (hb hby at_37) t k) ?_
    show F (T16.setTop (mkF m 39 #[.val (.int p0), .val (.int p1), .val (.int p2), .val (.int p3), .val (.int pp), .val (.int kk), .val (.double (own_E kk)), .second, .val (.ref b14), .unset, .unset, .unset, .unset, .unset, .unset, .unset, .unset, .unset, .unset, .unset, .unset, .unset, .unset, .unset] [(.int (2147483647 : Int32)), (.int p3)]))
    refine bk (fun t k => XS.iand X16.here hx rfl (hb hby at_39) rfl k) ?_
    show F (T16.setTop (mkF m 40 #[.val (.int p0), .val (.int p1), .val (.int p2), .val (.int p3), .val (.int pp), .val (.int kk), .val (.double (own_E kk)), .second, .val (.ref b14), .unset, .unset, .unset, .unset, .unset, .unset, .unset, .unset, .unset, .unset, .unset, .unset, .unset, .unset, .unset] [(.int (p3 &&& (2147483647 : Int32)))]))
    refine bk (fun t k => XS.istore X16.here hx rfl (hb hby at_40) rfl (l' := #[.val (.int p0), .val (.int p1), .val (.int p2), .val (.int p3), .val (.int pp), .val (.int kk), .val (.double (own_E kk)), .second, .val (.ref b14), .val (.int (p3 &&& (2147483647 : Int32))), .unset, .unset, .unset, .unset, .unset, .unset, .unset, .unset, .unset, .unset, .unset, .unset, .unset, .unset]) rfl k) ?_
    refine bk (fun t k => XS.iloadN X16.here hx rfl (hb hby at_42) rfl k) ?_
    refine bk (fun t k => XS.iconst X16.here hx rfl (hb hby at_43) k) ?_
    show F (T16.setTop (mkF m 44 #[.val (.int p0), .val (.int p1), .val (.int p2), .val (.int p3), .val (.int pp), .val (.int kk), .val (.double (own_E kk)), .second, .val (.ref b14), .val (.int (p3 &&& (2147483647 : Int32))), .unset, .unset, .unset, .unset, .unset, .unset, .unset, .unset, .unset, .unset, .unset, .unset, .unset, .unset] [(.int (3 : Int32)), (.int p2)]))
    refine bk (fun t k => XS.iand X16.here hx rfl (hb hby at_44) rfl k) ?_
    show F (T16.setTop (mkF m 45 #[.val (.int p0), .val (.int p1), .val (.int p2), .val (.int p3), .val (.int pp), .val (.int kk), .val (.double (own_E kk)), .second, .val (.ref b14), .val (.int (p3 &&& (2147483647 : Int32))), .unset, .unset, .unset, .unset, .unset, .unset, .unset, .unset, .unset, .unset, .unset, .unset, .unset, .unset] [(.int (p2 &&& (3 : Int32)))]))
    refine bk (fun t k => XS.istore X16.here hx rfl (hb hby at_45) rfl (l' := #[.val (.int p0), .val (.int p1), .val (.int p2), .val (.int p3), .val (.int pp), .val (.int kk), .val (.double (own_E kk)), .second, .val (.ref b14), .val (.int (p3 &&& (2147483647 : Int32))), .val (.int (p2 &&& (3 : Int32))), .unset, .unset, .unset, .unset, .unset, .unset, .unset, .unset, .unset, .unset, .unset, .unset, .unset]) rfl k) ?_
    have J95 : ∀ (sm : UInt64) (hsm : own_PN sm), F (T16.setTop (mkF m 95 #[.val (.int p0), .val (.int p1), .val (.int p2), .val (.int p3), .val (.int pp), .val (.int kk), .val (.double (own_E kk)), .second, .val (.ref b14), .val (.int (p3 &&& (2147483647 : Int32))), .val (.int (p2 &&& (3 : Int32))), .val (.double sm), .second, .unset, .unset, .unset, .unset, .unset, .unset, .unset, .unset, .unset, .unset, .unset] [])) := by
      intro sm hsm
      refine bk (fun t k => XS.iloadN X16.here hx rfl (hb hby at_95) rfl k) ?_
      refine bk (fun t k => XS.iconst X16.here hx rfl (hb hby at_96) k) ?_
      show F (T16.setTop (mkF m 97 #[.val (.int p0), .val (.int p1), .val (.int p2), .val (.int p3), .val (.int pp), .val (.int kk), .val (.double (own_E kk)), .second, .val (.ref b14), .val (.int (p3 &&& (2147483647 : Int32))), .val (.int (p2 &&& (3 : Int32))), .val (.double sm), .second, .unset, .unset, .unset, .unset, .unset, .unset, .unset, .unset, .unset, .unset, .unset] [(.int (2 : Int32)), (.int p2)]))
      refine bk (fun t k => XS.ishr X16.here hx rfl (hb hby at_97) rfl k) ?_
      refine bk (fun t k => XS.iconst X16.here hx rfl (hb hby at_98) k) ?_
      show F (T16.setTop (mkF m 99 #[.val (.int p0), .val (.int p1), .val (.int p2), .val (.int p3), .val (.int pp), .val (.int kk), .val (.double (own_E kk)), .second, .val (.ref b14), .val (.int (p3 &&& (2147483647 : Int32))), .val (.int (p2 &&& (3 : Int32))), .val (.double sm), .second, .unset, .unset, .unset, .unset, .unset, .unset, .unset, .unset, .unset, .unset, .unset] [(.int (1 : Int32)), (.int (p2 >>> ((2 : Int32) &&& 31)))]))
      refine bk (fun t k => XS.iand X16.here hx rfl (hb hby at_99) rfl k) ?_
      show F (T16.setTop (mkF m 100 #[.val (.int p0), .val (.int p1), .val (.int p2), .val (.int p3), .val (.int pp), .val (.int kk), .val (.double (own_E kk)), .second, .val (.ref b14), .val (.int (p3 &&& (2147483647 : Int32))), .val (.int (p2 &&& (3 : Int32))), .val (.double sm), .second, .unset, .unset, .unset, .unset, .unset, .unset, .unset, .unset, .unset, .unset, .unset] [(.int ((p2 >>> ((2 : Int32) &&& 31)) &&& (1 : Int32)))]))
      by_cases hc100_19 : ((p2 >>> ((2 : Int32) &&& 31)) &&& (1 : Int32)) = (0 : Int32)
      · refine bk (fun t k => XS.ifYes X16.here hx rfl (pc0 := 100) (pc' := 107) rfl (hb hby at_100) rfl ((if0 _ _).trans (teq hc100_19).1) (by decide) (by decide) k) ?_
        refine bk (fun t k => XS.iconst X16.here hx rfl (hb hby at_107) k) ?_
        show F (T16.setTop (mkF m 108 #[.val (.int p0), .val (.int p1), .val (.int p2), .val (.int p3), .val (.int pp), .val (.int kk), .val (.double (own_E kk)), .second, .val (.ref b14), .val (.int (p3 &&& (2147483647 : Int32))), .val (.int (p2 &&& (3 : Int32))), .val (.double sm), .second, .unset, .unset, .unset, .unset, .unset, .unset, .unset, .unset, .unset, .unset, .unset] [(.int (0 : Int32))]))
        refine bk (fun t k => XS.istore X16.here hx rfl (hb hby at_108) rfl (l' := #[.val (.int p0), .val (.int p1), .val (.int p2), .val (.int p3), .val (.int pp), .val (.int kk), .val (.double (own_E kk)), .second, .val (.ref b14), .val (.int (p3 &&& (2147483647 : Int32))), .val (.int (p2 &&& (3 : Int32))), .val (.double sm), .second, .val (.int (0 : Int32)), .unset, .unset, .unset, .unset, .unset, .unset, .unset, .unset, .unset, .unset]) rfl k) ?_
        refine bk (fun t k => XS.aload X16.here hx rfl (hb hby at_110) rfl rfl k) ?_
        show F (T16.setTop (mkF m 112 #[.val (.int p0), .val (.int p1), .val (.int p2), .val (.int p3), .val (.int pp), .val (.int kk), .val (.double (own_E kk)), .second, .val (.ref b14), .val (.int (p3 &&& (2147483647 : Int32))), .val (.int (p2 &&& (3 : Int32))), .val (.double sm), .second, .val (.int (0 : Int32)), .unset, .unset, .unset, .unset, .unset, .unset, .unset, .unset, .unset, .unset] [(.ref b14)]))
        refine bk (fun t k => XS.dload X16.here hx rfl (hb hby at_112) rfl k) ?_
        refine bk (fun t k => XS.iload X16.here hx rfl (hb hby at_114) rfl k) ?_
        show F (T16.setTop (mkF m 116 #[.val (.int p0), .val (.int p1), .val (.int p2), .val (.int p3), .val (.int pp), .val (.int kk), .val (.double (own_E kk)), .second, .val (.ref b14), .val (.int (p3 &&& (2147483647 : Int32))), .val (.int (p2 &&& (3 : Int32))), .val (.double sm), .second, .val (.int (0 : Int32)), .unset, .unset, .unset, .unset, .unset, .unset, .unset, .unset, .unset, .unset] [(.int (0 : Int32)), (.double sm), (.ref b14)]))
        obtain ⟨cq20, kq20, q20a, q20b, q20c⟩ := isOf hZ rfl (gE16)
        obtain ⟨_, _, ⟨T20, L20, k20, n20⟩, -, X20, ⟨Lc20, hQ20, l20, y20, z20⟩, st20⟩ := X16.virtualBack hx (y := (⟨"com/example/lone1/lone1/math/SumBounds", "above", "(DZ)D"⟩ : MethodName)) (z := (⟨"com/example/lone1/lone1/math/SumBounds", "above", "(DZ)D"⟩ : MethodName)) hown (mvT hZ w_19) (mvT hZ w_20) (notFace_of_selects (args := #[]) (mvT hZ w_22)) (mvT hZ w_22) (mvT hZ w_21) (by decide) (backOf (W := 0) (rm3_f l Z a0 hw [] b14 sm T16.heap n0 f17) hZ w_23 w_4 (by decide) (by decide)) q20a q20c (g := (mkF m 116 #[.val (.int p0), .val (.int p1), .val (.int p2), .val (.int p3), .val (.int pp), .val (.int kk), .val (.double (own_E kk)), .second, .val (.ref b14), .val (.int (p3 &&& (2147483647 : Int32))), .val (.int (p2 &&& (3 : Int32))), .val (.double sm), .second, .val (.int (0 : Int32)), .unset, .unset, .unset, .unset, .unset, .unset, .unset, .unset, .unset, .unset] [(.int (0 : Int32)), (.double sm), (.ref b14)])) rfl (by rw [hml]; rfl) (Steps.refl _) (argsL := [(.double sm), (.int (0 : Int32))]) (rest := []) (lenOf pd0__DZ_D rfl) rfl (by show 2 * 0 + _ ≤ _; exact Nat.le_of_eq rfl) (hb hby at_116) (fun _ _ => ⟨rfl, rfl, (by decide : 1 + 0 ≤ _), (by decide : 2 + 0 ≤ _)⟩)
        dsimp only [Pt.U, Pt.locs, Pt.cells, Pt.slots] at X20 l20 y20 z20 st20 hQ20
        subst l20 y20 z20
        obtain ⟨rfl, N20q, e20⟩ := hQ20
        have N20 := Fr.app N16 N20q
        refine bk (fun t k => st20.trans k) ?_
        show F (T20.setTop (mkF m 119 #[.val (.int p0), .val (.int p1), .val (.int p2), .val (.int p3), .val (.int pp), .val (.int kk), .val (.double (own_E kk)), .second, .val (.ref b14), .val (.int (p3 &&& (2147483647 : Int32))), .val (.int (p2 &&& (3 : Int32))), .val (.double sm), .second, .val (.int (0 : Int32)), .unset, .unset, .unset, .unset, .unset, .unset, .unset, .unset, .unset, .unset] [(.double (0 : UInt64))]))
        refine bk (fun t k => XS.dstore X20.here hx rfl (hb hby at_119) rfl (l' := #[.val (.int p0), .val (.int p1), .val (.int p2), .val (.int p3), .val (.int pp), .val (.int kk), .val (.double (own_E kk)), .second, .val (.ref b14), .val (.int (p3 &&& (2147483647 : Int32))), .val (.int (p2 &&& (3 : Int32))), .val (.double sm), .second, .val (.int (0 : Int32)), .val (.double (0 : UInt64)), .second, .unset, .unset, .unset, .unset, .unset, .unset, .unset, .unset]) rfl k) ?_
        refine bk (fun t k => XS.iload X20.here hx rfl (hb hby at_121) rfl k) ?_
        show F (T20.setTop (mkF m 123 #[.val (.int p0), .val (.int p1), .val (.int p2), .val (.int p3), .val (.int pp), .val (.int kk), .val (.double (own_E kk)), .second, .val (.ref b14), .val (.int (p3 &&& (2147483647 : Int32))), .val (.int (p2 &&& (3 : Int32))), .val (.double sm), .second, .val (.int (0 : Int32)), .val (.double (0 : UInt64)), .second, .unset, .unset, .unset, .unset, .unset, .unset, .unset, .unset] [(.int (0 : Int32))]))
        refine bk (fun t k => XS.ifNo X20.here hx rfl (hb hby at_123) rfl ((if0 _ _).trans (teq (by decide : (0 : Int32) = (0 : Int32))).2) k) ?_
        show F (T20.setTop (mkF m 126 #[.val (.int p0), .val (.int p1), .val (.int p2), .val (.int p3), .val (.int pp), .val (.int kk), .val (.double (own_E kk)), .second, .val (.ref b14), .val (.int (p3 &&& (2147483647 : Int32))), .val (.int (p2 &&& (3 : Int32))), .val (.double sm), .second, .val (.int (0 : Int32)), .val (.double (0 : UInt64)), .second, .unset, .unset, .unset, .unset, .unset, .unset, .unset, .unset] []))
        refine bk (fun t k => XS.dload X20.here hx rfl (hb hby at_126) rfl k) ?_
        show F (T20.setTop (mkF m 128 #[.val (.int p0), .val (.int p1), .val (.int p2), .val (.int p3), .val (.int pp), .val (.int kk), .val (.double (own_E kk)), .second, .val (.ref b14), .val (.int (p3 &&& (2147483647 : Int32))), .val (.int (p2 &&& (3 : Int32))), .val (.double sm), .second, .val (.int (0 : Int32)), .val (.double (0 : UInt64)), .second, .unset, .unset, .unset, .unset, .unset, .unset, .unset, .unset] [(.double (0 : UInt64))]))
        refine bk (fun t k => XS.dconst0 X20.here hx rfl (hb hby at_128) (v := (0 : UInt64)) rfl k) ?_
        show F (T20.setTop (mkF m 129 #[.val (.int p0), .val (.int p1), .val (.int p2), .val (.int p3), .val (.int pp), .val (.int kk), .val (.double (own_E kk)), .second, .val (.ref b14), .val (.int (p3 &&& (2147483647 : Int32))), .val (.int (p2 &&& (3 : Int32))), .val (.double sm), .second, .val (.int (0 : Int32)), .val (.double (0 : UInt64)), .second, .unset, .unset, .unset, .unset, .unset, .unset, .unset, .unset] [(.double (0 : UInt64)), (.double (0 : UInt64))]))
        refine bk (fun t k => XS.dcmpS X20.here hx rfl (hb hby at_129) rfl (v := (own_c (0 : UInt64) (0 : UInt64))) (own_cmp own_pn0 own_pn0 _) k) ?_
        show F (T20.setTop (mkF m 130 #[.val (.int p0), .val (.int p1), .val (.int p2), .val (.int p3), .val (.int pp), .val (.int kk), .val (.double (own_E kk)), .second, .val (.ref b14), .val (.int (p3 &&& (2147483647 : Int32))), .val (.int (p2 &&& (3 : Int32))), .val (.double sm), .second, .val (.int (0 : Int32)), .val (.double (0 : UInt64)), .second, .unset, .unset, .unset, .unset, .unset, .unset, .unset, .unset] [(.int (own_c (0 : UInt64) (0 : UInt64)))]))
        refine bk (fun t k => XS.ifNo X20.here hx rfl (hb hby at_130) rfl ((if0 _ _).trans (teq (own_cz.mpr rfl)).2) k) ?_
        refine bk (fun t k => XS.iconst X20.here hx rfl (hb hby at_133) k) ?_
        refine bk (fun t k => XS.goto X20.here hx rfl (pc0 := 134) (pc' := 138) rfl (hb hby at_134) (by decide) (by decide) k) ?_
        show F (T20.setTop (mkF m 138 #[.val (.int p0), .val (.int p1), .val (.int p2), .val (.int p3), .val (.int pp), .val (.int kk), .val (.double (own_E kk)), .second, .val (.ref b14), .val (.int (p3 &&& (2147483647 : Int32))), .val (.int (p2 &&& (3 : Int32))), .val (.double sm), .second, .val (.int (0 : Int32)), .val (.double (0 : UInt64)), .second, .unset, .unset, .unset, .unset, .unset, .unset, .unset, .unset] [(.int (1 : Int32))]))
        rw [hF]
        refine own_retZ X20 hx Bd.notSynchronized Bd.returns (hb hby at_138) (by decide) (by decide) ?_
        rw [e20]
        exact ⟨rfl, N20⟩
      · refine bk (fun t k => XS.ifNo X16.here hx rfl (hb hby at_100) rfl ((if0 _ _).trans (feq hc100_19).1) k) ?_
        refine bk (fun t k => XS.iconst X16.here hx rfl (hb hby at_103) k) ?_
        refine bk (fun t k => XS.goto X16.here hx rfl (pc0 := 104) (pc' := 108) rfl (hb hby at_104) (by decide) (by decide) k) ?_
        show F (T16.setTop (mkF m 108 #[.val (.int p0), .val (.int p1), .val (.int p2), .val (.int p3), .val (.int pp), .val (.int kk), .val (.double (own_E kk)), .second, .val (.ref b14), .val (.int (p3 &&& (2147483647 : Int32))), .val (.int (p2 &&& (3 : Int32))), .val (.double sm), .second, .unset, .unset, .unset, .unset, .unset, .unset, .unset, .unset, .unset, .unset, .unset] [(.int (1 : Int32))]))
        refine bk (fun t k => XS.istore X16.here hx rfl (hb hby at_108) rfl (l' := #[.val (.int p0), .val (.int p1), .val (.int p2), .val (.int p3), .val (.int pp), .val (.int kk), .val (.double (own_E kk)), .second, .val (.ref b14), .val (.int (p3 &&& (2147483647 : Int32))), .val (.int (p2 &&& (3 : Int32))), .val (.double sm), .second, .val (.int (1 : Int32)), .unset, .unset, .unset, .unset, .unset, .unset, .unset, .unset, .unset, .unset]) rfl k) ?_
        refine bk (fun t k => XS.aload X16.here hx rfl (hb hby at_110) rfl rfl k) ?_
        show F (T16.setTop (mkF m 112 #[.val (.int p0), .val (.int p1), .val (.int p2), .val (.int p3), .val (.int pp), .val (.int kk), .val (.double (own_E kk)), .second, .val (.ref b14), .val (.int (p3 &&& (2147483647 : Int32))), .val (.int (p2 &&& (3 : Int32))), .val (.double sm), .second, .val (.int (1 : Int32)), .unset, .unset, .unset, .unset, .unset, .unset, .unset, .unset, .unset, .unset] [(.ref b14)]))
        refine bk (fun t k => XS.dload X16.here hx rfl (hb hby at_112) rfl k) ?_
        refine bk (fun t k => XS.iload X16.here hx rfl (hb hby at_114) rfl k) ?_
        show F (T16.setTop (mkF m 116 #[.val (.int p0), .val (.int p1), .val (.int p2), .val (.int p3), .val (.int pp), .val (.int kk), .val (.double (own_E kk)), .second, .val (.ref b14), .val (.int (p3 &&& (2147483647 : Int32))), .val (.int (p2 &&& (3 : Int32))), .val (.double sm), .second, .val (.int (1 : Int32)), .unset, .unset, .unset, .unset, .unset, .unset, .unset, .unset, .unset, .unset] [(.int (1 : Int32)), (.double sm), (.ref b14)]))
        obtain ⟨cq21, kq21, q21a, q21b, q21c⟩ := isOf hZ rfl (gE16)
        obtain ⟨_, _, ⟨T21, L21, k21, n21⟩, -, X21, ⟨Lc21, hQ21, l21, y21, z21⟩, st21⟩ := X16.virtualBack hx (y := (⟨"com/example/lone1/lone1/math/SumBounds", "above", "(DZ)D"⟩ : MethodName)) (z := (⟨"com/example/lone1/lone1/math/SumBounds", "above", "(DZ)D"⟩ : MethodName)) hown (mvT hZ w_19) (mvT hZ w_20) (notFace_of_selects (args := #[]) (mvT hZ w_22)) (mvT hZ w_22) (mvT hZ w_21) (by decide) (backOf (W := 0) (rm3_b l Z a0 hw [] b14 sm T16.heap n0 f17 gU16) hZ w_23 w_4 (by decide) (by decide)) q21a q21c (g := (mkF m 116 #[.val (.int p0), .val (.int p1), .val (.int p2), .val (.int p3), .val (.int pp), .val (.int kk), .val (.double (own_E kk)), .second, .val (.ref b14), .val (.int (p3 &&& (2147483647 : Int32))), .val (.int (p2 &&& (3 : Int32))), .val (.double sm), .second, .val (.int (1 : Int32)), .unset, .unset, .unset, .unset, .unset, .unset, .unset, .unset, .unset, .unset] [(.int (1 : Int32)), (.double sm), (.ref b14)])) rfl (by rw [hml]; rfl) (Steps.refl _) (argsL := [(.double sm), (.int (1 : Int32))]) (rest := []) (lenOf pd0__DZ_D rfl) rfl (by show 2 * 0 + _ ≤ _; exact Nat.le_of_eq rfl) (hb hby at_116) (fun _ _ => ⟨rfl, rfl, (by decide : 1 + 0 ≤ _), (by decide : 2 + 0 ≤ _)⟩)
        dsimp only [Pt.U, Pt.locs, Pt.cells, Pt.slots] at X21 l21 y21 z21 st21 hQ21
        subst l21 y21 z21
        obtain ⟨rfl, N21q, e21⟩ := hQ21
        have N21 := Fr.app N16 N21q
        refine bk (fun t k => st21.trans k) ?_
        show F (T21.setTop (mkF m 119 #[.val (.int p0), .val (.int p1), .val (.int p2), .val (.int p3), .val (.int pp), .val (.int kk), .val (.double (own_E kk)), .second, .val (.ref b14), .val (.int (p3 &&& (2147483647 : Int32))), .val (.int (p2 &&& (3 : Int32))), .val (.double sm), .second, .val (.int (1 : Int32)), .unset, .unset, .unset, .unset, .unset, .unset, .unset, .unset, .unset, .unset] [(.double (9218868437227405312 : UInt64))]))
        refine bk (fun t k => XS.dstore X21.here hx rfl (hb hby at_119) rfl (l' := #[.val (.int p0), .val (.int p1), .val (.int p2), .val (.int p3), .val (.int pp), .val (.int kk), .val (.double (own_E kk)), .second, .val (.ref b14), .val (.int (p3 &&& (2147483647 : Int32))), .val (.int (p2 &&& (3 : Int32))), .val (.double sm), .second, .val (.int (1 : Int32)), .val (.double (9218868437227405312 : UInt64)), .second, .unset, .unset, .unset, .unset, .unset, .unset, .unset, .unset]) rfl k) ?_
        refine bk (fun t k => XS.iload X21.here hx rfl (hb hby at_121) rfl k) ?_
        show F (T21.setTop (mkF m 123 #[.val (.int p0), .val (.int p1), .val (.int p2), .val (.int p3), .val (.int pp), .val (.int kk), .val (.double (own_E kk)), .second, .val (.ref b14), .val (.int (p3 &&& (2147483647 : Int32))), .val (.int (p2 &&& (3 : Int32))), .val (.double sm), .second, .val (.int (1 : Int32)), .val (.double (9218868437227405312 : UInt64)), .second, .unset, .unset, .unset, .unset, .unset, .unset, .unset, .unset] [(.int (1 : Int32))]))
        refine bk (fun t k => XS.ifYes X21.here hx rfl (pc0 := 123) (pc' := 139) rfl (hb hby at_123) rfl ((if0 _ _).trans (feq (by decide : ¬ ((1 : Int32) = (0 : Int32)))).2) (by decide) (by decide) k) ?_
        refine bk (fun t k => XS.iload X21.here hx rfl (hb hby at_139) rfl k) ?_
        refine bk (fun t k => XS.bipush X21.here hx rfl (hb hby at_141) k) ?_
        show F (T21.setTop (mkF m 143 #[.val (.int p0), .val (.int p1), .val (.int p2), .val (.int p3), .val (.int pp), .val (.int kk), .val (.double (own_E kk)), .second, .val (.ref b14), .val (.int (p3 &&& (2147483647 : Int32))), .val (.int (p2 &&& (3 : Int32))), .val (.double sm), .second, .val (.int (1 : Int32)), .val (.double (9218868437227405312 : UInt64)), .second, .unset, .unset, .unset, .unset, .unset, .unset, .unset, .unset] [(.int (8 : Int32)), (.int kk)]))
        refine bk (fun t k => XS.icmpNo X21.here hx rfl (hb hby at_143) rfl (flt hc900_1).1 k) ?_
        show F (T21.setTop (mkF m 146 #[.val (.int p0), .val (.int p1), .val (.int p2), .val (.int p3), .val (.int pp), .val (.int kk), .val (.double (own_E kk)), .second, .val (.ref b14), .val (.int (p3 &&& (2147483647 : Int32))), .val (.int (p2 &&& (3 : Int32))), .val (.double sm), .second, .val (.int (1 : Int32)), .val (.double (9218868437227405312 : UInt64)), .second, .unset, .unset, .unset, .unset, .unset, .unset, .unset, .unset] []))
        refine bk (fun t k => XS.dload X21.here hx rfl (hb hby at_146) rfl k) ?_
        show F (T21.setTop (mkF m 148 #[.val (.int p0), .val (.int p1), .val (.int p2), .val (.int p3), .val (.int pp), .val (.int kk), .val (.double (own_E kk)), .second, .val (.ref b14), .val (.int (p3 &&& (2147483647 : Int32))), .val (.int (p2 &&& (3 : Int32))), .val (.double sm), .second, .val (.int (1 : Int32)), .val (.double (9218868437227405312 : UInt64)), .second, .unset, .unset, .unset, .unset, .unset, .unset, .unset, .unset] [(.double (9218868437227405312 : UInt64))]))
        refine bk (fun t k => X21.ldc2DoubleC hx hown (mvT hZ w_29) (g := (mkF m 148 #[.val (.int p0), .val (.int p1), .val (.int p2), .val (.int p3), .val (.int pp), .val (.int kk), .val (.double (own_E kk)), .second, .val (.ref b14), .val (.int (p3 &&& (2147483647 : Int32))), .val (.int (p2 &&& (3 : Int32))), .val (.double sm), .second, .val (.int (1 : Int32)), .val (.double (9218868437227405312 : UInt64)), .second, .unset, .unset, .unset, .unset, .unset, .unset, .unset, .unset] [(.double (9218868437227405312 : UInt64))])) rfl (hb hby at_148) t k) ?_
        show F (T21.setTop (mkF m 151 #[.val (.int p0), .val (.int p1), .val (.int p2), .val (.int p3), .val (.int pp), .val (.int kk), .val (.double (own_E kk)), .second, .val (.ref b14), .val (.int (p3 &&& (2147483647 : Int32))), .val (.int (p2 &&& (3 : Int32))), .val (.double sm), .second, .val (.int (1 : Int32)), .val (.double (9218868437227405312 : UInt64)), .second, .unset, .unset, .unset, .unset, .unset, .unset, .unset, .unset] [(.double (9218868437227405312 : UInt64)), (.double (9218868437227405312 : UInt64))]))
        refine bk (fun t k => XS.dcmpS X21.here hx rfl (hb hby at_151) rfl (v := (own_c (9218868437227405312 : UInt64) (9218868437227405312 : UInt64))) (own_cmp own_pnI own_pnI _) k) ?_
        show F (T21.setTop (mkF m 152 #[.val (.int p0), .val (.int p1), .val (.int p2), .val (.int p3), .val (.int pp), .val (.int kk), .val (.double (own_E kk)), .second, .val (.ref b14), .val (.int (p3 &&& (2147483647 : Int32))), .val (.int (p2 &&& (3 : Int32))), .val (.double sm), .second, .val (.int (1 : Int32)), .val (.double (9218868437227405312 : UInt64)), .second, .unset, .unset, .unset, .unset, .unset, .unset, .unset, .unset] [(.int (own_c (9218868437227405312 : UInt64) (9218868437227405312 : UInt64)))]))
        refine bk (fun t k => XS.ifNo X21.here hx rfl (hb hby at_152) rfl ((if0 _ _).trans (teq (own_cz.mpr rfl)).2) k) ?_
        refine bk (fun t k => XS.iconst X21.here hx rfl (hb hby at_155) k) ?_
        refine bk (fun t k => XS.goto X21.here hx rfl (pc0 := 156) (pc' := 160) rfl (hb hby at_156) (by decide) (by decide) k) ?_
        show F (T21.setTop (mkF m 160 #[.val (.int p0), .val (.int p1), .val (.int p2), .val (.int p3), .val (.int pp), .val (.int kk), .val (.double (own_E kk)), .second, .val (.ref b14), .val (.int (p3 &&& (2147483647 : Int32))), .val (.int (p2 &&& (3 : Int32))), .val (.double sm), .second, .val (.int (1 : Int32)), .val (.double (9218868437227405312 : UInt64)), .second, .unset, .unset, .unset, .unset, .unset, .unset, .unset, .unset] [(.int (1 : Int32))]))
        rw [hF]
        refine own_retZ X21 hx Bd.notSynchronized Bd.returns (hb hby at_160) (by decide) (by decide) ?_
        rw [e21]
        exact ⟨rfl, N21⟩
    refine bk (fun t k => XS.iload X16.here hx rfl (hb hby at_47) rfl k) ?_
    show F (T16.setTop (mkF m 49 #[.val (.int p0), .val (.int p1), .val (.int p2), .val (.int p3), .val (.int pp), .val (.int kk), .val (.double (own_E kk)), .second, .val (.ref b14), .val (.int (p3 &&& (2147483647 : Int32))), .val (.int (p2 &&& (3 : Int32))), .unset, .unset, .unset, .unset, .unset, .unset, .unset, .unset, .unset, .unset, .unset, .unset, .unset] [(.int (p2 &&& (3 : Int32)))]))
    by_cases hc49_22 : (p2 &&& (3 : Int32)) = (0 : Int32)
    · refine bk (fun t k => XS.ifNo X16.here hx rfl (hb hby at_49) rfl ((if0 _ _).trans (teq hc49_22).2) k) ?_
      refine bk (fun t k => XS.iload X16.here hx rfl (hb hby at_52) rfl k) ?_
      show F (T16.setTop (mkF m 54 #[.val (.int p0), .val (.int p1), .val (.int p2), .val (.int p3), .val (.int pp), .val (.int kk), .val (.double (own_E kk)), .second, .val (.ref b14), .val (.int (p3 &&& (2147483647 : Int32))), .val (.int (p2 &&& (3 : Int32))), .unset, .unset, .unset, .unset, .unset, .unset, .unset, .unset, .unset, .unset, .unset, .unset, .unset] [(.int (p3 &&& (2147483647 : Int32)))]))
      refine bk (fun t k => XS.i2dS X16.here hx rfl (hb hby at_54) rfl (v := (FP.i2d (p3 &&& (2147483647 : Int32)))) rfl k) ?_
      show F (T16.setTop (mkF m 55 #[.val (.int p0), .val (.int p1), .val (.int p2), .val (.int p3), .val (.int pp), .val (.int kk), .val (.double (own_E kk)), .second, .val (.ref b14), .val (.int (p3 &&& (2147483647 : Int32))), .val (.int (p2 &&& (3 : Int32))), .unset, .unset, .unset, .unset, .unset, .unset, .unset, .unset, .unset, .unset, .unset, .unset, .unset] [(.double (FP.i2d (p3 &&& (2147483647 : Int32))))]))
      refine bk (fun t k => XS.dstore X16.here hx rfl (hb hby at_55) rfl (l' := #[.val (.int p0), .val (.int p1), .val (.int p2), .val (.int p3), .val (.int pp), .val (.int kk), .val (.double (own_E kk)), .second, .val (.ref b14), .val (.int (p3 &&& (2147483647 : Int32))), .val (.int (p2 &&& (3 : Int32))), .val (.double (FP.i2d (p3 &&& (2147483647 : Int32)))), .second, .unset, .unset, .unset, .unset, .unset, .unset, .unset, .unset, .unset, .unset, .unset]) rfl k) ?_
      refine bk (fun t k => XS.goto X16.here hx rfl (pc0 := 57) (pc' := 95) rfl (hb hby at_57) (by decide) (by decide) k) ?_
      show F (T16.setTop (mkF m 95 #[.val (.int p0), .val (.int p1), .val (.int p2), .val (.int p3), .val (.int pp), .val (.int kk), .val (.double (own_E kk)), .second, .val (.ref b14), .val (.int (p3 &&& (2147483647 : Int32))), .val (.int (p2 &&& (3 : Int32))), .val (.double (FP.i2d (p3 &&& (2147483647 : Int32)))), .second, .unset, .unset, .unset, .unset, .unset, .unset, .unset, .unset, .unset, .unset, .unset] []))
      exact J95 _ (own_pf (own_sum0 p3))
    · refine bk (fun t k => XS.ifYes X16.here hx rfl (pc0 := 49) (pc' := 60) rfl (hb hby at_49) rfl ((if0 _ _).trans (feq hc49_22).2) (by decide) (by decide) k) ?_
      refine bk (fun t k => XS.iload X16.here hx rfl (hb hby at_60) rfl k) ?_
      refine bk (fun t k => XS.iconst X16.here hx rfl (hb hby at_62) k) ?_
      show F (T16.setTop (mkF m 63 #[.val (.int p0), .val (.int p1), .val (.int p2), .val (.int p3), .val (.int pp), .val (.int kk), .val (.double (own_E kk)), .second, .val (.ref b14), .val (.int (p3 &&& (2147483647 : Int32))), .val (.int (p2 &&& (3 : Int32))), .unset, .unset, .unset, .unset, .unset, .unset, .unset, .unset, .unset, .unset, .unset, .unset, .unset] [(.int (1 : Int32)), (.int (p2 &&& (3 : Int32)))]))
      by_cases hc63_23 : (p2 &&& (3 : Int32)) = (1 : Int32)
      · refine bk (fun t k => XS.icmpNo X16.here hx rfl (hb hby at_63) rfl (teq hc63_23).2 k) ?_
        refine bk (fun t k => XS.iload X16.here hx rfl (hb hby at_66) rfl k) ?_
        show F (T16.setTop (mkF m 68 #[.val (.int p0), .val (.int p1), .val (.int p2), .val (.int p3), .val (.int pp), .val (.int kk), .val (.double (own_E kk)), .second, .val (.ref b14), .val (.int (p3 &&& (2147483647 : Int32))), .val (.int (p2 &&& (3 : Int32))), .unset, .unset, .unset, .unset, .unset, .unset, .unset, .unset, .unset, .unset, .unset, .unset, .unset] [(.int (p3 &&& (2147483647 : Int32)))]))
        refine bk (fun t k => XS.i2dS X16.here hx rfl (hb hby at_68) rfl (v := (FP.i2d (p3 &&& (2147483647 : Int32)))) rfl k) ?_
        show F (T16.setTop (mkF m 69 #[.val (.int p0), .val (.int p1), .val (.int p2), .val (.int p3), .val (.int pp), .val (.int kk), .val (.double (own_E kk)), .second, .val (.ref b14), .val (.int (p3 &&& (2147483647 : Int32))), .val (.int (p2 &&& (3 : Int32))), .unset, .unset, .unset, .unset, .unset, .unset, .unset, .unset, .unset, .unset, .unset, .unset, .unset] [(.double (FP.i2d (p3 &&& (2147483647 : Int32))))]))
        refine bk (fun t k => X16.ldc2DoubleC hx hown (mvT hZ w_30) (g := (mkF m 69 #[.val (.int p0), .val (.int p1), .val (.int p2), .val (.int p3), .val (.int pp), .val (.int kk), .val (.double (own_E kk)), .second, .val (.ref b14), .val (.int (p3 &&& (2147483647 : Int32))), .val (.int (p2 &&& (3 : Int32))), .unset, .unset, .unset, .unset, .unset, .unset, .unset, .unset, .unset, .unset, .unset, .unset, .unset] [(.double (FP.i2d (p3 &&& (2147483647 : Int32))))])) rfl (hb hby at_69) t k) ?_
        show F (T16.setTop (mkF m 72 #[.val (.int p0), .val (.int p1), .val (.int p2), .val (.int p3), .val (.int pp), .val (.int kk), .val (.double (own_E kk)), .second, .val (.ref b14), .val (.int (p3 &&& (2147483647 : Int32))), .val (.int (p2 &&& (3 : Int32))), .unset, .unset, .unset, .unset, .unset, .unset, .unset, .unset, .unset, .unset, .unset, .unset, .unset] [(.double (148618787703226368 : UInt64)), (.double (FP.i2d (p3 &&& (2147483647 : Int32))))]))
        refine bk (fun t k => XS.dmulS X16.here hx rfl (hb hby at_72) rfl (own_nn (own_sum1 p3)) (v := (FP.dmul (FP.i2d (p3 &&& (2147483647 : Int32))) (148618787703226368 : UInt64))) rfl k) ?_
        show F (T16.setTop (mkF m 73 #[.val (.int p0), .val (.int p1), .val (.int p2), .val (.int p3), .val (.int pp), .val (.int kk), .val (.double (own_E kk)), .second, .val (.ref b14), .val (.int (p3 &&& (2147483647 : Int32))), .val (.int (p2 &&& (3 : Int32))), .unset, .unset, .unset, .unset, .unset, .unset, .unset, .unset, .unset, .unset, .unset, .unset, .unset] [(.double (FP.dmul (FP.i2d (p3 &&& (2147483647 : Int32))) (148618787703226368 : UInt64)))]))
        refine bk (fun t k => XS.dstore X16.here hx rfl (hb hby at_73) rfl (l' := #[.val (.int p0), .val (.int p1), .val (.int p2), .val (.int p3), .val (.int pp), .val (.int kk), .val (.double (own_E kk)), .second, .val (.ref b14), .val (.int (p3 &&& (2147483647 : Int32))), .val (.int (p2 &&& (3 : Int32))), .val (.double (FP.dmul (FP.i2d (p3 &&& (2147483647 : Int32))) (148618787703226368 : UInt64))), .second, .unset, .unset, .unset, .unset, .unset, .unset, .unset, .unset, .unset, .unset, .unset]) rfl k) ?_
        refine bk (fun t k => XS.goto X16.here hx rfl (pc0 := 75) (pc' := 95) rfl (hb hby at_75) (by decide) (by decide) k) ?_
        show F (T16.setTop (mkF m 95 #[.val (.int p0), .val (.int p1), .val (.int p2), .val (.int p3), .val (.int pp), .val (.int kk), .val (.double (own_E kk)), .second, .val (.ref b14), .val (.int (p3 &&& (2147483647 : Int32))), .val (.int (p2 &&& (3 : Int32))), .val (.double (FP.dmul (FP.i2d (p3 &&& (2147483647 : Int32))) (148618787703226368 : UInt64))), .second, .unset, .unset, .unset, .unset, .unset, .unset, .unset, .unset, .unset, .unset, .unset] []))
        exact J95 _ (own_sum1 p3)
      · refine bk (fun t k => XS.icmpYes X16.here hx rfl (pc0 := 63) (pc' := 78) rfl (hb hby at_63) rfl (feq hc63_23).2 (by decide) (by decide) k) ?_
        refine bk (fun t k => XS.iload X16.here hx rfl (hb hby at_78) rfl k) ?_
        refine bk (fun t k => XS.iconst X16.here hx rfl (hb hby at_80) k) ?_
        show F (T16.setTop (mkF m 81 #[.val (.int p0), .val (.int p1), .val (.int p2), .val (.int p3), .val (.int pp), .val (.int kk), .val (.double (own_E kk)), .second, .val (.ref b14), .val (.int (p3 &&& (2147483647 : Int32))), .val (.int (p2 &&& (3 : Int32))), .unset, .unset, .unset, .unset, .unset, .unset, .unset, .unset, .unset, .unset, .unset, .unset, .unset] [(.int (2 : Int32)), (.int (p2 &&& (3 : Int32)))]))
        by_cases hc81_24 : (p2 &&& (3 : Int32)) = (2 : Int32)
        · refine bk (fun t k => XS.icmpNo X16.here hx rfl (hb hby at_81) rfl (teq hc81_24).2 k) ?_
          show F (T16.setTop (mkF m 84 #[.val (.int p0), .val (.int p1), .val (.int p2), .val (.int p3), .val (.int pp), .val (.int kk), .val (.double (own_E kk)), .second, .val (.ref b14), .val (.int (p3 &&& (2147483647 : Int32))), .val (.int (p2 &&& (3 : Int32))), .unset, .unset, .unset, .unset, .unset, .unset, .unset, .unset, .unset, .unset, .unset, .unset, .unset] []))
          refine bk (fun t k => XS.dconst0 X16.here hx rfl (hb hby at_84) (v := (0 : UInt64)) rfl k) ?_
          show F (T16.setTop (mkF m 85 #[.val (.int p0), .val (.int p1), .val (.int p2), .val (.int p3), .val (.int pp), .val (.int kk), .val (.double (own_E kk)), .second, .val (.ref b14), .val (.int (p3 &&& (2147483647 : Int32))), .val (.int (p2 &&& (3 : Int32))), .unset, .unset, .unset, .unset, .unset, .unset, .unset, .unset, .unset, .unset, .unset, .unset, .unset] [(.double (0 : UInt64))]))
          refine bk (fun t k => XS.dstore X16.here hx rfl (hb hby at_85) rfl (l' := #[.val (.int p0), .val (.int p1), .val (.int p2), .val (.int p3), .val (.int pp), .val (.int kk), .val (.double (own_E kk)), .second, .val (.ref b14), .val (.int (p3 &&& (2147483647 : Int32))), .val (.int (p2 &&& (3 : Int32))), .val (.double (0 : UInt64)), .second, .unset, .unset, .unset, .unset, .unset, .unset, .unset, .unset, .unset, .unset, .unset]) rfl k) ?_
          refine bk (fun t k => XS.goto X16.here hx rfl (pc0 := 87) (pc' := 95) rfl (hb hby at_87) (by decide) (by decide) k) ?_
          show F (T16.setTop (mkF m 95 #[.val (.int p0), .val (.int p1), .val (.int p2), .val (.int p3), .val (.int pp), .val (.int kk), .val (.double (own_E kk)), .second, .val (.ref b14), .val (.int (p3 &&& (2147483647 : Int32))), .val (.int (p2 &&& (3 : Int32))), .val (.double (0 : UInt64)), .second, .unset, .unset, .unset, .unset, .unset, .unset, .unset, .unset, .unset, .unset, .unset] []))
          exact J95 _ own_pn0
        · refine bk (fun t k => XS.icmpYes X16.here hx rfl (pc0 := 81) (pc' := 90) rfl (hb hby at_81) rfl (feq hc81_24).2 (by decide) (by decide) k) ?_
          show F (T16.setTop (mkF m 90 #[.val (.int p0), .val (.int p1), .val (.int p2), .val (.int p3), .val (.int pp), .val (.int kk), .val (.double (own_E kk)), .second, .val (.ref b14), .val (.int (p3 &&& (2147483647 : Int32))), .val (.int (p2 &&& (3 : Int32))), .unset, .unset, .unset, .unset, .unset, .unset, .unset, .unset, .unset, .unset, .unset, .unset, .unset] []))
          refine bk (fun t k => X16.ldc2DoubleC hx hown (mvT hZ w_29) (g := (mkF m 90 #[.val (.int p0), .val (.int p1), .val (.int p2), .val (.int p3), .val (.int pp), .val (.int kk), .val (.double (own_E kk)), .second, .val (.ref b14), .val (.int (p3 &&& (2147483647 : Int32))), .val (.int (p2 &&& (3 : Int32))), .unset, .unset, .unset, .unset, .unset, .unset, .unset, .unset, .unset, .unset, .unset, .unset, .unset] [])) rfl (hb hby at_90) t k) ?_
          show F (T16.setTop (mkF m 93 #[.val (.int p0), .val (.int p1), .val (.int p2), .val (.int p3), .val (.int pp), .val (.int kk), .val (.double (own_E kk)), .second, .val (.ref b14), .val (.int (p3 &&& (2147483647 : Int32))), .val (.int (p2 &&& (3 : Int32))), .unset, .unset, .unset, .unset, .unset, .unset, .unset, .unset, .unset, .unset, .unset, .unset, .unset] [(.double (9218868437227405312 : UInt64))]))
          refine bk (fun t k => XS.dstore X16.here hx rfl (hb hby at_93) rfl (l' := #[.val (.int p0), .val (.int p1), .val (.int p2), .val (.int p3), .val (.int pp), .val (.int kk), .val (.double (own_E kk)), .second, .val (.ref b14), .val (.int (p3 &&& (2147483647 : Int32))), .val (.int (p2 &&& (3 : Int32))), .val (.double (9218868437227405312 : UInt64)), .second, .unset, .unset, .unset, .unset, .unset, .unset, .unset, .unset, .unset, .unset, .unset]) rfl k) ?_
          show F (T16.setTop (mkF m 95 #[.val (.int p0), .val (.int p1), .val (.int p2), .val (.int p3), .val (.int pp), .val (.int kk), .val (.double (own_E kk)), .second, .val (.ref b14), .val (.int (p3 &&& (2147483647 : Int32))), .val (.int (p2 &&& (3 : Int32))), .val (.double (9218868437227405312 : UInt64)), .second, .unset, .unset, .unset, .unset, .unset, .unset, .unset, .unset, .unset, .unset, .unset] []))
          exact J95 _ own_pnI
set_option maxRecDepth 65536 in
set_option maxHeartbeats 40000000 in
theorem comes_1 {Post : Tables → Env → Array Value → State → Outcome → State → Prop} (hpost : ∀ tb e args s v u, (limb_1_1.after args s (.returned v) u = true ∧ limb_1_2.after args s (.returned v) u = true ∧ True) → FrameEnd s (.returned v) u (Jvm.fieldLocs frame_1_writes args s ++ Jvm.arrayLocs frame_1_arrays args s ++ Jvm.staticLocs frame_1_statics s) 16 128 → Post tb e args s (.returned v) u) :
    ArmFor flags0 classFile x code maxLocals ret World_1 tables_1 room_1 Calls_1 rest_1 Pre_1 Post := by
  intro l hfl _ _ p e ha hc hk s m args below hf hA hF happ hP
  obtain ⟨hcalls, hrest, hpre⟩ := hP
  obtain ⟨-, -, -, hnamed, -, -, -, hat⟩ := (Spec.applies_iff hf).mp happ
  obtain ⟨hg, hn⟩ := and_e (Cond.before_iff.mp (show (Jvm.Cond.and given_1 narrow_1).before args s = true from hpre))
  obtain ⟨hcount, hk0⟩ := and_e hg
  obtain ⟨hi0, hk1⟩ := and_e hk0
  obtain ⟨hi1, hk2⟩ := and_e hk1
  obtain ⟨hi2, hk3⟩ := and_e hk2
  have hi3 := hk3
  obtain ⟨w0, w1, w2, w3, rfl⟩ : ∃ w0 w1 w2 w3 : Value, args = #[w0, w1, w2, w3] := by
    have hs : args.size = 4 := by simpa [Cond.value, given_1] using hcount
    obtain ⟨L⟩ := args
    match L, hs with
    | [w0, w1, w2, w3], _ => exact ⟨w0, w1, w2, w3, rfl⟩
  have hw := fun d (hd : d ∈ tables_1) => atoms_spec (ws := Jvm.Cond.code x code maxLocals ret :: tables_1) hat d (List.mem_cons_of_mem _ hd)
  obtain ⟨i0, ei0⟩ := is_v hi0
  obtain rfl : w0 = (.int i0) := Option.some.inj ei0
  obtain ⟨i1, ei1⟩ := is_v hi1
  obtain rfl : w1 = (.int i1) := Option.some.inj ei1
  obtain ⟨i2, ei2⟩ := is_v hi2
  obtain rfl : w2 = (.int i2) := Option.some.inj ei2
  obtain ⟨i3, ei3⟩ := is_v hi3
  obtain rfl : w3 = (.int i3) := Option.some.inj ei3
  obtain ⟨n, o, h1, h2, h3, _, L, rfl, ⟨rfl, N⟩, hq⟩ := rm0 l s _ hw tables_1 i0 i1 i2 i3  s.heap s.heap.size (Nat.le_refl _)  p e ha hc hk s m _ below hf ((Spec.applies_iff_loose hf).mp happ).1 ⟨rfl, State.Warmed39.refl s, rfl⟩ trivial
  refine ⟨n, _, h1, h2, h3, hpost _ _ _ _ _ _ ⟨Cond.after_iff.mpr rfl, Cond.after_iff.mpr (eq_i res_at (Term.int_eval (1)) rfl), trivial⟩ ⟨hq.1, hq.2.1, (hq.2.2.sift fun y hy => Or.inr (N y hy)).mono (by decide) (by decide)⟩⟩
theorem main_1_1 : Claimed_1_1 := comes_1 fun _ _ _ _ _ _ h hF => ⟨h.1, hF⟩
theorem main_1_2 : Claimed_1_2 := comes_1 fun _ _ _ _ _ _ h hF => ⟨h.2.1, hF⟩
end Jvm.Pilot.@@N@@
namespace Jvm.Pilot.@@N@@
open Jvm Jvm.ClassFile Sem Op Lib Jvm.Free Jvm.Stand Jvm.Pilot.@@N@@.Jvm.D
/-! MADE BY PROGRAM (witnessworld.py) out of the Statement's table words and the real class files: 9 classes; the members and pool entries that the words name. The judged class is class 1, her method 1. -/
namespace start1
open Jvm.ClassFile
def u (s : String) : CpInfo := .utf8 (stringToUtf16 s)
/-- a pool by its gaps: so many unusable entries, then the entry; so many at the end -/
def gap : Nat → List CpInfo → List CpInfo
  | 0, r => r
  | n + 1, r => .unusable :: gap n r
def poolList (es : List (Nat × CpInfo)) (last : Nat) : List CpInfo := es.foldr (fun e r => gap e.1 (e.2 :: r)) (gap last [])
def pool (es : List (Nat × CpInfo)) (last : Nat) : Array CpInfo := ⟨poolList es last⟩
def fileOf (pool : Array CpInfo) (this : Nat) (attrs : Array Attribute := #[]) (ms : Array MethodInfo := #[]) (fl : Nat := 33) (sup : Nat := 0) (ifs : Array Nat := #[]) (fds : Array FieldInfo := #[]) : ClassFile where
  minorVersion := 0
  majorVersion := 65
  constantPool := pool
  accessFlags := fl
  thisClass := this
  superClass := sup
  interfaces := ifs
  fields := fds
  methods := ms
  attributes := attrs
def plain (name : String) (sup : Option ClassId) : Class where
  name := name
  kind := .ordinary
  loader := none
  accessFlags := 33
  super := sup
  interfaces := #[]
  cf := none
  fields := #[]
  methods := #[]
  instanceTypes := #[]
  staticTypes := #[]
  resolved := #[]
  callSites := []
  init := .initialized
  statics := none
  mirror := none

def pool0 : Array CpInfo := pool [(5, u "<init>"), (0, u "()V"), (1, .class_ 10), (1, u "java/lang/Object")] 113

def k0c0 : Code := { maxStack := 0, maxLocals := 1, code := object_method_1_code, exceptionTable := #[], attributes := #[] }
def k0m0 : Method := { name := "<init>", desc := "()V", sig := { parameters := [], returnType := none }, accessFlags := 1, code := some k0c0 }
/-- java/lang/Object -/
def k0 : Class := { plain "java/lang/Object" none with
  accessFlags := 33
  interfaces := #[]
  cf := some (fileOf pool0 8 #[] #[{ accessFlags := 1, nameIndex := 5, descriptorIndex := 6, attributes := #[] }] 33 0 #[] #[])
  fields := #[]
  methods := #[k0m0]
  instanceTypes := #[]
  staticTypes := #[]
  resolved := Array.replicate 124 none
  statics := none }

def pool1 : Array CpInfo := pool [(2, .class_ 4), (1, u "java/lang/Object"), (0, u "<init>"), (0, u "()V"), (0, .integer 1073741823), (0, .double 4634204016564240384), (1, .class_ 11), (0, u "com/example/lone1/lone1/math/SumBounds"), (0, .methodref 10 13), (0, .nameAndType 5 14), (0, u "(ID)V"), (0, .integer 2147483647), (0, .double 148618787703226368), (3, .double 9218868437227405312), (1, .methodref 10 23), (0, .nameAndType 24 25), (0, u "above"), (0, u "(DZ)D"), (0, .double 288230376151711744), (1, .double 4625196817309499392), (1, .double 4562146422526312448), (1, .class_ 33), (0, u "com/example/lone1/lone1/math/SumBoundsAbovePinLaw"), (2, u "law"), (0, u "(IIII)Z")] 3

def k1m0 : Method := { name := "<init>", desc := "()V", sig := { parameters := [], returnType := none }, accessFlags := 1, code := none }
def k1c1 : Code := { maxStack := 8, maxLocals := 24, code := code, exceptionTable := #[], attributes := #[] }
def k1m1 : Method := { name := "law", desc := "(IIII)Z", sig := { parameters := [.int, .int, .int, .int], returnType := some .boolean }, accessFlags := 9, code := some k1c1 }
/-- com/example/lone1/lone1/math/SumBoundsAbovePinLaw -/
def k1 : Class := { plain "com/example/lone1/lone1/math/SumBoundsAbovePinLaw" (some 0) with
  accessFlags := 49
  interfaces := #[]
  cf := some (fileOf pool1 32 #[] #[{ accessFlags := 1, nameIndex := 5, descriptorIndex := 6, attributes := #[] }, { accessFlags := 9, nameIndex := 36, descriptorIndex := 37, attributes := #[] }] 49 2 #[] #[])
  fields := #[]
  methods := #[k1m0, k1m1]
  instanceTypes := #[]
  staticTypes := #[]
  resolved := Array.replicate 41 none
  statics := none }

def pool2 : Array CpInfo := pool [(1, .methodref 2 3), (0, .class_ 4), (0, .nameAndType 5 6), (0, u "java/lang/Object"), (0, u "<init>"), (0, u "()V"), (0, .double 4377498837804122112), (1, .double 4611686018427387904), (1, .fieldref 12 13), (0, .class_ 14), (0, .nameAndType 15 16), (0, u "com/example/lone1/lone1/math/SumBounds"), (0, u "down"), (0, u "D"), (0, .double 4598175219545276416), (3, .double 9218868437227405312), (1, .fieldref 12 24), (0, .nameAndType 25 16), (0, u "up"), (4, .double 288230376151711744), (1, u "TINY"), (1, u "(ID)V"), (5, u "above"), (0, u "(DZ)D")] 2

def k2c0 : Code := { maxStack := 7, maxLocals := 6, code := prog_67_method_1_code, exceptionTable := #[], attributes := #[] }
def k2m0 : Method := { name := "<init>", desc := "(ID)V", sig := { parameters := [.int, .double], returnType := none }, accessFlags := 1, code := some k2c0 }
def k2c1 : Code := { maxStack := 4, maxLocals := 8, code := prog_67_method_3_code, exceptionTable := #[], attributes := #[] }
def k2m1 : Method := { name := "above", desc := "(DZ)D", sig := { parameters := [.double, .boolean], returnType := some .double }, accessFlags := 1, code := some k2c1 }
/-- com/example/lone1/lone1/math/SumBounds -/
def k2 : Class := { plain "com/example/lone1/lone1/math/SumBounds" (some 0) with
  accessFlags := 33
  interfaces := #[]
  cf := some (fileOf pool2 12 #[] #[{ accessFlags := 1, nameIndex := 5, descriptorIndex := 34, attributes := #[] }, { accessFlags := 1, nameIndex := 40, descriptorIndex := 41, attributes := #[] }] 33 2 #[] #[{ accessFlags := 26, nameIndex := 32, descriptorIndex := 16, attributes := #[] }, { accessFlags := 18, nameIndex := 15, descriptorIndex := 16, attributes := #[] }, { accessFlags := 18, nameIndex := 25, descriptorIndex := 16, attributes := #[] }])
  fields := #[{ name := "TINY", type := .double, accessFlags := 26, slot := 0, constantValue := 0 }, { name := "down", type := .double, accessFlags := 18, slot := 0, constantValue := 0 }, { name := "up", type := .double, accessFlags := 18, slot := 1, constantValue := 0 }]
  methods := #[k2m0, k2m1]
  instanceTypes := #[.double, .double]
  staticTypes := #[.double]
  resolved := Array.replicate 44 none
  statics := none }

def pool3 : Array CpInfo := pool [(1, u "java/lang/Cloneable"), (0, .class_ 1), (0, u "java/lang/Object"), (0, .class_ 3)] 3

/-- java/lang/Cloneable -/
def k3 : Class := { plain "java/lang/Cloneable" (some 0) with
  accessFlags := 1537
  interfaces := #[]
  cf := some (fileOf pool3 2 #[] #[] 1537 4 #[] #[])
  fields := #[]
  methods := #[]
  instanceTypes := #[]
  staticTypes := #[]
  resolved := Array.replicate 8 none
  statics := none }

def pool4 : Array CpInfo := pool [(1, u "java/io/Serializable"), (0, .class_ 1), (0, u "java/lang/Object"), (0, .class_ 3)] 3

/-- java/io/Serializable -/
def k4 : Class := { plain "java/io/Serializable" (some 0) with
  accessFlags := 1537
  interfaces := #[]
  cf := some (fileOf pool4 2 #[] #[] 1537 4 #[] #[])
  fields := #[]
  methods := #[]
  instanceTypes := #[]
  staticTypes := #[]
  resolved := Array.replicate 8 none
  statics := none }

/-- the primitive byte -/
def k5 : Class := { plain "byte" none with kind := .primitive 'B', accessFlags := 0x411 }
/-- [B -/
def k6 : Class := { plain "[B" (some 0) with kind := .array 5 .byte, interfaces := #[3, 4], accessFlags := 1041 }

/-- the primitive int -/
def k7 : Class := { plain "int" none with kind := .primitive 'I', accessFlags := 0x411 }
/-- [I -/
def k8 : Class := { plain "[I" (some 0) with kind := .array 7 .int, interfaces := #[3, 4], accessFlags := 1041 }

def heap : Heap := #[]
def classes : Array Class := #[k0, k1, k2, k3, k4, k5, k6, k7, k8]
def interned : List (Array UInt16 × Addr) := []
def slotsUsed : Nat := 0
def theMethod : MethodId := ⟨1, 1⟩
def args0 : Array Value := #[.int 5, .int 3, .int 4, .int 7]
def aboutOver (below : List Frame) : State where
  vm := { classes := classes, interned := interned.toArray }
  heap := heap
  slotsUsed := slotsUsed
  threads := #[{ frames := .invoking theMethod args0 :: below }]
def below0 : List Frame := [.native { method := ⟨0, 0⟩, args := #[] }]
def about1 : State := aboutOver below0
def p0 : Program := .bare "" "" ""
def e0 : Env := launch0.env 0 0 0
theorem w_frames : about1.frames = Frame.invoking theMethod args0 :: below0 := rfl
set_option maxRecDepth 65536 in
theorem w_args : argsFit about1.vm theMethod args0 = true := by decide +kernel
set_option maxRecDepth 65536 in
theorem w_heap : heapFits about1 = true := by decide +kernel
set_option maxRecDepth 65536 in
theorem w_runnable : about1.curStatus? = some .runnable := by decide +kernel
set_option maxRecDepth 65536 in
theorem w_alone : about1.alone = true := by decide +kernel
set_option maxRecDepth 65536 in
theorem w_named : about1.methodNamed? x = some theMethod := by decide +kernel
set_option maxRecDepth 65536 in
theorem w_hears : about1.hears theMethod below0 = true := by decide +kernel
set_option maxRecDepth 65536 in
theorem w_ripe : about1.ripe theMethod args0 below0 = true := by decide +kernel
theorem w_running : about1.status = .running := rfl
set_option maxRecDepth 65536 in
theorem w_room : about1.hasRoom e0.platform room_1 = true :=
  launch0.hasRoom_least _ room_1 (by decide +kernel) (by decide +kernel) (by decide +kernel) (by decide +kernel) (by decide +kernel) (by decide +kernel)
theorem allAtoms_all (ts : List Jvm.Cond) (a : Array Jvm.Value) (st : Jvm.State) : (allAtoms ts).before a st = ts.all (fun c => c.before a st) := by
  induction ts with
  | nil => rfl
  | cons c t ih =>
    show (Jvm.Cond.and c (allAtoms t)).before a st = _
    rw [Jvm.Cond.before_and, ih, List.all_cons]
def words1 : List Jvm.Cond := Jvm.Cond.code x code maxLocals ret :: tables_1
/-- a 'code' word, met by the world's own term for the bytes: nothing is compared byte by byte -/
theorem code_word {y : MethodName} {bytes : ByteArray} {mx : Nat} {rt : Option FieldType} {a : Array Value} {s : State} {m : MethodId} {meth : Method} {c : Code} (h1 : s.methodNamed? y = some m) (h2 : s.vm.method? m = some meth) (h3 : meth.code = some c) (h4 : c.code = bytes)
    (h5 : (c.maxLocals == mx && c.exceptionTable.isEmpty && decide (c.maxStack ≤ mostOperands) && decide (meth.sig.returnType = rt) && !meth.locks && decide (parseMethodDescriptor y.desc = some meth.sig)) = true) : (Jvm.Cond.code y bytes mx rt).before a s = true := by
  simp only [Bool.and_eq_true, beq_iff_eq, Bool.not_eq_true', decide_eq_true_eq] at h5
  obtain ⟨⟨⟨⟨⟨g1, g2⟩, g3⟩, g4⟩, g5⟩, g6⟩ := h5
  simp [Cond.before, Cond.holds, Cond.value, h1, h2, h3, h4, g1, g2, g3, g4, g5, g6]
def isCode : Jvm.Cond → Bool
  | .code _ _ _ _ => true
  | _ => false
theorem all_split {L : List Jvm.Cond} {P : Jvm.Cond → Bool} (h1 : L.all (fun c => isCode c || P c) = true) (h2 : ∀ c ∈ L.filter isCode, P c = true) : L.all P = true := by
  refine List.all_eq_true.mpr fun c hc => ?_
  have h := List.all_eq_true.mp h1 c hc
  rcases Bool.eq_false_or_eq_true (isCode c) with hi | hi
  · exact h2 c (List.mem_filter.mpr ⟨hc, hi⟩)
  · simpa [hi] using h
set_option maxRecDepth 65536 in
theorem w_c0 : (Jvm.Cond.code x code maxLocals ret).before args0 about1 = true := code_word (m := ⟨1, 1⟩) (meth := k1m1) (c := k1c1) (by decide +kernel) rfl rfl rfl (by decide +kernel)
set_option maxRecDepth 65536 in
theorem w_c1 : (Jvm.Cond.code ({ cls := "com/example/lone1/lone1/math/SumBounds", name := "<init>", desc := "(ID)V" } : Jvm.MethodName) prog_67_method_1_code (6 : Nat) (Option.none : Option Jvm.ClassFile.FieldType)).before args0 about1 = true := code_word (m := ⟨2, 0⟩) (meth := k2m0) (c := k2c0) (by decide +kernel) rfl rfl rfl (by decide +kernel)
set_option maxRecDepth 65536 in
theorem w_c2 : (Jvm.Cond.code ({ cls := "java/lang/Object", name := "<init>", desc := "()V" } : Jvm.MethodName) object_method_1_code (1 : Nat) (Option.none : Option Jvm.ClassFile.FieldType)).before args0 about1 = true := code_word (m := ⟨0, 0⟩) (meth := k0m0) (c := k0c0) (by decide +kernel) rfl rfl rfl (by decide +kernel)
set_option maxRecDepth 65536 in
theorem w_c3 : (Jvm.Cond.code ({ cls := "com/example/lone1/lone1/math/SumBounds", name := "above", desc := "(DZ)D" } : Jvm.MethodName) prog_67_method_3_code (8 : Nat) (Option.some Jvm.ClassFile.FieldType.double)).before args0 about1 = true := code_word (m := ⟨2, 1⟩) (meth := k2m1) (c := k2c1) (by decide +kernel) rfl rfl rfl (by decide +kernel)
def codes1 : List Jvm.Cond := [Jvm.Cond.code x code maxLocals ret, Jvm.Cond.code ({ cls := "com/example/lone1/lone1/math/SumBounds", name := "<init>", desc := "(ID)V" } : Jvm.MethodName) prog_67_method_1_code (6 : Nat) (Option.none : Option Jvm.ClassFile.FieldType), Jvm.Cond.code ({ cls := "java/lang/Object", name := "<init>", desc := "()V" } : Jvm.MethodName) object_method_1_code (1 : Nat) (Option.none : Option Jvm.ClassFile.FieldType), Jvm.Cond.code ({ cls := "com/example/lone1/lone1/math/SumBounds", name := "above", desc := "(DZ)D" } : Jvm.MethodName) prog_67_method_3_code (8 : Nat) (Option.some Jvm.ClassFile.FieldType.double)]
set_option maxRecDepth 65536 in
theorem codes_eq : words1.filter isCode = codes1 := rfl
theorem w_codes : ∀ c ∈ words1.filter isCode, c.before args0 about1 = true := by
  rw [codes_eq]
  intro c hc
  simp only [codes1, List.mem_cons, List.not_mem_nil, or_false] at hc
  rcases hc with rfl | rfl | rfl | rfl
  · exact w_c0
  · exact w_c1
  · exact w_c2
  · exact w_c3
set_option maxRecDepth 65536 in
theorem w_t1 : (words1.take 24).all (fun c => isCode c || c.before args0 about1) = true := by decide +kernel
set_option maxRecDepth 65536 in
theorem w_t2 : (words1.drop 24).all (fun c => isCode c || c.before args0 about1) = true := by decide +kernel
theorem w_tables : (allAtoms (Jvm.Cond.code x code maxLocals ret :: tables_1)).before args0 about1 = true := by
  rw [allAtoms_all]
  show words1.all (fun c => c.before args0 about1) = true
  refine all_split ?_ w_codes
  rw [← List.take_append_drop 24 words1, List.all_append, w_t1, w_t2]
  rfl
set_option maxRecDepth 65536 in
theorem w_case : (Jvm.Cond.and given_1 narrow_1).before args0 about1 = true := by decide +kernel
theorem w_applies : (headSpec (Jvm.Cond.code x code maxLocals ret :: tables_1) room_1).applies x e0.platform about1 = true :=
  (Spec.applies_iff w_frames).mpr ⟨w_running, w_runnable, w_alone, w_named, w_hears, w_ripe, w_room, w_tables⟩
theorem atStart : AtStart classFile x code maxLocals ret World_1 tables_1 room_1 Calls_1 rest_1 Pre_1 launch0 p0 e0 about1 theMethod args0 below0 :=
  ⟨lists_1, trivial, launch0.admits_env _ _ _, launch0.least_env, fairChoices_fair.cas, fairChoices_fair.clock, w_frames, w_args, w_heap, w_applies, trivial, trivial, w_case⟩
end start1
theorem witness_1 : WitnessClaimed_1 := ⟨start1.p0, start1.e0, start1.about1, start1.theMethod, start1.args0, start1.below0, start1.atStart⟩
end Jvm.Pilot.@@N@@
