import JvmDerived
import JvmDerived.Pilot.@@N@@Statement
import JvmDerived.Pilot.@@N@@Code
set_option linter.unusedVariables false
set_option linter.unusedSimpArgs false
namespace Jvm.Pilot.@@N@@
open Jvm Jvm.ClassFile Sem Op Lib Jvm.Free Jvm.Stand Jvm.LawKit Jvm.RoadKit Bundle Jvm.Pilot.@@N@@.Jvm.D
/-- the run from A comes to a return that Q speaks of -/
def own_Fin (p : Program) (e : Env) (below : List Frame) (s : State) (kc ks : Nat) (Q : Option Value → Heap → List Loc → Prop) (A : State) : Prop :=
  ∃ s₂ o, Steps p.tables e below A s₂ ∧ s₂.status = .running ∧ Ended s₂ below o ∧ ∃ v L, o = .returned v ∧ Q v s₂.heap L ∧ FrameEnd s o s₂ L kc ks
section Own
variable {p : Program} {l : Launch} {e : Env} {R : Room} {s : State} {m : MethodId} {args : Array Value} {below : List Frame} {meth : Method} {c : Code} {T : State} {locs : List Loc} {cells slots kc ks : Nat} {Q : Option Value → Heap → List Loc → Prop}
theorem own_back {A B : State} (h : ∀ t, Steps p.tables e below B t → Steps p.tables e below A t) (k : own_Fin p e below s kc ks Q B) : own_Fin p e below s kc ks Q A := by
  obtain ⟨s2, o, h1, r⟩ := k
  exact ⟨s2, o, h _ h1, r⟩
theorem own_retN (X : Stand p l e R s m args below meth c T locs cells slots) (hx : p.tables.exec = Jvm.exec) (hlk : meth.locks = false) {t : FieldType} (ht : t = .boolean ∨ t = .byte ∨ t = .char ∨ t = .short) {pc : Nat} {Ls : Array Slot} {z : Int32} {rest : List Value} (hret : meth.sig.returnType = some t) (hd : decode c.code pc = .ok (.ireturn, 1)) (hc : cells ≤ kc) (hs : slots ≤ ks)
    (hQ : Q (some (.int (nar t z))) T.heap locs) : own_Fin p e below s kc ks Q (T.setTop (mkF m pc Ls (.int z :: rest))) := by
  obtain ⟨fs, hr, hrun, hended, hW, hsame⟩ := X.leave (v := some (.int (nar t z))) (fun h => by rw [hret] at h; cases h) hlk
  exact ⟨_, _, retN X hx hret ht hd hr, hrun, hended, _, _, rfl, hQ, ⟨_, rfl⟩, hW, hsame.mono hc hs⟩
theorem own_retZ (X : Stand p l e R s m args below meth c T locs cells slots) (hx : p.tables.exec = Jvm.exec) (hlk : meth.locks = false) {pc : Nat} {Ls : Array Slot} {z : Int32} {rest : List Value} (hret : meth.sig.returnType = some .boolean) (hd : decode c.code pc = .ok (.ireturn, 1)) (hc : cells ≤ kc) (hs : slots ≤ ks)
    (hQ : Q (some (.int (z &&& 1))) T.heap locs) : own_Fin p e below s kc ks Q (T.setTop (mkF m pc Ls (.int z :: rest))) := own_retN X hx hlk (Or.inl rfl) hret hd hc hs hQ
theorem own_retB (X : Stand p l e R s m args below meth c T locs cells slots) (hx : p.tables.exec = Jvm.exec) (hlk : meth.locks = false) {pc : Nat} {Ls : Array Slot} {z : Int32} {rest : List Value} (hret : meth.sig.returnType = some .byte) (hd : decode c.code pc = .ok (.ireturn, 1)) (hc : cells ≤ kc) (hs : slots ≤ ks)
    (hQ : Q (some (.int (nar .byte z))) T.heap locs) : own_Fin p e below s kc ks Q (T.setTop (mkF m pc Ls (.int z :: rest))) := own_retN X hx hlk (Or.inr (Or.inl rfl)) hret hd hc hs hQ
theorem own_retI (X : Stand p l e R s m args below meth c T locs cells slots) (hx : p.tables.exec = Jvm.exec) (hlk : meth.locks = false) {pc : Nat} {Ls : Array Slot} {z : Int32} {rest : List Value} (hret : meth.sig.returnType = some .int) (hd : decode c.code pc = .ok (.ireturn, 1)) (hc : cells ≤ kc) (hs : slots ≤ ks)
    (hQ : Q (some (.int z)) T.heap locs) : own_Fin p e below s kc ks Q (T.setTop (mkF m pc Ls (.int z :: rest))) := by
  obtain ⟨fs, hr, hrun, hended, hW, hsame⟩ := X.leave (v := some (.int z)) (fun h => by rw [hret] at h; cases h) hlk
  exact ⟨_, _, retOut X hx hret rfl (Or.inl ⟨rfl, Or.inl rfl, z, rfl⟩) hd hr, hrun, hended, _, _, rfl, hQ, ⟨_, rfl⟩, hW, hsame.mono hc hs⟩
theorem own_retJ (X : Stand p l e R s m args below meth c T locs cells slots) (hx : p.tables.exec = Jvm.exec) (hlk : meth.locks = false) {pc : Nat} {Ls : Array Slot} {z : Int64} {rest : List Value} (hret : meth.sig.returnType = some .long) (hd : decode c.code pc = .ok (.lreturn, 1)) (hc : cells ≤ kc) (hs : slots ≤ ks)
    (hQ : Q (some (.long z)) T.heap locs) : own_Fin p e below s kc ks Q (T.setTop (mkF m pc Ls (.long z :: rest))) := by
  obtain ⟨fs, hr, hrun, hended, hW, hsame⟩ := X.leave (v := some (.long z)) (fun h => by rw [hret] at h; cases h) hlk
  exact ⟨_, _, retOut X hx hret rfl (Or.inr (Or.inl ⟨rfl, rfl, z, rfl⟩)) hd hr, hrun, hended, _, _, rfl, hQ, ⟨_, rfl⟩, hW, hsame.mono hc hs⟩
theorem own_retA (X : Stand p l e R s m args below meth c T locs cells slots) (hx : p.tables.exec = Jvm.exec) (hlk : meth.locks = false) {pc : Nat} {Ls : Array Slot} {w : Value} {rest : List Value} {t : FieldType} (hret : meth.sig.returnType = some t) (ht : t.isReference = true) (hw : w.isRef = true) (hd : decode c.code pc = .ok (.areturn, 1)) (hc : cells ≤ kc) (hs : slots ≤ ks)
    (hQ : Q (some w) T.heap locs) : own_Fin p e below s kc ks Q (T.setTop (mkF m pc Ls (w :: rest))) := by
  obtain ⟨fs, hr, hrun, hended, hW, hsame⟩ := X.leave (v := some w) (fun h => by rw [hret] at h; cases h) hlk
  have hn : narrow t w = w := by cases t <;> first | rfl | cases ht
  exact ⟨_, _, retOut X hx hret hn (Or.inr (Or.inr (Or.inr (Or.inr ⟨rfl, ht, hw⟩)))) hd hr, hrun, hended, _, _, rfl, hQ, ⟨_, rfl⟩, hW, hsame.mono hc hs⟩
theorem own_ret0 (X : Stand p l e R s m args below meth c T locs cells slots) (hx : p.tables.exec = Jvm.exec) (hlk : meth.locks = false) {pc : Nat} {Ls : Array Slot} (hret : meth.sig.returnType = none) (hd : decode c.code pc = .ok (.return_, 1)) (hc : cells ≤ kc) (hs : slots ≤ ks)
    (hQ : Q none T.heap locs) : own_Fin p e below s kc ks Q (T.setTop (mkF m pc Ls [])) := by
  obtain ⟨fs, hr, hrun, hended, hW, hsame⟩ := X.leave (v := none) (fun _ => rfl) hlk
  exact ⟨_, _, X.returnOut hx hret hd hr, hrun, hended, _, _, rfl, hQ, ⟨_, rfl⟩, hW, hsame.mono hc hs⟩
end Own
def own_pick (sel : Int32) (raw : Int64) : Int64 := if sel = 0 then (0 : Int64) else if sel = 1 then ((1 : Int64) <<< (((raw &&& (63 : Int64)).toInt32) &&& 0x3f).toInt64) else raw
def own_mb (e : Int64) : Int32 := if (e &&& (e - (1 : Int64))) = (0 : Int64) then 0 else 1
def own_shr (i k : Int32) : Int32 := ((i.toUInt32 >>> (k &&& 31).toUInt32).toInt32)
def own_hi (w : Int64) : Int32 := (((w.toUInt64 >>> ((32 : Int32) &&& 0x3f).toInt64.toUInt64).toInt64).toInt32)
def own_s1 (n i : Int32) : Int32 := n - own_shr i 1
def own_s2 (n i : Int32) : Int32 := if i < 4 then own_s1 n i else own_s1 (n + (-2)) (own_shr i 2)
def own_s4 (n i : Int32) : Int32 := if i < 16 then own_s2 n i else own_s2 (n + (-4)) (own_shr i 4)
def own_s8 (n i : Int32) : Int32 := if i < 256 then own_s4 n i else own_s4 (n + (-8)) (own_shr i 8)
def own_s16 (n i : Int32) : Int32 := if i < 65536 then own_s8 n i else own_s8 (n + (-16)) (own_shr i 16)
def own_nlz (i : Int32) : Int32 := if 0 < i then own_s16 31 i else if i = 0 then 32 else 0
def own_nlz64 (w : Int64) : Int32 := if own_hi w = 0 then (32 : Int32) + own_nlz w.toInt32 else own_nlz (own_hi w)
def own_bit (w : Int64) : Int32 := (63 : Int32) - own_nlz64 w
def own_clr (w : Int64) : Int64 := w &&& (((1 : Int64) <<< ((own_bit w) &&& 0x3f).toInt64) ^^^ (-1 : Int64))
def own_b (e : Int64) : Int32 := if e = (0 : Int64) then 0 else 1
def own_cnt (e0 e1 e2 : Int64) : Int32 := own_b e0 + own_b e1 + own_b e2
def own_anyc (c : Int32) : Int32 := if 0 < c then 1 else 0
def own_two (c : Int32) (e0 e1 e2 : Int64) : Int32 := if own_mb e0 = 0 then (if own_mb e1 = 0 then (if own_mb e2 = 0 then (if c < 2 then 0 else 1) else 1) else 1) else 1
def own_zc (z : Int32) (e0 e1 e2 : Int64) : Prop := (z = 0 ∧ e0 = (0 : Int64) ∧ e1 = (0 : Int64) ∧ e2 = (0 : Int64)) ∨ (z = 1 ∧ e1 = (0 : Int64) ∧ e2 = (0 : Int64)) ∨ (z = 2 ∧ e2 = (0 : Int64)) ∨ z = 3
theorem own_mb0 : own_mb (0 : Int64) = 0 := by decide
theorem own_and3 {x : Int32} (h0 : ¬ (x &&& (3 : Int32)) = (0 : Int32)) (h1 : ¬ (x &&& (3 : Int32)) = (1 : Int32)) (h2 : ¬ (x &&& (3 : Int32)) = (2 : Int32)) : (x &&& (3 : Int32)) = (3 : Int32) := by
  have hb : (x &&& 3).toBitVec.toNat ≤ 3 := by
    simp only [Int32.toBitVec_and, BitVec.toNat_and]
    exact Nat.and_le_right
  have e : ∀ k : Nat, k ≤ 3 → (x &&& 3).toBitVec.toNat = k → (x &&& 3) = Int32.ofNat k := fun k hk h => by
    apply Int32.toBitVec_inj.mp
    apply BitVec.eq_of_toNat_eq
    rw [h]
    show k = (BitVec.ofNat 32 k).toNat
    simp
    omega
  have h3 : (x &&& 3).toBitVec.toNat = 3 := by
    have g0 : ¬ (x &&& 3).toBitVec.toNat = 0 := fun q => h0 (e 0 (by decide) q)
    have g1 : ¬ (x &&& 3).toBitVec.toNat = 1 := fun q => h1 (e 1 (by decide) q)
    have g2 : ¬ (x &&& 3).toBitVec.toNat = 2 := fun q => h2 (e 2 (by decide) q)
    omega
  exact e 3 (by decide) h3
theorem own_shr_toInt (i : Int32) (k : Nat) (hk : k < 31) (hi : 0 ≤ i.toInt) : (own_shr i (Int32.ofNat k)).toInt = i.toInt / 2 ^ k := by
  have e : (Int32.ofNat k &&& 31).toUInt32 = UInt32.ofNat k := by
    have : ∀ j : Fin 32, ((Int32.ofNat j.val &&& 31).toUInt32) = UInt32.ofNat j.val := by decide
    exact this ⟨k, by omega⟩
  have hn : i.toBitVec.toNat < 2147483648 := by
    have h1 : 0 ≤ i.toBitVec.toInt := hi
    have h2 := i.toBitVec.isLt
    rw [BitVec.toInt_eq_toNat_cond] at h1
    split at h1 <;> omega
  have hi' : i.toInt = (i.toBitVec.toNat : Int) := by
    show i.toBitVec.toInt = _
    exact BitVec.toInt_eq_toNat_of_lt (by omega)
  have hb : (own_shr i (Int32.ofNat k)).toBitVec = i.toBitVec >>> k := by
    unfold own_shr
    rw [e]
    show (i.toUInt32 >>> UInt32.ofNat k).toBitVec = _
    rw [UInt32.toBitVec_shiftRight]
    show i.toBitVec >>> (((UInt32.ofNat k).toBitVec % 32)) = _
    have e2 : ((UInt32.ofNat k).toBitVec % 32) = BitVec.ofNat 32 k := by
      apply BitVec.eq_of_toNat_eq
      simp
      omega
    rw [e2]
    show i.toBitVec >>> (BitVec.ofNat 32 k).toNat = _
    congr 1
    simp
    omega
  have hq : (i.toBitVec >>> k).toNat = i.toBitVec.toNat / 2 ^ k := by rw [BitVec.toNat_ushiftRight, Nat.shiftRight_eq_div_pow]
  have hle : i.toBitVec.toNat / 2 ^ k ≤ i.toBitVec.toNat := Nat.div_le_self _ _
  show (own_shr i (Int32.ofNat k)).toBitVec.toInt = _
  rw [hb, BitVec.toInt_eq_toNat_of_lt (by rw [hq]; omega), hq, hi']
  simp
def own_ok (g : Int32 → Int32 → Int32) (lim : Nat) : Prop := ∀ (m i : Int32), 0 < i.toInt → i.toInt < (lim : Int) → ∃ b : Nat, b < 31 ∧ (2 : Int) ^ b ≤ i.toInt ∧ i.toInt < 2 ^ (b + 1) ∧ g m i = m - Int32.ofNat b
theorem own_ok1 : own_ok own_s1 4 := by
  intro m i h1 h2
  have hs : (own_shr i 1).toInt = i.toInt / 2 ^ 1 := own_shr_toInt i 1 (by decide) (by omega)
  by_cases h : i.toInt = 1
  · refine ⟨0, by decide, by omega, by omega, ?_⟩
    unfold own_s1
    congr 1
    apply Int32.toInt_inj.mp
    rw [hs, h]
    rfl
  · refine ⟨1, by decide, by omega, by omega, ?_⟩
    unfold own_s1
    congr 1
    apply Int32.toInt_inj.mp
    rw [hs]
    show _ = (1 : Int)
    omega
theorem own_step (g : Int32 → Int32 → Int32) (c : Nat) (lit nc : Int32) (hc : c < 31) (hl : lit.toInt = 2 ^ c) (hnc : nc = - Int32.ofNat c) (lim : Nat) (hlim : lim = 2 ^ c) (ok : own_ok g lim) :
    own_ok (fun m i => if i < lit then g m i else g (m + nc) (own_shr i (Int32.ofNat c))) (lim * lim) := by
  intro m i h1 h2
  by_cases h : i < lit
  · have h' := h
    rw [Int32.lt_iff_toInt_lt, hl] at h'
    obtain ⟨b, b1, b2, b3, b4⟩ := ok m i h1 (by rw [hlim]; push_cast; exact h')
    exact ⟨b, b1, b2, b3, by simp only [if_pos h]; exact b4⟩
  · have h' := h
    rw [Int32.lt_iff_toInt_lt, hl] at h'
    have hs := own_shr_toInt i c hc (by omega)
    have hp : (0 : Int) < 2 ^ c := Int.pow_pos (by decide)
    have g1 : 0 < (own_shr i (Int32.ofNat c)).toInt := by
      rw [hs]
      have := (Int.le_ediv_iff_mul_le hp (a := 1) (b := i.toInt)).mpr (by omega)
      omega
    have g2 : (own_shr i (Int32.ofNat c)).toInt < (lim : Int) := by
      rw [hs]
      refine (Int.ediv_lt_iff_lt_mul hp).mpr ?_
      rw [hlim] at h2 ⊢
      push_cast at h2 ⊢
      exact h2
    obtain ⟨b, b1, b2, b3, b4⟩ := ok (m + nc) _ g1 g2
    have c2 : (2 : Int) ^ (b + c) ≤ i.toInt := by
      rw [hs] at b2
      have := (Int.le_ediv_iff_mul_le hp).mp b2
      rwa [Int.pow_add]
    have c3 : i.toInt < (2 : Int) ^ (b + c + 1) := by
      rw [hs] at b3
      have := (Int.ediv_lt_iff_lt_mul hp).mp b3
      rwa [show b + c + 1 = b + 1 + c by omega, Int.pow_add]
    have c1 : b + c < 31 := by
      have h4 := Int32.toInt_lt i
      apply Nat.lt_of_not_le
      intro hle
      have : (2 : Int) ^ 31 ≤ 2 ^ (b + c) := by exact_mod_cast Nat.pow_le_pow_right (n := 2) (by decide) hle
      have e31 : (2 : Int) ^ 31 = 2147483648 := by decide
      omega
    refine ⟨b + c, c1, c2, c3, ?_⟩
    simp only [if_neg h]
    rw [b4, hnc, Int32.ofNat_add, Int32.sub_eq_add_neg, Int32.sub_eq_add_neg, Int32.neg_add, Int32.add_assoc, Int32.sub_eq_add_neg, Int32.add_comm (-Int32.ofNat c)]
theorem own_ok2 : own_ok own_s2 16 := own_step own_s1 2 4 (-2) (by decide) (by decide) (by decide) 4 (by decide) own_ok1
theorem own_ok4 : own_ok own_s4 256 := own_step own_s2 4 16 (-4) (by decide) (by decide) (by decide) 16 (by decide) own_ok2
theorem own_ok8 : own_ok own_s8 65536 := own_step own_s4 8 256 (-8) (by decide) (by decide) (by decide) 256 (by decide) own_ok4
theorem own_ok16 : own_ok own_s16 4294967296 := own_step own_s8 16 65536 (-16) (by decide) (by decide) (by decide) 65536 (by decide) own_ok8
theorem own_nlzP {i : Int32} (h : 0 < i.toInt) : ∃ b : Nat, b < 31 ∧ (2 : Int) ^ b ≤ i.toInt ∧ i.toInt < 2 ^ (b + 1) ∧ own_nlz i = 31 - Int32.ofNat b := by
  obtain ⟨b, h1, h2, h3, h4⟩ := own_ok16 31 i h (by have := Int32.toInt_lt i; omega)
  refine ⟨b, h1, h2, h3, ?_⟩
  unfold own_nlz
  rw [if_pos (by rw [Int32.lt_iff_toInt_lt]; exact h)]
  exact h4
theorem own_nlzN {i : Int32} (h : i.toInt < 0) : own_nlz i = 0 := by
  unfold own_nlz
  have e0 : (0 : Int32).toInt = 0 := rfl
  rw [if_neg (by rw [Int32.lt_iff_toInt_lt]; omega), if_neg (fun q => by rw [q] at h; omega)]
theorem own_natI (c : Int32) : c.toInt = if c.toBitVec.toNat < 2147483648 then (c.toBitVec.toNat : Int) else (c.toBitVec.toNat : Int) - 4294967296 := by
  show c.toBitVec.toInt = _
  rw [BitVec.toInt_eq_toNat_cond]
  simp only [show (2 * c.toBitVec.toNat < 2 ^ 32) ↔ c.toBitVec.toNat < 2147483648 from by omega]
  split <;> rfl
/-- of an int that isn't 0: where its highest bit stands -/
theorem own_top (i : Int32) (h : ¬ i.toBitVec.toNat = 0) : ∃ b : Nat, b < 32 ∧ 2 ^ b ≤ i.toBitVec.toNat ∧ i.toBitVec.toNat < 2 ^ (b + 1) ∧ own_nlz i = 31 - Int32.ofNat b := by
  have q := own_natI i
  have hl := i.toBitVec.isLt
  by_cases hs : i.toBitVec.toNat < 2147483648
  · rw [if_pos hs] at q
    obtain ⟨b, h1, h2, h3, h4⟩ := own_nlzP (i := i) (by omega)
    rw [q] at h2 h3
    exact ⟨b, by omega, by exact_mod_cast h2, by exact_mod_cast h3, h4⟩
  · rw [if_neg hs] at q
    refine ⟨31, by decide, by omega, by omega, ?_⟩
    rw [own_nlzN (by omega)]
    decide
theorem own_hiN (w : Int64) : (own_hi w).toBitVec.toNat = w.toBitVec.toNat / 4294967296 := by
  have e : ((32 : Int32) &&& 0x3f).toInt64.toUInt64 = UInt64.ofNat 32 := by decide
  unfold own_hi
  rw [e]
  have hl := w.toBitVec.isLt
  show ((((w.toUInt64 >>> UInt64.ofNat 32).toInt64).toInt32).toBitVec).toNat = _
  have e1 : ((w.toUInt64 >>> UInt64.ofNat 32).toInt64).toBitVec = w.toBitVec >>> 32 := by
    show (w.toUInt64 >>> UInt64.ofNat 32).toBitVec = _
    rw [UInt64.toBitVec_shiftRight]
    rfl
  rw [Int64.toBitVec_toInt32, e1, BitVec.signExtend_eq_setWidth_of_le _ (by decide), BitVec.toNat_setWidth, BitVec.toNat_ushiftRight, Nat.shiftRight_eq_div_pow]
  omega
theorem own_loN (w : Int64) : (w.toInt32).toBitVec.toNat = w.toBitVec.toNat % 4294967296 := by
  rw [Int64.toBitVec_toInt32, BitVec.signExtend_eq_setWidth_of_le _ (by decide), BitVec.toNat_setWidth]
theorem own_bitP (w : Int64) (h : ¬ w.toBitVec.toNat = 0) : ∃ b : Nat, b < 64 ∧ 2 ^ b ≤ w.toBitVec.toNat ∧ w.toBitVec.toNat < 2 ^ (b + 1) ∧ own_bit w = Int32.ofNat b := by
  have h1 := own_hiN w
  have h2 := own_loN w
  have hl := w.toBitVec.isLt
  by_cases hz : own_hi w = 0
  · have hz' : (own_hi w).toBitVec.toNat = 0 := by rw [hz]; rfl
    have hN : w.toBitVec.toNat < 4294967296 := by omega
    obtain ⟨b, b1, b2, b3, b4⟩ := own_top w.toInt32 (by omega)
    have e : w.toBitVec.toNat % 4294967296 = w.toBitVec.toNat := Nat.mod_eq_of_lt hN
    rw [h2, e] at b2 b3
    refine ⟨b, by omega, b2, b3, ?_⟩
    unfold own_bit own_nlz64
    rw [if_pos hz, b4]
    have : ∀ k : Fin 32, (63 : Int32) - ((32 : Int32) + (31 - Int32.ofNat k.val)) = Int32.ofNat k.val := by decide
    exact this ⟨b, b1⟩
  · have hz' : ¬ (own_hi w).toBitVec.toNat = 0 := fun q => hz (by
      apply Int32.toBitVec_inj.mp
      apply BitVec.eq_of_toNat_eq
      rw [q]; rfl)
    obtain ⟨b, b1, b2, b3, b4⟩ := own_top (own_hi w) hz'
    rw [h1] at b2 b3
    refine ⟨b + 32, by omega, ?_, ?_, ?_⟩
    · rw [Nat.pow_add]
      have := (Nat.le_div_iff_mul_le (by decide : 0 < 4294967296)).mp b2
      exact this
    · rw [show b + 32 + 1 = (b + 1) + 32 by omega, Nat.pow_add]
      have := (Nat.div_lt_iff_lt_mul (by decide : 0 < 4294967296)).mp b3
      exact this
    · unfold own_bit own_nlz64
      rw [if_neg hz, b4]
      have : ∀ k : Fin 32, (63 : Int32) - (31 - Int32.ofNat k.val) = Int32.ofNat (k.val + 32) := by decide
      exact this ⟨b, b1⟩
theorem own_testTop {N b : Nat} (h1 : 2 ^ b ≤ N) (h2 : N < 2 ^ (b + 1)) : N.testBit b = true := by
  have e : N = 2 ^ b + (N - 2 ^ b) := by omega
  rw [e, Nat.testBit_two_pow_add_eq, Nat.testBit_lt_two_pow (by rw [Nat.pow_succ] at h2; omega)]
  rfl
theorem own_clrBV (w : Int64) {b : Nat} (hb : b < 64) (e : own_bit w = Int32.ofNat b) : (own_clr w).toBitVec = w.toBitVec &&& (BitVec.twoPow 64 b ^^^ BitVec.allOnes 64) := by
  have q : ∀ k : Fin 64, (((1 : Int64) <<< ((Int32.ofNat k.val) &&& 0x3f).toInt64) ^^^ (-1 : Int64)).toBitVec = BitVec.twoPow 64 k.val ^^^ BitVec.allOnes 64 := by decide
  unfold own_clr
  rw [Int64.toBitVec_and, e, q ⟨b, hb⟩]
theorem own_clr0 (w : Int64) {b : Nat} (hb : b < 64) (h1 : 2 ^ b ≤ w.toBitVec.toNat) (h2 : w.toBitVec.toNat < 2 ^ (b + 1)) (e : own_bit w = Int32.ofNat b) : own_clr w = (0 : Int64) ↔ w.toBitVec.toNat = 2 ^ b := by
  have ht : (2 : Nat) ^ b < 2 ^ 64 := Nat.pow_lt_pow_right (by decide) hb
  have hT : (BitVec.twoPow 64 b).toNat = 2 ^ b := by rw [BitVec.toNat_twoPow, Nat.mod_eq_of_lt ht]
  have hbit : ∀ i, i < 64 → (own_clr w).toBitVec.getLsbD i = (w.toBitVec.getLsbD i && !decide (b = i)) := fun i hi => by
    rw [own_clrBV w hb e, BitVec.getLsbD_and, BitVec.getLsbD_xor, BitVec.getLsbD_twoPow, BitVec.getLsbD_allOnes]
    simp [hi, hb]
  constructor
  · intro h
    have hw : w.toBitVec = BitVec.twoPow 64 b := by
      apply BitVec.eq_of_getLsbD_eq
      intro i hi
      have q := hbit i hi
      rw [h] at q
      have q0 : (0 : Int64).toBitVec.getLsbD i = false := by simp
      rw [q0] at q
      rw [BitVec.getLsbD_twoPow]
      by_cases hbi : b = i
      · subst hbi
        rw [← BitVec.testBit_toNat, own_testTop h1 h2]
        simp [hi]
      · simp only [hbi, decide_false, Bool.not_false, Bool.and_true] at q
        simp [← q, hbi]
    rw [hw, hT]
  · intro h
    apply Int64.toBitVec_inj.mp
    apply BitVec.eq_of_getLsbD_eq
    intro i hi
    have hw : w.toBitVec = BitVec.twoPow 64 b := BitVec.eq_of_toNat_eq (by rw [h, hT])
    rw [hbit i hi, hw, BitVec.getLsbD_twoPow]
    by_cases hbi : b = i <;> simp [hbi]
theorem own_mb0iff (w : Int64) {b : Nat} (hb : b < 64) (h1 : 2 ^ b ≤ w.toBitVec.toNat) (h2 : w.toBitVec.toNat < 2 ^ (b + 1)) : (w &&& (w - (1 : Int64))) = (0 : Int64) ↔ w.toBitVec.toNat = 2 ^ b := by
  have hp : 0 < 2 ^ b := Nat.pow_pos (by decide)
  have hl := w.toBitVec.isLt
  have hs : (w - (1 : Int64)).toBitVec.toNat = w.toBitVec.toNat - 1 := by
    rw [Int64.toBitVec_sub, BitVec.toNat_sub]
    show (2 ^ 64 - 1 + w.toBitVec.toNat) % 2 ^ 64 = _
    omega
  have hN : (w &&& (w - (1 : Int64))) = (0 : Int64) ↔ w.toBitVec.toNat &&& (w.toBitVec.toNat - 1) = 0 := by
    rw [← Int64.toBitVec_inj, ← BitVec.toNat_inj, Int64.toBitVec_and, BitVec.toNat_and, hs]
    rfl
  rw [hN]
  constructor
  · intro h
    apply Classical.byContradiction
    intro hne
    have t1 := own_testTop h1 h2
    have t2 : (w.toBitVec.toNat - 1).testBit b = true := own_testTop (by omega) (by omega)
    have t3 := congrArg (fun n => Nat.testBit n b) h
    simp only [Nat.testBit_and, t1, t2, Nat.zero_testBit] at t3
    simp at t3
  · intro h
    rw [h, Nat.and_two_pow_sub_one_eq_mod, Nat.mod_self]
theorem own_nz {w : Int64} (h : ¬ w = (0 : Int64)) : ¬ w.toBitVec.toNat = 0 := fun q => h (by
  apply Int64.toBitVec_inj.mp
  apply BitVec.eq_of_toNat_eq
  rw [q]; rfl)
theorem own_clr_mb {w : Int64} (h : ¬ w = (0 : Int64)) (c : own_clr w = (0 : Int64)) : own_mb w = 0 := by
  obtain ⟨b, b1, b2, b3, b4⟩ := own_bitP w (own_nz h)
  unfold own_mb
  rw [if_pos ((own_mb0iff w b1 b2 b3).mpr ((own_clr0 w b1 b2 b3 b4).mp c))]
theorem own_clr_mbn {w : Int64} (h : ¬ w = (0 : Int64)) (c : ¬ own_clr w = (0 : Int64)) : own_mb w = 1 := by
  obtain ⟨b, b1, b2, b3, b4⟩ := own_bitP w (own_nz h)
  unfold own_mb
  rw [if_neg (fun q => c ((own_clr0 w b1 b2 b3 b4).mpr ((own_mb0iff w b1 b2 b3).mp q)))]
theorem d1_0 : decode method_2_code 0 = .ok (.iload_n 0, 1) := by decide +kernel
theorem d1_1 : decode method_2_code 1 = .ok (.ifCond .ne 5, 3) := by decide +kernel
theorem d1_4 : decode method_2_code 4 = .ok (.lconst 0, 1) := by decide +kernel
theorem d1_5 : decode method_2_code 5 = .ok (.lreturn, 1) := by decide +kernel
theorem d1_6 : decode method_2_code 6 = .ok (.iload_n 0, 1) := by decide +kernel
theorem d1_7 : decode method_2_code 7 = .ok (.iconst 1, 1) := by decide +kernel
theorem d1_8 : decode method_2_code 8 = .ok (.if_icmp .ne 12, 3) := by decide +kernel
theorem d1_11 : decode method_2_code 11 = .ok (.lconst 1, 1) := by decide +kernel
theorem d1_12 : decode method_2_code 12 = .ok (.lload_n 1, 1) := by decide +kernel
theorem d1_13 : decode method_2_code 13 = .ok (.ldc2_w 7, 3) := by decide +kernel
theorem d1_16 : decode method_2_code 16 = .ok (.land, 1) := by decide +kernel
theorem d1_17 : decode method_2_code 17 = .ok (.l2i, 1) := by decide +kernel
theorem d1_18 : decode method_2_code 18 = .ok (.lshl, 1) := by decide +kernel
theorem d1_19 : decode method_2_code 19 = .ok (.lreturn, 1) := by decide +kernel
theorem d1_20 : decode method_2_code 20 = .ok (.lload_n 1, 1) := by decide +kernel
theorem d1_21 : decode method_2_code 21 = .ok (.lreturn, 1) := by decide +kernel
theorem pn_1 : plainName "com/example/lone1/lone1/solve/SweepOrderHasNextPinLaw" = true := by first | (simp [plainName, overriddenIn]; done) | decide +kernel
theorem ef_1 (m : MethodId) (x0 : Int32) (x1 : Int64) : entryFrame m #[(.int x0), (.long x1)] 3 = mkF m 0 #[.val (.int x0), .val (.long x1), .second] [] := by first | (simp [entryFrame, mkF, argsToLocals, Value.category]; done) | rfl
def Q1 (Z : State) (p0 : Int32) (q1 : Int64) (h0 : Heap) (n0 : Nat) (v : Option Value) (h : Heap) (L : List Loc) : Prop := v = some (.long (own_pick p0 q1)) ∧ Fr n0 L ∧ h = h0
set_option maxRecDepth 65536 in
set_option maxHeartbeats 40000000 in
theorem rm1 (l : Launch) (Z : State) (a0 : Array Value) (hw : ∀ d ∈ tables_1, d.before a0 Z = true) (ws : List Jvm.Cond) (p0 : Int32) (q1 : Int64) (h0 : Heap) (n0 : Nat) (Z0 : n0 ≤ h0.size) :
    MetFree l (⟨"com/example/lone1/lone1/solve/SweepOrderHasNextPinLaw", "pick", "(IJ)J"⟩ : MethodName) (head1 (Jvm.Cond.code (⟨"com/example/lone1/lone1/solve/SweepOrderHasNextPinLaw", "pick", "(IJ)J"⟩ : MethodName) method_2_code 3 (some .long) :: ws) ({ frames := 0, cells := 0, slots := 0, locals := 0 } : Room)) (fun a U => a = #[(.int p0), (.long q1)] ∧ Z.Warmed39 U.vm ∧ U.heap = h0) (fun _ _ _ _ _ => True) (fun _ U o U' => ∃ v L, o = .returned v ∧ Q1 Z p0 q1 h0 n0 v U'.heap L ∧ FrameEnd U o U' L ({ frames := 0, cells := 0, slots := 0, locals := 0 } : Room).cells ({ frames := 0, cells := 0, slots := 0, locals := 0 } : Room).slots) := by
  refine MetFree.of_bodySF (plainFor_of_name pn_1) hisR ?_
  intro p e s m args below meth c s₁ Bd hml0 hP hK
  obtain ⟨rfl, hZ, hh⟩ := hP
  have hx := Bd.exec
  have hby := Bd.bytes
  have hml : c.maxLocals = 3 := hml0
  have hown : s.vm.findClass "com/example/lone1/lone1/solve/SweepOrderHasNextPinLaw" = some m.cls := findClass_of_methodNamed Bd.named
  have hnm := (name_of_methodNamed Bd.named Bd.method).1
  have X0 : Stand p l e ({ frames := 0, cells := 0, slots := 0, locals := 0 } : Room) s m #[(.int p0), (.long q1)] below meth c s₁ [] 0 0 := Stand.of_body Bd
  have e0 : s₁.heap = h0 := by rw [← hh, Bd.state]; rfl
  have N0 := Fr.nil n0
  obtain ⟨F, hF⟩ : ∃ F : State → Prop, F = own_Fin p e below s ({ frames := 0, cells := 0, slots := 0, locals := 0 } : Room).cells ({ frames := 0, cells := 0, slots := 0, locals := 0 } : Room).slots (fun v h L => Q1 Z p0 q1 h0 n0 v h L) := ⟨_, rfl⟩
  have bk : ∀ {A B : State}, (∀ t, Steps p.tables e below B t → Steps p.tables e below A t) → F B → F A := by
    intro A B h k
    rw [hF] at k ⊢
    exact own_back h k
  suffices hgo : F (s₁.setTop (mkF m 0 #[.val (.int p0), .val (.long q1), .second] [])) by
    have hgo' := bk (fun t k => castTop (T := s₁) (ef_1 m p0 q1) k) hgo
    rw [hF] at hgo'
    exact hgo'
  show F (s₁.setTop (mkF m 0 #[.val (.int p0), .val (.long q1), .second] []))
  refine bk (fun t k => XS.iloadN X0.here hx rfl (hb hby d1_0) rfl k) ?_
  show F (s₁.setTop (mkF m 1 #[.val (.int p0), .val (.long q1), .second] [(.int p0)]))
  by_cases hc1_1 : p0 = (0 : Int32)
  · refine bk (fun t k => XS.ifNo X0.here hx rfl (hb hby d1_1) rfl ((if0 _ _).trans (teq hc1_1).2) k) ?_
    show F (s₁.setTop (mkF m 4 #[.val (.int p0), .val (.long q1), .second] []))
    refine bk (fun t k => XS.lconst X0.here hx rfl (hb hby d1_4) k) ?_
    show F (s₁.setTop (mkF m 5 #[.val (.int p0), .val (.long q1), .second] [(.long (0 : Int64))]))
    rw [hF]
    refine own_retJ X0 hx Bd.notSynchronized Bd.returns (hb hby d1_5) (by decide) (by decide) ?_
    rw [e0]
    refine ⟨?_, N0, rfl⟩
    show some (Value.long (0 : Int64)) = some (Value.long (own_pick p0 q1))
    simp [own_pick, hc1_1]
  · refine bk (fun t k => XS.ifYes X0.here hx rfl (pc0 := 1) (pc' := 6) rfl (hb hby d1_1) rfl ((if0 _ _).trans (feq hc1_1).2) (by decide) (by decide) k) ?_
    show F (s₁.setTop (mkF m 6 #[.val (.int p0), .val (.long q1), .second] []))
    refine bk (fun t k => XS.iloadN X0.here hx rfl (hb hby d1_6) rfl k) ?_
    show F (s₁.setTop (mkF m 7 #[.val (.int p0), .val (.long q1), .second] [(.int p0)]))
    refine bk (fun t k => XS.iconst X0.here hx rfl (hb hby d1_7) k) ?_
    show F (s₁.setTop (mkF m 8 #[.val (.int p0), .val (.long q1), .second] [(.int (1 : Int32)), (.int p0)]))
    by_cases hc8_2 : p0 = (1 : Int32)
    · refine bk (fun t k => XS.icmpNo X0.here hx rfl (hb hby d1_8) rfl (teq hc8_2).2 k) ?_
      show F (s₁.setTop (mkF m 11 #[.val (.int p0), .val (.long q1), .second] []))
      refine bk (fun t k => XS.lconst X0.here hx rfl (hb hby d1_11) k) ?_
      show F (s₁.setTop (mkF m 12 #[.val (.int p0), .val (.long q1), .second] [(.long (1 : Int64))]))
      refine bk (fun t k => XS.lloadN X0.here hx rfl (hb hby d1_12) rfl k) ?_
      show F (s₁.setTop (mkF m 13 #[.val (.int p0), .val (.long q1), .second] [(.long q1), (.long (1 : Int64))]))
      refine bk (fun t k => X0.ldc2Long hx hown (mvT hZ (hw _ (List.mem_of_getElem? (i := 28) rfl))) (g := (mkF m 13 #[.val (.int p0), .val (.long q1), .second] [(.long q1), (.long (1 : Int64))])) rfl (hb hby d1_13) t k) ?_
      show F (s₁.setTop (mkF m 16 #[.val (.int p0), .val (.long q1), .second] [(.long (63 : Int64)), (.long q1), (.long (1 : Int64))]))
      refine bk (fun t k => XS.land X0.here hx rfl (hb hby d1_16) rfl k) ?_
      show F (s₁.setTop (mkF m 17 #[.val (.int p0), .val (.long q1), .second] [(.long (q1 &&& (63 : Int64))), (.long (1 : Int64))]))
      refine bk (fun t k => XS.l2i X0.here hx rfl (hb hby d1_17) rfl k) ?_
      show F (s₁.setTop (mkF m 18 #[.val (.int p0), .val (.long q1), .second] [(.int ((q1 &&& (63 : Int64)).toInt32)), (.long (1 : Int64))]))
      refine bk (fun t k => XS.lshl X0.here hx rfl (hb hby d1_18) rfl k) ?_
      show F (s₁.setTop (mkF m 19 #[.val (.int p0), .val (.long q1), .second] [(.long ((1 : Int64) <<< (((q1 &&& (63 : Int64)).toInt32) &&& 0x3f).toInt64))]))
      rw [hF]
      refine own_retJ X0 hx Bd.notSynchronized Bd.returns (hb hby d1_19) (by decide) (by decide) ?_
      rw [e0]
      refine ⟨?_, N0, rfl⟩
      show some (Value.long ((1 : Int64) <<< (((q1 &&& (63 : Int64)).toInt32) &&& 0x3f).toInt64)) = some (Value.long (own_pick p0 q1))
      simp [own_pick, hc1_1, hc8_2]
    · refine bk (fun t k => XS.icmpYes X0.here hx rfl (pc0 := 8) (pc' := 20) rfl (hb hby d1_8) rfl (feq hc8_2).2 (by decide) (by decide) k) ?_
      show F (s₁.setTop (mkF m 20 #[.val (.int p0), .val (.long q1), .second] []))
      refine bk (fun t k => XS.lloadN X0.here hx rfl (hb hby d1_20) rfl k) ?_
      show F (s₁.setTop (mkF m 21 #[.val (.int p0), .val (.long q1), .second] [(.long q1)]))
      rw [hF]
      refine own_retJ X0 hx Bd.notSynchronized Bd.returns (hb hby d1_21) (by decide) (by decide) ?_
      rw [e0]
      refine ⟨?_, N0, rfl⟩
      show some (Value.long q1) = some (Value.long (own_pick p0 q1))
      simp [own_pick, hc1_1, hc8_2]
theorem d2_0 : decode method_3_code 0 = .ok (.lload_n 0, 1) := by decide +kernel
theorem d2_1 : decode method_3_code 1 = .ok (.lload_n 0, 1) := by decide +kernel
theorem d2_2 : decode method_3_code 2 = .ok (.lconst 1, 1) := by decide +kernel
theorem d2_3 : decode method_3_code 3 = .ok (.lsub, 1) := by decide +kernel
theorem d2_4 : decode method_3_code 4 = .ok (.land, 1) := by decide +kernel
theorem d2_5 : decode method_3_code 5 = .ok (.lconst 0, 1) := by decide +kernel
theorem d2_6 : decode method_3_code 6 = .ok (.lcmp, 1) := by decide +kernel
theorem d2_7 : decode method_3_code 7 = .ok (.ifCond .eq 7, 3) := by decide +kernel
theorem d2_10 : decode method_3_code 10 = .ok (.iconst 1, 1) := by decide +kernel
theorem d2_11 : decode method_3_code 11 = .ok (.goto 4, 3) := by decide +kernel
theorem d2_14 : decode method_3_code 14 = .ok (.iconst 0, 1) := by decide +kernel
theorem d2_15 : decode method_3_code 15 = .ok (.ireturn, 1) := by decide +kernel
theorem pn_2 : plainName "com/example/lone1/lone1/solve/SweepOrderHasNextPinLaw" = true := by first | (simp [plainName, overriddenIn]; done) | decide +kernel
theorem ef_2 (m : MethodId) (x0 : Int64) : entryFrame m #[(.long x0)] 2 = mkF m 0 #[.val (.long x0), .second] [] := by first | (simp [entryFrame, mkF, argsToLocals, Value.category]; done) | rfl
def Q2 (Z : State) (q0 : Int64) (h0 : Heap) (n0 : Nat) (v : Option Value) (h : Heap) (L : List Loc) : Prop := v = some (.int (own_mb q0)) ∧ Fr n0 L ∧ h = h0
set_option maxRecDepth 65536 in
set_option maxHeartbeats 40000000 in
theorem rm2 (l : Launch) (Z : State) (a0 : Array Value) (hw : ∀ d ∈ tables_1, d.before a0 Z = true) (ws : List Jvm.Cond) (q0 : Int64) (h0 : Heap) (n0 : Nat) (Z0 : n0 ≤ h0.size) :
    MetFree l (⟨"com/example/lone1/lone1/solve/SweepOrderHasNextPinLaw", "multiBit", "(J)Z"⟩ : MethodName) (head1 (Jvm.Cond.code (⟨"com/example/lone1/lone1/solve/SweepOrderHasNextPinLaw", "multiBit", "(J)Z"⟩ : MethodName) method_3_code 2 (some .boolean) :: ws) ({ frames := 0, cells := 0, slots := 0, locals := 0 } : Room)) (fun a U => a = #[(.long q0)] ∧ Z.Warmed39 U.vm ∧ U.heap = h0) (fun _ _ _ _ _ => True) (fun _ U o U' => ∃ v L, o = .returned v ∧ Q2 Z q0 h0 n0 v U'.heap L ∧ FrameEnd U o U' L ({ frames := 0, cells := 0, slots := 0, locals := 0 } : Room).cells ({ frames := 0, cells := 0, slots := 0, locals := 0 } : Room).slots) := by
  refine MetFree.of_bodySF (plainFor_of_name pn_2) hisR ?_
  intro p e s m args below meth c s₁ Bd hml0 hP hK
  obtain ⟨rfl, hZ, hh⟩ := hP
  have hx := Bd.exec
  have hby := Bd.bytes
  have hml : c.maxLocals = 2 := hml0
  have hown : s.vm.findClass "com/example/lone1/lone1/solve/SweepOrderHasNextPinLaw" = some m.cls := findClass_of_methodNamed Bd.named
  have hnm := (name_of_methodNamed Bd.named Bd.method).1
  have X0 : Stand p l e ({ frames := 0, cells := 0, slots := 0, locals := 0 } : Room) s m #[(.long q0)] below meth c s₁ [] 0 0 := Stand.of_body Bd
  have e0 : s₁.heap = h0 := by rw [← hh, Bd.state]; rfl
  have N0 := Fr.nil n0
  obtain ⟨F, hF⟩ : ∃ F : State → Prop, F = own_Fin p e below s ({ frames := 0, cells := 0, slots := 0, locals := 0 } : Room).cells ({ frames := 0, cells := 0, slots := 0, locals := 0 } : Room).slots (fun v h L => Q2 Z q0 h0 n0 v h L) := ⟨_, rfl⟩
  have bk : ∀ {A B : State}, (∀ t, Steps p.tables e below B t → Steps p.tables e below A t) → F B → F A := by
    intro A B h k
    rw [hF] at k ⊢
    exact own_back h k
  suffices hgo : F (s₁.setTop (mkF m 0 #[.val (.long q0), .second] [])) by
    have hgo' := bk (fun t k => castTop (T := s₁) (ef_2 m q0) k) hgo
    rw [hF] at hgo'
    exact hgo'
  show F (s₁.setTop (mkF m 0 #[.val (.long q0), .second] []))
  refine bk (fun t k => XS.lloadN X0.here hx rfl (hb hby d2_0) rfl k) ?_
  show F (s₁.setTop (mkF m 1 #[.val (.long q0), .second] [(.long q0)]))
  refine bk (fun t k => XS.lloadN X0.here hx rfl (hb hby d2_1) rfl k) ?_
  show F (s₁.setTop (mkF m 2 #[.val (.long q0), .second] [(.long q0), (.long q0)]))
  refine bk (fun t k => XS.lconst X0.here hx rfl (hb hby d2_2) k) ?_
  show F (s₁.setTop (mkF m 3 #[.val (.long q0), .second] [(.long (1 : Int64)), (.long q0), (.long q0)]))
  refine bk (fun t k => XS.lsub X0.here hx rfl (hb hby d2_3) rfl k) ?_
  show F (s₁.setTop (mkF m 4 #[.val (.long q0), .second] [(.long (q0 - (1 : Int64))), (.long q0)]))
  refine bk (fun t k => XS.land X0.here hx rfl (hb hby d2_4) rfl k) ?_
  show F (s₁.setTop (mkF m 5 #[.val (.long q0), .second] [(.long (q0 &&& (q0 - (1 : Int64))))]))
  refine bk (fun t k => XS.lconst X0.here hx rfl (hb hby d2_5) k) ?_
  show F (s₁.setTop (mkF m 6 #[.val (.long q0), .second] [(.long (0 : Int64)), (.long (q0 &&& (q0 - (1 : Int64))))]))
  refine bk (fun t k => XS.lcmp X0.here hx rfl (hb hby d2_6) rfl k) ?_
  show F (s₁.setTop (mkF m 7 #[.val (.long q0), .second] [(.int (lcmpW (q0 &&& (q0 - (1 : Int64))) (0 : Int64)))]))
  by_cases hc7_1 : (q0 &&& (q0 - (1 : Int64))) = (0 : Int64)
  · refine bk (fun t k => XS.ifYes X0.here hx rfl (pc0 := 7) (pc' := 14) rfl (hb hby d2_7) rfl ((if0 _ _).trans (teq ((lw_eq _ _).mpr hc7_1)).1) (by decide) (by decide) k) ?_
    show F (s₁.setTop (mkF m 14 #[.val (.long q0), .second] []))
    refine bk (fun t k => XS.iconst X0.here hx rfl (hb hby d2_14) k) ?_
    show F (s₁.setTop (mkF m 15 #[.val (.long q0), .second] [(.int (0 : Int32))]))
    rw [hF]
    refine own_retZ X0 hx Bd.notSynchronized Bd.returns (hb hby d2_15) (by decide) (by decide) ?_
    rw [e0]
    refine ⟨?_, N0, rfl⟩
    show some (Value.int (0 : Int32)) = some (Value.int (own_mb q0))
    simp [own_mb, hc7_1]
  · refine bk (fun t k => XS.ifNo X0.here hx rfl (hb hby d2_7) rfl ((if0 _ _).trans (feq (fun q => hc7_1 ((lw_eq _ _).mp q))).1) k) ?_
    show F (s₁.setTop (mkF m 10 #[.val (.long q0), .second] []))
    refine bk (fun t k => XS.iconst X0.here hx rfl (hb hby d2_10) k) ?_
    show F (s₁.setTop (mkF m 11 #[.val (.long q0), .second] [(.int (1 : Int32))]))
    refine bk (fun t k => XS.goto X0.here hx rfl (pc0 := 11) (pc' := 15) rfl (hb hby d2_11) (by decide) (by decide) k) ?_
    show F (s₁.setTop (mkF m 15 #[.val (.long q0), .second] [(.int (1 : Int32))]))
    rw [hF]
    refine own_retZ X0 hx Bd.notSynchronized Bd.returns (hb hby d2_15) (by decide) (by decide) ?_
    rw [e0]
    refine ⟨?_, N0, rfl⟩
    show some (Value.int (1 : Int32)) = some (Value.int (own_mb q0))
    simp [own_mb, hc7_1]
theorem d8_0 : decode jdk_33_method_47_code 0 = .ok (.iload_n 0, 1) := by decide +kernel
theorem d8_1 : decode jdk_33_method_47_code 1 = .ok (.ifCond .gt 14, 3) := by decide +kernel
theorem d8_4 : decode jdk_33_method_47_code 4 = .ok (.iload_n 0, 1) := by decide +kernel
theorem d8_5 : decode jdk_33_method_47_code 5 = .ok (.ifCond .ne 8, 3) := by decide +kernel
theorem d8_8 : decode jdk_33_method_47_code 8 = .ok (.bipush 32, 2) := by decide +kernel
theorem d8_10 : decode jdk_33_method_47_code 10 = .ok (.goto 4, 3) := by decide +kernel
theorem d8_13 : decode jdk_33_method_47_code 13 = .ok (.iconst 0, 1) := by decide +kernel
theorem d8_14 : decode jdk_33_method_47_code 14 = .ok (.ireturn, 1) := by decide +kernel
theorem d8_15 : decode jdk_33_method_47_code 15 = .ok (.bipush 31, 2) := by decide +kernel
theorem d8_17 : decode jdk_33_method_47_code 17 = .ok (.istore_n 1, 1) := by decide +kernel
theorem d8_18 : decode jdk_33_method_47_code 18 = .ok (.iload_n 0, 1) := by decide +kernel
theorem d8_19 : decode jdk_33_method_47_code 19 = .ok (.ldc_w 264, 3) := by decide +kernel
theorem d8_22 : decode jdk_33_method_47_code 22 = .ok (.if_icmp .lt 11, 3) := by decide +kernel
theorem d8_25 : decode jdk_33_method_47_code 25 = .ok (.iinc 1 (-16), 3) := by decide +kernel
theorem d8_28 : decode jdk_33_method_47_code 28 = .ok (.iload_n 0, 1) := by decide +kernel
theorem d8_29 : decode jdk_33_method_47_code 29 = .ok (.bipush 16, 2) := by decide +kernel
theorem d8_31 : decode jdk_33_method_47_code 31 = .ok (.iushr, 1) := by decide +kernel
theorem d8_32 : decode jdk_33_method_47_code 32 = .ok (.istore_n 0, 1) := by decide +kernel
theorem d8_33 : decode jdk_33_method_47_code 33 = .ok (.iload_n 0, 1) := by decide +kernel
theorem d8_34 : decode jdk_33_method_47_code 34 = .ok (.sipush 256, 3) := by decide +kernel
theorem d8_37 : decode jdk_33_method_47_code 37 = .ok (.if_icmp .lt 11, 3) := by decide +kernel
theorem d8_40 : decode jdk_33_method_47_code 40 = .ok (.iinc 1 (-8), 3) := by decide +kernel
theorem d8_43 : decode jdk_33_method_47_code 43 = .ok (.iload_n 0, 1) := by decide +kernel
theorem d8_44 : decode jdk_33_method_47_code 44 = .ok (.bipush 8, 2) := by decide +kernel
theorem d8_46 : decode jdk_33_method_47_code 46 = .ok (.iushr, 1) := by decide +kernel
theorem d8_47 : decode jdk_33_method_47_code 47 = .ok (.istore_n 0, 1) := by decide +kernel
theorem d8_48 : decode jdk_33_method_47_code 48 = .ok (.iload_n 0, 1) := by decide +kernel
theorem d8_49 : decode jdk_33_method_47_code 49 = .ok (.bipush 16, 2) := by decide +kernel
theorem d8_51 : decode jdk_33_method_47_code 51 = .ok (.if_icmp .lt 10, 3) := by decide +kernel
theorem d8_54 : decode jdk_33_method_47_code 54 = .ok (.iinc 1 (-4), 3) := by decide +kernel
theorem d8_57 : decode jdk_33_method_47_code 57 = .ok (.iload_n 0, 1) := by decide +kernel
theorem d8_58 : decode jdk_33_method_47_code 58 = .ok (.iconst 4, 1) := by decide +kernel
theorem d8_59 : decode jdk_33_method_47_code 59 = .ok (.iushr, 1) := by decide +kernel
theorem d8_60 : decode jdk_33_method_47_code 60 = .ok (.istore_n 0, 1) := by decide +kernel
theorem d8_61 : decode jdk_33_method_47_code 61 = .ok (.iload_n 0, 1) := by decide +kernel
theorem d8_62 : decode jdk_33_method_47_code 62 = .ok (.iconst 4, 1) := by decide +kernel
theorem d8_63 : decode jdk_33_method_47_code 63 = .ok (.if_icmp .lt 10, 3) := by decide +kernel
theorem d8_66 : decode jdk_33_method_47_code 66 = .ok (.iinc 1 (-2), 3) := by decide +kernel
theorem d8_69 : decode jdk_33_method_47_code 69 = .ok (.iload_n 0, 1) := by decide +kernel
theorem d8_70 : decode jdk_33_method_47_code 70 = .ok (.iconst 2, 1) := by decide +kernel
theorem d8_71 : decode jdk_33_method_47_code 71 = .ok (.iushr, 1) := by decide +kernel
theorem d8_72 : decode jdk_33_method_47_code 72 = .ok (.istore_n 0, 1) := by decide +kernel
theorem d8_73 : decode jdk_33_method_47_code 73 = .ok (.iload_n 1, 1) := by decide +kernel
theorem d8_74 : decode jdk_33_method_47_code 74 = .ok (.iload_n 0, 1) := by decide +kernel
theorem d8_75 : decode jdk_33_method_47_code 75 = .ok (.iconst 1, 1) := by decide +kernel
theorem d8_76 : decode jdk_33_method_47_code 76 = .ok (.iushr, 1) := by decide +kernel
theorem d8_77 : decode jdk_33_method_47_code 77 = .ok (.isub, 1) := by decide +kernel
theorem d8_78 : decode jdk_33_method_47_code 78 = .ok (.ireturn, 1) := by decide +kernel
theorem pn_8 : plainName "java/lang/Integer" = true := by first | (simp [plainName, overriddenIn]; done) | decide +kernel
theorem ef_8 (m : MethodId) (x0 : Int32) : entryFrame m #[(.int x0)] 2 = mkF m 0 #[.val (.int x0), .unset] [] := by first | (simp [entryFrame, mkF, argsToLocals, Value.category]; done) | rfl
def Q8 (Z : State) (p0 : Int32) (h0 : Heap) (n0 : Nat) (v : Option Value) (h : Heap) (L : List Loc) : Prop := v = some (.int (own_nlz p0)) ∧ Fr n0 L ∧ h = h0
set_option maxRecDepth 65536 in
set_option maxHeartbeats 40000000 in
theorem rm8 (l : Launch) (Z : State) (a0 : Array Value) (hw : ∀ d ∈ tables_1, d.before a0 Z = true) (ws : List Jvm.Cond) (p0 : Int32) (h0 : Heap) (n0 : Nat) (Z0 : n0 ≤ h0.size) :
    MetFree l (⟨"java/lang/Integer", "numberOfLeadingZeros", "(I)I"⟩ : MethodName) (head1 (Jvm.Cond.code (⟨"java/lang/Integer", "numberOfLeadingZeros", "(I)I"⟩ : MethodName) jdk_33_method_47_code 2 (some .int) :: ws) ({ frames := 0, cells := 0, slots := 0, locals := 0 } : Room)) (fun a U => a = #[(.int p0)] ∧ Z.Warmed39 U.vm ∧ U.heap = h0) (fun _ _ _ _ _ => True) (fun _ U o U' => ∃ v L, o = .returned v ∧ Q8 Z p0 h0 n0 v U'.heap L ∧ FrameEnd U o U' L ({ frames := 0, cells := 0, slots := 0, locals := 0 } : Room).cells ({ frames := 0, cells := 0, slots := 0, locals := 0 } : Room).slots) := by
  refine MetFree.of_bodySF (plainFor_of_name pn_8) hisR ?_
  intro p e s m args below meth c s₁ Bd hml0 hP hK
  obtain ⟨rfl, hZ, hh⟩ := hP
  have hx := Bd.exec
  have hby := Bd.bytes
  have hml : c.maxLocals = 2 := hml0
  have hown : s.vm.findClass "java/lang/Integer" = some m.cls := findClass_of_methodNamed Bd.named
  have hnm := (name_of_methodNamed Bd.named Bd.method).1
  have X0 : Stand p l e ({ frames := 0, cells := 0, slots := 0, locals := 0 } : Room) s m #[(.int p0)] below meth c s₁ [] 0 0 := Stand.of_body Bd
  have e0 : s₁.heap = h0 := by rw [← hh, Bd.state]; rfl
  have N0 := Fr.nil n0
  obtain ⟨F, hF⟩ : ∃ F : State → Prop, F = own_Fin p e below s ({ frames := 0, cells := 0, slots := 0, locals := 0 } : Room).cells ({ frames := 0, cells := 0, slots := 0, locals := 0 } : Room).slots (fun v h L => Q8 Z p0 h0 n0 v h L) := ⟨_, rfl⟩
  have bk : ∀ {A B : State}, (∀ t, Steps p.tables e below B t → Steps p.tables e below A t) → F B → F A := by
    intro A B h k
    rw [hF] at k ⊢
    exact own_back h k
  suffices hgo : F (s₁.setTop (mkF m 0 #[.val (.int p0), .unset] [])) by
    have hgo' := bk (fun t k => castTop (T := s₁) (ef_8 m p0) k) hgo
    rw [hF] at hgo'
    exact hgo'
  have J73 : ∀ (i0 : Int32) (n1 : Int32) (hr : own_s1 n1 i0 = own_nlz p0), F (s₁.setTop (mkF m 73 #[.val (.int i0), .val (.int n1)] [])) := by
    intro i0 n1 hr
    show F (s₁.setTop (mkF m 73 #[.val (.int i0), .val (.int n1)] []))
    refine bk (fun t k => XS.iloadN X0.here hx rfl (hb hby d8_73) rfl k) ?_
    show F (s₁.setTop (mkF m 74 #[.val (.int i0), .val (.int n1)] [(.int n1)]))
    refine bk (fun t k => XS.iloadN X0.here hx rfl (hb hby d8_74) rfl k) ?_
    show F (s₁.setTop (mkF m 75 #[.val (.int i0), .val (.int n1)] [(.int i0), (.int n1)]))
    refine bk (fun t k => XS.iconst X0.here hx rfl (hb hby d8_75) k) ?_
    show F (s₁.setTop (mkF m 76 #[.val (.int i0), .val (.int n1)] [(.int (1 : Int32)), (.int i0), (.int n1)]))
    refine bk (fun t k => XS.iushr X0.here hx rfl (hb hby d8_76) rfl k) ?_
    show F (s₁.setTop (mkF m 77 #[.val (.int i0), .val (.int n1)] [(.int (own_shr i0 (1 : Int32))), (.int n1)]))
    refine bk (fun t k => XS.isub X0.here hx rfl (hb hby d8_77) rfl k) ?_
    show F (s₁.setTop (mkF m 78 #[.val (.int i0), .val (.int n1)] [(.int (n1 - (own_shr i0 (1 : Int32))))]))
    rw [hF]
    refine own_retI X0 hx Bd.notSynchronized Bd.returns (hb hby d8_78) (by decide) (by decide) ?_
    rw [e0]
    exact ⟨congrArg (fun z => some (Value.int z)) hr, N0, rfl⟩
  have J61 : ∀ (i0 : Int32) (n1 : Int32) (hr : own_s2 n1 i0 = own_nlz p0), F (s₁.setTop (mkF m 61 #[.val (.int i0), .val (.int n1)] [])) := by
    intro i0 n1 hr
    show F (s₁.setTop (mkF m 61 #[.val (.int i0), .val (.int n1)] []))
    refine bk (fun t k => XS.iloadN X0.here hx rfl (hb hby d8_61) rfl k) ?_
    show F (s₁.setTop (mkF m 62 #[.val (.int i0), .val (.int n1)] [(.int i0)]))
    refine bk (fun t k => XS.iconst X0.here hx rfl (hb hby d8_62) k) ?_
    show F (s₁.setTop (mkF m 63 #[.val (.int i0), .val (.int n1)] [(.int (4 : Int32)), (.int i0)]))
    by_cases hc63_1 : i0 < (4 : Int32)
    · refine bk (fun t k => XS.icmpYes X0.here hx rfl (pc0 := 63) (pc' := 73) rfl (hb hby d8_63) rfl (tlt hc63_1).1 (by decide) (by decide) k) ?_
      show F (s₁.setTop (mkF m 73 #[.val (.int i0), .val (.int n1)] []))
      exact J73 _ _ (by rw [← hr, own_s2, if_pos hc63_1])
    · refine bk (fun t k => XS.icmpNo X0.here hx rfl (hb hby d8_63) rfl (flt hc63_1).1 k) ?_
      show F (s₁.setTop (mkF m 66 #[.val (.int i0), .val (.int n1)] []))
      refine bk (fun t k => XS.iinc X0.here hx rfl (hb hby d8_66) rfl (l' := #[.val (.int i0), .val (.int (n1 + (-2 : Int32)))]) rfl k) ?_
      show F (s₁.setTop (mkF m 69 #[.val (.int i0), .val (.int (n1 + (-2 : Int32)))] []))
      refine bk (fun t k => XS.iloadN X0.here hx rfl (hb hby d8_69) rfl k) ?_
      show F (s₁.setTop (mkF m 70 #[.val (.int i0), .val (.int (n1 + (-2 : Int32)))] [(.int i0)]))
      refine bk (fun t k => XS.iconst X0.here hx rfl (hb hby d8_70) k) ?_
      show F (s₁.setTop (mkF m 71 #[.val (.int i0), .val (.int (n1 + (-2 : Int32)))] [(.int (2 : Int32)), (.int i0)]))
      refine bk (fun t k => XS.iushr X0.here hx rfl (hb hby d8_71) rfl k) ?_
      show F (s₁.setTop (mkF m 72 #[.val (.int i0), .val (.int (n1 + (-2 : Int32)))] [(.int (own_shr i0 (2 : Int32)))]))
      refine bk (fun t k => XS.istoreN X0.here hx rfl (hb hby d8_72) rfl (l' := #[.val (.int (own_shr i0 (2 : Int32))), .val (.int (n1 + (-2 : Int32)))]) rfl k) ?_
      show F (s₁.setTop (mkF m 73 #[.val (.int (own_shr i0 (2 : Int32))), .val (.int (n1 + (-2 : Int32)))] []))
      exact J73 _ _ (by rw [← hr, own_s2, if_neg hc63_1])
  have J48 : ∀ (i0 : Int32) (n1 : Int32) (hr : own_s4 n1 i0 = own_nlz p0), F (s₁.setTop (mkF m 48 #[.val (.int i0), .val (.int n1)] [])) := by
    intro i0 n1 hr
    show F (s₁.setTop (mkF m 48 #[.val (.int i0), .val (.int n1)] []))
    refine bk (fun t k => XS.iloadN X0.here hx rfl (hb hby d8_48) rfl k) ?_
    show F (s₁.setTop (mkF m 49 #[.val (.int i0), .val (.int n1)] [(.int i0)]))
    refine bk (fun t k => XS.bipush X0.here hx rfl (hb hby d8_49) k) ?_
    show F (s₁.setTop (mkF m 51 #[.val (.int i0), .val (.int n1)] [(.int (16 : Int32)), (.int i0)]))
    by_cases hc51_2 : i0 < (16 : Int32)
    · refine bk (fun t k => XS.icmpYes X0.here hx rfl (pc0 := 51) (pc' := 61) rfl (hb hby d8_51) rfl (tlt hc51_2).1 (by decide) (by decide) k) ?_
      show F (s₁.setTop (mkF m 61 #[.val (.int i0), .val (.int n1)] []))
      exact J61 _ _ (by rw [← hr, own_s4, if_pos hc51_2])
    · refine bk (fun t k => XS.icmpNo X0.here hx rfl (hb hby d8_51) rfl (flt hc51_2).1 k) ?_
      show F (s₁.setTop (mkF m 54 #[.val (.int i0), .val (.int n1)] []))
      refine bk (fun t k => XS.iinc X0.here hx rfl (hb hby d8_54) rfl (l' := #[.val (.int i0), .val (.int (n1 + (-4 : Int32)))]) rfl k) ?_
      show F (s₁.setTop (mkF m 57 #[.val (.int i0), .val (.int (n1 + (-4 : Int32)))] []))
      refine bk (fun t k => XS.iloadN X0.here hx rfl (hb hby d8_57) rfl k) ?_
      show F (s₁.setTop (mkF m 58 #[.val (.int i0), .val (.int (n1 + (-4 : Int32)))] [(.int i0)]))
      refine bk (fun t k => XS.iconst X0.here hx rfl (hb hby d8_58) k) ?_
      show F (s₁.setTop (mkF m 59 #[.val (.int i0), .val (.int (n1 + (-4 : Int32)))] [(.int (4 : Int32)), (.int i0)]))
      refine bk (fun t k => XS.iushr X0.here hx rfl (hb hby d8_59) rfl k) ?_
      show F (s₁.setTop (mkF m 60 #[.val (.int i0), .val (.int (n1 + (-4 : Int32)))] [(.int (own_shr i0 (4 : Int32)))]))
      refine bk (fun t k => XS.istoreN X0.here hx rfl (hb hby d8_60) rfl (l' := #[.val (.int (own_shr i0 (4 : Int32))), .val (.int (n1 + (-4 : Int32)))]) rfl k) ?_
      show F (s₁.setTop (mkF m 61 #[.val (.int (own_shr i0 (4 : Int32))), .val (.int (n1 + (-4 : Int32)))] []))
      exact J61 _ _ (by rw [← hr, own_s4, if_neg hc51_2])
  have J33 : ∀ (i0 : Int32) (n1 : Int32) (hr : own_s8 n1 i0 = own_nlz p0), F (s₁.setTop (mkF m 33 #[.val (.int i0), .val (.int n1)] [])) := by
    intro i0 n1 hr
    show F (s₁.setTop (mkF m 33 #[.val (.int i0), .val (.int n1)] []))
    refine bk (fun t k => XS.iloadN X0.here hx rfl (hb hby d8_33) rfl k) ?_
    show F (s₁.setTop (mkF m 34 #[.val (.int i0), .val (.int n1)] [(.int i0)]))
    refine bk (fun t k => XS.sipush X0.here hx rfl (hb hby d8_34) k) ?_
    show F (s₁.setTop (mkF m 37 #[.val (.int i0), .val (.int n1)] [(.int (256 : Int32)), (.int i0)]))
    by_cases hc37_3 : i0 < (256 : Int32)
    · refine bk (fun t k => XS.icmpYes X0.here hx rfl (pc0 := 37) (pc' := 48) rfl (hb hby d8_37) rfl (tlt hc37_3).1 (by decide) (by decide) k) ?_
      show F (s₁.setTop (mkF m 48 #[.val (.int i0), .val (.int n1)] []))
      exact J48 _ _ (by rw [← hr, own_s8, if_pos hc37_3])
    · refine bk (fun t k => XS.icmpNo X0.here hx rfl (hb hby d8_37) rfl (flt hc37_3).1 k) ?_
      show F (s₁.setTop (mkF m 40 #[.val (.int i0), .val (.int n1)] []))
      refine bk (fun t k => XS.iinc X0.here hx rfl (hb hby d8_40) rfl (l' := #[.val (.int i0), .val (.int (n1 + (-8 : Int32)))]) rfl k) ?_
      show F (s₁.setTop (mkF m 43 #[.val (.int i0), .val (.int (n1 + (-8 : Int32)))] []))
      refine bk (fun t k => XS.iloadN X0.here hx rfl (hb hby d8_43) rfl k) ?_
      show F (s₁.setTop (mkF m 44 #[.val (.int i0), .val (.int (n1 + (-8 : Int32)))] [(.int i0)]))
      refine bk (fun t k => XS.bipush X0.here hx rfl (hb hby d8_44) k) ?_
      show F (s₁.setTop (mkF m 46 #[.val (.int i0), .val (.int (n1 + (-8 : Int32)))] [(.int (8 : Int32)), (.int i0)]))
      refine bk (fun t k => XS.iushr X0.here hx rfl (hb hby d8_46) rfl k) ?_
      show F (s₁.setTop (mkF m 47 #[.val (.int i0), .val (.int (n1 + (-8 : Int32)))] [(.int (own_shr i0 (8 : Int32)))]))
      refine bk (fun t k => XS.istoreN X0.here hx rfl (hb hby d8_47) rfl (l' := #[.val (.int (own_shr i0 (8 : Int32))), .val (.int (n1 + (-8 : Int32)))]) rfl k) ?_
      show F (s₁.setTop (mkF m 48 #[.val (.int (own_shr i0 (8 : Int32))), .val (.int (n1 + (-8 : Int32)))] []))
      exact J48 _ _ (by rw [← hr, own_s8, if_neg hc37_3])
  show F (s₁.setTop (mkF m 0 #[.val (.int p0), .unset] []))
  refine bk (fun t k => XS.iloadN X0.here hx rfl (hb hby d8_0) rfl k) ?_
  show F (s₁.setTop (mkF m 1 #[.val (.int p0), .unset] [(.int p0)]))
  by_cases hc1_4 : (0 : Int32) < p0
  · refine bk (fun t k => XS.ifYes X0.here hx rfl (pc0 := 1) (pc' := 15) rfl (hb hby d8_1) rfl ((if0 _ _).trans (tlt hc1_4).2.2.1) (by decide) (by decide) k) ?_
    show F (s₁.setTop (mkF m 15 #[.val (.int p0), .unset] []))
    refine bk (fun t k => XS.bipush X0.here hx rfl (hb hby d8_15) k) ?_
    show F (s₁.setTop (mkF m 17 #[.val (.int p0), .unset] [(.int (31 : Int32))]))
    refine bk (fun t k => XS.istoreN X0.here hx rfl (hb hby d8_17) rfl (l' := #[.val (.int p0), .val (.int (31 : Int32))]) rfl k) ?_
    show F (s₁.setTop (mkF m 18 #[.val (.int p0), .val (.int (31 : Int32))] []))
    refine bk (fun t k => XS.iloadN X0.here hx rfl (hb hby d8_18) rfl k) ?_
    show F (s₁.setTop (mkF m 19 #[.val (.int p0), .val (.int (31 : Int32))] [(.int p0)]))
    refine bk (fun t k => X0.ldcwInt hx hown (mvT hZ (hw _ (List.mem_of_getElem? (i := 43) rfl))) (g := (mkF m 19 #[.val (.int p0), .val (.int (31 : Int32))] [(.int p0)])) rfl (hb hby d8_19) t k) ?_
    show F (s₁.setTop (mkF m 22 #[.val (.int p0), .val (.int (31 : Int32))] [(.int (65536 : Int32)), (.int p0)]))
    by_cases hc22_5 : p0 < (65536 : Int32)
    · refine bk (fun t k => XS.icmpYes X0.here hx rfl (pc0 := 22) (pc' := 33) rfl (hb hby d8_22) rfl (tlt hc22_5).1 (by decide) (by decide) k) ?_
      show F (s₁.setTop (mkF m 33 #[.val (.int p0), .val (.int (31 : Int32))] []))
      exact J33 _ _ (by simp [own_nlz, own_s16, hc1_4, hc22_5])
    · refine bk (fun t k => XS.icmpNo X0.here hx rfl (hb hby d8_22) rfl (flt hc22_5).1 k) ?_
      show F (s₁.setTop (mkF m 25 #[.val (.int p0), .val (.int (31 : Int32))] []))
      refine bk (fun t k => XS.iinc X0.here hx rfl (hb hby d8_25) rfl (l' := #[.val (.int p0), .val (.int (15 : Int32))]) rfl k) ?_
      show F (s₁.setTop (mkF m 28 #[.val (.int p0), .val (.int (15 : Int32))] []))
      refine bk (fun t k => XS.iloadN X0.here hx rfl (hb hby d8_28) rfl k) ?_
      show F (s₁.setTop (mkF m 29 #[.val (.int p0), .val (.int (15 : Int32))] [(.int p0)]))
      refine bk (fun t k => XS.bipush X0.here hx rfl (hb hby d8_29) k) ?_
      show F (s₁.setTop (mkF m 31 #[.val (.int p0), .val (.int (15 : Int32))] [(.int (16 : Int32)), (.int p0)]))
      refine bk (fun t k => XS.iushr X0.here hx rfl (hb hby d8_31) rfl k) ?_
      show F (s₁.setTop (mkF m 32 #[.val (.int p0), .val (.int (15 : Int32))] [(.int (own_shr p0 (16 : Int32)))]))
      refine bk (fun t k => XS.istoreN X0.here hx rfl (hb hby d8_32) rfl (l' := #[.val (.int (own_shr p0 (16 : Int32))), .val (.int (15 : Int32))]) rfl k) ?_
      show F (s₁.setTop (mkF m 33 #[.val (.int (own_shr p0 (16 : Int32))), .val (.int (15 : Int32))] []))
      exact J33 _ _ (by simp [own_nlz, own_s16, hc1_4, hc22_5])
  · refine bk (fun t k => XS.ifNo X0.here hx rfl (hb hby d8_1) rfl ((if0 _ _).trans (flt hc1_4).2.2.1) k) ?_
    show F (s₁.setTop (mkF m 4 #[.val (.int p0), .unset] []))
    refine bk (fun t k => XS.iloadN X0.here hx rfl (hb hby d8_4) rfl k) ?_
    show F (s₁.setTop (mkF m 5 #[.val (.int p0), .unset] [(.int p0)]))
    by_cases hc5_6 : p0 = (0 : Int32)
    · refine bk (fun t k => XS.ifNo X0.here hx rfl (hb hby d8_5) rfl ((if0 _ _).trans (teq hc5_6).2) k) ?_
      show F (s₁.setTop (mkF m 8 #[.val (.int p0), .unset] []))
      refine bk (fun t k => XS.bipush X0.here hx rfl (hb hby d8_8) k) ?_
      show F (s₁.setTop (mkF m 10 #[.val (.int p0), .unset] [(.int (32 : Int32))]))
      refine bk (fun t k => XS.goto X0.here hx rfl (pc0 := 10) (pc' := 14) rfl (hb hby d8_10) (by decide) (by decide) k) ?_
      show F (s₁.setTop (mkF m 14 #[.val (.int p0), .unset] [(.int (32 : Int32))]))
      rw [hF]
      refine own_retI X0 hx Bd.notSynchronized Bd.returns (hb hby d8_14) (by decide) (by decide) ?_
      rw [e0]
      refine ⟨?_, N0, rfl⟩
      show some (Value.int (32 : Int32)) = some (Value.int (own_nlz p0))
      simp [own_nlz, hc1_4, hc5_6]
    · refine bk (fun t k => XS.ifYes X0.here hx rfl (pc0 := 5) (pc' := 13) rfl (hb hby d8_5) rfl ((if0 _ _).trans (feq hc5_6).2) (by decide) (by decide) k) ?_
      show F (s₁.setTop (mkF m 13 #[.val (.int p0), .unset] []))
      refine bk (fun t k => XS.iconst X0.here hx rfl (hb hby d8_13) k) ?_
      show F (s₁.setTop (mkF m 14 #[.val (.int p0), .unset] [(.int (0 : Int32))]))
      rw [hF]
      refine own_retI X0 hx Bd.notSynchronized Bd.returns (hb hby d8_14) (by decide) (by decide) ?_
      rw [e0]
      refine ⟨?_, N0, rfl⟩
      show some (Value.int (0 : Int32)) = some (Value.int (own_nlz p0))
      simp [own_nlz, hc1_4, hc5_6]
theorem d7_0 : decode jdk_35_method_48_code 0 = .ok (.lload_n 0, 1) := by decide +kernel
theorem d7_1 : decode jdk_35_method_48_code 1 = .ok (.bipush 32, 2) := by decide +kernel
theorem d7_3 : decode jdk_35_method_48_code 3 = .ok (.lushr, 1) := by decide +kernel
theorem d7_4 : decode jdk_35_method_48_code 4 = .ok (.l2i, 1) := by decide +kernel
theorem d7_5 : decode jdk_35_method_48_code 5 = .ok (.istore_n 2, 1) := by decide +kernel
theorem d7_6 : decode jdk_35_method_48_code 6 = .ok (.iload_n 2, 1) := by decide +kernel
theorem d7_7 : decode jdk_35_method_48_code 7 = .ok (.ifCond .ne 14, 3) := by decide +kernel
theorem d7_10 : decode jdk_35_method_48_code 10 = .ok (.bipush 32, 2) := by decide +kernel
theorem d7_12 : decode jdk_35_method_48_code 12 = .ok (.lload_n 0, 1) := by decide +kernel
theorem d7_13 : decode jdk_35_method_48_code 13 = .ok (.l2i, 1) := by decide +kernel
theorem d7_14 : decode jdk_35_method_48_code 14 = .ok (.invokestatic 308, 3) := by decide +kernel
theorem d7_17 : decode jdk_35_method_48_code 17 = .ok (.iadd, 1) := by decide +kernel
theorem d7_18 : decode jdk_35_method_48_code 18 = .ok (.goto 7, 3) := by decide +kernel
theorem d7_21 : decode jdk_35_method_48_code 21 = .ok (.iload_n 2, 1) := by decide +kernel
theorem d7_22 : decode jdk_35_method_48_code 22 = .ok (.invokestatic 308, 3) := by decide +kernel
theorem d7_25 : decode jdk_35_method_48_code 25 = .ok (.ireturn, 1) := by decide +kernel
theorem pd7__I_I : parseMethodDescriptor "(I)I" = some ⟨[.int], some .int⟩ := by decide +kernel
theorem pn_7 : plainName "java/lang/Long" = true := by first | (simp [plainName, overriddenIn]; done) | decide +kernel
theorem ef_7 (m : MethodId) (x0 : Int64) : entryFrame m #[(.long x0)] 3 = mkF m 0 #[.val (.long x0), .second, .unset] [] := by first | (simp [entryFrame, mkF, argsToLocals, Value.category]; done) | rfl
def Q7 (Z : State) (q0 : Int64) (h0 : Heap) (n0 : Nat) (v : Option Value) (h : Heap) (L : List Loc) : Prop := v = some (.int (own_nlz64 q0)) ∧ Fr n0 L ∧ h = h0
set_option maxRecDepth 65536 in
set_option maxHeartbeats 40000000 in
theorem rm7 (l : Launch) (Z : State) (a0 : Array Value) (hw : ∀ d ∈ tables_1, d.before a0 Z = true) (ws : List Jvm.Cond) (q0 : Int64) (h0 : Heap) (n0 : Nat) (Z0 : n0 ≤ h0.size) :
    MetFree l (⟨"java/lang/Long", "numberOfLeadingZeros", "(J)I"⟩ : MethodName) (head1 (Jvm.Cond.code (⟨"java/lang/Long", "numberOfLeadingZeros", "(J)I"⟩ : MethodName) jdk_35_method_48_code 3 (some .int) :: ws) ({ frames := 1, cells := 0, slots := 0, locals := 14 } : Room)) (fun a U => a = #[(.long q0)] ∧ Z.Warmed39 U.vm ∧ U.heap = h0) (fun _ _ _ _ _ => True) (fun _ U o U' => ∃ v L, o = .returned v ∧ Q7 Z q0 h0 n0 v U'.heap L ∧ FrameEnd U o U' L ({ frames := 1, cells := 0, slots := 0, locals := 14 } : Room).cells ({ frames := 1, cells := 0, slots := 0, locals := 14 } : Room).slots) := by
  refine MetFree.of_bodySF (plainFor_of_name pn_7) hisR ?_
  intro p e s m args below meth c s₁ Bd hml0 hP hK
  obtain ⟨rfl, hZ, hh⟩ := hP
  have hx := Bd.exec
  have hby := Bd.bytes
  have hml : c.maxLocals = 3 := hml0
  have hown : s.vm.findClass "java/lang/Long" = some m.cls := findClass_of_methodNamed Bd.named
  have hnm := (name_of_methodNamed Bd.named Bd.method).1
  have X0 : Stand p l e ({ frames := 1, cells := 0, slots := 0, locals := 14 } : Room) s m #[(.long q0)] below meth c s₁ [] 0 0 := Stand.of_body Bd
  have e0 : s₁.heap = h0 := by rw [← hh, Bd.state]; rfl
  have N0 := Fr.nil n0
  obtain ⟨F, hF⟩ : ∃ F : State → Prop, F = own_Fin p e below s ({ frames := 1, cells := 0, slots := 0, locals := 14 } : Room).cells ({ frames := 1, cells := 0, slots := 0, locals := 14 } : Room).slots (fun v h L => Q7 Z q0 h0 n0 v h L) := ⟨_, rfl⟩
  have bk : ∀ {A B : State}, (∀ t, Steps p.tables e below B t → Steps p.tables e below A t) → F B → F A := by
    intro A B h k
    rw [hF] at k ⊢
    exact own_back h k
  suffices hgo : F (s₁.setTop (mkF m 0 #[.val (.long q0), .second, .unset] [])) by
    have hgo' := bk (fun t k => castTop (T := s₁) (ef_7 m q0) k) hgo
    rw [hF] at hgo'
    exact hgo'
  show F (s₁.setTop (mkF m 0 #[.val (.long q0), .second, .unset] []))
  refine bk (fun t k => XS.lloadN X0.here hx rfl (hb hby d7_0) rfl k) ?_
  show F (s₁.setTop (mkF m 1 #[.val (.long q0), .second, .unset] [(.long q0)]))
  refine bk (fun t k => XS.bipush X0.here hx rfl (hb hby d7_1) k) ?_
  show F (s₁.setTop (mkF m 3 #[.val (.long q0), .second, .unset] [(.int (32 : Int32)), (.long q0)]))
  refine bk (fun t k => XS.lushr X0.here hx rfl (hb hby d7_3) rfl k) ?_
  show F (s₁.setTop (mkF m 4 #[.val (.long q0), .second, .unset] [(.long ((q0.toUInt64 >>> ((32 : Int32) &&& 0x3f).toInt64.toUInt64).toInt64))]))
  refine bk (fun t k => XS.l2i X0.here hx rfl (hb hby d7_4) rfl k) ?_
  show F (s₁.setTop (mkF m 5 #[.val (.long q0), .second, .unset] [(.int (own_hi q0))]))
  refine bk (fun t k => XS.istoreN X0.here hx rfl (hb hby d7_5) rfl (l' := #[.val (.long q0), .second, .val (.int (own_hi q0))]) rfl k) ?_
  show F (s₁.setTop (mkF m 6 #[.val (.long q0), .second, .val (.int (own_hi q0))] []))
  refine bk (fun t k => XS.iloadN X0.here hx rfl (hb hby d7_6) rfl k) ?_
  show F (s₁.setTop (mkF m 7 #[.val (.long q0), .second, .val (.int (own_hi q0))] [(.int (own_hi q0))]))
  by_cases hc7_1 : (own_hi q0) = (0 : Int32)
  · refine bk (fun t k => XS.ifNo X0.here hx rfl (hb hby d7_7) rfl ((if0 _ _).trans (teq hc7_1).2) k) ?_
    show F (s₁.setTop (mkF m 10 #[.val (.long q0), .second, .val (.int (own_hi q0))] []))
    refine bk (fun t k => XS.bipush X0.here hx rfl (hb hby d7_10) k) ?_
    show F (s₁.setTop (mkF m 12 #[.val (.long q0), .second, .val (.int (own_hi q0))] [(.int (32 : Int32))]))
    refine bk (fun t k => XS.lloadN X0.here hx rfl (hb hby d7_12) rfl k) ?_
    show F (s₁.setTop (mkF m 13 #[.val (.long q0), .second, .val (.int (own_hi q0))] [(.long q0), (.int (32 : Int32))]))
    refine bk (fun t k => XS.l2i X0.here hx rfl (hb hby d7_13) rfl k) ?_
    show F (s₁.setTop (mkF m 14 #[.val (.long q0), .second, .val (.int (own_hi q0))] [(.int (q0.toInt32)), (.int (32 : Int32))]))
    obtain ⟨_, _, ⟨T2, L2, k2, n2⟩, -, X2, ⟨Lc2, hQ2, l2, y2, z2⟩, st2⟩ := Jvm.LawKit.callS X0 hx (y := (⟨"java/lang/Integer", "numberOfLeadingZeros", "(I)I"⟩ : MethodName)) hown (mvT hZ (hw _ (List.mem_of_getElem? (i := 39) rfl))) (mvT hZ (hw _ (List.mem_of_getElem? (i := 40) rfl))) (mvT hZ (hw _ (List.mem_of_getElem? (i := 41) rfl))) (mvT hZ (hw _ (List.mem_of_getElem? (i := 42) rfl))) (by decide) (backOf (W := 1) (rm8 l Z a0 hw [] (q0.toInt32) h0 n0 Z0) hZ (hw _ (List.mem_of_getElem? (i := 42) rfl)) (hw _ (List.mem_of_getElem? (i := 41) rfl)) (by decide) (by decide)) (g := (mkF m 14 #[.val (.long q0), .second, .val (.int (own_hi q0))] [(.int (q0.toInt32)), (.int (32 : Int32))])) rfl (by rw [hml]; rfl) (argsL := [(.int (q0.toInt32))]) (rest := [(.int (32 : Int32))]) (lenOf pd7__I_I rfl) rfl (by show 2 * 0 + _ ≤ _; exact Nat.le_of_eq rfl) (hb hby d7_14) (fun _ _ => ⟨rfl, e0, (by decide : 0 + 0 ≤ _), (by decide : 0 + 0 ≤ _)⟩)
    dsimp only [Pt.U, Pt.locs, Pt.cells, Pt.slots] at X2 l2 y2 z2 st2 hQ2
    subst l2 y2 z2
    obtain ⟨rfl, N2q, e2⟩ := hQ2
    have N2 := Fr.app N0 N2q
    refine bk (fun t k => st2 t k) ?_
    show F (T2.setTop (mkF m 17 #[.val (.long q0), .second, .val (.int (own_hi q0))] [(.int (own_nlz (q0.toInt32))), (.int (32 : Int32))]))
    refine bk (fun t k => XS.iadd X2.here hx rfl (hb hby d7_17) rfl k) ?_
    show F (T2.setTop (mkF m 18 #[.val (.long q0), .second, .val (.int (own_hi q0))] [(.int ((32 : Int32) + (own_nlz (q0.toInt32))))]))
    refine bk (fun t k => XS.goto X2.here hx rfl (pc0 := 18) (pc' := 25) rfl (hb hby d7_18) (by decide) (by decide) k) ?_
    show F (T2.setTop (mkF m 25 #[.val (.long q0), .second, .val (.int (own_hi q0))] [(.int ((32 : Int32) + (own_nlz (q0.toInt32))))]))
    rw [hF]
    refine own_retI X2 hx Bd.notSynchronized Bd.returns (hb hby d7_25) (by decide) (by decide) ?_
    rw [e2]
    refine ⟨?_, N2, rfl⟩
    show some (Value.int ((32 : Int32) + (own_nlz (q0.toInt32)))) = some (Value.int (own_nlz64 q0))
    simp [own_nlz64, hc7_1]
  · refine bk (fun t k => XS.ifYes X0.here hx rfl (pc0 := 7) (pc' := 21) rfl (hb hby d7_7) rfl ((if0 _ _).trans (feq hc7_1).2) (by decide) (by decide) k) ?_
    show F (s₁.setTop (mkF m 21 #[.val (.long q0), .second, .val (.int (own_hi q0))] []))
    refine bk (fun t k => XS.iloadN X0.here hx rfl (hb hby d7_21) rfl k) ?_
    show F (s₁.setTop (mkF m 22 #[.val (.long q0), .second, .val (.int (own_hi q0))] [(.int (own_hi q0))]))
    obtain ⟨_, _, ⟨T3, L3, k3, n3⟩, -, X3, ⟨Lc3, hQ3, l3, y3, z3⟩, st3⟩ := Jvm.LawKit.callS X0 hx (y := (⟨"java/lang/Integer", "numberOfLeadingZeros", "(I)I"⟩ : MethodName)) hown (mvT hZ (hw _ (List.mem_of_getElem? (i := 39) rfl))) (mvT hZ (hw _ (List.mem_of_getElem? (i := 40) rfl))) (mvT hZ (hw _ (List.mem_of_getElem? (i := 41) rfl))) (mvT hZ (hw _ (List.mem_of_getElem? (i := 42) rfl))) (by decide) (backOf (W := 0) (rm8 l Z a0 hw [] (own_hi q0) h0 n0 Z0) hZ (hw _ (List.mem_of_getElem? (i := 42) rfl)) (hw _ (List.mem_of_getElem? (i := 41) rfl)) (by decide) (by decide)) (g := (mkF m 22 #[.val (.long q0), .second, .val (.int (own_hi q0))] [(.int (own_hi q0))])) rfl (by rw [hml]; rfl) (argsL := [(.int (own_hi q0))]) (rest := []) (lenOf pd7__I_I rfl) rfl (by show 2 * 0 + _ ≤ _; exact Nat.le_of_eq rfl) (hb hby d7_22) (fun _ _ => ⟨rfl, e0, (by decide : 0 + 0 ≤ _), (by decide : 0 + 0 ≤ _)⟩)
    dsimp only [Pt.U, Pt.locs, Pt.cells, Pt.slots] at X3 l3 y3 z3 st3 hQ3
    subst l3 y3 z3
    obtain ⟨rfl, N3q, e3⟩ := hQ3
    have N3 := Fr.app N0 N3q
    refine bk (fun t k => st3 t k) ?_
    show F (T3.setTop (mkF m 25 #[.val (.long q0), .second, .val (.int (own_hi q0))] [(.int (own_nlz (own_hi q0)))]))
    rw [hF]
    refine own_retI X3 hx Bd.notSynchronized Bd.returns (hb hby d7_25) (by decide) (by decide) ?_
    rw [e3]
    refine ⟨?_, N3, rfl⟩
    show some (Value.int (own_nlz (own_hi q0))) = some (Value.int (own_nlz64 q0))
    simp [own_nlz64, hc7_1]
def own_S (Z : State) (h : Heap) (s ar : Addr) (kk : ClassId) (z at_ : Int32) (wd u0 u1 u2 : Int64) : Prop :=
  Exa Z h s "com/example/lone1/lone1/solve/SweepOrder" ∧ Fld Z h s "com/example/lone1/lone1/solve/SweepOrder" "words" "[J" (.ref ar) ∧ Fld Z h s "com/example/lone1/lone1/solve/SweepOrder" "at" "I" (.int at_) ∧ Fld Z h s "com/example/lone1/lone1/solve/SweepOrder" "word" "J" (.long wd) ∧ Arv Z h ar kk .long z [.long u0, .long u1, .long u2] (.long (0 : Int64))
theorem own_S0 {Z : State} {h : Heap} {s ar : Addr} {kk : ClassId} {z at_ : Int32} {wd u0 u1 u2 : Int64} (hw : wd = (0 : Int64)) (P : own_S Z h s ar kk z at_ wd u0 u1 u2) : own_S Z h s ar kk z at_ (0 : Int64) u0 u1 u2 := hw ▸ P
theorem d3_0 : decode prog_114_method_1_code 0 = .ok (.aload_n 0, 1) := by decide +kernel
theorem d3_1 : decode prog_114_method_1_code 1 = .ok (.invokespecial 1, 3) := by decide +kernel
theorem d3_4 : decode prog_114_method_1_code 4 = .ok (.aload_n 0, 1) := by decide +kernel
theorem d3_5 : decode prog_114_method_1_code 5 = .ok (.aload_n 1, 1) := by decide +kernel
theorem d3_6 : decode prog_114_method_1_code 6 = .ok (.putfield 7, 3) := by decide +kernel
theorem d3_9 : decode prog_114_method_1_code 9 = .ok (.aload_n 0, 1) := by decide +kernel
theorem d3_10 : decode prog_114_method_1_code 10 = .ok (.aload_n 1, 1) := by decide +kernel
theorem d3_11 : decode prog_114_method_1_code 11 = .ok (.arraylength, 1) := by decide +kernel
theorem d3_12 : decode prog_114_method_1_code 12 = .ok (.putfield 13, 3) := by decide +kernel
theorem d3_15 : decode prog_114_method_1_code 15 = .ok (.return_, 1) := by decide +kernel
theorem pn_3 : plainName "com/example/lone1/lone1/solve/SweepOrder" = true := by first | (simp [plainName, overriddenIn]; done) | decide +kernel
theorem ef_3 (m : MethodId) (x0 : Addr) (x1 : Addr) : entryFrame m #[(.ref x0), (.ref x1)] 2 = mkF m 0 #[.val (.ref x0), .val (.ref x1)] [] := by first | (simp [entryFrame, mkF, argsToLocals, Value.category]; done) | rfl
def Q3 (Z : State) (o0 : Addr) (ar : Addr) (kk : ClassId) (z : Int32) (u0 : Int64) (u1 : Int64) (u2 : Int64) (h0 : Heap) (n0 : Nat) (v : Option Value) (h : Heap) (L : List Loc) : Prop := v = none ∧ Fr n0 L ∧ n0 ≤ h.size ∧ own_S Z h o0 ar kk z z (0 : Int64) u0 u1 u2
set_option maxRecDepth 65536 in
set_option maxHeartbeats 40000000 in
theorem rm3 (l : Launch) (Z : State) (a0 : Array Value) (hw : ∀ d ∈ tables_1, d.before a0 Z = true) (ws : List Jvm.Cond) (o0 : Addr) (ar : Addr) (kk : ClassId) (z : Int32) (u0 : Int64) (u1 : Int64) (u2 : Int64) (h0 : Heap) (n0 : Nat) (Z0 : n0 ≤ h0.size) (E_o0 : Exa Z h0 o0 "com/example/lone1/lone1/solve/SweepOrder") (F_w : Fld Z h0 o0 "com/example/lone1/lone1/solve/SweepOrder" "words" "[J" .null) (F_a : Fld Z h0 o0 "com/example/lone1/lone1/solve/SweepOrder" "at" "I" (.int (0 : Int32))) (F_d : Fld Z h0 o0 "com/example/lone1/lone1/solve/SweepOrder" "word" "J" (.long (0 : Int64))) (V_ar : Arv Z h0 ar kk .long z [.long u0, .long u1, .long u2] (.long (0 : Int64))) (g_s : n0 ≤ o0) (ne_s_ar : o0 ≠ ar) :
    MetFree l (⟨"com/example/lone1/lone1/solve/SweepOrder", "<init>", "([J)V"⟩ : MethodName) (head1 (Jvm.Cond.code (⟨"com/example/lone1/lone1/solve/SweepOrder", "<init>", "([J)V"⟩ : MethodName) prog_114_method_1_code 2 none :: ws) ({ frames := 1, cells := 0, slots := 0, locals := 12 } : Room)) (fun a U => a = #[(.ref o0), (.ref ar)] ∧ Z.Warmed39 U.vm ∧ U.heap = h0) (fun _ _ _ _ _ => True) (fun _ U o U' => ∃ v L, o = .returned v ∧ Q3 Z o0 ar kk z u0 u1 u2 h0 n0 v U'.heap L ∧ FrameEnd U o U' L ({ frames := 1, cells := 0, slots := 0, locals := 12 } : Room).cells ({ frames := 1, cells := 0, slots := 0, locals := 12 } : Room).slots) := by
  refine MetFree.of_bodySF (plainFor_of_name pn_3) hisR ?_
  intro p e s m args below meth c s₁ Bd hml0 hP hK
  obtain ⟨rfl, hZ, hh⟩ := hP
  have hx := Bd.exec
  have hby := Bd.bytes
  have hml : c.maxLocals = 2 := hml0
  have hown : s.vm.findClass "com/example/lone1/lone1/solve/SweepOrder" = some m.cls := findClass_of_methodNamed Bd.named
  have hnm := (name_of_methodNamed Bd.named Bd.method).1
  have X0 : Stand p l e ({ frames := 1, cells := 0, slots := 0, locals := 12 } : Room) s m #[(.ref o0), (.ref ar)] below meth c s₁ [] 0 0 := Stand.of_body Bd
  have e0 : s₁.heap = h0 := by rw [← hh, Bd.state]; rfl
  have N0 := Fr.nil n0
  obtain ⟨F, hF⟩ : ∃ F : State → Prop, F = own_Fin p e below s ({ frames := 1, cells := 0, slots := 0, locals := 12 } : Room).cells ({ frames := 1, cells := 0, slots := 0, locals := 12 } : Room).slots (fun v h L => Q3 Z o0 ar kk z u0 u1 u2 h0 n0 v h L) := ⟨_, rfl⟩
  have bk : ∀ {A B : State}, (∀ t, Steps p.tables e below B t → Steps p.tables e below A t) → F B → F A := by
    intro A B h k
    rw [hF] at k ⊢
    exact own_back h k
  suffices hgo : F (s₁.setTop (mkF m 0 #[.val (.ref o0), .val (.ref ar)] [])) by
    have hgo' := bk (fun t k => castTop (T := s₁) (ef_3 m o0 ar) k) hgo
    rw [hF] at hgo'
    exact hgo'
  refine bk (fun t k => XS.aloadN X0.here hx rfl (hb hby d3_0) rfl rfl k) ?_
  show F (s₁.setTop (mkF m 1 #[.val (.ref o0), .val (.ref ar)] [(.ref o0)]))
  obtain ⟨T1, X1, e1, st1⟩ := initO X0 hx hZ hown (hw _ (List.mem_of_getElem? (i := 14) rfl)) (hw _ (List.mem_of_getElem? (i := 15) rfl)) (hw _ (List.mem_of_getElem? (i := 16) rfl)) e0 (g := (mkF m 1 #[.val (.ref o0), .val (.ref ar)] [(.ref o0)])) rfl (by rw [hml]; rfl) rfl (hb hby d3_1) (by decide) (W := 0) (by show 2 * 0 + _ ≤ _; exact Nat.le_of_eq rfl) (by decide)
  refine bk (fun t k => st1 t k) ?_
  refine bk (fun t k => XS.aloadN X1.here hx rfl (hb hby d3_4) rfl rfl k) ?_
  refine bk (fun t k => XS.aloadN X1.here hx rfl (hb hby d3_5) rfl rfl k) ?_
  show F (T1.setTop (mkF m 6 #[.val (.ref o0), .val (.ref ar)] [(.ref ar), (.ref o0)]))
  obtain ⟨T2, h2, X2, e2, W2, st2⟩ := putF X1 hx hZ hown (host := "") (Or.inl (hw _ (List.mem_of_getElem? (i := 17) rfl))) Via.refl e1 F_w E_o0 (Or.inr ⟨(hw _ (List.mem_of_getElem? (i := 18) rfl)), rfl, hnm⟩) (hw _ (List.mem_of_getElem? (i := 9) rfl)) (ty := (.array .long)) (by decide) rfl rfl (g := (mkF m 6 #[.val (.ref o0), .val (.ref ar)] [(.ref ar), (.ref o0)])) rfl rfl (hb hby d3_6)
  have f3 := E_o0.wr W2
  have f4 := F_w.same W2
  have f5 := F_a.other W2 (Or.inr (slot_ne (Or.inl (hw _ (List.mem_of_getElem? (i := 20) rfl))) (Or.inr (hw _ (List.mem_of_getElem? (i := 18) rfl))) (by decide) (t := .int) (t' := (.array .long)) (by decide) (by decide)))
  have f6 := F_d.other W2 (Or.inr (slot_ne (Or.inl (hw _ (List.mem_of_getElem? (i := 27) rfl))) (Or.inr (hw _ (List.mem_of_getElem? (i := 18) rfl))) (by decide) (t := .long) (t' := (.array .long)) (by decide) (by decide)))
  have f7 := V_ar.other W2 (Ne.symm ne_s_ar)
  have f8 := Nat.le_trans Z0 (Keep.of_wr W2).1
  have N2 := Fr.snoc X2 N0 g_s
  refine bk (fun t k => st2 t k) ?_
  refine bk (fun t k => XS.aloadN X2.here hx rfl (hb hby d3_9) rfl rfl k) ?_
  refine bk (fun t k => XS.aloadN X2.here hx rfl (hb hby d3_10) rfl rfl k) ?_
  show F (T2.setTop (mkF m 11 #[.val (.ref o0), .val (.ref ar)] [(.ref ar), (.ref o0)]))
  have vv9 := f7
  obtain ⟨cl9, Ar9, q9, S9, M9, H9, G9⟩ := vv9
  refine bk (fun t k => X2.arraylength hx (by rw [e2]; exact Ar9.1) (State.isArrayOf_alike hZ.alike Ar9.2.1) (g := (mkF m 11 #[.val (.ref o0), .val (.ref ar)] [(.ref ar), (.ref o0)])) rfl rfl (hb hby d3_11) t k) ?_
  rw [len_of S9 M9]
  show F (T2.setTop (mkF m 12 #[.val (.ref o0), .val (.ref ar)] [(.int z), (.ref o0)]))
  obtain ⟨T10, h10, X10, e10, W10, st10⟩ := putF X2 hx hZ hown (host := "") (Or.inl (hw _ (List.mem_of_getElem? (i := 19) rfl))) Via.refl e2 f5 f3 (Or.inl (hw _ (List.mem_of_getElem? (i := 20) rfl))) (hw _ (List.mem_of_getElem? (i := 9) rfl)) (ty := .int) (by decide) rfl rfl (g := (mkF m 12 #[.val (.ref o0), .val (.ref ar)] [(.int z), (.ref o0)])) rfl rfl (hb hby d3_12)
  have f11 := f3.wr W10
  have f12 := f4.other W10 (Or.inr (slot_ne (Or.inr (hw _ (List.mem_of_getElem? (i := 18) rfl))) (Or.inl (hw _ (List.mem_of_getElem? (i := 20) rfl))) (by decide) (t := (.array .long)) (t' := .int) (by decide) (by decide)))
  have f13 := f5.same W10
  have f14 := f6.other W10 (Or.inr (slot_ne (Or.inl (hw _ (List.mem_of_getElem? (i := 27) rfl))) (Or.inl (hw _ (List.mem_of_getElem? (i := 20) rfl))) (by decide) (t := .long) (t' := .int) (by decide) (by decide)))
  have f15 := f7.other W10 (Ne.symm ne_s_ar)
  have f16 := Nat.le_trans f8 (Keep.of_wr W10).1
  have N10 := Fr.snoc X10 N2 g_s
  refine bk (fun t k => st10 t k) ?_
  show F (T10.setTop (mkF m 15 #[.val (.ref o0), .val (.ref ar)] []))
  rw [hF]
  refine own_ret0 X10 hx Bd.notSynchronized Bd.returns (hb hby d3_15) (by decide) (by decide) ?_
  rw [e10]
  exact ⟨rfl, N10, f16, ⟨f11, f12, f13, f14, f15⟩⟩
theorem d5_0 : decode prog_114_method_2_code 0 = .ok (.aload_n 0, 1) := by decide +kernel
theorem d5_1 : decode prog_114_method_2_code 1 = .ok (.getfield 17, 3) := by decide +kernel
theorem d5_4 : decode prog_114_method_2_code 4 = .ok (.lconst 0, 1) := by decide +kernel
theorem d5_5 : decode prog_114_method_2_code 5 = .ok (.lcmp, 1) := by decide +kernel
theorem d5_6 : decode prog_114_method_2_code 6 = .ok (.ifCond .ne 38, 3) := by decide +kernel
theorem d5_44 : decode prog_114_method_2_code 44 = .ok (.iconst 1, 1) := by decide +kernel
theorem d5_45 : decode prog_114_method_2_code 45 = .ok (.ireturn, 1) := by decide +kernel
theorem pn_5 : plainName "com/example/lone1/lone1/solve/SweepOrder" = true := by first | (simp [plainName, overriddenIn]; done) | decide +kernel
theorem ef_5 (m : MethodId) (x0 : Addr) : entryFrame m #[(.ref x0)] 1 = mkF m 0 #[.val (.ref x0)] [] := by first | (simp [entryFrame, mkF, argsToLocals, Value.category]; done) | rfl
def Q5N (Z : State) (o0 : Addr) (wd : Int64) (h0 : Heap) (n0 : Nat) (v : Option Value) (h : Heap) (L : List Loc) : Prop := v = some (.int (1 : Int32)) ∧ Fr n0 L ∧ h = h0
set_option maxRecDepth 65536 in
set_option maxHeartbeats 40000000 in
theorem rm5N (l : Launch) (Z : State) (a0 : Array Value) (hw : ∀ d ∈ tables_1, d.before a0 Z = true) (ws : List Jvm.Cond) (o0 : Addr) (wd : Int64) (h0 : Heap) (n0 : Nat) (Z0 : n0 ≤ h0.size) (F_word : Fld Z h0 o0 "com/example/lone1/lone1/solve/SweepOrder" "word" "J" (.long wd)) (hwd : ¬ wd = (0 : Int64)) :
    MetFree l (⟨"com/example/lone1/lone1/solve/SweepOrder", "hasNext", "()Z"⟩ : MethodName) (head1 (Jvm.Cond.code (⟨"com/example/lone1/lone1/solve/SweepOrder", "hasNext", "()Z"⟩ : MethodName) prog_114_method_2_code 1 (some .boolean) :: ws) ({ frames := 0, cells := 0, slots := 0, locals := 0 } : Room)) (fun a U => a = #[(.ref o0)] ∧ Z.Warmed39 U.vm ∧ U.heap = h0) (fun _ _ _ _ _ => True) (fun _ U o U' => ∃ v L, o = .returned v ∧ Q5N Z o0 wd h0 n0 v U'.heap L ∧ FrameEnd U o U' L ({ frames := 0, cells := 0, slots := 0, locals := 0 } : Room).cells ({ frames := 0, cells := 0, slots := 0, locals := 0 } : Room).slots) := by
  refine MetFree.of_bodySF (plainFor_of_name pn_5) hisR ?_
  intro p e s m args below meth c s₁ Bd hml0 hP hK
  obtain ⟨rfl, hZ, hh⟩ := hP
  have hx := Bd.exec
  have hby := Bd.bytes
  have hml : c.maxLocals = 1 := hml0
  have hown : s.vm.findClass "com/example/lone1/lone1/solve/SweepOrder" = some m.cls := findClass_of_methodNamed Bd.named
  have hnm := (name_of_methodNamed Bd.named Bd.method).1
  have X0 : Stand p l e ({ frames := 0, cells := 0, slots := 0, locals := 0 } : Room) s m #[(.ref o0)] below meth c s₁ [] 0 0 := Stand.of_body Bd
  have e0 : s₁.heap = h0 := by rw [← hh, Bd.state]; rfl
  have N0 := Fr.nil n0
  obtain ⟨F, hF⟩ : ∃ F : State → Prop, F = own_Fin p e below s ({ frames := 0, cells := 0, slots := 0, locals := 0 } : Room).cells ({ frames := 0, cells := 0, slots := 0, locals := 0 } : Room).slots (fun v h L => Q5N Z o0 wd h0 n0 v h L) := ⟨_, rfl⟩
  have bk : ∀ {A B : State}, (∀ t, Steps p.tables e below B t → Steps p.tables e below A t) → F B → F A := by
    intro A B h k
    rw [hF] at k ⊢
    exact own_back h k
  suffices hgo : F (s₁.setTop (mkF m 0 #[.val (.ref o0)] [])) by
    have hgo' := bk (fun t k => castTop (T := s₁) (ef_5 m o0) k) hgo
    rw [hF] at hgo'
    exact hgo'
  refine bk (fun t k => XS.aloadN X0.here hx rfl (hb hby d5_0) rfl rfl k) ?_
  show F (s₁.setTop (mkF m 1 #[.val (.ref o0)] [(.ref o0)]))
  obtain ⟨T1, X1, e1, st1⟩ := getF X0 hx hZ hown (host := "") (Or.inl (hw _ (List.mem_of_getElem? (i := 26) rfl))) Via.refl e0 F_word (g := (mkF m 1 #[.val (.ref o0)] [(.ref o0)])) rfl rfl (hb hby d5_1)
  refine bk (fun t k => st1 t k) ?_
  refine bk (fun t k => XS.lconst X1.here hx rfl (hb hby d5_4) k) ?_
  show F (T1.setTop (mkF m 5 #[.val (.ref o0)] [(.long (0 : Int64)), (.long wd)]))
  refine bk (fun t k => XS.lcmp X1.here hx rfl (hb hby d5_5) rfl k) ?_
  show F (T1.setTop (mkF m 6 #[.val (.ref o0)] [(.int (lcmpW wd (0 : Int64)))]))
  refine bk (fun t k => XS.ifYes X1.here hx rfl (pc0 := 6) (pc' := 44) rfl (hb hby d5_6) rfl ((if0 _ _).trans (feq (fun q => hwd ((lw_eq _ _).mp q))).2) (by decide) (by decide) k) ?_
  refine bk (fun t k => XS.iconst X1.here hx rfl (hb hby d5_44) k) ?_
  show F (T1.setTop (mkF m 45 #[.val (.ref o0)] [(.int (1 : Int32))]))
  rw [hF]
  refine own_retZ X1 hx Bd.notSynchronized Bd.returns (hb hby d5_45) (by decide) (by decide) ?_
  rw [e1]
  exact ⟨rfl, N0, rfl⟩
theorem d5_9 : decode prog_114_method_2_code 9 = .ok (.aload_n 0, 1) := by decide +kernel
theorem d5_10 : decode prog_114_method_2_code 10 = .ok (.getfield 13, 3) := by decide +kernel
theorem d5_13 : decode prog_114_method_2_code 13 = .ok (.ifCond .ne 5, 3) := by decide +kernel
theorem d5_16 : decode prog_114_method_2_code 16 = .ok (.iconst 0, 1) := by decide +kernel
theorem d5_17 : decode prog_114_method_2_code 17 = .ok (.ireturn, 1) := by decide +kernel
def Q5Z0n (Z : State) (o0 : Addr) (ar : Addr) (kk : ClassId) (z : Int32) (u0 : Int64) (u1 : Int64) (u2 : Int64) (h0 : Heap) (n0 : Nat) (v : Option Value) (h : Heap) (L : List Loc) : Prop := v = some (.int (0 : Int32)) ∧ Fr n0 L ∧ n0 ≤ h.size ∧ own_S Z h o0 ar kk z (0 : Int32) (0 : Int64) u0 u1 u2
set_option maxRecDepth 65536 in
set_option maxHeartbeats 40000000 in
theorem rm5Z0n (l : Launch) (Z : State) (a0 : Array Value) (hw : ∀ d ∈ tables_1, d.before a0 Z = true) (ws : List Jvm.Cond) (o0 : Addr) (ar : Addr) (kk : ClassId) (z : Int32) (u0 : Int64) (u1 : Int64) (u2 : Int64) (h0 : Heap) (n0 : Nat) (Z0 : n0 ≤ h0.size) (P0 : own_S Z h0 o0 ar kk z (0 : Int32) (0 : Int64) u0 u1 u2) (g_s : n0 ≤ o0) (ne_s_ar : o0 ≠ ar) :
    MetFree l (⟨"com/example/lone1/lone1/solve/SweepOrder", "hasNext", "()Z"⟩ : MethodName) (head1 (Jvm.Cond.code (⟨"com/example/lone1/lone1/solve/SweepOrder", "hasNext", "()Z"⟩ : MethodName) prog_114_method_2_code 1 (some .boolean) :: ws) ({ frames := 0, cells := 0, slots := 0, locals := 0 } : Room)) (fun a U => a = #[(.ref o0)] ∧ Z.Warmed39 U.vm ∧ U.heap = h0) (fun _ _ _ _ _ => True) (fun _ U o U' => ∃ v L, o = .returned v ∧ Q5Z0n Z o0 ar kk z u0 u1 u2 h0 n0 v U'.heap L ∧ FrameEnd U o U' L ({ frames := 0, cells := 0, slots := 0, locals := 0 } : Room).cells ({ frames := 0, cells := 0, slots := 0, locals := 0 } : Room).slots) := by
  refine MetFree.of_bodySF (plainFor_of_name pn_5) hisR ?_
  intro p e s m args below meth c s₁ Bd hml0 hP hK
  obtain ⟨rfl, hZ, hh⟩ := hP
  have hx := Bd.exec
  have hby := Bd.bytes
  have hml : c.maxLocals = 1 := hml0
  have hown : s.vm.findClass "com/example/lone1/lone1/solve/SweepOrder" = some m.cls := findClass_of_methodNamed Bd.named
  have hnm := (name_of_methodNamed Bd.named Bd.method).1
  have X0 : Stand p l e ({ frames := 0, cells := 0, slots := 0, locals := 0 } : Room) s m #[(.ref o0)] below meth c s₁ [] 0 0 := Stand.of_body Bd
  have e0 : s₁.heap = h0 := by rw [← hh, Bd.state]; rfl
  have N0 := Fr.nil n0
  obtain ⟨F, hF⟩ : ∃ F : State → Prop, F = own_Fin p e below s ({ frames := 0, cells := 0, slots := 0, locals := 0 } : Room).cells ({ frames := 0, cells := 0, slots := 0, locals := 0 } : Room).slots (fun v h L => Q5Z0n Z o0 ar kk z u0 u1 u2 h0 n0 v h L) := ⟨_, rfl⟩
  have bk : ∀ {A B : State}, (∀ t, Steps p.tables e below B t → Steps p.tables e below A t) → F B → F A := by
    intro A B h k
    rw [hF] at k ⊢
    exact own_back h k
  suffices hgo : F (s₁.setTop (mkF m 0 #[.val (.ref o0)] [])) by
    have hgo' := bk (fun t k => castTop (T := s₁) (ef_5 m o0) k) hgo
    rw [hF] at hgo'
    exact hgo'
  obtain ⟨E_s, F_words, F_at, F_word, V_ar⟩ := P0
  refine bk (fun t k => XS.aloadN X0.here hx rfl (hb hby d5_0) rfl rfl k) ?_
  show F (s₁.setTop (mkF m 1 #[.val (.ref o0)] [(.ref o0)]))
  obtain ⟨T1, X1, e1, st1⟩ := getF X0 hx hZ hown (host := "") (Or.inl (hw _ (List.mem_of_getElem? (i := 26) rfl))) Via.refl e0 F_word (g := (mkF m 1 #[.val (.ref o0)] [(.ref o0)])) rfl rfl (hb hby d5_1)
  refine bk (fun t k => st1 t k) ?_
  refine bk (fun t k => XS.lconst X1.here hx rfl (hb hby d5_4) k) ?_
  show F (T1.setTop (mkF m 5 #[.val (.ref o0)] [(.long (0 : Int64)), (.long (0 : Int64))]))
  refine bk (fun t k => XS.lcmp X1.here hx rfl (hb hby d5_5) rfl k) ?_
  show F (T1.setTop (mkF m 6 #[.val (.ref o0)] [(.int (lcmpW (0 : Int64) (0 : Int64)))]))
  refine bk (fun t k => XS.ifNo X1.here hx rfl (hb hby d5_6) rfl ((if0 _ _).trans (teq ((lw_eq _ _).mpr (by decide : (0 : Int64) = (0 : Int64)))).2) k) ?_
  refine bk (fun t k => XS.aloadN X1.here hx rfl (hb hby d5_9) rfl rfl k) ?_
  show F (T1.setTop (mkF m 10 #[.val (.ref o0)] [(.ref o0)]))
  obtain ⟨T2, X2, e2, st2⟩ := getF X1 hx hZ hown (host := "") (Or.inl (hw _ (List.mem_of_getElem? (i := 19) rfl))) Via.refl e1 F_at (g := (mkF m 10 #[.val (.ref o0)] [(.ref o0)])) rfl rfl (hb hby d5_10)
  refine bk (fun t k => st2 t k) ?_
  show F (T2.setTop (mkF m 13 #[.val (.ref o0)] [(.int (0 : Int32))]))
  refine bk (fun t k => XS.ifNo X2.here hx rfl (hb hby d5_13) rfl ((if0 _ _).trans (teq (by decide : (0 : Int32) = (0 : Int32))).2) k) ?_
  refine bk (fun t k => XS.iconst X2.here hx rfl (hb hby d5_16) k) ?_
  show F (T2.setTop (mkF m 17 #[.val (.ref o0)] [(.int (0 : Int32))]))
  rw [hF]
  refine own_retZ X2 hx Bd.notSynchronized Bd.returns (hb hby d5_17) (by decide) (by decide) ?_
  rw [e2]
  exact ⟨rfl, N0, Z0, ⟨E_s, F_words, F_at, F_word, V_ar⟩⟩
theorem d5_18 : decode prog_114_method_2_code 18 = .ok (.aload_n 0, 1) := by decide +kernel
theorem d5_19 : decode prog_114_method_2_code 19 = .ok (.dup, 1) := by decide +kernel
theorem d5_20 : decode prog_114_method_2_code 20 = .ok (.getfield 13, 3) := by decide +kernel
theorem d5_23 : decode prog_114_method_2_code 23 = .ok (.iconst 1, 1) := by decide +kernel
theorem d5_24 : decode prog_114_method_2_code 24 = .ok (.isub, 1) := by decide +kernel
theorem d5_25 : decode prog_114_method_2_code 25 = .ok (.putfield 13, 3) := by decide +kernel
theorem d5_28 : decode prog_114_method_2_code 28 = .ok (.aload_n 0, 1) := by decide +kernel
theorem d5_29 : decode prog_114_method_2_code 29 = .ok (.aload_n 0, 1) := by decide +kernel
theorem d5_30 : decode prog_114_method_2_code 30 = .ok (.getfield 7, 3) := by decide +kernel
theorem d5_33 : decode prog_114_method_2_code 33 = .ok (.aload_n 0, 1) := by decide +kernel
theorem d5_34 : decode prog_114_method_2_code 34 = .ok (.getfield 13, 3) := by decide +kernel
theorem d5_37 : decode prog_114_method_2_code 37 = .ok (.laload, 1) := by decide +kernel
theorem d5_38 : decode prog_114_method_2_code 38 = .ok (.putfield 17, 3) := by decide +kernel
theorem d5_41 : decode prog_114_method_2_code 41 = .ok (.goto (-41), 3) := by decide +kernel
def Q5Z10 (Z : State) (o0 : Addr) (ar : Addr) (kk : ClassId) (z : Int32) (u0 : Int64) (u1 : Int64) (u2 : Int64) (h0 : Heap) (n0 : Nat) (v : Option Value) (h : Heap) (L : List Loc) : Prop := v = some (.int (1 : Int32)) ∧ Fr n0 L ∧ n0 ≤ h.size ∧ own_S Z h o0 ar kk z (0 : Int32) u0 u0 u1 u2
set_option maxRecDepth 65536 in
set_option maxHeartbeats 40000000 in
theorem rm5Z10 (l : Launch) (Z : State) (a0 : Array Value) (hw : ∀ d ∈ tables_1, d.before a0 Z = true) (ws : List Jvm.Cond) (o0 : Addr) (ar : Addr) (kk : ClassId) (z : Int32) (u0 : Int64) (u1 : Int64) (u2 : Int64) (h0 : Heap) (n0 : Nat) (Z0 : n0 ≤ h0.size) (P0 : own_S Z h0 o0 ar kk z (1 : Int32) (0 : Int64) u0 u1 u2) (g_s : n0 ≤ o0) (ne_s_ar : o0 ≠ ar) (hz0 : (0 : Int32) < z) (he0 : ¬ u0 = (0 : Int64)) :
    MetFree l (⟨"com/example/lone1/lone1/solve/SweepOrder", "hasNext", "()Z"⟩ : MethodName) (head1 (Jvm.Cond.code (⟨"com/example/lone1/lone1/solve/SweepOrder", "hasNext", "()Z"⟩ : MethodName) prog_114_method_2_code 1 (some .boolean) :: ws) ({ frames := 0, cells := 0, slots := 0, locals := 0 } : Room)) (fun a U => a = #[(.ref o0)] ∧ Z.Warmed39 U.vm ∧ U.heap = h0) (fun _ _ _ _ _ => True) (fun _ U o U' => ∃ v L, o = .returned v ∧ Q5Z10 Z o0 ar kk z u0 u1 u2 h0 n0 v U'.heap L ∧ FrameEnd U o U' L ({ frames := 0, cells := 0, slots := 0, locals := 0 } : Room).cells ({ frames := 0, cells := 0, slots := 0, locals := 0 } : Room).slots) := by
  refine MetFree.of_bodySF (plainFor_of_name pn_5) hisR ?_
  intro p e s m args below meth c s₁ Bd hml0 hP hK
  obtain ⟨rfl, hZ, hh⟩ := hP
  have hx := Bd.exec
  have hby := Bd.bytes
  have hml : c.maxLocals = 1 := hml0
  have hown : s.vm.findClass "com/example/lone1/lone1/solve/SweepOrder" = some m.cls := findClass_of_methodNamed Bd.named
  have hnm := (name_of_methodNamed Bd.named Bd.method).1
  have X0 : Stand p l e ({ frames := 0, cells := 0, slots := 0, locals := 0 } : Room) s m #[(.ref o0)] below meth c s₁ [] 0 0 := Stand.of_body Bd
  have e0 : s₁.heap = h0 := by rw [← hh, Bd.state]; rfl
  have N0 := Fr.nil n0
  obtain ⟨F, hF⟩ : ∃ F : State → Prop, F = own_Fin p e below s ({ frames := 0, cells := 0, slots := 0, locals := 0 } : Room).cells ({ frames := 0, cells := 0, slots := 0, locals := 0 } : Room).slots (fun v h L => Q5Z10 Z o0 ar kk z u0 u1 u2 h0 n0 v h L) := ⟨_, rfl⟩
  have bk : ∀ {A B : State}, (∀ t, Steps p.tables e below B t → Steps p.tables e below A t) → F B → F A := by
    intro A B h k
    rw [hF] at k ⊢
    exact own_back h k
  suffices hgo : F (s₁.setTop (mkF m 0 #[.val (.ref o0)] [])) by
    have hgo' := bk (fun t k => castTop (T := s₁) (ef_5 m o0) k) hgo
    rw [hF] at hgo'
    exact hgo'
  obtain ⟨E_s, F_words, F_at, F_word, V_ar⟩ := P0
  refine bk (fun t k => XS.aloadN X0.here hx rfl (hb hby d5_0) rfl rfl k) ?_
  show F (s₁.setTop (mkF m 1 #[.val (.ref o0)] [(.ref o0)]))
  obtain ⟨T1, X1, e1, st1⟩ := getF X0 hx hZ hown (host := "") (Or.inl (hw _ (List.mem_of_getElem? (i := 26) rfl))) Via.refl e0 F_word (g := (mkF m 1 #[.val (.ref o0)] [(.ref o0)])) rfl rfl (hb hby d5_1)
  refine bk (fun t k => st1 t k) ?_
  refine bk (fun t k => XS.lconst X1.here hx rfl (hb hby d5_4) k) ?_
  show F (T1.setTop (mkF m 5 #[.val (.ref o0)] [(.long (0 : Int64)), (.long (0 : Int64))]))
  refine bk (fun t k => XS.lcmp X1.here hx rfl (hb hby d5_5) rfl k) ?_
  show F (T1.setTop (mkF m 6 #[.val (.ref o0)] [(.int (lcmpW (0 : Int64) (0 : Int64)))]))
  refine bk (fun t k => XS.ifNo X1.here hx rfl (hb hby d5_6) rfl ((if0 _ _).trans (teq ((lw_eq _ _).mpr (by decide : (0 : Int64) = (0 : Int64)))).2) k) ?_
  refine bk (fun t k => XS.aloadN X1.here hx rfl (hb hby d5_9) rfl rfl k) ?_
  show F (T1.setTop (mkF m 10 #[.val (.ref o0)] [(.ref o0)]))
  obtain ⟨T2, X2, e2, st2⟩ := getF X1 hx hZ hown (host := "") (Or.inl (hw _ (List.mem_of_getElem? (i := 19) rfl))) Via.refl e1 F_at (g := (mkF m 10 #[.val (.ref o0)] [(.ref o0)])) rfl rfl (hb hby d5_10)
  refine bk (fun t k => st2 t k) ?_
  show F (T2.setTop (mkF m 13 #[.val (.ref o0)] [(.int (1 : Int32))]))
  refine bk (fun t k => XS.ifYes X2.here hx rfl (pc0 := 13) (pc' := 18) rfl (hb hby d5_13) rfl ((if0 _ _).trans (feq (by decide : ¬ ((1 : Int32) = (0 : Int32)))).2) (by decide) (by decide) k) ?_
  refine bk (fun t k => XS.aloadN X2.here hx rfl (hb hby d5_18) rfl rfl k) ?_
  refine bk (fun t k => XS.dup X2.here hx rfl (hb hby d5_19) rfl rfl k) ?_
  show F (T2.setTop (mkF m 20 #[.val (.ref o0)] [(.ref o0), (.ref o0)]))
  obtain ⟨T3, X3, e3, st3⟩ := getF X2 hx hZ hown (host := "") (Or.inl (hw _ (List.mem_of_getElem? (i := 19) rfl))) Via.refl e2 F_at (g := (mkF m 20 #[.val (.ref o0)] [(.ref o0), (.ref o0)])) rfl rfl (hb hby d5_20)
  refine bk (fun t k => st3 t k) ?_
  refine bk (fun t k => XS.iconst X3.here hx rfl (hb hby d5_23) k) ?_
  show F (T3.setTop (mkF m 24 #[.val (.ref o0)] [(.int (1 : Int32)), (.int (1 : Int32)), (.ref o0)]))
  refine bk (fun t k => XS.isub X3.here hx rfl (hb hby d5_24) rfl k) ?_
  show F (T3.setTop (mkF m 25 #[.val (.ref o0)] [(.int (0 : Int32)), (.ref o0)]))
  obtain ⟨T4, h4, X4, e4, W4, st4⟩ := putF X3 hx hZ hown (host := "") (Or.inl (hw _ (List.mem_of_getElem? (i := 19) rfl))) Via.refl e3 F_at E_s (Or.inl (hw _ (List.mem_of_getElem? (i := 20) rfl))) (hw _ (List.mem_of_getElem? (i := 9) rfl)) (ty := .int) (by decide) rfl rfl (g := (mkF m 25 #[.val (.ref o0)] [(.int (0 : Int32)), (.ref o0)])) rfl rfl (hb hby d5_25)
  have f5 := E_s.wr W4
  have f6 := F_words.other W4 (Or.inr (slot_ne (Or.inr (hw _ (List.mem_of_getElem? (i := 18) rfl))) (Or.inl (hw _ (List.mem_of_getElem? (i := 20) rfl))) (by decide) (t := (.array .long)) (t' := .int) (by decide) (by decide)))
  have f7 := F_at.same W4
  have f8 := F_word.other W4 (Or.inr (slot_ne (Or.inl (hw _ (List.mem_of_getElem? (i := 27) rfl))) (Or.inl (hw _ (List.mem_of_getElem? (i := 20) rfl))) (by decide) (t := .long) (t' := .int) (by decide) (by decide)))
  have f9 := V_ar.other W4 (Ne.symm ne_s_ar)
  have f10 := Nat.le_trans Z0 (Keep.of_wr W4).1
  have N4 := Fr.snoc X4 N0 g_s
  refine bk (fun t k => st4 t k) ?_
  refine bk (fun t k => XS.aloadN X4.here hx rfl (hb hby d5_28) rfl rfl k) ?_
  refine bk (fun t k => XS.aloadN X4.here hx rfl (hb hby d5_29) rfl rfl k) ?_
  show F (T4.setTop (mkF m 30 #[.val (.ref o0)] [(.ref o0), (.ref o0)]))
  obtain ⟨T11, X11, e11, st11⟩ := getF X4 hx hZ hown (host := "") (Or.inl (hw _ (List.mem_of_getElem? (i := 17) rfl))) Via.refl e4 f6 (g := (mkF m 30 #[.val (.ref o0)] [(.ref o0), (.ref o0)])) rfl rfl (hb hby d5_30)
  refine bk (fun t k => st11 t k) ?_
  refine bk (fun t k => XS.aloadN X11.here hx rfl (hb hby d5_33) rfl rfl k) ?_
  show F (T11.setTop (mkF m 34 #[.val (.ref o0)] [(.ref o0), (.ref ar), (.ref o0)]))
  obtain ⟨T12, X12, e12, st12⟩ := getF X11 hx hZ hown (host := "") (Or.inl (hw _ (List.mem_of_getElem? (i := 19) rfl))) Via.refl e11 f7 (g := (mkF m 34 #[.val (.ref o0)] [(.ref o0), (.ref ar), (.ref o0)])) rfl rfl (hb hby d5_34)
  refine bk (fun t k => st12 t k) ?_
  show F (T12.setTop (mkF m 37 #[.val (.ref o0)] [(.int (0 : Int32)), (.ref ar), (.ref o0)]))
  have vv13 := f9
  obtain ⟨cl13, Ar13, q13, S13, M13, H13, G13⟩ := vv13
  have hin13 : ¬ ((0 : Int32) < 0 ∨ cl13.slots.size ≤ ((0 : Int32)).toNatClampNeg) := inb_of S13 ⟨by decide, hz0⟩
  refine bk (fun t k => X12.laload hx (j := (0 : Int32)) (v := (.long u0)) (by rw [e12]; exact Ar13.1) (State.isArrayOf_alike hZ.alike Ar13.2.1) Ar13.2.2 hin13 (Has.at H13 hin13 rfl) (g := (mkF m 37 #[.val (.ref o0)] [(.int (0 : Int32)), (.ref ar), (.ref o0)])) rfl rfl (hb hby d5_37) t k) ?_
  show F (T12.setTop (mkF m 38 #[.val (.ref o0)] [(.long u0), (.ref o0)]))
  obtain ⟨T14, h14, X14, e14, W14, st14⟩ := putF X12 hx hZ hown (host := "") (Or.inl (hw _ (List.mem_of_getElem? (i := 26) rfl))) Via.refl e12 f8 f5 (Or.inl (hw _ (List.mem_of_getElem? (i := 27) rfl))) (hw _ (List.mem_of_getElem? (i := 9) rfl)) (ty := .long) (by decide) rfl rfl (g := (mkF m 38 #[.val (.ref o0)] [(.long u0), (.ref o0)])) rfl rfl (hb hby d5_38)
  have f15 := f5.wr W14
  have f16 := f6.other W14 (Or.inr (slot_ne (Or.inr (hw _ (List.mem_of_getElem? (i := 18) rfl))) (Or.inl (hw _ (List.mem_of_getElem? (i := 27) rfl))) (by decide) (t := (.array .long)) (t' := .long) (by decide) (by decide)))
  have f17 := f7.other W14 (Or.inr (slot_ne (Or.inl (hw _ (List.mem_of_getElem? (i := 20) rfl))) (Or.inl (hw _ (List.mem_of_getElem? (i := 27) rfl))) (by decide) (t := .int) (t' := .long) (by decide) (by decide)))
  have f18 := f8.same W14
  have f19 := f9.other W14 (Ne.symm ne_s_ar)
  have f20 := Nat.le_trans f10 (Keep.of_wr W14).1
  have N14 := Fr.snoc X14 N4 g_s
  refine bk (fun t k => st14 t k) ?_
  refine bk (fun t k => XS.goto X14.here hx rfl (pc0 := 41) (pc' := 0) rfl (hb hby d5_41) (by decide) (by decide) k) ?_
  refine bk (fun t k => XS.aloadN X14.here hx rfl (hb hby d5_0) rfl rfl k) ?_
  show F (T14.setTop (mkF m 1 #[.val (.ref o0)] [(.ref o0)]))
  obtain ⟨T21, X21, e21, st21⟩ := getF X14 hx hZ hown (host := "") (Or.inl (hw _ (List.mem_of_getElem? (i := 26) rfl))) Via.refl e14 f18 (g := (mkF m 1 #[.val (.ref o0)] [(.ref o0)])) rfl rfl (hb hby d5_1)
  refine bk (fun t k => st21 t k) ?_
  refine bk (fun t k => XS.lconst X21.here hx rfl (hb hby d5_4) k) ?_
  show F (T21.setTop (mkF m 5 #[.val (.ref o0)] [(.long (0 : Int64)), (.long u0)]))
  refine bk (fun t k => XS.lcmp X21.here hx rfl (hb hby d5_5) rfl k) ?_
  show F (T21.setTop (mkF m 6 #[.val (.ref o0)] [(.int (lcmpW u0 (0 : Int64)))]))
  refine bk (fun t k => XS.ifYes X21.here hx rfl (pc0 := 6) (pc' := 44) rfl (hb hby d5_6) rfl ((if0 _ _).trans (feq (fun q => he0 ((lw_eq _ _).mp q))).2) (by decide) (by decide) k) ?_
  refine bk (fun t k => XS.iconst X21.here hx rfl (hb hby d5_44) k) ?_
  show F (T21.setTop (mkF m 45 #[.val (.ref o0)] [(.int (1 : Int32))]))
  rw [hF]
  refine own_retZ X21 hx Bd.notSynchronized Bd.returns (hb hby d5_45) (by decide) (by decide) ?_
  rw [e21]
  exact ⟨rfl, N14, f20, ⟨f15, f16, f17, f18, f19⟩⟩
def Q5Z1n (Z : State) (o0 : Addr) (ar : Addr) (kk : ClassId) (z : Int32) (u0 : Int64) (u1 : Int64) (u2 : Int64) (h0 : Heap) (n0 : Nat) (v : Option Value) (h : Heap) (L : List Loc) : Prop := v = some (.int (0 : Int32)) ∧ Fr n0 L ∧ n0 ≤ h.size ∧ own_S Z h o0 ar kk z (0 : Int32) u0 u0 u1 u2
set_option maxRecDepth 65536 in
set_option maxHeartbeats 40000000 in
theorem rm5Z1n (l : Launch) (Z : State) (a0 : Array Value) (hw : ∀ d ∈ tables_1, d.before a0 Z = true) (ws : List Jvm.Cond) (o0 : Addr) (ar : Addr) (kk : ClassId) (z : Int32) (u0 : Int64) (u1 : Int64) (u2 : Int64) (h0 : Heap) (n0 : Nat) (Z0 : n0 ≤ h0.size) (P0 : own_S Z h0 o0 ar kk z (1 : Int32) (0 : Int64) u0 u1 u2) (g_s : n0 ≤ o0) (ne_s_ar : o0 ≠ ar) (hz0 : (0 : Int32) < z) (he0 : u0 = (0 : Int64)) :
    MetFree l (⟨"com/example/lone1/lone1/solve/SweepOrder", "hasNext", "()Z"⟩ : MethodName) (head1 (Jvm.Cond.code (⟨"com/example/lone1/lone1/solve/SweepOrder", "hasNext", "()Z"⟩ : MethodName) prog_114_method_2_code 1 (some .boolean) :: ws) ({ frames := 0, cells := 0, slots := 0, locals := 0 } : Room)) (fun a U => a = #[(.ref o0)] ∧ Z.Warmed39 U.vm ∧ U.heap = h0) (fun _ _ _ _ _ => True) (fun _ U o U' => ∃ v L, o = .returned v ∧ Q5Z1n Z o0 ar kk z u0 u1 u2 h0 n0 v U'.heap L ∧ FrameEnd U o U' L ({ frames := 0, cells := 0, slots := 0, locals := 0 } : Room).cells ({ frames := 0, cells := 0, slots := 0, locals := 0 } : Room).slots) := by
  refine MetFree.of_bodySF (plainFor_of_name pn_5) hisR ?_
  intro p e s m args below meth c s₁ Bd hml0 hP hK
  obtain ⟨rfl, hZ, hh⟩ := hP
  have hx := Bd.exec
  have hby := Bd.bytes
  have hml : c.maxLocals = 1 := hml0
  have hown : s.vm.findClass "com/example/lone1/lone1/solve/SweepOrder" = some m.cls := findClass_of_methodNamed Bd.named
  have hnm := (name_of_methodNamed Bd.named Bd.method).1
  have X0 : Stand p l e ({ frames := 0, cells := 0, slots := 0, locals := 0 } : Room) s m #[(.ref o0)] below meth c s₁ [] 0 0 := Stand.of_body Bd
  have e0 : s₁.heap = h0 := by rw [← hh, Bd.state]; rfl
  have N0 := Fr.nil n0
  obtain ⟨F, hF⟩ : ∃ F : State → Prop, F = own_Fin p e below s ({ frames := 0, cells := 0, slots := 0, locals := 0 } : Room).cells ({ frames := 0, cells := 0, slots := 0, locals := 0 } : Room).slots (fun v h L => Q5Z1n Z o0 ar kk z u0 u1 u2 h0 n0 v h L) := ⟨_, rfl⟩
  have bk : ∀ {A B : State}, (∀ t, Steps p.tables e below B t → Steps p.tables e below A t) → F B → F A := by
    intro A B h k
    rw [hF] at k ⊢
    exact own_back h k
  suffices hgo : F (s₁.setTop (mkF m 0 #[.val (.ref o0)] [])) by
    have hgo' := bk (fun t k => castTop (T := s₁) (ef_5 m o0) k) hgo
    rw [hF] at hgo'
    exact hgo'
  obtain ⟨E_s, F_words, F_at, F_word, V_ar⟩ := P0
  refine bk (fun t k => XS.aloadN X0.here hx rfl (hb hby d5_0) rfl rfl k) ?_
  show F (s₁.setTop (mkF m 1 #[.val (.ref o0)] [(.ref o0)]))
  obtain ⟨T1, X1, e1, st1⟩ := getF X0 hx hZ hown (host := "") (Or.inl (hw _ (List.mem_of_getElem? (i := 26) rfl))) Via.refl e0 F_word (g := (mkF m 1 #[.val (.ref o0)] [(.ref o0)])) rfl rfl (hb hby d5_1)
  refine bk (fun t k => st1 t k) ?_
  refine bk (fun t k => XS.lconst X1.here hx rfl (hb hby d5_4) k) ?_
  show F (T1.setTop (mkF m 5 #[.val (.ref o0)] [(.long (0 : Int64)), (.long (0 : Int64))]))
  refine bk (fun t k => XS.lcmp X1.here hx rfl (hb hby d5_5) rfl k) ?_
  show F (T1.setTop (mkF m 6 #[.val (.ref o0)] [(.int (lcmpW (0 : Int64) (0 : Int64)))]))
  refine bk (fun t k => XS.ifNo X1.here hx rfl (hb hby d5_6) rfl ((if0 _ _).trans (teq ((lw_eq _ _).mpr (by decide : (0 : Int64) = (0 : Int64)))).2) k) ?_
  refine bk (fun t k => XS.aloadN X1.here hx rfl (hb hby d5_9) rfl rfl k) ?_
  show F (T1.setTop (mkF m 10 #[.val (.ref o0)] [(.ref o0)]))
  obtain ⟨T2, X2, e2, st2⟩ := getF X1 hx hZ hown (host := "") (Or.inl (hw _ (List.mem_of_getElem? (i := 19) rfl))) Via.refl e1 F_at (g := (mkF m 10 #[.val (.ref o0)] [(.ref o0)])) rfl rfl (hb hby d5_10)
  refine bk (fun t k => st2 t k) ?_
  show F (T2.setTop (mkF m 13 #[.val (.ref o0)] [(.int (1 : Int32))]))
  refine bk (fun t k => XS.ifYes X2.here hx rfl (pc0 := 13) (pc' := 18) rfl (hb hby d5_13) rfl ((if0 _ _).trans (feq (by decide : ¬ ((1 : Int32) = (0 : Int32)))).2) (by decide) (by decide) k) ?_
  refine bk (fun t k => XS.aloadN X2.here hx rfl (hb hby d5_18) rfl rfl k) ?_
  refine bk (fun t k => XS.dup X2.here hx rfl (hb hby d5_19) rfl rfl k) ?_
  show F (T2.setTop (mkF m 20 #[.val (.ref o0)] [(.ref o0), (.ref o0)]))
  obtain ⟨T3, X3, e3, st3⟩ := getF X2 hx hZ hown (host := "") (Or.inl (hw _ (List.mem_of_getElem? (i := 19) rfl))) Via.refl e2 F_at (g := (mkF m 20 #[.val (.ref o0)] [(.ref o0), (.ref o0)])) rfl rfl (hb hby d5_20)
  refine bk (fun t k => st3 t k) ?_
  refine bk (fun t k => XS.iconst X3.here hx rfl (hb hby d5_23) k) ?_
  show F (T3.setTop (mkF m 24 #[.val (.ref o0)] [(.int (1 : Int32)), (.int (1 : Int32)), (.ref o0)]))
  refine bk (fun t k => XS.isub X3.here hx rfl (hb hby d5_24) rfl k) ?_
  show F (T3.setTop (mkF m 25 #[.val (.ref o0)] [(.int (0 : Int32)), (.ref o0)]))
  obtain ⟨T4, h4, X4, e4, W4, st4⟩ := putF X3 hx hZ hown (host := "") (Or.inl (hw _ (List.mem_of_getElem? (i := 19) rfl))) Via.refl e3 F_at E_s (Or.inl (hw _ (List.mem_of_getElem? (i := 20) rfl))) (hw _ (List.mem_of_getElem? (i := 9) rfl)) (ty := .int) (by decide) rfl rfl (g := (mkF m 25 #[.val (.ref o0)] [(.int (0 : Int32)), (.ref o0)])) rfl rfl (hb hby d5_25)
  have f5 := E_s.wr W4
  have f6 := F_words.other W4 (Or.inr (slot_ne (Or.inr (hw _ (List.mem_of_getElem? (i := 18) rfl))) (Or.inl (hw _ (List.mem_of_getElem? (i := 20) rfl))) (by decide) (t := (.array .long)) (t' := .int) (by decide) (by decide)))
  have f7 := F_at.same W4
  have f8 := F_word.other W4 (Or.inr (slot_ne (Or.inl (hw _ (List.mem_of_getElem? (i := 27) rfl))) (Or.inl (hw _ (List.mem_of_getElem? (i := 20) rfl))) (by decide) (t := .long) (t' := .int) (by decide) (by decide)))
  have f9 := V_ar.other W4 (Ne.symm ne_s_ar)
  have f10 := Nat.le_trans Z0 (Keep.of_wr W4).1
  have N4 := Fr.snoc X4 N0 g_s
  refine bk (fun t k => st4 t k) ?_
  refine bk (fun t k => XS.aloadN X4.here hx rfl (hb hby d5_28) rfl rfl k) ?_
  refine bk (fun t k => XS.aloadN X4.here hx rfl (hb hby d5_29) rfl rfl k) ?_
  show F (T4.setTop (mkF m 30 #[.val (.ref o0)] [(.ref o0), (.ref o0)]))
  obtain ⟨T11, X11, e11, st11⟩ := getF X4 hx hZ hown (host := "") (Or.inl (hw _ (List.mem_of_getElem? (i := 17) rfl))) Via.refl e4 f6 (g := (mkF m 30 #[.val (.ref o0)] [(.ref o0), (.ref o0)])) rfl rfl (hb hby d5_30)
  refine bk (fun t k => st11 t k) ?_
  refine bk (fun t k => XS.aloadN X11.here hx rfl (hb hby d5_33) rfl rfl k) ?_
  show F (T11.setTop (mkF m 34 #[.val (.ref o0)] [(.ref o0), (.ref ar), (.ref o0)]))
  obtain ⟨T12, X12, e12, st12⟩ := getF X11 hx hZ hown (host := "") (Or.inl (hw _ (List.mem_of_getElem? (i := 19) rfl))) Via.refl e11 f7 (g := (mkF m 34 #[.val (.ref o0)] [(.ref o0), (.ref ar), (.ref o0)])) rfl rfl (hb hby d5_34)
  refine bk (fun t k => st12 t k) ?_
  show F (T12.setTop (mkF m 37 #[.val (.ref o0)] [(.int (0 : Int32)), (.ref ar), (.ref o0)]))
  have vv13 := f9
  obtain ⟨cl13, Ar13, q13, S13, M13, H13, G13⟩ := vv13
  have hin13 : ¬ ((0 : Int32) < 0 ∨ cl13.slots.size ≤ ((0 : Int32)).toNatClampNeg) := inb_of S13 ⟨by decide, hz0⟩
  refine bk (fun t k => X12.laload hx (j := (0 : Int32)) (v := (.long u0)) (by rw [e12]; exact Ar13.1) (State.isArrayOf_alike hZ.alike Ar13.2.1) Ar13.2.2 hin13 (Has.at H13 hin13 rfl) (g := (mkF m 37 #[.val (.ref o0)] [(.int (0 : Int32)), (.ref ar), (.ref o0)])) rfl rfl (hb hby d5_37) t k) ?_
  show F (T12.setTop (mkF m 38 #[.val (.ref o0)] [(.long u0), (.ref o0)]))
  obtain ⟨T14, h14, X14, e14, W14, st14⟩ := putF X12 hx hZ hown (host := "") (Or.inl (hw _ (List.mem_of_getElem? (i := 26) rfl))) Via.refl e12 f8 f5 (Or.inl (hw _ (List.mem_of_getElem? (i := 27) rfl))) (hw _ (List.mem_of_getElem? (i := 9) rfl)) (ty := .long) (by decide) rfl rfl (g := (mkF m 38 #[.val (.ref o0)] [(.long u0), (.ref o0)])) rfl rfl (hb hby d5_38)
  have f15 := f5.wr W14
  have f16 := f6.other W14 (Or.inr (slot_ne (Or.inr (hw _ (List.mem_of_getElem? (i := 18) rfl))) (Or.inl (hw _ (List.mem_of_getElem? (i := 27) rfl))) (by decide) (t := (.array .long)) (t' := .long) (by decide) (by decide)))
  have f17 := f7.other W14 (Or.inr (slot_ne (Or.inl (hw _ (List.mem_of_getElem? (i := 20) rfl))) (Or.inl (hw _ (List.mem_of_getElem? (i := 27) rfl))) (by decide) (t := .int) (t' := .long) (by decide) (by decide)))
  have f18 := f8.same W14
  have f19 := f9.other W14 (Ne.symm ne_s_ar)
  have f20 := Nat.le_trans f10 (Keep.of_wr W14).1
  have N14 := Fr.snoc X14 N4 g_s
  refine bk (fun t k => st14 t k) ?_
  refine bk (fun t k => XS.goto X14.here hx rfl (pc0 := 41) (pc' := 0) rfl (hb hby d5_41) (by decide) (by decide) k) ?_
  refine bk (fun t k => XS.aloadN X14.here hx rfl (hb hby d5_0) rfl rfl k) ?_
  show F (T14.setTop (mkF m 1 #[.val (.ref o0)] [(.ref o0)]))
  obtain ⟨T21, X21, e21, st21⟩ := getF X14 hx hZ hown (host := "") (Or.inl (hw _ (List.mem_of_getElem? (i := 26) rfl))) Via.refl e14 f18 (g := (mkF m 1 #[.val (.ref o0)] [(.ref o0)])) rfl rfl (hb hby d5_1)
  refine bk (fun t k => st21 t k) ?_
  refine bk (fun t k => XS.lconst X21.here hx rfl (hb hby d5_4) k) ?_
  show F (T21.setTop (mkF m 5 #[.val (.ref o0)] [(.long (0 : Int64)), (.long u0)]))
  refine bk (fun t k => XS.lcmp X21.here hx rfl (hb hby d5_5) rfl k) ?_
  show F (T21.setTop (mkF m 6 #[.val (.ref o0)] [(.int (lcmpW u0 (0 : Int64)))]))
  refine bk (fun t k => XS.ifNo X21.here hx rfl (hb hby d5_6) rfl ((if0 _ _).trans (teq ((lw_eq _ _).mpr he0)).2) k) ?_
  refine bk (fun t k => XS.aloadN X21.here hx rfl (hb hby d5_9) rfl rfl k) ?_
  show F (T21.setTop (mkF m 10 #[.val (.ref o0)] [(.ref o0)]))
  obtain ⟨T22, X22, e22, st22⟩ := getF X21 hx hZ hown (host := "") (Or.inl (hw _ (List.mem_of_getElem? (i := 19) rfl))) Via.refl e21 f17 (g := (mkF m 10 #[.val (.ref o0)] [(.ref o0)])) rfl rfl (hb hby d5_10)
  refine bk (fun t k => st22 t k) ?_
  show F (T22.setTop (mkF m 13 #[.val (.ref o0)] [(.int (0 : Int32))]))
  refine bk (fun t k => XS.ifNo X22.here hx rfl (hb hby d5_13) rfl ((if0 _ _).trans (teq (by decide : (0 : Int32) = (0 : Int32))).2) k) ?_
  refine bk (fun t k => XS.iconst X22.here hx rfl (hb hby d5_16) k) ?_
  show F (T22.setTop (mkF m 17 #[.val (.ref o0)] [(.int (0 : Int32))]))
  rw [hF]
  refine own_retZ X22 hx Bd.notSynchronized Bd.returns (hb hby d5_17) (by decide) (by decide) ?_
  rw [e22]
  exact ⟨rfl, N14, f20, ⟨f15, f16, f17, f18, f19⟩⟩
def Q5Z21 (Z : State) (o0 : Addr) (ar : Addr) (kk : ClassId) (z : Int32) (u0 : Int64) (u1 : Int64) (u2 : Int64) (h0 : Heap) (n0 : Nat) (v : Option Value) (h : Heap) (L : List Loc) : Prop := v = some (.int (1 : Int32)) ∧ Fr n0 L ∧ n0 ≤ h.size ∧ own_S Z h o0 ar kk z (1 : Int32) u1 u0 u1 u2
set_option maxRecDepth 65536 in
set_option maxHeartbeats 40000000 in
theorem rm5Z21 (l : Launch) (Z : State) (a0 : Array Value) (hw : ∀ d ∈ tables_1, d.before a0 Z = true) (ws : List Jvm.Cond) (o0 : Addr) (ar : Addr) (kk : ClassId) (z : Int32) (u0 : Int64) (u1 : Int64) (u2 : Int64) (h0 : Heap) (n0 : Nat) (Z0 : n0 ≤ h0.size) (P0 : own_S Z h0 o0 ar kk z (2 : Int32) (0 : Int64) u0 u1 u2) (g_s : n0 ≤ o0) (ne_s_ar : o0 ≠ ar) (hz0 : (0 : Int32) < z) (hz1 : (1 : Int32) < z) (he1 : ¬ u1 = (0 : Int64)) :
    MetFree l (⟨"com/example/lone1/lone1/solve/SweepOrder", "hasNext", "()Z"⟩ : MethodName) (head1 (Jvm.Cond.code (⟨"com/example/lone1/lone1/solve/SweepOrder", "hasNext", "()Z"⟩ : MethodName) prog_114_method_2_code 1 (some .boolean) :: ws) ({ frames := 0, cells := 0, slots := 0, locals := 0 } : Room)) (fun a U => a = #[(.ref o0)] ∧ Z.Warmed39 U.vm ∧ U.heap = h0) (fun _ _ _ _ _ => True) (fun _ U o U' => ∃ v L, o = .returned v ∧ Q5Z21 Z o0 ar kk z u0 u1 u2 h0 n0 v U'.heap L ∧ FrameEnd U o U' L ({ frames := 0, cells := 0, slots := 0, locals := 0 } : Room).cells ({ frames := 0, cells := 0, slots := 0, locals := 0 } : Room).slots) := by
  refine MetFree.of_bodySF (plainFor_of_name pn_5) hisR ?_
  intro p e s m args below meth c s₁ Bd hml0 hP hK
  obtain ⟨rfl, hZ, hh⟩ := hP
  have hx := Bd.exec
  have hby := Bd.bytes
  have hml : c.maxLocals = 1 := hml0
  have hown : s.vm.findClass "com/example/lone1/lone1/solve/SweepOrder" = some m.cls := findClass_of_methodNamed Bd.named
  have hnm := (name_of_methodNamed Bd.named Bd.method).1
  have X0 : Stand p l e ({ frames := 0, cells := 0, slots := 0, locals := 0 } : Room) s m #[(.ref o0)] below meth c s₁ [] 0 0 := Stand.of_body Bd
  have e0 : s₁.heap = h0 := by rw [← hh, Bd.state]; rfl
  have N0 := Fr.nil n0
  obtain ⟨F, hF⟩ : ∃ F : State → Prop, F = own_Fin p e below s ({ frames := 0, cells := 0, slots := 0, locals := 0 } : Room).cells ({ frames := 0, cells := 0, slots := 0, locals := 0 } : Room).slots (fun v h L => Q5Z21 Z o0 ar kk z u0 u1 u2 h0 n0 v h L) := ⟨_, rfl⟩
  have bk : ∀ {A B : State}, (∀ t, Steps p.tables e below B t → Steps p.tables e below A t) → F B → F A := by
    intro A B h k
    rw [hF] at k ⊢
    exact own_back h k
  suffices hgo : F (s₁.setTop (mkF m 0 #[.val (.ref o0)] [])) by
    have hgo' := bk (fun t k => castTop (T := s₁) (ef_5 m o0) k) hgo
    rw [hF] at hgo'
    exact hgo'
  obtain ⟨E_s, F_words, F_at, F_word, V_ar⟩ := P0
  refine bk (fun t k => XS.aloadN X0.here hx rfl (hb hby d5_0) rfl rfl k) ?_
  show F (s₁.setTop (mkF m 1 #[.val (.ref o0)] [(.ref o0)]))
  obtain ⟨T1, X1, e1, st1⟩ := getF X0 hx hZ hown (host := "") (Or.inl (hw _ (List.mem_of_getElem? (i := 26) rfl))) Via.refl e0 F_word (g := (mkF m 1 #[.val (.ref o0)] [(.ref o0)])) rfl rfl (hb hby d5_1)
  refine bk (fun t k => st1 t k) ?_
  refine bk (fun t k => XS.lconst X1.here hx rfl (hb hby d5_4) k) ?_
  show F (T1.setTop (mkF m 5 #[.val (.ref o0)] [(.long (0 : Int64)), (.long (0 : Int64))]))
  refine bk (fun t k => XS.lcmp X1.here hx rfl (hb hby d5_5) rfl k) ?_
  show F (T1.setTop (mkF m 6 #[.val (.ref o0)] [(.int (lcmpW (0 : Int64) (0 : Int64)))]))
  refine bk (fun t k => XS.ifNo X1.here hx rfl (hb hby d5_6) rfl ((if0 _ _).trans (teq ((lw_eq _ _).mpr (by decide : (0 : Int64) = (0 : Int64)))).2) k) ?_
  refine bk (fun t k => XS.aloadN X1.here hx rfl (hb hby d5_9) rfl rfl k) ?_
  show F (T1.setTop (mkF m 10 #[.val (.ref o0)] [(.ref o0)]))
  obtain ⟨T2, X2, e2, st2⟩ := getF X1 hx hZ hown (host := "") (Or.inl (hw _ (List.mem_of_getElem? (i := 19) rfl))) Via.refl e1 F_at (g := (mkF m 10 #[.val (.ref o0)] [(.ref o0)])) rfl rfl (hb hby d5_10)
  refine bk (fun t k => st2 t k) ?_
  show F (T2.setTop (mkF m 13 #[.val (.ref o0)] [(.int (2 : Int32))]))
  refine bk (fun t k => XS.ifYes X2.here hx rfl (pc0 := 13) (pc' := 18) rfl (hb hby d5_13) rfl ((if0 _ _).trans (feq (by decide : ¬ ((2 : Int32) = (0 : Int32)))).2) (by decide) (by decide) k) ?_
  refine bk (fun t k => XS.aloadN X2.here hx rfl (hb hby d5_18) rfl rfl k) ?_
  refine bk (fun t k => XS.dup X2.here hx rfl (hb hby d5_19) rfl rfl k) ?_
  show F (T2.setTop (mkF m 20 #[.val (.ref o0)] [(.ref o0), (.ref o0)]))
  obtain ⟨T3, X3, e3, st3⟩ := getF X2 hx hZ hown (host := "") (Or.inl (hw _ (List.mem_of_getElem? (i := 19) rfl))) Via.refl e2 F_at (g := (mkF m 20 #[.val (.ref o0)] [(.ref o0), (.ref o0)])) rfl rfl (hb hby d5_20)
  refine bk (fun t k => st3 t k) ?_
  refine bk (fun t k => XS.iconst X3.here hx rfl (hb hby d5_23) k) ?_
  show F (T3.setTop (mkF m 24 #[.val (.ref o0)] [(.int (1 : Int32)), (.int (2 : Int32)), (.ref o0)]))
  refine bk (fun t k => XS.isub X3.here hx rfl (hb hby d5_24) rfl k) ?_
  show F (T3.setTop (mkF m 25 #[.val (.ref o0)] [(.int (1 : Int32)), (.ref o0)]))
  obtain ⟨T4, h4, X4, e4, W4, st4⟩ := putF X3 hx hZ hown (host := "") (Or.inl (hw _ (List.mem_of_getElem? (i := 19) rfl))) Via.refl e3 F_at E_s (Or.inl (hw _ (List.mem_of_getElem? (i := 20) rfl))) (hw _ (List.mem_of_getElem? (i := 9) rfl)) (ty := .int) (by decide) rfl rfl (g := (mkF m 25 #[.val (.ref o0)] [(.int (1 : Int32)), (.ref o0)])) rfl rfl (hb hby d5_25)
  have f5 := E_s.wr W4
  have f6 := F_words.other W4 (Or.inr (slot_ne (Or.inr (hw _ (List.mem_of_getElem? (i := 18) rfl))) (Or.inl (hw _ (List.mem_of_getElem? (i := 20) rfl))) (by decide) (t := (.array .long)) (t' := .int) (by decide) (by decide)))
  have f7 := F_at.same W4
  have f8 := F_word.other W4 (Or.inr (slot_ne (Or.inl (hw _ (List.mem_of_getElem? (i := 27) rfl))) (Or.inl (hw _ (List.mem_of_getElem? (i := 20) rfl))) (by decide) (t := .long) (t' := .int) (by decide) (by decide)))
  have f9 := V_ar.other W4 (Ne.symm ne_s_ar)
  have f10 := Nat.le_trans Z0 (Keep.of_wr W4).1
  have N4 := Fr.snoc X4 N0 g_s
  refine bk (fun t k => st4 t k) ?_
  refine bk (fun t k => XS.aloadN X4.here hx rfl (hb hby d5_28) rfl rfl k) ?_
  refine bk (fun t k => XS.aloadN X4.here hx rfl (hb hby d5_29) rfl rfl k) ?_
  show F (T4.setTop (mkF m 30 #[.val (.ref o0)] [(.ref o0), (.ref o0)]))
  obtain ⟨T11, X11, e11, st11⟩ := getF X4 hx hZ hown (host := "") (Or.inl (hw _ (List.mem_of_getElem? (i := 17) rfl))) Via.refl e4 f6 (g := (mkF m 30 #[.val (.ref o0)] [(.ref o0), (.ref o0)])) rfl rfl (hb hby d5_30)
  refine bk (fun t k => st11 t k) ?_
  refine bk (fun t k => XS.aloadN X11.here hx rfl (hb hby d5_33) rfl rfl k) ?_
  show F (T11.setTop (mkF m 34 #[.val (.ref o0)] [(.ref o0), (.ref ar), (.ref o0)]))
  obtain ⟨T12, X12, e12, st12⟩ := getF X11 hx hZ hown (host := "") (Or.inl (hw _ (List.mem_of_getElem? (i := 19) rfl))) Via.refl e11 f7 (g := (mkF m 34 #[.val (.ref o0)] [(.ref o0), (.ref ar), (.ref o0)])) rfl rfl (hb hby d5_34)
  refine bk (fun t k => st12 t k) ?_
  show F (T12.setTop (mkF m 37 #[.val (.ref o0)] [(.int (1 : Int32)), (.ref ar), (.ref o0)]))
  have vv13 := f9
  obtain ⟨cl13, Ar13, q13, S13, M13, H13, G13⟩ := vv13
  have hin13 : ¬ ((1 : Int32) < 0 ∨ cl13.slots.size ≤ ((1 : Int32)).toNatClampNeg) := inb_of S13 ⟨by decide, hz1⟩
  refine bk (fun t k => X12.laload hx (j := (1 : Int32)) (v := (.long u1)) (by rw [e12]; exact Ar13.1) (State.isArrayOf_alike hZ.alike Ar13.2.1) Ar13.2.2 hin13 (Has.at H13 hin13 rfl) (g := (mkF m 37 #[.val (.ref o0)] [(.int (1 : Int32)), (.ref ar), (.ref o0)])) rfl rfl (hb hby d5_37) t k) ?_
  show F (T12.setTop (mkF m 38 #[.val (.ref o0)] [(.long u1), (.ref o0)]))
  obtain ⟨T14, h14, X14, e14, W14, st14⟩ := putF X12 hx hZ hown (host := "") (Or.inl (hw _ (List.mem_of_getElem? (i := 26) rfl))) Via.refl e12 f8 f5 (Or.inl (hw _ (List.mem_of_getElem? (i := 27) rfl))) (hw _ (List.mem_of_getElem? (i := 9) rfl)) (ty := .long) (by decide) rfl rfl (g := (mkF m 38 #[.val (.ref o0)] [(.long u1), (.ref o0)])) rfl rfl (hb hby d5_38)
  have f15 := f5.wr W14
  have f16 := f6.other W14 (Or.inr (slot_ne (Or.inr (hw _ (List.mem_of_getElem? (i := 18) rfl))) (Or.inl (hw _ (List.mem_of_getElem? (i := 27) rfl))) (by decide) (t := (.array .long)) (t' := .long) (by decide) (by decide)))
  have f17 := f7.other W14 (Or.inr (slot_ne (Or.inl (hw _ (List.mem_of_getElem? (i := 20) rfl))) (Or.inl (hw _ (List.mem_of_getElem? (i := 27) rfl))) (by decide) (t := .int) (t' := .long) (by decide) (by decide)))
  have f18 := f8.same W14
  have f19 := f9.other W14 (Ne.symm ne_s_ar)
  have f20 := Nat.le_trans f10 (Keep.of_wr W14).1
  have N14 := Fr.snoc X14 N4 g_s
  refine bk (fun t k => st14 t k) ?_
  refine bk (fun t k => XS.goto X14.here hx rfl (pc0 := 41) (pc' := 0) rfl (hb hby d5_41) (by decide) (by decide) k) ?_
  refine bk (fun t k => XS.aloadN X14.here hx rfl (hb hby d5_0) rfl rfl k) ?_
  show F (T14.setTop (mkF m 1 #[.val (.ref o0)] [(.ref o0)]))
  obtain ⟨T21, X21, e21, st21⟩ := getF X14 hx hZ hown (host := "") (Or.inl (hw _ (List.mem_of_getElem? (i := 26) rfl))) Via.refl e14 f18 (g := (mkF m 1 #[.val (.ref o0)] [(.ref o0)])) rfl rfl (hb hby d5_1)
  refine bk (fun t k => st21 t k) ?_
  refine bk (fun t k => XS.lconst X21.here hx rfl (hb hby d5_4) k) ?_
  show F (T21.setTop (mkF m 5 #[.val (.ref o0)] [(.long (0 : Int64)), (.long u1)]))
  refine bk (fun t k => XS.lcmp X21.here hx rfl (hb hby d5_5) rfl k) ?_
  show F (T21.setTop (mkF m 6 #[.val (.ref o0)] [(.int (lcmpW u1 (0 : Int64)))]))
  refine bk (fun t k => XS.ifYes X21.here hx rfl (pc0 := 6) (pc' := 44) rfl (hb hby d5_6) rfl ((if0 _ _).trans (feq (fun q => he1 ((lw_eq _ _).mp q))).2) (by decide) (by decide) k) ?_
  refine bk (fun t k => XS.iconst X21.here hx rfl (hb hby d5_44) k) ?_
  show F (T21.setTop (mkF m 45 #[.val (.ref o0)] [(.int (1 : Int32))]))
  rw [hF]
  refine own_retZ X21 hx Bd.notSynchronized Bd.returns (hb hby d5_45) (by decide) (by decide) ?_
  rw [e21]
  exact ⟨rfl, N14, f20, ⟨f15, f16, f17, f18, f19⟩⟩
def Q5Z20 (Z : State) (o0 : Addr) (ar : Addr) (kk : ClassId) (z : Int32) (u0 : Int64) (u1 : Int64) (u2 : Int64) (h0 : Heap) (n0 : Nat) (v : Option Value) (h : Heap) (L : List Loc) : Prop := v = some (.int (1 : Int32)) ∧ Fr n0 L ∧ n0 ≤ h.size ∧ own_S Z h o0 ar kk z (0 : Int32) u0 u0 u1 u2
set_option maxRecDepth 65536 in
set_option maxHeartbeats 40000000 in
theorem rm5Z20 (l : Launch) (Z : State) (a0 : Array Value) (hw : ∀ d ∈ tables_1, d.before a0 Z = true) (ws : List Jvm.Cond) (o0 : Addr) (ar : Addr) (kk : ClassId) (z : Int32) (u0 : Int64) (u1 : Int64) (u2 : Int64) (h0 : Heap) (n0 : Nat) (Z0 : n0 ≤ h0.size) (P0 : own_S Z h0 o0 ar kk z (2 : Int32) (0 : Int64) u0 u1 u2) (g_s : n0 ≤ o0) (ne_s_ar : o0 ≠ ar) (hz0 : (0 : Int32) < z) (hz1 : (1 : Int32) < z) (he1 : u1 = (0 : Int64)) (he0 : ¬ u0 = (0 : Int64)) :
    MetFree l (⟨"com/example/lone1/lone1/solve/SweepOrder", "hasNext", "()Z"⟩ : MethodName) (head1 (Jvm.Cond.code (⟨"com/example/lone1/lone1/solve/SweepOrder", "hasNext", "()Z"⟩ : MethodName) prog_114_method_2_code 1 (some .boolean) :: ws) ({ frames := 0, cells := 0, slots := 0, locals := 0 } : Room)) (fun a U => a = #[(.ref o0)] ∧ Z.Warmed39 U.vm ∧ U.heap = h0) (fun _ _ _ _ _ => True) (fun _ U o U' => ∃ v L, o = .returned v ∧ Q5Z20 Z o0 ar kk z u0 u1 u2 h0 n0 v U'.heap L ∧ FrameEnd U o U' L ({ frames := 0, cells := 0, slots := 0, locals := 0 } : Room).cells ({ frames := 0, cells := 0, slots := 0, locals := 0 } : Room).slots) := by
  refine MetFree.of_bodySF (plainFor_of_name pn_5) hisR ?_
  intro p e s m args below meth c s₁ Bd hml0 hP hK
  obtain ⟨rfl, hZ, hh⟩ := hP
  have hx := Bd.exec
  have hby := Bd.bytes
  have hml : c.maxLocals = 1 := hml0
  have hown : s.vm.findClass "com/example/lone1/lone1/solve/SweepOrder" = some m.cls := findClass_of_methodNamed Bd.named
  have hnm := (name_of_methodNamed Bd.named Bd.method).1
  have X0 : Stand p l e ({ frames := 0, cells := 0, slots := 0, locals := 0 } : Room) s m #[(.ref o0)] below meth c s₁ [] 0 0 := Stand.of_body Bd
  have e0 : s₁.heap = h0 := by rw [← hh, Bd.state]; rfl
  have N0 := Fr.nil n0
  obtain ⟨F, hF⟩ : ∃ F : State → Prop, F = own_Fin p e below s ({ frames := 0, cells := 0, slots := 0, locals := 0 } : Room).cells ({ frames := 0, cells := 0, slots := 0, locals := 0 } : Room).slots (fun v h L => Q5Z20 Z o0 ar kk z u0 u1 u2 h0 n0 v h L) := ⟨_, rfl⟩
  have bk : ∀ {A B : State}, (∀ t, Steps p.tables e below B t → Steps p.tables e below A t) → F B → F A := by
    intro A B h k
    rw [hF] at k ⊢
    exact own_back h k
  suffices hgo : F (s₁.setTop (mkF m 0 #[.val (.ref o0)] [])) by
    have hgo' := bk (fun t k => castTop (T := s₁) (ef_5 m o0) k) hgo
    rw [hF] at hgo'
    exact hgo'
  obtain ⟨E_s, F_words, F_at, F_word, V_ar⟩ := P0
  refine bk (fun t k => XS.aloadN X0.here hx rfl (hb hby d5_0) rfl rfl k) ?_
  show F (s₁.setTop (mkF m 1 #[.val (.ref o0)] [(.ref o0)]))
  obtain ⟨T1, X1, e1, st1⟩ := getF X0 hx hZ hown (host := "") (Or.inl (hw _ (List.mem_of_getElem? (i := 26) rfl))) Via.refl e0 F_word (g := (mkF m 1 #[.val (.ref o0)] [(.ref o0)])) rfl rfl (hb hby d5_1)
  refine bk (fun t k => st1 t k) ?_
  refine bk (fun t k => XS.lconst X1.here hx rfl (hb hby d5_4) k) ?_
  show F (T1.setTop (mkF m 5 #[.val (.ref o0)] [(.long (0 : Int64)), (.long (0 : Int64))]))
  refine bk (fun t k => XS.lcmp X1.here hx rfl (hb hby d5_5) rfl k) ?_
  show F (T1.setTop (mkF m 6 #[.val (.ref o0)] [(.int (lcmpW (0 : Int64) (0 : Int64)))]))
  refine bk (fun t k => XS.ifNo X1.here hx rfl (hb hby d5_6) rfl ((if0 _ _).trans (teq ((lw_eq _ _).mpr (by decide : (0 : Int64) = (0 : Int64)))).2) k) ?_
  refine bk (fun t k => XS.aloadN X1.here hx rfl (hb hby d5_9) rfl rfl k) ?_
  show F (T1.setTop (mkF m 10 #[.val (.ref o0)] [(.ref o0)]))
  obtain ⟨T2, X2, e2, st2⟩ := getF X1 hx hZ hown (host := "") (Or.inl (hw _ (List.mem_of_getElem? (i := 19) rfl))) Via.refl e1 F_at (g := (mkF m 10 #[.val (.ref o0)] [(.ref o0)])) rfl rfl (hb hby d5_10)
  refine bk (fun t k => st2 t k) ?_
  show F (T2.setTop (mkF m 13 #[.val (.ref o0)] [(.int (2 : Int32))]))
  refine bk (fun t k => XS.ifYes X2.here hx rfl (pc0 := 13) (pc' := 18) rfl (hb hby d5_13) rfl ((if0 _ _).trans (feq (by decide : ¬ ((2 : Int32) = (0 : Int32)))).2) (by decide) (by decide) k) ?_
  refine bk (fun t k => XS.aloadN X2.here hx rfl (hb hby d5_18) rfl rfl k) ?_
  refine bk (fun t k => XS.dup X2.here hx rfl (hb hby d5_19) rfl rfl k) ?_
  show F (T2.setTop (mkF m 20 #[.val (.ref o0)] [(.ref o0), (.ref o0)]))
  obtain ⟨T3, X3, e3, st3⟩ := getF X2 hx hZ hown (host := "") (Or.inl (hw _ (List.mem_of_getElem? (i := 19) rfl))) Via.refl e2 F_at (g := (mkF m 20 #[.val (.ref o0)] [(.ref o0), (.ref o0)])) rfl rfl (hb hby d5_20)
  refine bk (fun t k => st3 t k) ?_
  refine bk (fun t k => XS.iconst X3.here hx rfl (hb hby d5_23) k) ?_
  show F (T3.setTop (mkF m 24 #[.val (.ref o0)] [(.int (1 : Int32)), (.int (2 : Int32)), (.ref o0)]))
  refine bk (fun t k => XS.isub X3.here hx rfl (hb hby d5_24) rfl k) ?_
  show F (T3.setTop (mkF m 25 #[.val (.ref o0)] [(.int (1 : Int32)), (.ref o0)]))
  obtain ⟨T4, h4, X4, e4, W4, st4⟩ := putF X3 hx hZ hown (host := "") (Or.inl (hw _ (List.mem_of_getElem? (i := 19) rfl))) Via.refl e3 F_at E_s (Or.inl (hw _ (List.mem_of_getElem? (i := 20) rfl))) (hw _ (List.mem_of_getElem? (i := 9) rfl)) (ty := .int) (by decide) rfl rfl (g := (mkF m 25 #[.val (.ref o0)] [(.int (1 : Int32)), (.ref o0)])) rfl rfl (hb hby d5_25)
  have f5 := E_s.wr W4
  have f6 := F_words.other W4 (Or.inr (slot_ne (Or.inr (hw _ (List.mem_of_getElem? (i := 18) rfl))) (Or.inl (hw _ (List.mem_of_getElem? (i := 20) rfl))) (by decide) (t := (.array .long)) (t' := .int) (by decide) (by decide)))
  have f7 := F_at.same W4
  have f8 := F_word.other W4 (Or.inr (slot_ne (Or.inl (hw _ (List.mem_of_getElem? (i := 27) rfl))) (Or.inl (hw _ (List.mem_of_getElem? (i := 20) rfl))) (by decide) (t := .long) (t' := .int) (by decide) (by decide)))
  have f9 := V_ar.other W4 (Ne.symm ne_s_ar)
  have f10 := Nat.le_trans Z0 (Keep.of_wr W4).1
  have N4 := Fr.snoc X4 N0 g_s
  refine bk (fun t k => st4 t k) ?_
  refine bk (fun t k => XS.aloadN X4.here hx rfl (hb hby d5_28) rfl rfl k) ?_
  refine bk (fun t k => XS.aloadN X4.here hx rfl (hb hby d5_29) rfl rfl k) ?_
  show F (T4.setTop (mkF m 30 #[.val (.ref o0)] [(.ref o0), (.ref o0)]))
  obtain ⟨T11, X11, e11, st11⟩ := getF X4 hx hZ hown (host := "") (Or.inl (hw _ (List.mem_of_getElem? (i := 17) rfl))) Via.refl e4 f6 (g := (mkF m 30 #[.val (.ref o0)] [(.ref o0), (.ref o0)])) rfl rfl (hb hby d5_30)
  refine bk (fun t k => st11 t k) ?_
  refine bk (fun t k => XS.aloadN X11.here hx rfl (hb hby d5_33) rfl rfl k) ?_
  show F (T11.setTop (mkF m 34 #[.val (.ref o0)] [(.ref o0), (.ref ar), (.ref o0)]))
  obtain ⟨T12, X12, e12, st12⟩ := getF X11 hx hZ hown (host := "") (Or.inl (hw _ (List.mem_of_getElem? (i := 19) rfl))) Via.refl e11 f7 (g := (mkF m 34 #[.val (.ref o0)] [(.ref o0), (.ref ar), (.ref o0)])) rfl rfl (hb hby d5_34)
  refine bk (fun t k => st12 t k) ?_
  show F (T12.setTop (mkF m 37 #[.val (.ref o0)] [(.int (1 : Int32)), (.ref ar), (.ref o0)]))
  have vv13 := f9
  obtain ⟨cl13, Ar13, q13, S13, M13, H13, G13⟩ := vv13
  have hin13 : ¬ ((1 : Int32) < 0 ∨ cl13.slots.size ≤ ((1 : Int32)).toNatClampNeg) := inb_of S13 ⟨by decide, hz1⟩
  refine bk (fun t k => X12.laload hx (j := (1 : Int32)) (v := (.long u1)) (by rw [e12]; exact Ar13.1) (State.isArrayOf_alike hZ.alike Ar13.2.1) Ar13.2.2 hin13 (Has.at H13 hin13 rfl) (g := (mkF m 37 #[.val (.ref o0)] [(.int (1 : Int32)), (.ref ar), (.ref o0)])) rfl rfl (hb hby d5_37) t k) ?_
  show F (T12.setTop (mkF m 38 #[.val (.ref o0)] [(.long u1), (.ref o0)]))
  obtain ⟨T14, h14, X14, e14, W14, st14⟩ := putF X12 hx hZ hown (host := "") (Or.inl (hw _ (List.mem_of_getElem? (i := 26) rfl))) Via.refl e12 f8 f5 (Or.inl (hw _ (List.mem_of_getElem? (i := 27) rfl))) (hw _ (List.mem_of_getElem? (i := 9) rfl)) (ty := .long) (by decide) rfl rfl (g := (mkF m 38 #[.val (.ref o0)] [(.long u1), (.ref o0)])) rfl rfl (hb hby d5_38)
  have f15 := f5.wr W14
  have f16 := f6.other W14 (Or.inr (slot_ne (Or.inr (hw _ (List.mem_of_getElem? (i := 18) rfl))) (Or.inl (hw _ (List.mem_of_getElem? (i := 27) rfl))) (by decide) (t := (.array .long)) (t' := .long) (by decide) (by decide)))
  have f17 := f7.other W14 (Or.inr (slot_ne (Or.inl (hw _ (List.mem_of_getElem? (i := 20) rfl))) (Or.inl (hw _ (List.mem_of_getElem? (i := 27) rfl))) (by decide) (t := .int) (t' := .long) (by decide) (by decide)))
  have f18 := f8.same W14
  have f19 := f9.other W14 (Ne.symm ne_s_ar)
  have f20 := Nat.le_trans f10 (Keep.of_wr W14).1
  have N14 := Fr.snoc X14 N4 g_s
  refine bk (fun t k => st14 t k) ?_
  refine bk (fun t k => XS.goto X14.here hx rfl (pc0 := 41) (pc' := 0) rfl (hb hby d5_41) (by decide) (by decide) k) ?_
  refine bk (fun t k => XS.aloadN X14.here hx rfl (hb hby d5_0) rfl rfl k) ?_
  show F (T14.setTop (mkF m 1 #[.val (.ref o0)] [(.ref o0)]))
  obtain ⟨T21, X21, e21, st21⟩ := getF X14 hx hZ hown (host := "") (Or.inl (hw _ (List.mem_of_getElem? (i := 26) rfl))) Via.refl e14 f18 (g := (mkF m 1 #[.val (.ref o0)] [(.ref o0)])) rfl rfl (hb hby d5_1)
  refine bk (fun t k => st21 t k) ?_
  refine bk (fun t k => XS.lconst X21.here hx rfl (hb hby d5_4) k) ?_
  show F (T21.setTop (mkF m 5 #[.val (.ref o0)] [(.long (0 : Int64)), (.long u1)]))
  refine bk (fun t k => XS.lcmp X21.here hx rfl (hb hby d5_5) rfl k) ?_
  show F (T21.setTop (mkF m 6 #[.val (.ref o0)] [(.int (lcmpW u1 (0 : Int64)))]))
  refine bk (fun t k => XS.ifNo X21.here hx rfl (hb hby d5_6) rfl ((if0 _ _).trans (teq ((lw_eq _ _).mpr he1)).2) k) ?_
  refine bk (fun t k => XS.aloadN X21.here hx rfl (hb hby d5_9) rfl rfl k) ?_
  show F (T21.setTop (mkF m 10 #[.val (.ref o0)] [(.ref o0)]))
  obtain ⟨T22, X22, e22, st22⟩ := getF X21 hx hZ hown (host := "") (Or.inl (hw _ (List.mem_of_getElem? (i := 19) rfl))) Via.refl e21 f17 (g := (mkF m 10 #[.val (.ref o0)] [(.ref o0)])) rfl rfl (hb hby d5_10)
  refine bk (fun t k => st22 t k) ?_
  show F (T22.setTop (mkF m 13 #[.val (.ref o0)] [(.int (1 : Int32))]))
  refine bk (fun t k => XS.ifYes X22.here hx rfl (pc0 := 13) (pc' := 18) rfl (hb hby d5_13) rfl ((if0 _ _).trans (feq (by decide : ¬ ((1 : Int32) = (0 : Int32)))).2) (by decide) (by decide) k) ?_
  refine bk (fun t k => XS.aloadN X22.here hx rfl (hb hby d5_18) rfl rfl k) ?_
  refine bk (fun t k => XS.dup X22.here hx rfl (hb hby d5_19) rfl rfl k) ?_
  show F (T22.setTop (mkF m 20 #[.val (.ref o0)] [(.ref o0), (.ref o0)]))
  obtain ⟨T23, X23, e23, st23⟩ := getF X22 hx hZ hown (host := "") (Or.inl (hw _ (List.mem_of_getElem? (i := 19) rfl))) Via.refl e22 f17 (g := (mkF m 20 #[.val (.ref o0)] [(.ref o0), (.ref o0)])) rfl rfl (hb hby d5_20)
  refine bk (fun t k => st23 t k) ?_
  refine bk (fun t k => XS.iconst X23.here hx rfl (hb hby d5_23) k) ?_
  show F (T23.setTop (mkF m 24 #[.val (.ref o0)] [(.int (1 : Int32)), (.int (1 : Int32)), (.ref o0)]))
  refine bk (fun t k => XS.isub X23.here hx rfl (hb hby d5_24) rfl k) ?_
  show F (T23.setTop (mkF m 25 #[.val (.ref o0)] [(.int (0 : Int32)), (.ref o0)]))
  obtain ⟨T24, h24, X24, e24, W24, st24⟩ := putF X23 hx hZ hown (host := "") (Or.inl (hw _ (List.mem_of_getElem? (i := 19) rfl))) Via.refl e23 f17 f15 (Or.inl (hw _ (List.mem_of_getElem? (i := 20) rfl))) (hw _ (List.mem_of_getElem? (i := 9) rfl)) (ty := .int) (by decide) rfl rfl (g := (mkF m 25 #[.val (.ref o0)] [(.int (0 : Int32)), (.ref o0)])) rfl rfl (hb hby d5_25)
  have f25 := f15.wr W24
  have f26 := f16.other W24 (Or.inr (slot_ne (Or.inr (hw _ (List.mem_of_getElem? (i := 18) rfl))) (Or.inl (hw _ (List.mem_of_getElem? (i := 20) rfl))) (by decide) (t := (.array .long)) (t' := .int) (by decide) (by decide)))
  have f27 := f17.same W24
  have f28 := f18.other W24 (Or.inr (slot_ne (Or.inl (hw _ (List.mem_of_getElem? (i := 27) rfl))) (Or.inl (hw _ (List.mem_of_getElem? (i := 20) rfl))) (by decide) (t := .long) (t' := .int) (by decide) (by decide)))
  have f29 := f19.other W24 (Ne.symm ne_s_ar)
  have f30 := Nat.le_trans f20 (Keep.of_wr W24).1
  have N24 := Fr.snoc X24 N14 g_s
  refine bk (fun t k => st24 t k) ?_
  refine bk (fun t k => XS.aloadN X24.here hx rfl (hb hby d5_28) rfl rfl k) ?_
  refine bk (fun t k => XS.aloadN X24.here hx rfl (hb hby d5_29) rfl rfl k) ?_
  show F (T24.setTop (mkF m 30 #[.val (.ref o0)] [(.ref o0), (.ref o0)]))
  obtain ⟨T31, X31, e31, st31⟩ := getF X24 hx hZ hown (host := "") (Or.inl (hw _ (List.mem_of_getElem? (i := 17) rfl))) Via.refl e24 f26 (g := (mkF m 30 #[.val (.ref o0)] [(.ref o0), (.ref o0)])) rfl rfl (hb hby d5_30)
  refine bk (fun t k => st31 t k) ?_
  refine bk (fun t k => XS.aloadN X31.here hx rfl (hb hby d5_33) rfl rfl k) ?_
  show F (T31.setTop (mkF m 34 #[.val (.ref o0)] [(.ref o0), (.ref ar), (.ref o0)]))
  obtain ⟨T32, X32, e32, st32⟩ := getF X31 hx hZ hown (host := "") (Or.inl (hw _ (List.mem_of_getElem? (i := 19) rfl))) Via.refl e31 f27 (g := (mkF m 34 #[.val (.ref o0)] [(.ref o0), (.ref ar), (.ref o0)])) rfl rfl (hb hby d5_34)
  refine bk (fun t k => st32 t k) ?_
  show F (T32.setTop (mkF m 37 #[.val (.ref o0)] [(.int (0 : Int32)), (.ref ar), (.ref o0)]))
  have vv33 := f29
  obtain ⟨cl33, Ar33, q33, S33, M33, H33, G33⟩ := vv33
  have hin33 : ¬ ((0 : Int32) < 0 ∨ cl33.slots.size ≤ ((0 : Int32)).toNatClampNeg) := inb_of S33 ⟨by decide, hz0⟩
  refine bk (fun t k => X32.laload hx (j := (0 : Int32)) (v := (.long u0)) (by rw [e32]; exact Ar33.1) (State.isArrayOf_alike hZ.alike Ar33.2.1) Ar33.2.2 hin33 (Has.at H33 hin33 rfl) (g := (mkF m 37 #[.val (.ref o0)] [(.int (0 : Int32)), (.ref ar), (.ref o0)])) rfl rfl (hb hby d5_37) t k) ?_
  show F (T32.setTop (mkF m 38 #[.val (.ref o0)] [(.long u0), (.ref o0)]))
  obtain ⟨T34, h34, X34, e34, W34, st34⟩ := putF X32 hx hZ hown (host := "") (Or.inl (hw _ (List.mem_of_getElem? (i := 26) rfl))) Via.refl e32 f28 f25 (Or.inl (hw _ (List.mem_of_getElem? (i := 27) rfl))) (hw _ (List.mem_of_getElem? (i := 9) rfl)) (ty := .long) (by decide) rfl rfl (g := (mkF m 38 #[.val (.ref o0)] [(.long u0), (.ref o0)])) rfl rfl (hb hby d5_38)
  have f35 := f25.wr W34
  have f36 := f26.other W34 (Or.inr (slot_ne (Or.inr (hw _ (List.mem_of_getElem? (i := 18) rfl))) (Or.inl (hw _ (List.mem_of_getElem? (i := 27) rfl))) (by decide) (t := (.array .long)) (t' := .long) (by decide) (by decide)))
  have f37 := f27.other W34 (Or.inr (slot_ne (Or.inl (hw _ (List.mem_of_getElem? (i := 20) rfl))) (Or.inl (hw _ (List.mem_of_getElem? (i := 27) rfl))) (by decide) (t := .int) (t' := .long) (by decide) (by decide)))
  have f38 := f28.same W34
  have f39 := f29.other W34 (Ne.symm ne_s_ar)
  have f40 := Nat.le_trans f30 (Keep.of_wr W34).1
  have N34 := Fr.snoc X34 N24 g_s
  refine bk (fun t k => st34 t k) ?_
  refine bk (fun t k => XS.goto X34.here hx rfl (pc0 := 41) (pc' := 0) rfl (hb hby d5_41) (by decide) (by decide) k) ?_
  refine bk (fun t k => XS.aloadN X34.here hx rfl (hb hby d5_0) rfl rfl k) ?_
  show F (T34.setTop (mkF m 1 #[.val (.ref o0)] [(.ref o0)]))
  obtain ⟨T41, X41, e41, st41⟩ := getF X34 hx hZ hown (host := "") (Or.inl (hw _ (List.mem_of_getElem? (i := 26) rfl))) Via.refl e34 f38 (g := (mkF m 1 #[.val (.ref o0)] [(.ref o0)])) rfl rfl (hb hby d5_1)
  refine bk (fun t k => st41 t k) ?_
  refine bk (fun t k => XS.lconst X41.here hx rfl (hb hby d5_4) k) ?_
  show F (T41.setTop (mkF m 5 #[.val (.ref o0)] [(.long (0 : Int64)), (.long u0)]))
  refine bk (fun t k => XS.lcmp X41.here hx rfl (hb hby d5_5) rfl k) ?_
  show F (T41.setTop (mkF m 6 #[.val (.ref o0)] [(.int (lcmpW u0 (0 : Int64)))]))
  refine bk (fun t k => XS.ifYes X41.here hx rfl (pc0 := 6) (pc' := 44) rfl (hb hby d5_6) rfl ((if0 _ _).trans (feq (fun q => he0 ((lw_eq _ _).mp q))).2) (by decide) (by decide) k) ?_
  refine bk (fun t k => XS.iconst X41.here hx rfl (hb hby d5_44) k) ?_
  show F (T41.setTop (mkF m 45 #[.val (.ref o0)] [(.int (1 : Int32))]))
  rw [hF]
  refine own_retZ X41 hx Bd.notSynchronized Bd.returns (hb hby d5_45) (by decide) (by decide) ?_
  rw [e41]
  exact ⟨rfl, N34, f40, ⟨f35, f36, f37, f38, f39⟩⟩
def Q5Z2n (Z : State) (o0 : Addr) (ar : Addr) (kk : ClassId) (z : Int32) (u0 : Int64) (u1 : Int64) (u2 : Int64) (h0 : Heap) (n0 : Nat) (v : Option Value) (h : Heap) (L : List Loc) : Prop := v = some (.int (0 : Int32)) ∧ Fr n0 L ∧ n0 ≤ h.size ∧ own_S Z h o0 ar kk z (0 : Int32) u0 u0 u1 u2
set_option maxRecDepth 65536 in
set_option maxHeartbeats 40000000 in
theorem rm5Z2n (l : Launch) (Z : State) (a0 : Array Value) (hw : ∀ d ∈ tables_1, d.before a0 Z = true) (ws : List Jvm.Cond) (o0 : Addr) (ar : Addr) (kk : ClassId) (z : Int32) (u0 : Int64) (u1 : Int64) (u2 : Int64) (h0 : Heap) (n0 : Nat) (Z0 : n0 ≤ h0.size) (P0 : own_S Z h0 o0 ar kk z (2 : Int32) (0 : Int64) u0 u1 u2) (g_s : n0 ≤ o0) (ne_s_ar : o0 ≠ ar) (hz0 : (0 : Int32) < z) (hz1 : (1 : Int32) < z) (he1 : u1 = (0 : Int64)) (he0 : u0 = (0 : Int64)) :
    MetFree l (⟨"com/example/lone1/lone1/solve/SweepOrder", "hasNext", "()Z"⟩ : MethodName) (head1 (Jvm.Cond.code (⟨"com/example/lone1/lone1/solve/SweepOrder", "hasNext", "()Z"⟩ : MethodName) prog_114_method_2_code 1 (some .boolean) :: ws) ({ frames := 0, cells := 0, slots := 0, locals := 0 } : Room)) (fun a U => a = #[(.ref o0)] ∧ Z.Warmed39 U.vm ∧ U.heap = h0) (fun _ _ _ _ _ => True) (fun _ U o U' => ∃ v L, o = .returned v ∧ Q5Z2n Z o0 ar kk z u0 u1 u2 h0 n0 v U'.heap L ∧ FrameEnd U o U' L ({ frames := 0, cells := 0, slots := 0, locals := 0 } : Room).cells ({ frames := 0, cells := 0, slots := 0, locals := 0 } : Room).slots) := by
  refine MetFree.of_bodySF (plainFor_of_name pn_5) hisR ?_
  intro p e s m args below meth c s₁ Bd hml0 hP hK
  obtain ⟨rfl, hZ, hh⟩ := hP
  have hx := Bd.exec
  have hby := Bd.bytes
  have hml : c.maxLocals = 1 := hml0
  have hown : s.vm.findClass "com/example/lone1/lone1/solve/SweepOrder" = some m.cls := findClass_of_methodNamed Bd.named
  have hnm := (name_of_methodNamed Bd.named Bd.method).1
  have X0 : Stand p l e ({ frames := 0, cells := 0, slots := 0, locals := 0 } : Room) s m #[(.ref o0)] below meth c s₁ [] 0 0 := Stand.of_body Bd
  have e0 : s₁.heap = h0 := by rw [← hh, Bd.state]; rfl
  have N0 := Fr.nil n0
  obtain ⟨F, hF⟩ : ∃ F : State → Prop, F = own_Fin p e below s ({ frames := 0, cells := 0, slots := 0, locals := 0 } : Room).cells ({ frames := 0, cells := 0, slots := 0, locals := 0 } : Room).slots (fun v h L => Q5Z2n Z o0 ar kk z u0 u1 u2 h0 n0 v h L) := ⟨_, rfl⟩
  have bk : ∀ {A B : State}, (∀ t, Steps p.tables e below B t → Steps p.tables e below A t) → F B → F A := by
    intro A B h k
    rw [hF] at k ⊢
    exact own_back h k
  suffices hgo : F (s₁.setTop (mkF m 0 #[.val (.ref o0)] [])) by
    have hgo' := bk (fun t k => castTop (T := s₁) (ef_5 m o0) k) hgo
    rw [hF] at hgo'
    exact hgo'
  obtain ⟨E_s, F_words, F_at, F_word, V_ar⟩ := P0
  refine bk (fun t k => XS.aloadN X0.here hx rfl (hb hby d5_0) rfl rfl k) ?_
  show F (s₁.setTop (mkF m 1 #[.val (.ref o0)] [(.ref o0)]))
  obtain ⟨T1, X1, e1, st1⟩ := getF X0 hx hZ hown (host := "") (Or.inl (hw _ (List.mem_of_getElem? (i := 26) rfl))) Via.refl e0 F_word (g := (mkF m 1 #[.val (.ref o0)] [(.ref o0)])) rfl rfl (hb hby d5_1)
  refine bk (fun t k => st1 t k) ?_
  refine bk (fun t k => XS.lconst X1.here hx rfl (hb hby d5_4) k) ?_
  show F (T1.setTop (mkF m 5 #[.val (.ref o0)] [(.long (0 : Int64)), (.long (0 : Int64))]))
  refine bk (fun t k => XS.lcmp X1.here hx rfl (hb hby d5_5) rfl k) ?_
  show F (T1.setTop (mkF m 6 #[.val (.ref o0)] [(.int (lcmpW (0 : Int64) (0 : Int64)))]))
  refine bk (fun t k => XS.ifNo X1.here hx rfl (hb hby d5_6) rfl ((if0 _ _).trans (teq ((lw_eq _ _).mpr (by decide : (0 : Int64) = (0 : Int64)))).2) k) ?_
  refine bk (fun t k => XS.aloadN X1.here hx rfl (hb hby d5_9) rfl rfl k) ?_
  show F (T1.setTop (mkF m 10 #[.val (.ref o0)] [(.ref o0)]))
  obtain ⟨T2, X2, e2, st2⟩ := getF X1 hx hZ hown (host := "") (Or.inl (hw _ (List.mem_of_getElem? (i := 19) rfl))) Via.refl e1 F_at (g := (mkF m 10 #[.val (.ref o0)] [(.ref o0)])) rfl rfl (hb hby d5_10)
  refine bk (fun t k => st2 t k) ?_
  show F (T2.setTop (mkF m 13 #[.val (.ref o0)] [(.int (2 : Int32))]))
  refine bk (fun t k => XS.ifYes X2.here hx rfl (pc0 := 13) (pc' := 18) rfl (hb hby d5_13) rfl ((if0 _ _).trans (feq (by decide : ¬ ((2 : Int32) = (0 : Int32)))).2) (by decide) (by decide) k) ?_
  refine bk (fun t k => XS.aloadN X2.here hx rfl (hb hby d5_18) rfl rfl k) ?_
  refine bk (fun t k => XS.dup X2.here hx rfl (hb hby d5_19) rfl rfl k) ?_
  show F (T2.setTop (mkF m 20 #[.val (.ref o0)] [(.ref o0), (.ref o0)]))
  obtain ⟨T3, X3, e3, st3⟩ := getF X2 hx hZ hown (host := "") (Or.inl (hw _ (List.mem_of_getElem? (i := 19) rfl))) Via.refl e2 F_at (g := (mkF m 20 #[.val (.ref o0)] [(.ref o0), (.ref o0)])) rfl rfl (hb hby d5_20)
  refine bk (fun t k => st3 t k) ?_
  refine bk (fun t k => XS.iconst X3.here hx rfl (hb hby d5_23) k) ?_
  show F (T3.setTop (mkF m 24 #[.val (.ref o0)] [(.int (1 : Int32)), (.int (2 : Int32)), (.ref o0)]))
  refine bk (fun t k => XS.isub X3.here hx rfl (hb hby d5_24) rfl k) ?_
  show F (T3.setTop (mkF m 25 #[.val (.ref o0)] [(.int (1 : Int32)), (.ref o0)]))
  obtain ⟨T4, h4, X4, e4, W4, st4⟩ := putF X3 hx hZ hown (host := "") (Or.inl (hw _ (List.mem_of_getElem? (i := 19) rfl))) Via.refl e3 F_at E_s (Or.inl (hw _ (List.mem_of_getElem? (i := 20) rfl))) (hw _ (List.mem_of_getElem? (i := 9) rfl)) (ty := .int) (by decide) rfl rfl (g := (mkF m 25 #[.val (.ref o0)] [(.int (1 : Int32)), (.ref o0)])) rfl rfl (hb hby d5_25)
  have f5 := E_s.wr W4
  have f6 := F_words.other W4 (Or.inr (slot_ne (Or.inr (hw _ (List.mem_of_getElem? (i := 18) rfl))) (Or.inl (hw _ (List.mem_of_getElem? (i := 20) rfl))) (by decide) (t := (.array .long)) (t' := .int) (by decide) (by decide)))
  have f7 := F_at.same W4
  have f8 := F_word.other W4 (Or.inr (slot_ne (Or.inl (hw _ (List.mem_of_getElem? (i := 27) rfl))) (Or.inl (hw _ (List.mem_of_getElem? (i := 20) rfl))) (by decide) (t := .long) (t' := .int) (by decide) (by decide)))
  have f9 := V_ar.other W4 (Ne.symm ne_s_ar)
  have f10 := Nat.le_trans Z0 (Keep.of_wr W4).1
  have N4 := Fr.snoc X4 N0 g_s
  refine bk (fun t k => st4 t k) ?_
  refine bk (fun t k => XS.aloadN X4.here hx rfl (hb hby d5_28) rfl rfl k) ?_
  refine bk (fun t k => XS.aloadN X4.here hx rfl (hb hby d5_29) rfl rfl k) ?_
  show F (T4.setTop (mkF m 30 #[.val (.ref o0)] [(.ref o0), (.ref o0)]))
  obtain ⟨T11, X11, e11, st11⟩ := getF X4 hx hZ hown (host := "") (Or.inl (hw _ (List.mem_of_getElem? (i := 17) rfl))) Via.refl e4 f6 (g := (mkF m 30 #[.val (.ref o0)] [(.ref o0), (.ref o0)])) rfl rfl (hb hby d5_30)
  refine bk (fun t k => st11 t k) ?_
  refine bk (fun t k => XS.aloadN X11.here hx rfl (hb hby d5_33) rfl rfl k) ?_
  show F (T11.setTop (mkF m 34 #[.val (.ref o0)] [(.ref o0), (.ref ar), (.ref o0)]))
  obtain ⟨T12, X12, e12, st12⟩ := getF X11 hx hZ hown (host := "") (Or.inl (hw _ (List.mem_of_getElem? (i := 19) rfl))) Via.refl e11 f7 (g := (mkF m 34 #[.val (.ref o0)] [(.ref o0), (.ref ar), (.ref o0)])) rfl rfl (hb hby d5_34)
  refine bk (fun t k => st12 t k) ?_
  show F (T12.setTop (mkF m 37 #[.val (.ref o0)] [(.int (1 : Int32)), (.ref ar), (.ref o0)]))
  have vv13 := f9
  obtain ⟨cl13, Ar13, q13, S13, M13, H13, G13⟩ := vv13
  have hin13 : ¬ ((1 : Int32) < 0 ∨ cl13.slots.size ≤ ((1 : Int32)).toNatClampNeg) := inb_of S13 ⟨by decide, hz1⟩
  refine bk (fun t k => X12.laload hx (j := (1 : Int32)) (v := (.long u1)) (by rw [e12]; exact Ar13.1) (State.isArrayOf_alike hZ.alike Ar13.2.1) Ar13.2.2 hin13 (Has.at H13 hin13 rfl) (g := (mkF m 37 #[.val (.ref o0)] [(.int (1 : Int32)), (.ref ar), (.ref o0)])) rfl rfl (hb hby d5_37) t k) ?_
  show F (T12.setTop (mkF m 38 #[.val (.ref o0)] [(.long u1), (.ref o0)]))
  obtain ⟨T14, h14, X14, e14, W14, st14⟩ := putF X12 hx hZ hown (host := "") (Or.inl (hw _ (List.mem_of_getElem? (i := 26) rfl))) Via.refl e12 f8 f5 (Or.inl (hw _ (List.mem_of_getElem? (i := 27) rfl))) (hw _ (List.mem_of_getElem? (i := 9) rfl)) (ty := .long) (by decide) rfl rfl (g := (mkF m 38 #[.val (.ref o0)] [(.long u1), (.ref o0)])) rfl rfl (hb hby d5_38)
  have f15 := f5.wr W14
  have f16 := f6.other W14 (Or.inr (slot_ne (Or.inr (hw _ (List.mem_of_getElem? (i := 18) rfl))) (Or.inl (hw _ (List.mem_of_getElem? (i := 27) rfl))) (by decide) (t := (.array .long)) (t' := .long) (by decide) (by decide)))
  have f17 := f7.other W14 (Or.inr (slot_ne (Or.inl (hw _ (List.mem_of_getElem? (i := 20) rfl))) (Or.inl (hw _ (List.mem_of_getElem? (i := 27) rfl))) (by decide) (t := .int) (t' := .long) (by decide) (by decide)))
  have f18 := f8.same W14
  have f19 := f9.other W14 (Ne.symm ne_s_ar)
  have f20 := Nat.le_trans f10 (Keep.of_wr W14).1
  have N14 := Fr.snoc X14 N4 g_s
  refine bk (fun t k => st14 t k) ?_
  refine bk (fun t k => XS.goto X14.here hx rfl (pc0 := 41) (pc' := 0) rfl (hb hby d5_41) (by decide) (by decide) k) ?_
  refine bk (fun t k => XS.aloadN X14.here hx rfl (hb hby d5_0) rfl rfl k) ?_
  show F (T14.setTop (mkF m 1 #[.val (.ref o0)] [(.ref o0)]))
  obtain ⟨T21, X21, e21, st21⟩ := getF X14 hx hZ hown (host := "") (Or.inl (hw _ (List.mem_of_getElem? (i := 26) rfl))) Via.refl e14 f18 (g := (mkF m 1 #[.val (.ref o0)] [(.ref o0)])) rfl rfl (hb hby d5_1)
  refine bk (fun t k => st21 t k) ?_
  refine bk (fun t k => XS.lconst X21.here hx rfl (hb hby d5_4) k) ?_
  show F (T21.setTop (mkF m 5 #[.val (.ref o0)] [(.long (0 : Int64)), (.long u1)]))
  refine bk (fun t k => XS.lcmp X21.here hx rfl (hb hby d5_5) rfl k) ?_
  show F (T21.setTop (mkF m 6 #[.val (.ref o0)] [(.int (lcmpW u1 (0 : Int64)))]))
  refine bk (fun t k => XS.ifNo X21.here hx rfl (hb hby d5_6) rfl ((if0 _ _).trans (teq ((lw_eq _ _).mpr he1)).2) k) ?_
  refine bk (fun t k => XS.aloadN X21.here hx rfl (hb hby d5_9) rfl rfl k) ?_
  show F (T21.setTop (mkF m 10 #[.val (.ref o0)] [(.ref o0)]))
  obtain ⟨T22, X22, e22, st22⟩ := getF X21 hx hZ hown (host := "") (Or.inl (hw _ (List.mem_of_getElem? (i := 19) rfl))) Via.refl e21 f17 (g := (mkF m 10 #[.val (.ref o0)] [(.ref o0)])) rfl rfl (hb hby d5_10)
  refine bk (fun t k => st22 t k) ?_
  show F (T22.setTop (mkF m 13 #[.val (.ref o0)] [(.int (1 : Int32))]))
  refine bk (fun t k => XS.ifYes X22.here hx rfl (pc0 := 13) (pc' := 18) rfl (hb hby d5_13) rfl ((if0 _ _).trans (feq (by decide : ¬ ((1 : Int32) = (0 : Int32)))).2) (by decide) (by decide) k) ?_
  refine bk (fun t k => XS.aloadN X22.here hx rfl (hb hby d5_18) rfl rfl k) ?_
  refine bk (fun t k => XS.dup X22.here hx rfl (hb hby d5_19) rfl rfl k) ?_
  show F (T22.setTop (mkF m 20 #[.val (.ref o0)] [(.ref o0), (.ref o0)]))
  obtain ⟨T23, X23, e23, st23⟩ := getF X22 hx hZ hown (host := "") (Or.inl (hw _ (List.mem_of_getElem? (i := 19) rfl))) Via.refl e22 f17 (g := (mkF m 20 #[.val (.ref o0)] [(.ref o0), (.ref o0)])) rfl rfl (hb hby d5_20)
  refine bk (fun t k => st23 t k) ?_
  refine bk (fun t k => XS.iconst X23.here hx rfl (hb hby d5_23) k) ?_
  show F (T23.setTop (mkF m 24 #[.val (.ref o0)] [(.int (1 : Int32)), (.int (1 : Int32)), (.ref o0)]))
  refine bk (fun t k => XS.isub X23.here hx rfl (hb hby d5_24) rfl k) ?_
  show F (T23.setTop (mkF m 25 #[.val (.ref o0)] [(.int (0 : Int32)), (.ref o0)]))
  obtain ⟨T24, h24, X24, e24, W24, st24⟩ := putF X23 hx hZ hown (host := "") (Or.inl (hw _ (List.mem_of_getElem? (i := 19) rfl))) Via.refl e23 f17 f15 (Or.inl (hw _ (List.mem_of_getElem? (i := 20) rfl))) (hw _ (List.mem_of_getElem? (i := 9) rfl)) (ty := .int) (by decide) rfl rfl (g := (mkF m 25 #[.val (.ref o0)] [(.int (0 : Int32)), (.ref o0)])) rfl rfl (hb hby d5_25)
  have f25 := f15.wr W24
  have f26 := f16.other W24 (Or.inr (slot_ne (Or.inr (hw _ (List.mem_of_getElem? (i := 18) rfl))) (Or.inl (hw _ (List.mem_of_getElem? (i := 20) rfl))) (by decide) (t := (.array .long)) (t' := .int) (by decide) (by decide)))
  have f27 := f17.same W24
  have f28 := f18.other W24 (Or.inr (slot_ne (Or.inl (hw _ (List.mem_of_getElem? (i := 27) rfl))) (Or.inl (hw _ (List.mem_of_getElem? (i := 20) rfl))) (by decide) (t := .long) (t' := .int) (by decide) (by decide)))
  have f29 := f19.other W24 (Ne.symm ne_s_ar)
  have f30 := Nat.le_trans f20 (Keep.of_wr W24).1
  have N24 := Fr.snoc X24 N14 g_s
  refine bk (fun t k => st24 t k) ?_
  refine bk (fun t k => XS.aloadN X24.here hx rfl (hb hby d5_28) rfl rfl k) ?_
  refine bk (fun t k => XS.aloadN X24.here hx rfl (hb hby d5_29) rfl rfl k) ?_
  show F (T24.setTop (mkF m 30 #[.val (.ref o0)] [(.ref o0), (.ref o0)]))
  obtain ⟨T31, X31, e31, st31⟩ := getF X24 hx hZ hown (host := "") (Or.inl (hw _ (List.mem_of_getElem? (i := 17) rfl))) Via.refl e24 f26 (g := (mkF m 30 #[.val (.ref o0)] [(.ref o0), (.ref o0)])) rfl rfl (hb hby d5_30)
  refine bk (fun t k => st31 t k) ?_
  refine bk (fun t k => XS.aloadN X31.here hx rfl (hb hby d5_33) rfl rfl k) ?_
  show F (T31.setTop (mkF m 34 #[.val (.ref o0)] [(.ref o0), (.ref ar), (.ref o0)]))
  obtain ⟨T32, X32, e32, st32⟩ := getF X31 hx hZ hown (host := "") (Or.inl (hw _ (List.mem_of_getElem? (i := 19) rfl))) Via.refl e31 f27 (g := (mkF m 34 #[.val (.ref o0)] [(.ref o0), (.ref ar), (.ref o0)])) rfl rfl (hb hby d5_34)
  refine bk (fun t k => st32 t k) ?_
  show F (T32.setTop (mkF m 37 #[.val (.ref o0)] [(.int (0 : Int32)), (.ref ar), (.ref o0)]))
  have vv33 := f29
  obtain ⟨cl33, Ar33, q33, S33, M33, H33, G33⟩ := vv33
  have hin33 : ¬ ((0 : Int32) < 0 ∨ cl33.slots.size ≤ ((0 : Int32)).toNatClampNeg) := inb_of S33 ⟨by decide, hz0⟩
  refine bk (fun t k => X32.laload hx (j := (0 : Int32)) (v := (.long u0)) (by rw [e32]; exact Ar33.1) (State.isArrayOf_alike hZ.alike Ar33.2.1) Ar33.2.2 hin33 (Has.at H33 hin33 rfl) (g := (mkF m 37 #[.val (.ref o0)] [(.int (0 : Int32)), (.ref ar), (.ref o0)])) rfl rfl (hb hby d5_37) t k) ?_
  show F (T32.setTop (mkF m 38 #[.val (.ref o0)] [(.long u0), (.ref o0)]))
  obtain ⟨T34, h34, X34, e34, W34, st34⟩ := putF X32 hx hZ hown (host := "") (Or.inl (hw _ (List.mem_of_getElem? (i := 26) rfl))) Via.refl e32 f28 f25 (Or.inl (hw _ (List.mem_of_getElem? (i := 27) rfl))) (hw _ (List.mem_of_getElem? (i := 9) rfl)) (ty := .long) (by decide) rfl rfl (g := (mkF m 38 #[.val (.ref o0)] [(.long u0), (.ref o0)])) rfl rfl (hb hby d5_38)
  have f35 := f25.wr W34
  have f36 := f26.other W34 (Or.inr (slot_ne (Or.inr (hw _ (List.mem_of_getElem? (i := 18) rfl))) (Or.inl (hw _ (List.mem_of_getElem? (i := 27) rfl))) (by decide) (t := (.array .long)) (t' := .long) (by decide) (by decide)))
  have f37 := f27.other W34 (Or.inr (slot_ne (Or.inl (hw _ (List.mem_of_getElem? (i := 20) rfl))) (Or.inl (hw _ (List.mem_of_getElem? (i := 27) rfl))) (by decide) (t := .int) (t' := .long) (by decide) (by decide)))
  have f38 := f28.same W34
  have f39 := f29.other W34 (Ne.symm ne_s_ar)
  have f40 := Nat.le_trans f30 (Keep.of_wr W34).1
  have N34 := Fr.snoc X34 N24 g_s
  refine bk (fun t k => st34 t k) ?_
  refine bk (fun t k => XS.goto X34.here hx rfl (pc0 := 41) (pc' := 0) rfl (hb hby d5_41) (by decide) (by decide) k) ?_
  refine bk (fun t k => XS.aloadN X34.here hx rfl (hb hby d5_0) rfl rfl k) ?_
  show F (T34.setTop (mkF m 1 #[.val (.ref o0)] [(.ref o0)]))
  obtain ⟨T41, X41, e41, st41⟩ := getF X34 hx hZ hown (host := "") (Or.inl (hw _ (List.mem_of_getElem? (i := 26) rfl))) Via.refl e34 f38 (g := (mkF m 1 #[.val (.ref o0)] [(.ref o0)])) rfl rfl (hb hby d5_1)
  refine bk (fun t k => st41 t k) ?_
  refine bk (fun t k => XS.lconst X41.here hx rfl (hb hby d5_4) k) ?_
  show F (T41.setTop (mkF m 5 #[.val (.ref o0)] [(.long (0 : Int64)), (.long u0)]))
  refine bk (fun t k => XS.lcmp X41.here hx rfl (hb hby d5_5) rfl k) ?_
  show F (T41.setTop (mkF m 6 #[.val (.ref o0)] [(.int (lcmpW u0 (0 : Int64)))]))
  refine bk (fun t k => XS.ifNo X41.here hx rfl (hb hby d5_6) rfl ((if0 _ _).trans (teq ((lw_eq _ _).mpr he0)).2) k) ?_
  refine bk (fun t k => XS.aloadN X41.here hx rfl (hb hby d5_9) rfl rfl k) ?_
  show F (T41.setTop (mkF m 10 #[.val (.ref o0)] [(.ref o0)]))
  obtain ⟨T42, X42, e42, st42⟩ := getF X41 hx hZ hown (host := "") (Or.inl (hw _ (List.mem_of_getElem? (i := 19) rfl))) Via.refl e41 f37 (g := (mkF m 10 #[.val (.ref o0)] [(.ref o0)])) rfl rfl (hb hby d5_10)
  refine bk (fun t k => st42 t k) ?_
  show F (T42.setTop (mkF m 13 #[.val (.ref o0)] [(.int (0 : Int32))]))
  refine bk (fun t k => XS.ifNo X42.here hx rfl (hb hby d5_13) rfl ((if0 _ _).trans (teq (by decide : (0 : Int32) = (0 : Int32))).2) k) ?_
  refine bk (fun t k => XS.iconst X42.here hx rfl (hb hby d5_16) k) ?_
  show F (T42.setTop (mkF m 17 #[.val (.ref o0)] [(.int (0 : Int32))]))
  rw [hF]
  refine own_retZ X42 hx Bd.notSynchronized Bd.returns (hb hby d5_17) (by decide) (by decide) ?_
  rw [e42]
  exact ⟨rfl, N34, f40, ⟨f35, f36, f37, f38, f39⟩⟩
def Q5Z32 (Z : State) (o0 : Addr) (ar : Addr) (kk : ClassId) (z : Int32) (u0 : Int64) (u1 : Int64) (u2 : Int64) (h0 : Heap) (n0 : Nat) (v : Option Value) (h : Heap) (L : List Loc) : Prop := v = some (.int (1 : Int32)) ∧ Fr n0 L ∧ n0 ≤ h.size ∧ own_S Z h o0 ar kk z (2 : Int32) u2 u0 u1 u2
set_option maxRecDepth 65536 in
set_option maxHeartbeats 40000000 in
theorem rm5Z32 (l : Launch) (Z : State) (a0 : Array Value) (hw : ∀ d ∈ tables_1, d.before a0 Z = true) (ws : List Jvm.Cond) (o0 : Addr) (ar : Addr) (kk : ClassId) (z : Int32) (u0 : Int64) (u1 : Int64) (u2 : Int64) (h0 : Heap) (n0 : Nat) (Z0 : n0 ≤ h0.size) (P0 : own_S Z h0 o0 ar kk z (3 : Int32) (0 : Int64) u0 u1 u2) (g_s : n0 ≤ o0) (ne_s_ar : o0 ≠ ar) (hz0 : (0 : Int32) < z) (hz1 : (1 : Int32) < z) (hz2 : (2 : Int32) < z) (he2 : ¬ u2 = (0 : Int64)) :
    MetFree l (⟨"com/example/lone1/lone1/solve/SweepOrder", "hasNext", "()Z"⟩ : MethodName) (head1 (Jvm.Cond.code (⟨"com/example/lone1/lone1/solve/SweepOrder", "hasNext", "()Z"⟩ : MethodName) prog_114_method_2_code 1 (some .boolean) :: ws) ({ frames := 0, cells := 0, slots := 0, locals := 0 } : Room)) (fun a U => a = #[(.ref o0)] ∧ Z.Warmed39 U.vm ∧ U.heap = h0) (fun _ _ _ _ _ => True) (fun _ U o U' => ∃ v L, o = .returned v ∧ Q5Z32 Z o0 ar kk z u0 u1 u2 h0 n0 v U'.heap L ∧ FrameEnd U o U' L ({ frames := 0, cells := 0, slots := 0, locals := 0 } : Room).cells ({ frames := 0, cells := 0, slots := 0, locals := 0 } : Room).slots) := by
  refine MetFree.of_bodySF (plainFor_of_name pn_5) hisR ?_
  intro p e s m args below meth c s₁ Bd hml0 hP hK
  obtain ⟨rfl, hZ, hh⟩ := hP
  have hx := Bd.exec
  have hby := Bd.bytes
  have hml : c.maxLocals = 1 := hml0
  have hown : s.vm.findClass "com/example/lone1/lone1/solve/SweepOrder" = some m.cls := findClass_of_methodNamed Bd.named
  have hnm := (name_of_methodNamed Bd.named Bd.method).1
  have X0 : Stand p l e ({ frames := 0, cells := 0, slots := 0, locals := 0 } : Room) s m #[(.ref o0)] below meth c s₁ [] 0 0 := Stand.of_body Bd
  have e0 : s₁.heap = h0 := by rw [← hh, Bd.state]; rfl
  have N0 := Fr.nil n0
  obtain ⟨F, hF⟩ : ∃ F : State → Prop, F = own_Fin p e below s ({ frames := 0, cells := 0, slots := 0, locals := 0 } : Room).cells ({ frames := 0, cells := 0, slots := 0, locals := 0 } : Room).slots (fun v h L => Q5Z32 Z o0 ar kk z u0 u1 u2 h0 n0 v h L) := ⟨_, rfl⟩
  have bk : ∀ {A B : State}, (∀ t, Steps p.tables e below B t → Steps p.tables e below A t) → F B → F A := by
    intro A B h k
    rw [hF] at k ⊢
    exact own_back h k
  suffices hgo : F (s₁.setTop (mkF m 0 #[.val (.ref o0)] [])) by
    have hgo' := bk (fun t k => castTop (T := s₁) (ef_5 m o0) k) hgo
    rw [hF] at hgo'
    exact hgo'
  obtain ⟨E_s, F_words, F_at, F_word, V_ar⟩ := P0
  refine bk (fun t k => XS.aloadN X0.here hx rfl (hb hby d5_0) rfl rfl k) ?_
  show F (s₁.setTop (mkF m 1 #[.val (.ref o0)] [(.ref o0)]))
  obtain ⟨T1, X1, e1, st1⟩ := getF X0 hx hZ hown (host := "") (Or.inl (hw _ (List.mem_of_getElem? (i := 26) rfl))) Via.refl e0 F_word (g := (mkF m 1 #[.val (.ref o0)] [(.ref o0)])) rfl rfl (hb hby d5_1)
  refine bk (fun t k => st1 t k) ?_
  refine bk (fun t k => XS.lconst X1.here hx rfl (hb hby d5_4) k) ?_
  show F (T1.setTop (mkF m 5 #[.val (.ref o0)] [(.long (0 : Int64)), (.long (0 : Int64))]))
  refine bk (fun t k => XS.lcmp X1.here hx rfl (hb hby d5_5) rfl k) ?_
  show F (T1.setTop (mkF m 6 #[.val (.ref o0)] [(.int (lcmpW (0 : Int64) (0 : Int64)))]))
  refine bk (fun t k => XS.ifNo X1.here hx rfl (hb hby d5_6) rfl ((if0 _ _).trans (teq ((lw_eq _ _).mpr (by decide : (0 : Int64) = (0 : Int64)))).2) k) ?_
  refine bk (fun t k => XS.aloadN X1.here hx rfl (hb hby d5_9) rfl rfl k) ?_
  show F (T1.setTop (mkF m 10 #[.val (.ref o0)] [(.ref o0)]))
  obtain ⟨T2, X2, e2, st2⟩ := getF X1 hx hZ hown (host := "") (Or.inl (hw _ (List.mem_of_getElem? (i := 19) rfl))) Via.refl e1 F_at (g := (mkF m 10 #[.val (.ref o0)] [(.ref o0)])) rfl rfl (hb hby d5_10)
  refine bk (fun t k => st2 t k) ?_
  show F (T2.setTop (mkF m 13 #[.val (.ref o0)] [(.int (3 : Int32))]))
  refine bk (fun t k => XS.ifYes X2.here hx rfl (pc0 := 13) (pc' := 18) rfl (hb hby d5_13) rfl ((if0 _ _).trans (feq (by decide : ¬ ((3 : Int32) = (0 : Int32)))).2) (by decide) (by decide) k) ?_
  refine bk (fun t k => XS.aloadN X2.here hx rfl (hb hby d5_18) rfl rfl k) ?_
  refine bk (fun t k => XS.dup X2.here hx rfl (hb hby d5_19) rfl rfl k) ?_
  show F (T2.setTop (mkF m 20 #[.val (.ref o0)] [(.ref o0), (.ref o0)]))
  obtain ⟨T3, X3, e3, st3⟩ := getF X2 hx hZ hown (host := "") (Or.inl (hw _ (List.mem_of_getElem? (i := 19) rfl))) Via.refl e2 F_at (g := (mkF m 20 #[.val (.ref o0)] [(.ref o0), (.ref o0)])) rfl rfl (hb hby d5_20)
  refine bk (fun t k => st3 t k) ?_
  refine bk (fun t k => XS.iconst X3.here hx rfl (hb hby d5_23) k) ?_
  show F (T3.setTop (mkF m 24 #[.val (.ref o0)] [(.int (1 : Int32)), (.int (3 : Int32)), (.ref o0)]))
  refine bk (fun t k => XS.isub X3.here hx rfl (hb hby d5_24) rfl k) ?_
  show F (T3.setTop (mkF m 25 #[.val (.ref o0)] [(.int (2 : Int32)), (.ref o0)]))
  obtain ⟨T4, h4, X4, e4, W4, st4⟩ := putF X3 hx hZ hown (host := "") (Or.inl (hw _ (List.mem_of_getElem? (i := 19) rfl))) Via.refl e3 F_at E_s (Or.inl (hw _ (List.mem_of_getElem? (i := 20) rfl))) (hw _ (List.mem_of_getElem? (i := 9) rfl)) (ty := .int) (by decide) rfl rfl (g := (mkF m 25 #[.val (.ref o0)] [(.int (2 : Int32)), (.ref o0)])) rfl rfl (hb hby d5_25)
  have f5 := E_s.wr W4
  have f6 := F_words.other W4 (Or.inr (slot_ne (Or.inr (hw _ (List.mem_of_getElem? (i := 18) rfl))) (Or.inl (hw _ (List.mem_of_getElem? (i := 20) rfl))) (by decide) (t := (.array .long)) (t' := .int) (by decide) (by decide)))
  have f7 := F_at.same W4
  have f8 := F_word.other W4 (Or.inr (slot_ne (Or.inl (hw _ (List.mem_of_getElem? (i := 27) rfl))) (Or.inl (hw _ (List.mem_of_getElem? (i := 20) rfl))) (by decide) (t := .long) (t' := .int) (by decide) (by decide)))
  have f9 := V_ar.other W4 (Ne.symm ne_s_ar)
  have f10 := Nat.le_trans Z0 (Keep.of_wr W4).1
  have N4 := Fr.snoc X4 N0 g_s
  refine bk (fun t k => st4 t k) ?_
  refine bk (fun t k => XS.aloadN X4.here hx rfl (hb hby d5_28) rfl rfl k) ?_
  refine bk (fun t k => XS.aloadN X4.here hx rfl (hb hby d5_29) rfl rfl k) ?_
  show F (T4.setTop (mkF m 30 #[.val (.ref o0)] [(.ref o0), (.ref o0)]))
  obtain ⟨T11, X11, e11, st11⟩ := getF X4 hx hZ hown (host := "") (Or.inl (hw _ (List.mem_of_getElem? (i := 17) rfl))) Via.refl e4 f6 (g := (mkF m 30 #[.val (.ref o0)] [(.ref o0), (.ref o0)])) rfl rfl (hb hby d5_30)
  refine bk (fun t k => st11 t k) ?_
  refine bk (fun t k => XS.aloadN X11.here hx rfl (hb hby d5_33) rfl rfl k) ?_
  show F (T11.setTop (mkF m 34 #[.val (.ref o0)] [(.ref o0), (.ref ar), (.ref o0)]))
  obtain ⟨T12, X12, e12, st12⟩ := getF X11 hx hZ hown (host := "") (Or.inl (hw _ (List.mem_of_getElem? (i := 19) rfl))) Via.refl e11 f7 (g := (mkF m 34 #[.val (.ref o0)] [(.ref o0), (.ref ar), (.ref o0)])) rfl rfl (hb hby d5_34)
  refine bk (fun t k => st12 t k) ?_
  show F (T12.setTop (mkF m 37 #[.val (.ref o0)] [(.int (2 : Int32)), (.ref ar), (.ref o0)]))
  have vv13 := f9
  obtain ⟨cl13, Ar13, q13, S13, M13, H13, G13⟩ := vv13
  have hin13 : ¬ ((2 : Int32) < 0 ∨ cl13.slots.size ≤ ((2 : Int32)).toNatClampNeg) := inb_of S13 ⟨by decide, hz2⟩
  refine bk (fun t k => X12.laload hx (j := (2 : Int32)) (v := (.long u2)) (by rw [e12]; exact Ar13.1) (State.isArrayOf_alike hZ.alike Ar13.2.1) Ar13.2.2 hin13 (Has.at H13 hin13 rfl) (g := (mkF m 37 #[.val (.ref o0)] [(.int (2 : Int32)), (.ref ar), (.ref o0)])) rfl rfl (hb hby d5_37) t k) ?_
  show F (T12.setTop (mkF m 38 #[.val (.ref o0)] [(.long u2), (.ref o0)]))
  obtain ⟨T14, h14, X14, e14, W14, st14⟩ := putF X12 hx hZ hown (host := "") (Or.inl (hw _ (List.mem_of_getElem? (i := 26) rfl))) Via.refl e12 f8 f5 (Or.inl (hw _ (List.mem_of_getElem? (i := 27) rfl))) (hw _ (List.mem_of_getElem? (i := 9) rfl)) (ty := .long) (by decide) rfl rfl (g := (mkF m 38 #[.val (.ref o0)] [(.long u2), (.ref o0)])) rfl rfl (hb hby d5_38)
  have f15 := f5.wr W14
  have f16 := f6.other W14 (Or.inr (slot_ne (Or.inr (hw _ (List.mem_of_getElem? (i := 18) rfl))) (Or.inl (hw _ (List.mem_of_getElem? (i := 27) rfl))) (by decide) (t := (.array .long)) (t' := .long) (by decide) (by decide)))
  have f17 := f7.other W14 (Or.inr (slot_ne (Or.inl (hw _ (List.mem_of_getElem? (i := 20) rfl))) (Or.inl (hw _ (List.mem_of_getElem? (i := 27) rfl))) (by decide) (t := .int) (t' := .long) (by decide) (by decide)))
  have f18 := f8.same W14
  have f19 := f9.other W14 (Ne.symm ne_s_ar)
  have f20 := Nat.le_trans f10 (Keep.of_wr W14).1
  have N14 := Fr.snoc X14 N4 g_s
  refine bk (fun t k => st14 t k) ?_
  refine bk (fun t k => XS.goto X14.here hx rfl (pc0 := 41) (pc' := 0) rfl (hb hby d5_41) (by decide) (by decide) k) ?_
  refine bk (fun t k => XS.aloadN X14.here hx rfl (hb hby d5_0) rfl rfl k) ?_
  show F (T14.setTop (mkF m 1 #[.val (.ref o0)] [(.ref o0)]))
  obtain ⟨T21, X21, e21, st21⟩ := getF X14 hx hZ hown (host := "") (Or.inl (hw _ (List.mem_of_getElem? (i := 26) rfl))) Via.refl e14 f18 (g := (mkF m 1 #[.val (.ref o0)] [(.ref o0)])) rfl rfl (hb hby d5_1)
  refine bk (fun t k => st21 t k) ?_
  refine bk (fun t k => XS.lconst X21.here hx rfl (hb hby d5_4) k) ?_
  show F (T21.setTop (mkF m 5 #[.val (.ref o0)] [(.long (0 : Int64)), (.long u2)]))
  refine bk (fun t k => XS.lcmp X21.here hx rfl (hb hby d5_5) rfl k) ?_
  show F (T21.setTop (mkF m 6 #[.val (.ref o0)] [(.int (lcmpW u2 (0 : Int64)))]))
  refine bk (fun t k => XS.ifYes X21.here hx rfl (pc0 := 6) (pc' := 44) rfl (hb hby d5_6) rfl ((if0 _ _).trans (feq (fun q => he2 ((lw_eq _ _).mp q))).2) (by decide) (by decide) k) ?_
  refine bk (fun t k => XS.iconst X21.here hx rfl (hb hby d5_44) k) ?_
  show F (T21.setTop (mkF m 45 #[.val (.ref o0)] [(.int (1 : Int32))]))
  rw [hF]
  refine own_retZ X21 hx Bd.notSynchronized Bd.returns (hb hby d5_45) (by decide) (by decide) ?_
  rw [e21]
  exact ⟨rfl, N14, f20, ⟨f15, f16, f17, f18, f19⟩⟩
def Q5Z31 (Z : State) (o0 : Addr) (ar : Addr) (kk : ClassId) (z : Int32) (u0 : Int64) (u1 : Int64) (u2 : Int64) (h0 : Heap) (n0 : Nat) (v : Option Value) (h : Heap) (L : List Loc) : Prop := v = some (.int (1 : Int32)) ∧ Fr n0 L ∧ n0 ≤ h.size ∧ own_S Z h o0 ar kk z (1 : Int32) u1 u0 u1 u2
set_option maxRecDepth 65536 in
set_option maxHeartbeats 40000000 in
theorem rm5Z31 (l : Launch) (Z : State) (a0 : Array Value) (hw : ∀ d ∈ tables_1, d.before a0 Z = true) (ws : List Jvm.Cond) (o0 : Addr) (ar : Addr) (kk : ClassId) (z : Int32) (u0 : Int64) (u1 : Int64) (u2 : Int64) (h0 : Heap) (n0 : Nat) (Z0 : n0 ≤ h0.size) (P0 : own_S Z h0 o0 ar kk z (3 : Int32) (0 : Int64) u0 u1 u2) (g_s : n0 ≤ o0) (ne_s_ar : o0 ≠ ar) (hz0 : (0 : Int32) < z) (hz1 : (1 : Int32) < z) (hz2 : (2 : Int32) < z) (he2 : u2 = (0 : Int64)) (he1 : ¬ u1 = (0 : Int64)) :
    MetFree l (⟨"com/example/lone1/lone1/solve/SweepOrder", "hasNext", "()Z"⟩ : MethodName) (head1 (Jvm.Cond.code (⟨"com/example/lone1/lone1/solve/SweepOrder", "hasNext", "()Z"⟩ : MethodName) prog_114_method_2_code 1 (some .boolean) :: ws) ({ frames := 0, cells := 0, slots := 0, locals := 0 } : Room)) (fun a U => a = #[(.ref o0)] ∧ Z.Warmed39 U.vm ∧ U.heap = h0) (fun _ _ _ _ _ => True) (fun _ U o U' => ∃ v L, o = .returned v ∧ Q5Z31 Z o0 ar kk z u0 u1 u2 h0 n0 v U'.heap L ∧ FrameEnd U o U' L ({ frames := 0, cells := 0, slots := 0, locals := 0 } : Room).cells ({ frames := 0, cells := 0, slots := 0, locals := 0 } : Room).slots) := by
  refine MetFree.of_bodySF (plainFor_of_name pn_5) hisR ?_
  intro p e s m args below meth c s₁ Bd hml0 hP hK
  obtain ⟨rfl, hZ, hh⟩ := hP
  have hx := Bd.exec
  have hby := Bd.bytes
  have hml : c.maxLocals = 1 := hml0
  have hown : s.vm.findClass "com/example/lone1/lone1/solve/SweepOrder" = some m.cls := findClass_of_methodNamed Bd.named
  have hnm := (name_of_methodNamed Bd.named Bd.method).1
  have X0 : Stand p l e ({ frames := 0, cells := 0, slots := 0, locals := 0 } : Room) s m #[(.ref o0)] below meth c s₁ [] 0 0 := Stand.of_body Bd
  have e0 : s₁.heap = h0 := by rw [← hh, Bd.state]; rfl
  have N0 := Fr.nil n0
  obtain ⟨F, hF⟩ : ∃ F : State → Prop, F = own_Fin p e below s ({ frames := 0, cells := 0, slots := 0, locals := 0 } : Room).cells ({ frames := 0, cells := 0, slots := 0, locals := 0 } : Room).slots (fun v h L => Q5Z31 Z o0 ar kk z u0 u1 u2 h0 n0 v h L) := ⟨_, rfl⟩
  have bk : ∀ {A B : State}, (∀ t, Steps p.tables e below B t → Steps p.tables e below A t) → F B → F A := by
    intro A B h k
    rw [hF] at k ⊢
    exact own_back h k
  suffices hgo : F (s₁.setTop (mkF m 0 #[.val (.ref o0)] [])) by
    have hgo' := bk (fun t k => castTop (T := s₁) (ef_5 m o0) k) hgo
    rw [hF] at hgo'
    exact hgo'
  obtain ⟨E_s, F_words, F_at, F_word, V_ar⟩ := P0
  refine bk (fun t k => XS.aloadN X0.here hx rfl (hb hby d5_0) rfl rfl k) ?_
  show F (s₁.setTop (mkF m 1 #[.val (.ref o0)] [(.ref o0)]))
  obtain ⟨T1, X1, e1, st1⟩ := getF X0 hx hZ hown (host := "") (Or.inl (hw _ (List.mem_of_getElem? (i := 26) rfl))) Via.refl e0 F_word (g := (mkF m 1 #[.val (.ref o0)] [(.ref o0)])) rfl rfl (hb hby d5_1)
  refine bk (fun t k => st1 t k) ?_
  refine bk (fun t k => XS.lconst X1.here hx rfl (hb hby d5_4) k) ?_
  show F (T1.setTop (mkF m 5 #[.val (.ref o0)] [(.long (0 : Int64)), (.long (0 : Int64))]))
  refine bk (fun t k => XS.lcmp X1.here hx rfl (hb hby d5_5) rfl k) ?_
  show F (T1.setTop (mkF m 6 #[.val (.ref o0)] [(.int (lcmpW (0 : Int64) (0 : Int64)))]))
  refine bk (fun t k => XS.ifNo X1.here hx rfl (hb hby d5_6) rfl ((if0 _ _).trans (teq ((lw_eq _ _).mpr (by decide : (0 : Int64) = (0 : Int64)))).2) k) ?_
  refine bk (fun t k => XS.aloadN X1.here hx rfl (hb hby d5_9) rfl rfl k) ?_
  show F (T1.setTop (mkF m 10 #[.val (.ref o0)] [(.ref o0)]))
  obtain ⟨T2, X2, e2, st2⟩ := getF X1 hx hZ hown (host := "") (Or.inl (hw _ (List.mem_of_getElem? (i := 19) rfl))) Via.refl e1 F_at (g := (mkF m 10 #[.val (.ref o0)] [(.ref o0)])) rfl rfl (hb hby d5_10)
  refine bk (fun t k => st2 t k) ?_
  show F (T2.setTop (mkF m 13 #[.val (.ref o0)] [(.int (3 : Int32))]))
  refine bk (fun t k => XS.ifYes X2.here hx rfl (pc0 := 13) (pc' := 18) rfl (hb hby d5_13) rfl ((if0 _ _).trans (feq (by decide : ¬ ((3 : Int32) = (0 : Int32)))).2) (by decide) (by decide) k) ?_
  refine bk (fun t k => XS.aloadN X2.here hx rfl (hb hby d5_18) rfl rfl k) ?_
  refine bk (fun t k => XS.dup X2.here hx rfl (hb hby d5_19) rfl rfl k) ?_
  show F (T2.setTop (mkF m 20 #[.val (.ref o0)] [(.ref o0), (.ref o0)]))
  obtain ⟨T3, X3, e3, st3⟩ := getF X2 hx hZ hown (host := "") (Or.inl (hw _ (List.mem_of_getElem? (i := 19) rfl))) Via.refl e2 F_at (g := (mkF m 20 #[.val (.ref o0)] [(.ref o0), (.ref o0)])) rfl rfl (hb hby d5_20)
  refine bk (fun t k => st3 t k) ?_
  refine bk (fun t k => XS.iconst X3.here hx rfl (hb hby d5_23) k) ?_
  show F (T3.setTop (mkF m 24 #[.val (.ref o0)] [(.int (1 : Int32)), (.int (3 : Int32)), (.ref o0)]))
  refine bk (fun t k => XS.isub X3.here hx rfl (hb hby d5_24) rfl k) ?_
  show F (T3.setTop (mkF m 25 #[.val (.ref o0)] [(.int (2 : Int32)), (.ref o0)]))
  obtain ⟨T4, h4, X4, e4, W4, st4⟩ := putF X3 hx hZ hown (host := "") (Or.inl (hw _ (List.mem_of_getElem? (i := 19) rfl))) Via.refl e3 F_at E_s (Or.inl (hw _ (List.mem_of_getElem? (i := 20) rfl))) (hw _ (List.mem_of_getElem? (i := 9) rfl)) (ty := .int) (by decide) rfl rfl (g := (mkF m 25 #[.val (.ref o0)] [(.int (2 : Int32)), (.ref o0)])) rfl rfl (hb hby d5_25)
  have f5 := E_s.wr W4
  have f6 := F_words.other W4 (Or.inr (slot_ne (Or.inr (hw _ (List.mem_of_getElem? (i := 18) rfl))) (Or.inl (hw _ (List.mem_of_getElem? (i := 20) rfl))) (by decide) (t := (.array .long)) (t' := .int) (by decide) (by decide)))
  have f7 := F_at.same W4
  have f8 := F_word.other W4 (Or.inr (slot_ne (Or.inl (hw _ (List.mem_of_getElem? (i := 27) rfl))) (Or.inl (hw _ (List.mem_of_getElem? (i := 20) rfl))) (by decide) (t := .long) (t' := .int) (by decide) (by decide)))
  have f9 := V_ar.other W4 (Ne.symm ne_s_ar)
  have f10 := Nat.le_trans Z0 (Keep.of_wr W4).1
  have N4 := Fr.snoc X4 N0 g_s
  refine bk (fun t k => st4 t k) ?_
  refine bk (fun t k => XS.aloadN X4.here hx rfl (hb hby d5_28) rfl rfl k) ?_
  refine bk (fun t k => XS.aloadN X4.here hx rfl (hb hby d5_29) rfl rfl k) ?_
  show F (T4.setTop (mkF m 30 #[.val (.ref o0)] [(.ref o0), (.ref o0)]))
  obtain ⟨T11, X11, e11, st11⟩ := getF X4 hx hZ hown (host := "") (Or.inl (hw _ (List.mem_of_getElem? (i := 17) rfl))) Via.refl e4 f6 (g := (mkF m 30 #[.val (.ref o0)] [(.ref o0), (.ref o0)])) rfl rfl (hb hby d5_30)
  refine bk (fun t k => st11 t k) ?_
  refine bk (fun t k => XS.aloadN X11.here hx rfl (hb hby d5_33) rfl rfl k) ?_
  show F (T11.setTop (mkF m 34 #[.val (.ref o0)] [(.ref o0), (.ref ar), (.ref o0)]))
  obtain ⟨T12, X12, e12, st12⟩ := getF X11 hx hZ hown (host := "") (Or.inl (hw _ (List.mem_of_getElem? (i := 19) rfl))) Via.refl e11 f7 (g := (mkF m 34 #[.val (.ref o0)] [(.ref o0), (.ref ar), (.ref o0)])) rfl rfl (hb hby d5_34)
  refine bk (fun t k => st12 t k) ?_
  show F (T12.setTop (mkF m 37 #[.val (.ref o0)] [(.int (2 : Int32)), (.ref ar), (.ref o0)]))
  have vv13 := f9
  obtain ⟨cl13, Ar13, q13, S13, M13, H13, G13⟩ := vv13
  have hin13 : ¬ ((2 : Int32) < 0 ∨ cl13.slots.size ≤ ((2 : Int32)).toNatClampNeg) := inb_of S13 ⟨by decide, hz2⟩
  refine bk (fun t k => X12.laload hx (j := (2 : Int32)) (v := (.long u2)) (by rw [e12]; exact Ar13.1) (State.isArrayOf_alike hZ.alike Ar13.2.1) Ar13.2.2 hin13 (Has.at H13 hin13 rfl) (g := (mkF m 37 #[.val (.ref o0)] [(.int (2 : Int32)), (.ref ar), (.ref o0)])) rfl rfl (hb hby d5_37) t k) ?_
  show F (T12.setTop (mkF m 38 #[.val (.ref o0)] [(.long u2), (.ref o0)]))
  obtain ⟨T14, h14, X14, e14, W14, st14⟩ := putF X12 hx hZ hown (host := "") (Or.inl (hw _ (List.mem_of_getElem? (i := 26) rfl))) Via.refl e12 f8 f5 (Or.inl (hw _ (List.mem_of_getElem? (i := 27) rfl))) (hw _ (List.mem_of_getElem? (i := 9) rfl)) (ty := .long) (by decide) rfl rfl (g := (mkF m 38 #[.val (.ref o0)] [(.long u2), (.ref o0)])) rfl rfl (hb hby d5_38)
  have f15 := f5.wr W14
  have f16 := f6.other W14 (Or.inr (slot_ne (Or.inr (hw _ (List.mem_of_getElem? (i := 18) rfl))) (Or.inl (hw _ (List.mem_of_getElem? (i := 27) rfl))) (by decide) (t := (.array .long)) (t' := .long) (by decide) (by decide)))
  have f17 := f7.other W14 (Or.inr (slot_ne (Or.inl (hw _ (List.mem_of_getElem? (i := 20) rfl))) (Or.inl (hw _ (List.mem_of_getElem? (i := 27) rfl))) (by decide) (t := .int) (t' := .long) (by decide) (by decide)))
  have f18 := f8.same W14
  have f19 := f9.other W14 (Ne.symm ne_s_ar)
  have f20 := Nat.le_trans f10 (Keep.of_wr W14).1
  have N14 := Fr.snoc X14 N4 g_s
  refine bk (fun t k => st14 t k) ?_
  refine bk (fun t k => XS.goto X14.here hx rfl (pc0 := 41) (pc' := 0) rfl (hb hby d5_41) (by decide) (by decide) k) ?_
  refine bk (fun t k => XS.aloadN X14.here hx rfl (hb hby d5_0) rfl rfl k) ?_
  show F (T14.setTop (mkF m 1 #[.val (.ref o0)] [(.ref o0)]))
  obtain ⟨T21, X21, e21, st21⟩ := getF X14 hx hZ hown (host := "") (Or.inl (hw _ (List.mem_of_getElem? (i := 26) rfl))) Via.refl e14 f18 (g := (mkF m 1 #[.val (.ref o0)] [(.ref o0)])) rfl rfl (hb hby d5_1)
  refine bk (fun t k => st21 t k) ?_
  refine bk (fun t k => XS.lconst X21.here hx rfl (hb hby d5_4) k) ?_
  show F (T21.setTop (mkF m 5 #[.val (.ref o0)] [(.long (0 : Int64)), (.long u2)]))
  refine bk (fun t k => XS.lcmp X21.here hx rfl (hb hby d5_5) rfl k) ?_
  show F (T21.setTop (mkF m 6 #[.val (.ref o0)] [(.int (lcmpW u2 (0 : Int64)))]))
  refine bk (fun t k => XS.ifNo X21.here hx rfl (hb hby d5_6) rfl ((if0 _ _).trans (teq ((lw_eq _ _).mpr he2)).2) k) ?_
  refine bk (fun t k => XS.aloadN X21.here hx rfl (hb hby d5_9) rfl rfl k) ?_
  show F (T21.setTop (mkF m 10 #[.val (.ref o0)] [(.ref o0)]))
  obtain ⟨T22, X22, e22, st22⟩ := getF X21 hx hZ hown (host := "") (Or.inl (hw _ (List.mem_of_getElem? (i := 19) rfl))) Via.refl e21 f17 (g := (mkF m 10 #[.val (.ref o0)] [(.ref o0)])) rfl rfl (hb hby d5_10)
  refine bk (fun t k => st22 t k) ?_
  show F (T22.setTop (mkF m 13 #[.val (.ref o0)] [(.int (2 : Int32))]))
  refine bk (fun t k => XS.ifYes X22.here hx rfl (pc0 := 13) (pc' := 18) rfl (hb hby d5_13) rfl ((if0 _ _).trans (feq (by decide : ¬ ((2 : Int32) = (0 : Int32)))).2) (by decide) (by decide) k) ?_
  refine bk (fun t k => XS.aloadN X22.here hx rfl (hb hby d5_18) rfl rfl k) ?_
  refine bk (fun t k => XS.dup X22.here hx rfl (hb hby d5_19) rfl rfl k) ?_
  show F (T22.setTop (mkF m 20 #[.val (.ref o0)] [(.ref o0), (.ref o0)]))
  obtain ⟨T23, X23, e23, st23⟩ := getF X22 hx hZ hown (host := "") (Or.inl (hw _ (List.mem_of_getElem? (i := 19) rfl))) Via.refl e22 f17 (g := (mkF m 20 #[.val (.ref o0)] [(.ref o0), (.ref o0)])) rfl rfl (hb hby d5_20)
  refine bk (fun t k => st23 t k) ?_
  refine bk (fun t k => XS.iconst X23.here hx rfl (hb hby d5_23) k) ?_
  show F (T23.setTop (mkF m 24 #[.val (.ref o0)] [(.int (1 : Int32)), (.int (2 : Int32)), (.ref o0)]))
  refine bk (fun t k => XS.isub X23.here hx rfl (hb hby d5_24) rfl k) ?_
  show F (T23.setTop (mkF m 25 #[.val (.ref o0)] [(.int (1 : Int32)), (.ref o0)]))
  obtain ⟨T24, h24, X24, e24, W24, st24⟩ := putF X23 hx hZ hown (host := "") (Or.inl (hw _ (List.mem_of_getElem? (i := 19) rfl))) Via.refl e23 f17 f15 (Or.inl (hw _ (List.mem_of_getElem? (i := 20) rfl))) (hw _ (List.mem_of_getElem? (i := 9) rfl)) (ty := .int) (by decide) rfl rfl (g := (mkF m 25 #[.val (.ref o0)] [(.int (1 : Int32)), (.ref o0)])) rfl rfl (hb hby d5_25)
  have f25 := f15.wr W24
  have f26 := f16.other W24 (Or.inr (slot_ne (Or.inr (hw _ (List.mem_of_getElem? (i := 18) rfl))) (Or.inl (hw _ (List.mem_of_getElem? (i := 20) rfl))) (by decide) (t := (.array .long)) (t' := .int) (by decide) (by decide)))
  have f27 := f17.same W24
  have f28 := f18.other W24 (Or.inr (slot_ne (Or.inl (hw _ (List.mem_of_getElem? (i := 27) rfl))) (Or.inl (hw _ (List.mem_of_getElem? (i := 20) rfl))) (by decide) (t := .long) (t' := .int) (by decide) (by decide)))
  have f29 := f19.other W24 (Ne.symm ne_s_ar)
  have f30 := Nat.le_trans f20 (Keep.of_wr W24).1
  have N24 := Fr.snoc X24 N14 g_s
  refine bk (fun t k => st24 t k) ?_
  refine bk (fun t k => XS.aloadN X24.here hx rfl (hb hby d5_28) rfl rfl k) ?_
  refine bk (fun t k => XS.aloadN X24.here hx rfl (hb hby d5_29) rfl rfl k) ?_
  show F (T24.setTop (mkF m 30 #[.val (.ref o0)] [(.ref o0), (.ref o0)]))
  obtain ⟨T31, X31, e31, st31⟩ := getF X24 hx hZ hown (host := "") (Or.inl (hw _ (List.mem_of_getElem? (i := 17) rfl))) Via.refl e24 f26 (g := (mkF m 30 #[.val (.ref o0)] [(.ref o0), (.ref o0)])) rfl rfl (hb hby d5_30)
  refine bk (fun t k => st31 t k) ?_
  refine bk (fun t k => XS.aloadN X31.here hx rfl (hb hby d5_33) rfl rfl k) ?_
  show F (T31.setTop (mkF m 34 #[.val (.ref o0)] [(.ref o0), (.ref ar), (.ref o0)]))
  obtain ⟨T32, X32, e32, st32⟩ := getF X31 hx hZ hown (host := "") (Or.inl (hw _ (List.mem_of_getElem? (i := 19) rfl))) Via.refl e31 f27 (g := (mkF m 34 #[.val (.ref o0)] [(.ref o0), (.ref ar), (.ref o0)])) rfl rfl (hb hby d5_34)
  refine bk (fun t k => st32 t k) ?_
  show F (T32.setTop (mkF m 37 #[.val (.ref o0)] [(.int (1 : Int32)), (.ref ar), (.ref o0)]))
  have vv33 := f29
  obtain ⟨cl33, Ar33, q33, S33, M33, H33, G33⟩ := vv33
  have hin33 : ¬ ((1 : Int32) < 0 ∨ cl33.slots.size ≤ ((1 : Int32)).toNatClampNeg) := inb_of S33 ⟨by decide, hz1⟩
  refine bk (fun t k => X32.laload hx (j := (1 : Int32)) (v := (.long u1)) (by rw [e32]; exact Ar33.1) (State.isArrayOf_alike hZ.alike Ar33.2.1) Ar33.2.2 hin33 (Has.at H33 hin33 rfl) (g := (mkF m 37 #[.val (.ref o0)] [(.int (1 : Int32)), (.ref ar), (.ref o0)])) rfl rfl (hb hby d5_37) t k) ?_
  show F (T32.setTop (mkF m 38 #[.val (.ref o0)] [(.long u1), (.ref o0)]))
  obtain ⟨T34, h34, X34, e34, W34, st34⟩ := putF X32 hx hZ hown (host := "") (Or.inl (hw _ (List.mem_of_getElem? (i := 26) rfl))) Via.refl e32 f28 f25 (Or.inl (hw _ (List.mem_of_getElem? (i := 27) rfl))) (hw _ (List.mem_of_getElem? (i := 9) rfl)) (ty := .long) (by decide) rfl rfl (g := (mkF m 38 #[.val (.ref o0)] [(.long u1), (.ref o0)])) rfl rfl (hb hby d5_38)
  have f35 := f25.wr W34
  have f36 := f26.other W34 (Or.inr (slot_ne (Or.inr (hw _ (List.mem_of_getElem? (i := 18) rfl))) (Or.inl (hw _ (List.mem_of_getElem? (i := 27) rfl))) (by decide) (t := (.array .long)) (t' := .long) (by decide) (by decide)))
  have f37 := f27.other W34 (Or.inr (slot_ne (Or.inl (hw _ (List.mem_of_getElem? (i := 20) rfl))) (Or.inl (hw _ (List.mem_of_getElem? (i := 27) rfl))) (by decide) (t := .int) (t' := .long) (by decide) (by decide)))
  have f38 := f28.same W34
  have f39 := f29.other W34 (Ne.symm ne_s_ar)
  have f40 := Nat.le_trans f30 (Keep.of_wr W34).1
  have N34 := Fr.snoc X34 N24 g_s
  refine bk (fun t k => st34 t k) ?_
  refine bk (fun t k => XS.goto X34.here hx rfl (pc0 := 41) (pc' := 0) rfl (hb hby d5_41) (by decide) (by decide) k) ?_
  refine bk (fun t k => XS.aloadN X34.here hx rfl (hb hby d5_0) rfl rfl k) ?_
  show F (T34.setTop (mkF m 1 #[.val (.ref o0)] [(.ref o0)]))
  obtain ⟨T41, X41, e41, st41⟩ := getF X34 hx hZ hown (host := "") (Or.inl (hw _ (List.mem_of_getElem? (i := 26) rfl))) Via.refl e34 f38 (g := (mkF m 1 #[.val (.ref o0)] [(.ref o0)])) rfl rfl (hb hby d5_1)
  refine bk (fun t k => st41 t k) ?_
  refine bk (fun t k => XS.lconst X41.here hx rfl (hb hby d5_4) k) ?_
  show F (T41.setTop (mkF m 5 #[.val (.ref o0)] [(.long (0 : Int64)), (.long u1)]))
  refine bk (fun t k => XS.lcmp X41.here hx rfl (hb hby d5_5) rfl k) ?_
  show F (T41.setTop (mkF m 6 #[.val (.ref o0)] [(.int (lcmpW u1 (0 : Int64)))]))
  refine bk (fun t k => XS.ifYes X41.here hx rfl (pc0 := 6) (pc' := 44) rfl (hb hby d5_6) rfl ((if0 _ _).trans (feq (fun q => he1 ((lw_eq _ _).mp q))).2) (by decide) (by decide) k) ?_
  refine bk (fun t k => XS.iconst X41.here hx rfl (hb hby d5_44) k) ?_
  show F (T41.setTop (mkF m 45 #[.val (.ref o0)] [(.int (1 : Int32))]))
  rw [hF]
  refine own_retZ X41 hx Bd.notSynchronized Bd.returns (hb hby d5_45) (by decide) (by decide) ?_
  rw [e41]
  exact ⟨rfl, N34, f40, ⟨f35, f36, f37, f38, f39⟩⟩
def Q5Z30 (Z : State) (o0 : Addr) (ar : Addr) (kk : ClassId) (z : Int32) (u0 : Int64) (u1 : Int64) (u2 : Int64) (h0 : Heap) (n0 : Nat) (v : Option Value) (h : Heap) (L : List Loc) : Prop := v = some (.int (1 : Int32)) ∧ Fr n0 L ∧ n0 ≤ h.size ∧ own_S Z h o0 ar kk z (0 : Int32) u0 u0 u1 u2
set_option maxRecDepth 65536 in
set_option maxHeartbeats 40000000 in
theorem rm5Z30 (l : Launch) (Z : State) (a0 : Array Value) (hw : ∀ d ∈ tables_1, d.before a0 Z = true) (ws : List Jvm.Cond) (o0 : Addr) (ar : Addr) (kk : ClassId) (z : Int32) (u0 : Int64) (u1 : Int64) (u2 : Int64) (h0 : Heap) (n0 : Nat) (Z0 : n0 ≤ h0.size) (P0 : own_S Z h0 o0 ar kk z (3 : Int32) (0 : Int64) u0 u1 u2) (g_s : n0 ≤ o0) (ne_s_ar : o0 ≠ ar) (hz0 : (0 : Int32) < z) (hz1 : (1 : Int32) < z) (hz2 : (2 : Int32) < z) (he2 : u2 = (0 : Int64)) (he1 : u1 = (0 : Int64)) (he0 : ¬ u0 = (0 : Int64)) :
    MetFree l (⟨"com/example/lone1/lone1/solve/SweepOrder", "hasNext", "()Z"⟩ : MethodName) (head1 (Jvm.Cond.code (⟨"com/example/lone1/lone1/solve/SweepOrder", "hasNext", "()Z"⟩ : MethodName) prog_114_method_2_code 1 (some .boolean) :: ws) ({ frames := 0, cells := 0, slots := 0, locals := 0 } : Room)) (fun a U => a = #[(.ref o0)] ∧ Z.Warmed39 U.vm ∧ U.heap = h0) (fun _ _ _ _ _ => True) (fun _ U o U' => ∃ v L, o = .returned v ∧ Q5Z30 Z o0 ar kk z u0 u1 u2 h0 n0 v U'.heap L ∧ FrameEnd U o U' L ({ frames := 0, cells := 0, slots := 0, locals := 0 } : Room).cells ({ frames := 0, cells := 0, slots := 0, locals := 0 } : Room).slots) := by
  refine MetFree.of_bodySF (plainFor_of_name pn_5) hisR ?_
  intro p e s m args below meth c s₁ Bd hml0 hP hK
  obtain ⟨rfl, hZ, hh⟩ := hP
  have hx := Bd.exec
  have hby := Bd.bytes
  have hml : c.maxLocals = 1 := hml0
  have hown : s.vm.findClass "com/example/lone1/lone1/solve/SweepOrder" = some m.cls := findClass_of_methodNamed Bd.named
  have hnm := (name_of_methodNamed Bd.named Bd.method).1
  have X0 : Stand p l e ({ frames := 0, cells := 0, slots := 0, locals := 0 } : Room) s m #[(.ref o0)] below meth c s₁ [] 0 0 := Stand.of_body Bd
  have e0 : s₁.heap = h0 := by rw [← hh, Bd.state]; rfl
  have N0 := Fr.nil n0
  obtain ⟨F, hF⟩ : ∃ F : State → Prop, F = own_Fin p e below s ({ frames := 0, cells := 0, slots := 0, locals := 0 } : Room).cells ({ frames := 0, cells := 0, slots := 0, locals := 0 } : Room).slots (fun v h L => Q5Z30 Z o0 ar kk z u0 u1 u2 h0 n0 v h L) := ⟨_, rfl⟩
  have bk : ∀ {A B : State}, (∀ t, Steps p.tables e below B t → Steps p.tables e below A t) → F B → F A := by
    intro A B h k
    rw [hF] at k ⊢
    exact own_back h k
  suffices hgo : F (s₁.setTop (mkF m 0 #[.val (.ref o0)] [])) by
    have hgo' := bk (fun t k => castTop (T := s₁) (ef_5 m o0) k) hgo
    rw [hF] at hgo'
    exact hgo'
  obtain ⟨E_s, F_words, F_at, F_word, V_ar⟩ := P0
  refine bk (fun t k => XS.aloadN X0.here hx rfl (hb hby d5_0) rfl rfl k) ?_
  show F (s₁.setTop (mkF m 1 #[.val (.ref o0)] [(.ref o0)]))
  obtain ⟨T1, X1, e1, st1⟩ := getF X0 hx hZ hown (host := "") (Or.inl (hw _ (List.mem_of_getElem? (i := 26) rfl))) Via.refl e0 F_word (g := (mkF m 1 #[.val (.ref o0)] [(.ref o0)])) rfl rfl (hb hby d5_1)
  refine bk (fun t k => st1 t k) ?_
  refine bk (fun t k => XS.lconst X1.here hx rfl (hb hby d5_4) k) ?_
  show F (T1.setTop (mkF m 5 #[.val (.ref o0)] [(.long (0 : Int64)), (.long (0 : Int64))]))
  refine bk (fun t k => XS.lcmp X1.here hx rfl (hb hby d5_5) rfl k) ?_
  show F (T1.setTop (mkF m 6 #[.val (.ref o0)] [(.int (lcmpW (0 : Int64) (0 : Int64)))]))
  refine bk (fun t k => XS.ifNo X1.here hx rfl (hb hby d5_6) rfl ((if0 _ _).trans (teq ((lw_eq _ _).mpr (by decide : (0 : Int64) = (0 : Int64)))).2) k) ?_
  refine bk (fun t k => XS.aloadN X1.here hx rfl (hb hby d5_9) rfl rfl k) ?_
  show F (T1.setTop (mkF m 10 #[.val (.ref o0)] [(.ref o0)]))
  obtain ⟨T2, X2, e2, st2⟩ := getF X1 hx hZ hown (host := "") (Or.inl (hw _ (List.mem_of_getElem? (i := 19) rfl))) Via.refl e1 F_at (g := (mkF m 10 #[.val (.ref o0)] [(.ref o0)])) rfl rfl (hb hby d5_10)
  refine bk (fun t k => st2 t k) ?_
  show F (T2.setTop (mkF m 13 #[.val (.ref o0)] [(.int (3 : Int32))]))
  refine bk (fun t k => XS.ifYes X2.here hx rfl (pc0 := 13) (pc' := 18) rfl (hb hby d5_13) rfl ((if0 _ _).trans (feq (by decide : ¬ ((3 : Int32) = (0 : Int32)))).2) (by decide) (by decide) k) ?_
  refine bk (fun t k => XS.aloadN X2.here hx rfl (hb hby d5_18) rfl rfl k) ?_
  refine bk (fun t k => XS.dup X2.here hx rfl (hb hby d5_19) rfl rfl k) ?_
  show F (T2.setTop (mkF m 20 #[.val (.ref o0)] [(.ref o0), (.ref o0)]))
  obtain ⟨T3, X3, e3, st3⟩ := getF X2 hx hZ hown (host := "") (Or.inl (hw _ (List.mem_of_getElem? (i := 19) rfl))) Via.refl e2 F_at (g := (mkF m 20 #[.val (.ref o0)] [(.ref o0), (.ref o0)])) rfl rfl (hb hby d5_20)
  refine bk (fun t k => st3 t k) ?_
  refine bk (fun t k => XS.iconst X3.here hx rfl (hb hby d5_23) k) ?_
  show F (T3.setTop (mkF m 24 #[.val (.ref o0)] [(.int (1 : Int32)), (.int (3 : Int32)), (.ref o0)]))
  refine bk (fun t k => XS.isub X3.here hx rfl (hb hby d5_24) rfl k) ?_
  show F (T3.setTop (mkF m 25 #[.val (.ref o0)] [(.int (2 : Int32)), (.ref o0)]))
  obtain ⟨T4, h4, X4, e4, W4, st4⟩ := putF X3 hx hZ hown (host := "") (Or.inl (hw _ (List.mem_of_getElem? (i := 19) rfl))) Via.refl e3 F_at E_s (Or.inl (hw _ (List.mem_of_getElem? (i := 20) rfl))) (hw _ (List.mem_of_getElem? (i := 9) rfl)) (ty := .int) (by decide) rfl rfl (g := (mkF m 25 #[.val (.ref o0)] [(.int (2 : Int32)), (.ref o0)])) rfl rfl (hb hby d5_25)
  have f5 := E_s.wr W4
  have f6 := F_words.other W4 (Or.inr (slot_ne (Or.inr (hw _ (List.mem_of_getElem? (i := 18) rfl))) (Or.inl (hw _ (List.mem_of_getElem? (i := 20) rfl))) (by decide) (t := (.array .long)) (t' := .int) (by decide) (by decide)))
  have f7 := F_at.same W4
  have f8 := F_word.other W4 (Or.inr (slot_ne (Or.inl (hw _ (List.mem_of_getElem? (i := 27) rfl))) (Or.inl (hw _ (List.mem_of_getElem? (i := 20) rfl))) (by decide) (t := .long) (t' := .int) (by decide) (by decide)))
  have f9 := V_ar.other W4 (Ne.symm ne_s_ar)
  have f10 := Nat.le_trans Z0 (Keep.of_wr W4).1
  have N4 := Fr.snoc X4 N0 g_s
  refine bk (fun t k => st4 t k) ?_
  refine bk (fun t k => XS.aloadN X4.here hx rfl (hb hby d5_28) rfl rfl k) ?_
  refine bk (fun t k => XS.aloadN X4.here hx rfl (hb hby d5_29) rfl rfl k) ?_
  show F (T4.setTop (mkF m 30 #[.val (.ref o0)] [(.ref o0), (.ref o0)]))
  obtain ⟨T11, X11, e11, st11⟩ := getF X4 hx hZ hown (host := "") (Or.inl (hw _ (List.mem_of_getElem? (i := 17) rfl))) Via.refl e4 f6 (g := (mkF m 30 #[.val (.ref o0)] [(.ref o0), (.ref o0)])) rfl rfl (hb hby d5_30)
  refine bk (fun t k => st11 t k) ?_
  refine bk (fun t k => XS.aloadN X11.here hx rfl (hb hby d5_33) rfl rfl k) ?_
  show F (T11.setTop (mkF m 34 #[.val (.ref o0)] [(.ref o0), (.ref ar), (.ref o0)]))
  obtain ⟨T12, X12, e12, st12⟩ := getF X11 hx hZ hown (host := "") (Or.inl (hw _ (List.mem_of_getElem? (i := 19) rfl))) Via.refl e11 f7 (g := (mkF m 34 #[.val (.ref o0)] [(.ref o0), (.ref ar), (.ref o0)])) rfl rfl (hb hby d5_34)
  refine bk (fun t k => st12 t k) ?_
  show F (T12.setTop (mkF m 37 #[.val (.ref o0)] [(.int (2 : Int32)), (.ref ar), (.ref o0)]))
  have vv13 := f9
  obtain ⟨cl13, Ar13, q13, S13, M13, H13, G13⟩ := vv13
  have hin13 : ¬ ((2 : Int32) < 0 ∨ cl13.slots.size ≤ ((2 : Int32)).toNatClampNeg) := inb_of S13 ⟨by decide, hz2⟩
  refine bk (fun t k => X12.laload hx (j := (2 : Int32)) (v := (.long u2)) (by rw [e12]; exact Ar13.1) (State.isArrayOf_alike hZ.alike Ar13.2.1) Ar13.2.2 hin13 (Has.at H13 hin13 rfl) (g := (mkF m 37 #[.val (.ref o0)] [(.int (2 : Int32)), (.ref ar), (.ref o0)])) rfl rfl (hb hby d5_37) t k) ?_
  show F (T12.setTop (mkF m 38 #[.val (.ref o0)] [(.long u2), (.ref o0)]))
  obtain ⟨T14, h14, X14, e14, W14, st14⟩ := putF X12 hx hZ hown (host := "") (Or.inl (hw _ (List.mem_of_getElem? (i := 26) rfl))) Via.refl e12 f8 f5 (Or.inl (hw _ (List.mem_of_getElem? (i := 27) rfl))) (hw _ (List.mem_of_getElem? (i := 9) rfl)) (ty := .long) (by decide) rfl rfl (g := (mkF m 38 #[.val (.ref o0)] [(.long u2), (.ref o0)])) rfl rfl (hb hby d5_38)
  have f15 := f5.wr W14
  have f16 := f6.other W14 (Or.inr (slot_ne (Or.inr (hw _ (List.mem_of_getElem? (i := 18) rfl))) (Or.inl (hw _ (List.mem_of_getElem? (i := 27) rfl))) (by decide) (t := (.array .long)) (t' := .long) (by decide) (by decide)))
  have f17 := f7.other W14 (Or.inr (slot_ne (Or.inl (hw _ (List.mem_of_getElem? (i := 20) rfl))) (Or.inl (hw _ (List.mem_of_getElem? (i := 27) rfl))) (by decide) (t := .int) (t' := .long) (by decide) (by decide)))
  have f18 := f8.same W14
  have f19 := f9.other W14 (Ne.symm ne_s_ar)
  have f20 := Nat.le_trans f10 (Keep.of_wr W14).1
  have N14 := Fr.snoc X14 N4 g_s
  refine bk (fun t k => st14 t k) ?_
  refine bk (fun t k => XS.goto X14.here hx rfl (pc0 := 41) (pc' := 0) rfl (hb hby d5_41) (by decide) (by decide) k) ?_
  refine bk (fun t k => XS.aloadN X14.here hx rfl (hb hby d5_0) rfl rfl k) ?_
  show F (T14.setTop (mkF m 1 #[.val (.ref o0)] [(.ref o0)]))
  obtain ⟨T21, X21, e21, st21⟩ := getF X14 hx hZ hown (host := "") (Or.inl (hw _ (List.mem_of_getElem? (i := 26) rfl))) Via.refl e14 f18 (g := (mkF m 1 #[.val (.ref o0)] [(.ref o0)])) rfl rfl (hb hby d5_1)
  refine bk (fun t k => st21 t k) ?_
  refine bk (fun t k => XS.lconst X21.here hx rfl (hb hby d5_4) k) ?_
  show F (T21.setTop (mkF m 5 #[.val (.ref o0)] [(.long (0 : Int64)), (.long u2)]))
  refine bk (fun t k => XS.lcmp X21.here hx rfl (hb hby d5_5) rfl k) ?_
  show F (T21.setTop (mkF m 6 #[.val (.ref o0)] [(.int (lcmpW u2 (0 : Int64)))]))
  refine bk (fun t k => XS.ifNo X21.here hx rfl (hb hby d5_6) rfl ((if0 _ _).trans (teq ((lw_eq _ _).mpr he2)).2) k) ?_
  refine bk (fun t k => XS.aloadN X21.here hx rfl (hb hby d5_9) rfl rfl k) ?_
  show F (T21.setTop (mkF m 10 #[.val (.ref o0)] [(.ref o0)]))
  obtain ⟨T22, X22, e22, st22⟩ := getF X21 hx hZ hown (host := "") (Or.inl (hw _ (List.mem_of_getElem? (i := 19) rfl))) Via.refl e21 f17 (g := (mkF m 10 #[.val (.ref o0)] [(.ref o0)])) rfl rfl (hb hby d5_10)
  refine bk (fun t k => st22 t k) ?_
  show F (T22.setTop (mkF m 13 #[.val (.ref o0)] [(.int (2 : Int32))]))
  refine bk (fun t k => XS.ifYes X22.here hx rfl (pc0 := 13) (pc' := 18) rfl (hb hby d5_13) rfl ((if0 _ _).trans (feq (by decide : ¬ ((2 : Int32) = (0 : Int32)))).2) (by decide) (by decide) k) ?_
  refine bk (fun t k => XS.aloadN X22.here hx rfl (hb hby d5_18) rfl rfl k) ?_
  refine bk (fun t k => XS.dup X22.here hx rfl (hb hby d5_19) rfl rfl k) ?_
  show F (T22.setTop (mkF m 20 #[.val (.ref o0)] [(.ref o0), (.ref o0)]))
  obtain ⟨T23, X23, e23, st23⟩ := getF X22 hx hZ hown (host := "") (Or.inl (hw _ (List.mem_of_getElem? (i := 19) rfl))) Via.refl e22 f17 (g := (mkF m 20 #[.val (.ref o0)] [(.ref o0), (.ref o0)])) rfl rfl (hb hby d5_20)
  refine bk (fun t k => st23 t k) ?_
  refine bk (fun t k => XS.iconst X23.here hx rfl (hb hby d5_23) k) ?_
  show F (T23.setTop (mkF m 24 #[.val (.ref o0)] [(.int (1 : Int32)), (.int (2 : Int32)), (.ref o0)]))
  refine bk (fun t k => XS.isub X23.here hx rfl (hb hby d5_24) rfl k) ?_
  show F (T23.setTop (mkF m 25 #[.val (.ref o0)] [(.int (1 : Int32)), (.ref o0)]))
  obtain ⟨T24, h24, X24, e24, W24, st24⟩ := putF X23 hx hZ hown (host := "") (Or.inl (hw _ (List.mem_of_getElem? (i := 19) rfl))) Via.refl e23 f17 f15 (Or.inl (hw _ (List.mem_of_getElem? (i := 20) rfl))) (hw _ (List.mem_of_getElem? (i := 9) rfl)) (ty := .int) (by decide) rfl rfl (g := (mkF m 25 #[.val (.ref o0)] [(.int (1 : Int32)), (.ref o0)])) rfl rfl (hb hby d5_25)
  have f25 := f15.wr W24
  have f26 := f16.other W24 (Or.inr (slot_ne (Or.inr (hw _ (List.mem_of_getElem? (i := 18) rfl))) (Or.inl (hw _ (List.mem_of_getElem? (i := 20) rfl))) (by decide) (t := (.array .long)) (t' := .int) (by decide) (by decide)))
  have f27 := f17.same W24
  have f28 := f18.other W24 (Or.inr (slot_ne (Or.inl (hw _ (List.mem_of_getElem? (i := 27) rfl))) (Or.inl (hw _ (List.mem_of_getElem? (i := 20) rfl))) (by decide) (t := .long) (t' := .int) (by decide) (by decide)))
  have f29 := f19.other W24 (Ne.symm ne_s_ar)
  have f30 := Nat.le_trans f20 (Keep.of_wr W24).1
  have N24 := Fr.snoc X24 N14 g_s
  refine bk (fun t k => st24 t k) ?_
  refine bk (fun t k => XS.aloadN X24.here hx rfl (hb hby d5_28) rfl rfl k) ?_
  refine bk (fun t k => XS.aloadN X24.here hx rfl (hb hby d5_29) rfl rfl k) ?_
  show F (T24.setTop (mkF m 30 #[.val (.ref o0)] [(.ref o0), (.ref o0)]))
  obtain ⟨T31, X31, e31, st31⟩ := getF X24 hx hZ hown (host := "") (Or.inl (hw _ (List.mem_of_getElem? (i := 17) rfl))) Via.refl e24 f26 (g := (mkF m 30 #[.val (.ref o0)] [(.ref o0), (.ref o0)])) rfl rfl (hb hby d5_30)
  refine bk (fun t k => st31 t k) ?_
  refine bk (fun t k => XS.aloadN X31.here hx rfl (hb hby d5_33) rfl rfl k) ?_
  show F (T31.setTop (mkF m 34 #[.val (.ref o0)] [(.ref o0), (.ref ar), (.ref o0)]))
  obtain ⟨T32, X32, e32, st32⟩ := getF X31 hx hZ hown (host := "") (Or.inl (hw _ (List.mem_of_getElem? (i := 19) rfl))) Via.refl e31 f27 (g := (mkF m 34 #[.val (.ref o0)] [(.ref o0), (.ref ar), (.ref o0)])) rfl rfl (hb hby d5_34)
  refine bk (fun t k => st32 t k) ?_
  show F (T32.setTop (mkF m 37 #[.val (.ref o0)] [(.int (1 : Int32)), (.ref ar), (.ref o0)]))
  have vv33 := f29
  obtain ⟨cl33, Ar33, q33, S33, M33, H33, G33⟩ := vv33
  have hin33 : ¬ ((1 : Int32) < 0 ∨ cl33.slots.size ≤ ((1 : Int32)).toNatClampNeg) := inb_of S33 ⟨by decide, hz1⟩
  refine bk (fun t k => X32.laload hx (j := (1 : Int32)) (v := (.long u1)) (by rw [e32]; exact Ar33.1) (State.isArrayOf_alike hZ.alike Ar33.2.1) Ar33.2.2 hin33 (Has.at H33 hin33 rfl) (g := (mkF m 37 #[.val (.ref o0)] [(.int (1 : Int32)), (.ref ar), (.ref o0)])) rfl rfl (hb hby d5_37) t k) ?_
  show F (T32.setTop (mkF m 38 #[.val (.ref o0)] [(.long u1), (.ref o0)]))
  obtain ⟨T34, h34, X34, e34, W34, st34⟩ := putF X32 hx hZ hown (host := "") (Or.inl (hw _ (List.mem_of_getElem? (i := 26) rfl))) Via.refl e32 f28 f25 (Or.inl (hw _ (List.mem_of_getElem? (i := 27) rfl))) (hw _ (List.mem_of_getElem? (i := 9) rfl)) (ty := .long) (by decide) rfl rfl (g := (mkF m 38 #[.val (.ref o0)] [(.long u1), (.ref o0)])) rfl rfl (hb hby d5_38)
  have f35 := f25.wr W34
  have f36 := f26.other W34 (Or.inr (slot_ne (Or.inr (hw _ (List.mem_of_getElem? (i := 18) rfl))) (Or.inl (hw _ (List.mem_of_getElem? (i := 27) rfl))) (by decide) (t := (.array .long)) (t' := .long) (by decide) (by decide)))
  have f37 := f27.other W34 (Or.inr (slot_ne (Or.inl (hw _ (List.mem_of_getElem? (i := 20) rfl))) (Or.inl (hw _ (List.mem_of_getElem? (i := 27) rfl))) (by decide) (t := .int) (t' := .long) (by decide) (by decide)))
  have f38 := f28.same W34
  have f39 := f29.other W34 (Ne.symm ne_s_ar)
  have f40 := Nat.le_trans f30 (Keep.of_wr W34).1
  have N34 := Fr.snoc X34 N24 g_s
  refine bk (fun t k => st34 t k) ?_
  refine bk (fun t k => XS.goto X34.here hx rfl (pc0 := 41) (pc' := 0) rfl (hb hby d5_41) (by decide) (by decide) k) ?_
  refine bk (fun t k => XS.aloadN X34.here hx rfl (hb hby d5_0) rfl rfl k) ?_
  show F (T34.setTop (mkF m 1 #[.val (.ref o0)] [(.ref o0)]))
  obtain ⟨T41, X41, e41, st41⟩ := getF X34 hx hZ hown (host := "") (Or.inl (hw _ (List.mem_of_getElem? (i := 26) rfl))) Via.refl e34 f38 (g := (mkF m 1 #[.val (.ref o0)] [(.ref o0)])) rfl rfl (hb hby d5_1)
  refine bk (fun t k => st41 t k) ?_
  refine bk (fun t k => XS.lconst X41.here hx rfl (hb hby d5_4) k) ?_
  show F (T41.setTop (mkF m 5 #[.val (.ref o0)] [(.long (0 : Int64)), (.long u1)]))
  refine bk (fun t k => XS.lcmp X41.here hx rfl (hb hby d5_5) rfl k) ?_
  show F (T41.setTop (mkF m 6 #[.val (.ref o0)] [(.int (lcmpW u1 (0 : Int64)))]))
  refine bk (fun t k => XS.ifNo X41.here hx rfl (hb hby d5_6) rfl ((if0 _ _).trans (teq ((lw_eq _ _).mpr he1)).2) k) ?_
  refine bk (fun t k => XS.aloadN X41.here hx rfl (hb hby d5_9) rfl rfl k) ?_
  show F (T41.setTop (mkF m 10 #[.val (.ref o0)] [(.ref o0)]))
  obtain ⟨T42, X42, e42, st42⟩ := getF X41 hx hZ hown (host := "") (Or.inl (hw _ (List.mem_of_getElem? (i := 19) rfl))) Via.refl e41 f37 (g := (mkF m 10 #[.val (.ref o0)] [(.ref o0)])) rfl rfl (hb hby d5_10)
  refine bk (fun t k => st42 t k) ?_
  show F (T42.setTop (mkF m 13 #[.val (.ref o0)] [(.int (1 : Int32))]))
  refine bk (fun t k => XS.ifYes X42.here hx rfl (pc0 := 13) (pc' := 18) rfl (hb hby d5_13) rfl ((if0 _ _).trans (feq (by decide : ¬ ((1 : Int32) = (0 : Int32)))).2) (by decide) (by decide) k) ?_
  refine bk (fun t k => XS.aloadN X42.here hx rfl (hb hby d5_18) rfl rfl k) ?_
  refine bk (fun t k => XS.dup X42.here hx rfl (hb hby d5_19) rfl rfl k) ?_
  show F (T42.setTop (mkF m 20 #[.val (.ref o0)] [(.ref o0), (.ref o0)]))
  obtain ⟨T43, X43, e43, st43⟩ := getF X42 hx hZ hown (host := "") (Or.inl (hw _ (List.mem_of_getElem? (i := 19) rfl))) Via.refl e42 f37 (g := (mkF m 20 #[.val (.ref o0)] [(.ref o0), (.ref o0)])) rfl rfl (hb hby d5_20)
  refine bk (fun t k => st43 t k) ?_
  refine bk (fun t k => XS.iconst X43.here hx rfl (hb hby d5_23) k) ?_
  show F (T43.setTop (mkF m 24 #[.val (.ref o0)] [(.int (1 : Int32)), (.int (1 : Int32)), (.ref o0)]))
  refine bk (fun t k => XS.isub X43.here hx rfl (hb hby d5_24) rfl k) ?_
  show F (T43.setTop (mkF m 25 #[.val (.ref o0)] [(.int (0 : Int32)), (.ref o0)]))
  obtain ⟨T44, h44, X44, e44, W44, st44⟩ := putF X43 hx hZ hown (host := "") (Or.inl (hw _ (List.mem_of_getElem? (i := 19) rfl))) Via.refl e43 f37 f35 (Or.inl (hw _ (List.mem_of_getElem? (i := 20) rfl))) (hw _ (List.mem_of_getElem? (i := 9) rfl)) (ty := .int) (by decide) rfl rfl (g := (mkF m 25 #[.val (.ref o0)] [(.int (0 : Int32)), (.ref o0)])) rfl rfl (hb hby d5_25)
  have f45 := f35.wr W44
  have f46 := f36.other W44 (Or.inr (slot_ne (Or.inr (hw _ (List.mem_of_getElem? (i := 18) rfl))) (Or.inl (hw _ (List.mem_of_getElem? (i := 20) rfl))) (by decide) (t := (.array .long)) (t' := .int) (by decide) (by decide)))
  have f47 := f37.same W44
  have f48 := f38.other W44 (Or.inr (slot_ne (Or.inl (hw _ (List.mem_of_getElem? (i := 27) rfl))) (Or.inl (hw _ (List.mem_of_getElem? (i := 20) rfl))) (by decide) (t := .long) (t' := .int) (by decide) (by decide)))
  have f49 := f39.other W44 (Ne.symm ne_s_ar)
  have f50 := Nat.le_trans f40 (Keep.of_wr W44).1
  have N44 := Fr.snoc X44 N34 g_s
  refine bk (fun t k => st44 t k) ?_
  refine bk (fun t k => XS.aloadN X44.here hx rfl (hb hby d5_28) rfl rfl k) ?_
  refine bk (fun t k => XS.aloadN X44.here hx rfl (hb hby d5_29) rfl rfl k) ?_
  show F (T44.setTop (mkF m 30 #[.val (.ref o0)] [(.ref o0), (.ref o0)]))
  obtain ⟨T51, X51, e51, st51⟩ := getF X44 hx hZ hown (host := "") (Or.inl (hw _ (List.mem_of_getElem? (i := 17) rfl))) Via.refl e44 f46 (g := (mkF m 30 #[.val (.ref o0)] [(.ref o0), (.ref o0)])) rfl rfl (hb hby d5_30)
  refine bk (fun t k => st51 t k) ?_
  refine bk (fun t k => XS.aloadN X51.here hx rfl (hb hby d5_33) rfl rfl k) ?_
  show F (T51.setTop (mkF m 34 #[.val (.ref o0)] [(.ref o0), (.ref ar), (.ref o0)]))
  obtain ⟨T52, X52, e52, st52⟩ := getF X51 hx hZ hown (host := "") (Or.inl (hw _ (List.mem_of_getElem? (i := 19) rfl))) Via.refl e51 f47 (g := (mkF m 34 #[.val (.ref o0)] [(.ref o0), (.ref ar), (.ref o0)])) rfl rfl (hb hby d5_34)
  refine bk (fun t k => st52 t k) ?_
  show F (T52.setTop (mkF m 37 #[.val (.ref o0)] [(.int (0 : Int32)), (.ref ar), (.ref o0)]))
  have vv53 := f49
  obtain ⟨cl53, Ar53, q53, S53, M53, H53, G53⟩ := vv53
  have hin53 : ¬ ((0 : Int32) < 0 ∨ cl53.slots.size ≤ ((0 : Int32)).toNatClampNeg) := inb_of S53 ⟨by decide, hz0⟩
  refine bk (fun t k => X52.laload hx (j := (0 : Int32)) (v := (.long u0)) (by rw [e52]; exact Ar53.1) (State.isArrayOf_alike hZ.alike Ar53.2.1) Ar53.2.2 hin53 (Has.at H53 hin53 rfl) (g := (mkF m 37 #[.val (.ref o0)] [(.int (0 : Int32)), (.ref ar), (.ref o0)])) rfl rfl (hb hby d5_37) t k) ?_
  show F (T52.setTop (mkF m 38 #[.val (.ref o0)] [(.long u0), (.ref o0)]))
  obtain ⟨T54, h54, X54, e54, W54, st54⟩ := putF X52 hx hZ hown (host := "") (Or.inl (hw _ (List.mem_of_getElem? (i := 26) rfl))) Via.refl e52 f48 f45 (Or.inl (hw _ (List.mem_of_getElem? (i := 27) rfl))) (hw _ (List.mem_of_getElem? (i := 9) rfl)) (ty := .long) (by decide) rfl rfl (g := (mkF m 38 #[.val (.ref o0)] [(.long u0), (.ref o0)])) rfl rfl (hb hby d5_38)
  have f55 := f45.wr W54
  have f56 := f46.other W54 (Or.inr (slot_ne (Or.inr (hw _ (List.mem_of_getElem? (i := 18) rfl))) (Or.inl (hw _ (List.mem_of_getElem? (i := 27) rfl))) (by decide) (t := (.array .long)) (t' := .long) (by decide) (by decide)))
  have f57 := f47.other W54 (Or.inr (slot_ne (Or.inl (hw _ (List.mem_of_getElem? (i := 20) rfl))) (Or.inl (hw _ (List.mem_of_getElem? (i := 27) rfl))) (by decide) (t := .int) (t' := .long) (by decide) (by decide)))
  have f58 := f48.same W54
  have f59 := f49.other W54 (Ne.symm ne_s_ar)
  have f60 := Nat.le_trans f50 (Keep.of_wr W54).1
  have N54 := Fr.snoc X54 N44 g_s
  refine bk (fun t k => st54 t k) ?_
  refine bk (fun t k => XS.goto X54.here hx rfl (pc0 := 41) (pc' := 0) rfl (hb hby d5_41) (by decide) (by decide) k) ?_
  refine bk (fun t k => XS.aloadN X54.here hx rfl (hb hby d5_0) rfl rfl k) ?_
  show F (T54.setTop (mkF m 1 #[.val (.ref o0)] [(.ref o0)]))
  obtain ⟨T61, X61, e61, st61⟩ := getF X54 hx hZ hown (host := "") (Or.inl (hw _ (List.mem_of_getElem? (i := 26) rfl))) Via.refl e54 f58 (g := (mkF m 1 #[.val (.ref o0)] [(.ref o0)])) rfl rfl (hb hby d5_1)
  refine bk (fun t k => st61 t k) ?_
  refine bk (fun t k => XS.lconst X61.here hx rfl (hb hby d5_4) k) ?_
  show F (T61.setTop (mkF m 5 #[.val (.ref o0)] [(.long (0 : Int64)), (.long u0)]))
  refine bk (fun t k => XS.lcmp X61.here hx rfl (hb hby d5_5) rfl k) ?_
  show F (T61.setTop (mkF m 6 #[.val (.ref o0)] [(.int (lcmpW u0 (0 : Int64)))]))
  refine bk (fun t k => XS.ifYes X61.here hx rfl (pc0 := 6) (pc' := 44) rfl (hb hby d5_6) rfl ((if0 _ _).trans (feq (fun q => he0 ((lw_eq _ _).mp q))).2) (by decide) (by decide) k) ?_
  refine bk (fun t k => XS.iconst X61.here hx rfl (hb hby d5_44) k) ?_
  show F (T61.setTop (mkF m 45 #[.val (.ref o0)] [(.int (1 : Int32))]))
  rw [hF]
  refine own_retZ X61 hx Bd.notSynchronized Bd.returns (hb hby d5_45) (by decide) (by decide) ?_
  rw [e61]
  exact ⟨rfl, N54, f60, ⟨f55, f56, f57, f58, f59⟩⟩
def Q5Z3n (Z : State) (o0 : Addr) (ar : Addr) (kk : ClassId) (z : Int32) (u0 : Int64) (u1 : Int64) (u2 : Int64) (h0 : Heap) (n0 : Nat) (v : Option Value) (h : Heap) (L : List Loc) : Prop := v = some (.int (0 : Int32)) ∧ Fr n0 L ∧ n0 ≤ h.size ∧ own_S Z h o0 ar kk z (0 : Int32) u0 u0 u1 u2
set_option maxRecDepth 65536 in
set_option maxHeartbeats 40000000 in
theorem rm5Z3n (l : Launch) (Z : State) (a0 : Array Value) (hw : ∀ d ∈ tables_1, d.before a0 Z = true) (ws : List Jvm.Cond) (o0 : Addr) (ar : Addr) (kk : ClassId) (z : Int32) (u0 : Int64) (u1 : Int64) (u2 : Int64) (h0 : Heap) (n0 : Nat) (Z0 : n0 ≤ h0.size) (P0 : own_S Z h0 o0 ar kk z (3 : Int32) (0 : Int64) u0 u1 u2) (g_s : n0 ≤ o0) (ne_s_ar : o0 ≠ ar) (hz0 : (0 : Int32) < z) (hz1 : (1 : Int32) < z) (hz2 : (2 : Int32) < z) (he2 : u2 = (0 : Int64)) (he1 : u1 = (0 : Int64)) (he0 : u0 = (0 : Int64)) :
    MetFree l (⟨"com/example/lone1/lone1/solve/SweepOrder", "hasNext", "()Z"⟩ : MethodName) (head1 (Jvm.Cond.code (⟨"com/example/lone1/lone1/solve/SweepOrder", "hasNext", "()Z"⟩ : MethodName) prog_114_method_2_code 1 (some .boolean) :: ws) ({ frames := 0, cells := 0, slots := 0, locals := 0 } : Room)) (fun a U => a = #[(.ref o0)] ∧ Z.Warmed39 U.vm ∧ U.heap = h0) (fun _ _ _ _ _ => True) (fun _ U o U' => ∃ v L, o = .returned v ∧ Q5Z3n Z o0 ar kk z u0 u1 u2 h0 n0 v U'.heap L ∧ FrameEnd U o U' L ({ frames := 0, cells := 0, slots := 0, locals := 0 } : Room).cells ({ frames := 0, cells := 0, slots := 0, locals := 0 } : Room).slots) := by
  refine MetFree.of_bodySF (plainFor_of_name pn_5) hisR ?_
  intro p e s m args below meth c s₁ Bd hml0 hP hK
  obtain ⟨rfl, hZ, hh⟩ := hP
  have hx := Bd.exec
  have hby := Bd.bytes
  have hml : c.maxLocals = 1 := hml0
  have hown : s.vm.findClass "com/example/lone1/lone1/solve/SweepOrder" = some m.cls := findClass_of_methodNamed Bd.named
  have hnm := (name_of_methodNamed Bd.named Bd.method).1
  have X0 : Stand p l e ({ frames := 0, cells := 0, slots := 0, locals := 0 } : Room) s m #[(.ref o0)] below meth c s₁ [] 0 0 := Stand.of_body Bd
  have e0 : s₁.heap = h0 := by rw [← hh, Bd.state]; rfl
  have N0 := Fr.nil n0
  obtain ⟨F, hF⟩ : ∃ F : State → Prop, F = own_Fin p e below s ({ frames := 0, cells := 0, slots := 0, locals := 0 } : Room).cells ({ frames := 0, cells := 0, slots := 0, locals := 0 } : Room).slots (fun v h L => Q5Z3n Z o0 ar kk z u0 u1 u2 h0 n0 v h L) := ⟨_, rfl⟩
  have bk : ∀ {A B : State}, (∀ t, Steps p.tables e below B t → Steps p.tables e below A t) → F B → F A := by
    intro A B h k
    rw [hF] at k ⊢
    exact own_back h k
  suffices hgo : F (s₁.setTop (mkF m 0 #[.val (.ref o0)] [])) by
    have hgo' := bk (fun t k => castTop (T := s₁) (ef_5 m o0) k) hgo
    rw [hF] at hgo'
    exact hgo'
  obtain ⟨E_s, F_words, F_at, F_word, V_ar⟩ := P0
  refine bk (fun t k => XS.aloadN X0.here hx rfl (hb hby d5_0) rfl rfl k) ?_
  show F (s₁.setTop (mkF m 1 #[.val (.ref o0)] [(.ref o0)]))
  obtain ⟨T1, X1, e1, st1⟩ := getF X0 hx hZ hown (host := "") (Or.inl (hw _ (List.mem_of_getElem? (i := 26) rfl))) Via.refl e0 F_word (g := (mkF m 1 #[.val (.ref o0)] [(.ref o0)])) rfl rfl (hb hby d5_1)
  refine bk (fun t k => st1 t k) ?_
  refine bk (fun t k => XS.lconst X1.here hx rfl (hb hby d5_4) k) ?_
  show F (T1.setTop (mkF m 5 #[.val (.ref o0)] [(.long (0 : Int64)), (.long (0 : Int64))]))
  refine bk (fun t k => XS.lcmp X1.here hx rfl (hb hby d5_5) rfl k) ?_
  show F (T1.setTop (mkF m 6 #[.val (.ref o0)] [(.int (lcmpW (0 : Int64) (0 : Int64)))]))
  refine bk (fun t k => XS.ifNo X1.here hx rfl (hb hby d5_6) rfl ((if0 _ _).trans (teq ((lw_eq _ _).mpr (by decide : (0 : Int64) = (0 : Int64)))).2) k) ?_
  refine bk (fun t k => XS.aloadN X1.here hx rfl (hb hby d5_9) rfl rfl k) ?_
  show F (T1.setTop (mkF m 10 #[.val (.ref o0)] [(.ref o0)]))
  obtain ⟨T2, X2, e2, st2⟩ := getF X1 hx hZ hown (host := "") (Or.inl (hw _ (List.mem_of_getElem? (i := 19) rfl))) Via.refl e1 F_at (g := (mkF m 10 #[.val (.ref o0)] [(.ref o0)])) rfl rfl (hb hby d5_10)
  refine bk (fun t k => st2 t k) ?_
  show F (T2.setTop (mkF m 13 #[.val (.ref o0)] [(.int (3 : Int32))]))
  refine bk (fun t k => XS.ifYes X2.here hx rfl (pc0 := 13) (pc' := 18) rfl (hb hby d5_13) rfl ((if0 _ _).trans (feq (by decide : ¬ ((3 : Int32) = (0 : Int32)))).2) (by decide) (by decide) k) ?_
  refine bk (fun t k => XS.aloadN X2.here hx rfl (hb hby d5_18) rfl rfl k) ?_
  refine bk (fun t k => XS.dup X2.here hx rfl (hb hby d5_19) rfl rfl k) ?_
  show F (T2.setTop (mkF m 20 #[.val (.ref o0)] [(.ref o0), (.ref o0)]))
  obtain ⟨T3, X3, e3, st3⟩ := getF X2 hx hZ hown (host := "") (Or.inl (hw _ (List.mem_of_getElem? (i := 19) rfl))) Via.refl e2 F_at (g := (mkF m 20 #[.val (.ref o0)] [(.ref o0), (.ref o0)])) rfl rfl (hb hby d5_20)
  refine bk (fun t k => st3 t k) ?_
  refine bk (fun t k => XS.iconst X3.here hx rfl (hb hby d5_23) k) ?_
  show F (T3.setTop (mkF m 24 #[.val (.ref o0)] [(.int (1 : Int32)), (.int (3 : Int32)), (.ref o0)]))
  refine bk (fun t k => XS.isub X3.here hx rfl (hb hby d5_24) rfl k) ?_
  show F (T3.setTop (mkF m 25 #[.val (.ref o0)] [(.int (2 : Int32)), (.ref o0)]))
  obtain ⟨T4, h4, X4, e4, W4, st4⟩ := putF X3 hx hZ hown (host := "") (Or.inl (hw _ (List.mem_of_getElem? (i := 19) rfl))) Via.refl e3 F_at E_s (Or.inl (hw _ (List.mem_of_getElem? (i := 20) rfl))) (hw _ (List.mem_of_getElem? (i := 9) rfl)) (ty := .int) (by decide) rfl rfl (g := (mkF m 25 #[.val (.ref o0)] [(.int (2 : Int32)), (.ref o0)])) rfl rfl (hb hby d5_25)
  have f5 := E_s.wr W4
  have f6 := F_words.other W4 (Or.inr (slot_ne (Or.inr (hw _ (List.mem_of_getElem? (i := 18) rfl))) (Or.inl (hw _ (List.mem_of_getElem? (i := 20) rfl))) (by decide) (t := (.array .long)) (t' := .int) (by decide) (by decide)))
  have f7 := F_at.same W4
  have f8 := F_word.other W4 (Or.inr (slot_ne (Or.inl (hw _ (List.mem_of_getElem? (i := 27) rfl))) (Or.inl (hw _ (List.mem_of_getElem? (i := 20) rfl))) (by decide) (t := .long) (t' := .int) (by decide) (by decide)))
  have f9 := V_ar.other W4 (Ne.symm ne_s_ar)
  have f10 := Nat.le_trans Z0 (Keep.of_wr W4).1
  have N4 := Fr.snoc X4 N0 g_s
  refine bk (fun t k => st4 t k) ?_
  refine bk (fun t k => XS.aloadN X4.here hx rfl (hb hby d5_28) rfl rfl k) ?_
  refine bk (fun t k => XS.aloadN X4.here hx rfl (hb hby d5_29) rfl rfl k) ?_
  show F (T4.setTop (mkF m 30 #[.val (.ref o0)] [(.ref o0), (.ref o0)]))
  obtain ⟨T11, X11, e11, st11⟩ := getF X4 hx hZ hown (host := "") (Or.inl (hw _ (List.mem_of_getElem? (i := 17) rfl))) Via.refl e4 f6 (g := (mkF m 30 #[.val (.ref o0)] [(.ref o0), (.ref o0)])) rfl rfl (hb hby d5_30)
  refine bk (fun t k => st11 t k) ?_
  refine bk (fun t k => XS.aloadN X11.here hx rfl (hb hby d5_33) rfl rfl k) ?_
  show F (T11.setTop (mkF m 34 #[.val (.ref o0)] [(.ref o0), (.ref ar), (.ref o0)]))
  obtain ⟨T12, X12, e12, st12⟩ := getF X11 hx hZ hown (host := "") (Or.inl (hw _ (List.mem_of_getElem? (i := 19) rfl))) Via.refl e11 f7 (g := (mkF m 34 #[.val (.ref o0)] [(.ref o0), (.ref ar), (.ref o0)])) rfl rfl (hb hby d5_34)
  refine bk (fun t k => st12 t k) ?_
  show F (T12.setTop (mkF m 37 #[.val (.ref o0)] [(.int (2 : Int32)), (.ref ar), (.ref o0)]))
  have vv13 := f9
  obtain ⟨cl13, Ar13, q13, S13, M13, H13, G13⟩ := vv13
  have hin13 : ¬ ((2 : Int32) < 0 ∨ cl13.slots.size ≤ ((2 : Int32)).toNatClampNeg) := inb_of S13 ⟨by decide, hz2⟩
  refine bk (fun t k => X12.laload hx (j := (2 : Int32)) (v := (.long u2)) (by rw [e12]; exact Ar13.1) (State.isArrayOf_alike hZ.alike Ar13.2.1) Ar13.2.2 hin13 (Has.at H13 hin13 rfl) (g := (mkF m 37 #[.val (.ref o0)] [(.int (2 : Int32)), (.ref ar), (.ref o0)])) rfl rfl (hb hby d5_37) t k) ?_
  show F (T12.setTop (mkF m 38 #[.val (.ref o0)] [(.long u2), (.ref o0)]))
  obtain ⟨T14, h14, X14, e14, W14, st14⟩ := putF X12 hx hZ hown (host := "") (Or.inl (hw _ (List.mem_of_getElem? (i := 26) rfl))) Via.refl e12 f8 f5 (Or.inl (hw _ (List.mem_of_getElem? (i := 27) rfl))) (hw _ (List.mem_of_getElem? (i := 9) rfl)) (ty := .long) (by decide) rfl rfl (g := (mkF m 38 #[.val (.ref o0)] [(.long u2), (.ref o0)])) rfl rfl (hb hby d5_38)
  have f15 := f5.wr W14
  have f16 := f6.other W14 (Or.inr (slot_ne (Or.inr (hw _ (List.mem_of_getElem? (i := 18) rfl))) (Or.inl (hw _ (List.mem_of_getElem? (i := 27) rfl))) (by decide) (t := (.array .long)) (t' := .long) (by decide) (by decide)))
  have f17 := f7.other W14 (Or.inr (slot_ne (Or.inl (hw _ (List.mem_of_getElem? (i := 20) rfl))) (Or.inl (hw _ (List.mem_of_getElem? (i := 27) rfl))) (by decide) (t := .int) (t' := .long) (by decide) (by decide)))
  have f18 := f8.same W14
  have f19 := f9.other W14 (Ne.symm ne_s_ar)
  have f20 := Nat.le_trans f10 (Keep.of_wr W14).1
  have N14 := Fr.snoc X14 N4 g_s
  refine bk (fun t k => st14 t k) ?_
  refine bk (fun t k => XS.goto X14.here hx rfl (pc0 := 41) (pc' := 0) rfl (hb hby d5_41) (by decide) (by decide) k) ?_
  refine bk (fun t k => XS.aloadN X14.here hx rfl (hb hby d5_0) rfl rfl k) ?_
  show F (T14.setTop (mkF m 1 #[.val (.ref o0)] [(.ref o0)]))
  obtain ⟨T21, X21, e21, st21⟩ := getF X14 hx hZ hown (host := "") (Or.inl (hw _ (List.mem_of_getElem? (i := 26) rfl))) Via.refl e14 f18 (g := (mkF m 1 #[.val (.ref o0)] [(.ref o0)])) rfl rfl (hb hby d5_1)
  refine bk (fun t k => st21 t k) ?_
  refine bk (fun t k => XS.lconst X21.here hx rfl (hb hby d5_4) k) ?_
  show F (T21.setTop (mkF m 5 #[.val (.ref o0)] [(.long (0 : Int64)), (.long u2)]))
  refine bk (fun t k => XS.lcmp X21.here hx rfl (hb hby d5_5) rfl k) ?_
  show F (T21.setTop (mkF m 6 #[.val (.ref o0)] [(.int (lcmpW u2 (0 : Int64)))]))
  refine bk (fun t k => XS.ifNo X21.here hx rfl (hb hby d5_6) rfl ((if0 _ _).trans (teq ((lw_eq _ _).mpr he2)).2) k) ?_
  refine bk (fun t k => XS.aloadN X21.here hx rfl (hb hby d5_9) rfl rfl k) ?_
  show F (T21.setTop (mkF m 10 #[.val (.ref o0)] [(.ref o0)]))
  obtain ⟨T22, X22, e22, st22⟩ := getF X21 hx hZ hown (host := "") (Or.inl (hw _ (List.mem_of_getElem? (i := 19) rfl))) Via.refl e21 f17 (g := (mkF m 10 #[.val (.ref o0)] [(.ref o0)])) rfl rfl (hb hby d5_10)
  refine bk (fun t k => st22 t k) ?_
  show F (T22.setTop (mkF m 13 #[.val (.ref o0)] [(.int (2 : Int32))]))
  refine bk (fun t k => XS.ifYes X22.here hx rfl (pc0 := 13) (pc' := 18) rfl (hb hby d5_13) rfl ((if0 _ _).trans (feq (by decide : ¬ ((2 : Int32) = (0 : Int32)))).2) (by decide) (by decide) k) ?_
  refine bk (fun t k => XS.aloadN X22.here hx rfl (hb hby d5_18) rfl rfl k) ?_
  refine bk (fun t k => XS.dup X22.here hx rfl (hb hby d5_19) rfl rfl k) ?_
  show F (T22.setTop (mkF m 20 #[.val (.ref o0)] [(.ref o0), (.ref o0)]))
  obtain ⟨T23, X23, e23, st23⟩ := getF X22 hx hZ hown (host := "") (Or.inl (hw _ (List.mem_of_getElem? (i := 19) rfl))) Via.refl e22 f17 (g := (mkF m 20 #[.val (.ref o0)] [(.ref o0), (.ref o0)])) rfl rfl (hb hby d5_20)
  refine bk (fun t k => st23 t k) ?_
  refine bk (fun t k => XS.iconst X23.here hx rfl (hb hby d5_23) k) ?_
  show F (T23.setTop (mkF m 24 #[.val (.ref o0)] [(.int (1 : Int32)), (.int (2 : Int32)), (.ref o0)]))
  refine bk (fun t k => XS.isub X23.here hx rfl (hb hby d5_24) rfl k) ?_
  show F (T23.setTop (mkF m 25 #[.val (.ref o0)] [(.int (1 : Int32)), (.ref o0)]))
  obtain ⟨T24, h24, X24, e24, W24, st24⟩ := putF X23 hx hZ hown (host := "") (Or.inl (hw _ (List.mem_of_getElem? (i := 19) rfl))) Via.refl e23 f17 f15 (Or.inl (hw _ (List.mem_of_getElem? (i := 20) rfl))) (hw _ (List.mem_of_getElem? (i := 9) rfl)) (ty := .int) (by decide) rfl rfl (g := (mkF m 25 #[.val (.ref o0)] [(.int (1 : Int32)), (.ref o0)])) rfl rfl (hb hby d5_25)
  have f25 := f15.wr W24
  have f26 := f16.other W24 (Or.inr (slot_ne (Or.inr (hw _ (List.mem_of_getElem? (i := 18) rfl))) (Or.inl (hw _ (List.mem_of_getElem? (i := 20) rfl))) (by decide) (t := (.array .long)) (t' := .int) (by decide) (by decide)))
  have f27 := f17.same W24
  have f28 := f18.other W24 (Or.inr (slot_ne (Or.inl (hw _ (List.mem_of_getElem? (i := 27) rfl))) (Or.inl (hw _ (List.mem_of_getElem? (i := 20) rfl))) (by decide) (t := .long) (t' := .int) (by decide) (by decide)))
  have f29 := f19.other W24 (Ne.symm ne_s_ar)
  have f30 := Nat.le_trans f20 (Keep.of_wr W24).1
  have N24 := Fr.snoc X24 N14 g_s
  refine bk (fun t k => st24 t k) ?_
  refine bk (fun t k => XS.aloadN X24.here hx rfl (hb hby d5_28) rfl rfl k) ?_
  refine bk (fun t k => XS.aloadN X24.here hx rfl (hb hby d5_29) rfl rfl k) ?_
  show F (T24.setTop (mkF m 30 #[.val (.ref o0)] [(.ref o0), (.ref o0)]))
  obtain ⟨T31, X31, e31, st31⟩ := getF X24 hx hZ hown (host := "") (Or.inl (hw _ (List.mem_of_getElem? (i := 17) rfl))) Via.refl e24 f26 (g := (mkF m 30 #[.val (.ref o0)] [(.ref o0), (.ref o0)])) rfl rfl (hb hby d5_30)
  refine bk (fun t k => st31 t k) ?_
  refine bk (fun t k => XS.aloadN X31.here hx rfl (hb hby d5_33) rfl rfl k) ?_
  show F (T31.setTop (mkF m 34 #[.val (.ref o0)] [(.ref o0), (.ref ar), (.ref o0)]))
  obtain ⟨T32, X32, e32, st32⟩ := getF X31 hx hZ hown (host := "") (Or.inl (hw _ (List.mem_of_getElem? (i := 19) rfl))) Via.refl e31 f27 (g := (mkF m 34 #[.val (.ref o0)] [(.ref o0), (.ref ar), (.ref o0)])) rfl rfl (hb hby d5_34)
  refine bk (fun t k => st32 t k) ?_
  show F (T32.setTop (mkF m 37 #[.val (.ref o0)] [(.int (1 : Int32)), (.ref ar), (.ref o0)]))
  have vv33 := f29
  obtain ⟨cl33, Ar33, q33, S33, M33, H33, G33⟩ := vv33
  have hin33 : ¬ ((1 : Int32) < 0 ∨ cl33.slots.size ≤ ((1 : Int32)).toNatClampNeg) := inb_of S33 ⟨by decide, hz1⟩
  refine bk (fun t k => X32.laload hx (j := (1 : Int32)) (v := (.long u1)) (by rw [e32]; exact Ar33.1) (State.isArrayOf_alike hZ.alike Ar33.2.1) Ar33.2.2 hin33 (Has.at H33 hin33 rfl) (g := (mkF m 37 #[.val (.ref o0)] [(.int (1 : Int32)), (.ref ar), (.ref o0)])) rfl rfl (hb hby d5_37) t k) ?_
  show F (T32.setTop (mkF m 38 #[.val (.ref o0)] [(.long u1), (.ref o0)]))
  obtain ⟨T34, h34, X34, e34, W34, st34⟩ := putF X32 hx hZ hown (host := "") (Or.inl (hw _ (List.mem_of_getElem? (i := 26) rfl))) Via.refl e32 f28 f25 (Or.inl (hw _ (List.mem_of_getElem? (i := 27) rfl))) (hw _ (List.mem_of_getElem? (i := 9) rfl)) (ty := .long) (by decide) rfl rfl (g := (mkF m 38 #[.val (.ref o0)] [(.long u1), (.ref o0)])) rfl rfl (hb hby d5_38)
  have f35 := f25.wr W34
  have f36 := f26.other W34 (Or.inr (slot_ne (Or.inr (hw _ (List.mem_of_getElem? (i := 18) rfl))) (Or.inl (hw _ (List.mem_of_getElem? (i := 27) rfl))) (by decide) (t := (.array .long)) (t' := .long) (by decide) (by decide)))
  have f37 := f27.other W34 (Or.inr (slot_ne (Or.inl (hw _ (List.mem_of_getElem? (i := 20) rfl))) (Or.inl (hw _ (List.mem_of_getElem? (i := 27) rfl))) (by decide) (t := .int) (t' := .long) (by decide) (by decide)))
  have f38 := f28.same W34
  have f39 := f29.other W34 (Ne.symm ne_s_ar)
  have f40 := Nat.le_trans f30 (Keep.of_wr W34).1
  have N34 := Fr.snoc X34 N24 g_s
  refine bk (fun t k => st34 t k) ?_
  refine bk (fun t k => XS.goto X34.here hx rfl (pc0 := 41) (pc' := 0) rfl (hb hby d5_41) (by decide) (by decide) k) ?_
  refine bk (fun t k => XS.aloadN X34.here hx rfl (hb hby d5_0) rfl rfl k) ?_
  show F (T34.setTop (mkF m 1 #[.val (.ref o0)] [(.ref o0)]))
  obtain ⟨T41, X41, e41, st41⟩ := getF X34 hx hZ hown (host := "") (Or.inl (hw _ (List.mem_of_getElem? (i := 26) rfl))) Via.refl e34 f38 (g := (mkF m 1 #[.val (.ref o0)] [(.ref o0)])) rfl rfl (hb hby d5_1)
  refine bk (fun t k => st41 t k) ?_
  refine bk (fun t k => XS.lconst X41.here hx rfl (hb hby d5_4) k) ?_
  show F (T41.setTop (mkF m 5 #[.val (.ref o0)] [(.long (0 : Int64)), (.long u1)]))
  refine bk (fun t k => XS.lcmp X41.here hx rfl (hb hby d5_5) rfl k) ?_
  show F (T41.setTop (mkF m 6 #[.val (.ref o0)] [(.int (lcmpW u1 (0 : Int64)))]))
  refine bk (fun t k => XS.ifNo X41.here hx rfl (hb hby d5_6) rfl ((if0 _ _).trans (teq ((lw_eq _ _).mpr he1)).2) k) ?_
  refine bk (fun t k => XS.aloadN X41.here hx rfl (hb hby d5_9) rfl rfl k) ?_
  show F (T41.setTop (mkF m 10 #[.val (.ref o0)] [(.ref o0)]))
  obtain ⟨T42, X42, e42, st42⟩ := getF X41 hx hZ hown (host := "") (Or.inl (hw _ (List.mem_of_getElem? (i := 19) rfl))) Via.refl e41 f37 (g := (mkF m 10 #[.val (.ref o0)] [(.ref o0)])) rfl rfl (hb hby d5_10)
  refine bk (fun t k => st42 t k) ?_
  show F (T42.setTop (mkF m 13 #[.val (.ref o0)] [(.int (1 : Int32))]))
  refine bk (fun t k => XS.ifYes X42.here hx rfl (pc0 := 13) (pc' := 18) rfl (hb hby d5_13) rfl ((if0 _ _).trans (feq (by decide : ¬ ((1 : Int32) = (0 : Int32)))).2) (by decide) (by decide) k) ?_
  refine bk (fun t k => XS.aloadN X42.here hx rfl (hb hby d5_18) rfl rfl k) ?_
  refine bk (fun t k => XS.dup X42.here hx rfl (hb hby d5_19) rfl rfl k) ?_
  show F (T42.setTop (mkF m 20 #[.val (.ref o0)] [(.ref o0), (.ref o0)]))
  obtain ⟨T43, X43, e43, st43⟩ := getF X42 hx hZ hown (host := "") (Or.inl (hw _ (List.mem_of_getElem? (i := 19) rfl))) Via.refl e42 f37 (g := (mkF m 20 #[.val (.ref o0)] [(.ref o0), (.ref o0)])) rfl rfl (hb hby d5_20)
  refine bk (fun t k => st43 t k) ?_
  refine bk (fun t k => XS.iconst X43.here hx rfl (hb hby d5_23) k) ?_
  show F (T43.setTop (mkF m 24 #[.val (.ref o0)] [(.int (1 : Int32)), (.int (1 : Int32)), (.ref o0)]))
  refine bk (fun t k => XS.isub X43.here hx rfl (hb hby d5_24) rfl k) ?_
  show F (T43.setTop (mkF m 25 #[.val (.ref o0)] [(.int (0 : Int32)), (.ref o0)]))
  obtain ⟨T44, h44, X44, e44, W44, st44⟩ := putF X43 hx hZ hown (host := "") (Or.inl (hw _ (List.mem_of_getElem? (i := 19) rfl))) Via.refl e43 f37 f35 (Or.inl (hw _ (List.mem_of_getElem? (i := 20) rfl))) (hw _ (List.mem_of_getElem? (i := 9) rfl)) (ty := .int) (by decide) rfl rfl (g := (mkF m 25 #[.val (.ref o0)] [(.int (0 : Int32)), (.ref o0)])) rfl rfl (hb hby d5_25)
  have f45 := f35.wr W44
  have f46 := f36.other W44 (Or.inr (slot_ne (Or.inr (hw _ (List.mem_of_getElem? (i := 18) rfl))) (Or.inl (hw _ (List.mem_of_getElem? (i := 20) rfl))) (by decide) (t := (.array .long)) (t' := .int) (by decide) (by decide)))
  have f47 := f37.same W44
  have f48 := f38.other W44 (Or.inr (slot_ne (Or.inl (hw _ (List.mem_of_getElem? (i := 27) rfl))) (Or.inl (hw _ (List.mem_of_getElem? (i := 20) rfl))) (by decide) (t := .long) (t' := .int) (by decide) (by decide)))
  have f49 := f39.other W44 (Ne.symm ne_s_ar)
  have f50 := Nat.le_trans f40 (Keep.of_wr W44).1
  have N44 := Fr.snoc X44 N34 g_s
  refine bk (fun t k => st44 t k) ?_
  refine bk (fun t k => XS.aloadN X44.here hx rfl (hb hby d5_28) rfl rfl k) ?_
  refine bk (fun t k => XS.aloadN X44.here hx rfl (hb hby d5_29) rfl rfl k) ?_
  show F (T44.setTop (mkF m 30 #[.val (.ref o0)] [(.ref o0), (.ref o0)]))
  obtain ⟨T51, X51, e51, st51⟩ := getF X44 hx hZ hown (host := "") (Or.inl (hw _ (List.mem_of_getElem? (i := 17) rfl))) Via.refl e44 f46 (g := (mkF m 30 #[.val (.ref o0)] [(.ref o0), (.ref o0)])) rfl rfl (hb hby d5_30)
  refine bk (fun t k => st51 t k) ?_
  refine bk (fun t k => XS.aloadN X51.here hx rfl (hb hby d5_33) rfl rfl k) ?_
  show F (T51.setTop (mkF m 34 #[.val (.ref o0)] [(.ref o0), (.ref ar), (.ref o0)]))
  obtain ⟨T52, X52, e52, st52⟩ := getF X51 hx hZ hown (host := "") (Or.inl (hw _ (List.mem_of_getElem? (i := 19) rfl))) Via.refl e51 f47 (g := (mkF m 34 #[.val (.ref o0)] [(.ref o0), (.ref ar), (.ref o0)])) rfl rfl (hb hby d5_34)
  refine bk (fun t k => st52 t k) ?_
  show F (T52.setTop (mkF m 37 #[.val (.ref o0)] [(.int (0 : Int32)), (.ref ar), (.ref o0)]))
  have vv53 := f49
  obtain ⟨cl53, Ar53, q53, S53, M53, H53, G53⟩ := vv53
  have hin53 : ¬ ((0 : Int32) < 0 ∨ cl53.slots.size ≤ ((0 : Int32)).toNatClampNeg) := inb_of S53 ⟨by decide, hz0⟩
  refine bk (fun t k => X52.laload hx (j := (0 : Int32)) (v := (.long u0)) (by rw [e52]; exact Ar53.1) (State.isArrayOf_alike hZ.alike Ar53.2.1) Ar53.2.2 hin53 (Has.at H53 hin53 rfl) (g := (mkF m 37 #[.val (.ref o0)] [(.int (0 : Int32)), (.ref ar), (.ref o0)])) rfl rfl (hb hby d5_37) t k) ?_
  show F (T52.setTop (mkF m 38 #[.val (.ref o0)] [(.long u0), (.ref o0)]))
  obtain ⟨T54, h54, X54, e54, W54, st54⟩ := putF X52 hx hZ hown (host := "") (Or.inl (hw _ (List.mem_of_getElem? (i := 26) rfl))) Via.refl e52 f48 f45 (Or.inl (hw _ (List.mem_of_getElem? (i := 27) rfl))) (hw _ (List.mem_of_getElem? (i := 9) rfl)) (ty := .long) (by decide) rfl rfl (g := (mkF m 38 #[.val (.ref o0)] [(.long u0), (.ref o0)])) rfl rfl (hb hby d5_38)
  have f55 := f45.wr W54
  have f56 := f46.other W54 (Or.inr (slot_ne (Or.inr (hw _ (List.mem_of_getElem? (i := 18) rfl))) (Or.inl (hw _ (List.mem_of_getElem? (i := 27) rfl))) (by decide) (t := (.array .long)) (t' := .long) (by decide) (by decide)))
  have f57 := f47.other W54 (Or.inr (slot_ne (Or.inl (hw _ (List.mem_of_getElem? (i := 20) rfl))) (Or.inl (hw _ (List.mem_of_getElem? (i := 27) rfl))) (by decide) (t := .int) (t' := .long) (by decide) (by decide)))
  have f58 := f48.same W54
  have f59 := f49.other W54 (Ne.symm ne_s_ar)
  have f60 := Nat.le_trans f50 (Keep.of_wr W54).1
  have N54 := Fr.snoc X54 N44 g_s
  refine bk (fun t k => st54 t k) ?_
  refine bk (fun t k => XS.goto X54.here hx rfl (pc0 := 41) (pc' := 0) rfl (hb hby d5_41) (by decide) (by decide) k) ?_
  refine bk (fun t k => XS.aloadN X54.here hx rfl (hb hby d5_0) rfl rfl k) ?_
  show F (T54.setTop (mkF m 1 #[.val (.ref o0)] [(.ref o0)]))
  obtain ⟨T61, X61, e61, st61⟩ := getF X54 hx hZ hown (host := "") (Or.inl (hw _ (List.mem_of_getElem? (i := 26) rfl))) Via.refl e54 f58 (g := (mkF m 1 #[.val (.ref o0)] [(.ref o0)])) rfl rfl (hb hby d5_1)
  refine bk (fun t k => st61 t k) ?_
  refine bk (fun t k => XS.lconst X61.here hx rfl (hb hby d5_4) k) ?_
  show F (T61.setTop (mkF m 5 #[.val (.ref o0)] [(.long (0 : Int64)), (.long u0)]))
  refine bk (fun t k => XS.lcmp X61.here hx rfl (hb hby d5_5) rfl k) ?_
  show F (T61.setTop (mkF m 6 #[.val (.ref o0)] [(.int (lcmpW u0 (0 : Int64)))]))
  refine bk (fun t k => XS.ifNo X61.here hx rfl (hb hby d5_6) rfl ((if0 _ _).trans (teq ((lw_eq _ _).mpr he0)).2) k) ?_
  refine bk (fun t k => XS.aloadN X61.here hx rfl (hb hby d5_9) rfl rfl k) ?_
  show F (T61.setTop (mkF m 10 #[.val (.ref o0)] [(.ref o0)]))
  obtain ⟨T62, X62, e62, st62⟩ := getF X61 hx hZ hown (host := "") (Or.inl (hw _ (List.mem_of_getElem? (i := 19) rfl))) Via.refl e61 f57 (g := (mkF m 10 #[.val (.ref o0)] [(.ref o0)])) rfl rfl (hb hby d5_10)
  refine bk (fun t k => st62 t k) ?_
  show F (T62.setTop (mkF m 13 #[.val (.ref o0)] [(.int (0 : Int32))]))
  refine bk (fun t k => XS.ifNo X62.here hx rfl (hb hby d5_13) rfl ((if0 _ _).trans (teq (by decide : (0 : Int32) = (0 : Int32))).2) k) ?_
  refine bk (fun t k => XS.iconst X62.here hx rfl (hb hby d5_16) k) ?_
  show F (T62.setTop (mkF m 17 #[.val (.ref o0)] [(.int (0 : Int32))]))
  rw [hF]
  refine own_retZ X62 hx Bd.notSynchronized Bd.returns (hb hby d5_17) (by decide) (by decide) ?_
  rw [e62]
  exact ⟨rfl, N54, f60, ⟨f55, f56, f57, f58, f59⟩⟩
theorem d6_0 : decode prog_114_method_3_code 0 = .ok (.aload_n 0, 1) := by decide +kernel
theorem d6_1 : decode prog_114_method_3_code 1 = .ok (.invokevirtual 21, 3) := by decide +kernel
theorem d6_4 : decode prog_114_method_3_code 4 = .ok (.ifCond .ne 13, 3) := by decide +kernel
theorem d6_17 : decode prog_114_method_3_code 17 = .ok (.bipush 63, 2) := by decide +kernel
theorem d6_19 : decode prog_114_method_3_code 19 = .ok (.aload_n 0, 1) := by decide +kernel
theorem d6_20 : decode prog_114_method_3_code 20 = .ok (.getfield 17, 3) := by decide +kernel
theorem d6_23 : decode prog_114_method_3_code 23 = .ok (.invokestatic 32, 3) := by decide +kernel
theorem d6_26 : decode prog_114_method_3_code 26 = .ok (.isub, 1) := by decide +kernel
theorem d6_27 : decode prog_114_method_3_code 27 = .ok (.istore_n 1, 1) := by decide +kernel
theorem d6_28 : decode prog_114_method_3_code 28 = .ok (.aload_n 0, 1) := by decide +kernel
theorem d6_29 : decode prog_114_method_3_code 29 = .ok (.dup, 1) := by decide +kernel
theorem d6_30 : decode prog_114_method_3_code 30 = .ok (.getfield 17, 3) := by decide +kernel
theorem d6_33 : decode prog_114_method_3_code 33 = .ok (.lconst 1, 1) := by decide +kernel
theorem d6_34 : decode prog_114_method_3_code 34 = .ok (.iload_n 1, 1) := by decide +kernel
theorem d6_35 : decode prog_114_method_3_code 35 = .ok (.lshl, 1) := by decide +kernel
theorem d6_36 : decode prog_114_method_3_code 36 = .ok (.ldc2_w 38, 3) := by decide +kernel
theorem d6_39 : decode prog_114_method_3_code 39 = .ok (.lxor, 1) := by decide +kernel
theorem d6_40 : decode prog_114_method_3_code 40 = .ok (.land, 1) := by decide +kernel
theorem d6_41 : decode prog_114_method_3_code 41 = .ok (.putfield 17, 3) := by decide +kernel
theorem d6_44 : decode prog_114_method_3_code 44 = .ok (.aload_n 0, 1) := by decide +kernel
theorem d6_45 : decode prog_114_method_3_code 45 = .ok (.getfield 13, 3) := by decide +kernel
theorem d6_48 : decode prog_114_method_3_code 48 = .ok (.bipush 6, 2) := by decide +kernel
theorem d6_50 : decode prog_114_method_3_code 50 = .ok (.ishl, 1) := by decide +kernel
theorem d6_51 : decode prog_114_method_3_code 51 = .ok (.iload_n 1, 1) := by decide +kernel
theorem d6_52 : decode prog_114_method_3_code 52 = .ok (.iadd, 1) := by decide +kernel
theorem d6_53 : decode prog_114_method_3_code 53 = .ok (.ireturn, 1) := by decide +kernel
theorem pd6___Z : parseMethodDescriptor "()Z" = some ⟨[], some .boolean⟩ := by decide +kernel
theorem pd6__J_I : parseMethodDescriptor "(J)I" = some ⟨[.long], some .int⟩ := by decide +kernel
theorem pn_6 : plainName "com/example/lone1/lone1/solve/SweepOrder" = true := by first | (simp [plainName, overriddenIn]; done) | decide +kernel
theorem ef_6 (m : MethodId) (x0 : Addr) : entryFrame m #[(.ref x0)] 2 = mkF m 0 #[.val (.ref x0), .unset] [] := by first | (simp [entryFrame, mkF, argsToLocals, Value.category]; done) | rfl
def Q6 (Z : State) (o0 : Addr) (ar : Addr) (kk : ClassId) (z : Int32) (at_ : Int32) (wd : Int64) (u0 : Int64) (u1 : Int64) (u2 : Int64) (h0 : Heap) (n0 : Nat) (v : Option Value) (h : Heap) (L : List Loc) : Prop := v = some (.int ((at_ <<< ((6 : Int32) &&& 31)) + own_bit wd)) ∧ Fr n0 L ∧ n0 ≤ h.size ∧ own_S Z h o0 ar kk z at_ (own_clr wd) u0 u1 u2
set_option maxRecDepth 65536 in
set_option maxHeartbeats 40000000 in
theorem rm6 (l : Launch) (Z : State) (a0 : Array Value) (hw : ∀ d ∈ tables_1, d.before a0 Z = true) (ws : List Jvm.Cond) (o0 : Addr) (ar : Addr) (kk : ClassId) (z : Int32) (at_ : Int32) (wd : Int64) (u0 : Int64) (u1 : Int64) (u2 : Int64) (h0 : Heap) (n0 : Nat) (Z0 : n0 ≤ h0.size) (P0 : own_S Z h0 o0 ar kk z at_ wd u0 u1 u2) (g_s : n0 ≤ o0) (ne_s_ar : o0 ≠ ar) (hwd : ¬ wd = (0 : Int64)) :
    MetFree l (⟨"com/example/lone1/lone1/solve/SweepOrder", "next", "()I"⟩ : MethodName) (head1 (Jvm.Cond.code (⟨"com/example/lone1/lone1/solve/SweepOrder", "next", "()I"⟩ : MethodName) prog_114_method_3_code 2 (some .int) :: ws) ({ frames := 2, cells := 0, slots := 0, locals := 29 } : Room)) (fun a U => a = #[(.ref o0)] ∧ Z.Warmed39 U.vm ∧ U.heap = h0) (fun _ _ _ _ _ => True) (fun _ U o U' => ∃ v L, o = .returned v ∧ Q6 Z o0 ar kk z at_ wd u0 u1 u2 h0 n0 v U'.heap L ∧ FrameEnd U o U' L ({ frames := 2, cells := 0, slots := 0, locals := 29 } : Room).cells ({ frames := 2, cells := 0, slots := 0, locals := 29 } : Room).slots) := by
  refine MetFree.of_bodySF (plainFor_of_name pn_6) hisR ?_
  intro p e s m args below meth c s₁ Bd hml0 hP hK
  obtain ⟨rfl, hZ, hh⟩ := hP
  have hx := Bd.exec
  have hby := Bd.bytes
  have hml : c.maxLocals = 2 := hml0
  have hown : s.vm.findClass "com/example/lone1/lone1/solve/SweepOrder" = some m.cls := findClass_of_methodNamed Bd.named
  have hnm := (name_of_methodNamed Bd.named Bd.method).1
  have X0 : Stand p l e ({ frames := 2, cells := 0, slots := 0, locals := 29 } : Room) s m #[(.ref o0)] below meth c s₁ [] 0 0 := Stand.of_body Bd
  have e0 : s₁.heap = h0 := by rw [← hh, Bd.state]; rfl
  have N0 := Fr.nil n0
  obtain ⟨F, hF⟩ : ∃ F : State → Prop, F = own_Fin p e below s ({ frames := 2, cells := 0, slots := 0, locals := 29 } : Room).cells ({ frames := 2, cells := 0, slots := 0, locals := 29 } : Room).slots (fun v h L => Q6 Z o0 ar kk z at_ wd u0 u1 u2 h0 n0 v h L) := ⟨_, rfl⟩
  have bk : ∀ {A B : State}, (∀ t, Steps p.tables e below B t → Steps p.tables e below A t) → F B → F A := by
    intro A B h k
    rw [hF] at k ⊢
    exact own_back h k
  suffices hgo : F (s₁.setTop (mkF m 0 #[.val (.ref o0), .unset] [])) by
    have hgo' := bk (fun t k => castTop (T := s₁) (ef_6 m o0) k) hgo
    rw [hF] at hgo'
    exact hgo'
  obtain ⟨E_s, F_words, F_at, F_word, V_ar⟩ := P0
  refine bk (fun t k => XS.aloadN X0.here hx rfl (hb hby d6_0) rfl rfl k) ?_
  show F (s₁.setTop (mkF m 1 #[.val (.ref o0), .unset] [(.ref o0)]))
  obtain ⟨cq1, kq1, q1a, q1b, q1c⟩ := isOf hZ e0 (E_s)
  obtain ⟨_, _, ⟨T1, L1, k1, n1⟩, -, X1, ⟨Lc1, hQ1, l1, y1, z1⟩, st1⟩ := X0.virtualBack hx (y := (⟨"com/example/lone1/lone1/solve/SweepOrder", "hasNext", "()Z"⟩ : MethodName)) (z := (⟨"com/example/lone1/lone1/solve/SweepOrder", "hasNext", "()Z"⟩ : MethodName)) hown (mvT hZ (hw _ (List.mem_of_getElem? (i := 34) rfl))) (mvT hZ (hw _ (List.mem_of_getElem? (i := 22) rfl))) (notFace_of_selects (args := #[]) (mvT hZ (hw _ (List.mem_of_getElem? (i := 24) rfl)))) (mvT hZ (hw _ (List.mem_of_getElem? (i := 24) rfl))) (mvT hZ (hw _ (List.mem_of_getElem? (i := 23) rfl))) (by decide) (backOf (W := 0) (rm5N l Z a0 hw [] o0 wd h0 n0 Z0 F_word hwd) hZ (hw _ (List.mem_of_getElem? (i := 25) rfl)) (hw _ (List.mem_of_getElem? (i := 10) rfl)) (by decide) (by decide)) q1a q1c (g := (mkF m 1 #[.val (.ref o0), .unset] [(.ref o0)])) rfl (by rw [hml]; rfl) (Steps.refl _) (argsL := []) (rest := []) (lenOf pd6___Z rfl) rfl (by show 2 * 0 + _ ≤ _; exact Nat.le_of_eq rfl) (hb hby d6_1) (fun _ _ => ⟨rfl, e0, (by decide : 0 + 0 ≤ _), (by decide : 0 + 0 ≤ _)⟩)
  dsimp only [Pt.U, Pt.locs, Pt.cells, Pt.slots] at X1 l1 y1 z1 st1 hQ1
  subst l1 y1 z1
  obtain ⟨rfl, N1q, e1⟩ := hQ1
  have N1 := Fr.app N0 N1q
  refine bk (fun t k => st1.trans k) ?_
  show F (T1.setTop (mkF m 4 #[.val (.ref o0), .unset] [(.int (1 : Int32))]))
  refine bk (fun t k => XS.ifYes X1.here hx rfl (pc0 := 4) (pc' := 17) rfl (hb hby d6_4) rfl ((if0 _ _).trans (feq (by decide : ¬ ((1 : Int32) = (0 : Int32)))).2) (by decide) (by decide) k) ?_
  refine bk (fun t k => XS.bipush X1.here hx rfl (hb hby d6_17) k) ?_
  refine bk (fun t k => XS.aloadN X1.here hx rfl (hb hby d6_19) rfl rfl k) ?_
  show F (T1.setTop (mkF m 20 #[.val (.ref o0), .unset] [(.ref o0), (.int (63 : Int32))]))
  obtain ⟨T2, X2, e2, st2⟩ := getF X1 hx hZ hown (host := "") (Or.inl (hw _ (List.mem_of_getElem? (i := 26) rfl))) Via.refl e1 F_word (g := (mkF m 20 #[.val (.ref o0), .unset] [(.ref o0), (.int (63 : Int32))])) rfl rfl (hb hby d6_20)
  refine bk (fun t k => st2 t k) ?_
  show F (T2.setTop (mkF m 23 #[.val (.ref o0), .unset] [(.long wd), (.int (63 : Int32))]))
  obtain ⟨_, _, ⟨T3, L3, k3, n3⟩, -, X3, ⟨Lc3, hQ3, l3, y3, z3⟩, st3⟩ := Jvm.LawKit.callS X2 hx (y := (⟨"java/lang/Long", "numberOfLeadingZeros", "(J)I"⟩ : MethodName)) hown (mvT hZ (hw _ (List.mem_of_getElem? (i := 35) rfl))) (mvT hZ (hw _ (List.mem_of_getElem? (i := 36) rfl))) (mvT hZ (hw _ (List.mem_of_getElem? (i := 37) rfl))) (mvT hZ (hw _ (List.mem_of_getElem? (i := 38) rfl))) (by decide) (backOf (W := 1) (rm7 l Z a0 hw [] wd h0 n0 Z0) hZ (hw _ (List.mem_of_getElem? (i := 38) rfl)) (hw _ (List.mem_of_getElem? (i := 37) rfl)) (by decide) (by decide)) (g := (mkF m 23 #[.val (.ref o0), .unset] [(.long wd), (.int (63 : Int32))])) rfl (by rw [hml]; rfl) (argsL := [(.long wd)]) (rest := [(.int (63 : Int32))]) (lenOf pd6__J_I rfl) rfl (by show 2 * 0 + _ ≤ _; exact Nat.le_of_eq rfl) (hb hby d6_23) (fun _ _ => ⟨rfl, e2, (by decide : 0 + 0 ≤ _), (by decide : 0 + 0 ≤ _)⟩)
  dsimp only [Pt.U, Pt.locs, Pt.cells, Pt.slots] at X3 l3 y3 z3 st3 hQ3
  subst l3 y3 z3
  obtain ⟨rfl, N3q, e3⟩ := hQ3
  have N3 := Fr.app N1 N3q
  refine bk (fun t k => st3 t k) ?_
  show F (T3.setTop (mkF m 26 #[.val (.ref o0), .unset] [(.int (own_nlz64 wd)), (.int (63 : Int32))]))
  refine bk (fun t k => XS.isub X3.here hx rfl (hb hby d6_26) rfl k) ?_
  show F (T3.setTop (mkF m 27 #[.val (.ref o0), .unset] [(.int (own_bit wd))]))
  refine bk (fun t k => XS.istoreN X3.here hx rfl (hb hby d6_27) rfl (l' := #[.val (.ref o0), .val (.int (own_bit wd))]) rfl k) ?_
  refine bk (fun t k => XS.aloadN X3.here hx rfl (hb hby d6_28) rfl rfl k) ?_
  refine bk (fun t k => XS.dup X3.here hx rfl (hb hby d6_29) rfl rfl k) ?_
  show F (T3.setTop (mkF m 30 #[.val (.ref o0), .val (.int (own_bit wd))] [(.ref o0), (.ref o0)]))
  obtain ⟨T4, X4, e4, st4⟩ := getF X3 hx hZ hown (host := "") (Or.inl (hw _ (List.mem_of_getElem? (i := 26) rfl))) Via.refl e3 F_word (g := (mkF m 30 #[.val (.ref o0), .val (.int (own_bit wd))] [(.ref o0), (.ref o0)])) rfl rfl (hb hby d6_30)
  refine bk (fun t k => st4 t k) ?_
  refine bk (fun t k => XS.lconst X4.here hx rfl (hb hby d6_33) k) ?_
  refine bk (fun t k => XS.iloadN X4.here hx rfl (hb hby d6_34) rfl k) ?_
  show F (T4.setTop (mkF m 35 #[.val (.ref o0), .val (.int (own_bit wd))] [(.int (own_bit wd)), (.long (1 : Int64)), (.long wd), (.ref o0)]))
  refine bk (fun t k => XS.lshl X4.here hx rfl (hb hby d6_35) rfl k) ?_
  show F (T4.setTop (mkF m 36 #[.val (.ref o0), .val (.int (own_bit wd))] [(.long ((1 : Int64) <<< ((own_bit wd) &&& 0x3f).toInt64)), (.long wd), (.ref o0)]))
  refine bk (fun t k => X4.ldc2Long hx hown (mvT hZ (hw _ (List.mem_of_getElem? (i := 44) rfl))) (g := (mkF m 36 #[.val (.ref o0), .val (.int (own_bit wd))] [(.long ((1 : Int64) <<< ((own_bit wd) &&& 0x3f).toInt64)), (.long wd), (.ref o0)])) rfl (hb hby d6_36) t k) ?_
  show F (T4.setTop (mkF m 39 #[.val (.ref o0), .val (.int (own_bit wd))] [(.long (-1 : Int64)), (.long ((1 : Int64) <<< ((own_bit wd) &&& 0x3f).toInt64)), (.long wd), (.ref o0)]))
  refine bk (fun t k => XS.lxor X4.here hx rfl (hb hby d6_39) rfl k) ?_
  show F (T4.setTop (mkF m 40 #[.val (.ref o0), .val (.int (own_bit wd))] [(.long (((1 : Int64) <<< ((own_bit wd) &&& 0x3f).toInt64) ^^^ (-1 : Int64))), (.long wd), (.ref o0)]))
  refine bk (fun t k => XS.land X4.here hx rfl (hb hby d6_40) rfl k) ?_
  show F (T4.setTop (mkF m 41 #[.val (.ref o0), .val (.int (own_bit wd))] [(.long (own_clr wd)), (.ref o0)]))
  obtain ⟨T5, h5, X5, e5, W5, st5⟩ := putF X4 hx hZ hown (host := "") (Or.inl (hw _ (List.mem_of_getElem? (i := 26) rfl))) Via.refl e4 F_word E_s (Or.inl (hw _ (List.mem_of_getElem? (i := 27) rfl))) (hw _ (List.mem_of_getElem? (i := 9) rfl)) (ty := .long) (by decide) rfl rfl (g := (mkF m 41 #[.val (.ref o0), .val (.int (own_bit wd))] [(.long (own_clr wd)), (.ref o0)])) rfl rfl (hb hby d6_41)
  have f6 := E_s.wr W5
  have f7 := F_words.other W5 (Or.inr (slot_ne (Or.inr (hw _ (List.mem_of_getElem? (i := 18) rfl))) (Or.inl (hw _ (List.mem_of_getElem? (i := 27) rfl))) (by decide) (t := (.array .long)) (t' := .long) (by decide) (by decide)))
  have f8 := F_at.other W5 (Or.inr (slot_ne (Or.inl (hw _ (List.mem_of_getElem? (i := 20) rfl))) (Or.inl (hw _ (List.mem_of_getElem? (i := 27) rfl))) (by decide) (t := .int) (t' := .long) (by decide) (by decide)))
  have f9 := F_word.same W5
  have f10 := V_ar.other W5 (Ne.symm ne_s_ar)
  have f11 := Nat.le_trans Z0 (Keep.of_wr W5).1
  have N5 := Fr.snoc X5 N3 g_s
  refine bk (fun t k => st5 t k) ?_
  refine bk (fun t k => XS.aloadN X5.here hx rfl (hb hby d6_44) rfl rfl k) ?_
  show F (T5.setTop (mkF m 45 #[.val (.ref o0), .val (.int (own_bit wd))] [(.ref o0)]))
  obtain ⟨T12, X12, e12, st12⟩ := getF X5 hx hZ hown (host := "") (Or.inl (hw _ (List.mem_of_getElem? (i := 19) rfl))) Via.refl e5 f8 (g := (mkF m 45 #[.val (.ref o0), .val (.int (own_bit wd))] [(.ref o0)])) rfl rfl (hb hby d6_45)
  refine bk (fun t k => st12 t k) ?_
  refine bk (fun t k => XS.bipush X12.here hx rfl (hb hby d6_48) k) ?_
  show F (T12.setTop (mkF m 50 #[.val (.ref o0), .val (.int (own_bit wd))] [(.int (6 : Int32)), (.int at_)]))
  refine bk (fun t k => XS.ishl X12.here hx rfl (hb hby d6_50) rfl k) ?_
  refine bk (fun t k => XS.iloadN X12.here hx rfl (hb hby d6_51) rfl k) ?_
  show F (T12.setTop (mkF m 52 #[.val (.ref o0), .val (.int (own_bit wd))] [(.int (own_bit wd)), (.int (at_ <<< ((6 : Int32) &&& 31)))]))
  refine bk (fun t k => XS.iadd X12.here hx rfl (hb hby d6_52) rfl k) ?_
  show F (T12.setTop (mkF m 53 #[.val (.ref o0), .val (.int (own_bit wd))] [(.int ((at_ <<< ((6 : Int32) &&& 31)) + (own_bit wd)))]))
  rw [hF]
  refine own_retI X12 hx Bd.notSynchronized Bd.returns (hb hby d6_53) (by decide) (by decide) ?_
  rw [e12]
  exact ⟨rfl, N5, f11, ⟨f6, f7, f8, f9, f10⟩⟩
theorem pd0___J_V : parseMethodDescriptor "([J)V" = some ⟨[(.array .long)], none⟩ := by decide +kernel
theorem pd0___Z : parseMethodDescriptor "()Z" = some ⟨[], some .boolean⟩ := by decide +kernel
theorem pd0___I : parseMethodDescriptor "()I" = some ⟨[], some .int⟩ := by decide +kernel
theorem pd0__J_Z : parseMethodDescriptor "(J)Z" = some ⟨[.long], some .boolean⟩ := by decide +kernel
theorem pd0__IJ_J : parseMethodDescriptor "(IJ)J" = some ⟨[.int, .long], some .long⟩ := by decide +kernel
theorem pn_0 : plainName "com/example/lone1/lone1/solve/SweepOrderHasNextPinLaw" = true := by first | (simp [plainName, overriddenIn]; done) | decide +kernel
theorem ef_0 (m : MethodId) (x0 : Int64) (x1 : Int64) (x2 : Int64) (x3 : Int32) : entryFrame m #[(.long x0), (.long x1), (.long x2), (.int x3)] maxLocals = mkF m 0 #[.val (.long x0), .second, .val (.long x1), .second, .val (.long x2), .second, .val (.int x3), .unset, .unset, .unset, .unset, .unset, .unset, .unset, .unset, .unset, .unset, .unset, .unset, .unset, .unset, .unset, .unset, .unset, .unset] [] := by first | (simp [entryFrame, mkF, argsToLocals, Value.category, maxLocals]; done) | rfl
def Q0 (Z : State) (q0 : Int64) (q1 : Int64) (q2 : Int64) (p3 : Int32) (h0 : Heap) (n0 : Nat) (v : Option Value) (h : Heap) (L : List Loc) : Prop := v = some (.int (1 : Int32)) ∧ Fr n0 L
set_option maxRecDepth 65536 in
set_option maxHeartbeats 40000000 in
theorem own_J213_0 (l : Launch) (Z : State) (a0 : Array Value) (hw : ∀ d ∈ tables_1, d.before a0 Z = true) (ws : List Jvm.Cond) (q0 : Int64) (q1 : Int64) (q2 : Int64) (p3 : Int32) (h0 : Heap) (n0 : Nat) (Z0 : n0 ≤ h0.size) {p : Program} {e : Env} {s : State} {m : MethodId} {below : List Frame} {meth : Method} {c : Code} {s₁ : State}
    (Bd : BodyLoose p l x (head1 (Jvm.Cond.code x code maxLocals ret :: ws) room_1) code maxLocals ret e s m #[(.long q0), (.long q1), (.long q2), (.int p3)] below meth c s₁) (hml : c.maxLocals = 25) (hZ : Z.Warmed39 s.vm) (F : State → Prop) (hF : F = own_Fin p e below s room_1.cells room_1.slots (fun v h L => Q0 Z q0 q1 q2 p3 h0 n0 v h L))
    (bk : ∀ {A B : State}, (∀ t, Steps p.tables e below B t → Steps p.tables e below A t) → F B → F A) : ∀ (TJ : State) (LJ : List Loc) (hJ : Heap) (XJ : Stand p l e room_1 s m #[(.long q0), (.long q1), (.long q2), (.int p3)] below meth c TJ LJ 1 3) (eJ : TJ.heap = hJ) (NJ : Fr n0 LJ) (n7 : Int32) (w0 : Int64) (w1 : Int64) (w2 : Int64) (ar : Addr) (u0 : Int64) (u1 : Int64) (u2 : Int64) (kk : ClassId) (jZ : n0 ≤ hJ.size) (jV : Arv Z hJ ar kk .long (0 : Int32) [.long u0, .long u1, .long u2] (.long (0 : Int64))) (hz0 : u0 = (0 : Int64)) (hz1 : u1 = (0 : Int64)) (hz2 : u2 = (0 : Int64)) (cnt : Int32) (hcnt : cnt = own_cnt u0 u1 u2) (any : Int32) (hany : any = own_anyc cnt) (two : Int32) (htwo : two = own_two cnt u0 u1 u2), F (TJ.setTop (mkF m 213 #[.val (.long q0), .second, .val (.long q1), .second, .val (.long q2), .second, .val (.int p3), .val (.int n7), .val (.long w0), .second, .val (.long w1), .second, .val (.long w2), .second, .val (.ref ar), .val (.long u0), .second, .val (.long u1), .second, .val (.long u2), .second, .val (.int cnt), .val (.int any), .unset, .unset] [(.int two)])) := by
  intro TJ LJ hJ XJ eJ NJ n7 w0 w1 w2 ar u0 u1 u2 kk jZ jV hz0 hz1 hz2 cnt hcnt any hany two htwo
  have hx := Bd.exec
  have hby := Bd.bytes
  have hown : s.vm.findClass "com/example/lone1/lone1/solve/SweepOrderHasNextPinLaw" = some m.cls := findClass_of_methodNamed Bd.named
  have hnm := (name_of_methodNamed Bd.named Bd.method).1
  have w_8 := hw _ (List.mem_of_getElem? (i := 8) rfl)
  have w_9 := hw _ (List.mem_of_getElem? (i := 9) rfl)
  have w_10 := hw _ (List.mem_of_getElem? (i := 10) rfl)
  have w_11 := hw _ (List.mem_of_getElem? (i := 11) rfl)
  have w_12 := hw _ (List.mem_of_getElem? (i := 12) rfl)
  have w_13 := hw _ (List.mem_of_getElem? (i := 13) rfl)
  have w_18 := hw _ (List.mem_of_getElem? (i := 18) rfl)
  have w_20 := hw _ (List.mem_of_getElem? (i := 20) rfl)
  have w_21 := hw _ (List.mem_of_getElem? (i := 21) rfl)
  have w_22 := hw _ (List.mem_of_getElem? (i := 22) rfl)
  have w_23 := hw _ (List.mem_of_getElem? (i := 23) rfl)
  have w_24 := hw _ (List.mem_of_getElem? (i := 24) rfl)
  have w_25 := hw _ (List.mem_of_getElem? (i := 25) rfl)
  have w_27 := hw _ (List.mem_of_getElem? (i := 27) rfl)
  obtain rfl : any = (0 : Int32) := hany.trans (by subst hcnt; simp +decide [own_anyc, own_cnt, own_b, hz0, hz1, hz2])
  obtain rfl : two = (0 : Int32) := htwo.trans (by subst hcnt; simp +decide [own_two, own_cnt, own_b, own_mb0, hz0, hz1, hz2])
  show F (TJ.setTop (mkF m 213 #[.val (.long q0), .second, .val (.long q1), .second, .val (.long q2), .second, .val (.int p3), .val (.int n7), .val (.long w0), .second, .val (.long w1), .second, .val (.long w2), .second, .val (.ref ar), .val (.long u0), .second, .val (.long u1), .second, .val (.long u2), .second, .val (.int cnt), .val (.int (0 : Int32)), .unset, .unset] [(.int (0 : Int32))]))
  refine bk (fun t k => XS.istore XJ.here hx rfl (hb hby at_213) rfl (l' := #[.val (.long q0), .second, .val (.long q1), .second, .val (.long q2), .second, .val (.int p3), .val (.int n7), .val (.long w0), .second, .val (.long w1), .second, .val (.long w2), .second, .val (.ref ar), .val (.long u0), .second, .val (.long u1), .second, .val (.long u2), .second, .val (.int cnt), .val (.int (0 : Int32)), .val (.int (0 : Int32)), .unset]) rfl k) ?_
  show F (TJ.setTop (mkF m 215 #[.val (.long q0), .second, .val (.long q1), .second, .val (.long q2), .second, .val (.int p3), .val (.int n7), .val (.long w0), .second, .val (.long w1), .second, .val (.long w2), .second, .val (.ref ar), .val (.long u0), .second, .val (.long u1), .second, .val (.long u2), .second, .val (.int cnt), .val (.int (0 : Int32)), .val (.int (0 : Int32)), .unset] []))
  obtain ⟨T1, h1, X1, e1, E1, A1, D1, -, st1⟩ := newO XJ hx hZ hown w_8 w_9 w_10 eJ (g := (mkF m 215 #[.val (.long q0), .second, .val (.long q1), .second, .val (.long q2), .second, .val (.int p3), .val (.int n7), .val (.long w0), .second, .val (.long w1), .second, .val (.long w2), .second, .val (.ref ar), .val (.long u0), .second, .val (.long u1), .second, .val (.long u2), .second, .val (.int cnt), .val (.int (0 : Int32)), .val (.int (0 : Int32)), .unset] [])) rfl (hb hby at_215) (by decide) (by decide)
  obtain ⟨b1, g1⟩ : ∃ z, z = hJ.size := ⟨_, rfl⟩
  rw [← g1] at A1 D1 st1
  have Gb1 : n0 ≤ b1 := Nat.le_trans jZ (Nat.le_of_eq g1.symm)
  have ne_ar_b1 : ar ≠ b1 := Nat.ne_of_lt (Nat.lt_of_lt_of_le jV.lt (Nat.le_of_eq g1.symm))
  have f2 := Nat.le_trans jZ E1.1
  have f3 := jV.ext E1
  have F_words_b1 : Fld Z h1 b1 "com/example/lone1/lone1/solve/SweepOrder" "words" "[J" .null := D1 (Or.inr w_18) (ty := (.array .long)) (by decide)
  have F_at_b1 : Fld Z h1 b1 "com/example/lone1/lone1/solve/SweepOrder" "at" "I" (.int (0 : Int32)) := D1 (Or.inl w_20) (ty := .int) (by decide)
  have F_word_b1 : Fld Z h1 b1 "com/example/lone1/lone1/solve/SweepOrder" "word" "J" (.long (0 : Int64)) := D1 (Or.inl w_27) (ty := .long) (by decide)
  refine bk (fun t k => st1 t k) ?_
  refine bk (fun t k => XS.dup X1.here hx rfl (hb hby at_218) rfl rfl k) ?_
  refine bk (fun t k => XS.aload X1.here hx rfl (hb hby at_219) rfl rfl k) ?_
  show F (T1.setTop (mkF m 221 #[.val (.long q0), .second, .val (.long q1), .second, .val (.long q2), .second, .val (.int p3), .val (.int n7), .val (.long w0), .second, .val (.long w1), .second, .val (.long w2), .second, .val (.ref ar), .val (.long u0), .second, .val (.long u1), .second, .val (.long u2), .second, .val (.int cnt), .val (.int (0 : Int32)), .val (.int (0 : Int32)), .unset] [(.ref ar), (.ref b1), (.ref b1)]))
  obtain ⟨_, _, ⟨T4, L4, k4, n4⟩, -, X4, ⟨Lc4, hQ4, l4, y4, z4⟩, st4⟩ := X1.specialBack hx (y := (⟨"com/example/lone1/lone1/solve/SweepOrder", "<init>", "([J)V"⟩ : MethodName)) rfl hown (mvT hZ w_11) (mvT hZ w_12) (mvT hZ w_13) (by decide) (backOf (W := 1) (rm3 l Z a0 hw [] b1 ar kk (0 : Int32) u0 u1 u2 h1 n0 f2 A1 F_words_b1 F_at_b1 F_word_b1 f3 Gb1 (Ne.symm ne_ar_b1)) hZ w_13 w_10 (by decide) (by decide)) (g := (mkF m 221 #[.val (.long q0), .second, .val (.long q1), .second, .val (.long q2), .second, .val (.int p3), .val (.int n7), .val (.long w0), .second, .val (.long w1), .second, .val (.long w2), .second, .val (.ref ar), .val (.long u0), .second, .val (.long u1), .second, .val (.long u2), .second, .val (.int cnt), .val (.int (0 : Int32)), .val (.int (0 : Int32)), .unset] [(.ref ar), (.ref b1), (.ref b1)])) rfl (by rw [hml]; rfl) (Steps.refl _) (a := b1) (argsL := [(.ref ar)]) (rest := [(.ref b1)]) (lenOf pd0___J_V rfl) rfl (by show 2 * 0 + _ ≤ _; exact Nat.le_of_eq rfl) (hb hby at_221) (fun _ _ => ⟨rfl, e1, (by decide : 2 + 0 ≤ _), (by decide : 6 + 0 ≤ _)⟩)
  dsimp only [Pt.U, Pt.locs, Pt.cells, Pt.slots] at X4 l4 y4 z4 st4 hQ4
  subst l4 y4 z4
  obtain ⟨rfl, N4q, gZ4, gP4⟩ := hQ4
  have N4 := Fr.app NJ N4q
  have ne_b1_ar : b1 ≠ ar := (Ne.symm ne_ar_b1)
  refine bk (fun t k => st4.trans k) ?_
  show F (T4.setTop (mkF m 224 #[.val (.long q0), .second, .val (.long q1), .second, .val (.long q2), .second, .val (.int p3), .val (.int n7), .val (.long w0), .second, .val (.long w1), .second, .val (.long w2), .second, .val (.ref ar), .val (.long u0), .second, .val (.long u1), .second, .val (.long u2), .second, .val (.int cnt), .val (.int (0 : Int32)), .val (.int (0 : Int32)), .unset] [(.ref b1)]))
  refine bk (fun t k => XS.astore X4.here hx rfl (hb hby at_224) rfl rfl (l' := #[.val (.long q0), .second, .val (.long q1), .second, .val (.long q2), .second, .val (.int p3), .val (.int n7), .val (.long w0), .second, .val (.long w1), .second, .val (.long w2), .second, .val (.ref ar), .val (.long u0), .second, .val (.long u1), .second, .val (.long u2), .second, .val (.int cnt), .val (.int (0 : Int32)), .val (.int (0 : Int32)), .val (.ref b1)]) rfl k) ?_
  refine bk (fun t k => XS.aload X4.here hx rfl (hb hby at_226) rfl rfl k) ?_
  show F (T4.setTop (mkF m 228 #[.val (.long q0), .second, .val (.long q1), .second, .val (.long q2), .second, .val (.int p3), .val (.int n7), .val (.long w0), .second, .val (.long w1), .second, .val (.long w2), .second, .val (.ref ar), .val (.long u0), .second, .val (.long u1), .second, .val (.long u2), .second, .val (.int cnt), .val (.int (0 : Int32)), .val (.int (0 : Int32)), .val (.ref b1)] [(.ref b1)]))
  obtain ⟨cq5, kq5, q5a, q5b, q5c⟩ := isOf hZ rfl (gP4.1)
  obtain ⟨_, _, ⟨T5, L5, k5, n5⟩, -, X5, ⟨Lc5, hQ5, l5, y5, z5⟩, st5⟩ := X4.virtualBack hx (y := (⟨"com/example/lone1/lone1/solve/SweepOrder", "hasNext", "()Z"⟩ : MethodName)) (z := (⟨"com/example/lone1/lone1/solve/SweepOrder", "hasNext", "()Z"⟩ : MethodName)) hown (mvT hZ w_21) (mvT hZ w_22) (notFace_of_selects (args := #[]) (mvT hZ w_24)) (mvT hZ w_24) (mvT hZ w_23) (by decide) (backOf (W := 0) (rm5Z0n l Z a0 hw [] b1 ar kk (0 : Int32) u0 u1 u2 T4.heap n0 gZ4 gP4 Gb1 ne_b1_ar ) hZ w_25 w_10 (by decide) (by decide)) q5a q5c (g := (mkF m 228 #[.val (.long q0), .second, .val (.long q1), .second, .val (.long q2), .second, .val (.int p3), .val (.int n7), .val (.long w0), .second, .val (.long w1), .second, .val (.long w2), .second, .val (.ref ar), .val (.long u0), .second, .val (.long u1), .second, .val (.long u2), .second, .val (.int cnt), .val (.int (0 : Int32)), .val (.int (0 : Int32)), .val (.ref b1)] [(.ref b1)])) rfl (by rw [hml]; rfl) (Steps.refl _) (argsL := []) (rest := []) (lenOf pd0___Z rfl) rfl (by show 2 * 0 + _ ≤ _; exact Nat.le_of_eq rfl) (hb hby at_228) (fun _ _ => ⟨rfl, rfl, (by decide : 2 + 0 ≤ _), (by decide : 6 + 0 ≤ _)⟩)
  dsimp only [Pt.U, Pt.locs, Pt.cells, Pt.slots] at X5 l5 y5 z5 st5 hQ5
  subst l5 y5 z5
  obtain ⟨rfl, N5q, gZ5, gP5⟩ := hQ5
  have N5 := Fr.app N4 N5q
  refine bk (fun t k => st5.trans k) ?_
  refine bk (fun t k => XS.iload X5.here hx rfl (hb hby at_231) rfl k) ?_
  show F (T5.setTop (mkF m 233 #[.val (.long q0), .second, .val (.long q1), .second, .val (.long q2), .second, .val (.int p3), .val (.int n7), .val (.long w0), .second, .val (.long w1), .second, .val (.long w2), .second, .val (.ref ar), .val (.long u0), .second, .val (.long u1), .second, .val (.long u2), .second, .val (.int cnt), .val (.int (0 : Int32)), .val (.int (0 : Int32)), .val (.ref b1)] [(.int (0 : Int32)), (.int (0 : Int32))]))
  refine bk (fun t k => XS.icmpYes X5.here hx rfl (pc0 := 233) (pc' := 238) rfl (hb hby at_233) rfl (teq (by decide : (0 : Int32) = (0 : Int32))).1 (by decide) (by decide) k) ?_
  refine bk (fun t k => XS.aload X5.here hx rfl (hb hby at_238) rfl rfl k) ?_
  show F (T5.setTop (mkF m 240 #[.val (.long q0), .second, .val (.long q1), .second, .val (.long q2), .second, .val (.int p3), .val (.int n7), .val (.long w0), .second, .val (.long w1), .second, .val (.long w2), .second, .val (.ref ar), .val (.long u0), .second, .val (.long u1), .second, .val (.long u2), .second, .val (.int cnt), .val (.int (0 : Int32)), .val (.int (0 : Int32)), .val (.ref b1)] [(.ref b1)]))
  obtain ⟨cq6, kq6, q6a, q6b, q6c⟩ := isOf hZ rfl (gP5.1)
  obtain ⟨_, _, ⟨T6, L6, k6, n6⟩, -, X6, ⟨Lc6, hQ6, l6, y6, z6⟩, st6⟩ := X5.virtualBack hx (y := (⟨"com/example/lone1/lone1/solve/SweepOrder", "hasNext", "()Z"⟩ : MethodName)) (z := (⟨"com/example/lone1/lone1/solve/SweepOrder", "hasNext", "()Z"⟩ : MethodName)) hown (mvT hZ w_21) (mvT hZ w_22) (notFace_of_selects (args := #[]) (mvT hZ w_24)) (mvT hZ w_24) (mvT hZ w_23) (by decide) (backOf (W := 0) (rm5Z0n l Z a0 hw [] b1 ar kk (0 : Int32) u0 u1 u2 T5.heap n0 gZ5 gP5 Gb1 ne_b1_ar ) hZ w_25 w_10 (by decide) (by decide)) q6a q6c (g := (mkF m 240 #[.val (.long q0), .second, .val (.long q1), .second, .val (.long q2), .second, .val (.int p3), .val (.int n7), .val (.long w0), .second, .val (.long w1), .second, .val (.long w2), .second, .val (.ref ar), .val (.long u0), .second, .val (.long u1), .second, .val (.long u2), .second, .val (.int cnt), .val (.int (0 : Int32)), .val (.int (0 : Int32)), .val (.ref b1)] [(.ref b1)])) rfl (by rw [hml]; rfl) (Steps.refl _) (argsL := []) (rest := []) (lenOf pd0___Z rfl) rfl (by show 2 * 0 + _ ≤ _; exact Nat.le_of_eq rfl) (hb hby at_240) (fun _ _ => ⟨rfl, rfl, (by decide : 2 + 0 ≤ _), (by decide : 6 + 0 ≤ _)⟩)
  dsimp only [Pt.U, Pt.locs, Pt.cells, Pt.slots] at X6 l6 y6 z6 st6 hQ6
  subst l6 y6 z6
  obtain ⟨rfl, N6q, gZ6, gP6⟩ := hQ6
  have N6 := Fr.app N5 N6q
  refine bk (fun t k => st6.trans k) ?_
  refine bk (fun t k => XS.iload X6.here hx rfl (hb hby at_243) rfl k) ?_
  show F (T6.setTop (mkF m 245 #[.val (.long q0), .second, .val (.long q1), .second, .val (.long q2), .second, .val (.int p3), .val (.int n7), .val (.long w0), .second, .val (.long w1), .second, .val (.long w2), .second, .val (.ref ar), .val (.long u0), .second, .val (.long u1), .second, .val (.long u2), .second, .val (.int cnt), .val (.int (0 : Int32)), .val (.int (0 : Int32)), .val (.ref b1)] [(.int (0 : Int32)), (.int (0 : Int32))]))
  refine bk (fun t k => XS.icmpYes X6.here hx rfl (pc0 := 245) (pc' := 250) rfl (hb hby at_245) rfl (teq (by decide : (0 : Int32) = (0 : Int32))).1 (by decide) (by decide) k) ?_
  refine bk (fun t k => XS.iload X6.here hx rfl (hb hby at_250) rfl k) ?_
  show F (T6.setTop (mkF m 252 #[.val (.long q0), .second, .val (.long q1), .second, .val (.long q2), .second, .val (.int p3), .val (.int n7), .val (.long w0), .second, .val (.long w1), .second, .val (.long w2), .second, .val (.ref ar), .val (.long u0), .second, .val (.long u1), .second, .val (.long u2), .second, .val (.int cnt), .val (.int (0 : Int32)), .val (.int (0 : Int32)), .val (.ref b1)] [(.int (0 : Int32))]))
  refine bk (fun t k => XS.ifNo X6.here hx rfl (hb hby at_252) rfl ((if0 _ _).trans (teq (by decide : (0 : Int32) = (0 : Int32))).2) k) ?_
  refine bk (fun t k => XS.iconst X6.here hx rfl (hb hby at_255) k) ?_
  show F (T6.setTop (mkF m 256 #[.val (.long q0), .second, .val (.long q1), .second, .val (.long q2), .second, .val (.int p3), .val (.int n7), .val (.long w0), .second, .val (.long w1), .second, .val (.long w2), .second, .val (.ref ar), .val (.long u0), .second, .val (.long u1), .second, .val (.long u2), .second, .val (.int cnt), .val (.int (0 : Int32)), .val (.int (0 : Int32)), .val (.ref b1)] [(.int (1 : Int32))]))
  rw [hF]
  refine own_retZ X6 hx Bd.notSynchronized Bd.returns (hb hby at_256) (by decide) (by decide) ?_
  exact ⟨rfl, N6⟩
set_option maxRecDepth 65536 in
set_option maxHeartbeats 40000000 in
theorem own_J213_1 (l : Launch) (Z : State) (a0 : Array Value) (hw : ∀ d ∈ tables_1, d.before a0 Z = true) (ws : List Jvm.Cond) (q0 : Int64) (q1 : Int64) (q2 : Int64) (p3 : Int32) (h0 : Heap) (n0 : Nat) (Z0 : n0 ≤ h0.size) {p : Program} {e : Env} {s : State} {m : MethodId} {below : List Frame} {meth : Method} {c : Code} {s₁ : State}
    (Bd : BodyLoose p l x (head1 (Jvm.Cond.code x code maxLocals ret :: ws) room_1) code maxLocals ret e s m #[(.long q0), (.long q1), (.long q2), (.int p3)] below meth c s₁) (hml : c.maxLocals = 25) (hZ : Z.Warmed39 s.vm) (F : State → Prop) (hF : F = own_Fin p e below s room_1.cells room_1.slots (fun v h L => Q0 Z q0 q1 q2 p3 h0 n0 v h L))
    (bk : ∀ {A B : State}, (∀ t, Steps p.tables e below B t → Steps p.tables e below A t) → F B → F A) : ∀ (TJ : State) (LJ : List Loc) (hJ : Heap) (XJ : Stand p l e room_1 s m #[(.long q0), (.long q1), (.long q2), (.int p3)] below meth c TJ LJ 1 3) (eJ : TJ.heap = hJ) (NJ : Fr n0 LJ) (n7 : Int32) (w0 : Int64) (w1 : Int64) (w2 : Int64) (ar : Addr) (u0 : Int64) (u1 : Int64) (u2 : Int64) (kk : ClassId) (jZ : n0 ≤ hJ.size) (jV : Arv Z hJ ar kk .long (1 : Int32) [.long u0, .long u1, .long u2] (.long (0 : Int64))) (hz1 : u1 = (0 : Int64)) (hz2 : u2 = (0 : Int64)) (cnt : Int32) (hcnt : cnt = own_cnt u0 u1 u2) (any : Int32) (hany : any = own_anyc cnt) (two : Int32) (htwo : two = own_two cnt u0 u1 u2), F (TJ.setTop (mkF m 213 #[.val (.long q0), .second, .val (.long q1), .second, .val (.long q2), .second, .val (.int p3), .val (.int n7), .val (.long w0), .second, .val (.long w1), .second, .val (.long w2), .second, .val (.ref ar), .val (.long u0), .second, .val (.long u1), .second, .val (.long u2), .second, .val (.int cnt), .val (.int any), .unset, .unset] [(.int two)])) := by
  intro TJ LJ hJ XJ eJ NJ n7 w0 w1 w2 ar u0 u1 u2 kk jZ jV hz1 hz2 cnt hcnt any hany two htwo
  have hx := Bd.exec
  have hby := Bd.bytes
  have hown : s.vm.findClass "com/example/lone1/lone1/solve/SweepOrderHasNextPinLaw" = some m.cls := findClass_of_methodNamed Bd.named
  have hnm := (name_of_methodNamed Bd.named Bd.method).1
  have w_8 := hw _ (List.mem_of_getElem? (i := 8) rfl)
  have w_9 := hw _ (List.mem_of_getElem? (i := 9) rfl)
  have w_10 := hw _ (List.mem_of_getElem? (i := 10) rfl)
  have w_11 := hw _ (List.mem_of_getElem? (i := 11) rfl)
  have w_12 := hw _ (List.mem_of_getElem? (i := 12) rfl)
  have w_13 := hw _ (List.mem_of_getElem? (i := 13) rfl)
  have w_18 := hw _ (List.mem_of_getElem? (i := 18) rfl)
  have w_20 := hw _ (List.mem_of_getElem? (i := 20) rfl)
  have w_21 := hw _ (List.mem_of_getElem? (i := 21) rfl)
  have w_22 := hw _ (List.mem_of_getElem? (i := 22) rfl)
  have w_23 := hw _ (List.mem_of_getElem? (i := 23) rfl)
  have w_24 := hw _ (List.mem_of_getElem? (i := 24) rfl)
  have w_25 := hw _ (List.mem_of_getElem? (i := 25) rfl)
  have w_27 := hw _ (List.mem_of_getElem? (i := 27) rfl)
  have w_29 := hw _ (List.mem_of_getElem? (i := 29) rfl)
  have w_30 := hw _ (List.mem_of_getElem? (i := 30) rfl)
  have w_31 := hw _ (List.mem_of_getElem? (i := 31) rfl)
  have w_32 := hw _ (List.mem_of_getElem? (i := 32) rfl)
  have w_33 := hw _ (List.mem_of_getElem? (i := 33) rfl)
  by_cases hc9200_7 : u0 = (0 : Int64)
  · obtain rfl : any = (0 : Int32) := hany.trans (by subst hcnt; simp +decide [own_anyc, own_cnt, own_b, hz1, hz2, hc9200_7])
    obtain rfl : two = (0 : Int32) := htwo.trans (by subst hcnt; simp +decide [own_two, own_cnt, own_b, own_mb0, hz1, hz2, hc9200_7])
    show F (TJ.setTop (mkF m 213 #[.val (.long q0), .second, .val (.long q1), .second, .val (.long q2), .second, .val (.int p3), .val (.int n7), .val (.long w0), .second, .val (.long w1), .second, .val (.long w2), .second, .val (.ref ar), .val (.long u0), .second, .val (.long u1), .second, .val (.long u2), .second, .val (.int cnt), .val (.int (0 : Int32)), .unset, .unset] [(.int (0 : Int32))]))
    refine bk (fun t k => XS.istore XJ.here hx rfl (hb hby at_213) rfl (l' := #[.val (.long q0), .second, .val (.long q1), .second, .val (.long q2), .second, .val (.int p3), .val (.int n7), .val (.long w0), .second, .val (.long w1), .second, .val (.long w2), .second, .val (.ref ar), .val (.long u0), .second, .val (.long u1), .second, .val (.long u2), .second, .val (.int cnt), .val (.int (0 : Int32)), .val (.int (0 : Int32)), .unset]) rfl k) ?_
    show F (TJ.setTop (mkF m 215 #[.val (.long q0), .second, .val (.long q1), .second, .val (.long q2), .second, .val (.int p3), .val (.int n7), .val (.long w0), .second, .val (.long w1), .second, .val (.long w2), .second, .val (.ref ar), .val (.long u0), .second, .val (.long u1), .second, .val (.long u2), .second, .val (.int cnt), .val (.int (0 : Int32)), .val (.int (0 : Int32)), .unset] []))
    obtain ⟨T8, h8, X8, e8, E8, A8, D8, -, st8⟩ := newO XJ hx hZ hown w_8 w_9 w_10 eJ (g := (mkF m 215 #[.val (.long q0), .second, .val (.long q1), .second, .val (.long q2), .second, .val (.int p3), .val (.int n7), .val (.long w0), .second, .val (.long w1), .second, .val (.long w2), .second, .val (.ref ar), .val (.long u0), .second, .val (.long u1), .second, .val (.long u2), .second, .val (.int cnt), .val (.int (0 : Int32)), .val (.int (0 : Int32)), .unset] [])) rfl (hb hby at_215) (by decide) (by decide)
    obtain ⟨b8, g8⟩ : ∃ z, z = hJ.size := ⟨_, rfl⟩
    rw [← g8] at A8 D8 st8
    have Gb8 : n0 ≤ b8 := Nat.le_trans jZ (Nat.le_of_eq g8.symm)
    have ne_ar_b8 : ar ≠ b8 := Nat.ne_of_lt (Nat.lt_of_lt_of_le jV.lt (Nat.le_of_eq g8.symm))
    have f9 := Nat.le_trans jZ E8.1
    have f10 := jV.ext E8
    have F_words_b8 : Fld Z h8 b8 "com/example/lone1/lone1/solve/SweepOrder" "words" "[J" .null := D8 (Or.inr w_18) (ty := (.array .long)) (by decide)
    have F_at_b8 : Fld Z h8 b8 "com/example/lone1/lone1/solve/SweepOrder" "at" "I" (.int (0 : Int32)) := D8 (Or.inl w_20) (ty := .int) (by decide)
    have F_word_b8 : Fld Z h8 b8 "com/example/lone1/lone1/solve/SweepOrder" "word" "J" (.long (0 : Int64)) := D8 (Or.inl w_27) (ty := .long) (by decide)
    refine bk (fun t k => st8 t k) ?_
    refine bk (fun t k => XS.dup X8.here hx rfl (hb hby at_218) rfl rfl k) ?_
    refine bk (fun t k => XS.aload X8.here hx rfl (hb hby at_219) rfl rfl k) ?_
    show F (T8.setTop (mkF m 221 #[.val (.long q0), .second, .val (.long q1), .second, .val (.long q2), .second, .val (.int p3), .val (.int n7), .val (.long w0), .second, .val (.long w1), .second, .val (.long w2), .second, .val (.ref ar), .val (.long u0), .second, .val (.long u1), .second, .val (.long u2), .second, .val (.int cnt), .val (.int (0 : Int32)), .val (.int (0 : Int32)), .unset] [(.ref ar), (.ref b8), (.ref b8)]))
    obtain ⟨_, _, ⟨T11, L11, k11, n11⟩, -, X11, ⟨Lc11, hQ11, l11, y11, z11⟩, st11⟩ := X8.specialBack hx (y := (⟨"com/example/lone1/lone1/solve/SweepOrder", "<init>", "([J)V"⟩ : MethodName)) rfl hown (mvT hZ w_11) (mvT hZ w_12) (mvT hZ w_13) (by decide) (backOf (W := 1) (rm3 l Z a0 hw [] b8 ar kk (1 : Int32) u0 u1 u2 h8 n0 f9 A8 F_words_b8 F_at_b8 F_word_b8 f10 Gb8 (Ne.symm ne_ar_b8)) hZ w_13 w_10 (by decide) (by decide)) (g := (mkF m 221 #[.val (.long q0), .second, .val (.long q1), .second, .val (.long q2), .second, .val (.int p3), .val (.int n7), .val (.long w0), .second, .val (.long w1), .second, .val (.long w2), .second, .val (.ref ar), .val (.long u0), .second, .val (.long u1), .second, .val (.long u2), .second, .val (.int cnt), .val (.int (0 : Int32)), .val (.int (0 : Int32)), .unset] [(.ref ar), (.ref b8), (.ref b8)])) rfl (by rw [hml]; rfl) (Steps.refl _) (a := b8) (argsL := [(.ref ar)]) (rest := [(.ref b8)]) (lenOf pd0___J_V rfl) rfl (by show 2 * 0 + _ ≤ _; exact Nat.le_of_eq rfl) (hb hby at_221) (fun _ _ => ⟨rfl, e8, (by decide : 2 + 0 ≤ _), (by decide : 6 + 0 ≤ _)⟩)
    dsimp only [Pt.U, Pt.locs, Pt.cells, Pt.slots] at X11 l11 y11 z11 st11 hQ11
    subst l11 y11 z11
    obtain ⟨rfl, N11q, gZ11, gP11⟩ := hQ11
    have N11 := Fr.app NJ N11q
    have ne_b8_ar : b8 ≠ ar := (Ne.symm ne_ar_b8)
    refine bk (fun t k => st11.trans k) ?_
    show F (T11.setTop (mkF m 224 #[.val (.long q0), .second, .val (.long q1), .second, .val (.long q2), .second, .val (.int p3), .val (.int n7), .val (.long w0), .second, .val (.long w1), .second, .val (.long w2), .second, .val (.ref ar), .val (.long u0), .second, .val (.long u1), .second, .val (.long u2), .second, .val (.int cnt), .val (.int (0 : Int32)), .val (.int (0 : Int32)), .unset] [(.ref b8)]))
    refine bk (fun t k => XS.astore X11.here hx rfl (hb hby at_224) rfl rfl (l' := #[.val (.long q0), .second, .val (.long q1), .second, .val (.long q2), .second, .val (.int p3), .val (.int n7), .val (.long w0), .second, .val (.long w1), .second, .val (.long w2), .second, .val (.ref ar), .val (.long u0), .second, .val (.long u1), .second, .val (.long u2), .second, .val (.int cnt), .val (.int (0 : Int32)), .val (.int (0 : Int32)), .val (.ref b8)]) rfl k) ?_
    refine bk (fun t k => XS.aload X11.here hx rfl (hb hby at_226) rfl rfl k) ?_
    show F (T11.setTop (mkF m 228 #[.val (.long q0), .second, .val (.long q1), .second, .val (.long q2), .second, .val (.int p3), .val (.int n7), .val (.long w0), .second, .val (.long w1), .second, .val (.long w2), .second, .val (.ref ar), .val (.long u0), .second, .val (.long u1), .second, .val (.long u2), .second, .val (.int cnt), .val (.int (0 : Int32)), .val (.int (0 : Int32)), .val (.ref b8)] [(.ref b8)]))
    obtain ⟨cq12, kq12, q12a, q12b, q12c⟩ := isOf hZ rfl (gP11.1)
    obtain ⟨_, _, ⟨T12, L12, k12, n12⟩, -, X12, ⟨Lc12, hQ12, l12, y12, z12⟩, st12⟩ := X11.virtualBack hx (y := (⟨"com/example/lone1/lone1/solve/SweepOrder", "hasNext", "()Z"⟩ : MethodName)) (z := (⟨"com/example/lone1/lone1/solve/SweepOrder", "hasNext", "()Z"⟩ : MethodName)) hown (mvT hZ w_21) (mvT hZ w_22) (notFace_of_selects (args := #[]) (mvT hZ w_24)) (mvT hZ w_24) (mvT hZ w_23) (by decide) (backOf (W := 0) (rm5Z1n l Z a0 hw [] b8 ar kk (1 : Int32) u0 u1 u2 T11.heap n0 gZ11 gP11 Gb8 ne_b8_ar (by decide) hc9200_7) hZ w_25 w_10 (by decide) (by decide)) q12a q12c (g := (mkF m 228 #[.val (.long q0), .second, .val (.long q1), .second, .val (.long q2), .second, .val (.int p3), .val (.int n7), .val (.long w0), .second, .val (.long w1), .second, .val (.long w2), .second, .val (.ref ar), .val (.long u0), .second, .val (.long u1), .second, .val (.long u2), .second, .val (.int cnt), .val (.int (0 : Int32)), .val (.int (0 : Int32)), .val (.ref b8)] [(.ref b8)])) rfl (by rw [hml]; rfl) (Steps.refl _) (argsL := []) (rest := []) (lenOf pd0___Z rfl) rfl (by show 2 * 0 + _ ≤ _; exact Nat.le_of_eq rfl) (hb hby at_228) (fun _ _ => ⟨rfl, rfl, (by decide : 2 + 0 ≤ _), (by decide : 6 + 0 ≤ _)⟩)
    dsimp only [Pt.U, Pt.locs, Pt.cells, Pt.slots] at X12 l12 y12 z12 st12 hQ12
    subst l12 y12 z12
    obtain ⟨rfl, N12q, gZ12, gP12⟩ := hQ12
    have N12 := Fr.app N11 N12q
    refine bk (fun t k => st12.trans k) ?_
    refine bk (fun t k => XS.iload X12.here hx rfl (hb hby at_231) rfl k) ?_
    show F (T12.setTop (mkF m 233 #[.val (.long q0), .second, .val (.long q1), .second, .val (.long q2), .second, .val (.int p3), .val (.int n7), .val (.long w0), .second, .val (.long w1), .second, .val (.long w2), .second, .val (.ref ar), .val (.long u0), .second, .val (.long u1), .second, .val (.long u2), .second, .val (.int cnt), .val (.int (0 : Int32)), .val (.int (0 : Int32)), .val (.ref b8)] [(.int (0 : Int32)), (.int (0 : Int32))]))
    refine bk (fun t k => XS.icmpYes X12.here hx rfl (pc0 := 233) (pc' := 238) rfl (hb hby at_233) rfl (teq (by decide : (0 : Int32) = (0 : Int32))).1 (by decide) (by decide) k) ?_
    refine bk (fun t k => XS.aload X12.here hx rfl (hb hby at_238) rfl rfl k) ?_
    show F (T12.setTop (mkF m 240 #[.val (.long q0), .second, .val (.long q1), .second, .val (.long q2), .second, .val (.int p3), .val (.int n7), .val (.long w0), .second, .val (.long w1), .second, .val (.long w2), .second, .val (.ref ar), .val (.long u0), .second, .val (.long u1), .second, .val (.long u2), .second, .val (.int cnt), .val (.int (0 : Int32)), .val (.int (0 : Int32)), .val (.ref b8)] [(.ref b8)]))
    obtain ⟨cq13, kq13, q13a, q13b, q13c⟩ := isOf hZ rfl (gP12.1)
    obtain ⟨_, _, ⟨T13, L13, k13, n13⟩, -, X13, ⟨Lc13, hQ13, l13, y13, z13⟩, st13⟩ := X12.virtualBack hx (y := (⟨"com/example/lone1/lone1/solve/SweepOrder", "hasNext", "()Z"⟩ : MethodName)) (z := (⟨"com/example/lone1/lone1/solve/SweepOrder", "hasNext", "()Z"⟩ : MethodName)) hown (mvT hZ w_21) (mvT hZ w_22) (notFace_of_selects (args := #[]) (mvT hZ w_24)) (mvT hZ w_24) (mvT hZ w_23) (by decide) (backOf (W := 0) (rm5Z0n l Z a0 hw [] b8 ar kk (1 : Int32) u0 u1 u2 T12.heap n0 gZ12 (own_S0 hc9200_7 gP12) Gb8 ne_b8_ar ) hZ w_25 w_10 (by decide) (by decide)) q13a q13c (g := (mkF m 240 #[.val (.long q0), .second, .val (.long q1), .second, .val (.long q2), .second, .val (.int p3), .val (.int n7), .val (.long w0), .second, .val (.long w1), .second, .val (.long w2), .second, .val (.ref ar), .val (.long u0), .second, .val (.long u1), .second, .val (.long u2), .second, .val (.int cnt), .val (.int (0 : Int32)), .val (.int (0 : Int32)), .val (.ref b8)] [(.ref b8)])) rfl (by rw [hml]; rfl) (Steps.refl _) (argsL := []) (rest := []) (lenOf pd0___Z rfl) rfl (by show 2 * 0 + _ ≤ _; exact Nat.le_of_eq rfl) (hb hby at_240) (fun _ _ => ⟨rfl, rfl, (by decide : 2 + 0 ≤ _), (by decide : 6 + 0 ≤ _)⟩)
    dsimp only [Pt.U, Pt.locs, Pt.cells, Pt.slots] at X13 l13 y13 z13 st13 hQ13
    subst l13 y13 z13
    obtain ⟨rfl, N13q, gZ13, gP13⟩ := hQ13
    have N13 := Fr.app N12 N13q
    refine bk (fun t k => st13.trans k) ?_
    refine bk (fun t k => XS.iload X13.here hx rfl (hb hby at_243) rfl k) ?_
    show F (T13.setTop (mkF m 245 #[.val (.long q0), .second, .val (.long q1), .second, .val (.long q2), .second, .val (.int p3), .val (.int n7), .val (.long w0), .second, .val (.long w1), .second, .val (.long w2), .second, .val (.ref ar), .val (.long u0), .second, .val (.long u1), .second, .val (.long u2), .second, .val (.int cnt), .val (.int (0 : Int32)), .val (.int (0 : Int32)), .val (.ref b8)] [(.int (0 : Int32)), (.int (0 : Int32))]))
    refine bk (fun t k => XS.icmpYes X13.here hx rfl (pc0 := 245) (pc' := 250) rfl (hb hby at_245) rfl (teq (by decide : (0 : Int32) = (0 : Int32))).1 (by decide) (by decide) k) ?_
    refine bk (fun t k => XS.iload X13.here hx rfl (hb hby at_250) rfl k) ?_
    show F (T13.setTop (mkF m 252 #[.val (.long q0), .second, .val (.long q1), .second, .val (.long q2), .second, .val (.int p3), .val (.int n7), .val (.long w0), .second, .val (.long w1), .second, .val (.long w2), .second, .val (.ref ar), .val (.long u0), .second, .val (.long u1), .second, .val (.long u2), .second, .val (.int cnt), .val (.int (0 : Int32)), .val (.int (0 : Int32)), .val (.ref b8)] [(.int (0 : Int32))]))
    refine bk (fun t k => XS.ifNo X13.here hx rfl (hb hby at_252) rfl ((if0 _ _).trans (teq (by decide : (0 : Int32) = (0 : Int32))).2) k) ?_
    refine bk (fun t k => XS.iconst X13.here hx rfl (hb hby at_255) k) ?_
    show F (T13.setTop (mkF m 256 #[.val (.long q0), .second, .val (.long q1), .second, .val (.long q2), .second, .val (.int p3), .val (.int n7), .val (.long w0), .second, .val (.long w1), .second, .val (.long w2), .second, .val (.ref ar), .val (.long u0), .second, .val (.long u1), .second, .val (.long u2), .second, .val (.int cnt), .val (.int (0 : Int32)), .val (.int (0 : Int32)), .val (.ref b8)] [(.int (1 : Int32))]))
    rw [hF]
    refine own_retZ X13 hx Bd.notSynchronized Bd.returns (hb hby at_256) (by decide) (by decide) ?_
    exact ⟨rfl, N13⟩
  · by_cases hc9100_14 : (own_clr u0) = (0 : Int64)
    · obtain rfl : any = (1 : Int32) := hany.trans (by subst hcnt; simp +decide [own_anyc, own_cnt, own_b, hz1, hz2, hc9200_7, hc9100_14])
      obtain rfl : two = (0 : Int32) := htwo.trans (by subst hcnt; simp +decide [own_two, own_cnt, own_b, own_mb0, hz1, hz2, hc9200_7, hc9100_14, own_clr_mb hc9200_7 hc9100_14])
      show F (TJ.setTop (mkF m 213 #[.val (.long q0), .second, .val (.long q1), .second, .val (.long q2), .second, .val (.int p3), .val (.int n7), .val (.long w0), .second, .val (.long w1), .second, .val (.long w2), .second, .val (.ref ar), .val (.long u0), .second, .val (.long u1), .second, .val (.long u2), .second, .val (.int cnt), .val (.int (1 : Int32)), .unset, .unset] [(.int (0 : Int32))]))
      refine bk (fun t k => XS.istore XJ.here hx rfl (hb hby at_213) rfl (l' := #[.val (.long q0), .second, .val (.long q1), .second, .val (.long q2), .second, .val (.int p3), .val (.int n7), .val (.long w0), .second, .val (.long w1), .second, .val (.long w2), .second, .val (.ref ar), .val (.long u0), .second, .val (.long u1), .second, .val (.long u2), .second, .val (.int cnt), .val (.int (1 : Int32)), .val (.int (0 : Int32)), .unset]) rfl k) ?_
      show F (TJ.setTop (mkF m 215 #[.val (.long q0), .second, .val (.long q1), .second, .val (.long q2), .second, .val (.int p3), .val (.int n7), .val (.long w0), .second, .val (.long w1), .second, .val (.long w2), .second, .val (.ref ar), .val (.long u0), .second, .val (.long u1), .second, .val (.long u2), .second, .val (.int cnt), .val (.int (1 : Int32)), .val (.int (0 : Int32)), .unset] []))
      obtain ⟨T15, h15, X15, e15, E15, A15, D15, -, st15⟩ := newO XJ hx hZ hown w_8 w_9 w_10 eJ (g := (mkF m 215 #[.val (.long q0), .second, .val (.long q1), .second, .val (.long q2), .second, .val (.int p3), .val (.int n7), .val (.long w0), .second, .val (.long w1), .second, .val (.long w2), .second, .val (.ref ar), .val (.long u0), .second, .val (.long u1), .second, .val (.long u2), .second, .val (.int cnt), .val (.int (1 : Int32)), .val (.int (0 : Int32)), .unset] [])) rfl (hb hby at_215) (by decide) (by decide)
      obtain ⟨b15, g15⟩ : ∃ z, z = hJ.size := ⟨_, rfl⟩
      rw [← g15] at A15 D15 st15
      have Gb15 : n0 ≤ b15 := Nat.le_trans jZ (Nat.le_of_eq g15.symm)
      have ne_ar_b15 : ar ≠ b15 := Nat.ne_of_lt (Nat.lt_of_lt_of_le jV.lt (Nat.le_of_eq g15.symm))
      have f16 := Nat.le_trans jZ E15.1
      have f17 := jV.ext E15
      have F_words_b15 : Fld Z h15 b15 "com/example/lone1/lone1/solve/SweepOrder" "words" "[J" .null := D15 (Or.inr w_18) (ty := (.array .long)) (by decide)
      have F_at_b15 : Fld Z h15 b15 "com/example/lone1/lone1/solve/SweepOrder" "at" "I" (.int (0 : Int32)) := D15 (Or.inl w_20) (ty := .int) (by decide)
      have F_word_b15 : Fld Z h15 b15 "com/example/lone1/lone1/solve/SweepOrder" "word" "J" (.long (0 : Int64)) := D15 (Or.inl w_27) (ty := .long) (by decide)
      refine bk (fun t k => st15 t k) ?_
      refine bk (fun t k => XS.dup X15.here hx rfl (hb hby at_218) rfl rfl k) ?_
      refine bk (fun t k => XS.aload X15.here hx rfl (hb hby at_219) rfl rfl k) ?_
      show F (T15.setTop (mkF m 221 #[.val (.long q0), .second, .val (.long q1), .second, .val (.long q2), .second, .val (.int p3), .val (.int n7), .val (.long w0), .second, .val (.long w1), .second, .val (.long w2), .second, .val (.ref ar), .val (.long u0), .second, .val (.long u1), .second, .val (.long u2), .second, .val (.int cnt), .val (.int (1 : Int32)), .val (.int (0 : Int32)), .unset] [(.ref ar), (.ref b15), (.ref b15)]))
      obtain ⟨_, _, ⟨T18, L18, k18, n18⟩, -, X18, ⟨Lc18, hQ18, l18, y18, z18⟩, st18⟩ := X15.specialBack hx (y := (⟨"com/example/lone1/lone1/solve/SweepOrder", "<init>", "([J)V"⟩ : MethodName)) rfl hown (mvT hZ w_11) (mvT hZ w_12) (mvT hZ w_13) (by decide) (backOf (W := 1) (rm3 l Z a0 hw [] b15 ar kk (1 : Int32) u0 u1 u2 h15 n0 f16 A15 F_words_b15 F_at_b15 F_word_b15 f17 Gb15 (Ne.symm ne_ar_b15)) hZ w_13 w_10 (by decide) (by decide)) (g := (mkF m 221 #[.val (.long q0), .second, .val (.long q1), .second, .val (.long q2), .second, .val (.int p3), .val (.int n7), .val (.long w0), .second, .val (.long w1), .second, .val (.long w2), .second, .val (.ref ar), .val (.long u0), .second, .val (.long u1), .second, .val (.long u2), .second, .val (.int cnt), .val (.int (1 : Int32)), .val (.int (0 : Int32)), .unset] [(.ref ar), (.ref b15), (.ref b15)])) rfl (by rw [hml]; rfl) (Steps.refl _) (a := b15) (argsL := [(.ref ar)]) (rest := [(.ref b15)]) (lenOf pd0___J_V rfl) rfl (by show 2 * 0 + _ ≤ _; exact Nat.le_of_eq rfl) (hb hby at_221) (fun _ _ => ⟨rfl, e15, (by decide : 2 + 0 ≤ _), (by decide : 6 + 0 ≤ _)⟩)
      dsimp only [Pt.U, Pt.locs, Pt.cells, Pt.slots] at X18 l18 y18 z18 st18 hQ18
      subst l18 y18 z18
      obtain ⟨rfl, N18q, gZ18, gP18⟩ := hQ18
      have N18 := Fr.app NJ N18q
      have ne_b15_ar : b15 ≠ ar := (Ne.symm ne_ar_b15)
      refine bk (fun t k => st18.trans k) ?_
      show F (T18.setTop (mkF m 224 #[.val (.long q0), .second, .val (.long q1), .second, .val (.long q2), .second, .val (.int p3), .val (.int n7), .val (.long w0), .second, .val (.long w1), .second, .val (.long w2), .second, .val (.ref ar), .val (.long u0), .second, .val (.long u1), .second, .val (.long u2), .second, .val (.int cnt), .val (.int (1 : Int32)), .val (.int (0 : Int32)), .unset] [(.ref b15)]))
      refine bk (fun t k => XS.astore X18.here hx rfl (hb hby at_224) rfl rfl (l' := #[.val (.long q0), .second, .val (.long q1), .second, .val (.long q2), .second, .val (.int p3), .val (.int n7), .val (.long w0), .second, .val (.long w1), .second, .val (.long w2), .second, .val (.ref ar), .val (.long u0), .second, .val (.long u1), .second, .val (.long u2), .second, .val (.int cnt), .val (.int (1 : Int32)), .val (.int (0 : Int32)), .val (.ref b15)]) rfl k) ?_
      refine bk (fun t k => XS.aload X18.here hx rfl (hb hby at_226) rfl rfl k) ?_
      show F (T18.setTop (mkF m 228 #[.val (.long q0), .second, .val (.long q1), .second, .val (.long q2), .second, .val (.int p3), .val (.int n7), .val (.long w0), .second, .val (.long w1), .second, .val (.long w2), .second, .val (.ref ar), .val (.long u0), .second, .val (.long u1), .second, .val (.long u2), .second, .val (.int cnt), .val (.int (1 : Int32)), .val (.int (0 : Int32)), .val (.ref b15)] [(.ref b15)]))
      obtain ⟨cq19, kq19, q19a, q19b, q19c⟩ := isOf hZ rfl (gP18.1)
      obtain ⟨_, _, ⟨T19, L19, k19, n19⟩, -, X19, ⟨Lc19, hQ19, l19, y19, z19⟩, st19⟩ := X18.virtualBack hx (y := (⟨"com/example/lone1/lone1/solve/SweepOrder", "hasNext", "()Z"⟩ : MethodName)) (z := (⟨"com/example/lone1/lone1/solve/SweepOrder", "hasNext", "()Z"⟩ : MethodName)) hown (mvT hZ w_21) (mvT hZ w_22) (notFace_of_selects (args := #[]) (mvT hZ w_24)) (mvT hZ w_24) (mvT hZ w_23) (by decide) (backOf (W := 0) (rm5Z10 l Z a0 hw [] b15 ar kk (1 : Int32) u0 u1 u2 T18.heap n0 gZ18 gP18 Gb15 ne_b15_ar (by decide) hc9200_7) hZ w_25 w_10 (by decide) (by decide)) q19a q19c (g := (mkF m 228 #[.val (.long q0), .second, .val (.long q1), .second, .val (.long q2), .second, .val (.int p3), .val (.int n7), .val (.long w0), .second, .val (.long w1), .second, .val (.long w2), .second, .val (.ref ar), .val (.long u0), .second, .val (.long u1), .second, .val (.long u2), .second, .val (.int cnt), .val (.int (1 : Int32)), .val (.int (0 : Int32)), .val (.ref b15)] [(.ref b15)])) rfl (by rw [hml]; rfl) (Steps.refl _) (argsL := []) (rest := []) (lenOf pd0___Z rfl) rfl (by show 2 * 0 + _ ≤ _; exact Nat.le_of_eq rfl) (hb hby at_228) (fun _ _ => ⟨rfl, rfl, (by decide : 2 + 0 ≤ _), (by decide : 6 + 0 ≤ _)⟩)
      dsimp only [Pt.U, Pt.locs, Pt.cells, Pt.slots] at X19 l19 y19 z19 st19 hQ19
      subst l19 y19 z19
      obtain ⟨rfl, N19q, gZ19, gP19⟩ := hQ19
      have N19 := Fr.app N18 N19q
      refine bk (fun t k => st19.trans k) ?_
      refine bk (fun t k => XS.iload X19.here hx rfl (hb hby at_231) rfl k) ?_
      show F (T19.setTop (mkF m 233 #[.val (.long q0), .second, .val (.long q1), .second, .val (.long q2), .second, .val (.int p3), .val (.int n7), .val (.long w0), .second, .val (.long w1), .second, .val (.long w2), .second, .val (.ref ar), .val (.long u0), .second, .val (.long u1), .second, .val (.long u2), .second, .val (.int cnt), .val (.int (1 : Int32)), .val (.int (0 : Int32)), .val (.ref b15)] [(.int (1 : Int32)), (.int (1 : Int32))]))
      refine bk (fun t k => XS.icmpYes X19.here hx rfl (pc0 := 233) (pc' := 238) rfl (hb hby at_233) rfl (teq (by decide : (1 : Int32) = (1 : Int32))).1 (by decide) (by decide) k) ?_
      refine bk (fun t k => XS.aload X19.here hx rfl (hb hby at_238) rfl rfl k) ?_
      show F (T19.setTop (mkF m 240 #[.val (.long q0), .second, .val (.long q1), .second, .val (.long q2), .second, .val (.int p3), .val (.int n7), .val (.long w0), .second, .val (.long w1), .second, .val (.long w2), .second, .val (.ref ar), .val (.long u0), .second, .val (.long u1), .second, .val (.long u2), .second, .val (.int cnt), .val (.int (1 : Int32)), .val (.int (0 : Int32)), .val (.ref b15)] [(.ref b15)]))
      obtain ⟨cq20, kq20, q20a, q20b, q20c⟩ := isOf hZ rfl (gP19.1)
      obtain ⟨_, _, ⟨T20, L20, k20, n20⟩, -, X20, ⟨Lc20, hQ20, l20, y20, z20⟩, st20⟩ := X19.virtualBack hx (y := (⟨"com/example/lone1/lone1/solve/SweepOrder", "hasNext", "()Z"⟩ : MethodName)) (z := (⟨"com/example/lone1/lone1/solve/SweepOrder", "hasNext", "()Z"⟩ : MethodName)) hown (mvT hZ w_21) (mvT hZ w_22) (notFace_of_selects (args := #[]) (mvT hZ w_24)) (mvT hZ w_24) (mvT hZ w_23) (by decide) (backOf (W := 0) (rm5N l Z a0 hw [] b15 u0 T19.heap n0 gZ19 gP19.2.2.2.1 hc9200_7) hZ w_25 w_10 (by decide) (by decide)) q20a q20c (g := (mkF m 240 #[.val (.long q0), .second, .val (.long q1), .second, .val (.long q2), .second, .val (.int p3), .val (.int n7), .val (.long w0), .second, .val (.long w1), .second, .val (.long w2), .second, .val (.ref ar), .val (.long u0), .second, .val (.long u1), .second, .val (.long u2), .second, .val (.int cnt), .val (.int (1 : Int32)), .val (.int (0 : Int32)), .val (.ref b15)] [(.ref b15)])) rfl (by rw [hml]; rfl) (Steps.refl _) (argsL := []) (rest := []) (lenOf pd0___Z rfl) rfl (by show 2 * 0 + _ ≤ _; exact Nat.le_of_eq rfl) (hb hby at_240) (fun _ _ => ⟨rfl, rfl, (by decide : 2 + 0 ≤ _), (by decide : 6 + 0 ≤ _)⟩)
      dsimp only [Pt.U, Pt.locs, Pt.cells, Pt.slots] at X20 l20 y20 z20 st20 hQ20
      subst l20 y20 z20
      obtain ⟨rfl, N20q, e20⟩ := hQ20
      have N20 := Fr.app N19 N20q
      refine bk (fun t k => st20.trans k) ?_
      refine bk (fun t k => XS.iload X20.here hx rfl (hb hby at_243) rfl k) ?_
      show F (T20.setTop (mkF m 245 #[.val (.long q0), .second, .val (.long q1), .second, .val (.long q2), .second, .val (.int p3), .val (.int n7), .val (.long w0), .second, .val (.long w1), .second, .val (.long w2), .second, .val (.ref ar), .val (.long u0), .second, .val (.long u1), .second, .val (.long u2), .second, .val (.int cnt), .val (.int (1 : Int32)), .val (.int (0 : Int32)), .val (.ref b15)] [(.int (1 : Int32)), (.int (1 : Int32))]))
      refine bk (fun t k => XS.icmpYes X20.here hx rfl (pc0 := 245) (pc' := 250) rfl (hb hby at_245) rfl (teq (by decide : (1 : Int32) = (1 : Int32))).1 (by decide) (by decide) k) ?_
      refine bk (fun t k => XS.iload X20.here hx rfl (hb hby at_250) rfl k) ?_
      show F (T20.setTop (mkF m 252 #[.val (.long q0), .second, .val (.long q1), .second, .val (.long q2), .second, .val (.int p3), .val (.int n7), .val (.long w0), .second, .val (.long w1), .second, .val (.long w2), .second, .val (.ref ar), .val (.long u0), .second, .val (.long u1), .second, .val (.long u2), .second, .val (.int cnt), .val (.int (1 : Int32)), .val (.int (0 : Int32)), .val (.ref b15)] [(.int (1 : Int32))]))
      refine bk (fun t k => XS.ifYes X20.here hx rfl (pc0 := 252) (pc' := 257) rfl (hb hby at_252) rfl ((if0 _ _).trans (feq (by decide : ¬ ((1 : Int32) = (0 : Int32)))).2) (by decide) (by decide) k) ?_
      refine bk (fun t k => XS.aload X20.here hx rfl (hb hby at_257) rfl rfl k) ?_
      show F (T20.setTop (mkF m 259 #[.val (.long q0), .second, .val (.long q1), .second, .val (.long q2), .second, .val (.int p3), .val (.int n7), .val (.long w0), .second, .val (.long w1), .second, .val (.long w2), .second, .val (.ref ar), .val (.long u0), .second, .val (.long u1), .second, .val (.long u2), .second, .val (.int cnt), .val (.int (1 : Int32)), .val (.int (0 : Int32)), .val (.ref b15)] [(.ref b15)]))
      obtain ⟨cq21, kq21, q21a, q21b, q21c⟩ := isOf hZ e20 (gP19.1)
      obtain ⟨_, _, ⟨T21, L21, k21, n21⟩, -, X21, ⟨Lc21, hQ21, l21, y21, z21⟩, st21⟩ := X20.virtualBack hx (y := (⟨"com/example/lone1/lone1/solve/SweepOrder", "next", "()I"⟩ : MethodName)) (z := (⟨"com/example/lone1/lone1/solve/SweepOrder", "next", "()I"⟩ : MethodName)) hown (mvT hZ w_29) (mvT hZ w_30) (notFace_of_selects (args := #[]) (mvT hZ w_32)) (mvT hZ w_32) (mvT hZ w_31) (by decide) (backOf (W := 0) (rm6 l Z a0 hw [] b15 ar kk (1 : Int32) (0 : Int32) u0 u0 u1 u2 T19.heap n0 gZ19 gP19 Gb15 ne_b15_ar hc9200_7) hZ w_33 w_10 (by decide) (by decide)) q21a q21c (g := (mkF m 259 #[.val (.long q0), .second, .val (.long q1), .second, .val (.long q2), .second, .val (.int p3), .val (.int n7), .val (.long w0), .second, .val (.long w1), .second, .val (.long w2), .second, .val (.ref ar), .val (.long u0), .second, .val (.long u1), .second, .val (.long u2), .second, .val (.int cnt), .val (.int (1 : Int32)), .val (.int (0 : Int32)), .val (.ref b15)] [(.ref b15)])) rfl (by rw [hml]; rfl) (Steps.refl _) (argsL := []) (rest := []) (lenOf pd0___I rfl) rfl (by show 2 * 0 + _ ≤ _; exact Nat.le_of_eq rfl) (hb hby at_259) (fun _ _ => ⟨rfl, e20, (by decide : 2 + 0 ≤ _), (by decide : 6 + 0 ≤ _)⟩)
      dsimp only [Pt.U, Pt.locs, Pt.cells, Pt.slots] at X21 l21 y21 z21 st21 hQ21
      subst l21 y21 z21
      obtain ⟨rfl, N21q, gZ21, gP21⟩ := hQ21
      have N21 := Fr.app N20 N21q
      refine bk (fun t k => st21.trans k) ?_
      refine bk (fun t k => XS.pop X21.here hx rfl (hb hby at_262) rfl rfl k) ?_
      refine bk (fun t k => XS.aload X21.here hx rfl (hb hby at_263) rfl rfl k) ?_
      show F (T21.setTop (mkF m 265 #[.val (.long q0), .second, .val (.long q1), .second, .val (.long q2), .second, .val (.int p3), .val (.int n7), .val (.long w0), .second, .val (.long w1), .second, .val (.long w2), .second, .val (.ref ar), .val (.long u0), .second, .val (.long u1), .second, .val (.long u2), .second, .val (.int cnt), .val (.int (1 : Int32)), .val (.int (0 : Int32)), .val (.ref b15)] [(.ref b15)]))
      obtain ⟨cq22, kq22, q22a, q22b, q22c⟩ := isOf hZ rfl (gP21.1)
      obtain ⟨_, _, ⟨T22, L22, k22, n22⟩, -, X22, ⟨Lc22, hQ22, l22, y22, z22⟩, st22⟩ := X21.virtualBack hx (y := (⟨"com/example/lone1/lone1/solve/SweepOrder", "hasNext", "()Z"⟩ : MethodName)) (z := (⟨"com/example/lone1/lone1/solve/SweepOrder", "hasNext", "()Z"⟩ : MethodName)) hown (mvT hZ w_21) (mvT hZ w_22) (notFace_of_selects (args := #[]) (mvT hZ w_24)) (mvT hZ w_24) (mvT hZ w_23) (by decide) (backOf (W := 0) (rm5Z0n l Z a0 hw [] b15 ar kk (1 : Int32) u0 u1 u2 T21.heap n0 gZ21 (own_S0 hc9100_14 gP21) Gb15 ne_b15_ar ) hZ w_25 w_10 (by decide) (by decide)) q22a q22c (g := (mkF m 265 #[.val (.long q0), .second, .val (.long q1), .second, .val (.long q2), .second, .val (.int p3), .val (.int n7), .val (.long w0), .second, .val (.long w1), .second, .val (.long w2), .second, .val (.ref ar), .val (.long u0), .second, .val (.long u1), .second, .val (.long u2), .second, .val (.int cnt), .val (.int (1 : Int32)), .val (.int (0 : Int32)), .val (.ref b15)] [(.ref b15)])) rfl (by rw [hml]; rfl) (Steps.refl _) (argsL := []) (rest := []) (lenOf pd0___Z rfl) rfl (by show 2 * 0 + _ ≤ _; exact Nat.le_of_eq rfl) (hb hby at_265) (fun _ _ => ⟨rfl, rfl, (by decide : 2 + 0 ≤ _), (by decide : 6 + 0 ≤ _)⟩)
      dsimp only [Pt.U, Pt.locs, Pt.cells, Pt.slots] at X22 l22 y22 z22 st22 hQ22
      subst l22 y22 z22
      obtain ⟨rfl, N22q, gZ22, gP22⟩ := hQ22
      have N22 := Fr.app N21 N22q
      refine bk (fun t k => st22.trans k) ?_
      refine bk (fun t k => XS.iload X22.here hx rfl (hb hby at_268) rfl k) ?_
      show F (T22.setTop (mkF m 270 #[.val (.long q0), .second, .val (.long q1), .second, .val (.long q2), .second, .val (.int p3), .val (.int n7), .val (.long w0), .second, .val (.long w1), .second, .val (.long w2), .second, .val (.ref ar), .val (.long u0), .second, .val (.long u1), .second, .val (.long u2), .second, .val (.int cnt), .val (.int (1 : Int32)), .val (.int (0 : Int32)), .val (.ref b15)] [(.int (0 : Int32)), (.int (0 : Int32))]))
      refine bk (fun t k => XS.icmpYes X22.here hx rfl (pc0 := 270) (pc' := 275) rfl (hb hby at_270) rfl (teq (by decide : (0 : Int32) = (0 : Int32))).1 (by decide) (by decide) k) ?_
      refine bk (fun t k => XS.aload X22.here hx rfl (hb hby at_275) rfl rfl k) ?_
      show F (T22.setTop (mkF m 277 #[.val (.long q0), .second, .val (.long q1), .second, .val (.long q2), .second, .val (.int p3), .val (.int n7), .val (.long w0), .second, .val (.long w1), .second, .val (.long w2), .second, .val (.ref ar), .val (.long u0), .second, .val (.long u1), .second, .val (.long u2), .second, .val (.int cnt), .val (.int (1 : Int32)), .val (.int (0 : Int32)), .val (.ref b15)] [(.ref b15)]))
      obtain ⟨cq23, kq23, q23a, q23b, q23c⟩ := isOf hZ rfl (gP22.1)
      obtain ⟨_, _, ⟨T23, L23, k23, n23⟩, -, X23, ⟨Lc23, hQ23, l23, y23, z23⟩, st23⟩ := X22.virtualBack hx (y := (⟨"com/example/lone1/lone1/solve/SweepOrder", "hasNext", "()Z"⟩ : MethodName)) (z := (⟨"com/example/lone1/lone1/solve/SweepOrder", "hasNext", "()Z"⟩ : MethodName)) hown (mvT hZ w_21) (mvT hZ w_22) (notFace_of_selects (args := #[]) (mvT hZ w_24)) (mvT hZ w_24) (mvT hZ w_23) (by decide) (backOf (W := 0) (rm5Z0n l Z a0 hw [] b15 ar kk (1 : Int32) u0 u1 u2 T22.heap n0 gZ22 gP22 Gb15 ne_b15_ar ) hZ w_25 w_10 (by decide) (by decide)) q23a q23c (g := (mkF m 277 #[.val (.long q0), .second, .val (.long q1), .second, .val (.long q2), .second, .val (.int p3), .val (.int n7), .val (.long w0), .second, .val (.long w1), .second, .val (.long w2), .second, .val (.ref ar), .val (.long u0), .second, .val (.long u1), .second, .val (.long u2), .second, .val (.int cnt), .val (.int (1 : Int32)), .val (.int (0 : Int32)), .val (.ref b15)] [(.ref b15)])) rfl (by rw [hml]; rfl) (Steps.refl _) (argsL := []) (rest := []) (lenOf pd0___Z rfl) rfl (by show 2 * 0 + _ ≤ _; exact Nat.le_of_eq rfl) (hb hby at_277) (fun _ _ => ⟨rfl, rfl, (by decide : 2 + 0 ≤ _), (by decide : 6 + 0 ≤ _)⟩)
      dsimp only [Pt.U, Pt.locs, Pt.cells, Pt.slots] at X23 l23 y23 z23 st23 hQ23
      subst l23 y23 z23
      obtain ⟨rfl, N23q, gZ23, gP23⟩ := hQ23
      have N23 := Fr.app N22 N23q
      refine bk (fun t k => st23.trans k) ?_
      refine bk (fun t k => XS.iload X23.here hx rfl (hb hby at_280) rfl k) ?_
      show F (T23.setTop (mkF m 282 #[.val (.long q0), .second, .val (.long q1), .second, .val (.long q2), .second, .val (.int p3), .val (.int n7), .val (.long w0), .second, .val (.long w1), .second, .val (.long w2), .second, .val (.ref ar), .val (.long u0), .second, .val (.long u1), .second, .val (.long u2), .second, .val (.int cnt), .val (.int (1 : Int32)), .val (.int (0 : Int32)), .val (.ref b15)] [(.int (0 : Int32)), (.int (0 : Int32))]))
      refine bk (fun t k => XS.icmpNo X23.here hx rfl (hb hby at_282) rfl (teq (by decide : (0 : Int32) = (0 : Int32))).2 k) ?_
      refine bk (fun t k => XS.iconst X23.here hx rfl (hb hby at_285) k) ?_
      refine bk (fun t k => XS.goto X23.here hx rfl (pc0 := 286) (pc' := 290) rfl (hb hby at_286) (by decide) (by decide) k) ?_
      show F (T23.setTop (mkF m 290 #[.val (.long q0), .second, .val (.long q1), .second, .val (.long q2), .second, .val (.int p3), .val (.int n7), .val (.long w0), .second, .val (.long w1), .second, .val (.long w2), .second, .val (.ref ar), .val (.long u0), .second, .val (.long u1), .second, .val (.long u2), .second, .val (.int cnt), .val (.int (1 : Int32)), .val (.int (0 : Int32)), .val (.ref b15)] [(.int (1 : Int32))]))
      rw [hF]
      refine own_retZ X23 hx Bd.notSynchronized Bd.returns (hb hby at_290) (by decide) (by decide) ?_
      exact ⟨rfl, N23⟩
    · obtain rfl : any = (1 : Int32) := hany.trans (by subst hcnt; simp +decide [own_anyc, own_cnt, own_b, hz1, hz2, hc9200_7, hc9100_14])
      obtain rfl : two = (1 : Int32) := htwo.trans (by subst hcnt; simp +decide [own_two, own_cnt, own_b, own_mb0, hz1, hz2, hc9200_7, hc9100_14, own_clr_mbn hc9200_7 hc9100_14])
      show F (TJ.setTop (mkF m 213 #[.val (.long q0), .second, .val (.long q1), .second, .val (.long q2), .second, .val (.int p3), .val (.int n7), .val (.long w0), .second, .val (.long w1), .second, .val (.long w2), .second, .val (.ref ar), .val (.long u0), .second, .val (.long u1), .second, .val (.long u2), .second, .val (.int cnt), .val (.int (1 : Int32)), .unset, .unset] [(.int (1 : Int32))]))
      refine bk (fun t k => XS.istore XJ.here hx rfl (hb hby at_213) rfl (l' := #[.val (.long q0), .second, .val (.long q1), .second, .val (.long q2), .second, .val (.int p3), .val (.int n7), .val (.long w0), .second, .val (.long w1), .second, .val (.long w2), .second, .val (.ref ar), .val (.long u0), .second, .val (.long u1), .second, .val (.long u2), .second, .val (.int cnt), .val (.int (1 : Int32)), .val (.int (1 : Int32)), .unset]) rfl k) ?_
      show F (TJ.setTop (mkF m 215 #[.val (.long q0), .second, .val (.long q1), .second, .val (.long q2), .second, .val (.int p3), .val (.int n7), .val (.long w0), .second, .val (.long w1), .second, .val (.long w2), .second, .val (.ref ar), .val (.long u0), .second, .val (.long u1), .second, .val (.long u2), .second, .val (.int cnt), .val (.int (1 : Int32)), .val (.int (1 : Int32)), .unset] []))
      obtain ⟨T24, h24, X24, e24, E24, A24, D24, -, st24⟩ := newO XJ hx hZ hown w_8 w_9 w_10 eJ (g := (mkF m 215 #[.val (.long q0), .second, .val (.long q1), .second, .val (.long q2), .second, .val (.int p3), .val (.int n7), .val (.long w0), .second, .val (.long w1), .second, .val (.long w2), .second, .val (.ref ar), .val (.long u0), .second, .val (.long u1), .second, .val (.long u2), .second, .val (.int cnt), .val (.int (1 : Int32)), .val (.int (1 : Int32)), .unset] [])) rfl (hb hby at_215) (by decide) (by decide)
      obtain ⟨b24, g24⟩ : ∃ z, z = hJ.size := ⟨_, rfl⟩
      rw [← g24] at A24 D24 st24
      have Gb24 : n0 ≤ b24 := Nat.le_trans jZ (Nat.le_of_eq g24.symm)
      have ne_ar_b24 : ar ≠ b24 := Nat.ne_of_lt (Nat.lt_of_lt_of_le jV.lt (Nat.le_of_eq g24.symm))
      have f25 := Nat.le_trans jZ E24.1
      have f26 := jV.ext E24
      have F_words_b24 : Fld Z h24 b24 "com/example/lone1/lone1/solve/SweepOrder" "words" "[J" .null := D24 (Or.inr w_18) (ty := (.array .long)) (by decide)
      have F_at_b24 : Fld Z h24 b24 "com/example/lone1/lone1/solve/SweepOrder" "at" "I" (.int (0 : Int32)) := D24 (Or.inl w_20) (ty := .int) (by decide)
      have F_word_b24 : Fld Z h24 b24 "com/example/lone1/lone1/solve/SweepOrder" "word" "J" (.long (0 : Int64)) := D24 (Or.inl w_27) (ty := .long) (by decide)
      refine bk (fun t k => st24 t k) ?_
      refine bk (fun t k => XS.dup X24.here hx rfl (hb hby at_218) rfl rfl k) ?_
      refine bk (fun t k => XS.aload X24.here hx rfl (hb hby at_219) rfl rfl k) ?_
      show F (T24.setTop (mkF m 221 #[.val (.long q0), .second, .val (.long q1), .second, .val (.long q2), .second, .val (.int p3), .val (.int n7), .val (.long w0), .second, .val (.long w1), .second, .val (.long w2), .second, .val (.ref ar), .val (.long u0), .second, .val (.long u1), .second, .val (.long u2), .second, .val (.int cnt), .val (.int (1 : Int32)), .val (.int (1 : Int32)), .unset] [(.ref ar), (.ref b24), (.ref b24)]))
      obtain ⟨_, _, ⟨T27, L27, k27, n27⟩, -, X27, ⟨Lc27, hQ27, l27, y27, z27⟩, st27⟩ := X24.specialBack hx (y := (⟨"com/example/lone1/lone1/solve/SweepOrder", "<init>", "([J)V"⟩ : MethodName)) rfl hown (mvT hZ w_11) (mvT hZ w_12) (mvT hZ w_13) (by decide) (backOf (W := 1) (rm3 l Z a0 hw [] b24 ar kk (1 : Int32) u0 u1 u2 h24 n0 f25 A24 F_words_b24 F_at_b24 F_word_b24 f26 Gb24 (Ne.symm ne_ar_b24)) hZ w_13 w_10 (by decide) (by decide)) (g := (mkF m 221 #[.val (.long q0), .second, .val (.long q1), .second, .val (.long q2), .second, .val (.int p3), .val (.int n7), .val (.long w0), .second, .val (.long w1), .second, .val (.long w2), .second, .val (.ref ar), .val (.long u0), .second, .val (.long u1), .second, .val (.long u2), .second, .val (.int cnt), .val (.int (1 : Int32)), .val (.int (1 : Int32)), .unset] [(.ref ar), (.ref b24), (.ref b24)])) rfl (by rw [hml]; rfl) (Steps.refl _) (a := b24) (argsL := [(.ref ar)]) (rest := [(.ref b24)]) (lenOf pd0___J_V rfl) rfl (by show 2 * 0 + _ ≤ _; exact Nat.le_of_eq rfl) (hb hby at_221) (fun _ _ => ⟨rfl, e24, (by decide : 2 + 0 ≤ _), (by decide : 6 + 0 ≤ _)⟩)
      dsimp only [Pt.U, Pt.locs, Pt.cells, Pt.slots] at X27 l27 y27 z27 st27 hQ27
      subst l27 y27 z27
      obtain ⟨rfl, N27q, gZ27, gP27⟩ := hQ27
      have N27 := Fr.app NJ N27q
      have ne_b24_ar : b24 ≠ ar := (Ne.symm ne_ar_b24)
      refine bk (fun t k => st27.trans k) ?_
      show F (T27.setTop (mkF m 224 #[.val (.long q0), .second, .val (.long q1), .second, .val (.long q2), .second, .val (.int p3), .val (.int n7), .val (.long w0), .second, .val (.long w1), .second, .val (.long w2), .second, .val (.ref ar), .val (.long u0), .second, .val (.long u1), .second, .val (.long u2), .second, .val (.int cnt), .val (.int (1 : Int32)), .val (.int (1 : Int32)), .unset] [(.ref b24)]))
      refine bk (fun t k => XS.astore X27.here hx rfl (hb hby at_224) rfl rfl (l' := #[.val (.long q0), .second, .val (.long q1), .second, .val (.long q2), .second, .val (.int p3), .val (.int n7), .val (.long w0), .second, .val (.long w1), .second, .val (.long w2), .second, .val (.ref ar), .val (.long u0), .second, .val (.long u1), .second, .val (.long u2), .second, .val (.int cnt), .val (.int (1 : Int32)), .val (.int (1 : Int32)), .val (.ref b24)]) rfl k) ?_
      refine bk (fun t k => XS.aload X27.here hx rfl (hb hby at_226) rfl rfl k) ?_
      show F (T27.setTop (mkF m 228 #[.val (.long q0), .second, .val (.long q1), .second, .val (.long q2), .second, .val (.int p3), .val (.int n7), .val (.long w0), .second, .val (.long w1), .second, .val (.long w2), .second, .val (.ref ar), .val (.long u0), .second, .val (.long u1), .second, .val (.long u2), .second, .val (.int cnt), .val (.int (1 : Int32)), .val (.int (1 : Int32)), .val (.ref b24)] [(.ref b24)]))
      obtain ⟨cq28, kq28, q28a, q28b, q28c⟩ := isOf hZ rfl (gP27.1)
      obtain ⟨_, _, ⟨T28, L28, k28, n28⟩, -, X28, ⟨Lc28, hQ28, l28, y28, z28⟩, st28⟩ := X27.virtualBack hx (y := (⟨"com/example/lone1/lone1/solve/SweepOrder", "hasNext", "()Z"⟩ : MethodName)) (z := (⟨"com/example/lone1/lone1/solve/SweepOrder", "hasNext", "()Z"⟩ : MethodName)) hown (mvT hZ w_21) (mvT hZ w_22) (notFace_of_selects (args := #[]) (mvT hZ w_24)) (mvT hZ w_24) (mvT hZ w_23) (by decide) (backOf (W := 0) (rm5Z10 l Z a0 hw [] b24 ar kk (1 : Int32) u0 u1 u2 T27.heap n0 gZ27 gP27 Gb24 ne_b24_ar (by decide) hc9200_7) hZ w_25 w_10 (by decide) (by decide)) q28a q28c (g := (mkF m 228 #[.val (.long q0), .second, .val (.long q1), .second, .val (.long q2), .second, .val (.int p3), .val (.int n7), .val (.long w0), .second, .val (.long w1), .second, .val (.long w2), .second, .val (.ref ar), .val (.long u0), .second, .val (.long u1), .second, .val (.long u2), .second, .val (.int cnt), .val (.int (1 : Int32)), .val (.int (1 : Int32)), .val (.ref b24)] [(.ref b24)])) rfl (by rw [hml]; rfl) (Steps.refl _) (argsL := []) (rest := []) (lenOf pd0___Z rfl) rfl (by show 2 * 0 + _ ≤ _; exact Nat.le_of_eq rfl) (hb hby at_228) (fun _ _ => ⟨rfl, rfl, (by decide : 2 + 0 ≤ _), (by decide : 6 + 0 ≤ _)⟩)
      dsimp only [Pt.U, Pt.locs, Pt.cells, Pt.slots] at X28 l28 y28 z28 st28 hQ28
      subst l28 y28 z28
      obtain ⟨rfl, N28q, gZ28, gP28⟩ := hQ28
      have N28 := Fr.app N27 N28q
      refine bk (fun t k => st28.trans k) ?_
      refine bk (fun t k => XS.iload X28.here hx rfl (hb hby at_231) rfl k) ?_
      show F (T28.setTop (mkF m 233 #[.val (.long q0), .second, .val (.long q1), .second, .val (.long q2), .second, .val (.int p3), .val (.int n7), .val (.long w0), .second, .val (.long w1), .second, .val (.long w2), .second, .val (.ref ar), .val (.long u0), .second, .val (.long u1), .second, .val (.long u2), .second, .val (.int cnt), .val (.int (1 : Int32)), .val (.int (1 : Int32)), .val (.ref b24)] [(.int (1 : Int32)), (.int (1 : Int32))]))
      refine bk (fun t k => XS.icmpYes X28.here hx rfl (pc0 := 233) (pc' := 238) rfl (hb hby at_233) rfl (teq (by decide : (1 : Int32) = (1 : Int32))).1 (by decide) (by decide) k) ?_
      refine bk (fun t k => XS.aload X28.here hx rfl (hb hby at_238) rfl rfl k) ?_
      show F (T28.setTop (mkF m 240 #[.val (.long q0), .second, .val (.long q1), .second, .val (.long q2), .second, .val (.int p3), .val (.int n7), .val (.long w0), .second, .val (.long w1), .second, .val (.long w2), .second, .val (.ref ar), .val (.long u0), .second, .val (.long u1), .second, .val (.long u2), .second, .val (.int cnt), .val (.int (1 : Int32)), .val (.int (1 : Int32)), .val (.ref b24)] [(.ref b24)]))
      obtain ⟨cq29, kq29, q29a, q29b, q29c⟩ := isOf hZ rfl (gP28.1)
      obtain ⟨_, _, ⟨T29, L29, k29, n29⟩, -, X29, ⟨Lc29, hQ29, l29, y29, z29⟩, st29⟩ := X28.virtualBack hx (y := (⟨"com/example/lone1/lone1/solve/SweepOrder", "hasNext", "()Z"⟩ : MethodName)) (z := (⟨"com/example/lone1/lone1/solve/SweepOrder", "hasNext", "()Z"⟩ : MethodName)) hown (mvT hZ w_21) (mvT hZ w_22) (notFace_of_selects (args := #[]) (mvT hZ w_24)) (mvT hZ w_24) (mvT hZ w_23) (by decide) (backOf (W := 0) (rm5N l Z a0 hw [] b24 u0 T28.heap n0 gZ28 gP28.2.2.2.1 hc9200_7) hZ w_25 w_10 (by decide) (by decide)) q29a q29c (g := (mkF m 240 #[.val (.long q0), .second, .val (.long q1), .second, .val (.long q2), .second, .val (.int p3), .val (.int n7), .val (.long w0), .second, .val (.long w1), .second, .val (.long w2), .second, .val (.ref ar), .val (.long u0), .second, .val (.long u1), .second, .val (.long u2), .second, .val (.int cnt), .val (.int (1 : Int32)), .val (.int (1 : Int32)), .val (.ref b24)] [(.ref b24)])) rfl (by rw [hml]; rfl) (Steps.refl _) (argsL := []) (rest := []) (lenOf pd0___Z rfl) rfl (by show 2 * 0 + _ ≤ _; exact Nat.le_of_eq rfl) (hb hby at_240) (fun _ _ => ⟨rfl, rfl, (by decide : 2 + 0 ≤ _), (by decide : 6 + 0 ≤ _)⟩)
      dsimp only [Pt.U, Pt.locs, Pt.cells, Pt.slots] at X29 l29 y29 z29 st29 hQ29
      subst l29 y29 z29
      obtain ⟨rfl, N29q, e29⟩ := hQ29
      have N29 := Fr.app N28 N29q
      refine bk (fun t k => st29.trans k) ?_
      refine bk (fun t k => XS.iload X29.here hx rfl (hb hby at_243) rfl k) ?_
      show F (T29.setTop (mkF m 245 #[.val (.long q0), .second, .val (.long q1), .second, .val (.long q2), .second, .val (.int p3), .val (.int n7), .val (.long w0), .second, .val (.long w1), .second, .val (.long w2), .second, .val (.ref ar), .val (.long u0), .second, .val (.long u1), .second, .val (.long u2), .second, .val (.int cnt), .val (.int (1 : Int32)), .val (.int (1 : Int32)), .val (.ref b24)] [(.int (1 : Int32)), (.int (1 : Int32))]))
      refine bk (fun t k => XS.icmpYes X29.here hx rfl (pc0 := 245) (pc' := 250) rfl (hb hby at_245) rfl (teq (by decide : (1 : Int32) = (1 : Int32))).1 (by decide) (by decide) k) ?_
      refine bk (fun t k => XS.iload X29.here hx rfl (hb hby at_250) rfl k) ?_
      show F (T29.setTop (mkF m 252 #[.val (.long q0), .second, .val (.long q1), .second, .val (.long q2), .second, .val (.int p3), .val (.int n7), .val (.long w0), .second, .val (.long w1), .second, .val (.long w2), .second, .val (.ref ar), .val (.long u0), .second, .val (.long u1), .second, .val (.long u2), .second, .val (.int cnt), .val (.int (1 : Int32)), .val (.int (1 : Int32)), .val (.ref b24)] [(.int (1 : Int32))]))
      refine bk (fun t k => XS.ifYes X29.here hx rfl (pc0 := 252) (pc' := 257) rfl (hb hby at_252) rfl ((if0 _ _).trans (feq (by decide : ¬ ((1 : Int32) = (0 : Int32)))).2) (by decide) (by decide) k) ?_
      refine bk (fun t k => XS.aload X29.here hx rfl (hb hby at_257) rfl rfl k) ?_
      show F (T29.setTop (mkF m 259 #[.val (.long q0), .second, .val (.long q1), .second, .val (.long q2), .second, .val (.int p3), .val (.int n7), .val (.long w0), .second, .val (.long w1), .second, .val (.long w2), .second, .val (.ref ar), .val (.long u0), .second, .val (.long u1), .second, .val (.long u2), .second, .val (.int cnt), .val (.int (1 : Int32)), .val (.int (1 : Int32)), .val (.ref b24)] [(.ref b24)]))
      obtain ⟨cq30, kq30, q30a, q30b, q30c⟩ := isOf hZ e29 (gP28.1)
      obtain ⟨_, _, ⟨T30, L30, k30, n30⟩, -, X30, ⟨Lc30, hQ30, l30, y30, z30⟩, st30⟩ := X29.virtualBack hx (y := (⟨"com/example/lone1/lone1/solve/SweepOrder", "next", "()I"⟩ : MethodName)) (z := (⟨"com/example/lone1/lone1/solve/SweepOrder", "next", "()I"⟩ : MethodName)) hown (mvT hZ w_29) (mvT hZ w_30) (notFace_of_selects (args := #[]) (mvT hZ w_32)) (mvT hZ w_32) (mvT hZ w_31) (by decide) (backOf (W := 0) (rm6 l Z a0 hw [] b24 ar kk (1 : Int32) (0 : Int32) u0 u0 u1 u2 T28.heap n0 gZ28 gP28 Gb24 ne_b24_ar hc9200_7) hZ w_33 w_10 (by decide) (by decide)) q30a q30c (g := (mkF m 259 #[.val (.long q0), .second, .val (.long q1), .second, .val (.long q2), .second, .val (.int p3), .val (.int n7), .val (.long w0), .second, .val (.long w1), .second, .val (.long w2), .second, .val (.ref ar), .val (.long u0), .second, .val (.long u1), .second, .val (.long u2), .second, .val (.int cnt), .val (.int (1 : Int32)), .val (.int (1 : Int32)), .val (.ref b24)] [(.ref b24)])) rfl (by rw [hml]; rfl) (Steps.refl _) (argsL := []) (rest := []) (lenOf pd0___I rfl) rfl (by show 2 * 0 + _ ≤ _; exact Nat.le_of_eq rfl) (hb hby at_259) (fun _ _ => ⟨rfl, e29, (by decide : 2 + 0 ≤ _), (by decide : 6 + 0 ≤ _)⟩)
      dsimp only [Pt.U, Pt.locs, Pt.cells, Pt.slots] at X30 l30 y30 z30 st30 hQ30
      subst l30 y30 z30
      obtain ⟨rfl, N30q, gZ30, gP30⟩ := hQ30
      have N30 := Fr.app N29 N30q
      refine bk (fun t k => st30.trans k) ?_
      refine bk (fun t k => XS.pop X30.here hx rfl (hb hby at_262) rfl rfl k) ?_
      refine bk (fun t k => XS.aload X30.here hx rfl (hb hby at_263) rfl rfl k) ?_
      show F (T30.setTop (mkF m 265 #[.val (.long q0), .second, .val (.long q1), .second, .val (.long q2), .second, .val (.int p3), .val (.int n7), .val (.long w0), .second, .val (.long w1), .second, .val (.long w2), .second, .val (.ref ar), .val (.long u0), .second, .val (.long u1), .second, .val (.long u2), .second, .val (.int cnt), .val (.int (1 : Int32)), .val (.int (1 : Int32)), .val (.ref b24)] [(.ref b24)]))
      obtain ⟨cq31, kq31, q31a, q31b, q31c⟩ := isOf hZ rfl (gP30.1)
      obtain ⟨_, _, ⟨T31, L31, k31, n31⟩, -, X31, ⟨Lc31, hQ31, l31, y31, z31⟩, st31⟩ := X30.virtualBack hx (y := (⟨"com/example/lone1/lone1/solve/SweepOrder", "hasNext", "()Z"⟩ : MethodName)) (z := (⟨"com/example/lone1/lone1/solve/SweepOrder", "hasNext", "()Z"⟩ : MethodName)) hown (mvT hZ w_21) (mvT hZ w_22) (notFace_of_selects (args := #[]) (mvT hZ w_24)) (mvT hZ w_24) (mvT hZ w_23) (by decide) (backOf (W := 0) (rm5N l Z a0 hw [] b24 (own_clr u0) T30.heap n0 gZ30 gP30.2.2.2.1 hc9100_14) hZ w_25 w_10 (by decide) (by decide)) q31a q31c (g := (mkF m 265 #[.val (.long q0), .second, .val (.long q1), .second, .val (.long q2), .second, .val (.int p3), .val (.int n7), .val (.long w0), .second, .val (.long w1), .second, .val (.long w2), .second, .val (.ref ar), .val (.long u0), .second, .val (.long u1), .second, .val (.long u2), .second, .val (.int cnt), .val (.int (1 : Int32)), .val (.int (1 : Int32)), .val (.ref b24)] [(.ref b24)])) rfl (by rw [hml]; rfl) (Steps.refl _) (argsL := []) (rest := []) (lenOf pd0___Z rfl) rfl (by show 2 * 0 + _ ≤ _; exact Nat.le_of_eq rfl) (hb hby at_265) (fun _ _ => ⟨rfl, rfl, (by decide : 2 + 0 ≤ _), (by decide : 6 + 0 ≤ _)⟩)
      dsimp only [Pt.U, Pt.locs, Pt.cells, Pt.slots] at X31 l31 y31 z31 st31 hQ31
      subst l31 y31 z31
      obtain ⟨rfl, N31q, e31⟩ := hQ31
      have N31 := Fr.app N30 N31q
      refine bk (fun t k => st31.trans k) ?_
      refine bk (fun t k => XS.iload X31.here hx rfl (hb hby at_268) rfl k) ?_
      show F (T31.setTop (mkF m 270 #[.val (.long q0), .second, .val (.long q1), .second, .val (.long q2), .second, .val (.int p3), .val (.int n7), .val (.long w0), .second, .val (.long w1), .second, .val (.long w2), .second, .val (.ref ar), .val (.long u0), .second, .val (.long u1), .second, .val (.long u2), .second, .val (.int cnt), .val (.int (1 : Int32)), .val (.int (1 : Int32)), .val (.ref b24)] [(.int (1 : Int32)), (.int (1 : Int32))]))
      refine bk (fun t k => XS.icmpYes X31.here hx rfl (pc0 := 270) (pc' := 275) rfl (hb hby at_270) rfl (teq (by decide : (1 : Int32) = (1 : Int32))).1 (by decide) (by decide) k) ?_
      refine bk (fun t k => XS.aload X31.here hx rfl (hb hby at_275) rfl rfl k) ?_
      show F (T31.setTop (mkF m 277 #[.val (.long q0), .second, .val (.long q1), .second, .val (.long q2), .second, .val (.int p3), .val (.int n7), .val (.long w0), .second, .val (.long w1), .second, .val (.long w2), .second, .val (.ref ar), .val (.long u0), .second, .val (.long u1), .second, .val (.long u2), .second, .val (.int cnt), .val (.int (1 : Int32)), .val (.int (1 : Int32)), .val (.ref b24)] [(.ref b24)]))
      obtain ⟨cq32, kq32, q32a, q32b, q32c⟩ := isOf hZ e31 (gP30.1)
      obtain ⟨_, _, ⟨T32, L32, k32, n32⟩, -, X32, ⟨Lc32, hQ32, l32, y32, z32⟩, st32⟩ := X31.virtualBack hx (y := (⟨"com/example/lone1/lone1/solve/SweepOrder", "hasNext", "()Z"⟩ : MethodName)) (z := (⟨"com/example/lone1/lone1/solve/SweepOrder", "hasNext", "()Z"⟩ : MethodName)) hown (mvT hZ w_21) (mvT hZ w_22) (notFace_of_selects (args := #[]) (mvT hZ w_24)) (mvT hZ w_24) (mvT hZ w_23) (by decide) (backOf (W := 0) (rm5N l Z a0 hw [] b24 (own_clr u0) T30.heap n0 gZ30 gP30.2.2.2.1 hc9100_14) hZ w_25 w_10 (by decide) (by decide)) q32a q32c (g := (mkF m 277 #[.val (.long q0), .second, .val (.long q1), .second, .val (.long q2), .second, .val (.int p3), .val (.int n7), .val (.long w0), .second, .val (.long w1), .second, .val (.long w2), .second, .val (.ref ar), .val (.long u0), .second, .val (.long u1), .second, .val (.long u2), .second, .val (.int cnt), .val (.int (1 : Int32)), .val (.int (1 : Int32)), .val (.ref b24)] [(.ref b24)])) rfl (by rw [hml]; rfl) (Steps.refl _) (argsL := []) (rest := []) (lenOf pd0___Z rfl) rfl (by show 2 * 0 + _ ≤ _; exact Nat.le_of_eq rfl) (hb hby at_277) (fun _ _ => ⟨rfl, e31, (by decide : 2 + 0 ≤ _), (by decide : 6 + 0 ≤ _)⟩)
      dsimp only [Pt.U, Pt.locs, Pt.cells, Pt.slots] at X32 l32 y32 z32 st32 hQ32
      subst l32 y32 z32
      obtain ⟨rfl, N32q, e32⟩ := hQ32
      have N32 := Fr.app N31 N32q
      refine bk (fun t k => st32.trans k) ?_
      refine bk (fun t k => XS.iload X32.here hx rfl (hb hby at_280) rfl k) ?_
      show F (T32.setTop (mkF m 282 #[.val (.long q0), .second, .val (.long q1), .second, .val (.long q2), .second, .val (.int p3), .val (.int n7), .val (.long w0), .second, .val (.long w1), .second, .val (.long w2), .second, .val (.ref ar), .val (.long u0), .second, .val (.long u1), .second, .val (.long u2), .second, .val (.int cnt), .val (.int (1 : Int32)), .val (.int (1 : Int32)), .val (.ref b24)] [(.int (1 : Int32)), (.int (1 : Int32))]))
      refine bk (fun t k => XS.icmpNo X32.here hx rfl (hb hby at_282) rfl (teq (by decide : (1 : Int32) = (1 : Int32))).2 k) ?_
      refine bk (fun t k => XS.iconst X32.here hx rfl (hb hby at_285) k) ?_
      refine bk (fun t k => XS.goto X32.here hx rfl (pc0 := 286) (pc' := 290) rfl (hb hby at_286) (by decide) (by decide) k) ?_
      show F (T32.setTop (mkF m 290 #[.val (.long q0), .second, .val (.long q1), .second, .val (.long q2), .second, .val (.int p3), .val (.int n7), .val (.long w0), .second, .val (.long w1), .second, .val (.long w2), .second, .val (.ref ar), .val (.long u0), .second, .val (.long u1), .second, .val (.long u2), .second, .val (.int cnt), .val (.int (1 : Int32)), .val (.int (1 : Int32)), .val (.ref b24)] [(.int (1 : Int32))]))
      rw [hF]
      refine own_retZ X32 hx Bd.notSynchronized Bd.returns (hb hby at_290) (by decide) (by decide) ?_
      rw [e32]
      exact ⟨rfl, N32⟩
set_option maxRecDepth 65536 in
set_option maxHeartbeats 40000000 in
theorem own_J213_2 (l : Launch) (Z : State) (a0 : Array Value) (hw : ∀ d ∈ tables_1, d.before a0 Z = true) (ws : List Jvm.Cond) (q0 : Int64) (q1 : Int64) (q2 : Int64) (p3 : Int32) (h0 : Heap) (n0 : Nat) (Z0 : n0 ≤ h0.size) {p : Program} {e : Env} {s : State} {m : MethodId} {below : List Frame} {meth : Method} {c : Code} {s₁ : State}
    (Bd : BodyLoose p l x (head1 (Jvm.Cond.code x code maxLocals ret :: ws) room_1) code maxLocals ret e s m #[(.long q0), (.long q1), (.long q2), (.int p3)] below meth c s₁) (hml : c.maxLocals = 25) (hZ : Z.Warmed39 s.vm) (F : State → Prop) (hF : F = own_Fin p e below s room_1.cells room_1.slots (fun v h L => Q0 Z q0 q1 q2 p3 h0 n0 v h L))
    (bk : ∀ {A B : State}, (∀ t, Steps p.tables e below B t → Steps p.tables e below A t) → F B → F A) : ∀ (TJ : State) (LJ : List Loc) (hJ : Heap) (XJ : Stand p l e room_1 s m #[(.long q0), (.long q1), (.long q2), (.int p3)] below meth c TJ LJ 1 3) (eJ : TJ.heap = hJ) (NJ : Fr n0 LJ) (n7 : Int32) (w0 : Int64) (w1 : Int64) (w2 : Int64) (ar : Addr) (u0 : Int64) (u1 : Int64) (u2 : Int64) (kk : ClassId) (jZ : n0 ≤ hJ.size) (jV : Arv Z hJ ar kk .long (2 : Int32) [.long u0, .long u1, .long u2] (.long (0 : Int64))) (hz2 : u2 = (0 : Int64)) (cnt : Int32) (hcnt : cnt = own_cnt u0 u1 u2) (any : Int32) (hany : any = own_anyc cnt) (two : Int32) (htwo : two = own_two cnt u0 u1 u2), F (TJ.setTop (mkF m 213 #[.val (.long q0), .second, .val (.long q1), .second, .val (.long q2), .second, .val (.int p3), .val (.int n7), .val (.long w0), .second, .val (.long w1), .second, .val (.long w2), .second, .val (.ref ar), .val (.long u0), .second, .val (.long u1), .second, .val (.long u2), .second, .val (.int cnt), .val (.int any), .unset, .unset] [(.int two)])) := by
  intro TJ LJ hJ XJ eJ NJ n7 w0 w1 w2 ar u0 u1 u2 kk jZ jV hz2 cnt hcnt any hany two htwo
  have hx := Bd.exec
  have hby := Bd.bytes
  have hown : s.vm.findClass "com/example/lone1/lone1/solve/SweepOrderHasNextPinLaw" = some m.cls := findClass_of_methodNamed Bd.named
  have hnm := (name_of_methodNamed Bd.named Bd.method).1
  have w_8 := hw _ (List.mem_of_getElem? (i := 8) rfl)
  have w_9 := hw _ (List.mem_of_getElem? (i := 9) rfl)
  have w_10 := hw _ (List.mem_of_getElem? (i := 10) rfl)
  have w_11 := hw _ (List.mem_of_getElem? (i := 11) rfl)
  have w_12 := hw _ (List.mem_of_getElem? (i := 12) rfl)
  have w_13 := hw _ (List.mem_of_getElem? (i := 13) rfl)
  have w_18 := hw _ (List.mem_of_getElem? (i := 18) rfl)
  have w_20 := hw _ (List.mem_of_getElem? (i := 20) rfl)
  have w_21 := hw _ (List.mem_of_getElem? (i := 21) rfl)
  have w_22 := hw _ (List.mem_of_getElem? (i := 22) rfl)
  have w_23 := hw _ (List.mem_of_getElem? (i := 23) rfl)
  have w_24 := hw _ (List.mem_of_getElem? (i := 24) rfl)
  have w_25 := hw _ (List.mem_of_getElem? (i := 25) rfl)
  have w_27 := hw _ (List.mem_of_getElem? (i := 27) rfl)
  have w_29 := hw _ (List.mem_of_getElem? (i := 29) rfl)
  have w_30 := hw _ (List.mem_of_getElem? (i := 30) rfl)
  have w_31 := hw _ (List.mem_of_getElem? (i := 31) rfl)
  have w_32 := hw _ (List.mem_of_getElem? (i := 32) rfl)
  have w_33 := hw _ (List.mem_of_getElem? (i := 33) rfl)
  by_cases hc9201_33 : u1 = (0 : Int64)
  · by_cases hc9200_34 : u0 = (0 : Int64)
    · obtain rfl : any = (0 : Int32) := hany.trans (by subst hcnt; simp +decide [own_anyc, own_cnt, own_b, hz2, hc9201_33, hc9200_34])
      obtain rfl : two = (0 : Int32) := htwo.trans (by subst hcnt; simp +decide [own_two, own_cnt, own_b, own_mb0, hz2, hc9201_33, hc9200_34])
      show F (TJ.setTop (mkF m 213 #[.val (.long q0), .second, .val (.long q1), .second, .val (.long q2), .second, .val (.int p3), .val (.int n7), .val (.long w0), .second, .val (.long w1), .second, .val (.long w2), .second, .val (.ref ar), .val (.long u0), .second, .val (.long u1), .second, .val (.long u2), .second, .val (.int cnt), .val (.int (0 : Int32)), .unset, .unset] [(.int (0 : Int32))]))
      refine bk (fun t k => XS.istore XJ.here hx rfl (hb hby at_213) rfl (l' := #[.val (.long q0), .second, .val (.long q1), .second, .val (.long q2), .second, .val (.int p3), .val (.int n7), .val (.long w0), .second, .val (.long w1), .second, .val (.long w2), .second, .val (.ref ar), .val (.long u0), .second, .val (.long u1), .second, .val (.long u2), .second, .val (.int cnt), .val (.int (0 : Int32)), .val (.int (0 : Int32)), .unset]) rfl k) ?_
      show F (TJ.setTop (mkF m 215 #[.val (.long q0), .second, .val (.long q1), .second, .val (.long q2), .second, .val (.int p3), .val (.int n7), .val (.long w0), .second, .val (.long w1), .second, .val (.long w2), .second, .val (.ref ar), .val (.long u0), .second, .val (.long u1), .second, .val (.long u2), .second, .val (.int cnt), .val (.int (0 : Int32)), .val (.int (0 : Int32)), .unset] []))
      obtain ⟨T35, h35, X35, e35, E35, A35, D35, -, st35⟩ := newO XJ hx hZ hown w_8 w_9 w_10 eJ (g := (mkF m 215 #[.val (.long q0), .second, .val (.long q1), .second, .val (.long q2), .second, .val (.int p3), .val (.int n7), .val (.long w0), .second, .val (.long w1), .second, .val (.long w2), .second, .val (.ref ar), .val (.long u0), .second, .val (.long u1), .second, .val (.long u2), .second, .val (.int cnt), .val (.int (0 : Int32)), .val (.int (0 : Int32)), .unset] [])) rfl (hb hby at_215) (by decide) (by decide)
      obtain ⟨b35, g35⟩ : ∃ z, z = hJ.size := ⟨_, rfl⟩
      rw [← g35] at A35 D35 st35
      have Gb35 : n0 ≤ b35 := Nat.le_trans jZ (Nat.le_of_eq g35.symm)
      have ne_ar_b35 : ar ≠ b35 := Nat.ne_of_lt (Nat.lt_of_lt_of_le jV.lt (Nat.le_of_eq g35.symm))
      have f36 := Nat.le_trans jZ E35.1
      have f37 := jV.ext E35
      have F_words_b35 : Fld Z h35 b35 "com/example/lone1/lone1/solve/SweepOrder" "words" "[J" .null := D35 (Or.inr w_18) (ty := (.array .long)) (by decide)
      have F_at_b35 : Fld Z h35 b35 "com/example/lone1/lone1/solve/SweepOrder" "at" "I" (.int (0 : Int32)) := D35 (Or.inl w_20) (ty := .int) (by decide)
      have F_word_b35 : Fld Z h35 b35 "com/example/lone1/lone1/solve/SweepOrder" "word" "J" (.long (0 : Int64)) := D35 (Or.inl w_27) (ty := .long) (by decide)
      refine bk (fun t k => st35 t k) ?_
      refine bk (fun t k => XS.dup X35.here hx rfl (hb hby at_218) rfl rfl k) ?_
      refine bk (fun t k => XS.aload X35.here hx rfl (hb hby at_219) rfl rfl k) ?_
      show F (T35.setTop (mkF m 221 #[.val (.long q0), .second, .val (.long q1), .second, .val (.long q2), .second, .val (.int p3), .val (.int n7), .val (.long w0), .second, .val (.long w1), .second, .val (.long w2), .second, .val (.ref ar), .val (.long u0), .second, .val (.long u1), .second, .val (.long u2), .second, .val (.int cnt), .val (.int (0 : Int32)), .val (.int (0 : Int32)), .unset] [(.ref ar), (.ref b35), (.ref b35)]))
      obtain ⟨_, _, ⟨T38, L38, k38, n38⟩, -, X38, ⟨Lc38, hQ38, l38, y38, z38⟩, st38⟩ := X35.specialBack hx (y := (⟨"com/example/lone1/lone1/solve/SweepOrder", "<init>", "([J)V"⟩ : MethodName)) rfl hown (mvT hZ w_11) (mvT hZ w_12) (mvT hZ w_13) (by decide) (backOf (W := 1) (rm3 l Z a0 hw [] b35 ar kk (2 : Int32) u0 u1 u2 h35 n0 f36 A35 F_words_b35 F_at_b35 F_word_b35 f37 Gb35 (Ne.symm ne_ar_b35)) hZ w_13 w_10 (by decide) (by decide)) (g := (mkF m 221 #[.val (.long q0), .second, .val (.long q1), .second, .val (.long q2), .second, .val (.int p3), .val (.int n7), .val (.long w0), .second, .val (.long w1), .second, .val (.long w2), .second, .val (.ref ar), .val (.long u0), .second, .val (.long u1), .second, .val (.long u2), .second, .val (.int cnt), .val (.int (0 : Int32)), .val (.int (0 : Int32)), .unset] [(.ref ar), (.ref b35), (.ref b35)])) rfl (by rw [hml]; rfl) (Steps.refl _) (a := b35) (argsL := [(.ref ar)]) (rest := [(.ref b35)]) (lenOf pd0___J_V rfl) rfl (by show 2 * 0 + _ ≤ _; exact Nat.le_of_eq rfl) (hb hby at_221) (fun _ _ => ⟨rfl, e35, (by decide : 2 + 0 ≤ _), (by decide : 6 + 0 ≤ _)⟩)
      dsimp only [Pt.U, Pt.locs, Pt.cells, Pt.slots] at X38 l38 y38 z38 st38 hQ38
      subst l38 y38 z38
      obtain ⟨rfl, N38q, gZ38, gP38⟩ := hQ38
      have N38 := Fr.app NJ N38q
      have ne_b35_ar : b35 ≠ ar := (Ne.symm ne_ar_b35)
      refine bk (fun t k => st38.trans k) ?_
      show F (T38.setTop (mkF m 224 #[.val (.long q0), .second, .val (.long q1), .second, .val (.long q2), .second, .val (.int p3), .val (.int n7), .val (.long w0), .second, .val (.long w1), .second, .val (.long w2), .second, .val (.ref ar), .val (.long u0), .second, .val (.long u1), .second, .val (.long u2), .second, .val (.int cnt), .val (.int (0 : Int32)), .val (.int (0 : Int32)), .unset] [(.ref b35)]))
      refine bk (fun t k => XS.astore X38.here hx rfl (hb hby at_224) rfl rfl (l' := #[.val (.long q0), .second, .val (.long q1), .second, .val (.long q2), .second, .val (.int p3), .val (.int n7), .val (.long w0), .second, .val (.long w1), .second, .val (.long w2), .second, .val (.ref ar), .val (.long u0), .second, .val (.long u1), .second, .val (.long u2), .second, .val (.int cnt), .val (.int (0 : Int32)), .val (.int (0 : Int32)), .val (.ref b35)]) rfl k) ?_
      refine bk (fun t k => XS.aload X38.here hx rfl (hb hby at_226) rfl rfl k) ?_
      show F (T38.setTop (mkF m 228 #[.val (.long q0), .second, .val (.long q1), .second, .val (.long q2), .second, .val (.int p3), .val (.int n7), .val (.long w0), .second, .val (.long w1), .second, .val (.long w2), .second, .val (.ref ar), .val (.long u0), .second, .val (.long u1), .second, .val (.long u2), .second, .val (.int cnt), .val (.int (0 : Int32)), .val (.int (0 : Int32)), .val (.ref b35)] [(.ref b35)]))
      obtain ⟨cq39, kq39, q39a, q39b, q39c⟩ := isOf hZ rfl (gP38.1)
      obtain ⟨_, _, ⟨T39, L39, k39, n39⟩, -, X39, ⟨Lc39, hQ39, l39, y39, z39⟩, st39⟩ := X38.virtualBack hx (y := (⟨"com/example/lone1/lone1/solve/SweepOrder", "hasNext", "()Z"⟩ : MethodName)) (z := (⟨"com/example/lone1/lone1/solve/SweepOrder", "hasNext", "()Z"⟩ : MethodName)) hown (mvT hZ w_21) (mvT hZ w_22) (notFace_of_selects (args := #[]) (mvT hZ w_24)) (mvT hZ w_24) (mvT hZ w_23) (by decide) (backOf (W := 0) (rm5Z2n l Z a0 hw [] b35 ar kk (2 : Int32) u0 u1 u2 T38.heap n0 gZ38 gP38 Gb35 ne_b35_ar (by decide) (by decide) hc9201_33 hc9200_34) hZ w_25 w_10 (by decide) (by decide)) q39a q39c (g := (mkF m 228 #[.val (.long q0), .second, .val (.long q1), .second, .val (.long q2), .second, .val (.int p3), .val (.int n7), .val (.long w0), .second, .val (.long w1), .second, .val (.long w2), .second, .val (.ref ar), .val (.long u0), .second, .val (.long u1), .second, .val (.long u2), .second, .val (.int cnt), .val (.int (0 : Int32)), .val (.int (0 : Int32)), .val (.ref b35)] [(.ref b35)])) rfl (by rw [hml]; rfl) (Steps.refl _) (argsL := []) (rest := []) (lenOf pd0___Z rfl) rfl (by show 2 * 0 + _ ≤ _; exact Nat.le_of_eq rfl) (hb hby at_228) (fun _ _ => ⟨rfl, rfl, (by decide : 2 + 0 ≤ _), (by decide : 6 + 0 ≤ _)⟩)
      dsimp only [Pt.U, Pt.locs, Pt.cells, Pt.slots] at X39 l39 y39 z39 st39 hQ39
      subst l39 y39 z39
      obtain ⟨rfl, N39q, gZ39, gP39⟩ := hQ39
      have N39 := Fr.app N38 N39q
      refine bk (fun t k => st39.trans k) ?_
      refine bk (fun t k => XS.iload X39.here hx rfl (hb hby at_231) rfl k) ?_
      show F (T39.setTop (mkF m 233 #[.val (.long q0), .second, .val (.long q1), .second, .val (.long q2), .second, .val (.int p3), .val (.int n7), .val (.long w0), .second, .val (.long w1), .second, .val (.long w2), .second, .val (.ref ar), .val (.long u0), .second, .val (.long u1), .second, .val (.long u2), .second, .val (.int cnt), .val (.int (0 : Int32)), .val (.int (0 : Int32)), .val (.ref b35)] [(.int (0 : Int32)), (.int (0 : Int32))]))
      refine bk (fun t k => XS.icmpYes X39.here hx rfl (pc0 := 233) (pc' := 238) rfl (hb hby at_233) rfl (teq (by decide : (0 : Int32) = (0 : Int32))).1 (by decide) (by decide) k) ?_
      refine bk (fun t k => XS.aload X39.here hx rfl (hb hby at_238) rfl rfl k) ?_
      show F (T39.setTop (mkF m 240 #[.val (.long q0), .second, .val (.long q1), .second, .val (.long q2), .second, .val (.int p3), .val (.int n7), .val (.long w0), .second, .val (.long w1), .second, .val (.long w2), .second, .val (.ref ar), .val (.long u0), .second, .val (.long u1), .second, .val (.long u2), .second, .val (.int cnt), .val (.int (0 : Int32)), .val (.int (0 : Int32)), .val (.ref b35)] [(.ref b35)]))
      obtain ⟨cq40, kq40, q40a, q40b, q40c⟩ := isOf hZ rfl (gP39.1)
      obtain ⟨_, _, ⟨T40, L40, k40, n40⟩, -, X40, ⟨Lc40, hQ40, l40, y40, z40⟩, st40⟩ := X39.virtualBack hx (y := (⟨"com/example/lone1/lone1/solve/SweepOrder", "hasNext", "()Z"⟩ : MethodName)) (z := (⟨"com/example/lone1/lone1/solve/SweepOrder", "hasNext", "()Z"⟩ : MethodName)) hown (mvT hZ w_21) (mvT hZ w_22) (notFace_of_selects (args := #[]) (mvT hZ w_24)) (mvT hZ w_24) (mvT hZ w_23) (by decide) (backOf (W := 0) (rm5Z0n l Z a0 hw [] b35 ar kk (2 : Int32) u0 u1 u2 T39.heap n0 gZ39 (own_S0 hc9200_34 gP39) Gb35 ne_b35_ar ) hZ w_25 w_10 (by decide) (by decide)) q40a q40c (g := (mkF m 240 #[.val (.long q0), .second, .val (.long q1), .second, .val (.long q2), .second, .val (.int p3), .val (.int n7), .val (.long w0), .second, .val (.long w1), .second, .val (.long w2), .second, .val (.ref ar), .val (.long u0), .second, .val (.long u1), .second, .val (.long u2), .second, .val (.int cnt), .val (.int (0 : Int32)), .val (.int (0 : Int32)), .val (.ref b35)] [(.ref b35)])) rfl (by rw [hml]; rfl) (Steps.refl _) (argsL := []) (rest := []) (lenOf pd0___Z rfl) rfl (by show 2 * 0 + _ ≤ _; exact Nat.le_of_eq rfl) (hb hby at_240) (fun _ _ => ⟨rfl, rfl, (by decide : 2 + 0 ≤ _), (by decide : 6 + 0 ≤ _)⟩)
      dsimp only [Pt.U, Pt.locs, Pt.cells, Pt.slots] at X40 l40 y40 z40 st40 hQ40
      subst l40 y40 z40
      obtain ⟨rfl, N40q, gZ40, gP40⟩ := hQ40
      have N40 := Fr.app N39 N40q
      refine bk (fun t k => st40.trans k) ?_
      refine bk (fun t k => XS.iload X40.here hx rfl (hb hby at_243) rfl k) ?_
      show F (T40.setTop (mkF m 245 #[.val (.long q0), .second, .val (.long q1), .second, .val (.long q2), .second, .val (.int p3), .val (.int n7), .val (.long w0), .second, .val (.long w1), .second, .val (.long w2), .second, .val (.ref ar), .val (.long u0), .second, .val (.long u1), .second, .val (.long u2), .second, .val (.int cnt), .val (.int (0 : Int32)), .val (.int (0 : Int32)), .val (.ref b35)] [(.int (0 : Int32)), (.int (0 : Int32))]))
      refine bk (fun t k => XS.icmpYes X40.here hx rfl (pc0 := 245) (pc' := 250) rfl (hb hby at_245) rfl (teq (by decide : (0 : Int32) = (0 : Int32))).1 (by decide) (by decide) k) ?_
      refine bk (fun t k => XS.iload X40.here hx rfl (hb hby at_250) rfl k) ?_
      show F (T40.setTop (mkF m 252 #[.val (.long q0), .second, .val (.long q1), .second, .val (.long q2), .second, .val (.int p3), .val (.int n7), .val (.long w0), .second, .val (.long w1), .second, .val (.long w2), .second, .val (.ref ar), .val (.long u0), .second, .val (.long u1), .second, .val (.long u2), .second, .val (.int cnt), .val (.int (0 : Int32)), .val (.int (0 : Int32)), .val (.ref b35)] [(.int (0 : Int32))]))
      refine bk (fun t k => XS.ifNo X40.here hx rfl (hb hby at_252) rfl ((if0 _ _).trans (teq (by decide : (0 : Int32) = (0 : Int32))).2) k) ?_
      refine bk (fun t k => XS.iconst X40.here hx rfl (hb hby at_255) k) ?_
      show F (T40.setTop (mkF m 256 #[.val (.long q0), .second, .val (.long q1), .second, .val (.long q2), .second, .val (.int p3), .val (.int n7), .val (.long w0), .second, .val (.long w1), .second, .val (.long w2), .second, .val (.ref ar), .val (.long u0), .second, .val (.long u1), .second, .val (.long u2), .second, .val (.int cnt), .val (.int (0 : Int32)), .val (.int (0 : Int32)), .val (.ref b35)] [(.int (1 : Int32))]))
      rw [hF]
      refine own_retZ X40 hx Bd.notSynchronized Bd.returns (hb hby at_256) (by decide) (by decide) ?_
      exact ⟨rfl, N40⟩
    · by_cases hc9100_41 : (own_clr u0) = (0 : Int64)
      · obtain rfl : any = (1 : Int32) := hany.trans (by subst hcnt; simp +decide [own_anyc, own_cnt, own_b, hz2, hc9201_33, hc9200_34, hc9100_41])
        obtain rfl : two = (0 : Int32) := htwo.trans (by subst hcnt; simp +decide [own_two, own_cnt, own_b, own_mb0, hz2, hc9201_33, hc9200_34, hc9100_41, own_clr_mb hc9200_34 hc9100_41])
        show F (TJ.setTop (mkF m 213 #[.val (.long q0), .second, .val (.long q1), .second, .val (.long q2), .second, .val (.int p3), .val (.int n7), .val (.long w0), .second, .val (.long w1), .second, .val (.long w2), .second, .val (.ref ar), .val (.long u0), .second, .val (.long u1), .second, .val (.long u2), .second, .val (.int cnt), .val (.int (1 : Int32)), .unset, .unset] [(.int (0 : Int32))]))
        refine bk (fun t k => XS.istore XJ.here hx rfl (hb hby at_213) rfl (l' := #[.val (.long q0), .second, .val (.long q1), .second, .val (.long q2), .second, .val (.int p3), .val (.int n7), .val (.long w0), .second, .val (.long w1), .second, .val (.long w2), .second, .val (.ref ar), .val (.long u0), .second, .val (.long u1), .second, .val (.long u2), .second, .val (.int cnt), .val (.int (1 : Int32)), .val (.int (0 : Int32)), .unset]) rfl k) ?_
        show F (TJ.setTop (mkF m 215 #[.val (.long q0), .second, .val (.long q1), .second, .val (.long q2), .second, .val (.int p3), .val (.int n7), .val (.long w0), .second, .val (.long w1), .second, .val (.long w2), .second, .val (.ref ar), .val (.long u0), .second, .val (.long u1), .second, .val (.long u2), .second, .val (.int cnt), .val (.int (1 : Int32)), .val (.int (0 : Int32)), .unset] []))
        obtain ⟨T42, h42, X42, e42, E42, A42, D42, -, st42⟩ := newO XJ hx hZ hown w_8 w_9 w_10 eJ (g := (mkF m 215 #[.val (.long q0), .second, .val (.long q1), .second, .val (.long q2), .second, .val (.int p3), .val (.int n7), .val (.long w0), .second, .val (.long w1), .second, .val (.long w2), .second, .val (.ref ar), .val (.long u0), .second, .val (.long u1), .second, .val (.long u2), .second, .val (.int cnt), .val (.int (1 : Int32)), .val (.int (0 : Int32)), .unset] [])) rfl (hb hby at_215) (by decide) (by decide)
        obtain ⟨b42, g42⟩ : ∃ z, z = hJ.size := ⟨_, rfl⟩
        rw [← g42] at A42 D42 st42
        have Gb42 : n0 ≤ b42 := Nat.le_trans jZ (Nat.le_of_eq g42.symm)
        have ne_ar_b42 : ar ≠ b42 := Nat.ne_of_lt (Nat.lt_of_lt_of_le jV.lt (Nat.le_of_eq g42.symm))
        have f43 := Nat.le_trans jZ E42.1
        have f44 := jV.ext E42
        have F_words_b42 : Fld Z h42 b42 "com/example/lone1/lone1/solve/SweepOrder" "words" "[J" .null := D42 (Or.inr w_18) (ty := (.array .long)) (by decide)
        have F_at_b42 : Fld Z h42 b42 "com/example/lone1/lone1/solve/SweepOrder" "at" "I" (.int (0 : Int32)) := D42 (Or.inl w_20) (ty := .int) (by decide)
        have F_word_b42 : Fld Z h42 b42 "com/example/lone1/lone1/solve/SweepOrder" "word" "J" (.long (0 : Int64)) := D42 (Or.inl w_27) (ty := .long) (by decide)
        refine bk (fun t k => st42 t k) ?_
        refine bk (fun t k => XS.dup X42.here hx rfl (hb hby at_218) rfl rfl k) ?_
        refine bk (fun t k => XS.aload X42.here hx rfl (hb hby at_219) rfl rfl k) ?_
        show F (T42.setTop (mkF m 221 #[.val (.long q0), .second, .val (.long q1), .second, .val (.long q2), .second, .val (.int p3), .val (.int n7), .val (.long w0), .second, .val (.long w1), .second, .val (.long w2), .second, .val (.ref ar), .val (.long u0), .second, .val (.long u1), .second, .val (.long u2), .second, .val (.int cnt), .val (.int (1 : Int32)), .val (.int (0 : Int32)), .unset] [(.ref ar), (.ref b42), (.ref b42)]))
        obtain ⟨_, _, ⟨T45, L45, k45, n45⟩, -, X45, ⟨Lc45, hQ45, l45, y45, z45⟩, st45⟩ := X42.specialBack hx (y := (⟨"com/example/lone1/lone1/solve/SweepOrder", "<init>", "([J)V"⟩ : MethodName)) rfl hown (mvT hZ w_11) (mvT hZ w_12) (mvT hZ w_13) (by decide) (backOf (W := 1) (rm3 l Z a0 hw [] b42 ar kk (2 : Int32) u0 u1 u2 h42 n0 f43 A42 F_words_b42 F_at_b42 F_word_b42 f44 Gb42 (Ne.symm ne_ar_b42)) hZ w_13 w_10 (by decide) (by decide)) (g := (mkF m 221 #[.val (.long q0), .second, .val (.long q1), .second, .val (.long q2), .second, .val (.int p3), .val (.int n7), .val (.long w0), .second, .val (.long w1), .second, .val (.long w2), .second, .val (.ref ar), .val (.long u0), .second, .val (.long u1), .second, .val (.long u2), .second, .val (.int cnt), .val (.int (1 : Int32)), .val (.int (0 : Int32)), .unset] [(.ref ar), (.ref b42), (.ref b42)])) rfl (by rw [hml]; rfl) (Steps.refl _) (a := b42) (argsL := [(.ref ar)]) (rest := [(.ref b42)]) (lenOf pd0___J_V rfl) rfl (by show 2 * 0 + _ ≤ _; exact Nat.le_of_eq rfl) (hb hby at_221) (fun _ _ => ⟨rfl, e42, (by decide : 2 + 0 ≤ _), (by decide : 6 + 0 ≤ _)⟩)
        dsimp only [Pt.U, Pt.locs, Pt.cells, Pt.slots] at X45 l45 y45 z45 st45 hQ45
        subst l45 y45 z45
        obtain ⟨rfl, N45q, gZ45, gP45⟩ := hQ45
        have N45 := Fr.app NJ N45q
        have ne_b42_ar : b42 ≠ ar := (Ne.symm ne_ar_b42)
        refine bk (fun t k => st45.trans k) ?_
        show F (T45.setTop (mkF m 224 #[.val (.long q0), .second, .val (.long q1), .second, .val (.long q2), .second, .val (.int p3), .val (.int n7), .val (.long w0), .second, .val (.long w1), .second, .val (.long w2), .second, .val (.ref ar), .val (.long u0), .second, .val (.long u1), .second, .val (.long u2), .second, .val (.int cnt), .val (.int (1 : Int32)), .val (.int (0 : Int32)), .unset] [(.ref b42)]))
        refine bk (fun t k => XS.astore X45.here hx rfl (hb hby at_224) rfl rfl (l' := #[.val (.long q0), .second, .val (.long q1), .second, .val (.long q2), .second, .val (.int p3), .val (.int n7), .val (.long w0), .second, .val (.long w1), .second, .val (.long w2), .second, .val (.ref ar), .val (.long u0), .second, .val (.long u1), .second, .val (.long u2), .second, .val (.int cnt), .val (.int (1 : Int32)), .val (.int (0 : Int32)), .val (.ref b42)]) rfl k) ?_
        refine bk (fun t k => XS.aload X45.here hx rfl (hb hby at_226) rfl rfl k) ?_
        show F (T45.setTop (mkF m 228 #[.val (.long q0), .second, .val (.long q1), .second, .val (.long q2), .second, .val (.int p3), .val (.int n7), .val (.long w0), .second, .val (.long w1), .second, .val (.long w2), .second, .val (.ref ar), .val (.long u0), .second, .val (.long u1), .second, .val (.long u2), .second, .val (.int cnt), .val (.int (1 : Int32)), .val (.int (0 : Int32)), .val (.ref b42)] [(.ref b42)]))
        obtain ⟨cq46, kq46, q46a, q46b, q46c⟩ := isOf hZ rfl (gP45.1)
        obtain ⟨_, _, ⟨T46, L46, k46, n46⟩, -, X46, ⟨Lc46, hQ46, l46, y46, z46⟩, st46⟩ := X45.virtualBack hx (y := (⟨"com/example/lone1/lone1/solve/SweepOrder", "hasNext", "()Z"⟩ : MethodName)) (z := (⟨"com/example/lone1/lone1/solve/SweepOrder", "hasNext", "()Z"⟩ : MethodName)) hown (mvT hZ w_21) (mvT hZ w_22) (notFace_of_selects (args := #[]) (mvT hZ w_24)) (mvT hZ w_24) (mvT hZ w_23) (by decide) (backOf (W := 0) (rm5Z20 l Z a0 hw [] b42 ar kk (2 : Int32) u0 u1 u2 T45.heap n0 gZ45 gP45 Gb42 ne_b42_ar (by decide) (by decide) hc9201_33 hc9200_34) hZ w_25 w_10 (by decide) (by decide)) q46a q46c (g := (mkF m 228 #[.val (.long q0), .second, .val (.long q1), .second, .val (.long q2), .second, .val (.int p3), .val (.int n7), .val (.long w0), .second, .val (.long w1), .second, .val (.long w2), .second, .val (.ref ar), .val (.long u0), .second, .val (.long u1), .second, .val (.long u2), .second, .val (.int cnt), .val (.int (1 : Int32)), .val (.int (0 : Int32)), .val (.ref b42)] [(.ref b42)])) rfl (by rw [hml]; rfl) (Steps.refl _) (argsL := []) (rest := []) (lenOf pd0___Z rfl) rfl (by show 2 * 0 + _ ≤ _; exact Nat.le_of_eq rfl) (hb hby at_228) (fun _ _ => ⟨rfl, rfl, (by decide : 2 + 0 ≤ _), (by decide : 6 + 0 ≤ _)⟩)
        dsimp only [Pt.U, Pt.locs, Pt.cells, Pt.slots] at X46 l46 y46 z46 st46 hQ46
        subst l46 y46 z46
        obtain ⟨rfl, N46q, gZ46, gP46⟩ := hQ46
        have N46 := Fr.app N45 N46q
        refine bk (fun t k => st46.trans k) ?_
        refine bk (fun t k => XS.iload X46.here hx rfl (hb hby at_231) rfl k) ?_
        show F (T46.setTop (mkF m 233 #[.val (.long q0), .second, .val (.long q1), .second, .val (.long q2), .second, .val (.int p3), .val (.int n7), .val (.long w0), .second, .val (.long w1), .second, .val (.long w2), .second, .val (.ref ar), .val (.long u0), .second, .val (.long u1), .second, .val (.long u2), .second, .val (.int cnt), .val (.int (1 : Int32)), .val (.int (0 : Int32)), .val (.ref b42)] [(.int (1 : Int32)), (.int (1 : Int32))]))
        refine bk (fun t k => XS.icmpYes X46.here hx rfl (pc0 := 233) (pc' := 238) rfl (hb hby at_233) rfl (teq (by decide : (1 : Int32) = (1 : Int32))).1 (by decide) (by decide) k) ?_
        refine bk (fun t k => XS.aload X46.here hx rfl (hb hby at_238) rfl rfl k) ?_
        show F (T46.setTop (mkF m 240 #[.val (.long q0), .second, .val (.long q1), .second, .val (.long q2), .second, .val (.int p3), .val (.int n7), .val (.long w0), .second, .val (.long w1), .second, .val (.long w2), .second, .val (.ref ar), .val (.long u0), .second, .val (.long u1), .second, .val (.long u2), .second, .val (.int cnt), .val (.int (1 : Int32)), .val (.int (0 : Int32)), .val (.ref b42)] [(.ref b42)]))
        obtain ⟨cq47, kq47, q47a, q47b, q47c⟩ := isOf hZ rfl (gP46.1)
        obtain ⟨_, _, ⟨T47, L47, k47, n47⟩, -, X47, ⟨Lc47, hQ47, l47, y47, z47⟩, st47⟩ := X46.virtualBack hx (y := (⟨"com/example/lone1/lone1/solve/SweepOrder", "hasNext", "()Z"⟩ : MethodName)) (z := (⟨"com/example/lone1/lone1/solve/SweepOrder", "hasNext", "()Z"⟩ : MethodName)) hown (mvT hZ w_21) (mvT hZ w_22) (notFace_of_selects (args := #[]) (mvT hZ w_24)) (mvT hZ w_24) (mvT hZ w_23) (by decide) (backOf (W := 0) (rm5N l Z a0 hw [] b42 u0 T46.heap n0 gZ46 gP46.2.2.2.1 hc9200_34) hZ w_25 w_10 (by decide) (by decide)) q47a q47c (g := (mkF m 240 #[.val (.long q0), .second, .val (.long q1), .second, .val (.long q2), .second, .val (.int p3), .val (.int n7), .val (.long w0), .second, .val (.long w1), .second, .val (.long w2), .second, .val (.ref ar), .val (.long u0), .second, .val (.long u1), .second, .val (.long u2), .second, .val (.int cnt), .val (.int (1 : Int32)), .val (.int (0 : Int32)), .val (.ref b42)] [(.ref b42)])) rfl (by rw [hml]; rfl) (Steps.refl _) (argsL := []) (rest := []) (lenOf pd0___Z rfl) rfl (by show 2 * 0 + _ ≤ _; exact Nat.le_of_eq rfl) (hb hby at_240) (fun _ _ => ⟨rfl, rfl, (by decide : 2 + 0 ≤ _), (by decide : 6 + 0 ≤ _)⟩)
        dsimp only [Pt.U, Pt.locs, Pt.cells, Pt.slots] at X47 l47 y47 z47 st47 hQ47
        subst l47 y47 z47
        obtain ⟨rfl, N47q, e47⟩ := hQ47
        have N47 := Fr.app N46 N47q
        refine bk (fun t k => st47.trans k) ?_
        refine bk (fun t k => XS.iload X47.here hx rfl (hb hby at_243) rfl k) ?_
        show F (T47.setTop (mkF m 245 #[.val (.long q0), .second, .val (.long q1), .second, .val (.long q2), .second, .val (.int p3), .val (.int n7), .val (.long w0), .second, .val (.long w1), .second, .val (.long w2), .second, .val (.ref ar), .val (.long u0), .second, .val (.long u1), .second, .val (.long u2), .second, .val (.int cnt), .val (.int (1 : Int32)), .val (.int (0 : Int32)), .val (.ref b42)] [(.int (1 : Int32)), (.int (1 : Int32))]))
        refine bk (fun t k => XS.icmpYes X47.here hx rfl (pc0 := 245) (pc' := 250) rfl (hb hby at_245) rfl (teq (by decide : (1 : Int32) = (1 : Int32))).1 (by decide) (by decide) k) ?_
        refine bk (fun t k => XS.iload X47.here hx rfl (hb hby at_250) rfl k) ?_
        show F (T47.setTop (mkF m 252 #[.val (.long q0), .second, .val (.long q1), .second, .val (.long q2), .second, .val (.int p3), .val (.int n7), .val (.long w0), .second, .val (.long w1), .second, .val (.long w2), .second, .val (.ref ar), .val (.long u0), .second, .val (.long u1), .second, .val (.long u2), .second, .val (.int cnt), .val (.int (1 : Int32)), .val (.int (0 : Int32)), .val (.ref b42)] [(.int (1 : Int32))]))
        refine bk (fun t k => XS.ifYes X47.here hx rfl (pc0 := 252) (pc' := 257) rfl (hb hby at_252) rfl ((if0 _ _).trans (feq (by decide : ¬ ((1 : Int32) = (0 : Int32)))).2) (by decide) (by decide) k) ?_
        refine bk (fun t k => XS.aload X47.here hx rfl (hb hby at_257) rfl rfl k) ?_
        show F (T47.setTop (mkF m 259 #[.val (.long q0), .second, .val (.long q1), .second, .val (.long q2), .second, .val (.int p3), .val (.int n7), .val (.long w0), .second, .val (.long w1), .second, .val (.long w2), .second, .val (.ref ar), .val (.long u0), .second, .val (.long u1), .second, .val (.long u2), .second, .val (.int cnt), .val (.int (1 : Int32)), .val (.int (0 : Int32)), .val (.ref b42)] [(.ref b42)]))
        obtain ⟨cq48, kq48, q48a, q48b, q48c⟩ := isOf hZ e47 (gP46.1)
        obtain ⟨_, _, ⟨T48, L48, k48, n48⟩, -, X48, ⟨Lc48, hQ48, l48, y48, z48⟩, st48⟩ := X47.virtualBack hx (y := (⟨"com/example/lone1/lone1/solve/SweepOrder", "next", "()I"⟩ : MethodName)) (z := (⟨"com/example/lone1/lone1/solve/SweepOrder", "next", "()I"⟩ : MethodName)) hown (mvT hZ w_29) (mvT hZ w_30) (notFace_of_selects (args := #[]) (mvT hZ w_32)) (mvT hZ w_32) (mvT hZ w_31) (by decide) (backOf (W := 0) (rm6 l Z a0 hw [] b42 ar kk (2 : Int32) (0 : Int32) u0 u0 u1 u2 T46.heap n0 gZ46 gP46 Gb42 ne_b42_ar hc9200_34) hZ w_33 w_10 (by decide) (by decide)) q48a q48c (g := (mkF m 259 #[.val (.long q0), .second, .val (.long q1), .second, .val (.long q2), .second, .val (.int p3), .val (.int n7), .val (.long w0), .second, .val (.long w1), .second, .val (.long w2), .second, .val (.ref ar), .val (.long u0), .second, .val (.long u1), .second, .val (.long u2), .second, .val (.int cnt), .val (.int (1 : Int32)), .val (.int (0 : Int32)), .val (.ref b42)] [(.ref b42)])) rfl (by rw [hml]; rfl) (Steps.refl _) (argsL := []) (rest := []) (lenOf pd0___I rfl) rfl (by show 2 * 0 + _ ≤ _; exact Nat.le_of_eq rfl) (hb hby at_259) (fun _ _ => ⟨rfl, e47, (by decide : 2 + 0 ≤ _), (by decide : 6 + 0 ≤ _)⟩)
        dsimp only [Pt.U, Pt.locs, Pt.cells, Pt.slots] at X48 l48 y48 z48 st48 hQ48
        subst l48 y48 z48
        obtain ⟨rfl, N48q, gZ48, gP48⟩ := hQ48
        have N48 := Fr.app N47 N48q
        refine bk (fun t k => st48.trans k) ?_
        refine bk (fun t k => XS.pop X48.here hx rfl (hb hby at_262) rfl rfl k) ?_
        refine bk (fun t k => XS.aload X48.here hx rfl (hb hby at_263) rfl rfl k) ?_
        show F (T48.setTop (mkF m 265 #[.val (.long q0), .second, .val (.long q1), .second, .val (.long q2), .second, .val (.int p3), .val (.int n7), .val (.long w0), .second, .val (.long w1), .second, .val (.long w2), .second, .val (.ref ar), .val (.long u0), .second, .val (.long u1), .second, .val (.long u2), .second, .val (.int cnt), .val (.int (1 : Int32)), .val (.int (0 : Int32)), .val (.ref b42)] [(.ref b42)]))
        obtain ⟨cq49, kq49, q49a, q49b, q49c⟩ := isOf hZ rfl (gP48.1)
        obtain ⟨_, _, ⟨T49, L49, k49, n49⟩, -, X49, ⟨Lc49, hQ49, l49, y49, z49⟩, st49⟩ := X48.virtualBack hx (y := (⟨"com/example/lone1/lone1/solve/SweepOrder", "hasNext", "()Z"⟩ : MethodName)) (z := (⟨"com/example/lone1/lone1/solve/SweepOrder", "hasNext", "()Z"⟩ : MethodName)) hown (mvT hZ w_21) (mvT hZ w_22) (notFace_of_selects (args := #[]) (mvT hZ w_24)) (mvT hZ w_24) (mvT hZ w_23) (by decide) (backOf (W := 0) (rm5Z0n l Z a0 hw [] b42 ar kk (2 : Int32) u0 u1 u2 T48.heap n0 gZ48 (own_S0 hc9100_41 gP48) Gb42 ne_b42_ar ) hZ w_25 w_10 (by decide) (by decide)) q49a q49c (g := (mkF m 265 #[.val (.long q0), .second, .val (.long q1), .second, .val (.long q2), .second, .val (.int p3), .val (.int n7), .val (.long w0), .second, .val (.long w1), .second, .val (.long w2), .second, .val (.ref ar), .val (.long u0), .second, .val (.long u1), .second, .val (.long u2), .second, .val (.int cnt), .val (.int (1 : Int32)), .val (.int (0 : Int32)), .val (.ref b42)] [(.ref b42)])) rfl (by rw [hml]; rfl) (Steps.refl _) (argsL := []) (rest := []) (lenOf pd0___Z rfl) rfl (by show 2 * 0 + _ ≤ _; exact Nat.le_of_eq rfl) (hb hby at_265) (fun _ _ => ⟨rfl, rfl, (by decide : 2 + 0 ≤ _), (by decide : 6 + 0 ≤ _)⟩)
        dsimp only [Pt.U, Pt.locs, Pt.cells, Pt.slots] at X49 l49 y49 z49 st49 hQ49
        subst l49 y49 z49
        obtain ⟨rfl, N49q, gZ49, gP49⟩ := hQ49
        have N49 := Fr.app N48 N49q
        refine bk (fun t k => st49.trans k) ?_
        refine bk (fun t k => XS.iload X49.here hx rfl (hb hby at_268) rfl k) ?_
        show F (T49.setTop (mkF m 270 #[.val (.long q0), .second, .val (.long q1), .second, .val (.long q2), .second, .val (.int p3), .val (.int n7), .val (.long w0), .second, .val (.long w1), .second, .val (.long w2), .second, .val (.ref ar), .val (.long u0), .second, .val (.long u1), .second, .val (.long u2), .second, .val (.int cnt), .val (.int (1 : Int32)), .val (.int (0 : Int32)), .val (.ref b42)] [(.int (0 : Int32)), (.int (0 : Int32))]))
        refine bk (fun t k => XS.icmpYes X49.here hx rfl (pc0 := 270) (pc' := 275) rfl (hb hby at_270) rfl (teq (by decide : (0 : Int32) = (0 : Int32))).1 (by decide) (by decide) k) ?_
        refine bk (fun t k => XS.aload X49.here hx rfl (hb hby at_275) rfl rfl k) ?_
        show F (T49.setTop (mkF m 277 #[.val (.long q0), .second, .val (.long q1), .second, .val (.long q2), .second, .val (.int p3), .val (.int n7), .val (.long w0), .second, .val (.long w1), .second, .val (.long w2), .second, .val (.ref ar), .val (.long u0), .second, .val (.long u1), .second, .val (.long u2), .second, .val (.int cnt), .val (.int (1 : Int32)), .val (.int (0 : Int32)), .val (.ref b42)] [(.ref b42)]))
        obtain ⟨cq50, kq50, q50a, q50b, q50c⟩ := isOf hZ rfl (gP49.1)
        obtain ⟨_, _, ⟨T50, L50, k50, n50⟩, -, X50, ⟨Lc50, hQ50, l50, y50, z50⟩, st50⟩ := X49.virtualBack hx (y := (⟨"com/example/lone1/lone1/solve/SweepOrder", "hasNext", "()Z"⟩ : MethodName)) (z := (⟨"com/example/lone1/lone1/solve/SweepOrder", "hasNext", "()Z"⟩ : MethodName)) hown (mvT hZ w_21) (mvT hZ w_22) (notFace_of_selects (args := #[]) (mvT hZ w_24)) (mvT hZ w_24) (mvT hZ w_23) (by decide) (backOf (W := 0) (rm5Z0n l Z a0 hw [] b42 ar kk (2 : Int32) u0 u1 u2 T49.heap n0 gZ49 gP49 Gb42 ne_b42_ar ) hZ w_25 w_10 (by decide) (by decide)) q50a q50c (g := (mkF m 277 #[.val (.long q0), .second, .val (.long q1), .second, .val (.long q2), .second, .val (.int p3), .val (.int n7), .val (.long w0), .second, .val (.long w1), .second, .val (.long w2), .second, .val (.ref ar), .val (.long u0), .second, .val (.long u1), .second, .val (.long u2), .second, .val (.int cnt), .val (.int (1 : Int32)), .val (.int (0 : Int32)), .val (.ref b42)] [(.ref b42)])) rfl (by rw [hml]; rfl) (Steps.refl _) (argsL := []) (rest := []) (lenOf pd0___Z rfl) rfl (by show 2 * 0 + _ ≤ _; exact Nat.le_of_eq rfl) (hb hby at_277) (fun _ _ => ⟨rfl, rfl, (by decide : 2 + 0 ≤ _), (by decide : 6 + 0 ≤ _)⟩)
        dsimp only [Pt.U, Pt.locs, Pt.cells, Pt.slots] at X50 l50 y50 z50 st50 hQ50
        subst l50 y50 z50
        obtain ⟨rfl, N50q, gZ50, gP50⟩ := hQ50
        have N50 := Fr.app N49 N50q
        refine bk (fun t k => st50.trans k) ?_
        refine bk (fun t k => XS.iload X50.here hx rfl (hb hby at_280) rfl k) ?_
        show F (T50.setTop (mkF m 282 #[.val (.long q0), .second, .val (.long q1), .second, .val (.long q2), .second, .val (.int p3), .val (.int n7), .val (.long w0), .second, .val (.long w1), .second, .val (.long w2), .second, .val (.ref ar), .val (.long u0), .second, .val (.long u1), .second, .val (.long u2), .second, .val (.int cnt), .val (.int (1 : Int32)), .val (.int (0 : Int32)), .val (.ref b42)] [(.int (0 : Int32)), (.int (0 : Int32))]))
        refine bk (fun t k => XS.icmpNo X50.here hx rfl (hb hby at_282) rfl (teq (by decide : (0 : Int32) = (0 : Int32))).2 k) ?_
        refine bk (fun t k => XS.iconst X50.here hx rfl (hb hby at_285) k) ?_
        refine bk (fun t k => XS.goto X50.here hx rfl (pc0 := 286) (pc' := 290) rfl (hb hby at_286) (by decide) (by decide) k) ?_
        show F (T50.setTop (mkF m 290 #[.val (.long q0), .second, .val (.long q1), .second, .val (.long q2), .second, .val (.int p3), .val (.int n7), .val (.long w0), .second, .val (.long w1), .second, .val (.long w2), .second, .val (.ref ar), .val (.long u0), .second, .val (.long u1), .second, .val (.long u2), .second, .val (.int cnt), .val (.int (1 : Int32)), .val (.int (0 : Int32)), .val (.ref b42)] [(.int (1 : Int32))]))
        rw [hF]
        refine own_retZ X50 hx Bd.notSynchronized Bd.returns (hb hby at_290) (by decide) (by decide) ?_
        exact ⟨rfl, N50⟩
      · obtain rfl : any = (1 : Int32) := hany.trans (by subst hcnt; simp +decide [own_anyc, own_cnt, own_b, hz2, hc9201_33, hc9200_34, hc9100_41])
        obtain rfl : two = (1 : Int32) := htwo.trans (by subst hcnt; simp +decide [own_two, own_cnt, own_b, own_mb0, hz2, hc9201_33, hc9200_34, hc9100_41, own_clr_mbn hc9200_34 hc9100_41])
        show F (TJ.setTop (mkF m 213 #[.val (.long q0), .second, .val (.long q1), .second, .val (.long q2), .second, .val (.int p3), .val (.int n7), .val (.long w0), .second, .val (.long w1), .second, .val (.long w2), .second, .val (.ref ar), .val (.long u0), .second, .val (.long u1), .second, .val (.long u2), .second, .val (.int cnt), .val (.int (1 : Int32)), .unset, .unset] [(.int (1 : Int32))]))
        refine bk (fun t k => XS.istore XJ.here hx rfl (hb hby at_213) rfl (l' := #[.val (.long q0), .second, .val (.long q1), .second, .val (.long q2), .second, .val (.int p3), .val (.int n7), .val (.long w0), .second, .val (.long w1), .second, .val (.long w2), .second, .val (.ref ar), .val (.long u0), .second, .val (.long u1), .second, .val (.long u2), .second, .val (.int cnt), .val (.int (1 : Int32)), .val (.int (1 : Int32)), .unset]) rfl k) ?_
        show F (TJ.setTop (mkF m 215 #[.val (.long q0), .second, .val (.long q1), .second, .val (.long q2), .second, .val (.int p3), .val (.int n7), .val (.long w0), .second, .val (.long w1), .second, .val (.long w2), .second, .val (.ref ar), .val (.long u0), .second, .val (.long u1), .second, .val (.long u2), .second, .val (.int cnt), .val (.int (1 : Int32)), .val (.int (1 : Int32)), .unset] []))
        obtain ⟨T51, h51, X51, e51, E51, A51, D51, -, st51⟩ := newO XJ hx hZ hown w_8 w_9 w_10 eJ (g := (mkF m 215 #[.val (.long q0), .second, .val (.long q1), .second, .val (.long q2), .second, .val (.int p3), .val (.int n7), .val (.long w0), .second, .val (.long w1), .second, .val (.long w2), .second, .val (.ref ar), .val (.long u0), .second, .val (.long u1), .second, .val (.long u2), .second, .val (.int cnt), .val (.int (1 : Int32)), .val (.int (1 : Int32)), .unset] [])) rfl (hb hby at_215) (by decide) (by decide)
        obtain ⟨b51, g51⟩ : ∃ z, z = hJ.size := ⟨_, rfl⟩
        rw [← g51] at A51 D51 st51
        have Gb51 : n0 ≤ b51 := Nat.le_trans jZ (Nat.le_of_eq g51.symm)
        have ne_ar_b51 : ar ≠ b51 := Nat.ne_of_lt (Nat.lt_of_lt_of_le jV.lt (Nat.le_of_eq g51.symm))
        have f52 := Nat.le_trans jZ E51.1
        have f53 := jV.ext E51
        have F_words_b51 : Fld Z h51 b51 "com/example/lone1/lone1/solve/SweepOrder" "words" "[J" .null := D51 (Or.inr w_18) (ty := (.array .long)) (by decide)
        have F_at_b51 : Fld Z h51 b51 "com/example/lone1/lone1/solve/SweepOrder" "at" "I" (.int (0 : Int32)) := D51 (Or.inl w_20) (ty := .int) (by decide)
        have F_word_b51 : Fld Z h51 b51 "com/example/lone1/lone1/solve/SweepOrder" "word" "J" (.long (0 : Int64)) := D51 (Or.inl w_27) (ty := .long) (by decide)
        refine bk (fun t k => st51 t k) ?_
        refine bk (fun t k => XS.dup X51.here hx rfl (hb hby at_218) rfl rfl k) ?_
        refine bk (fun t k => XS.aload X51.here hx rfl (hb hby at_219) rfl rfl k) ?_
        show F (T51.setTop (mkF m 221 #[.val (.long q0), .second, .val (.long q1), .second, .val (.long q2), .second, .val (.int p3), .val (.int n7), .val (.long w0), .second, .val (.long w1), .second, .val (.long w2), .second, .val (.ref ar), .val (.long u0), .second, .val (.long u1), .second, .val (.long u2), .second, .val (.int cnt), .val (.int (1 : Int32)), .val (.int (1 : Int32)), .unset] [(.ref ar), (.ref b51), (.ref b51)]))
        obtain ⟨_, _, ⟨T54, L54, k54, n54⟩, -, X54, ⟨Lc54, hQ54, l54, y54, z54⟩, st54⟩ := X51.specialBack hx (y := (⟨"com/example/lone1/lone1/solve/SweepOrder", "<init>", "([J)V"⟩ : MethodName)) rfl hown (mvT hZ w_11) (mvT hZ w_12) (mvT hZ w_13) (by decide) (backOf (W := 1) (rm3 l Z a0 hw [] b51 ar kk (2 : Int32) u0 u1 u2 h51 n0 f52 A51 F_words_b51 F_at_b51 F_word_b51 f53 Gb51 (Ne.symm ne_ar_b51)) hZ w_13 w_10 (by decide) (by decide)) (g := (mkF m 221 #[.val (.long q0), .second, .val (.long q1), .second, .val (.long q2), .second, .val (.int p3), .val (.int n7), .val (.long w0), .second, .val (.long w1), .second, .val (.long w2), .second, .val (.ref ar), .val (.long u0), .second, .val (.long u1), .second, .val (.long u2), .second, .val (.int cnt), .val (.int (1 : Int32)), .val (.int (1 : Int32)), .unset] [(.ref ar), (.ref b51), (.ref b51)])) rfl (by rw [hml]; rfl) (Steps.refl _) (a := b51) (argsL := [(.ref ar)]) (rest := [(.ref b51)]) (lenOf pd0___J_V rfl) rfl (by show 2 * 0 + _ ≤ _; exact Nat.le_of_eq rfl) (hb hby at_221) (fun _ _ => ⟨rfl, e51, (by decide : 2 + 0 ≤ _), (by decide : 6 + 0 ≤ _)⟩)
        dsimp only [Pt.U, Pt.locs, Pt.cells, Pt.slots] at X54 l54 y54 z54 st54 hQ54
        subst l54 y54 z54
        obtain ⟨rfl, N54q, gZ54, gP54⟩ := hQ54
        have N54 := Fr.app NJ N54q
        have ne_b51_ar : b51 ≠ ar := (Ne.symm ne_ar_b51)
        refine bk (fun t k => st54.trans k) ?_
        show F (T54.setTop (mkF m 224 #[.val (.long q0), .second, .val (.long q1), .second, .val (.long q2), .second, .val (.int p3), .val (.int n7), .val (.long w0), .second, .val (.long w1), .second, .val (.long w2), .second, .val (.ref ar), .val (.long u0), .second, .val (.long u1), .second, .val (.long u2), .second, .val (.int cnt), .val (.int (1 : Int32)), .val (.int (1 : Int32)), .unset] [(.ref b51)]))
        refine bk (fun t k => XS.astore X54.here hx rfl (hb hby at_224) rfl rfl (l' := #[.val (.long q0), .second, .val (.long q1), .second, .val (.long q2), .second, .val (.int p3), .val (.int n7), .val (.long w0), .second, .val (.long w1), .second, .val (.long w2), .second, .val (.ref ar), .val (.long u0), .second, .val (.long u1), .second, .val (.long u2), .second, .val (.int cnt), .val (.int (1 : Int32)), .val (.int (1 : Int32)), .val (.ref b51)]) rfl k) ?_
        refine bk (fun t k => XS.aload X54.here hx rfl (hb hby at_226) rfl rfl k) ?_
        show F (T54.setTop (mkF m 228 #[.val (.long q0), .second, .val (.long q1), .second, .val (.long q2), .second, .val (.int p3), .val (.int n7), .val (.long w0), .second, .val (.long w1), .second, .val (.long w2), .second, .val (.ref ar), .val (.long u0), .second, .val (.long u1), .second, .val (.long u2), .second, .val (.int cnt), .val (.int (1 : Int32)), .val (.int (1 : Int32)), .val (.ref b51)] [(.ref b51)]))
        obtain ⟨cq55, kq55, q55a, q55b, q55c⟩ := isOf hZ rfl (gP54.1)
        obtain ⟨_, _, ⟨T55, L55, k55, n55⟩, -, X55, ⟨Lc55, hQ55, l55, y55, z55⟩, st55⟩ := X54.virtualBack hx (y := (⟨"com/example/lone1/lone1/solve/SweepOrder", "hasNext", "()Z"⟩ : MethodName)) (z := (⟨"com/example/lone1/lone1/solve/SweepOrder", "hasNext", "()Z"⟩ : MethodName)) hown (mvT hZ w_21) (mvT hZ w_22) (notFace_of_selects (args := #[]) (mvT hZ w_24)) (mvT hZ w_24) (mvT hZ w_23) (by decide) (backOf (W := 0) (rm5Z20 l Z a0 hw [] b51 ar kk (2 : Int32) u0 u1 u2 T54.heap n0 gZ54 gP54 Gb51 ne_b51_ar (by decide) (by decide) hc9201_33 hc9200_34) hZ w_25 w_10 (by decide) (by decide)) q55a q55c (g := (mkF m 228 #[.val (.long q0), .second, .val (.long q1), .second, .val (.long q2), .second, .val (.int p3), .val (.int n7), .val (.long w0), .second, .val (.long w1), .second, .val (.long w2), .second, .val (.ref ar), .val (.long u0), .second, .val (.long u1), .second, .val (.long u2), .second, .val (.int cnt), .val (.int (1 : Int32)), .val (.int (1 : Int32)), .val (.ref b51)] [(.ref b51)])) rfl (by rw [hml]; rfl) (Steps.refl _) (argsL := []) (rest := []) (lenOf pd0___Z rfl) rfl (by show 2 * 0 + _ ≤ _; exact Nat.le_of_eq rfl) (hb hby at_228) (fun _ _ => ⟨rfl, rfl, (by decide : 2 + 0 ≤ _), (by decide : 6 + 0 ≤ _)⟩)
        dsimp only [Pt.U, Pt.locs, Pt.cells, Pt.slots] at X55 l55 y55 z55 st55 hQ55
        subst l55 y55 z55
        obtain ⟨rfl, N55q, gZ55, gP55⟩ := hQ55
        have N55 := Fr.app N54 N55q
        refine bk (fun t k => st55.trans k) ?_
        refine bk (fun t k => XS.iload X55.here hx rfl (hb hby at_231) rfl k) ?_
        show F (T55.setTop (mkF m 233 #[.val (.long q0), .second, .val (.long q1), .second, .val (.long q2), .second, .val (.int p3), .val (.int n7), .val (.long w0), .second, .val (.long w1), .second, .val (.long w2), .second, .val (.ref ar), .val (.long u0), .second, .val (.long u1), .second, .val (.long u2), .second, .val (.int cnt), .val (.int (1 : Int32)), .val (.int (1 : Int32)), .val (.ref b51)] [(.int (1 : Int32)), (.int (1 : Int32))]))
        refine bk (fun t k => XS.icmpYes X55.here hx rfl (pc0 := 233) (pc' := 238) rfl (hb hby at_233) rfl (teq (by decide : (1 : Int32) = (1 : Int32))).1 (by decide) (by decide) k) ?_
        refine bk (fun t k => XS.aload X55.here hx rfl (hb hby at_238) rfl rfl k) ?_
        show F (T55.setTop (mkF m 240 #[.val (.long q0), .second, .val (.long q1), .second, .val (.long q2), .second, .val (.int p3), .val (.int n7), .val (.long w0), .second, .val (.long w1), .second, .val (.long w2), .second, .val (.ref ar), .val (.long u0), .second, .val (.long u1), .second, .val (.long u2), .second, .val (.int cnt), .val (.int (1 : Int32)), .val (.int (1 : Int32)), .val (.ref b51)] [(.ref b51)]))
        obtain ⟨cq56, kq56, q56a, q56b, q56c⟩ := isOf hZ rfl (gP55.1)
        obtain ⟨_, _, ⟨T56, L56, k56, n56⟩, -, X56, ⟨Lc56, hQ56, l56, y56, z56⟩, st56⟩ := X55.virtualBack hx (y := (⟨"com/example/lone1/lone1/solve/SweepOrder", "hasNext", "()Z"⟩ : MethodName)) (z := (⟨"com/example/lone1/lone1/solve/SweepOrder", "hasNext", "()Z"⟩ : MethodName)) hown (mvT hZ w_21) (mvT hZ w_22) (notFace_of_selects (args := #[]) (mvT hZ w_24)) (mvT hZ w_24) (mvT hZ w_23) (by decide) (backOf (W := 0) (rm5N l Z a0 hw [] b51 u0 T55.heap n0 gZ55 gP55.2.2.2.1 hc9200_34) hZ w_25 w_10 (by decide) (by decide)) q56a q56c (g := (mkF m 240 #[.val (.long q0), .second, .val (.long q1), .second, .val (.long q2), .second, .val (.int p3), .val (.int n7), .val (.long w0), .second, .val (.long w1), .second, .val (.long w2), .second, .val (.ref ar), .val (.long u0), .second, .val (.long u1), .second, .val (.long u2), .second, .val (.int cnt), .val (.int (1 : Int32)), .val (.int (1 : Int32)), .val (.ref b51)] [(.ref b51)])) rfl (by rw [hml]; rfl) (Steps.refl _) (argsL := []) (rest := []) (lenOf pd0___Z rfl) rfl (by show 2 * 0 + _ ≤ _; exact Nat.le_of_eq rfl) (hb hby at_240) (fun _ _ => ⟨rfl, rfl, (by decide : 2 + 0 ≤ _), (by decide : 6 + 0 ≤ _)⟩)
        dsimp only [Pt.U, Pt.locs, Pt.cells, Pt.slots] at X56 l56 y56 z56 st56 hQ56
        subst l56 y56 z56
        obtain ⟨rfl, N56q, e56⟩ := hQ56
        have N56 := Fr.app N55 N56q
        refine bk (fun t k => st56.trans k) ?_
        refine bk (fun t k => XS.iload X56.here hx rfl (hb hby at_243) rfl k) ?_
        show F (T56.setTop (mkF m 245 #[.val (.long q0), .second, .val (.long q1), .second, .val (.long q2), .second, .val (.int p3), .val (.int n7), .val (.long w0), .second, .val (.long w1), .second, .val (.long w2), .second, .val (.ref ar), .val (.long u0), .second, .val (.long u1), .second, .val (.long u2), .second, .val (.int cnt), .val (.int (1 : Int32)), .val (.int (1 : Int32)), .val (.ref b51)] [(.int (1 : Int32)), (.int (1 : Int32))]))
        refine bk (fun t k => XS.icmpYes X56.here hx rfl (pc0 := 245) (pc' := 250) rfl (hb hby at_245) rfl (teq (by decide : (1 : Int32) = (1 : Int32))).1 (by decide) (by decide) k) ?_
        refine bk (fun t k => XS.iload X56.here hx rfl (hb hby at_250) rfl k) ?_
        show F (T56.setTop (mkF m 252 #[.val (.long q0), .second, .val (.long q1), .second, .val (.long q2), .second, .val (.int p3), .val (.int n7), .val (.long w0), .second, .val (.long w1), .second, .val (.long w2), .second, .val (.ref ar), .val (.long u0), .second, .val (.long u1), .second, .val (.long u2), .second, .val (.int cnt), .val (.int (1 : Int32)), .val (.int (1 : Int32)), .val (.ref b51)] [(.int (1 : Int32))]))
        refine bk (fun t k => XS.ifYes X56.here hx rfl (pc0 := 252) (pc' := 257) rfl (hb hby at_252) rfl ((if0 _ _).trans (feq (by decide : ¬ ((1 : Int32) = (0 : Int32)))).2) (by decide) (by decide) k) ?_
        refine bk (fun t k => XS.aload X56.here hx rfl (hb hby at_257) rfl rfl k) ?_
        show F (T56.setTop (mkF m 259 #[.val (.long q0), .second, .val (.long q1), .second, .val (.long q2), .second, .val (.int p3), .val (.int n7), .val (.long w0), .second, .val (.long w1), .second, .val (.long w2), .second, .val (.ref ar), .val (.long u0), .second, .val (.long u1), .second, .val (.long u2), .second, .val (.int cnt), .val (.int (1 : Int32)), .val (.int (1 : Int32)), .val (.ref b51)] [(.ref b51)]))
        obtain ⟨cq57, kq57, q57a, q57b, q57c⟩ := isOf hZ e56 (gP55.1)
        obtain ⟨_, _, ⟨T57, L57, k57, n57⟩, -, X57, ⟨Lc57, hQ57, l57, y57, z57⟩, st57⟩ := X56.virtualBack hx (y := (⟨"com/example/lone1/lone1/solve/SweepOrder", "next", "()I"⟩ : MethodName)) (z := (⟨"com/example/lone1/lone1/solve/SweepOrder", "next", "()I"⟩ : MethodName)) hown (mvT hZ w_29) (mvT hZ w_30) (notFace_of_selects (args := #[]) (mvT hZ w_32)) (mvT hZ w_32) (mvT hZ w_31) (by decide) (backOf (W := 0) (rm6 l Z a0 hw [] b51 ar kk (2 : Int32) (0 : Int32) u0 u0 u1 u2 T55.heap n0 gZ55 gP55 Gb51 ne_b51_ar hc9200_34) hZ w_33 w_10 (by decide) (by decide)) q57a q57c (g := (mkF m 259 #[.val (.long q0), .second, .val (.long q1), .second, .val (.long q2), .second, .val (.int p3), .val (.int n7), .val (.long w0), .second, .val (.long w1), .second, .val (.long w2), .second, .val (.ref ar), .val (.long u0), .second, .val (.long u1), .second, .val (.long u2), .second, .val (.int cnt), .val (.int (1 : Int32)), .val (.int (1 : Int32)), .val (.ref b51)] [(.ref b51)])) rfl (by rw [hml]; rfl) (Steps.refl _) (argsL := []) (rest := []) (lenOf pd0___I rfl) rfl (by show 2 * 0 + _ ≤ _; exact Nat.le_of_eq rfl) (hb hby at_259) (fun _ _ => ⟨rfl, e56, (by decide : 2 + 0 ≤ _), (by decide : 6 + 0 ≤ _)⟩)
        dsimp only [Pt.U, Pt.locs, Pt.cells, Pt.slots] at X57 l57 y57 z57 st57 hQ57
        subst l57 y57 z57
        obtain ⟨rfl, N57q, gZ57, gP57⟩ := hQ57
        have N57 := Fr.app N56 N57q
        refine bk (fun t k => st57.trans k) ?_
        refine bk (fun t k => XS.pop X57.here hx rfl (hb hby at_262) rfl rfl k) ?_
        refine bk (fun t k => XS.aload X57.here hx rfl (hb hby at_263) rfl rfl k) ?_
        show F (T57.setTop (mkF m 265 #[.val (.long q0), .second, .val (.long q1), .second, .val (.long q2), .second, .val (.int p3), .val (.int n7), .val (.long w0), .second, .val (.long w1), .second, .val (.long w2), .second, .val (.ref ar), .val (.long u0), .second, .val (.long u1), .second, .val (.long u2), .second, .val (.int cnt), .val (.int (1 : Int32)), .val (.int (1 : Int32)), .val (.ref b51)] [(.ref b51)]))
        obtain ⟨cq58, kq58, q58a, q58b, q58c⟩ := isOf hZ rfl (gP57.1)
        obtain ⟨_, _, ⟨T58, L58, k58, n58⟩, -, X58, ⟨Lc58, hQ58, l58, y58, z58⟩, st58⟩ := X57.virtualBack hx (y := (⟨"com/example/lone1/lone1/solve/SweepOrder", "hasNext", "()Z"⟩ : MethodName)) (z := (⟨"com/example/lone1/lone1/solve/SweepOrder", "hasNext", "()Z"⟩ : MethodName)) hown (mvT hZ w_21) (mvT hZ w_22) (notFace_of_selects (args := #[]) (mvT hZ w_24)) (mvT hZ w_24) (mvT hZ w_23) (by decide) (backOf (W := 0) (rm5N l Z a0 hw [] b51 (own_clr u0) T57.heap n0 gZ57 gP57.2.2.2.1 hc9100_41) hZ w_25 w_10 (by decide) (by decide)) q58a q58c (g := (mkF m 265 #[.val (.long q0), .second, .val (.long q1), .second, .val (.long q2), .second, .val (.int p3), .val (.int n7), .val (.long w0), .second, .val (.long w1), .second, .val (.long w2), .second, .val (.ref ar), .val (.long u0), .second, .val (.long u1), .second, .val (.long u2), .second, .val (.int cnt), .val (.int (1 : Int32)), .val (.int (1 : Int32)), .val (.ref b51)] [(.ref b51)])) rfl (by rw [hml]; rfl) (Steps.refl _) (argsL := []) (rest := []) (lenOf pd0___Z rfl) rfl (by show 2 * 0 + _ ≤ _; exact Nat.le_of_eq rfl) (hb hby at_265) (fun _ _ => ⟨rfl, rfl, (by decide : 2 + 0 ≤ _), (by decide : 6 + 0 ≤ _)⟩)
        dsimp only [Pt.U, Pt.locs, Pt.cells, Pt.slots] at X58 l58 y58 z58 st58 hQ58
        subst l58 y58 z58
        obtain ⟨rfl, N58q, e58⟩ := hQ58
        have N58 := Fr.app N57 N58q
        refine bk (fun t k => st58.trans k) ?_
        refine bk (fun t k => XS.iload X58.here hx rfl (hb hby at_268) rfl k) ?_
        show F (T58.setTop (mkF m 270 #[.val (.long q0), .second, .val (.long q1), .second, .val (.long q2), .second, .val (.int p3), .val (.int n7), .val (.long w0), .second, .val (.long w1), .second, .val (.long w2), .second, .val (.ref ar), .val (.long u0), .second, .val (.long u1), .second, .val (.long u2), .second, .val (.int cnt), .val (.int (1 : Int32)), .val (.int (1 : Int32)), .val (.ref b51)] [(.int (1 : Int32)), (.int (1 : Int32))]))
        refine bk (fun t k => XS.icmpYes X58.here hx rfl (pc0 := 270) (pc' := 275) rfl (hb hby at_270) rfl (teq (by decide : (1 : Int32) = (1 : Int32))).1 (by decide) (by decide) k) ?_
        refine bk (fun t k => XS.aload X58.here hx rfl (hb hby at_275) rfl rfl k) ?_
        show F (T58.setTop (mkF m 277 #[.val (.long q0), .second, .val (.long q1), .second, .val (.long q2), .second, .val (.int p3), .val (.int n7), .val (.long w0), .second, .val (.long w1), .second, .val (.long w2), .second, .val (.ref ar), .val (.long u0), .second, .val (.long u1), .second, .val (.long u2), .second, .val (.int cnt), .val (.int (1 : Int32)), .val (.int (1 : Int32)), .val (.ref b51)] [(.ref b51)]))
        obtain ⟨cq59, kq59, q59a, q59b, q59c⟩ := isOf hZ e58 (gP57.1)
        obtain ⟨_, _, ⟨T59, L59, k59, n59⟩, -, X59, ⟨Lc59, hQ59, l59, y59, z59⟩, st59⟩ := X58.virtualBack hx (y := (⟨"com/example/lone1/lone1/solve/SweepOrder", "hasNext", "()Z"⟩ : MethodName)) (z := (⟨"com/example/lone1/lone1/solve/SweepOrder", "hasNext", "()Z"⟩ : MethodName)) hown (mvT hZ w_21) (mvT hZ w_22) (notFace_of_selects (args := #[]) (mvT hZ w_24)) (mvT hZ w_24) (mvT hZ w_23) (by decide) (backOf (W := 0) (rm5N l Z a0 hw [] b51 (own_clr u0) T57.heap n0 gZ57 gP57.2.2.2.1 hc9100_41) hZ w_25 w_10 (by decide) (by decide)) q59a q59c (g := (mkF m 277 #[.val (.long q0), .second, .val (.long q1), .second, .val (.long q2), .second, .val (.int p3), .val (.int n7), .val (.long w0), .second, .val (.long w1), .second, .val (.long w2), .second, .val (.ref ar), .val (.long u0), .second, .val (.long u1), .second, .val (.long u2), .second, .val (.int cnt), .val (.int (1 : Int32)), .val (.int (1 : Int32)), .val (.ref b51)] [(.ref b51)])) rfl (by rw [hml]; rfl) (Steps.refl _) (argsL := []) (rest := []) (lenOf pd0___Z rfl) rfl (by show 2 * 0 + _ ≤ _; exact Nat.le_of_eq rfl) (hb hby at_277) (fun _ _ => ⟨rfl, e58, (by decide : 2 + 0 ≤ _), (by decide : 6 + 0 ≤ _)⟩)
        dsimp only [Pt.U, Pt.locs, Pt.cells, Pt.slots] at X59 l59 y59 z59 st59 hQ59
        subst l59 y59 z59
        obtain ⟨rfl, N59q, e59⟩ := hQ59
        have N59 := Fr.app N58 N59q
        refine bk (fun t k => st59.trans k) ?_
        refine bk (fun t k => XS.iload X59.here hx rfl (hb hby at_280) rfl k) ?_
        show F (T59.setTop (mkF m 282 #[.val (.long q0), .second, .val (.long q1), .second, .val (.long q2), .second, .val (.int p3), .val (.int n7), .val (.long w0), .second, .val (.long w1), .second, .val (.long w2), .second, .val (.ref ar), .val (.long u0), .second, .val (.long u1), .second, .val (.long u2), .second, .val (.int cnt), .val (.int (1 : Int32)), .val (.int (1 : Int32)), .val (.ref b51)] [(.int (1 : Int32)), (.int (1 : Int32))]))
        refine bk (fun t k => XS.icmpNo X59.here hx rfl (hb hby at_282) rfl (teq (by decide : (1 : Int32) = (1 : Int32))).2 k) ?_
        refine bk (fun t k => XS.iconst X59.here hx rfl (hb hby at_285) k) ?_
        refine bk (fun t k => XS.goto X59.here hx rfl (pc0 := 286) (pc' := 290) rfl (hb hby at_286) (by decide) (by decide) k) ?_
        show F (T59.setTop (mkF m 290 #[.val (.long q0), .second, .val (.long q1), .second, .val (.long q2), .second, .val (.int p3), .val (.int n7), .val (.long w0), .second, .val (.long w1), .second, .val (.long w2), .second, .val (.ref ar), .val (.long u0), .second, .val (.long u1), .second, .val (.long u2), .second, .val (.int cnt), .val (.int (1 : Int32)), .val (.int (1 : Int32)), .val (.ref b51)] [(.int (1 : Int32))]))
        rw [hF]
        refine own_retZ X59 hx Bd.notSynchronized Bd.returns (hb hby at_290) (by decide) (by decide) ?_
        rw [e59]
        exact ⟨rfl, N59⟩
  · by_cases hc9101_60 : (own_clr u1) = (0 : Int64)
    · by_cases hc9000_61 : u0 = (0 : Int64)
      · obtain rfl : any = (1 : Int32) := hany.trans (by subst hcnt; simp +decide [own_anyc, own_cnt, own_b, hz2, hc9201_33, hc9101_60, hc9000_61])
        obtain rfl : two = (0 : Int32) := htwo.trans (by subst hcnt; simp +decide [own_two, own_cnt, own_b, own_mb0, hz2, hc9201_33, hc9101_60, hc9000_61, own_clr_mb hc9201_33 hc9101_60])
        show F (TJ.setTop (mkF m 213 #[.val (.long q0), .second, .val (.long q1), .second, .val (.long q2), .second, .val (.int p3), .val (.int n7), .val (.long w0), .second, .val (.long w1), .second, .val (.long w2), .second, .val (.ref ar), .val (.long u0), .second, .val (.long u1), .second, .val (.long u2), .second, .val (.int cnt), .val (.int (1 : Int32)), .unset, .unset] [(.int (0 : Int32))]))
        refine bk (fun t k => XS.istore XJ.here hx rfl (hb hby at_213) rfl (l' := #[.val (.long q0), .second, .val (.long q1), .second, .val (.long q2), .second, .val (.int p3), .val (.int n7), .val (.long w0), .second, .val (.long w1), .second, .val (.long w2), .second, .val (.ref ar), .val (.long u0), .second, .val (.long u1), .second, .val (.long u2), .second, .val (.int cnt), .val (.int (1 : Int32)), .val (.int (0 : Int32)), .unset]) rfl k) ?_
        show F (TJ.setTop (mkF m 215 #[.val (.long q0), .second, .val (.long q1), .second, .val (.long q2), .second, .val (.int p3), .val (.int n7), .val (.long w0), .second, .val (.long w1), .second, .val (.long w2), .second, .val (.ref ar), .val (.long u0), .second, .val (.long u1), .second, .val (.long u2), .second, .val (.int cnt), .val (.int (1 : Int32)), .val (.int (0 : Int32)), .unset] []))
        obtain ⟨T62, h62, X62, e62, E62, A62, D62, -, st62⟩ := newO XJ hx hZ hown w_8 w_9 w_10 eJ (g := (mkF m 215 #[.val (.long q0), .second, .val (.long q1), .second, .val (.long q2), .second, .val (.int p3), .val (.int n7), .val (.long w0), .second, .val (.long w1), .second, .val (.long w2), .second, .val (.ref ar), .val (.long u0), .second, .val (.long u1), .second, .val (.long u2), .second, .val (.int cnt), .val (.int (1 : Int32)), .val (.int (0 : Int32)), .unset] [])) rfl (hb hby at_215) (by decide) (by decide)
        obtain ⟨b62, g62⟩ : ∃ z, z = hJ.size := ⟨_, rfl⟩
        rw [← g62] at A62 D62 st62
        have Gb62 : n0 ≤ b62 := Nat.le_trans jZ (Nat.le_of_eq g62.symm)
        have ne_ar_b62 : ar ≠ b62 := Nat.ne_of_lt (Nat.lt_of_lt_of_le jV.lt (Nat.le_of_eq g62.symm))
        have f63 := Nat.le_trans jZ E62.1
        have f64 := jV.ext E62
        have F_words_b62 : Fld Z h62 b62 "com/example/lone1/lone1/solve/SweepOrder" "words" "[J" .null := D62 (Or.inr w_18) (ty := (.array .long)) (by decide)
        have F_at_b62 : Fld Z h62 b62 "com/example/lone1/lone1/solve/SweepOrder" "at" "I" (.int (0 : Int32)) := D62 (Or.inl w_20) (ty := .int) (by decide)
        have F_word_b62 : Fld Z h62 b62 "com/example/lone1/lone1/solve/SweepOrder" "word" "J" (.long (0 : Int64)) := D62 (Or.inl w_27) (ty := .long) (by decide)
        refine bk (fun t k => st62 t k) ?_
        refine bk (fun t k => XS.dup X62.here hx rfl (hb hby at_218) rfl rfl k) ?_
        refine bk (fun t k => XS.aload X62.here hx rfl (hb hby at_219) rfl rfl k) ?_
        show F (T62.setTop (mkF m 221 #[.val (.long q0), .second, .val (.long q1), .second, .val (.long q2), .second, .val (.int p3), .val (.int n7), .val (.long w0), .second, .val (.long w1), .second, .val (.long w2), .second, .val (.ref ar), .val (.long u0), .second, .val (.long u1), .second, .val (.long u2), .second, .val (.int cnt), .val (.int (1 : Int32)), .val (.int (0 : Int32)), .unset] [(.ref ar), (.ref b62), (.ref b62)]))
        obtain ⟨_, _, ⟨T65, L65, k65, n65⟩, -, X65, ⟨Lc65, hQ65, l65, y65, z65⟩, st65⟩ := X62.specialBack hx (y := (⟨"com/example/lone1/lone1/solve/SweepOrder", "<init>", "([J)V"⟩ : MethodName)) rfl hown (mvT hZ w_11) (mvT hZ w_12) (mvT hZ w_13) (by decide) (backOf (W := 1) (rm3 l Z a0 hw [] b62 ar kk (2 : Int32) u0 u1 u2 h62 n0 f63 A62 F_words_b62 F_at_b62 F_word_b62 f64 Gb62 (Ne.symm ne_ar_b62)) hZ w_13 w_10 (by decide) (by decide)) (g := (mkF m 221 #[.val (.long q0), .second, .val (.long q1), .second, .val (.long q2), .second, .val (.int p3), .val (.int n7), .val (.long w0), .second, .val (.long w1), .second, .val (.long w2), .second, .val (.ref ar), .val (.long u0), .second, .val (.long u1), .second, .val (.long u2), .second, .val (.int cnt), .val (.int (1 : Int32)), .val (.int (0 : Int32)), .unset] [(.ref ar), (.ref b62), (.ref b62)])) rfl (by rw [hml]; rfl) (Steps.refl _) (a := b62) (argsL := [(.ref ar)]) (rest := [(.ref b62)]) (lenOf pd0___J_V rfl) rfl (by show 2 * 0 + _ ≤ _; exact Nat.le_of_eq rfl) (hb hby at_221) (fun _ _ => ⟨rfl, e62, (by decide : 2 + 0 ≤ _), (by decide : 6 + 0 ≤ _)⟩)
        dsimp only [Pt.U, Pt.locs, Pt.cells, Pt.slots] at X65 l65 y65 z65 st65 hQ65
        subst l65 y65 z65
        obtain ⟨rfl, N65q, gZ65, gP65⟩ := hQ65
        have N65 := Fr.app NJ N65q
        have ne_b62_ar : b62 ≠ ar := (Ne.symm ne_ar_b62)
        refine bk (fun t k => st65.trans k) ?_
        show F (T65.setTop (mkF m 224 #[.val (.long q0), .second, .val (.long q1), .second, .val (.long q2), .second, .val (.int p3), .val (.int n7), .val (.long w0), .second, .val (.long w1), .second, .val (.long w2), .second, .val (.ref ar), .val (.long u0), .second, .val (.long u1), .second, .val (.long u2), .second, .val (.int cnt), .val (.int (1 : Int32)), .val (.int (0 : Int32)), .unset] [(.ref b62)]))
        refine bk (fun t k => XS.astore X65.here hx rfl (hb hby at_224) rfl rfl (l' := #[.val (.long q0), .second, .val (.long q1), .second, .val (.long q2), .second, .val (.int p3), .val (.int n7), .val (.long w0), .second, .val (.long w1), .second, .val (.long w2), .second, .val (.ref ar), .val (.long u0), .second, .val (.long u1), .second, .val (.long u2), .second, .val (.int cnt), .val (.int (1 : Int32)), .val (.int (0 : Int32)), .val (.ref b62)]) rfl k) ?_
        refine bk (fun t k => XS.aload X65.here hx rfl (hb hby at_226) rfl rfl k) ?_
        show F (T65.setTop (mkF m 228 #[.val (.long q0), .second, .val (.long q1), .second, .val (.long q2), .second, .val (.int p3), .val (.int n7), .val (.long w0), .second, .val (.long w1), .second, .val (.long w2), .second, .val (.ref ar), .val (.long u0), .second, .val (.long u1), .second, .val (.long u2), .second, .val (.int cnt), .val (.int (1 : Int32)), .val (.int (0 : Int32)), .val (.ref b62)] [(.ref b62)]))
        obtain ⟨cq66, kq66, q66a, q66b, q66c⟩ := isOf hZ rfl (gP65.1)
        obtain ⟨_, _, ⟨T66, L66, k66, n66⟩, -, X66, ⟨Lc66, hQ66, l66, y66, z66⟩, st66⟩ := X65.virtualBack hx (y := (⟨"com/example/lone1/lone1/solve/SweepOrder", "hasNext", "()Z"⟩ : MethodName)) (z := (⟨"com/example/lone1/lone1/solve/SweepOrder", "hasNext", "()Z"⟩ : MethodName)) hown (mvT hZ w_21) (mvT hZ w_22) (notFace_of_selects (args := #[]) (mvT hZ w_24)) (mvT hZ w_24) (mvT hZ w_23) (by decide) (backOf (W := 0) (rm5Z21 l Z a0 hw [] b62 ar kk (2 : Int32) u0 u1 u2 T65.heap n0 gZ65 gP65 Gb62 ne_b62_ar (by decide) (by decide) hc9201_33) hZ w_25 w_10 (by decide) (by decide)) q66a q66c (g := (mkF m 228 #[.val (.long q0), .second, .val (.long q1), .second, .val (.long q2), .second, .val (.int p3), .val (.int n7), .val (.long w0), .second, .val (.long w1), .second, .val (.long w2), .second, .val (.ref ar), .val (.long u0), .second, .val (.long u1), .second, .val (.long u2), .second, .val (.int cnt), .val (.int (1 : Int32)), .val (.int (0 : Int32)), .val (.ref b62)] [(.ref b62)])) rfl (by rw [hml]; rfl) (Steps.refl _) (argsL := []) (rest := []) (lenOf pd0___Z rfl) rfl (by show 2 * 0 + _ ≤ _; exact Nat.le_of_eq rfl) (hb hby at_228) (fun _ _ => ⟨rfl, rfl, (by decide : 2 + 0 ≤ _), (by decide : 6 + 0 ≤ _)⟩)
        dsimp only [Pt.U, Pt.locs, Pt.cells, Pt.slots] at X66 l66 y66 z66 st66 hQ66
        subst l66 y66 z66
        obtain ⟨rfl, N66q, gZ66, gP66⟩ := hQ66
        have N66 := Fr.app N65 N66q
        refine bk (fun t k => st66.trans k) ?_
        refine bk (fun t k => XS.iload X66.here hx rfl (hb hby at_231) rfl k) ?_
        show F (T66.setTop (mkF m 233 #[.val (.long q0), .second, .val (.long q1), .second, .val (.long q2), .second, .val (.int p3), .val (.int n7), .val (.long w0), .second, .val (.long w1), .second, .val (.long w2), .second, .val (.ref ar), .val (.long u0), .second, .val (.long u1), .second, .val (.long u2), .second, .val (.int cnt), .val (.int (1 : Int32)), .val (.int (0 : Int32)), .val (.ref b62)] [(.int (1 : Int32)), (.int (1 : Int32))]))
        refine bk (fun t k => XS.icmpYes X66.here hx rfl (pc0 := 233) (pc' := 238) rfl (hb hby at_233) rfl (teq (by decide : (1 : Int32) = (1 : Int32))).1 (by decide) (by decide) k) ?_
        refine bk (fun t k => XS.aload X66.here hx rfl (hb hby at_238) rfl rfl k) ?_
        show F (T66.setTop (mkF m 240 #[.val (.long q0), .second, .val (.long q1), .second, .val (.long q2), .second, .val (.int p3), .val (.int n7), .val (.long w0), .second, .val (.long w1), .second, .val (.long w2), .second, .val (.ref ar), .val (.long u0), .second, .val (.long u1), .second, .val (.long u2), .second, .val (.int cnt), .val (.int (1 : Int32)), .val (.int (0 : Int32)), .val (.ref b62)] [(.ref b62)]))
        obtain ⟨cq67, kq67, q67a, q67b, q67c⟩ := isOf hZ rfl (gP66.1)
        obtain ⟨_, _, ⟨T67, L67, k67, n67⟩, -, X67, ⟨Lc67, hQ67, l67, y67, z67⟩, st67⟩ := X66.virtualBack hx (y := (⟨"com/example/lone1/lone1/solve/SweepOrder", "hasNext", "()Z"⟩ : MethodName)) (z := (⟨"com/example/lone1/lone1/solve/SweepOrder", "hasNext", "()Z"⟩ : MethodName)) hown (mvT hZ w_21) (mvT hZ w_22) (notFace_of_selects (args := #[]) (mvT hZ w_24)) (mvT hZ w_24) (mvT hZ w_23) (by decide) (backOf (W := 0) (rm5N l Z a0 hw [] b62 u1 T66.heap n0 gZ66 gP66.2.2.2.1 hc9201_33) hZ w_25 w_10 (by decide) (by decide)) q67a q67c (g := (mkF m 240 #[.val (.long q0), .second, .val (.long q1), .second, .val (.long q2), .second, .val (.int p3), .val (.int n7), .val (.long w0), .second, .val (.long w1), .second, .val (.long w2), .second, .val (.ref ar), .val (.long u0), .second, .val (.long u1), .second, .val (.long u2), .second, .val (.int cnt), .val (.int (1 : Int32)), .val (.int (0 : Int32)), .val (.ref b62)] [(.ref b62)])) rfl (by rw [hml]; rfl) (Steps.refl _) (argsL := []) (rest := []) (lenOf pd0___Z rfl) rfl (by show 2 * 0 + _ ≤ _; exact Nat.le_of_eq rfl) (hb hby at_240) (fun _ _ => ⟨rfl, rfl, (by decide : 2 + 0 ≤ _), (by decide : 6 + 0 ≤ _)⟩)
        dsimp only [Pt.U, Pt.locs, Pt.cells, Pt.slots] at X67 l67 y67 z67 st67 hQ67
        subst l67 y67 z67
        obtain ⟨rfl, N67q, e67⟩ := hQ67
        have N67 := Fr.app N66 N67q
        refine bk (fun t k => st67.trans k) ?_
        refine bk (fun t k => XS.iload X67.here hx rfl (hb hby at_243) rfl k) ?_
        show F (T67.setTop (mkF m 245 #[.val (.long q0), .second, .val (.long q1), .second, .val (.long q2), .second, .val (.int p3), .val (.int n7), .val (.long w0), .second, .val (.long w1), .second, .val (.long w2), .second, .val (.ref ar), .val (.long u0), .second, .val (.long u1), .second, .val (.long u2), .second, .val (.int cnt), .val (.int (1 : Int32)), .val (.int (0 : Int32)), .val (.ref b62)] [(.int (1 : Int32)), (.int (1 : Int32))]))
        refine bk (fun t k => XS.icmpYes X67.here hx rfl (pc0 := 245) (pc' := 250) rfl (hb hby at_245) rfl (teq (by decide : (1 : Int32) = (1 : Int32))).1 (by decide) (by decide) k) ?_
        refine bk (fun t k => XS.iload X67.here hx rfl (hb hby at_250) rfl k) ?_
        show F (T67.setTop (mkF m 252 #[.val (.long q0), .second, .val (.long q1), .second, .val (.long q2), .second, .val (.int p3), .val (.int n7), .val (.long w0), .second, .val (.long w1), .second, .val (.long w2), .second, .val (.ref ar), .val (.long u0), .second, .val (.long u1), .second, .val (.long u2), .second, .val (.int cnt), .val (.int (1 : Int32)), .val (.int (0 : Int32)), .val (.ref b62)] [(.int (1 : Int32))]))
        refine bk (fun t k => XS.ifYes X67.here hx rfl (pc0 := 252) (pc' := 257) rfl (hb hby at_252) rfl ((if0 _ _).trans (feq (by decide : ¬ ((1 : Int32) = (0 : Int32)))).2) (by decide) (by decide) k) ?_
        refine bk (fun t k => XS.aload X67.here hx rfl (hb hby at_257) rfl rfl k) ?_
        show F (T67.setTop (mkF m 259 #[.val (.long q0), .second, .val (.long q1), .second, .val (.long q2), .second, .val (.int p3), .val (.int n7), .val (.long w0), .second, .val (.long w1), .second, .val (.long w2), .second, .val (.ref ar), .val (.long u0), .second, .val (.long u1), .second, .val (.long u2), .second, .val (.int cnt), .val (.int (1 : Int32)), .val (.int (0 : Int32)), .val (.ref b62)] [(.ref b62)]))
        obtain ⟨cq68, kq68, q68a, q68b, q68c⟩ := isOf hZ e67 (gP66.1)
        obtain ⟨_, _, ⟨T68, L68, k68, n68⟩, -, X68, ⟨Lc68, hQ68, l68, y68, z68⟩, st68⟩ := X67.virtualBack hx (y := (⟨"com/example/lone1/lone1/solve/SweepOrder", "next", "()I"⟩ : MethodName)) (z := (⟨"com/example/lone1/lone1/solve/SweepOrder", "next", "()I"⟩ : MethodName)) hown (mvT hZ w_29) (mvT hZ w_30) (notFace_of_selects (args := #[]) (mvT hZ w_32)) (mvT hZ w_32) (mvT hZ w_31) (by decide) (backOf (W := 0) (rm6 l Z a0 hw [] b62 ar kk (2 : Int32) (1 : Int32) u1 u0 u1 u2 T66.heap n0 gZ66 gP66 Gb62 ne_b62_ar hc9201_33) hZ w_33 w_10 (by decide) (by decide)) q68a q68c (g := (mkF m 259 #[.val (.long q0), .second, .val (.long q1), .second, .val (.long q2), .second, .val (.int p3), .val (.int n7), .val (.long w0), .second, .val (.long w1), .second, .val (.long w2), .second, .val (.ref ar), .val (.long u0), .second, .val (.long u1), .second, .val (.long u2), .second, .val (.int cnt), .val (.int (1 : Int32)), .val (.int (0 : Int32)), .val (.ref b62)] [(.ref b62)])) rfl (by rw [hml]; rfl) (Steps.refl _) (argsL := []) (rest := []) (lenOf pd0___I rfl) rfl (by show 2 * 0 + _ ≤ _; exact Nat.le_of_eq rfl) (hb hby at_259) (fun _ _ => ⟨rfl, e67, (by decide : 2 + 0 ≤ _), (by decide : 6 + 0 ≤ _)⟩)
        dsimp only [Pt.U, Pt.locs, Pt.cells, Pt.slots] at X68 l68 y68 z68 st68 hQ68
        subst l68 y68 z68
        obtain ⟨rfl, N68q, gZ68, gP68⟩ := hQ68
        have N68 := Fr.app N67 N68q
        refine bk (fun t k => st68.trans k) ?_
        refine bk (fun t k => XS.pop X68.here hx rfl (hb hby at_262) rfl rfl k) ?_
        refine bk (fun t k => XS.aload X68.here hx rfl (hb hby at_263) rfl rfl k) ?_
        show F (T68.setTop (mkF m 265 #[.val (.long q0), .second, .val (.long q1), .second, .val (.long q2), .second, .val (.int p3), .val (.int n7), .val (.long w0), .second, .val (.long w1), .second, .val (.long w2), .second, .val (.ref ar), .val (.long u0), .second, .val (.long u1), .second, .val (.long u2), .second, .val (.int cnt), .val (.int (1 : Int32)), .val (.int (0 : Int32)), .val (.ref b62)] [(.ref b62)]))
        obtain ⟨cq69, kq69, q69a, q69b, q69c⟩ := isOf hZ rfl (gP68.1)
        obtain ⟨_, _, ⟨T69, L69, k69, n69⟩, -, X69, ⟨Lc69, hQ69, l69, y69, z69⟩, st69⟩ := X68.virtualBack hx (y := (⟨"com/example/lone1/lone1/solve/SweepOrder", "hasNext", "()Z"⟩ : MethodName)) (z := (⟨"com/example/lone1/lone1/solve/SweepOrder", "hasNext", "()Z"⟩ : MethodName)) hown (mvT hZ w_21) (mvT hZ w_22) (notFace_of_selects (args := #[]) (mvT hZ w_24)) (mvT hZ w_24) (mvT hZ w_23) (by decide) (backOf (W := 0) (rm5Z1n l Z a0 hw [] b62 ar kk (2 : Int32) u0 u1 u2 T68.heap n0 gZ68 (own_S0 hc9101_60 gP68) Gb62 ne_b62_ar (by decide) hc9000_61) hZ w_25 w_10 (by decide) (by decide)) q69a q69c (g := (mkF m 265 #[.val (.long q0), .second, .val (.long q1), .second, .val (.long q2), .second, .val (.int p3), .val (.int n7), .val (.long w0), .second, .val (.long w1), .second, .val (.long w2), .second, .val (.ref ar), .val (.long u0), .second, .val (.long u1), .second, .val (.long u2), .second, .val (.int cnt), .val (.int (1 : Int32)), .val (.int (0 : Int32)), .val (.ref b62)] [(.ref b62)])) rfl (by rw [hml]; rfl) (Steps.refl _) (argsL := []) (rest := []) (lenOf pd0___Z rfl) rfl (by show 2 * 0 + _ ≤ _; exact Nat.le_of_eq rfl) (hb hby at_265) (fun _ _ => ⟨rfl, rfl, (by decide : 2 + 0 ≤ _), (by decide : 6 + 0 ≤ _)⟩)
        dsimp only [Pt.U, Pt.locs, Pt.cells, Pt.slots] at X69 l69 y69 z69 st69 hQ69
        subst l69 y69 z69
        obtain ⟨rfl, N69q, gZ69, gP69⟩ := hQ69
        have N69 := Fr.app N68 N69q
        refine bk (fun t k => st69.trans k) ?_
        refine bk (fun t k => XS.iload X69.here hx rfl (hb hby at_268) rfl k) ?_
        show F (T69.setTop (mkF m 270 #[.val (.long q0), .second, .val (.long q1), .second, .val (.long q2), .second, .val (.int p3), .val (.int n7), .val (.long w0), .second, .val (.long w1), .second, .val (.long w2), .second, .val (.ref ar), .val (.long u0), .second, .val (.long u1), .second, .val (.long u2), .second, .val (.int cnt), .val (.int (1 : Int32)), .val (.int (0 : Int32)), .val (.ref b62)] [(.int (0 : Int32)), (.int (0 : Int32))]))
        refine bk (fun t k => XS.icmpYes X69.here hx rfl (pc0 := 270) (pc' := 275) rfl (hb hby at_270) rfl (teq (by decide : (0 : Int32) = (0 : Int32))).1 (by decide) (by decide) k) ?_
        refine bk (fun t k => XS.aload X69.here hx rfl (hb hby at_275) rfl rfl k) ?_
        show F (T69.setTop (mkF m 277 #[.val (.long q0), .second, .val (.long q1), .second, .val (.long q2), .second, .val (.int p3), .val (.int n7), .val (.long w0), .second, .val (.long w1), .second, .val (.long w2), .second, .val (.ref ar), .val (.long u0), .second, .val (.long u1), .second, .val (.long u2), .second, .val (.int cnt), .val (.int (1 : Int32)), .val (.int (0 : Int32)), .val (.ref b62)] [(.ref b62)]))
        obtain ⟨cq70, kq70, q70a, q70b, q70c⟩ := isOf hZ rfl (gP69.1)
        obtain ⟨_, _, ⟨T70, L70, k70, n70⟩, -, X70, ⟨Lc70, hQ70, l70, y70, z70⟩, st70⟩ := X69.virtualBack hx (y := (⟨"com/example/lone1/lone1/solve/SweepOrder", "hasNext", "()Z"⟩ : MethodName)) (z := (⟨"com/example/lone1/lone1/solve/SweepOrder", "hasNext", "()Z"⟩ : MethodName)) hown (mvT hZ w_21) (mvT hZ w_22) (notFace_of_selects (args := #[]) (mvT hZ w_24)) (mvT hZ w_24) (mvT hZ w_23) (by decide) (backOf (W := 0) (rm5Z0n l Z a0 hw [] b62 ar kk (2 : Int32) u0 u1 u2 T69.heap n0 gZ69 (own_S0 hc9000_61 gP69) Gb62 ne_b62_ar ) hZ w_25 w_10 (by decide) (by decide)) q70a q70c (g := (mkF m 277 #[.val (.long q0), .second, .val (.long q1), .second, .val (.long q2), .second, .val (.int p3), .val (.int n7), .val (.long w0), .second, .val (.long w1), .second, .val (.long w2), .second, .val (.ref ar), .val (.long u0), .second, .val (.long u1), .second, .val (.long u2), .second, .val (.int cnt), .val (.int (1 : Int32)), .val (.int (0 : Int32)), .val (.ref b62)] [(.ref b62)])) rfl (by rw [hml]; rfl) (Steps.refl _) (argsL := []) (rest := []) (lenOf pd0___Z rfl) rfl (by show 2 * 0 + _ ≤ _; exact Nat.le_of_eq rfl) (hb hby at_277) (fun _ _ => ⟨rfl, rfl, (by decide : 2 + 0 ≤ _), (by decide : 6 + 0 ≤ _)⟩)
        dsimp only [Pt.U, Pt.locs, Pt.cells, Pt.slots] at X70 l70 y70 z70 st70 hQ70
        subst l70 y70 z70
        obtain ⟨rfl, N70q, gZ70, gP70⟩ := hQ70
        have N70 := Fr.app N69 N70q
        refine bk (fun t k => st70.trans k) ?_
        refine bk (fun t k => XS.iload X70.here hx rfl (hb hby at_280) rfl k) ?_
        show F (T70.setTop (mkF m 282 #[.val (.long q0), .second, .val (.long q1), .second, .val (.long q2), .second, .val (.int p3), .val (.int n7), .val (.long w0), .second, .val (.long w1), .second, .val (.long w2), .second, .val (.ref ar), .val (.long u0), .second, .val (.long u1), .second, .val (.long u2), .second, .val (.int cnt), .val (.int (1 : Int32)), .val (.int (0 : Int32)), .val (.ref b62)] [(.int (0 : Int32)), (.int (0 : Int32))]))
        refine bk (fun t k => XS.icmpNo X70.here hx rfl (hb hby at_282) rfl (teq (by decide : (0 : Int32) = (0 : Int32))).2 k) ?_
        refine bk (fun t k => XS.iconst X70.here hx rfl (hb hby at_285) k) ?_
        refine bk (fun t k => XS.goto X70.here hx rfl (pc0 := 286) (pc' := 290) rfl (hb hby at_286) (by decide) (by decide) k) ?_
        show F (T70.setTop (mkF m 290 #[.val (.long q0), .second, .val (.long q1), .second, .val (.long q2), .second, .val (.int p3), .val (.int n7), .val (.long w0), .second, .val (.long w1), .second, .val (.long w2), .second, .val (.ref ar), .val (.long u0), .second, .val (.long u1), .second, .val (.long u2), .second, .val (.int cnt), .val (.int (1 : Int32)), .val (.int (0 : Int32)), .val (.ref b62)] [(.int (1 : Int32))]))
        rw [hF]
        refine own_retZ X70 hx Bd.notSynchronized Bd.returns (hb hby at_290) (by decide) (by decide) ?_
        exact ⟨rfl, N70⟩
      · obtain rfl : any = (1 : Int32) := hany.trans (by subst hcnt; simp +decide [own_anyc, own_cnt, own_b, hz2, hc9201_33, hc9101_60, hc9000_61])
        obtain rfl : two = (1 : Int32) := htwo.trans (by subst hcnt; simp +decide [own_two, own_cnt, own_b, own_mb0, hz2, hc9201_33, hc9101_60, hc9000_61, own_clr_mb hc9201_33 hc9101_60])
        show F (TJ.setTop (mkF m 213 #[.val (.long q0), .second, .val (.long q1), .second, .val (.long q2), .second, .val (.int p3), .val (.int n7), .val (.long w0), .second, .val (.long w1), .second, .val (.long w2), .second, .val (.ref ar), .val (.long u0), .second, .val (.long u1), .second, .val (.long u2), .second, .val (.int cnt), .val (.int (1 : Int32)), .unset, .unset] [(.int (1 : Int32))]))
        refine bk (fun t k => XS.istore XJ.here hx rfl (hb hby at_213) rfl (l' := #[.val (.long q0), .second, .val (.long q1), .second, .val (.long q2), .second, .val (.int p3), .val (.int n7), .val (.long w0), .second, .val (.long w1), .second, .val (.long w2), .second, .val (.ref ar), .val (.long u0), .second, .val (.long u1), .second, .val (.long u2), .second, .val (.int cnt), .val (.int (1 : Int32)), .val (.int (1 : Int32)), .unset]) rfl k) ?_
        show F (TJ.setTop (mkF m 215 #[.val (.long q0), .second, .val (.long q1), .second, .val (.long q2), .second, .val (.int p3), .val (.int n7), .val (.long w0), .second, .val (.long w1), .second, .val (.long w2), .second, .val (.ref ar), .val (.long u0), .second, .val (.long u1), .second, .val (.long u2), .second, .val (.int cnt), .val (.int (1 : Int32)), .val (.int (1 : Int32)), .unset] []))
        obtain ⟨T71, h71, X71, e71, E71, A71, D71, -, st71⟩ := newO XJ hx hZ hown w_8 w_9 w_10 eJ (g := (mkF m 215 #[.val (.long q0), .second, .val (.long q1), .second, .val (.long q2), .second, .val (.int p3), .val (.int n7), .val (.long w0), .second, .val (.long w1), .second, .val (.long w2), .second, .val (.ref ar), .val (.long u0), .second, .val (.long u1), .second, .val (.long u2), .second, .val (.int cnt), .val (.int (1 : Int32)), .val (.int (1 : Int32)), .unset] [])) rfl (hb hby at_215) (by decide) (by decide)
        obtain ⟨b71, g71⟩ : ∃ z, z = hJ.size := ⟨_, rfl⟩
        rw [← g71] at A71 D71 st71
        have Gb71 : n0 ≤ b71 := Nat.le_trans jZ (Nat.le_of_eq g71.symm)
        have ne_ar_b71 : ar ≠ b71 := Nat.ne_of_lt (Nat.lt_of_lt_of_le jV.lt (Nat.le_of_eq g71.symm))
        have f72 := Nat.le_trans jZ E71.1
        have f73 := jV.ext E71
        have F_words_b71 : Fld Z h71 b71 "com/example/lone1/lone1/solve/SweepOrder" "words" "[J" .null := D71 (Or.inr w_18) (ty := (.array .long)) (by decide)
        have F_at_b71 : Fld Z h71 b71 "com/example/lone1/lone1/solve/SweepOrder" "at" "I" (.int (0 : Int32)) := D71 (Or.inl w_20) (ty := .int) (by decide)
        have F_word_b71 : Fld Z h71 b71 "com/example/lone1/lone1/solve/SweepOrder" "word" "J" (.long (0 : Int64)) := D71 (Or.inl w_27) (ty := .long) (by decide)
        refine bk (fun t k => st71 t k) ?_
        refine bk (fun t k => XS.dup X71.here hx rfl (hb hby at_218) rfl rfl k) ?_
        refine bk (fun t k => XS.aload X71.here hx rfl (hb hby at_219) rfl rfl k) ?_
        show F (T71.setTop (mkF m 221 #[.val (.long q0), .second, .val (.long q1), .second, .val (.long q2), .second, .val (.int p3), .val (.int n7), .val (.long w0), .second, .val (.long w1), .second, .val (.long w2), .second, .val (.ref ar), .val (.long u0), .second, .val (.long u1), .second, .val (.long u2), .second, .val (.int cnt), .val (.int (1 : Int32)), .val (.int (1 : Int32)), .unset] [(.ref ar), (.ref b71), (.ref b71)]))
        obtain ⟨_, _, ⟨T74, L74, k74, n74⟩, -, X74, ⟨Lc74, hQ74, l74, y74, z74⟩, st74⟩ := X71.specialBack hx (y := (⟨"com/example/lone1/lone1/solve/SweepOrder", "<init>", "([J)V"⟩ : MethodName)) rfl hown (mvT hZ w_11) (mvT hZ w_12) (mvT hZ w_13) (by decide) (backOf (W := 1) (rm3 l Z a0 hw [] b71 ar kk (2 : Int32) u0 u1 u2 h71 n0 f72 A71 F_words_b71 F_at_b71 F_word_b71 f73 Gb71 (Ne.symm ne_ar_b71)) hZ w_13 w_10 (by decide) (by decide)) (g := (mkF m 221 #[.val (.long q0), .second, .val (.long q1), .second, .val (.long q2), .second, .val (.int p3), .val (.int n7), .val (.long w0), .second, .val (.long w1), .second, .val (.long w2), .second, .val (.ref ar), .val (.long u0), .second, .val (.long u1), .second, .val (.long u2), .second, .val (.int cnt), .val (.int (1 : Int32)), .val (.int (1 : Int32)), .unset] [(.ref ar), (.ref b71), (.ref b71)])) rfl (by rw [hml]; rfl) (Steps.refl _) (a := b71) (argsL := [(.ref ar)]) (rest := [(.ref b71)]) (lenOf pd0___J_V rfl) rfl (by show 2 * 0 + _ ≤ _; exact Nat.le_of_eq rfl) (hb hby at_221) (fun _ _ => ⟨rfl, e71, (by decide : 2 + 0 ≤ _), (by decide : 6 + 0 ≤ _)⟩)
        dsimp only [Pt.U, Pt.locs, Pt.cells, Pt.slots] at X74 l74 y74 z74 st74 hQ74
        subst l74 y74 z74
        obtain ⟨rfl, N74q, gZ74, gP74⟩ := hQ74
        have N74 := Fr.app NJ N74q
        have ne_b71_ar : b71 ≠ ar := (Ne.symm ne_ar_b71)
        refine bk (fun t k => st74.trans k) ?_
        show F (T74.setTop (mkF m 224 #[.val (.long q0), .second, .val (.long q1), .second, .val (.long q2), .second, .val (.int p3), .val (.int n7), .val (.long w0), .second, .val (.long w1), .second, .val (.long w2), .second, .val (.ref ar), .val (.long u0), .second, .val (.long u1), .second, .val (.long u2), .second, .val (.int cnt), .val (.int (1 : Int32)), .val (.int (1 : Int32)), .unset] [(.ref b71)]))
        refine bk (fun t k => XS.astore X74.here hx rfl (hb hby at_224) rfl rfl (l' := #[.val (.long q0), .second, .val (.long q1), .second, .val (.long q2), .second, .val (.int p3), .val (.int n7), .val (.long w0), .second, .val (.long w1), .second, .val (.long w2), .second, .val (.ref ar), .val (.long u0), .second, .val (.long u1), .second, .val (.long u2), .second, .val (.int cnt), .val (.int (1 : Int32)), .val (.int (1 : Int32)), .val (.ref b71)]) rfl k) ?_
        refine bk (fun t k => XS.aload X74.here hx rfl (hb hby at_226) rfl rfl k) ?_
        show F (T74.setTop (mkF m 228 #[.val (.long q0), .second, .val (.long q1), .second, .val (.long q2), .second, .val (.int p3), .val (.int n7), .val (.long w0), .second, .val (.long w1), .second, .val (.long w2), .second, .val (.ref ar), .val (.long u0), .second, .val (.long u1), .second, .val (.long u2), .second, .val (.int cnt), .val (.int (1 : Int32)), .val (.int (1 : Int32)), .val (.ref b71)] [(.ref b71)]))
        obtain ⟨cq75, kq75, q75a, q75b, q75c⟩ := isOf hZ rfl (gP74.1)
        obtain ⟨_, _, ⟨T75, L75, k75, n75⟩, -, X75, ⟨Lc75, hQ75, l75, y75, z75⟩, st75⟩ := X74.virtualBack hx (y := (⟨"com/example/lone1/lone1/solve/SweepOrder", "hasNext", "()Z"⟩ : MethodName)) (z := (⟨"com/example/lone1/lone1/solve/SweepOrder", "hasNext", "()Z"⟩ : MethodName)) hown (mvT hZ w_21) (mvT hZ w_22) (notFace_of_selects (args := #[]) (mvT hZ w_24)) (mvT hZ w_24) (mvT hZ w_23) (by decide) (backOf (W := 0) (rm5Z21 l Z a0 hw [] b71 ar kk (2 : Int32) u0 u1 u2 T74.heap n0 gZ74 gP74 Gb71 ne_b71_ar (by decide) (by decide) hc9201_33) hZ w_25 w_10 (by decide) (by decide)) q75a q75c (g := (mkF m 228 #[.val (.long q0), .second, .val (.long q1), .second, .val (.long q2), .second, .val (.int p3), .val (.int n7), .val (.long w0), .second, .val (.long w1), .second, .val (.long w2), .second, .val (.ref ar), .val (.long u0), .second, .val (.long u1), .second, .val (.long u2), .second, .val (.int cnt), .val (.int (1 : Int32)), .val (.int (1 : Int32)), .val (.ref b71)] [(.ref b71)])) rfl (by rw [hml]; rfl) (Steps.refl _) (argsL := []) (rest := []) (lenOf pd0___Z rfl) rfl (by show 2 * 0 + _ ≤ _; exact Nat.le_of_eq rfl) (hb hby at_228) (fun _ _ => ⟨rfl, rfl, (by decide : 2 + 0 ≤ _), (by decide : 6 + 0 ≤ _)⟩)
        dsimp only [Pt.U, Pt.locs, Pt.cells, Pt.slots] at X75 l75 y75 z75 st75 hQ75
        subst l75 y75 z75
        obtain ⟨rfl, N75q, gZ75, gP75⟩ := hQ75
        have N75 := Fr.app N74 N75q
        refine bk (fun t k => st75.trans k) ?_
        refine bk (fun t k => XS.iload X75.here hx rfl (hb hby at_231) rfl k) ?_
        show F (T75.setTop (mkF m 233 #[.val (.long q0), .second, .val (.long q1), .second, .val (.long q2), .second, .val (.int p3), .val (.int n7), .val (.long w0), .second, .val (.long w1), .second, .val (.long w2), .second, .val (.ref ar), .val (.long u0), .second, .val (.long u1), .second, .val (.long u2), .second, .val (.int cnt), .val (.int (1 : Int32)), .val (.int (1 : Int32)), .val (.ref b71)] [(.int (1 : Int32)), (.int (1 : Int32))]))
        refine bk (fun t k => XS.icmpYes X75.here hx rfl (pc0 := 233) (pc' := 238) rfl (hb hby at_233) rfl (teq (by decide : (1 : Int32) = (1 : Int32))).1 (by decide) (by decide) k) ?_
        refine bk (fun t k => XS.aload X75.here hx rfl (hb hby at_238) rfl rfl k) ?_
        show F (T75.setTop (mkF m 240 #[.val (.long q0), .second, .val (.long q1), .second, .val (.long q2), .second, .val (.int p3), .val (.int n7), .val (.long w0), .second, .val (.long w1), .second, .val (.long w2), .second, .val (.ref ar), .val (.long u0), .second, .val (.long u1), .second, .val (.long u2), .second, .val (.int cnt), .val (.int (1 : Int32)), .val (.int (1 : Int32)), .val (.ref b71)] [(.ref b71)]))
        obtain ⟨cq76, kq76, q76a, q76b, q76c⟩ := isOf hZ rfl (gP75.1)
        obtain ⟨_, _, ⟨T76, L76, k76, n76⟩, -, X76, ⟨Lc76, hQ76, l76, y76, z76⟩, st76⟩ := X75.virtualBack hx (y := (⟨"com/example/lone1/lone1/solve/SweepOrder", "hasNext", "()Z"⟩ : MethodName)) (z := (⟨"com/example/lone1/lone1/solve/SweepOrder", "hasNext", "()Z"⟩ : MethodName)) hown (mvT hZ w_21) (mvT hZ w_22) (notFace_of_selects (args := #[]) (mvT hZ w_24)) (mvT hZ w_24) (mvT hZ w_23) (by decide) (backOf (W := 0) (rm5N l Z a0 hw [] b71 u1 T75.heap n0 gZ75 gP75.2.2.2.1 hc9201_33) hZ w_25 w_10 (by decide) (by decide)) q76a q76c (g := (mkF m 240 #[.val (.long q0), .second, .val (.long q1), .second, .val (.long q2), .second, .val (.int p3), .val (.int n7), .val (.long w0), .second, .val (.long w1), .second, .val (.long w2), .second, .val (.ref ar), .val (.long u0), .second, .val (.long u1), .second, .val (.long u2), .second, .val (.int cnt), .val (.int (1 : Int32)), .val (.int (1 : Int32)), .val (.ref b71)] [(.ref b71)])) rfl (by rw [hml]; rfl) (Steps.refl _) (argsL := []) (rest := []) (lenOf pd0___Z rfl) rfl (by show 2 * 0 + _ ≤ _; exact Nat.le_of_eq rfl) (hb hby at_240) (fun _ _ => ⟨rfl, rfl, (by decide : 2 + 0 ≤ _), (by decide : 6 + 0 ≤ _)⟩)
        dsimp only [Pt.U, Pt.locs, Pt.cells, Pt.slots] at X76 l76 y76 z76 st76 hQ76
        subst l76 y76 z76
        obtain ⟨rfl, N76q, e76⟩ := hQ76
        have N76 := Fr.app N75 N76q
        refine bk (fun t k => st76.trans k) ?_
        refine bk (fun t k => XS.iload X76.here hx rfl (hb hby at_243) rfl k) ?_
        show F (T76.setTop (mkF m 245 #[.val (.long q0), .second, .val (.long q1), .second, .val (.long q2), .second, .val (.int p3), .val (.int n7), .val (.long w0), .second, .val (.long w1), .second, .val (.long w2), .second, .val (.ref ar), .val (.long u0), .second, .val (.long u1), .second, .val (.long u2), .second, .val (.int cnt), .val (.int (1 : Int32)), .val (.int (1 : Int32)), .val (.ref b71)] [(.int (1 : Int32)), (.int (1 : Int32))]))
        refine bk (fun t k => XS.icmpYes X76.here hx rfl (pc0 := 245) (pc' := 250) rfl (hb hby at_245) rfl (teq (by decide : (1 : Int32) = (1 : Int32))).1 (by decide) (by decide) k) ?_
        refine bk (fun t k => XS.iload X76.here hx rfl (hb hby at_250) rfl k) ?_
        show F (T76.setTop (mkF m 252 #[.val (.long q0), .second, .val (.long q1), .second, .val (.long q2), .second, .val (.int p3), .val (.int n7), .val (.long w0), .second, .val (.long w1), .second, .val (.long w2), .second, .val (.ref ar), .val (.long u0), .second, .val (.long u1), .second, .val (.long u2), .second, .val (.int cnt), .val (.int (1 : Int32)), .val (.int (1 : Int32)), .val (.ref b71)] [(.int (1 : Int32))]))
        refine bk (fun t k => XS.ifYes X76.here hx rfl (pc0 := 252) (pc' := 257) rfl (hb hby at_252) rfl ((if0 _ _).trans (feq (by decide : ¬ ((1 : Int32) = (0 : Int32)))).2) (by decide) (by decide) k) ?_
        refine bk (fun t k => XS.aload X76.here hx rfl (hb hby at_257) rfl rfl k) ?_
        show F (T76.setTop (mkF m 259 #[.val (.long q0), .second, .val (.long q1), .second, .val (.long q2), .second, .val (.int p3), .val (.int n7), .val (.long w0), .second, .val (.long w1), .second, .val (.long w2), .second, .val (.ref ar), .val (.long u0), .second, .val (.long u1), .second, .val (.long u2), .second, .val (.int cnt), .val (.int (1 : Int32)), .val (.int (1 : Int32)), .val (.ref b71)] [(.ref b71)]))
        obtain ⟨cq77, kq77, q77a, q77b, q77c⟩ := isOf hZ e76 (gP75.1)
        obtain ⟨_, _, ⟨T77, L77, k77, n77⟩, -, X77, ⟨Lc77, hQ77, l77, y77, z77⟩, st77⟩ := X76.virtualBack hx (y := (⟨"com/example/lone1/lone1/solve/SweepOrder", "next", "()I"⟩ : MethodName)) (z := (⟨"com/example/lone1/lone1/solve/SweepOrder", "next", "()I"⟩ : MethodName)) hown (mvT hZ w_29) (mvT hZ w_30) (notFace_of_selects (args := #[]) (mvT hZ w_32)) (mvT hZ w_32) (mvT hZ w_31) (by decide) (backOf (W := 0) (rm6 l Z a0 hw [] b71 ar kk (2 : Int32) (1 : Int32) u1 u0 u1 u2 T75.heap n0 gZ75 gP75 Gb71 ne_b71_ar hc9201_33) hZ w_33 w_10 (by decide) (by decide)) q77a q77c (g := (mkF m 259 #[.val (.long q0), .second, .val (.long q1), .second, .val (.long q2), .second, .val (.int p3), .val (.int n7), .val (.long w0), .second, .val (.long w1), .second, .val (.long w2), .second, .val (.ref ar), .val (.long u0), .second, .val (.long u1), .second, .val (.long u2), .second, .val (.int cnt), .val (.int (1 : Int32)), .val (.int (1 : Int32)), .val (.ref b71)] [(.ref b71)])) rfl (by rw [hml]; rfl) (Steps.refl _) (argsL := []) (rest := []) (lenOf pd0___I rfl) rfl (by show 2 * 0 + _ ≤ _; exact Nat.le_of_eq rfl) (hb hby at_259) (fun _ _ => ⟨rfl, e76, (by decide : 2 + 0 ≤ _), (by decide : 6 + 0 ≤ _)⟩)
        dsimp only [Pt.U, Pt.locs, Pt.cells, Pt.slots] at X77 l77 y77 z77 st77 hQ77
        subst l77 y77 z77
        obtain ⟨rfl, N77q, gZ77, gP77⟩ := hQ77
        have N77 := Fr.app N76 N77q
        refine bk (fun t k => st77.trans k) ?_
        refine bk (fun t k => XS.pop X77.here hx rfl (hb hby at_262) rfl rfl k) ?_
        refine bk (fun t k => XS.aload X77.here hx rfl (hb hby at_263) rfl rfl k) ?_
        show F (T77.setTop (mkF m 265 #[.val (.long q0), .second, .val (.long q1), .second, .val (.long q2), .second, .val (.int p3), .val (.int n7), .val (.long w0), .second, .val (.long w1), .second, .val (.long w2), .second, .val (.ref ar), .val (.long u0), .second, .val (.long u1), .second, .val (.long u2), .second, .val (.int cnt), .val (.int (1 : Int32)), .val (.int (1 : Int32)), .val (.ref b71)] [(.ref b71)]))
        obtain ⟨cq78, kq78, q78a, q78b, q78c⟩ := isOf hZ rfl (gP77.1)
        obtain ⟨_, _, ⟨T78, L78, k78, n78⟩, -, X78, ⟨Lc78, hQ78, l78, y78, z78⟩, st78⟩ := X77.virtualBack hx (y := (⟨"com/example/lone1/lone1/solve/SweepOrder", "hasNext", "()Z"⟩ : MethodName)) (z := (⟨"com/example/lone1/lone1/solve/SweepOrder", "hasNext", "()Z"⟩ : MethodName)) hown (mvT hZ w_21) (mvT hZ w_22) (notFace_of_selects (args := #[]) (mvT hZ w_24)) (mvT hZ w_24) (mvT hZ w_23) (by decide) (backOf (W := 0) (rm5Z10 l Z a0 hw [] b71 ar kk (2 : Int32) u0 u1 u2 T77.heap n0 gZ77 (own_S0 hc9101_60 gP77) Gb71 ne_b71_ar (by decide) hc9000_61) hZ w_25 w_10 (by decide) (by decide)) q78a q78c (g := (mkF m 265 #[.val (.long q0), .second, .val (.long q1), .second, .val (.long q2), .second, .val (.int p3), .val (.int n7), .val (.long w0), .second, .val (.long w1), .second, .val (.long w2), .second, .val (.ref ar), .val (.long u0), .second, .val (.long u1), .second, .val (.long u2), .second, .val (.int cnt), .val (.int (1 : Int32)), .val (.int (1 : Int32)), .val (.ref b71)] [(.ref b71)])) rfl (by rw [hml]; rfl) (Steps.refl _) (argsL := []) (rest := []) (lenOf pd0___Z rfl) rfl (by show 2 * 0 + _ ≤ _; exact Nat.le_of_eq rfl) (hb hby at_265) (fun _ _ => ⟨rfl, rfl, (by decide : 2 + 0 ≤ _), (by decide : 6 + 0 ≤ _)⟩)
        dsimp only [Pt.U, Pt.locs, Pt.cells, Pt.slots] at X78 l78 y78 z78 st78 hQ78
        subst l78 y78 z78
        obtain ⟨rfl, N78q, gZ78, gP78⟩ := hQ78
        have N78 := Fr.app N77 N78q
        refine bk (fun t k => st78.trans k) ?_
        refine bk (fun t k => XS.iload X78.here hx rfl (hb hby at_268) rfl k) ?_
        show F (T78.setTop (mkF m 270 #[.val (.long q0), .second, .val (.long q1), .second, .val (.long q2), .second, .val (.int p3), .val (.int n7), .val (.long w0), .second, .val (.long w1), .second, .val (.long w2), .second, .val (.ref ar), .val (.long u0), .second, .val (.long u1), .second, .val (.long u2), .second, .val (.int cnt), .val (.int (1 : Int32)), .val (.int (1 : Int32)), .val (.ref b71)] [(.int (1 : Int32)), (.int (1 : Int32))]))
        refine bk (fun t k => XS.icmpYes X78.here hx rfl (pc0 := 270) (pc' := 275) rfl (hb hby at_270) rfl (teq (by decide : (1 : Int32) = (1 : Int32))).1 (by decide) (by decide) k) ?_
        refine bk (fun t k => XS.aload X78.here hx rfl (hb hby at_275) rfl rfl k) ?_
        show F (T78.setTop (mkF m 277 #[.val (.long q0), .second, .val (.long q1), .second, .val (.long q2), .second, .val (.int p3), .val (.int n7), .val (.long w0), .second, .val (.long w1), .second, .val (.long w2), .second, .val (.ref ar), .val (.long u0), .second, .val (.long u1), .second, .val (.long u2), .second, .val (.int cnt), .val (.int (1 : Int32)), .val (.int (1 : Int32)), .val (.ref b71)] [(.ref b71)]))
        obtain ⟨cq79, kq79, q79a, q79b, q79c⟩ := isOf hZ rfl (gP78.1)
        obtain ⟨_, _, ⟨T79, L79, k79, n79⟩, -, X79, ⟨Lc79, hQ79, l79, y79, z79⟩, st79⟩ := X78.virtualBack hx (y := (⟨"com/example/lone1/lone1/solve/SweepOrder", "hasNext", "()Z"⟩ : MethodName)) (z := (⟨"com/example/lone1/lone1/solve/SweepOrder", "hasNext", "()Z"⟩ : MethodName)) hown (mvT hZ w_21) (mvT hZ w_22) (notFace_of_selects (args := #[]) (mvT hZ w_24)) (mvT hZ w_24) (mvT hZ w_23) (by decide) (backOf (W := 0) (rm5N l Z a0 hw [] b71 u0 T78.heap n0 gZ78 gP78.2.2.2.1 hc9000_61) hZ w_25 w_10 (by decide) (by decide)) q79a q79c (g := (mkF m 277 #[.val (.long q0), .second, .val (.long q1), .second, .val (.long q2), .second, .val (.int p3), .val (.int n7), .val (.long w0), .second, .val (.long w1), .second, .val (.long w2), .second, .val (.ref ar), .val (.long u0), .second, .val (.long u1), .second, .val (.long u2), .second, .val (.int cnt), .val (.int (1 : Int32)), .val (.int (1 : Int32)), .val (.ref b71)] [(.ref b71)])) rfl (by rw [hml]; rfl) (Steps.refl _) (argsL := []) (rest := []) (lenOf pd0___Z rfl) rfl (by show 2 * 0 + _ ≤ _; exact Nat.le_of_eq rfl) (hb hby at_277) (fun _ _ => ⟨rfl, rfl, (by decide : 2 + 0 ≤ _), (by decide : 6 + 0 ≤ _)⟩)
        dsimp only [Pt.U, Pt.locs, Pt.cells, Pt.slots] at X79 l79 y79 z79 st79 hQ79
        subst l79 y79 z79
        obtain ⟨rfl, N79q, e79⟩ := hQ79
        have N79 := Fr.app N78 N79q
        refine bk (fun t k => st79.trans k) ?_
        refine bk (fun t k => XS.iload X79.here hx rfl (hb hby at_280) rfl k) ?_
        show F (T79.setTop (mkF m 282 #[.val (.long q0), .second, .val (.long q1), .second, .val (.long q2), .second, .val (.int p3), .val (.int n7), .val (.long w0), .second, .val (.long w1), .second, .val (.long w2), .second, .val (.ref ar), .val (.long u0), .second, .val (.long u1), .second, .val (.long u2), .second, .val (.int cnt), .val (.int (1 : Int32)), .val (.int (1 : Int32)), .val (.ref b71)] [(.int (1 : Int32)), (.int (1 : Int32))]))
        refine bk (fun t k => XS.icmpNo X79.here hx rfl (hb hby at_282) rfl (teq (by decide : (1 : Int32) = (1 : Int32))).2 k) ?_
        refine bk (fun t k => XS.iconst X79.here hx rfl (hb hby at_285) k) ?_
        refine bk (fun t k => XS.goto X79.here hx rfl (pc0 := 286) (pc' := 290) rfl (hb hby at_286) (by decide) (by decide) k) ?_
        show F (T79.setTop (mkF m 290 #[.val (.long q0), .second, .val (.long q1), .second, .val (.long q2), .second, .val (.int p3), .val (.int n7), .val (.long w0), .second, .val (.long w1), .second, .val (.long w2), .second, .val (.ref ar), .val (.long u0), .second, .val (.long u1), .second, .val (.long u2), .second, .val (.int cnt), .val (.int (1 : Int32)), .val (.int (1 : Int32)), .val (.ref b71)] [(.int (1 : Int32))]))
        rw [hF]
        refine own_retZ X79 hx Bd.notSynchronized Bd.returns (hb hby at_290) (by decide) (by decide) ?_
        rw [e79]
        exact ⟨rfl, N79⟩
    · obtain rfl : any = (1 : Int32) := hany.trans (by subst hcnt; by_cases hq0 : u0 = (0 : Int64) <;> simp +decide [own_anyc, own_cnt, own_b, hz2, hc9201_33, hc9101_60, hq0])
      obtain rfl : two = (1 : Int32) := htwo.trans (by subst hcnt; by_cases hq0 : u0 = (0 : Int64) <;> simp +decide [own_two, own_cnt, own_b, own_mb0, hz2, hc9201_33, hc9101_60, own_clr_mbn hc9201_33 hc9101_60, hq0])
      show F (TJ.setTop (mkF m 213 #[.val (.long q0), .second, .val (.long q1), .second, .val (.long q2), .second, .val (.int p3), .val (.int n7), .val (.long w0), .second, .val (.long w1), .second, .val (.long w2), .second, .val (.ref ar), .val (.long u0), .second, .val (.long u1), .second, .val (.long u2), .second, .val (.int cnt), .val (.int (1 : Int32)), .unset, .unset] [(.int (1 : Int32))]))
      refine bk (fun t k => XS.istore XJ.here hx rfl (hb hby at_213) rfl (l' := #[.val (.long q0), .second, .val (.long q1), .second, .val (.long q2), .second, .val (.int p3), .val (.int n7), .val (.long w0), .second, .val (.long w1), .second, .val (.long w2), .second, .val (.ref ar), .val (.long u0), .second, .val (.long u1), .second, .val (.long u2), .second, .val (.int cnt), .val (.int (1 : Int32)), .val (.int (1 : Int32)), .unset]) rfl k) ?_
      show F (TJ.setTop (mkF m 215 #[.val (.long q0), .second, .val (.long q1), .second, .val (.long q2), .second, .val (.int p3), .val (.int n7), .val (.long w0), .second, .val (.long w1), .second, .val (.long w2), .second, .val (.ref ar), .val (.long u0), .second, .val (.long u1), .second, .val (.long u2), .second, .val (.int cnt), .val (.int (1 : Int32)), .val (.int (1 : Int32)), .unset] []))
      obtain ⟨T80, h80, X80, e80, E80, A80, D80, -, st80⟩ := newO XJ hx hZ hown w_8 w_9 w_10 eJ (g := (mkF m 215 #[.val (.long q0), .second, .val (.long q1), .second, .val (.long q2), .second, .val (.int p3), .val (.int n7), .val (.long w0), .second, .val (.long w1), .second, .val (.long w2), .second, .val (.ref ar), .val (.long u0), .second, .val (.long u1), .second, .val (.long u2), .second, .val (.int cnt), .val (.int (1 : Int32)), .val (.int (1 : Int32)), .unset] [])) rfl (hb hby at_215) (by decide) (by decide)
      obtain ⟨b80, g80⟩ : ∃ z, z = hJ.size := ⟨_, rfl⟩
      rw [← g80] at A80 D80 st80
      have Gb80 : n0 ≤ b80 := Nat.le_trans jZ (Nat.le_of_eq g80.symm)
      have ne_ar_b80 : ar ≠ b80 := Nat.ne_of_lt (Nat.lt_of_lt_of_le jV.lt (Nat.le_of_eq g80.symm))
      have f81 := Nat.le_trans jZ E80.1
      have f82 := jV.ext E80
      have F_words_b80 : Fld Z h80 b80 "com/example/lone1/lone1/solve/SweepOrder" "words" "[J" .null := D80 (Or.inr w_18) (ty := (.array .long)) (by decide)
      have F_at_b80 : Fld Z h80 b80 "com/example/lone1/lone1/solve/SweepOrder" "at" "I" (.int (0 : Int32)) := D80 (Or.inl w_20) (ty := .int) (by decide)
      have F_word_b80 : Fld Z h80 b80 "com/example/lone1/lone1/solve/SweepOrder" "word" "J" (.long (0 : Int64)) := D80 (Or.inl w_27) (ty := .long) (by decide)
      refine bk (fun t k => st80 t k) ?_
      refine bk (fun t k => XS.dup X80.here hx rfl (hb hby at_218) rfl rfl k) ?_
      refine bk (fun t k => XS.aload X80.here hx rfl (hb hby at_219) rfl rfl k) ?_
      show F (T80.setTop (mkF m 221 #[.val (.long q0), .second, .val (.long q1), .second, .val (.long q2), .second, .val (.int p3), .val (.int n7), .val (.long w0), .second, .val (.long w1), .second, .val (.long w2), .second, .val (.ref ar), .val (.long u0), .second, .val (.long u1), .second, .val (.long u2), .second, .val (.int cnt), .val (.int (1 : Int32)), .val (.int (1 : Int32)), .unset] [(.ref ar), (.ref b80), (.ref b80)]))
      obtain ⟨_, _, ⟨T83, L83, k83, n83⟩, -, X83, ⟨Lc83, hQ83, l83, y83, z83⟩, st83⟩ := X80.specialBack hx (y := (⟨"com/example/lone1/lone1/solve/SweepOrder", "<init>", "([J)V"⟩ : MethodName)) rfl hown (mvT hZ w_11) (mvT hZ w_12) (mvT hZ w_13) (by decide) (backOf (W := 1) (rm3 l Z a0 hw [] b80 ar kk (2 : Int32) u0 u1 u2 h80 n0 f81 A80 F_words_b80 F_at_b80 F_word_b80 f82 Gb80 (Ne.symm ne_ar_b80)) hZ w_13 w_10 (by decide) (by decide)) (g := (mkF m 221 #[.val (.long q0), .second, .val (.long q1), .second, .val (.long q2), .second, .val (.int p3), .val (.int n7), .val (.long w0), .second, .val (.long w1), .second, .val (.long w2), .second, .val (.ref ar), .val (.long u0), .second, .val (.long u1), .second, .val (.long u2), .second, .val (.int cnt), .val (.int (1 : Int32)), .val (.int (1 : Int32)), .unset] [(.ref ar), (.ref b80), (.ref b80)])) rfl (by rw [hml]; rfl) (Steps.refl _) (a := b80) (argsL := [(.ref ar)]) (rest := [(.ref b80)]) (lenOf pd0___J_V rfl) rfl (by show 2 * 0 + _ ≤ _; exact Nat.le_of_eq rfl) (hb hby at_221) (fun _ _ => ⟨rfl, e80, (by decide : 2 + 0 ≤ _), (by decide : 6 + 0 ≤ _)⟩)
      dsimp only [Pt.U, Pt.locs, Pt.cells, Pt.slots] at X83 l83 y83 z83 st83 hQ83
      subst l83 y83 z83
      obtain ⟨rfl, N83q, gZ83, gP83⟩ := hQ83
      have N83 := Fr.app NJ N83q
      have ne_b80_ar : b80 ≠ ar := (Ne.symm ne_ar_b80)
      refine bk (fun t k => st83.trans k) ?_
      show F (T83.setTop (mkF m 224 #[.val (.long q0), .second, .val (.long q1), .second, .val (.long q2), .second, .val (.int p3), .val (.int n7), .val (.long w0), .second, .val (.long w1), .second, .val (.long w2), .second, .val (.ref ar), .val (.long u0), .second, .val (.long u1), .second, .val (.long u2), .second, .val (.int cnt), .val (.int (1 : Int32)), .val (.int (1 : Int32)), .unset] [(.ref b80)]))
      refine bk (fun t k => XS.astore X83.here hx rfl (hb hby at_224) rfl rfl (l' := #[.val (.long q0), .second, .val (.long q1), .second, .val (.long q2), .second, .val (.int p3), .val (.int n7), .val (.long w0), .second, .val (.long w1), .second, .val (.long w2), .second, .val (.ref ar), .val (.long u0), .second, .val (.long u1), .second, .val (.long u2), .second, .val (.int cnt), .val (.int (1 : Int32)), .val (.int (1 : Int32)), .val (.ref b80)]) rfl k) ?_
      refine bk (fun t k => XS.aload X83.here hx rfl (hb hby at_226) rfl rfl k) ?_
      show F (T83.setTop (mkF m 228 #[.val (.long q0), .second, .val (.long q1), .second, .val (.long q2), .second, .val (.int p3), .val (.int n7), .val (.long w0), .second, .val (.long w1), .second, .val (.long w2), .second, .val (.ref ar), .val (.long u0), .second, .val (.long u1), .second, .val (.long u2), .second, .val (.int cnt), .val (.int (1 : Int32)), .val (.int (1 : Int32)), .val (.ref b80)] [(.ref b80)]))
      obtain ⟨cq84, kq84, q84a, q84b, q84c⟩ := isOf hZ rfl (gP83.1)
      obtain ⟨_, _, ⟨T84, L84, k84, n84⟩, -, X84, ⟨Lc84, hQ84, l84, y84, z84⟩, st84⟩ := X83.virtualBack hx (y := (⟨"com/example/lone1/lone1/solve/SweepOrder", "hasNext", "()Z"⟩ : MethodName)) (z := (⟨"com/example/lone1/lone1/solve/SweepOrder", "hasNext", "()Z"⟩ : MethodName)) hown (mvT hZ w_21) (mvT hZ w_22) (notFace_of_selects (args := #[]) (mvT hZ w_24)) (mvT hZ w_24) (mvT hZ w_23) (by decide) (backOf (W := 0) (rm5Z21 l Z a0 hw [] b80 ar kk (2 : Int32) u0 u1 u2 T83.heap n0 gZ83 gP83 Gb80 ne_b80_ar (by decide) (by decide) hc9201_33) hZ w_25 w_10 (by decide) (by decide)) q84a q84c (g := (mkF m 228 #[.val (.long q0), .second, .val (.long q1), .second, .val (.long q2), .second, .val (.int p3), .val (.int n7), .val (.long w0), .second, .val (.long w1), .second, .val (.long w2), .second, .val (.ref ar), .val (.long u0), .second, .val (.long u1), .second, .val (.long u2), .second, .val (.int cnt), .val (.int (1 : Int32)), .val (.int (1 : Int32)), .val (.ref b80)] [(.ref b80)])) rfl (by rw [hml]; rfl) (Steps.refl _) (argsL := []) (rest := []) (lenOf pd0___Z rfl) rfl (by show 2 * 0 + _ ≤ _; exact Nat.le_of_eq rfl) (hb hby at_228) (fun _ _ => ⟨rfl, rfl, (by decide : 2 + 0 ≤ _), (by decide : 6 + 0 ≤ _)⟩)
      dsimp only [Pt.U, Pt.locs, Pt.cells, Pt.slots] at X84 l84 y84 z84 st84 hQ84
      subst l84 y84 z84
      obtain ⟨rfl, N84q, gZ84, gP84⟩ := hQ84
      have N84 := Fr.app N83 N84q
      refine bk (fun t k => st84.trans k) ?_
      refine bk (fun t k => XS.iload X84.here hx rfl (hb hby at_231) rfl k) ?_
      show F (T84.setTop (mkF m 233 #[.val (.long q0), .second, .val (.long q1), .second, .val (.long q2), .second, .val (.int p3), .val (.int n7), .val (.long w0), .second, .val (.long w1), .second, .val (.long w2), .second, .val (.ref ar), .val (.long u0), .second, .val (.long u1), .second, .val (.long u2), .second, .val (.int cnt), .val (.int (1 : Int32)), .val (.int (1 : Int32)), .val (.ref b80)] [(.int (1 : Int32)), (.int (1 : Int32))]))
      refine bk (fun t k => XS.icmpYes X84.here hx rfl (pc0 := 233) (pc' := 238) rfl (hb hby at_233) rfl (teq (by decide : (1 : Int32) = (1 : Int32))).1 (by decide) (by decide) k) ?_
      refine bk (fun t k => XS.aload X84.here hx rfl (hb hby at_238) rfl rfl k) ?_
      show F (T84.setTop (mkF m 240 #[.val (.long q0), .second, .val (.long q1), .second, .val (.long q2), .second, .val (.int p3), .val (.int n7), .val (.long w0), .second, .val (.long w1), .second, .val (.long w2), .second, .val (.ref ar), .val (.long u0), .second, .val (.long u1), .second, .val (.long u2), .second, .val (.int cnt), .val (.int (1 : Int32)), .val (.int (1 : Int32)), .val (.ref b80)] [(.ref b80)]))
      obtain ⟨cq85, kq85, q85a, q85b, q85c⟩ := isOf hZ rfl (gP84.1)
      obtain ⟨_, _, ⟨T85, L85, k85, n85⟩, -, X85, ⟨Lc85, hQ85, l85, y85, z85⟩, st85⟩ := X84.virtualBack hx (y := (⟨"com/example/lone1/lone1/solve/SweepOrder", "hasNext", "()Z"⟩ : MethodName)) (z := (⟨"com/example/lone1/lone1/solve/SweepOrder", "hasNext", "()Z"⟩ : MethodName)) hown (mvT hZ w_21) (mvT hZ w_22) (notFace_of_selects (args := #[]) (mvT hZ w_24)) (mvT hZ w_24) (mvT hZ w_23) (by decide) (backOf (W := 0) (rm5N l Z a0 hw [] b80 u1 T84.heap n0 gZ84 gP84.2.2.2.1 hc9201_33) hZ w_25 w_10 (by decide) (by decide)) q85a q85c (g := (mkF m 240 #[.val (.long q0), .second, .val (.long q1), .second, .val (.long q2), .second, .val (.int p3), .val (.int n7), .val (.long w0), .second, .val (.long w1), .second, .val (.long w2), .second, .val (.ref ar), .val (.long u0), .second, .val (.long u1), .second, .val (.long u2), .second, .val (.int cnt), .val (.int (1 : Int32)), .val (.int (1 : Int32)), .val (.ref b80)] [(.ref b80)])) rfl (by rw [hml]; rfl) (Steps.refl _) (argsL := []) (rest := []) (lenOf pd0___Z rfl) rfl (by show 2 * 0 + _ ≤ _; exact Nat.le_of_eq rfl) (hb hby at_240) (fun _ _ => ⟨rfl, rfl, (by decide : 2 + 0 ≤ _), (by decide : 6 + 0 ≤ _)⟩)
      dsimp only [Pt.U, Pt.locs, Pt.cells, Pt.slots] at X85 l85 y85 z85 st85 hQ85
      subst l85 y85 z85
      obtain ⟨rfl, N85q, e85⟩ := hQ85
      have N85 := Fr.app N84 N85q
      refine bk (fun t k => st85.trans k) ?_
      refine bk (fun t k => XS.iload X85.here hx rfl (hb hby at_243) rfl k) ?_
      show F (T85.setTop (mkF m 245 #[.val (.long q0), .second, .val (.long q1), .second, .val (.long q2), .second, .val (.int p3), .val (.int n7), .val (.long w0), .second, .val (.long w1), .second, .val (.long w2), .second, .val (.ref ar), .val (.long u0), .second, .val (.long u1), .second, .val (.long u2), .second, .val (.int cnt), .val (.int (1 : Int32)), .val (.int (1 : Int32)), .val (.ref b80)] [(.int (1 : Int32)), (.int (1 : Int32))]))
      refine bk (fun t k => XS.icmpYes X85.here hx rfl (pc0 := 245) (pc' := 250) rfl (hb hby at_245) rfl (teq (by decide : (1 : Int32) = (1 : Int32))).1 (by decide) (by decide) k) ?_
      refine bk (fun t k => XS.iload X85.here hx rfl (hb hby at_250) rfl k) ?_
      show F (T85.setTop (mkF m 252 #[.val (.long q0), .second, .val (.long q1), .second, .val (.long q2), .second, .val (.int p3), .val (.int n7), .val (.long w0), .second, .val (.long w1), .second, .val (.long w2), .second, .val (.ref ar), .val (.long u0), .second, .val (.long u1), .second, .val (.long u2), .second, .val (.int cnt), .val (.int (1 : Int32)), .val (.int (1 : Int32)), .val (.ref b80)] [(.int (1 : Int32))]))
      refine bk (fun t k => XS.ifYes X85.here hx rfl (pc0 := 252) (pc' := 257) rfl (hb hby at_252) rfl ((if0 _ _).trans (feq (by decide : ¬ ((1 : Int32) = (0 : Int32)))).2) (by decide) (by decide) k) ?_
      refine bk (fun t k => XS.aload X85.here hx rfl (hb hby at_257) rfl rfl k) ?_
      show F (T85.setTop (mkF m 259 #[.val (.long q0), .second, .val (.long q1), .second, .val (.long q2), .second, .val (.int p3), .val (.int n7), .val (.long w0), .second, .val (.long w1), .second, .val (.long w2), .second, .val (.ref ar), .val (.long u0), .second, .val (.long u1), .second, .val (.long u2), .second, .val (.int cnt), .val (.int (1 : Int32)), .val (.int (1 : Int32)), .val (.ref b80)] [(.ref b80)]))
      obtain ⟨cq86, kq86, q86a, q86b, q86c⟩ := isOf hZ e85 (gP84.1)
      obtain ⟨_, _, ⟨T86, L86, k86, n86⟩, -, X86, ⟨Lc86, hQ86, l86, y86, z86⟩, st86⟩ := X85.virtualBack hx (y := (⟨"com/example/lone1/lone1/solve/SweepOrder", "next", "()I"⟩ : MethodName)) (z := (⟨"com/example/lone1/lone1/solve/SweepOrder", "next", "()I"⟩ : MethodName)) hown (mvT hZ w_29) (mvT hZ w_30) (notFace_of_selects (args := #[]) (mvT hZ w_32)) (mvT hZ w_32) (mvT hZ w_31) (by decide) (backOf (W := 0) (rm6 l Z a0 hw [] b80 ar kk (2 : Int32) (1 : Int32) u1 u0 u1 u2 T84.heap n0 gZ84 gP84 Gb80 ne_b80_ar hc9201_33) hZ w_33 w_10 (by decide) (by decide)) q86a q86c (g := (mkF m 259 #[.val (.long q0), .second, .val (.long q1), .second, .val (.long q2), .second, .val (.int p3), .val (.int n7), .val (.long w0), .second, .val (.long w1), .second, .val (.long w2), .second, .val (.ref ar), .val (.long u0), .second, .val (.long u1), .second, .val (.long u2), .second, .val (.int cnt), .val (.int (1 : Int32)), .val (.int (1 : Int32)), .val (.ref b80)] [(.ref b80)])) rfl (by rw [hml]; rfl) (Steps.refl _) (argsL := []) (rest := []) (lenOf pd0___I rfl) rfl (by show 2 * 0 + _ ≤ _; exact Nat.le_of_eq rfl) (hb hby at_259) (fun _ _ => ⟨rfl, e85, (by decide : 2 + 0 ≤ _), (by decide : 6 + 0 ≤ _)⟩)
      dsimp only [Pt.U, Pt.locs, Pt.cells, Pt.slots] at X86 l86 y86 z86 st86 hQ86
      subst l86 y86 z86
      obtain ⟨rfl, N86q, gZ86, gP86⟩ := hQ86
      have N86 := Fr.app N85 N86q
      refine bk (fun t k => st86.trans k) ?_
      refine bk (fun t k => XS.pop X86.here hx rfl (hb hby at_262) rfl rfl k) ?_
      refine bk (fun t k => XS.aload X86.here hx rfl (hb hby at_263) rfl rfl k) ?_
      show F (T86.setTop (mkF m 265 #[.val (.long q0), .second, .val (.long q1), .second, .val (.long q2), .second, .val (.int p3), .val (.int n7), .val (.long w0), .second, .val (.long w1), .second, .val (.long w2), .second, .val (.ref ar), .val (.long u0), .second, .val (.long u1), .second, .val (.long u2), .second, .val (.int cnt), .val (.int (1 : Int32)), .val (.int (1 : Int32)), .val (.ref b80)] [(.ref b80)]))
      obtain ⟨cq87, kq87, q87a, q87b, q87c⟩ := isOf hZ rfl (gP86.1)
      obtain ⟨_, _, ⟨T87, L87, k87, n87⟩, -, X87, ⟨Lc87, hQ87, l87, y87, z87⟩, st87⟩ := X86.virtualBack hx (y := (⟨"com/example/lone1/lone1/solve/SweepOrder", "hasNext", "()Z"⟩ : MethodName)) (z := (⟨"com/example/lone1/lone1/solve/SweepOrder", "hasNext", "()Z"⟩ : MethodName)) hown (mvT hZ w_21) (mvT hZ w_22) (notFace_of_selects (args := #[]) (mvT hZ w_24)) (mvT hZ w_24) (mvT hZ w_23) (by decide) (backOf (W := 0) (rm5N l Z a0 hw [] b80 (own_clr u1) T86.heap n0 gZ86 gP86.2.2.2.1 hc9101_60) hZ w_25 w_10 (by decide) (by decide)) q87a q87c (g := (mkF m 265 #[.val (.long q0), .second, .val (.long q1), .second, .val (.long q2), .second, .val (.int p3), .val (.int n7), .val (.long w0), .second, .val (.long w1), .second, .val (.long w2), .second, .val (.ref ar), .val (.long u0), .second, .val (.long u1), .second, .val (.long u2), .second, .val (.int cnt), .val (.int (1 : Int32)), .val (.int (1 : Int32)), .val (.ref b80)] [(.ref b80)])) rfl (by rw [hml]; rfl) (Steps.refl _) (argsL := []) (rest := []) (lenOf pd0___Z rfl) rfl (by show 2 * 0 + _ ≤ _; exact Nat.le_of_eq rfl) (hb hby at_265) (fun _ _ => ⟨rfl, rfl, (by decide : 2 + 0 ≤ _), (by decide : 6 + 0 ≤ _)⟩)
      dsimp only [Pt.U, Pt.locs, Pt.cells, Pt.slots] at X87 l87 y87 z87 st87 hQ87
      subst l87 y87 z87
      obtain ⟨rfl, N87q, e87⟩ := hQ87
      have N87 := Fr.app N86 N87q
      refine bk (fun t k => st87.trans k) ?_
      refine bk (fun t k => XS.iload X87.here hx rfl (hb hby at_268) rfl k) ?_
      show F (T87.setTop (mkF m 270 #[.val (.long q0), .second, .val (.long q1), .second, .val (.long q2), .second, .val (.int p3), .val (.int n7), .val (.long w0), .second, .val (.long w1), .second, .val (.long w2), .second, .val (.ref ar), .val (.long u0), .second, .val (.long u1), .second, .val (.long u2), .second, .val (.int cnt), .val (.int (1 : Int32)), .val (.int (1 : Int32)), .val (.ref b80)] [(.int (1 : Int32)), (.int (1 : Int32))]))
      refine bk (fun t k => XS.icmpYes X87.here hx rfl (pc0 := 270) (pc' := 275) rfl (hb hby at_270) rfl (teq (by decide : (1 : Int32) = (1 : Int32))).1 (by decide) (by decide) k) ?_
      refine bk (fun t k => XS.aload X87.here hx rfl (hb hby at_275) rfl rfl k) ?_
      show F (T87.setTop (mkF m 277 #[.val (.long q0), .second, .val (.long q1), .second, .val (.long q2), .second, .val (.int p3), .val (.int n7), .val (.long w0), .second, .val (.long w1), .second, .val (.long w2), .second, .val (.ref ar), .val (.long u0), .second, .val (.long u1), .second, .val (.long u2), .second, .val (.int cnt), .val (.int (1 : Int32)), .val (.int (1 : Int32)), .val (.ref b80)] [(.ref b80)]))
      obtain ⟨cq88, kq88, q88a, q88b, q88c⟩ := isOf hZ e87 (gP86.1)
      obtain ⟨_, _, ⟨T88, L88, k88, n88⟩, -, X88, ⟨Lc88, hQ88, l88, y88, z88⟩, st88⟩ := X87.virtualBack hx (y := (⟨"com/example/lone1/lone1/solve/SweepOrder", "hasNext", "()Z"⟩ : MethodName)) (z := (⟨"com/example/lone1/lone1/solve/SweepOrder", "hasNext", "()Z"⟩ : MethodName)) hown (mvT hZ w_21) (mvT hZ w_22) (notFace_of_selects (args := #[]) (mvT hZ w_24)) (mvT hZ w_24) (mvT hZ w_23) (by decide) (backOf (W := 0) (rm5N l Z a0 hw [] b80 (own_clr u1) T86.heap n0 gZ86 gP86.2.2.2.1 hc9101_60) hZ w_25 w_10 (by decide) (by decide)) q88a q88c (g := (mkF m 277 #[.val (.long q0), .second, .val (.long q1), .second, .val (.long q2), .second, .val (.int p3), .val (.int n7), .val (.long w0), .second, .val (.long w1), .second, .val (.long w2), .second, .val (.ref ar), .val (.long u0), .second, .val (.long u1), .second, .val (.long u2), .second, .val (.int cnt), .val (.int (1 : Int32)), .val (.int (1 : Int32)), .val (.ref b80)] [(.ref b80)])) rfl (by rw [hml]; rfl) (Steps.refl _) (argsL := []) (rest := []) (lenOf pd0___Z rfl) rfl (by show 2 * 0 + _ ≤ _; exact Nat.le_of_eq rfl) (hb hby at_277) (fun _ _ => ⟨rfl, e87, (by decide : 2 + 0 ≤ _), (by decide : 6 + 0 ≤ _)⟩)
      dsimp only [Pt.U, Pt.locs, Pt.cells, Pt.slots] at X88 l88 y88 z88 st88 hQ88
      subst l88 y88 z88
      obtain ⟨rfl, N88q, e88⟩ := hQ88
      have N88 := Fr.app N87 N88q
      refine bk (fun t k => st88.trans k) ?_
      refine bk (fun t k => XS.iload X88.here hx rfl (hb hby at_280) rfl k) ?_
      show F (T88.setTop (mkF m 282 #[.val (.long q0), .second, .val (.long q1), .second, .val (.long q2), .second, .val (.int p3), .val (.int n7), .val (.long w0), .second, .val (.long w1), .second, .val (.long w2), .second, .val (.ref ar), .val (.long u0), .second, .val (.long u1), .second, .val (.long u2), .second, .val (.int cnt), .val (.int (1 : Int32)), .val (.int (1 : Int32)), .val (.ref b80)] [(.int (1 : Int32)), (.int (1 : Int32))]))
      refine bk (fun t k => XS.icmpNo X88.here hx rfl (hb hby at_282) rfl (teq (by decide : (1 : Int32) = (1 : Int32))).2 k) ?_
      refine bk (fun t k => XS.iconst X88.here hx rfl (hb hby at_285) k) ?_
      refine bk (fun t k => XS.goto X88.here hx rfl (pc0 := 286) (pc' := 290) rfl (hb hby at_286) (by decide) (by decide) k) ?_
      show F (T88.setTop (mkF m 290 #[.val (.long q0), .second, .val (.long q1), .second, .val (.long q2), .second, .val (.int p3), .val (.int n7), .val (.long w0), .second, .val (.long w1), .second, .val (.long w2), .second, .val (.ref ar), .val (.long u0), .second, .val (.long u1), .second, .val (.long u2), .second, .val (.int cnt), .val (.int (1 : Int32)), .val (.int (1 : Int32)), .val (.ref b80)] [(.int (1 : Int32))]))
      rw [hF]
      refine own_retZ X88 hx Bd.notSynchronized Bd.returns (hb hby at_290) (by decide) (by decide) ?_
      rw [e88]
      exact ⟨rfl, N88⟩
set_option maxRecDepth 65536 in
set_option maxHeartbeats 40000000 in
theorem own_J213_3 (l : Launch) (Z : State) (a0 : Array Value) (hw : ∀ d ∈ tables_1, d.before a0 Z = true) (ws : List Jvm.Cond) (q0 : Int64) (q1 : Int64) (q2 : Int64) (p3 : Int32) (h0 : Heap) (n0 : Nat) (Z0 : n0 ≤ h0.size) {p : Program} {e : Env} {s : State} {m : MethodId} {below : List Frame} {meth : Method} {c : Code} {s₁ : State}
    (Bd : BodyLoose p l x (head1 (Jvm.Cond.code x code maxLocals ret :: ws) room_1) code maxLocals ret e s m #[(.long q0), (.long q1), (.long q2), (.int p3)] below meth c s₁) (hml : c.maxLocals = 25) (hZ : Z.Warmed39 s.vm) (F : State → Prop) (hF : F = own_Fin p e below s room_1.cells room_1.slots (fun v h L => Q0 Z q0 q1 q2 p3 h0 n0 v h L))
    (bk : ∀ {A B : State}, (∀ t, Steps p.tables e below B t → Steps p.tables e below A t) → F B → F A) : ∀ (TJ : State) (LJ : List Loc) (hJ : Heap) (XJ : Stand p l e room_1 s m #[(.long q0), (.long q1), (.long q2), (.int p3)] below meth c TJ LJ 1 3) (eJ : TJ.heap = hJ) (NJ : Fr n0 LJ) (n7 : Int32) (w0 : Int64) (w1 : Int64) (w2 : Int64) (ar : Addr) (u0 : Int64) (u1 : Int64) (u2 : Int64) (kk : ClassId) (jZ : n0 ≤ hJ.size) (jV : Arv Z hJ ar kk .long (3 : Int32) [.long u0, .long u1, .long u2] (.long (0 : Int64))) (cnt : Int32) (hcnt : cnt = own_cnt u0 u1 u2) (any : Int32) (hany : any = own_anyc cnt) (two : Int32) (htwo : two = own_two cnt u0 u1 u2), F (TJ.setTop (mkF m 213 #[.val (.long q0), .second, .val (.long q1), .second, .val (.long q2), .second, .val (.int p3), .val (.int n7), .val (.long w0), .second, .val (.long w1), .second, .val (.long w2), .second, .val (.ref ar), .val (.long u0), .second, .val (.long u1), .second, .val (.long u2), .second, .val (.int cnt), .val (.int any), .unset, .unset] [(.int two)])) := by
  intro TJ LJ hJ XJ eJ NJ n7 w0 w1 w2 ar u0 u1 u2 kk jZ jV cnt hcnt any hany two htwo
  have hx := Bd.exec
  have hby := Bd.bytes
  have hown : s.vm.findClass "com/example/lone1/lone1/solve/SweepOrderHasNextPinLaw" = some m.cls := findClass_of_methodNamed Bd.named
  have hnm := (name_of_methodNamed Bd.named Bd.method).1
  have w_8 := hw _ (List.mem_of_getElem? (i := 8) rfl)
  have w_9 := hw _ (List.mem_of_getElem? (i := 9) rfl)
  have w_10 := hw _ (List.mem_of_getElem? (i := 10) rfl)
  have w_11 := hw _ (List.mem_of_getElem? (i := 11) rfl)
  have w_12 := hw _ (List.mem_of_getElem? (i := 12) rfl)
  have w_13 := hw _ (List.mem_of_getElem? (i := 13) rfl)
  have w_18 := hw _ (List.mem_of_getElem? (i := 18) rfl)
  have w_20 := hw _ (List.mem_of_getElem? (i := 20) rfl)
  have w_21 := hw _ (List.mem_of_getElem? (i := 21) rfl)
  have w_22 := hw _ (List.mem_of_getElem? (i := 22) rfl)
  have w_23 := hw _ (List.mem_of_getElem? (i := 23) rfl)
  have w_24 := hw _ (List.mem_of_getElem? (i := 24) rfl)
  have w_25 := hw _ (List.mem_of_getElem? (i := 25) rfl)
  have w_27 := hw _ (List.mem_of_getElem? (i := 27) rfl)
  have w_29 := hw _ (List.mem_of_getElem? (i := 29) rfl)
  have w_30 := hw _ (List.mem_of_getElem? (i := 30) rfl)
  have w_31 := hw _ (List.mem_of_getElem? (i := 31) rfl)
  have w_32 := hw _ (List.mem_of_getElem? (i := 32) rfl)
  have w_33 := hw _ (List.mem_of_getElem? (i := 33) rfl)
  by_cases hc9202_89 : u2 = (0 : Int64)
  · by_cases hc9201_90 : u1 = (0 : Int64)
    · by_cases hc9200_91 : u0 = (0 : Int64)
      · obtain rfl : any = (0 : Int32) := hany.trans (by subst hcnt; simp +decide [own_anyc, own_cnt, own_b, hc9202_89, hc9201_90, hc9200_91])
        obtain rfl : two = (0 : Int32) := htwo.trans (by subst hcnt; simp +decide [own_two, own_cnt, own_b, own_mb0, hc9202_89, hc9201_90, hc9200_91])
        show F (TJ.setTop (mkF m 213 #[.val (.long q0), .second, .val (.long q1), .second, .val (.long q2), .second, .val (.int p3), .val (.int n7), .val (.long w0), .second, .val (.long w1), .second, .val (.long w2), .second, .val (.ref ar), .val (.long u0), .second, .val (.long u1), .second, .val (.long u2), .second, .val (.int cnt), .val (.int (0 : Int32)), .unset, .unset] [(.int (0 : Int32))]))
        refine bk (fun t k => XS.istore XJ.here hx rfl (hb hby at_213) rfl (l' := #[.val (.long q0), .second, .val (.long q1), .second, .val (.long q2), .second, .val (.int p3), .val (.int n7), .val (.long w0), .second, .val (.long w1), .second, .val (.long w2), .second, .val (.ref ar), .val (.long u0), .second, .val (.long u1), .second, .val (.long u2), .second, .val (.int cnt), .val (.int (0 : Int32)), .val (.int (0 : Int32)), .unset]) rfl k) ?_
        show F (TJ.setTop (mkF m 215 #[.val (.long q0), .second, .val (.long q1), .second, .val (.long q2), .second, .val (.int p3), .val (.int n7), .val (.long w0), .second, .val (.long w1), .second, .val (.long w2), .second, .val (.ref ar), .val (.long u0), .second, .val (.long u1), .second, .val (.long u2), .second, .val (.int cnt), .val (.int (0 : Int32)), .val (.int (0 : Int32)), .unset] []))
        obtain ⟨T92, h92, X92, e92, E92, A92, D92, -, st92⟩ := newO XJ hx hZ hown w_8 w_9 w_10 eJ (g := (mkF m 215 #[.val (.long q0), .second, .val (.long q1), .second, .val (.long q2), .second, .val (.int p3), .val (.int n7), .val (.long w0), .second, .val (.long w1), .second, .val (.long w2), .second, .val (.ref ar), .val (.long u0), .second, .val (.long u1), .second, .val (.long u2), .second, .val (.int cnt), .val (.int (0 : Int32)), .val (.int (0 : Int32)), .unset] [])) rfl (hb hby at_215) (by decide) (by decide)
        obtain ⟨b92, g92⟩ : ∃ z, z = hJ.size := ⟨_, rfl⟩
        rw [← g92] at A92 D92 st92
        have Gb92 : n0 ≤ b92 := Nat.le_trans jZ (Nat.le_of_eq g92.symm)
        have ne_ar_b92 : ar ≠ b92 := Nat.ne_of_lt (Nat.lt_of_lt_of_le jV.lt (Nat.le_of_eq g92.symm))
        have f93 := Nat.le_trans jZ E92.1
        have f94 := jV.ext E92
        have F_words_b92 : Fld Z h92 b92 "com/example/lone1/lone1/solve/SweepOrder" "words" "[J" .null := D92 (Or.inr w_18) (ty := (.array .long)) (by decide)
        have F_at_b92 : Fld Z h92 b92 "com/example/lone1/lone1/solve/SweepOrder" "at" "I" (.int (0 : Int32)) := D92 (Or.inl w_20) (ty := .int) (by decide)
        have F_word_b92 : Fld Z h92 b92 "com/example/lone1/lone1/solve/SweepOrder" "word" "J" (.long (0 : Int64)) := D92 (Or.inl w_27) (ty := .long) (by decide)
        refine bk (fun t k => st92 t k) ?_
        refine bk (fun t k => XS.dup X92.here hx rfl (hb hby at_218) rfl rfl k) ?_
        refine bk (fun t k => XS.aload X92.here hx rfl (hb hby at_219) rfl rfl k) ?_
        show F (T92.setTop (mkF m 221 #[.val (.long q0), .second, .val (.long q1), .second, .val (.long q2), .second, .val (.int p3), .val (.int n7), .val (.long w0), .second, .val (.long w1), .second, .val (.long w2), .second, .val (.ref ar), .val (.long u0), .second, .val (.long u1), .second, .val (.long u2), .second, .val (.int cnt), .val (.int (0 : Int32)), .val (.int (0 : Int32)), .unset] [(.ref ar), (.ref b92), (.ref b92)]))
        obtain ⟨_, _, ⟨T95, L95, k95, n95⟩, -, X95, ⟨Lc95, hQ95, l95, y95, z95⟩, st95⟩ := X92.specialBack hx (y := (⟨"com/example/lone1/lone1/solve/SweepOrder", "<init>", "([J)V"⟩ : MethodName)) rfl hown (mvT hZ w_11) (mvT hZ w_12) (mvT hZ w_13) (by decide) (backOf (W := 1) (rm3 l Z a0 hw [] b92 ar kk (3 : Int32) u0 u1 u2 h92 n0 f93 A92 F_words_b92 F_at_b92 F_word_b92 f94 Gb92 (Ne.symm ne_ar_b92)) hZ w_13 w_10 (by decide) (by decide)) (g := (mkF m 221 #[.val (.long q0), .second, .val (.long q1), .second, .val (.long q2), .second, .val (.int p3), .val (.int n7), .val (.long w0), .second, .val (.long w1), .second, .val (.long w2), .second, .val (.ref ar), .val (.long u0), .second, .val (.long u1), .second, .val (.long u2), .second, .val (.int cnt), .val (.int (0 : Int32)), .val (.int (0 : Int32)), .unset] [(.ref ar), (.ref b92), (.ref b92)])) rfl (by rw [hml]; rfl) (Steps.refl _) (a := b92) (argsL := [(.ref ar)]) (rest := [(.ref b92)]) (lenOf pd0___J_V rfl) rfl (by show 2 * 0 + _ ≤ _; exact Nat.le_of_eq rfl) (hb hby at_221) (fun _ _ => ⟨rfl, e92, (by decide : 2 + 0 ≤ _), (by decide : 6 + 0 ≤ _)⟩)
        dsimp only [Pt.U, Pt.locs, Pt.cells, Pt.slots] at X95 l95 y95 z95 st95 hQ95
        subst l95 y95 z95
        obtain ⟨rfl, N95q, gZ95, gP95⟩ := hQ95
        have N95 := Fr.app NJ N95q
        have ne_b92_ar : b92 ≠ ar := (Ne.symm ne_ar_b92)
        refine bk (fun t k => st95.trans k) ?_
        show F (T95.setTop (mkF m 224 #[.val (.long q0), .second, .val (.long q1), .second, .val (.long q2), .second, .val (.int p3), .val (.int n7), .val (.long w0), .second, .val (.long w1), .second, .val (.long w2), .second, .val (.ref ar), .val (.long u0), .second, .val (.long u1), .second, .val (.long u2), .second, .val (.int cnt), .val (.int (0 : Int32)), .val (.int (0 : Int32)), .unset] [(.ref b92)]))
        refine bk (fun t k => XS.astore X95.here hx rfl (hb hby at_224) rfl rfl (l' := #[.val (.long q0), .second, .val (.long q1), .second, .val (.long q2), .second, .val (.int p3), .val (.int n7), .val (.long w0), .second, .val (.long w1), .second, .val (.long w2), .second, .val (.ref ar), .val (.long u0), .second, .val (.long u1), .second, .val (.long u2), .second, .val (.int cnt), .val (.int (0 : Int32)), .val (.int (0 : Int32)), .val (.ref b92)]) rfl k) ?_
        refine bk (fun t k => XS.aload X95.here hx rfl (hb hby at_226) rfl rfl k) ?_
        show F (T95.setTop (mkF m 228 #[.val (.long q0), .second, .val (.long q1), .second, .val (.long q2), .second, .val (.int p3), .val (.int n7), .val (.long w0), .second, .val (.long w1), .second, .val (.long w2), .second, .val (.ref ar), .val (.long u0), .second, .val (.long u1), .second, .val (.long u2), .second, .val (.int cnt), .val (.int (0 : Int32)), .val (.int (0 : Int32)), .val (.ref b92)] [(.ref b92)]))
        obtain ⟨cq96, kq96, q96a, q96b, q96c⟩ := isOf hZ rfl (gP95.1)
        obtain ⟨_, _, ⟨T96, L96, k96, n96⟩, -, X96, ⟨Lc96, hQ96, l96, y96, z96⟩, st96⟩ := X95.virtualBack hx (y := (⟨"com/example/lone1/lone1/solve/SweepOrder", "hasNext", "()Z"⟩ : MethodName)) (z := (⟨"com/example/lone1/lone1/solve/SweepOrder", "hasNext", "()Z"⟩ : MethodName)) hown (mvT hZ w_21) (mvT hZ w_22) (notFace_of_selects (args := #[]) (mvT hZ w_24)) (mvT hZ w_24) (mvT hZ w_23) (by decide) (backOf (W := 0) (rm5Z3n l Z a0 hw [] b92 ar kk (3 : Int32) u0 u1 u2 T95.heap n0 gZ95 gP95 Gb92 ne_b92_ar (by decide) (by decide) (by decide) hc9202_89 hc9201_90 hc9200_91) hZ w_25 w_10 (by decide) (by decide)) q96a q96c (g := (mkF m 228 #[.val (.long q0), .second, .val (.long q1), .second, .val (.long q2), .second, .val (.int p3), .val (.int n7), .val (.long w0), .second, .val (.long w1), .second, .val (.long w2), .second, .val (.ref ar), .val (.long u0), .second, .val (.long u1), .second, .val (.long u2), .second, .val (.int cnt), .val (.int (0 : Int32)), .val (.int (0 : Int32)), .val (.ref b92)] [(.ref b92)])) rfl (by rw [hml]; rfl) (Steps.refl _) (argsL := []) (rest := []) (lenOf pd0___Z rfl) rfl (by show 2 * 0 + _ ≤ _; exact Nat.le_of_eq rfl) (hb hby at_228) (fun _ _ => ⟨rfl, rfl, (by decide : 2 + 0 ≤ _), (by decide : 6 + 0 ≤ _)⟩)
        dsimp only [Pt.U, Pt.locs, Pt.cells, Pt.slots] at X96 l96 y96 z96 st96 hQ96
        subst l96 y96 z96
        obtain ⟨rfl, N96q, gZ96, gP96⟩ := hQ96
        have N96 := Fr.app N95 N96q
        refine bk (fun t k => st96.trans k) ?_
        refine bk (fun t k => XS.iload X96.here hx rfl (hb hby at_231) rfl k) ?_
        show F (T96.setTop (mkF m 233 #[.val (.long q0), .second, .val (.long q1), .second, .val (.long q2), .second, .val (.int p3), .val (.int n7), .val (.long w0), .second, .val (.long w1), .second, .val (.long w2), .second, .val (.ref ar), .val (.long u0), .second, .val (.long u1), .second, .val (.long u2), .second, .val (.int cnt), .val (.int (0 : Int32)), .val (.int (0 : Int32)), .val (.ref b92)] [(.int (0 : Int32)), (.int (0 : Int32))]))
        refine bk (fun t k => XS.icmpYes X96.here hx rfl (pc0 := 233) (pc' := 238) rfl (hb hby at_233) rfl (teq (by decide : (0 : Int32) = (0 : Int32))).1 (by decide) (by decide) k) ?_
        refine bk (fun t k => XS.aload X96.here hx rfl (hb hby at_238) rfl rfl k) ?_
        show F (T96.setTop (mkF m 240 #[.val (.long q0), .second, .val (.long q1), .second, .val (.long q2), .second, .val (.int p3), .val (.int n7), .val (.long w0), .second, .val (.long w1), .second, .val (.long w2), .second, .val (.ref ar), .val (.long u0), .second, .val (.long u1), .second, .val (.long u2), .second, .val (.int cnt), .val (.int (0 : Int32)), .val (.int (0 : Int32)), .val (.ref b92)] [(.ref b92)]))
        obtain ⟨cq97, kq97, q97a, q97b, q97c⟩ := isOf hZ rfl (gP96.1)
        obtain ⟨_, _, ⟨T97, L97, k97, n97⟩, -, X97, ⟨Lc97, hQ97, l97, y97, z97⟩, st97⟩ := X96.virtualBack hx (y := (⟨"com/example/lone1/lone1/solve/SweepOrder", "hasNext", "()Z"⟩ : MethodName)) (z := (⟨"com/example/lone1/lone1/solve/SweepOrder", "hasNext", "()Z"⟩ : MethodName)) hown (mvT hZ w_21) (mvT hZ w_22) (notFace_of_selects (args := #[]) (mvT hZ w_24)) (mvT hZ w_24) (mvT hZ w_23) (by decide) (backOf (W := 0) (rm5Z0n l Z a0 hw [] b92 ar kk (3 : Int32) u0 u1 u2 T96.heap n0 gZ96 (own_S0 hc9200_91 gP96) Gb92 ne_b92_ar ) hZ w_25 w_10 (by decide) (by decide)) q97a q97c (g := (mkF m 240 #[.val (.long q0), .second, .val (.long q1), .second, .val (.long q2), .second, .val (.int p3), .val (.int n7), .val (.long w0), .second, .val (.long w1), .second, .val (.long w2), .second, .val (.ref ar), .val (.long u0), .second, .val (.long u1), .second, .val (.long u2), .second, .val (.int cnt), .val (.int (0 : Int32)), .val (.int (0 : Int32)), .val (.ref b92)] [(.ref b92)])) rfl (by rw [hml]; rfl) (Steps.refl _) (argsL := []) (rest := []) (lenOf pd0___Z rfl) rfl (by show 2 * 0 + _ ≤ _; exact Nat.le_of_eq rfl) (hb hby at_240) (fun _ _ => ⟨rfl, rfl, (by decide : 2 + 0 ≤ _), (by decide : 6 + 0 ≤ _)⟩)
        dsimp only [Pt.U, Pt.locs, Pt.cells, Pt.slots] at X97 l97 y97 z97 st97 hQ97
        subst l97 y97 z97
        obtain ⟨rfl, N97q, gZ97, gP97⟩ := hQ97
        have N97 := Fr.app N96 N97q
        refine bk (fun t k => st97.trans k) ?_
        refine bk (fun t k => XS.iload X97.here hx rfl (hb hby at_243) rfl k) ?_
        show F (T97.setTop (mkF m 245 #[.val (.long q0), .second, .val (.long q1), .second, .val (.long q2), .second, .val (.int p3), .val (.int n7), .val (.long w0), .second, .val (.long w1), .second, .val (.long w2), .second, .val (.ref ar), .val (.long u0), .second, .val (.long u1), .second, .val (.long u2), .second, .val (.int cnt), .val (.int (0 : Int32)), .val (.int (0 : Int32)), .val (.ref b92)] [(.int (0 : Int32)), (.int (0 : Int32))]))
        refine bk (fun t k => XS.icmpYes X97.here hx rfl (pc0 := 245) (pc' := 250) rfl (hb hby at_245) rfl (teq (by decide : (0 : Int32) = (0 : Int32))).1 (by decide) (by decide) k) ?_
        refine bk (fun t k => XS.iload X97.here hx rfl (hb hby at_250) rfl k) ?_
        show F (T97.setTop (mkF m 252 #[.val (.long q0), .second, .val (.long q1), .second, .val (.long q2), .second, .val (.int p3), .val (.int n7), .val (.long w0), .second, .val (.long w1), .second, .val (.long w2), .second, .val (.ref ar), .val (.long u0), .second, .val (.long u1), .second, .val (.long u2), .second, .val (.int cnt), .val (.int (0 : Int32)), .val (.int (0 : Int32)), .val (.ref b92)] [(.int (0 : Int32))]))
        refine bk (fun t k => XS.ifNo X97.here hx rfl (hb hby at_252) rfl ((if0 _ _).trans (teq (by decide : (0 : Int32) = (0 : Int32))).2) k) ?_
        refine bk (fun t k => XS.iconst X97.here hx rfl (hb hby at_255) k) ?_
        show F (T97.setTop (mkF m 256 #[.val (.long q0), .second, .val (.long q1), .second, .val (.long q2), .second, .val (.int p3), .val (.int n7), .val (.long w0), .second, .val (.long w1), .second, .val (.long w2), .second, .val (.ref ar), .val (.long u0), .second, .val (.long u1), .second, .val (.long u2), .second, .val (.int cnt), .val (.int (0 : Int32)), .val (.int (0 : Int32)), .val (.ref b92)] [(.int (1 : Int32))]))
        rw [hF]
        refine own_retZ X97 hx Bd.notSynchronized Bd.returns (hb hby at_256) (by decide) (by decide) ?_
        exact ⟨rfl, N97⟩
      · by_cases hc9100_98 : (own_clr u0) = (0 : Int64)
        · obtain rfl : any = (1 : Int32) := hany.trans (by subst hcnt; simp +decide [own_anyc, own_cnt, own_b, hc9202_89, hc9201_90, hc9200_91, hc9100_98])
          obtain rfl : two = (0 : Int32) := htwo.trans (by subst hcnt; simp +decide [own_two, own_cnt, own_b, own_mb0, hc9202_89, hc9201_90, hc9200_91, hc9100_98, own_clr_mb hc9200_91 hc9100_98])
          show F (TJ.setTop (mkF m 213 #[.val (.long q0), .second, .val (.long q1), .second, .val (.long q2), .second, .val (.int p3), .val (.int n7), .val (.long w0), .second, .val (.long w1), .second, .val (.long w2), .second, .val (.ref ar), .val (.long u0), .second, .val (.long u1), .second, .val (.long u2), .second, .val (.int cnt), .val (.int (1 : Int32)), .unset, .unset] [(.int (0 : Int32))]))
          refine bk (fun t k => XS.istore XJ.here hx rfl (hb hby at_213) rfl (l' := #[.val (.long q0), .second, .val (.long q1), .second, .val (.long q2), .second, .val (.int p3), .val (.int n7), .val (.long w0), .second, .val (.long w1), .second, .val (.long w2), .second, .val (.ref ar), .val (.long u0), .second, .val (.long u1), .second, .val (.long u2), .second, .val (.int cnt), .val (.int (1 : Int32)), .val (.int (0 : Int32)), .unset]) rfl k) ?_
          show F (TJ.setTop (mkF m 215 #[.val (.long q0), .second, .val (.long q1), .second, .val (.long q2), .second, .val (.int p3), .val (.int n7), .val (.long w0), .second, .val (.long w1), .second, .val (.long w2), .second, .val (.ref ar), .val (.long u0), .second, .val (.long u1), .second, .val (.long u2), .second, .val (.int cnt), .val (.int (1 : Int32)), .val (.int (0 : Int32)), .unset] []))
          obtain ⟨T99, h99, X99, e99, E99, A99, D99, -, st99⟩ := newO XJ hx hZ hown w_8 w_9 w_10 eJ (g := (mkF m 215 #[.val (.long q0), .second, .val (.long q1), .second, .val (.long q2), .second, .val (.int p3), .val (.int n7), .val (.long w0), .second, .val (.long w1), .second, .val (.long w2), .second, .val (.ref ar), .val (.long u0), .second, .val (.long u1), .second, .val (.long u2), .second, .val (.int cnt), .val (.int (1 : Int32)), .val (.int (0 : Int32)), .unset] [])) rfl (hb hby at_215) (by decide) (by decide)
          obtain ⟨b99, g99⟩ : ∃ z, z = hJ.size := ⟨_, rfl⟩
          rw [← g99] at A99 D99 st99
          have Gb99 : n0 ≤ b99 := Nat.le_trans jZ (Nat.le_of_eq g99.symm)
          have ne_ar_b99 : ar ≠ b99 := Nat.ne_of_lt (Nat.lt_of_lt_of_le jV.lt (Nat.le_of_eq g99.symm))
          have f100 := Nat.le_trans jZ E99.1
          have f101 := jV.ext E99
          have F_words_b99 : Fld Z h99 b99 "com/example/lone1/lone1/solve/SweepOrder" "words" "[J" .null := D99 (Or.inr w_18) (ty := (.array .long)) (by decide)
          have F_at_b99 : Fld Z h99 b99 "com/example/lone1/lone1/solve/SweepOrder" "at" "I" (.int (0 : Int32)) := D99 (Or.inl w_20) (ty := .int) (by decide)
          have F_word_b99 : Fld Z h99 b99 "com/example/lone1/lone1/solve/SweepOrder" "word" "J" (.long (0 : Int64)) := D99 (Or.inl w_27) (ty := .long) (by decide)
          refine bk (fun t k => st99 t k) ?_
          refine bk (fun t k => XS.dup X99.here hx rfl (hb hby at_218) rfl rfl k) ?_
          refine bk (fun t k => XS.aload X99.here hx rfl (hb hby at_219) rfl rfl k) ?_
          show F (T99.setTop (mkF m 221 #[.val (.long q0), .second, .val (.long q1), .second, .val (.long q2), .second, .val (.int p3), .val (.int n7), .val (.long w0), .second, .val (.long w1), .second, .val (.long w2), .second, .val (.ref ar), .val (.long u0), .second, .val (.long u1), .second, .val (.long u2), .second, .val (.int cnt), .val (.int (1 : Int32)), .val (.int (0 : Int32)), .unset] [(.ref ar), (.ref b99), (.ref b99)]))
          obtain ⟨_, _, ⟨T102, L102, k102, n102⟩, -, X102, ⟨Lc102, hQ102, l102, y102, z102⟩, st102⟩ := X99.specialBack hx (y := (⟨"com/example/lone1/lone1/solve/SweepOrder", "<init>", "([J)V"⟩ : MethodName)) rfl hown (mvT hZ w_11) (mvT hZ w_12) (mvT hZ w_13) (by decide) (backOf (W := 1) (rm3 l Z a0 hw [] b99 ar kk (3 : Int32) u0 u1 u2 h99 n0 f100 A99 F_words_b99 F_at_b99 F_word_b99 f101 Gb99 (Ne.symm ne_ar_b99)) hZ w_13 w_10 (by decide) (by decide)) (g := (mkF m 221 #[.val (.long q0), .second, .val (.long q1), .second, .val (.long q2), .second, .val (.int p3), .val (.int n7), .val (.long w0), .second, .val (.long w1), .second, .val (.long w2), .second, .val (.ref ar), .val (.long u0), .second, .val (.long u1), .second, .val (.long u2), .second, .val (.int cnt), .val (.int (1 : Int32)), .val (.int (0 : Int32)), .unset] [(.ref ar), (.ref b99), (.ref b99)])) rfl (by rw [hml]; rfl) (Steps.refl _) (a := b99) (argsL := [(.ref ar)]) (rest := [(.ref b99)]) (lenOf pd0___J_V rfl) rfl (by show 2 * 0 + _ ≤ _; exact Nat.le_of_eq rfl) (hb hby at_221) (fun _ _ => ⟨rfl, e99, (by decide : 2 + 0 ≤ _), (by decide : 6 + 0 ≤ _)⟩)
          dsimp only [Pt.U, Pt.locs, Pt.cells, Pt.slots] at X102 l102 y102 z102 st102 hQ102
          subst l102 y102 z102
          obtain ⟨rfl, N102q, gZ102, gP102⟩ := hQ102
          have N102 := Fr.app NJ N102q
          have ne_b99_ar : b99 ≠ ar := (Ne.symm ne_ar_b99)
          refine bk (fun t k => st102.trans k) ?_
          show F (T102.setTop (mkF m 224 #[.val (.long q0), .second, .val (.long q1), .second, .val (.long q2), .second, .val (.int p3), .val (.int n7), .val (.long w0), .second, .val (.long w1), .second, .val (.long w2), .second, .val (.ref ar), .val (.long u0), .second, .val (.long u1), .second, .val (.long u2), .second, .val (.int cnt), .val (.int (1 : Int32)), .val (.int (0 : Int32)), .unset] [(.ref b99)]))
          refine bk (fun t k => XS.astore X102.here hx rfl (hb hby at_224) rfl rfl (l' := #[.val (.long q0), .second, .val (.long q1), .second, .val (.long q2), .second, .val (.int p3), .val (.int n7), .val (.long w0), .second, .val (.long w1), .second, .val (.long w2), .second, .val (.ref ar), .val (.long u0), .second, .val (.long u1), .second, .val (.long u2), .second, .val (.int cnt), .val (.int (1 : Int32)), .val (.int (0 : Int32)), .val (.ref b99)]) rfl k) ?_
          refine bk (fun t k => XS.aload X102.here hx rfl (hb hby at_226) rfl rfl k) ?_
          show F (T102.setTop (mkF m 228 #[.val (.long q0), .second, .val (.long q1), .second, .val (.long q2), .second, .val (.int p3), .val (.int n7), .val (.long w0), .second, .val (.long w1), .second, .val (.long w2), .second, .val (.ref ar), .val (.long u0), .second, .val (.long u1), .second, .val (.long u2), .second, .val (.int cnt), .val (.int (1 : Int32)), .val (.int (0 : Int32)), .val (.ref b99)] [(.ref b99)]))
          obtain ⟨cq103, kq103, q103a, q103b, q103c⟩ := isOf hZ rfl (gP102.1)
          obtain ⟨_, _, ⟨T103, L103, k103, n103⟩, -, X103, ⟨Lc103, hQ103, l103, y103, z103⟩, st103⟩ := X102.virtualBack hx (y := (⟨"com/example/lone1/lone1/solve/SweepOrder", "hasNext", "()Z"⟩ : MethodName)) (z := (⟨"com/example/lone1/lone1/solve/SweepOrder", "hasNext", "()Z"⟩ : MethodName)) hown (mvT hZ w_21) (mvT hZ w_22) (notFace_of_selects (args := #[]) (mvT hZ w_24)) (mvT hZ w_24) (mvT hZ w_23) (by decide) (backOf (W := 0) (rm5Z30 l Z a0 hw [] b99 ar kk (3 : Int32) u0 u1 u2 T102.heap n0 gZ102 gP102 Gb99 ne_b99_ar (by decide) (by decide) (by decide) hc9202_89 hc9201_90 hc9200_91) hZ w_25 w_10 (by decide) (by decide)) q103a q103c (g := (mkF m 228 #[.val (.long q0), .second, .val (.long q1), .second, .val (.long q2), .second, .val (.int p3), .val (.int n7), .val (.long w0), .second, .val (.long w1), .second, .val (.long w2), .second, .val (.ref ar), .val (.long u0), .second, .val (.long u1), .second, .val (.long u2), .second, .val (.int cnt), .val (.int (1 : Int32)), .val (.int (0 : Int32)), .val (.ref b99)] [(.ref b99)])) rfl (by rw [hml]; rfl) (Steps.refl _) (argsL := []) (rest := []) (lenOf pd0___Z rfl) rfl (by show 2 * 0 + _ ≤ _; exact Nat.le_of_eq rfl) (hb hby at_228) (fun _ _ => ⟨rfl, rfl, (by decide : 2 + 0 ≤ _), (by decide : 6 + 0 ≤ _)⟩)
          dsimp only [Pt.U, Pt.locs, Pt.cells, Pt.slots] at X103 l103 y103 z103 st103 hQ103
          subst l103 y103 z103
          obtain ⟨rfl, N103q, gZ103, gP103⟩ := hQ103
          have N103 := Fr.app N102 N103q
          refine bk (fun t k => st103.trans k) ?_
          refine bk (fun t k => XS.iload X103.here hx rfl (hb hby at_231) rfl k) ?_
          show F (T103.setTop (mkF m 233 #[.val (.long q0), .second, .val (.long q1), .second, .val (.long q2), .second, .val (.int p3), .val (.int n7), .val (.long w0), .second, .val (.long w1), .second, .val (.long w2), .second, .val (.ref ar), .val (.long u0), .second, .val (.long u1), .second, .val (.long u2), .second, .val (.int cnt), .val (.int (1 : Int32)), .val (.int (0 : Int32)), .val (.ref b99)] [(.int (1 : Int32)), (.int (1 : Int32))]))
          refine bk (fun t k => XS.icmpYes X103.here hx rfl (pc0 := 233) (pc' := 238) rfl (hb hby at_233) rfl (teq (by decide : (1 : Int32) = (1 : Int32))).1 (by decide) (by decide) k) ?_
          refine bk (fun t k => XS.aload X103.here hx rfl (hb hby at_238) rfl rfl k) ?_
          show F (T103.setTop (mkF m 240 #[.val (.long q0), .second, .val (.long q1), .second, .val (.long q2), .second, .val (.int p3), .val (.int n7), .val (.long w0), .second, .val (.long w1), .second, .val (.long w2), .second, .val (.ref ar), .val (.long u0), .second, .val (.long u1), .second, .val (.long u2), .second, .val (.int cnt), .val (.int (1 : Int32)), .val (.int (0 : Int32)), .val (.ref b99)] [(.ref b99)]))
          obtain ⟨cq104, kq104, q104a, q104b, q104c⟩ := isOf hZ rfl (gP103.1)
          obtain ⟨_, _, ⟨T104, L104, k104, n104⟩, -, X104, ⟨Lc104, hQ104, l104, y104, z104⟩, st104⟩ := X103.virtualBack hx (y := (⟨"com/example/lone1/lone1/solve/SweepOrder", "hasNext", "()Z"⟩ : MethodName)) (z := (⟨"com/example/lone1/lone1/solve/SweepOrder", "hasNext", "()Z"⟩ : MethodName)) hown (mvT hZ w_21) (mvT hZ w_22) (notFace_of_selects (args := #[]) (mvT hZ w_24)) (mvT hZ w_24) (mvT hZ w_23) (by decide) (backOf (W := 0) (rm5N l Z a0 hw [] b99 u0 T103.heap n0 gZ103 gP103.2.2.2.1 hc9200_91) hZ w_25 w_10 (by decide) (by decide)) q104a q104c (g := (mkF m 240 #[.val (.long q0), .second, .val (.long q1), .second, .val (.long q2), .second, .val (.int p3), .val (.int n7), .val (.long w0), .second, .val (.long w1), .second, .val (.long w2), .second, .val (.ref ar), .val (.long u0), .second, .val (.long u1), .second, .val (.long u2), .second, .val (.int cnt), .val (.int (1 : Int32)), .val (.int (0 : Int32)), .val (.ref b99)] [(.ref b99)])) rfl (by rw [hml]; rfl) (Steps.refl _) (argsL := []) (rest := []) (lenOf pd0___Z rfl) rfl (by show 2 * 0 + _ ≤ _; exact Nat.le_of_eq rfl) (hb hby at_240) (fun _ _ => ⟨rfl, rfl, (by decide : 2 + 0 ≤ _), (by decide : 6 + 0 ≤ _)⟩)
          dsimp only [Pt.U, Pt.locs, Pt.cells, Pt.slots] at X104 l104 y104 z104 st104 hQ104
          subst l104 y104 z104
          obtain ⟨rfl, N104q, e104⟩ := hQ104
          have N104 := Fr.app N103 N104q
          refine bk (fun t k => st104.trans k) ?_
          refine bk (fun t k => XS.iload X104.here hx rfl (hb hby at_243) rfl k) ?_
          show F (T104.setTop (mkF m 245 #[.val (.long q0), .second, .val (.long q1), .second, .val (.long q2), .second, .val (.int p3), .val (.int n7), .val (.long w0), .second, .val (.long w1), .second, .val (.long w2), .second, .val (.ref ar), .val (.long u0), .second, .val (.long u1), .second, .val (.long u2), .second, .val (.int cnt), .val (.int (1 : Int32)), .val (.int (0 : Int32)), .val (.ref b99)] [(.int (1 : Int32)), (.int (1 : Int32))]))
          refine bk (fun t k => XS.icmpYes X104.here hx rfl (pc0 := 245) (pc' := 250) rfl (hb hby at_245) rfl (teq (by decide : (1 : Int32) = (1 : Int32))).1 (by decide) (by decide) k) ?_
          refine bk (fun t k => XS.iload X104.here hx rfl (hb hby at_250) rfl k) ?_
          show F (T104.setTop (mkF m 252 #[.val (.long q0), .second, .val (.long q1), .second, .val (.long q2), .second, .val (.int p3), .val (.int n7), .val (.long w0), .second, .val (.long w1), .second, .val (.long w2), .second, .val (.ref ar), .val (.long u0), .second, .val (.long u1), .second, .val (.long u2), .second, .val (.int cnt), .val (.int (1 : Int32)), .val (.int (0 : Int32)), .val (.ref b99)] [(.int (1 : Int32))]))
          refine bk (fun t k => XS.ifYes X104.here hx rfl (pc0 := 252) (pc' := 257) rfl (hb hby at_252) rfl ((if0 _ _).trans (feq (by decide : ¬ ((1 : Int32) = (0 : Int32)))).2) (by decide) (by decide) k) ?_
          refine bk (fun t k => XS.aload X104.here hx rfl (hb hby at_257) rfl rfl k) ?_
          show F (T104.setTop (mkF m 259 #[.val (.long q0), .second, .val (.long q1), .second, .val (.long q2), .second, .val (.int p3), .val (.int n7), .val (.long w0), .second, .val (.long w1), .second, .val (.long w2), .second, .val (.ref ar), .val (.long u0), .second, .val (.long u1), .second, .val (.long u2), .second, .val (.int cnt), .val (.int (1 : Int32)), .val (.int (0 : Int32)), .val (.ref b99)] [(.ref b99)]))
          obtain ⟨cq105, kq105, q105a, q105b, q105c⟩ := isOf hZ e104 (gP103.1)
          obtain ⟨_, _, ⟨T105, L105, k105, n105⟩, -, X105, ⟨Lc105, hQ105, l105, y105, z105⟩, st105⟩ := X104.virtualBack hx (y := (⟨"com/example/lone1/lone1/solve/SweepOrder", "next", "()I"⟩ : MethodName)) (z := (⟨"com/example/lone1/lone1/solve/SweepOrder", "next", "()I"⟩ : MethodName)) hown (mvT hZ w_29) (mvT hZ w_30) (notFace_of_selects (args := #[]) (mvT hZ w_32)) (mvT hZ w_32) (mvT hZ w_31) (by decide) (backOf (W := 0) (rm6 l Z a0 hw [] b99 ar kk (3 : Int32) (0 : Int32) u0 u0 u1 u2 T103.heap n0 gZ103 gP103 Gb99 ne_b99_ar hc9200_91) hZ w_33 w_10 (by decide) (by decide)) q105a q105c (g := (mkF m 259 #[.val (.long q0), .second, .val (.long q1), .second, .val (.long q2), .second, .val (.int p3), .val (.int n7), .val (.long w0), .second, .val (.long w1), .second, .val (.long w2), .second, .val (.ref ar), .val (.long u0), .second, .val (.long u1), .second, .val (.long u2), .second, .val (.int cnt), .val (.int (1 : Int32)), .val (.int (0 : Int32)), .val (.ref b99)] [(.ref b99)])) rfl (by rw [hml]; rfl) (Steps.refl _) (argsL := []) (rest := []) (lenOf pd0___I rfl) rfl (by show 2 * 0 + _ ≤ _; exact Nat.le_of_eq rfl) (hb hby at_259) (fun _ _ => ⟨rfl, e104, (by decide : 2 + 0 ≤ _), (by decide : 6 + 0 ≤ _)⟩)
          dsimp only [Pt.U, Pt.locs, Pt.cells, Pt.slots] at X105 l105 y105 z105 st105 hQ105
          subst l105 y105 z105
          obtain ⟨rfl, N105q, gZ105, gP105⟩ := hQ105
          have N105 := Fr.app N104 N105q
          refine bk (fun t k => st105.trans k) ?_
          refine bk (fun t k => XS.pop X105.here hx rfl (hb hby at_262) rfl rfl k) ?_
          refine bk (fun t k => XS.aload X105.here hx rfl (hb hby at_263) rfl rfl k) ?_
          show F (T105.setTop (mkF m 265 #[.val (.long q0), .second, .val (.long q1), .second, .val (.long q2), .second, .val (.int p3), .val (.int n7), .val (.long w0), .second, .val (.long w1), .second, .val (.long w2), .second, .val (.ref ar), .val (.long u0), .second, .val (.long u1), .second, .val (.long u2), .second, .val (.int cnt), .val (.int (1 : Int32)), .val (.int (0 : Int32)), .val (.ref b99)] [(.ref b99)]))
          obtain ⟨cq106, kq106, q106a, q106b, q106c⟩ := isOf hZ rfl (gP105.1)
          obtain ⟨_, _, ⟨T106, L106, k106, n106⟩, -, X106, ⟨Lc106, hQ106, l106, y106, z106⟩, st106⟩ := X105.virtualBack hx (y := (⟨"com/example/lone1/lone1/solve/SweepOrder", "hasNext", "()Z"⟩ : MethodName)) (z := (⟨"com/example/lone1/lone1/solve/SweepOrder", "hasNext", "()Z"⟩ : MethodName)) hown (mvT hZ w_21) (mvT hZ w_22) (notFace_of_selects (args := #[]) (mvT hZ w_24)) (mvT hZ w_24) (mvT hZ w_23) (by decide) (backOf (W := 0) (rm5Z0n l Z a0 hw [] b99 ar kk (3 : Int32) u0 u1 u2 T105.heap n0 gZ105 (own_S0 hc9100_98 gP105) Gb99 ne_b99_ar ) hZ w_25 w_10 (by decide) (by decide)) q106a q106c (g := (mkF m 265 #[.val (.long q0), .second, .val (.long q1), .second, .val (.long q2), .second, .val (.int p3), .val (.int n7), .val (.long w0), .second, .val (.long w1), .second, .val (.long w2), .second, .val (.ref ar), .val (.long u0), .second, .val (.long u1), .second, .val (.long u2), .second, .val (.int cnt), .val (.int (1 : Int32)), .val (.int (0 : Int32)), .val (.ref b99)] [(.ref b99)])) rfl (by rw [hml]; rfl) (Steps.refl _) (argsL := []) (rest := []) (lenOf pd0___Z rfl) rfl (by show 2 * 0 + _ ≤ _; exact Nat.le_of_eq rfl) (hb hby at_265) (fun _ _ => ⟨rfl, rfl, (by decide : 2 + 0 ≤ _), (by decide : 6 + 0 ≤ _)⟩)
          dsimp only [Pt.U, Pt.locs, Pt.cells, Pt.slots] at X106 l106 y106 z106 st106 hQ106
          subst l106 y106 z106
          obtain ⟨rfl, N106q, gZ106, gP106⟩ := hQ106
          have N106 := Fr.app N105 N106q
          refine bk (fun t k => st106.trans k) ?_
          refine bk (fun t k => XS.iload X106.here hx rfl (hb hby at_268) rfl k) ?_
          show F (T106.setTop (mkF m 270 #[.val (.long q0), .second, .val (.long q1), .second, .val (.long q2), .second, .val (.int p3), .val (.int n7), .val (.long w0), .second, .val (.long w1), .second, .val (.long w2), .second, .val (.ref ar), .val (.long u0), .second, .val (.long u1), .second, .val (.long u2), .second, .val (.int cnt), .val (.int (1 : Int32)), .val (.int (0 : Int32)), .val (.ref b99)] [(.int (0 : Int32)), (.int (0 : Int32))]))
          refine bk (fun t k => XS.icmpYes X106.here hx rfl (pc0 := 270) (pc' := 275) rfl (hb hby at_270) rfl (teq (by decide : (0 : Int32) = (0 : Int32))).1 (by decide) (by decide) k) ?_
          refine bk (fun t k => XS.aload X106.here hx rfl (hb hby at_275) rfl rfl k) ?_
          show F (T106.setTop (mkF m 277 #[.val (.long q0), .second, .val (.long q1), .second, .val (.long q2), .second, .val (.int p3), .val (.int n7), .val (.long w0), .second, .val (.long w1), .second, .val (.long w2), .second, .val (.ref ar), .val (.long u0), .second, .val (.long u1), .second, .val (.long u2), .second, .val (.int cnt), .val (.int (1 : Int32)), .val (.int (0 : Int32)), .val (.ref b99)] [(.ref b99)]))
          obtain ⟨cq107, kq107, q107a, q107b, q107c⟩ := isOf hZ rfl (gP106.1)
          obtain ⟨_, _, ⟨T107, L107, k107, n107⟩, -, X107, ⟨Lc107, hQ107, l107, y107, z107⟩, st107⟩ := X106.virtualBack hx (y := (⟨"com/example/lone1/lone1/solve/SweepOrder", "hasNext", "()Z"⟩ : MethodName)) (z := (⟨"com/example/lone1/lone1/solve/SweepOrder", "hasNext", "()Z"⟩ : MethodName)) hown (mvT hZ w_21) (mvT hZ w_22) (notFace_of_selects (args := #[]) (mvT hZ w_24)) (mvT hZ w_24) (mvT hZ w_23) (by decide) (backOf (W := 0) (rm5Z0n l Z a0 hw [] b99 ar kk (3 : Int32) u0 u1 u2 T106.heap n0 gZ106 gP106 Gb99 ne_b99_ar ) hZ w_25 w_10 (by decide) (by decide)) q107a q107c (g := (mkF m 277 #[.val (.long q0), .second, .val (.long q1), .second, .val (.long q2), .second, .val (.int p3), .val (.int n7), .val (.long w0), .second, .val (.long w1), .second, .val (.long w2), .second, .val (.ref ar), .val (.long u0), .second, .val (.long u1), .second, .val (.long u2), .second, .val (.int cnt), .val (.int (1 : Int32)), .val (.int (0 : Int32)), .val (.ref b99)] [(.ref b99)])) rfl (by rw [hml]; rfl) (Steps.refl _) (argsL := []) (rest := []) (lenOf pd0___Z rfl) rfl (by show 2 * 0 + _ ≤ _; exact Nat.le_of_eq rfl) (hb hby at_277) (fun _ _ => ⟨rfl, rfl, (by decide : 2 + 0 ≤ _), (by decide : 6 + 0 ≤ _)⟩)
          dsimp only [Pt.U, Pt.locs, Pt.cells, Pt.slots] at X107 l107 y107 z107 st107 hQ107
          subst l107 y107 z107
          obtain ⟨rfl, N107q, gZ107, gP107⟩ := hQ107
          have N107 := Fr.app N106 N107q
          refine bk (fun t k => st107.trans k) ?_
          refine bk (fun t k => XS.iload X107.here hx rfl (hb hby at_280) rfl k) ?_
          show F (T107.setTop (mkF m 282 #[.val (.long q0), .second, .val (.long q1), .second, .val (.long q2), .second, .val (.int p3), .val (.int n7), .val (.long w0), .second, .val (.long w1), .second, .val (.long w2), .second, .val (.ref ar), .val (.long u0), .second, .val (.long u1), .second, .val (.long u2), .second, .val (.int cnt), .val (.int (1 : Int32)), .val (.int (0 : Int32)), .val (.ref b99)] [(.int (0 : Int32)), (.int (0 : Int32))]))
          refine bk (fun t k => XS.icmpNo X107.here hx rfl (hb hby at_282) rfl (teq (by decide : (0 : Int32) = (0 : Int32))).2 k) ?_
          refine bk (fun t k => XS.iconst X107.here hx rfl (hb hby at_285) k) ?_
          refine bk (fun t k => XS.goto X107.here hx rfl (pc0 := 286) (pc' := 290) rfl (hb hby at_286) (by decide) (by decide) k) ?_
          show F (T107.setTop (mkF m 290 #[.val (.long q0), .second, .val (.long q1), .second, .val (.long q2), .second, .val (.int p3), .val (.int n7), .val (.long w0), .second, .val (.long w1), .second, .val (.long w2), .second, .val (.ref ar), .val (.long u0), .second, .val (.long u1), .second, .val (.long u2), .second, .val (.int cnt), .val (.int (1 : Int32)), .val (.int (0 : Int32)), .val (.ref b99)] [(.int (1 : Int32))]))
          rw [hF]
          refine own_retZ X107 hx Bd.notSynchronized Bd.returns (hb hby at_290) (by decide) (by decide) ?_
          exact ⟨rfl, N107⟩
        · obtain rfl : any = (1 : Int32) := hany.trans (by subst hcnt; simp +decide [own_anyc, own_cnt, own_b, hc9202_89, hc9201_90, hc9200_91, hc9100_98])
          obtain rfl : two = (1 : Int32) := htwo.trans (by subst hcnt; simp +decide [own_two, own_cnt, own_b, own_mb0, hc9202_89, hc9201_90, hc9200_91, hc9100_98, own_clr_mbn hc9200_91 hc9100_98])
          show F (TJ.setTop (mkF m 213 #[.val (.long q0), .second, .val (.long q1), .second, .val (.long q2), .second, .val (.int p3), .val (.int n7), .val (.long w0), .second, .val (.long w1), .second, .val (.long w2), .second, .val (.ref ar), .val (.long u0), .second, .val (.long u1), .second, .val (.long u2), .second, .val (.int cnt), .val (.int (1 : Int32)), .unset, .unset] [(.int (1 : Int32))]))
          refine bk (fun t k => XS.istore XJ.here hx rfl (hb hby at_213) rfl (l' := #[.val (.long q0), .second, .val (.long q1), .second, .val (.long q2), .second, .val (.int p3), .val (.int n7), .val (.long w0), .second, .val (.long w1), .second, .val (.long w2), .second, .val (.ref ar), .val (.long u0), .second, .val (.long u1), .second, .val (.long u2), .second, .val (.int cnt), .val (.int (1 : Int32)), .val (.int (1 : Int32)), .unset]) rfl k) ?_
          show F (TJ.setTop (mkF m 215 #[.val (.long q0), .second, .val (.long q1), .second, .val (.long q2), .second, .val (.int p3), .val (.int n7), .val (.long w0), .second, .val (.long w1), .second, .val (.long w2), .second, .val (.ref ar), .val (.long u0), .second, .val (.long u1), .second, .val (.long u2), .second, .val (.int cnt), .val (.int (1 : Int32)), .val (.int (1 : Int32)), .unset] []))
          obtain ⟨T108, h108, X108, e108, E108, A108, D108, -, st108⟩ := newO XJ hx hZ hown w_8 w_9 w_10 eJ (g := (mkF m 215 #[.val (.long q0), .second, .val (.long q1), .second, .val (.long q2), .second, .val (.int p3), .val (.int n7), .val (.long w0), .second, .val (.long w1), .second, .val (.long w2), .second, .val (.ref ar), .val (.long u0), .second, .val (.long u1), .second, .val (.long u2), .second, .val (.int cnt), .val (.int (1 : Int32)), .val (.int (1 : Int32)), .unset] [])) rfl (hb hby at_215) (by decide) (by decide)
          obtain ⟨b108, g108⟩ : ∃ z, z = hJ.size := ⟨_, rfl⟩
          rw [← g108] at A108 D108 st108
          have Gb108 : n0 ≤ b108 := Nat.le_trans jZ (Nat.le_of_eq g108.symm)
          have ne_ar_b108 : ar ≠ b108 := Nat.ne_of_lt (Nat.lt_of_lt_of_le jV.lt (Nat.le_of_eq g108.symm))
          have f109 := Nat.le_trans jZ E108.1
          have f110 := jV.ext E108
          have F_words_b108 : Fld Z h108 b108 "com/example/lone1/lone1/solve/SweepOrder" "words" "[J" .null := D108 (Or.inr w_18) (ty := (.array .long)) (by decide)
          have F_at_b108 : Fld Z h108 b108 "com/example/lone1/lone1/solve/SweepOrder" "at" "I" (.int (0 : Int32)) := D108 (Or.inl w_20) (ty := .int) (by decide)
          have F_word_b108 : Fld Z h108 b108 "com/example/lone1/lone1/solve/SweepOrder" "word" "J" (.long (0 : Int64)) := D108 (Or.inl w_27) (ty := .long) (by decide)
          refine bk (fun t k => st108 t k) ?_
          refine bk (fun t k => XS.dup X108.here hx rfl (hb hby at_218) rfl rfl k) ?_
          refine bk (fun t k => XS.aload X108.here hx rfl (hb hby at_219) rfl rfl k) ?_
          show F (T108.setTop (mkF m 221 #[.val (.long q0), .second, .val (.long q1), .second, .val (.long q2), .second, .val (.int p3), .val (.int n7), .val (.long w0), .second, .val (.long w1), .second, .val (.long w2), .second, .val (.ref ar), .val (.long u0), .second, .val (.long u1), .second, .val (.long u2), .second, .val (.int cnt), .val (.int (1 : Int32)), .val (.int (1 : Int32)), .unset] [(.ref ar), (.ref b108), (.ref b108)]))
          obtain ⟨_, _, ⟨T111, L111, k111, n111⟩, -, X111, ⟨Lc111, hQ111, l111, y111, z111⟩, st111⟩ := X108.specialBack hx (y := (⟨"com/example/lone1/lone1/solve/SweepOrder", "<init>", "([J)V"⟩ : MethodName)) rfl hown (mvT hZ w_11) (mvT hZ w_12) (mvT hZ w_13) (by decide) (backOf (W := 1) (rm3 l Z a0 hw [] b108 ar kk (3 : Int32) u0 u1 u2 h108 n0 f109 A108 F_words_b108 F_at_b108 F_word_b108 f110 Gb108 (Ne.symm ne_ar_b108)) hZ w_13 w_10 (by decide) (by decide)) (g := (mkF m 221 #[.val (.long q0), .second, .val (.long q1), .second, .val (.long q2), .second, .val (.int p3), .val (.int n7), .val (.long w0), .second, .val (.long w1), .second, .val (.long w2), .second, .val (.ref ar), .val (.long u0), .second, .val (.long u1), .second, .val (.long u2), .second, .val (.int cnt), .val (.int (1 : Int32)), .val (.int (1 : Int32)), .unset] [(.ref ar), (.ref b108), (.ref b108)])) rfl (by rw [hml]; rfl) (Steps.refl _) (a := b108) (argsL := [(.ref ar)]) (rest := [(.ref b108)]) (lenOf pd0___J_V rfl) rfl (by show 2 * 0 + _ ≤ _; exact Nat.le_of_eq rfl) (hb hby at_221) (fun _ _ => ⟨rfl, e108, (by decide : 2 + 0 ≤ _), (by decide : 6 + 0 ≤ _)⟩)
          dsimp only [Pt.U, Pt.locs, Pt.cells, Pt.slots] at X111 l111 y111 z111 st111 hQ111
          subst l111 y111 z111
          obtain ⟨rfl, N111q, gZ111, gP111⟩ := hQ111
          have N111 := Fr.app NJ N111q
          have ne_b108_ar : b108 ≠ ar := (Ne.symm ne_ar_b108)
          refine bk (fun t k => st111.trans k) ?_
          show F (T111.setTop (mkF m 224 #[.val (.long q0), .second, .val (.long q1), .second, .val (.long q2), .second, .val (.int p3), .val (.int n7), .val (.long w0), .second, .val (.long w1), .second, .val (.long w2), .second, .val (.ref ar), .val (.long u0), .second, .val (.long u1), .second, .val (.long u2), .second, .val (.int cnt), .val (.int (1 : Int32)), .val (.int (1 : Int32)), .unset] [(.ref b108)]))
          refine bk (fun t k => XS.astore X111.here hx rfl (hb hby at_224) rfl rfl (l' := #[.val (.long q0), .second, .val (.long q1), .second, .val (.long q2), .second, .val (.int p3), .val (.int n7), .val (.long w0), .second, .val (.long w1), .second, .val (.long w2), .second, .val (.ref ar), .val (.long u0), .second, .val (.long u1), .second, .val (.long u2), .second, .val (.int cnt), .val (.int (1 : Int32)), .val (.int (1 : Int32)), .val (.ref b108)]) rfl k) ?_
          refine bk (fun t k => XS.aload X111.here hx rfl (hb hby at_226) rfl rfl k) ?_
          show F (T111.setTop (mkF m 228 #[.val (.long q0), .second, .val (.long q1), .second, .val (.long q2), .second, .val (.int p3), .val (.int n7), .val (.long w0), .second, .val (.long w1), .second, .val (.long w2), .second, .val (.ref ar), .val (.long u0), .second, .val (.long u1), .second, .val (.long u2), .second, .val (.int cnt), .val (.int (1 : Int32)), .val (.int (1 : Int32)), .val (.ref b108)] [(.ref b108)]))
          obtain ⟨cq112, kq112, q112a, q112b, q112c⟩ := isOf hZ rfl (gP111.1)
          obtain ⟨_, _, ⟨T112, L112, k112, n112⟩, -, X112, ⟨Lc112, hQ112, l112, y112, z112⟩, st112⟩ := X111.virtualBack hx (y := (⟨"com/example/lone1/lone1/solve/SweepOrder", "hasNext", "()Z"⟩ : MethodName)) (z := (⟨"com/example/lone1/lone1/solve/SweepOrder", "hasNext", "()Z"⟩ : MethodName)) hown (mvT hZ w_21) (mvT hZ w_22) (notFace_of_selects (args := #[]) (mvT hZ w_24)) (mvT hZ w_24) (mvT hZ w_23) (by decide) (backOf (W := 0) (rm5Z30 l Z a0 hw [] b108 ar kk (3 : Int32) u0 u1 u2 T111.heap n0 gZ111 gP111 Gb108 ne_b108_ar (by decide) (by decide) (by decide) hc9202_89 hc9201_90 hc9200_91) hZ w_25 w_10 (by decide) (by decide)) q112a q112c (g := (mkF m 228 #[.val (.long q0), .second, .val (.long q1), .second, .val (.long q2), .second, .val (.int p3), .val (.int n7), .val (.long w0), .second, .val (.long w1), .second, .val (.long w2), .second, .val (.ref ar), .val (.long u0), .second, .val (.long u1), .second, .val (.long u2), .second, .val (.int cnt), .val (.int (1 : Int32)), .val (.int (1 : Int32)), .val (.ref b108)] [(.ref b108)])) rfl (by rw [hml]; rfl) (Steps.refl _) (argsL := []) (rest := []) (lenOf pd0___Z rfl) rfl (by show 2 * 0 + _ ≤ _; exact Nat.le_of_eq rfl) (hb hby at_228) (fun _ _ => ⟨rfl, rfl, (by decide : 2 + 0 ≤ _), (by decide : 6 + 0 ≤ _)⟩)
          dsimp only [Pt.U, Pt.locs, Pt.cells, Pt.slots] at X112 l112 y112 z112 st112 hQ112
          subst l112 y112 z112
          obtain ⟨rfl, N112q, gZ112, gP112⟩ := hQ112
          have N112 := Fr.app N111 N112q
          refine bk (fun t k => st112.trans k) ?_
          refine bk (fun t k => XS.iload X112.here hx rfl (hb hby at_231) rfl k) ?_
          show F (T112.setTop (mkF m 233 #[.val (.long q0), .second, .val (.long q1), .second, .val (.long q2), .second, .val (.int p3), .val (.int n7), .val (.long w0), .second, .val (.long w1), .second, .val (.long w2), .second, .val (.ref ar), .val (.long u0), .second, .val (.long u1), .second, .val (.long u2), .second, .val (.int cnt), .val (.int (1 : Int32)), .val (.int (1 : Int32)), .val (.ref b108)] [(.int (1 : Int32)), (.int (1 : Int32))]))
          refine bk (fun t k => XS.icmpYes X112.here hx rfl (pc0 := 233) (pc' := 238) rfl (hb hby at_233) rfl (teq (by decide : (1 : Int32) = (1 : Int32))).1 (by decide) (by decide) k) ?_
          refine bk (fun t k => XS.aload X112.here hx rfl (hb hby at_238) rfl rfl k) ?_
          show F (T112.setTop (mkF m 240 #[.val (.long q0), .second, .val (.long q1), .second, .val (.long q2), .second, .val (.int p3), .val (.int n7), .val (.long w0), .second, .val (.long w1), .second, .val (.long w2), .second, .val (.ref ar), .val (.long u0), .second, .val (.long u1), .second, .val (.long u2), .second, .val (.int cnt), .val (.int (1 : Int32)), .val (.int (1 : Int32)), .val (.ref b108)] [(.ref b108)]))
          obtain ⟨cq113, kq113, q113a, q113b, q113c⟩ := isOf hZ rfl (gP112.1)
          obtain ⟨_, _, ⟨T113, L113, k113, n113⟩, -, X113, ⟨Lc113, hQ113, l113, y113, z113⟩, st113⟩ := X112.virtualBack hx (y := (⟨"com/example/lone1/lone1/solve/SweepOrder", "hasNext", "()Z"⟩ : MethodName)) (z := (⟨"com/example/lone1/lone1/solve/SweepOrder", "hasNext", "()Z"⟩ : MethodName)) hown (mvT hZ w_21) (mvT hZ w_22) (notFace_of_selects (args := #[]) (mvT hZ w_24)) (mvT hZ w_24) (mvT hZ w_23) (by decide) (backOf (W := 0) (rm5N l Z a0 hw [] b108 u0 T112.heap n0 gZ112 gP112.2.2.2.1 hc9200_91) hZ w_25 w_10 (by decide) (by decide)) q113a q113c (g := (mkF m 240 #[.val (.long q0), .second, .val (.long q1), .second, .val (.long q2), .second, .val (.int p3), .val (.int n7), .val (.long w0), .second, .val (.long w1), .second, .val (.long w2), .second, .val (.ref ar), .val (.long u0), .second, .val (.long u1), .second, .val (.long u2), .second, .val (.int cnt), .val (.int (1 : Int32)), .val (.int (1 : Int32)), .val (.ref b108)] [(.ref b108)])) rfl (by rw [hml]; rfl) (Steps.refl _) (argsL := []) (rest := []) (lenOf pd0___Z rfl) rfl (by show 2 * 0 + _ ≤ _; exact Nat.le_of_eq rfl) (hb hby at_240) (fun _ _ => ⟨rfl, rfl, (by decide : 2 + 0 ≤ _), (by decide : 6 + 0 ≤ _)⟩)
          dsimp only [Pt.U, Pt.locs, Pt.cells, Pt.slots] at X113 l113 y113 z113 st113 hQ113
          subst l113 y113 z113
          obtain ⟨rfl, N113q, e113⟩ := hQ113
          have N113 := Fr.app N112 N113q
          refine bk (fun t k => st113.trans k) ?_
          refine bk (fun t k => XS.iload X113.here hx rfl (hb hby at_243) rfl k) ?_
          show F (T113.setTop (mkF m 245 #[.val (.long q0), .second, .val (.long q1), .second, .val (.long q2), .second, .val (.int p3), .val (.int n7), .val (.long w0), .second, .val (.long w1), .second, .val (.long w2), .second, .val (.ref ar), .val (.long u0), .second, .val (.long u1), .second, .val (.long u2), .second, .val (.int cnt), .val (.int (1 : Int32)), .val (.int (1 : Int32)), .val (.ref b108)] [(.int (1 : Int32)), (.int (1 : Int32))]))
          refine bk (fun t k => XS.icmpYes X113.here hx rfl (pc0 := 245) (pc' := 250) rfl (hb hby at_245) rfl (teq (by decide : (1 : Int32) = (1 : Int32))).1 (by decide) (by decide) k) ?_
          refine bk (fun t k => XS.iload X113.here hx rfl (hb hby at_250) rfl k) ?_
          show F (T113.setTop (mkF m 252 #[.val (.long q0), .second, .val (.long q1), .second, .val (.long q2), .second, .val (.int p3), .val (.int n7), .val (.long w0), .second, .val (.long w1), .second, .val (.long w2), .second, .val (.ref ar), .val (.long u0), .second, .val (.long u1), .second, .val (.long u2), .second, .val (.int cnt), .val (.int (1 : Int32)), .val (.int (1 : Int32)), .val (.ref b108)] [(.int (1 : Int32))]))
          refine bk (fun t k => XS.ifYes X113.here hx rfl (pc0 := 252) (pc' := 257) rfl (hb hby at_252) rfl ((if0 _ _).trans (feq (by decide : ¬ ((1 : Int32) = (0 : Int32)))).2) (by decide) (by decide) k) ?_
          refine bk (fun t k => XS.aload X113.here hx rfl (hb hby at_257) rfl rfl k) ?_
          show F (T113.setTop (mkF m 259 #[.val (.long q0), .second, .val (.long q1), .second, .val (.long q2), .second, .val (.int p3), .val (.int n7), .val (.long w0), .second, .val (.long w1), .second, .val (.long w2), .second, .val (.ref ar), .val (.long u0), .second, .val (.long u1), .second, .val (.long u2), .second, .val (.int cnt), .val (.int (1 : Int32)), .val (.int (1 : Int32)), .val (.ref b108)] [(.ref b108)]))
          obtain ⟨cq114, kq114, q114a, q114b, q114c⟩ := isOf hZ e113 (gP112.1)
          obtain ⟨_, _, ⟨T114, L114, k114, n114⟩, -, X114, ⟨Lc114, hQ114, l114, y114, z114⟩, st114⟩ := X113.virtualBack hx (y := (⟨"com/example/lone1/lone1/solve/SweepOrder", "next", "()I"⟩ : MethodName)) (z := (⟨"com/example/lone1/lone1/solve/SweepOrder", "next", "()I"⟩ : MethodName)) hown (mvT hZ w_29) (mvT hZ w_30) (notFace_of_selects (args := #[]) (mvT hZ w_32)) (mvT hZ w_32) (mvT hZ w_31) (by decide) (backOf (W := 0) (rm6 l Z a0 hw [] b108 ar kk (3 : Int32) (0 : Int32) u0 u0 u1 u2 T112.heap n0 gZ112 gP112 Gb108 ne_b108_ar hc9200_91) hZ w_33 w_10 (by decide) (by decide)) q114a q114c (g := (mkF m 259 #[.val (.long q0), .second, .val (.long q1), .second, .val (.long q2), .second, .val (.int p3), .val (.int n7), .val (.long w0), .second, .val (.long w1), .second, .val (.long w2), .second, .val (.ref ar), .val (.long u0), .second, .val (.long u1), .second, .val (.long u2), .second, .val (.int cnt), .val (.int (1 : Int32)), .val (.int (1 : Int32)), .val (.ref b108)] [(.ref b108)])) rfl (by rw [hml]; rfl) (Steps.refl _) (argsL := []) (rest := []) (lenOf pd0___I rfl) rfl (by show 2 * 0 + _ ≤ _; exact Nat.le_of_eq rfl) (hb hby at_259) (fun _ _ => ⟨rfl, e113, (by decide : 2 + 0 ≤ _), (by decide : 6 + 0 ≤ _)⟩)
          dsimp only [Pt.U, Pt.locs, Pt.cells, Pt.slots] at X114 l114 y114 z114 st114 hQ114
          subst l114 y114 z114
          obtain ⟨rfl, N114q, gZ114, gP114⟩ := hQ114
          have N114 := Fr.app N113 N114q
          refine bk (fun t k => st114.trans k) ?_
          refine bk (fun t k => XS.pop X114.here hx rfl (hb hby at_262) rfl rfl k) ?_
          refine bk (fun t k => XS.aload X114.here hx rfl (hb hby at_263) rfl rfl k) ?_
          show F (T114.setTop (mkF m 265 #[.val (.long q0), .second, .val (.long q1), .second, .val (.long q2), .second, .val (.int p3), .val (.int n7), .val (.long w0), .second, .val (.long w1), .second, .val (.long w2), .second, .val (.ref ar), .val (.long u0), .second, .val (.long u1), .second, .val (.long u2), .second, .val (.int cnt), .val (.int (1 : Int32)), .val (.int (1 : Int32)), .val (.ref b108)] [(.ref b108)]))
          obtain ⟨cq115, kq115, q115a, q115b, q115c⟩ := isOf hZ rfl (gP114.1)
          obtain ⟨_, _, ⟨T115, L115, k115, n115⟩, -, X115, ⟨Lc115, hQ115, l115, y115, z115⟩, st115⟩ := X114.virtualBack hx (y := (⟨"com/example/lone1/lone1/solve/SweepOrder", "hasNext", "()Z"⟩ : MethodName)) (z := (⟨"com/example/lone1/lone1/solve/SweepOrder", "hasNext", "()Z"⟩ : MethodName)) hown (mvT hZ w_21) (mvT hZ w_22) (notFace_of_selects (args := #[]) (mvT hZ w_24)) (mvT hZ w_24) (mvT hZ w_23) (by decide) (backOf (W := 0) (rm5N l Z a0 hw [] b108 (own_clr u0) T114.heap n0 gZ114 gP114.2.2.2.1 hc9100_98) hZ w_25 w_10 (by decide) (by decide)) q115a q115c (g := (mkF m 265 #[.val (.long q0), .second, .val (.long q1), .second, .val (.long q2), .second, .val (.int p3), .val (.int n7), .val (.long w0), .second, .val (.long w1), .second, .val (.long w2), .second, .val (.ref ar), .val (.long u0), .second, .val (.long u1), .second, .val (.long u2), .second, .val (.int cnt), .val (.int (1 : Int32)), .val (.int (1 : Int32)), .val (.ref b108)] [(.ref b108)])) rfl (by rw [hml]; rfl) (Steps.refl _) (argsL := []) (rest := []) (lenOf pd0___Z rfl) rfl (by show 2 * 0 + _ ≤ _; exact Nat.le_of_eq rfl) (hb hby at_265) (fun _ _ => ⟨rfl, rfl, (by decide : 2 + 0 ≤ _), (by decide : 6 + 0 ≤ _)⟩)
          dsimp only [Pt.U, Pt.locs, Pt.cells, Pt.slots] at X115 l115 y115 z115 st115 hQ115
          subst l115 y115 z115
          obtain ⟨rfl, N115q, e115⟩ := hQ115
          have N115 := Fr.app N114 N115q
          refine bk (fun t k => st115.trans k) ?_
          refine bk (fun t k => XS.iload X115.here hx rfl (hb hby at_268) rfl k) ?_
          show F (T115.setTop (mkF m 270 #[.val (.long q0), .second, .val (.long q1), .second, .val (.long q2), .second, .val (.int p3), .val (.int n7), .val (.long w0), .second, .val (.long w1), .second, .val (.long w2), .second, .val (.ref ar), .val (.long u0), .second, .val (.long u1), .second, .val (.long u2), .second, .val (.int cnt), .val (.int (1 : Int32)), .val (.int (1 : Int32)), .val (.ref b108)] [(.int (1 : Int32)), (.int (1 : Int32))]))
          refine bk (fun t k => XS.icmpYes X115.here hx rfl (pc0 := 270) (pc' := 275) rfl (hb hby at_270) rfl (teq (by decide : (1 : Int32) = (1 : Int32))).1 (by decide) (by decide) k) ?_
          refine bk (fun t k => XS.aload X115.here hx rfl (hb hby at_275) rfl rfl k) ?_
          show F (T115.setTop (mkF m 277 #[.val (.long q0), .second, .val (.long q1), .second, .val (.long q2), .second, .val (.int p3), .val (.int n7), .val (.long w0), .second, .val (.long w1), .second, .val (.long w2), .second, .val (.ref ar), .val (.long u0), .second, .val (.long u1), .second, .val (.long u2), .second, .val (.int cnt), .val (.int (1 : Int32)), .val (.int (1 : Int32)), .val (.ref b108)] [(.ref b108)]))
          obtain ⟨cq116, kq116, q116a, q116b, q116c⟩ := isOf hZ e115 (gP114.1)
          obtain ⟨_, _, ⟨T116, L116, k116, n116⟩, -, X116, ⟨Lc116, hQ116, l116, y116, z116⟩, st116⟩ := X115.virtualBack hx (y := (⟨"com/example/lone1/lone1/solve/SweepOrder", "hasNext", "()Z"⟩ : MethodName)) (z := (⟨"com/example/lone1/lone1/solve/SweepOrder", "hasNext", "()Z"⟩ : MethodName)) hown (mvT hZ w_21) (mvT hZ w_22) (notFace_of_selects (args := #[]) (mvT hZ w_24)) (mvT hZ w_24) (mvT hZ w_23) (by decide) (backOf (W := 0) (rm5N l Z a0 hw [] b108 (own_clr u0) T114.heap n0 gZ114 gP114.2.2.2.1 hc9100_98) hZ w_25 w_10 (by decide) (by decide)) q116a q116c (g := (mkF m 277 #[.val (.long q0), .second, .val (.long q1), .second, .val (.long q2), .second, .val (.int p3), .val (.int n7), .val (.long w0), .second, .val (.long w1), .second, .val (.long w2), .second, .val (.ref ar), .val (.long u0), .second, .val (.long u1), .second, .val (.long u2), .second, .val (.int cnt), .val (.int (1 : Int32)), .val (.int (1 : Int32)), .val (.ref b108)] [(.ref b108)])) rfl (by rw [hml]; rfl) (Steps.refl _) (argsL := []) (rest := []) (lenOf pd0___Z rfl) rfl (by show 2 * 0 + _ ≤ _; exact Nat.le_of_eq rfl) (hb hby at_277) (fun _ _ => ⟨rfl, e115, (by decide : 2 + 0 ≤ _), (by decide : 6 + 0 ≤ _)⟩)
          dsimp only [Pt.U, Pt.locs, Pt.cells, Pt.slots] at X116 l116 y116 z116 st116 hQ116
          subst l116 y116 z116
          obtain ⟨rfl, N116q, e116⟩ := hQ116
          have N116 := Fr.app N115 N116q
          refine bk (fun t k => st116.trans k) ?_
          refine bk (fun t k => XS.iload X116.here hx rfl (hb hby at_280) rfl k) ?_
          show F (T116.setTop (mkF m 282 #[.val (.long q0), .second, .val (.long q1), .second, .val (.long q2), .second, .val (.int p3), .val (.int n7), .val (.long w0), .second, .val (.long w1), .second, .val (.long w2), .second, .val (.ref ar), .val (.long u0), .second, .val (.long u1), .second, .val (.long u2), .second, .val (.int cnt), .val (.int (1 : Int32)), .val (.int (1 : Int32)), .val (.ref b108)] [(.int (1 : Int32)), (.int (1 : Int32))]))
          refine bk (fun t k => XS.icmpNo X116.here hx rfl (hb hby at_282) rfl (teq (by decide : (1 : Int32) = (1 : Int32))).2 k) ?_
          refine bk (fun t k => XS.iconst X116.here hx rfl (hb hby at_285) k) ?_
          refine bk (fun t k => XS.goto X116.here hx rfl (pc0 := 286) (pc' := 290) rfl (hb hby at_286) (by decide) (by decide) k) ?_
          show F (T116.setTop (mkF m 290 #[.val (.long q0), .second, .val (.long q1), .second, .val (.long q2), .second, .val (.int p3), .val (.int n7), .val (.long w0), .second, .val (.long w1), .second, .val (.long w2), .second, .val (.ref ar), .val (.long u0), .second, .val (.long u1), .second, .val (.long u2), .second, .val (.int cnt), .val (.int (1 : Int32)), .val (.int (1 : Int32)), .val (.ref b108)] [(.int (1 : Int32))]))
          rw [hF]
          refine own_retZ X116 hx Bd.notSynchronized Bd.returns (hb hby at_290) (by decide) (by decide) ?_
          rw [e116]
          exact ⟨rfl, N116⟩
    · by_cases hc9101_117 : (own_clr u1) = (0 : Int64)
      · by_cases hc9000_118 : u0 = (0 : Int64)
        · obtain rfl : any = (1 : Int32) := hany.trans (by subst hcnt; simp +decide [own_anyc, own_cnt, own_b, hc9202_89, hc9201_90, hc9101_117, hc9000_118])
          obtain rfl : two = (0 : Int32) := htwo.trans (by subst hcnt; simp +decide [own_two, own_cnt, own_b, own_mb0, hc9202_89, hc9201_90, hc9101_117, hc9000_118, own_clr_mb hc9201_90 hc9101_117])
          show F (TJ.setTop (mkF m 213 #[.val (.long q0), .second, .val (.long q1), .second, .val (.long q2), .second, .val (.int p3), .val (.int n7), .val (.long w0), .second, .val (.long w1), .second, .val (.long w2), .second, .val (.ref ar), .val (.long u0), .second, .val (.long u1), .second, .val (.long u2), .second, .val (.int cnt), .val (.int (1 : Int32)), .unset, .unset] [(.int (0 : Int32))]))
          refine bk (fun t k => XS.istore XJ.here hx rfl (hb hby at_213) rfl (l' := #[.val (.long q0), .second, .val (.long q1), .second, .val (.long q2), .second, .val (.int p3), .val (.int n7), .val (.long w0), .second, .val (.long w1), .second, .val (.long w2), .second, .val (.ref ar), .val (.long u0), .second, .val (.long u1), .second, .val (.long u2), .second, .val (.int cnt), .val (.int (1 : Int32)), .val (.int (0 : Int32)), .unset]) rfl k) ?_
          show F (TJ.setTop (mkF m 215 #[.val (.long q0), .second, .val (.long q1), .second, .val (.long q2), .second, .val (.int p3), .val (.int n7), .val (.long w0), .second, .val (.long w1), .second, .val (.long w2), .second, .val (.ref ar), .val (.long u0), .second, .val (.long u1), .second, .val (.long u2), .second, .val (.int cnt), .val (.int (1 : Int32)), .val (.int (0 : Int32)), .unset] []))
          obtain ⟨T119, h119, X119, e119, E119, A119, D119, -, st119⟩ := newO XJ hx hZ hown w_8 w_9 w_10 eJ (g := (mkF m 215 #[.val (.long q0), .second, .val (.long q1), .second, .val (.long q2), .second, .val (.int p3), .val (.int n7), .val (.long w0), .second, .val (.long w1), .second, .val (.long w2), .second, .val (.ref ar), .val (.long u0), .second, .val (.long u1), .second, .val (.long u2), .second, .val (.int cnt), .val (.int (1 : Int32)), .val (.int (0 : Int32)), .unset] [])) rfl (hb hby at_215) (by decide) (by decide)
          obtain ⟨b119, g119⟩ : ∃ z, z = hJ.size := ⟨_, rfl⟩
          rw [← g119] at A119 D119 st119
          have Gb119 : n0 ≤ b119 := Nat.le_trans jZ (Nat.le_of_eq g119.symm)
          have ne_ar_b119 : ar ≠ b119 := Nat.ne_of_lt (Nat.lt_of_lt_of_le jV.lt (Nat.le_of_eq g119.symm))
          have f120 := Nat.le_trans jZ E119.1
          have f121 := jV.ext E119
          have F_words_b119 : Fld Z h119 b119 "com/example/lone1/lone1/solve/SweepOrder" "words" "[J" .null := D119 (Or.inr w_18) (ty := (.array .long)) (by decide)
          have F_at_b119 : Fld Z h119 b119 "com/example/lone1/lone1/solve/SweepOrder" "at" "I" (.int (0 : Int32)) := D119 (Or.inl w_20) (ty := .int) (by decide)
          have F_word_b119 : Fld Z h119 b119 "com/example/lone1/lone1/solve/SweepOrder" "word" "J" (.long (0 : Int64)) := D119 (Or.inl w_27) (ty := .long) (by decide)
          refine bk (fun t k => st119 t k) ?_
          refine bk (fun t k => XS.dup X119.here hx rfl (hb hby at_218) rfl rfl k) ?_
          refine bk (fun t k => XS.aload X119.here hx rfl (hb hby at_219) rfl rfl k) ?_
          show F (T119.setTop (mkF m 221 #[.val (.long q0), .second, .val (.long q1), .second, .val (.long q2), .second, .val (.int p3), .val (.int n7), .val (.long w0), .second, .val (.long w1), .second, .val (.long w2), .second, .val (.ref ar), .val (.long u0), .second, .val (.long u1), .second, .val (.long u2), .second, .val (.int cnt), .val (.int (1 : Int32)), .val (.int (0 : Int32)), .unset] [(.ref ar), (.ref b119), (.ref b119)]))
          obtain ⟨_, _, ⟨T122, L122, k122, n122⟩, -, X122, ⟨Lc122, hQ122, l122, y122, z122⟩, st122⟩ := X119.specialBack hx (y := (⟨"com/example/lone1/lone1/solve/SweepOrder", "<init>", "([J)V"⟩ : MethodName)) rfl hown (mvT hZ w_11) (mvT hZ w_12) (mvT hZ w_13) (by decide) (backOf (W := 1) (rm3 l Z a0 hw [] b119 ar kk (3 : Int32) u0 u1 u2 h119 n0 f120 A119 F_words_b119 F_at_b119 F_word_b119 f121 Gb119 (Ne.symm ne_ar_b119)) hZ w_13 w_10 (by decide) (by decide)) (g := (mkF m 221 #[.val (.long q0), .second, .val (.long q1), .second, .val (.long q2), .second, .val (.int p3), .val (.int n7), .val (.long w0), .second, .val (.long w1), .second, .val (.long w2), .second, .val (.ref ar), .val (.long u0), .second, .val (.long u1), .second, .val (.long u2), .second, .val (.int cnt), .val (.int (1 : Int32)), .val (.int (0 : Int32)), .unset] [(.ref ar), (.ref b119), (.ref b119)])) rfl (by rw [hml]; rfl) (Steps.refl _) (a := b119) (argsL := [(.ref ar)]) (rest := [(.ref b119)]) (lenOf pd0___J_V rfl) rfl (by show 2 * 0 + _ ≤ _; exact Nat.le_of_eq rfl) (hb hby at_221) (fun _ _ => ⟨rfl, e119, (by decide : 2 + 0 ≤ _), (by decide : 6 + 0 ≤ _)⟩)
          dsimp only [Pt.U, Pt.locs, Pt.cells, Pt.slots] at X122 l122 y122 z122 st122 hQ122
          subst l122 y122 z122
          obtain ⟨rfl, N122q, gZ122, gP122⟩ := hQ122
          have N122 := Fr.app NJ N122q
          have ne_b119_ar : b119 ≠ ar := (Ne.symm ne_ar_b119)
          refine bk (fun t k => st122.trans k) ?_
          show F (T122.setTop (mkF m 224 #[.val (.long q0), .second, .val (.long q1), .second, .val (.long q2), .second, .val (.int p3), .val (.int n7), .val (.long w0), .second, .val (.long w1), .second, .val (.long w2), .second, .val (.ref ar), .val (.long u0), .second, .val (.long u1), .second, .val (.long u2), .second, .val (.int cnt), .val (.int (1 : Int32)), .val (.int (0 : Int32)), .unset] [(.ref b119)]))
          refine bk (fun t k => XS.astore X122.here hx rfl (hb hby at_224) rfl rfl (l' := #[.val (.long q0), .second, .val (.long q1), .second, .val (.long q2), .second, .val (.int p3), .val (.int n7), .val (.long w0), .second, .val (.long w1), .second, .val (.long w2), .second, .val (.ref ar), .val (.long u0), .second, .val (.long u1), .second, .val (.long u2), .second, .val (.int cnt), .val (.int (1 : Int32)), .val (.int (0 : Int32)), .val (.ref b119)]) rfl k) ?_
          refine bk (fun t k => XS.aload X122.here hx rfl (hb hby at_226) rfl rfl k) ?_
          show F (T122.setTop (mkF m 228 #[.val (.long q0), .second, .val (.long q1), .second, .val (.long q2), .second, .val (.int p3), .val (.int n7), .val (.long w0), .second, .val (.long w1), .second, .val (.long w2), .second, .val (.ref ar), .val (.long u0), .second, .val (.long u1), .second, .val (.long u2), .second, .val (.int cnt), .val (.int (1 : Int32)), .val (.int (0 : Int32)), .val (.ref b119)] [(.ref b119)]))
          obtain ⟨cq123, kq123, q123a, q123b, q123c⟩ := isOf hZ rfl (gP122.1)
          obtain ⟨_, _, ⟨T123, L123, k123, n123⟩, -, X123, ⟨Lc123, hQ123, l123, y123, z123⟩, st123⟩ := X122.virtualBack hx (y := (⟨"com/example/lone1/lone1/solve/SweepOrder", "hasNext", "()Z"⟩ : MethodName)) (z := (⟨"com/example/lone1/lone1/solve/SweepOrder", "hasNext", "()Z"⟩ : MethodName)) hown (mvT hZ w_21) (mvT hZ w_22) (notFace_of_selects (args := #[]) (mvT hZ w_24)) (mvT hZ w_24) (mvT hZ w_23) (by decide) (backOf (W := 0) (rm5Z31 l Z a0 hw [] b119 ar kk (3 : Int32) u0 u1 u2 T122.heap n0 gZ122 gP122 Gb119 ne_b119_ar (by decide) (by decide) (by decide) hc9202_89 hc9201_90) hZ w_25 w_10 (by decide) (by decide)) q123a q123c (g := (mkF m 228 #[.val (.long q0), .second, .val (.long q1), .second, .val (.long q2), .second, .val (.int p3), .val (.int n7), .val (.long w0), .second, .val (.long w1), .second, .val (.long w2), .second, .val (.ref ar), .val (.long u0), .second, .val (.long u1), .second, .val (.long u2), .second, .val (.int cnt), .val (.int (1 : Int32)), .val (.int (0 : Int32)), .val (.ref b119)] [(.ref b119)])) rfl (by rw [hml]; rfl) (Steps.refl _) (argsL := []) (rest := []) (lenOf pd0___Z rfl) rfl (by show 2 * 0 + _ ≤ _; exact Nat.le_of_eq rfl) (hb hby at_228) (fun _ _ => ⟨rfl, rfl, (by decide : 2 + 0 ≤ _), (by decide : 6 + 0 ≤ _)⟩)
          dsimp only [Pt.U, Pt.locs, Pt.cells, Pt.slots] at X123 l123 y123 z123 st123 hQ123
          subst l123 y123 z123
          obtain ⟨rfl, N123q, gZ123, gP123⟩ := hQ123
          have N123 := Fr.app N122 N123q
          refine bk (fun t k => st123.trans k) ?_
          refine bk (fun t k => XS.iload X123.here hx rfl (hb hby at_231) rfl k) ?_
          show F (T123.setTop (mkF m 233 #[.val (.long q0), .second, .val (.long q1), .second, .val (.long q2), .second, .val (.int p3), .val (.int n7), .val (.long w0), .second, .val (.long w1), .second, .val (.long w2), .second, .val (.ref ar), .val (.long u0), .second, .val (.long u1), .second, .val (.long u2), .second, .val (.int cnt), .val (.int (1 : Int32)), .val (.int (0 : Int32)), .val (.ref b119)] [(.int (1 : Int32)), (.int (1 : Int32))]))
          refine bk (fun t k => XS.icmpYes X123.here hx rfl (pc0 := 233) (pc' := 238) rfl (hb hby at_233) rfl (teq (by decide : (1 : Int32) = (1 : Int32))).1 (by decide) (by decide) k) ?_
          refine bk (fun t k => XS.aload X123.here hx rfl (hb hby at_238) rfl rfl k) ?_
          show F (T123.setTop (mkF m 240 #[.val (.long q0), .second, .val (.long q1), .second, .val (.long q2), .second, .val (.int p3), .val (.int n7), .val (.long w0), .second, .val (.long w1), .second, .val (.long w2), .second, .val (.ref ar), .val (.long u0), .second, .val (.long u1), .second, .val (.long u2), .second, .val (.int cnt), .val (.int (1 : Int32)), .val (.int (0 : Int32)), .val (.ref b119)] [(.ref b119)]))
          obtain ⟨cq124, kq124, q124a, q124b, q124c⟩ := isOf hZ rfl (gP123.1)
          obtain ⟨_, _, ⟨T124, L124, k124, n124⟩, -, X124, ⟨Lc124, hQ124, l124, y124, z124⟩, st124⟩ := X123.virtualBack hx (y := (⟨"com/example/lone1/lone1/solve/SweepOrder", "hasNext", "()Z"⟩ : MethodName)) (z := (⟨"com/example/lone1/lone1/solve/SweepOrder", "hasNext", "()Z"⟩ : MethodName)) hown (mvT hZ w_21) (mvT hZ w_22) (notFace_of_selects (args := #[]) (mvT hZ w_24)) (mvT hZ w_24) (mvT hZ w_23) (by decide) (backOf (W := 0) (rm5N l Z a0 hw [] b119 u1 T123.heap n0 gZ123 gP123.2.2.2.1 hc9201_90) hZ w_25 w_10 (by decide) (by decide)) q124a q124c (g := (mkF m 240 #[.val (.long q0), .second, .val (.long q1), .second, .val (.long q2), .second, .val (.int p3), .val (.int n7), .val (.long w0), .second, .val (.long w1), .second, .val (.long w2), .second, .val (.ref ar), .val (.long u0), .second, .val (.long u1), .second, .val (.long u2), .second, .val (.int cnt), .val (.int (1 : Int32)), .val (.int (0 : Int32)), .val (.ref b119)] [(.ref b119)])) rfl (by rw [hml]; rfl) (Steps.refl _) (argsL := []) (rest := []) (lenOf pd0___Z rfl) rfl (by show 2 * 0 + _ ≤ _; exact Nat.le_of_eq rfl) (hb hby at_240) (fun _ _ => ⟨rfl, rfl, (by decide : 2 + 0 ≤ _), (by decide : 6 + 0 ≤ _)⟩)
          dsimp only [Pt.U, Pt.locs, Pt.cells, Pt.slots] at X124 l124 y124 z124 st124 hQ124
          subst l124 y124 z124
          obtain ⟨rfl, N124q, e124⟩ := hQ124
          have N124 := Fr.app N123 N124q
          refine bk (fun t k => st124.trans k) ?_
          refine bk (fun t k => XS.iload X124.here hx rfl (hb hby at_243) rfl k) ?_
          show F (T124.setTop (mkF m 245 #[.val (.long q0), .second, .val (.long q1), .second, .val (.long q2), .second, .val (.int p3), .val (.int n7), .val (.long w0), .second, .val (.long w1), .second, .val (.long w2), .second, .val (.ref ar), .val (.long u0), .second, .val (.long u1), .second, .val (.long u2), .second, .val (.int cnt), .val (.int (1 : Int32)), .val (.int (0 : Int32)), .val (.ref b119)] [(.int (1 : Int32)), (.int (1 : Int32))]))
          refine bk (fun t k => XS.icmpYes X124.here hx rfl (pc0 := 245) (pc' := 250) rfl (hb hby at_245) rfl (teq (by decide : (1 : Int32) = (1 : Int32))).1 (by decide) (by decide) k) ?_
          refine bk (fun t k => XS.iload X124.here hx rfl (hb hby at_250) rfl k) ?_
          show F (T124.setTop (mkF m 252 #[.val (.long q0), .second, .val (.long q1), .second, .val (.long q2), .second, .val (.int p3), .val (.int n7), .val (.long w0), .second, .val (.long w1), .second, .val (.long w2), .second, .val (.ref ar), .val (.long u0), .second, .val (.long u1), .second, .val (.long u2), .second, .val (.int cnt), .val (.int (1 : Int32)), .val (.int (0 : Int32)), .val (.ref b119)] [(.int (1 : Int32))]))
          refine bk (fun t k => XS.ifYes X124.here hx rfl (pc0 := 252) (pc' := 257) rfl (hb hby at_252) rfl ((if0 _ _).trans (feq (by decide : ¬ ((1 : Int32) = (0 : Int32)))).2) (by decide) (by decide) k) ?_
          refine bk (fun t k => XS.aload X124.here hx rfl (hb hby at_257) rfl rfl k) ?_
          show F (T124.setTop (mkF m 259 #[.val (.long q0), .second, .val (.long q1), .second, .val (.long q2), .second, .val (.int p3), .val (.int n7), .val (.long w0), .second, .val (.long w1), .second, .val (.long w2), .second, .val (.ref ar), .val (.long u0), .second, .val (.long u1), .second, .val (.long u2), .second, .val (.int cnt), .val (.int (1 : Int32)), .val (.int (0 : Int32)), .val (.ref b119)] [(.ref b119)]))
          obtain ⟨cq125, kq125, q125a, q125b, q125c⟩ := isOf hZ e124 (gP123.1)
          obtain ⟨_, _, ⟨T125, L125, k125, n125⟩, -, X125, ⟨Lc125, hQ125, l125, y125, z125⟩, st125⟩ := X124.virtualBack hx (y := (⟨"com/example/lone1/lone1/solve/SweepOrder", "next", "()I"⟩ : MethodName)) (z := (⟨"com/example/lone1/lone1/solve/SweepOrder", "next", "()I"⟩ : MethodName)) hown (mvT hZ w_29) (mvT hZ w_30) (notFace_of_selects (args := #[]) (mvT hZ w_32)) (mvT hZ w_32) (mvT hZ w_31) (by decide) (backOf (W := 0) (rm6 l Z a0 hw [] b119 ar kk (3 : Int32) (1 : Int32) u1 u0 u1 u2 T123.heap n0 gZ123 gP123 Gb119 ne_b119_ar hc9201_90) hZ w_33 w_10 (by decide) (by decide)) q125a q125c (g := (mkF m 259 #[.val (.long q0), .second, .val (.long q1), .second, .val (.long q2), .second, .val (.int p3), .val (.int n7), .val (.long w0), .second, .val (.long w1), .second, .val (.long w2), .second, .val (.ref ar), .val (.long u0), .second, .val (.long u1), .second, .val (.long u2), .second, .val (.int cnt), .val (.int (1 : Int32)), .val (.int (0 : Int32)), .val (.ref b119)] [(.ref b119)])) rfl (by rw [hml]; rfl) (Steps.refl _) (argsL := []) (rest := []) (lenOf pd0___I rfl) rfl (by show 2 * 0 + _ ≤ _; exact Nat.le_of_eq rfl) (hb hby at_259) (fun _ _ => ⟨rfl, e124, (by decide : 2 + 0 ≤ _), (by decide : 6 + 0 ≤ _)⟩)
          dsimp only [Pt.U, Pt.locs, Pt.cells, Pt.slots] at X125 l125 y125 z125 st125 hQ125
          subst l125 y125 z125
          obtain ⟨rfl, N125q, gZ125, gP125⟩ := hQ125
          have N125 := Fr.app N124 N125q
          refine bk (fun t k => st125.trans k) ?_
          refine bk (fun t k => XS.pop X125.here hx rfl (hb hby at_262) rfl rfl k) ?_
          refine bk (fun t k => XS.aload X125.here hx rfl (hb hby at_263) rfl rfl k) ?_
          show F (T125.setTop (mkF m 265 #[.val (.long q0), .second, .val (.long q1), .second, .val (.long q2), .second, .val (.int p3), .val (.int n7), .val (.long w0), .second, .val (.long w1), .second, .val (.long w2), .second, .val (.ref ar), .val (.long u0), .second, .val (.long u1), .second, .val (.long u2), .second, .val (.int cnt), .val (.int (1 : Int32)), .val (.int (0 : Int32)), .val (.ref b119)] [(.ref b119)]))
          obtain ⟨cq126, kq126, q126a, q126b, q126c⟩ := isOf hZ rfl (gP125.1)
          obtain ⟨_, _, ⟨T126, L126, k126, n126⟩, -, X126, ⟨Lc126, hQ126, l126, y126, z126⟩, st126⟩ := X125.virtualBack hx (y := (⟨"com/example/lone1/lone1/solve/SweepOrder", "hasNext", "()Z"⟩ : MethodName)) (z := (⟨"com/example/lone1/lone1/solve/SweepOrder", "hasNext", "()Z"⟩ : MethodName)) hown (mvT hZ w_21) (mvT hZ w_22) (notFace_of_selects (args := #[]) (mvT hZ w_24)) (mvT hZ w_24) (mvT hZ w_23) (by decide) (backOf (W := 0) (rm5Z1n l Z a0 hw [] b119 ar kk (3 : Int32) u0 u1 u2 T125.heap n0 gZ125 (own_S0 hc9101_117 gP125) Gb119 ne_b119_ar (by decide) hc9000_118) hZ w_25 w_10 (by decide) (by decide)) q126a q126c (g := (mkF m 265 #[.val (.long q0), .second, .val (.long q1), .second, .val (.long q2), .second, .val (.int p3), .val (.int n7), .val (.long w0), .second, .val (.long w1), .second, .val (.long w2), .second, .val (.ref ar), .val (.long u0), .second, .val (.long u1), .second, .val (.long u2), .second, .val (.int cnt), .val (.int (1 : Int32)), .val (.int (0 : Int32)), .val (.ref b119)] [(.ref b119)])) rfl (by rw [hml]; rfl) (Steps.refl _) (argsL := []) (rest := []) (lenOf pd0___Z rfl) rfl (by show 2 * 0 + _ ≤ _; exact Nat.le_of_eq rfl) (hb hby at_265) (fun _ _ => ⟨rfl, rfl, (by decide : 2 + 0 ≤ _), (by decide : 6 + 0 ≤ _)⟩)
          dsimp only [Pt.U, Pt.locs, Pt.cells, Pt.slots] at X126 l126 y126 z126 st126 hQ126
          subst l126 y126 z126
          obtain ⟨rfl, N126q, gZ126, gP126⟩ := hQ126
          have N126 := Fr.app N125 N126q
          refine bk (fun t k => st126.trans k) ?_
          refine bk (fun t k => XS.iload X126.here hx rfl (hb hby at_268) rfl k) ?_
          show F (T126.setTop (mkF m 270 #[.val (.long q0), .second, .val (.long q1), .second, .val (.long q2), .second, .val (.int p3), .val (.int n7), .val (.long w0), .second, .val (.long w1), .second, .val (.long w2), .second, .val (.ref ar), .val (.long u0), .second, .val (.long u1), .second, .val (.long u2), .second, .val (.int cnt), .val (.int (1 : Int32)), .val (.int (0 : Int32)), .val (.ref b119)] [(.int (0 : Int32)), (.int (0 : Int32))]))
          refine bk (fun t k => XS.icmpYes X126.here hx rfl (pc0 := 270) (pc' := 275) rfl (hb hby at_270) rfl (teq (by decide : (0 : Int32) = (0 : Int32))).1 (by decide) (by decide) k) ?_
          refine bk (fun t k => XS.aload X126.here hx rfl (hb hby at_275) rfl rfl k) ?_
          show F (T126.setTop (mkF m 277 #[.val (.long q0), .second, .val (.long q1), .second, .val (.long q2), .second, .val (.int p3), .val (.int n7), .val (.long w0), .second, .val (.long w1), .second, .val (.long w2), .second, .val (.ref ar), .val (.long u0), .second, .val (.long u1), .second, .val (.long u2), .second, .val (.int cnt), .val (.int (1 : Int32)), .val (.int (0 : Int32)), .val (.ref b119)] [(.ref b119)]))
          obtain ⟨cq127, kq127, q127a, q127b, q127c⟩ := isOf hZ rfl (gP126.1)
          obtain ⟨_, _, ⟨T127, L127, k127, n127⟩, -, X127, ⟨Lc127, hQ127, l127, y127, z127⟩, st127⟩ := X126.virtualBack hx (y := (⟨"com/example/lone1/lone1/solve/SweepOrder", "hasNext", "()Z"⟩ : MethodName)) (z := (⟨"com/example/lone1/lone1/solve/SweepOrder", "hasNext", "()Z"⟩ : MethodName)) hown (mvT hZ w_21) (mvT hZ w_22) (notFace_of_selects (args := #[]) (mvT hZ w_24)) (mvT hZ w_24) (mvT hZ w_23) (by decide) (backOf (W := 0) (rm5Z0n l Z a0 hw [] b119 ar kk (3 : Int32) u0 u1 u2 T126.heap n0 gZ126 (own_S0 hc9000_118 gP126) Gb119 ne_b119_ar ) hZ w_25 w_10 (by decide) (by decide)) q127a q127c (g := (mkF m 277 #[.val (.long q0), .second, .val (.long q1), .second, .val (.long q2), .second, .val (.int p3), .val (.int n7), .val (.long w0), .second, .val (.long w1), .second, .val (.long w2), .second, .val (.ref ar), .val (.long u0), .second, .val (.long u1), .second, .val (.long u2), .second, .val (.int cnt), .val (.int (1 : Int32)), .val (.int (0 : Int32)), .val (.ref b119)] [(.ref b119)])) rfl (by rw [hml]; rfl) (Steps.refl _) (argsL := []) (rest := []) (lenOf pd0___Z rfl) rfl (by show 2 * 0 + _ ≤ _; exact Nat.le_of_eq rfl) (hb hby at_277) (fun _ _ => ⟨rfl, rfl, (by decide : 2 + 0 ≤ _), (by decide : 6 + 0 ≤ _)⟩)
          dsimp only [Pt.U, Pt.locs, Pt.cells, Pt.slots] at X127 l127 y127 z127 st127 hQ127
          subst l127 y127 z127
          obtain ⟨rfl, N127q, gZ127, gP127⟩ := hQ127
          have N127 := Fr.app N126 N127q
          refine bk (fun t k => st127.trans k) ?_
          refine bk (fun t k => XS.iload X127.here hx rfl (hb hby at_280) rfl k) ?_
          show F (T127.setTop (mkF m 282 #[.val (.long q0), .second, .val (.long q1), .second, .val (.long q2), .second, .val (.int p3), .val (.int n7), .val (.long w0), .second, .val (.long w1), .second, .val (.long w2), .second, .val (.ref ar), .val (.long u0), .second, .val (.long u1), .second, .val (.long u2), .second, .val (.int cnt), .val (.int (1 : Int32)), .val (.int (0 : Int32)), .val (.ref b119)] [(.int (0 : Int32)), (.int (0 : Int32))]))
          refine bk (fun t k => XS.icmpNo X127.here hx rfl (hb hby at_282) rfl (teq (by decide : (0 : Int32) = (0 : Int32))).2 k) ?_
          refine bk (fun t k => XS.iconst X127.here hx rfl (hb hby at_285) k) ?_
          refine bk (fun t k => XS.goto X127.here hx rfl (pc0 := 286) (pc' := 290) rfl (hb hby at_286) (by decide) (by decide) k) ?_
          show F (T127.setTop (mkF m 290 #[.val (.long q0), .second, .val (.long q1), .second, .val (.long q2), .second, .val (.int p3), .val (.int n7), .val (.long w0), .second, .val (.long w1), .second, .val (.long w2), .second, .val (.ref ar), .val (.long u0), .second, .val (.long u1), .second, .val (.long u2), .second, .val (.int cnt), .val (.int (1 : Int32)), .val (.int (0 : Int32)), .val (.ref b119)] [(.int (1 : Int32))]))
          rw [hF]
          refine own_retZ X127 hx Bd.notSynchronized Bd.returns (hb hby at_290) (by decide) (by decide) ?_
          exact ⟨rfl, N127⟩
        · obtain rfl : any = (1 : Int32) := hany.trans (by subst hcnt; simp +decide [own_anyc, own_cnt, own_b, hc9202_89, hc9201_90, hc9101_117, hc9000_118])
          obtain rfl : two = (1 : Int32) := htwo.trans (by subst hcnt; simp +decide [own_two, own_cnt, own_b, own_mb0, hc9202_89, hc9201_90, hc9101_117, hc9000_118, own_clr_mb hc9201_90 hc9101_117])
          show F (TJ.setTop (mkF m 213 #[.val (.long q0), .second, .val (.long q1), .second, .val (.long q2), .second, .val (.int p3), .val (.int n7), .val (.long w0), .second, .val (.long w1), .second, .val (.long w2), .second, .val (.ref ar), .val (.long u0), .second, .val (.long u1), .second, .val (.long u2), .second, .val (.int cnt), .val (.int (1 : Int32)), .unset, .unset] [(.int (1 : Int32))]))
          refine bk (fun t k => XS.istore XJ.here hx rfl (hb hby at_213) rfl (l' := #[.val (.long q0), .second, .val (.long q1), .second, .val (.long q2), .second, .val (.int p3), .val (.int n7), .val (.long w0), .second, .val (.long w1), .second, .val (.long w2), .second, .val (.ref ar), .val (.long u0), .second, .val (.long u1), .second, .val (.long u2), .second, .val (.int cnt), .val (.int (1 : Int32)), .val (.int (1 : Int32)), .unset]) rfl k) ?_
          show F (TJ.setTop (mkF m 215 #[.val (.long q0), .second, .val (.long q1), .second, .val (.long q2), .second, .val (.int p3), .val (.int n7), .val (.long w0), .second, .val (.long w1), .second, .val (.long w2), .second, .val (.ref ar), .val (.long u0), .second, .val (.long u1), .second, .val (.long u2), .second, .val (.int cnt), .val (.int (1 : Int32)), .val (.int (1 : Int32)), .unset] []))
          obtain ⟨T128, h128, X128, e128, E128, A128, D128, -, st128⟩ := newO XJ hx hZ hown w_8 w_9 w_10 eJ (g := (mkF m 215 #[.val (.long q0), .second, .val (.long q1), .second, .val (.long q2), .second, .val (.int p3), .val (.int n7), .val (.long w0), .second, .val (.long w1), .second, .val (.long w2), .second, .val (.ref ar), .val (.long u0), .second, .val (.long u1), .second, .val (.long u2), .second, .val (.int cnt), .val (.int (1 : Int32)), .val (.int (1 : Int32)), .unset] [])) rfl (hb hby at_215) (by decide) (by decide)
          obtain ⟨b128, g128⟩ : ∃ z, z = hJ.size := ⟨_, rfl⟩
          rw [← g128] at A128 D128 st128
          have Gb128 : n0 ≤ b128 := Nat.le_trans jZ (Nat.le_of_eq g128.symm)
          have ne_ar_b128 : ar ≠ b128 := Nat.ne_of_lt (Nat.lt_of_lt_of_le jV.lt (Nat.le_of_eq g128.symm))
          have f129 := Nat.le_trans jZ E128.1
          have f130 := jV.ext E128
          have F_words_b128 : Fld Z h128 b128 "com/example/lone1/lone1/solve/SweepOrder" "words" "[J" .null := D128 (Or.inr w_18) (ty := (.array .long)) (by decide)
          have F_at_b128 : Fld Z h128 b128 "com/example/lone1/lone1/solve/SweepOrder" "at" "I" (.int (0 : Int32)) := D128 (Or.inl w_20) (ty := .int) (by decide)
          have F_word_b128 : Fld Z h128 b128 "com/example/lone1/lone1/solve/SweepOrder" "word" "J" (.long (0 : Int64)) := D128 (Or.inl w_27) (ty := .long) (by decide)
          refine bk (fun t k => st128 t k) ?_
          refine bk (fun t k => XS.dup X128.here hx rfl (hb hby at_218) rfl rfl k) ?_
          refine bk (fun t k => XS.aload X128.here hx rfl (hb hby at_219) rfl rfl k) ?_
          show F (T128.setTop (mkF m 221 #[.val (.long q0), .second, .val (.long q1), .second, .val (.long q2), .second, .val (.int p3), .val (.int n7), .val (.long w0), .second, .val (.long w1), .second, .val (.long w2), .second, .val (.ref ar), .val (.long u0), .second, .val (.long u1), .second, .val (.long u2), .second, .val (.int cnt), .val (.int (1 : Int32)), .val (.int (1 : Int32)), .unset] [(.ref ar), (.ref b128), (.ref b128)]))
          obtain ⟨_, _, ⟨T131, L131, k131, n131⟩, -, X131, ⟨Lc131, hQ131, l131, y131, z131⟩, st131⟩ := X128.specialBack hx (y := (⟨"com/example/lone1/lone1/solve/SweepOrder", "<init>", "([J)V"⟩ : MethodName)) rfl hown (mvT hZ w_11) (mvT hZ w_12) (mvT hZ w_13) (by decide) (backOf (W := 1) (rm3 l Z a0 hw [] b128 ar kk (3 : Int32) u0 u1 u2 h128 n0 f129 A128 F_words_b128 F_at_b128 F_word_b128 f130 Gb128 (Ne.symm ne_ar_b128)) hZ w_13 w_10 (by decide) (by decide)) (g := (mkF m 221 #[.val (.long q0), .second, .val (.long q1), .second, .val (.long q2), .second, .val (.int p3), .val (.int n7), .val (.long w0), .second, .val (.long w1), .second, .val (.long w2), .second, .val (.ref ar), .val (.long u0), .second, .val (.long u1), .second, .val (.long u2), .second, .val (.int cnt), .val (.int (1 : Int32)), .val (.int (1 : Int32)), .unset] [(.ref ar), (.ref b128), (.ref b128)])) rfl (by rw [hml]; rfl) (Steps.refl _) (a := b128) (argsL := [(.ref ar)]) (rest := [(.ref b128)]) (lenOf pd0___J_V rfl) rfl (by show 2 * 0 + _ ≤ _; exact Nat.le_of_eq rfl) (hb hby at_221) (fun _ _ => ⟨rfl, e128, (by decide : 2 + 0 ≤ _), (by decide : 6 + 0 ≤ _)⟩)
          dsimp only [Pt.U, Pt.locs, Pt.cells, Pt.slots] at X131 l131 y131 z131 st131 hQ131
          subst l131 y131 z131
          obtain ⟨rfl, N131q, gZ131, gP131⟩ := hQ131
          have N131 := Fr.app NJ N131q
          have ne_b128_ar : b128 ≠ ar := (Ne.symm ne_ar_b128)
          refine bk (fun t k => st131.trans k) ?_
          show F (T131.setTop (mkF m 224 #[.val (.long q0), .second, .val (.long q1), .second, .val (.long q2), .second, .val (.int p3), .val (.int n7), .val (.long w0), .second, .val (.long w1), .second, .val (.long w2), .second, .val (.ref ar), .val (.long u0), .second, .val (.long u1), .second, .val (.long u2), .second, .val (.int cnt), .val (.int (1 : Int32)), .val (.int (1 : Int32)), .unset] [(.ref b128)]))
          refine bk (fun t k => XS.astore X131.here hx rfl (hb hby at_224) rfl rfl (l' := #[.val (.long q0), .second, .val (.long q1), .second, .val (.long q2), .second, .val (.int p3), .val (.int n7), .val (.long w0), .second, .val (.long w1), .second, .val (.long w2), .second, .val (.ref ar), .val (.long u0), .second, .val (.long u1), .second, .val (.long u2), .second, .val (.int cnt), .val (.int (1 : Int32)), .val (.int (1 : Int32)), .val (.ref b128)]) rfl k) ?_
          refine bk (fun t k => XS.aload X131.here hx rfl (hb hby at_226) rfl rfl k) ?_
          show F (T131.setTop (mkF m 228 #[.val (.long q0), .second, .val (.long q1), .second, .val (.long q2), .second, .val (.int p3), .val (.int n7), .val (.long w0), .second, .val (.long w1), .second, .val (.long w2), .second, .val (.ref ar), .val (.long u0), .second, .val (.long u1), .second, .val (.long u2), .second, .val (.int cnt), .val (.int (1 : Int32)), .val (.int (1 : Int32)), .val (.ref b128)] [(.ref b128)]))
          obtain ⟨cq132, kq132, q132a, q132b, q132c⟩ := isOf hZ rfl (gP131.1)
          obtain ⟨_, _, ⟨T132, L132, k132, n132⟩, -, X132, ⟨Lc132, hQ132, l132, y132, z132⟩, st132⟩ := X131.virtualBack hx (y := (⟨"com/example/lone1/lone1/solve/SweepOrder", "hasNext", "()Z"⟩ : MethodName)) (z := (⟨"com/example/lone1/lone1/solve/SweepOrder", "hasNext", "()Z"⟩ : MethodName)) hown (mvT hZ w_21) (mvT hZ w_22) (notFace_of_selects (args := #[]) (mvT hZ w_24)) (mvT hZ w_24) (mvT hZ w_23) (by decide) (backOf (W := 0) (rm5Z31 l Z a0 hw [] b128 ar kk (3 : Int32) u0 u1 u2 T131.heap n0 gZ131 gP131 Gb128 ne_b128_ar (by decide) (by decide) (by decide) hc9202_89 hc9201_90) hZ w_25 w_10 (by decide) (by decide)) q132a q132c (g := (mkF m 228 #[.val (.long q0), .second, .val (.long q1), .second, .val (.long q2), .second, .val (.int p3), .val (.int n7), .val (.long w0), .second, .val (.long w1), .second, .val (.long w2), .second, .val (.ref ar), .val (.long u0), .second, .val (.long u1), .second, .val (.long u2), .second, .val (.int cnt), .val (.int (1 : Int32)), .val (.int (1 : Int32)), .val (.ref b128)] [(.ref b128)])) rfl (by rw [hml]; rfl) (Steps.refl _) (argsL := []) (rest := []) (lenOf pd0___Z rfl) rfl (by show 2 * 0 + _ ≤ _; exact Nat.le_of_eq rfl) (hb hby at_228) (fun _ _ => ⟨rfl, rfl, (by decide : 2 + 0 ≤ _), (by decide : 6 + 0 ≤ _)⟩)
          dsimp only [Pt.U, Pt.locs, Pt.cells, Pt.slots] at X132 l132 y132 z132 st132 hQ132
          subst l132 y132 z132
          obtain ⟨rfl, N132q, gZ132, gP132⟩ := hQ132
          have N132 := Fr.app N131 N132q
          refine bk (fun t k => st132.trans k) ?_
          refine bk (fun t k => XS.iload X132.here hx rfl (hb hby at_231) rfl k) ?_
          show F (T132.setTop (mkF m 233 #[.val (.long q0), .second, .val (.long q1), .second, .val (.long q2), .second, .val (.int p3), .val (.int n7), .val (.long w0), .second, .val (.long w1), .second, .val (.long w2), .second, .val (.ref ar), .val (.long u0), .second, .val (.long u1), .second, .val (.long u2), .second, .val (.int cnt), .val (.int (1 : Int32)), .val (.int (1 : Int32)), .val (.ref b128)] [(.int (1 : Int32)), (.int (1 : Int32))]))
          refine bk (fun t k => XS.icmpYes X132.here hx rfl (pc0 := 233) (pc' := 238) rfl (hb hby at_233) rfl (teq (by decide : (1 : Int32) = (1 : Int32))).1 (by decide) (by decide) k) ?_
          refine bk (fun t k => XS.aload X132.here hx rfl (hb hby at_238) rfl rfl k) ?_
          show F (T132.setTop (mkF m 240 #[.val (.long q0), .second, .val (.long q1), .second, .val (.long q2), .second, .val (.int p3), .val (.int n7), .val (.long w0), .second, .val (.long w1), .second, .val (.long w2), .second, .val (.ref ar), .val (.long u0), .second, .val (.long u1), .second, .val (.long u2), .second, .val (.int cnt), .val (.int (1 : Int32)), .val (.int (1 : Int32)), .val (.ref b128)] [(.ref b128)]))
          obtain ⟨cq133, kq133, q133a, q133b, q133c⟩ := isOf hZ rfl (gP132.1)
          obtain ⟨_, _, ⟨T133, L133, k133, n133⟩, -, X133, ⟨Lc133, hQ133, l133, y133, z133⟩, st133⟩ := X132.virtualBack hx (y := (⟨"com/example/lone1/lone1/solve/SweepOrder", "hasNext", "()Z"⟩ : MethodName)) (z := (⟨"com/example/lone1/lone1/solve/SweepOrder", "hasNext", "()Z"⟩ : MethodName)) hown (mvT hZ w_21) (mvT hZ w_22) (notFace_of_selects (args := #[]) (mvT hZ w_24)) (mvT hZ w_24) (mvT hZ w_23) (by decide) (backOf (W := 0) (rm5N l Z a0 hw [] b128 u1 T132.heap n0 gZ132 gP132.2.2.2.1 hc9201_90) hZ w_25 w_10 (by decide) (by decide)) q133a q133c (g := (mkF m 240 #[.val (.long q0), .second, .val (.long q1), .second, .val (.long q2), .second, .val (.int p3), .val (.int n7), .val (.long w0), .second, .val (.long w1), .second, .val (.long w2), .second, .val (.ref ar), .val (.long u0), .second, .val (.long u1), .second, .val (.long u2), .second, .val (.int cnt), .val (.int (1 : Int32)), .val (.int (1 : Int32)), .val (.ref b128)] [(.ref b128)])) rfl (by rw [hml]; rfl) (Steps.refl _) (argsL := []) (rest := []) (lenOf pd0___Z rfl) rfl (by show 2 * 0 + _ ≤ _; exact Nat.le_of_eq rfl) (hb hby at_240) (fun _ _ => ⟨rfl, rfl, (by decide : 2 + 0 ≤ _), (by decide : 6 + 0 ≤ _)⟩)
          dsimp only [Pt.U, Pt.locs, Pt.cells, Pt.slots] at X133 l133 y133 z133 st133 hQ133
          subst l133 y133 z133
          obtain ⟨rfl, N133q, e133⟩ := hQ133
          have N133 := Fr.app N132 N133q
          refine bk (fun t k => st133.trans k) ?_
          refine bk (fun t k => XS.iload X133.here hx rfl (hb hby at_243) rfl k) ?_
          show F (T133.setTop (mkF m 245 #[.val (.long q0), .second, .val (.long q1), .second, .val (.long q2), .second, .val (.int p3), .val (.int n7), .val (.long w0), .second, .val (.long w1), .second, .val (.long w2), .second, .val (.ref ar), .val (.long u0), .second, .val (.long u1), .second, .val (.long u2), .second, .val (.int cnt), .val (.int (1 : Int32)), .val (.int (1 : Int32)), .val (.ref b128)] [(.int (1 : Int32)), (.int (1 : Int32))]))
          refine bk (fun t k => XS.icmpYes X133.here hx rfl (pc0 := 245) (pc' := 250) rfl (hb hby at_245) rfl (teq (by decide : (1 : Int32) = (1 : Int32))).1 (by decide) (by decide) k) ?_
          refine bk (fun t k => XS.iload X133.here hx rfl (hb hby at_250) rfl k) ?_
          show F (T133.setTop (mkF m 252 #[.val (.long q0), .second, .val (.long q1), .second, .val (.long q2), .second, .val (.int p3), .val (.int n7), .val (.long w0), .second, .val (.long w1), .second, .val (.long w2), .second, .val (.ref ar), .val (.long u0), .second, .val (.long u1), .second, .val (.long u2), .second, .val (.int cnt), .val (.int (1 : Int32)), .val (.int (1 : Int32)), .val (.ref b128)] [(.int (1 : Int32))]))
          refine bk (fun t k => XS.ifYes X133.here hx rfl (pc0 := 252) (pc' := 257) rfl (hb hby at_252) rfl ((if0 _ _).trans (feq (by decide : ¬ ((1 : Int32) = (0 : Int32)))).2) (by decide) (by decide) k) ?_
          refine bk (fun t k => XS.aload X133.here hx rfl (hb hby at_257) rfl rfl k) ?_
          show F (T133.setTop (mkF m 259 #[.val (.long q0), .second, .val (.long q1), .second, .val (.long q2), .second, .val (.int p3), .val (.int n7), .val (.long w0), .second, .val (.long w1), .second, .val (.long w2), .second, .val (.ref ar), .val (.long u0), .second, .val (.long u1), .second, .val (.long u2), .second, .val (.int cnt), .val (.int (1 : Int32)), .val (.int (1 : Int32)), .val (.ref b128)] [(.ref b128)]))
          obtain ⟨cq134, kq134, q134a, q134b, q134c⟩ := isOf hZ e133 (gP132.1)
          obtain ⟨_, _, ⟨T134, L134, k134, n134⟩, -, X134, ⟨Lc134, hQ134, l134, y134, z134⟩, st134⟩ := X133.virtualBack hx (y := (⟨"com/example/lone1/lone1/solve/SweepOrder", "next", "()I"⟩ : MethodName)) (z := (⟨"com/example/lone1/lone1/solve/SweepOrder", "next", "()I"⟩ : MethodName)) hown (mvT hZ w_29) (mvT hZ w_30) (notFace_of_selects (args := #[]) (mvT hZ w_32)) (mvT hZ w_32) (mvT hZ w_31) (by decide) (backOf (W := 0) (rm6 l Z a0 hw [] b128 ar kk (3 : Int32) (1 : Int32) u1 u0 u1 u2 T132.heap n0 gZ132 gP132 Gb128 ne_b128_ar hc9201_90) hZ w_33 w_10 (by decide) (by decide)) q134a q134c (g := (mkF m 259 #[.val (.long q0), .second, .val (.long q1), .second, .val (.long q2), .second, .val (.int p3), .val (.int n7), .val (.long w0), .second, .val (.long w1), .second, .val (.long w2), .second, .val (.ref ar), .val (.long u0), .second, .val (.long u1), .second, .val (.long u2), .second, .val (.int cnt), .val (.int (1 : Int32)), .val (.int (1 : Int32)), .val (.ref b128)] [(.ref b128)])) rfl (by rw [hml]; rfl) (Steps.refl _) (argsL := []) (rest := []) (lenOf pd0___I rfl) rfl (by show 2 * 0 + _ ≤ _; exact Nat.le_of_eq rfl) (hb hby at_259) (fun _ _ => ⟨rfl, e133, (by decide : 2 + 0 ≤ _), (by decide : 6 + 0 ≤ _)⟩)
          dsimp only [Pt.U, Pt.locs, Pt.cells, Pt.slots] at X134 l134 y134 z134 st134 hQ134
          subst l134 y134 z134
          obtain ⟨rfl, N134q, gZ134, gP134⟩ := hQ134
          have N134 := Fr.app N133 N134q
          refine bk (fun t k => st134.trans k) ?_
          refine bk (fun t k => XS.pop X134.here hx rfl (hb hby at_262) rfl rfl k) ?_
          refine bk (fun t k => XS.aload X134.here hx rfl (hb hby at_263) rfl rfl k) ?_
          show F (T134.setTop (mkF m 265 #[.val (.long q0), .second, .val (.long q1), .second, .val (.long q2), .second, .val (.int p3), .val (.int n7), .val (.long w0), .second, .val (.long w1), .second, .val (.long w2), .second, .val (.ref ar), .val (.long u0), .second, .val (.long u1), .second, .val (.long u2), .second, .val (.int cnt), .val (.int (1 : Int32)), .val (.int (1 : Int32)), .val (.ref b128)] [(.ref b128)]))
          obtain ⟨cq135, kq135, q135a, q135b, q135c⟩ := isOf hZ rfl (gP134.1)
          obtain ⟨_, _, ⟨T135, L135, k135, n135⟩, -, X135, ⟨Lc135, hQ135, l135, y135, z135⟩, st135⟩ := X134.virtualBack hx (y := (⟨"com/example/lone1/lone1/solve/SweepOrder", "hasNext", "()Z"⟩ : MethodName)) (z := (⟨"com/example/lone1/lone1/solve/SweepOrder", "hasNext", "()Z"⟩ : MethodName)) hown (mvT hZ w_21) (mvT hZ w_22) (notFace_of_selects (args := #[]) (mvT hZ w_24)) (mvT hZ w_24) (mvT hZ w_23) (by decide) (backOf (W := 0) (rm5Z10 l Z a0 hw [] b128 ar kk (3 : Int32) u0 u1 u2 T134.heap n0 gZ134 (own_S0 hc9101_117 gP134) Gb128 ne_b128_ar (by decide) hc9000_118) hZ w_25 w_10 (by decide) (by decide)) q135a q135c (g := (mkF m 265 #[.val (.long q0), .second, .val (.long q1), .second, .val (.long q2), .second, .val (.int p3), .val (.int n7), .val (.long w0), .second, .val (.long w1), .second, .val (.long w2), .second, .val (.ref ar), .val (.long u0), .second, .val (.long u1), .second, .val (.long u2), .second, .val (.int cnt), .val (.int (1 : Int32)), .val (.int (1 : Int32)), .val (.ref b128)] [(.ref b128)])) rfl (by rw [hml]; rfl) (Steps.refl _) (argsL := []) (rest := []) (lenOf pd0___Z rfl) rfl (by show 2 * 0 + _ ≤ _; exact Nat.le_of_eq rfl) (hb hby at_265) (fun _ _ => ⟨rfl, rfl, (by decide : 2 + 0 ≤ _), (by decide : 6 + 0 ≤ _)⟩)
          dsimp only [Pt.U, Pt.locs, Pt.cells, Pt.slots] at X135 l135 y135 z135 st135 hQ135
          subst l135 y135 z135
          obtain ⟨rfl, N135q, gZ135, gP135⟩ := hQ135
          have N135 := Fr.app N134 N135q
          refine bk (fun t k => st135.trans k) ?_
          refine bk (fun t k => XS.iload X135.here hx rfl (hb hby at_268) rfl k) ?_
          show F (T135.setTop (mkF m 270 #[.val (.long q0), .second, .val (.long q1), .second, .val (.long q2), .second, .val (.int p3), .val (.int n7), .val (.long w0), .second, .val (.long w1), .second, .val (.long w2), .second, .val (.ref ar), .val (.long u0), .second, .val (.long u1), .second, .val (.long u2), .second, .val (.int cnt), .val (.int (1 : Int32)), .val (.int (1 : Int32)), .val (.ref b128)] [(.int (1 : Int32)), (.int (1 : Int32))]))
          refine bk (fun t k => XS.icmpYes X135.here hx rfl (pc0 := 270) (pc' := 275) rfl (hb hby at_270) rfl (teq (by decide : (1 : Int32) = (1 : Int32))).1 (by decide) (by decide) k) ?_
          refine bk (fun t k => XS.aload X135.here hx rfl (hb hby at_275) rfl rfl k) ?_
          show F (T135.setTop (mkF m 277 #[.val (.long q0), .second, .val (.long q1), .second, .val (.long q2), .second, .val (.int p3), .val (.int n7), .val (.long w0), .second, .val (.long w1), .second, .val (.long w2), .second, .val (.ref ar), .val (.long u0), .second, .val (.long u1), .second, .val (.long u2), .second, .val (.int cnt), .val (.int (1 : Int32)), .val (.int (1 : Int32)), .val (.ref b128)] [(.ref b128)]))
          obtain ⟨cq136, kq136, q136a, q136b, q136c⟩ := isOf hZ rfl (gP135.1)
          obtain ⟨_, _, ⟨T136, L136, k136, n136⟩, -, X136, ⟨Lc136, hQ136, l136, y136, z136⟩, st136⟩ := X135.virtualBack hx (y := (⟨"com/example/lone1/lone1/solve/SweepOrder", "hasNext", "()Z"⟩ : MethodName)) (z := (⟨"com/example/lone1/lone1/solve/SweepOrder", "hasNext", "()Z"⟩ : MethodName)) hown (mvT hZ w_21) (mvT hZ w_22) (notFace_of_selects (args := #[]) (mvT hZ w_24)) (mvT hZ w_24) (mvT hZ w_23) (by decide) (backOf (W := 0) (rm5N l Z a0 hw [] b128 u0 T135.heap n0 gZ135 gP135.2.2.2.1 hc9000_118) hZ w_25 w_10 (by decide) (by decide)) q136a q136c (g := (mkF m 277 #[.val (.long q0), .second, .val (.long q1), .second, .val (.long q2), .second, .val (.int p3), .val (.int n7), .val (.long w0), .second, .val (.long w1), .second, .val (.long w2), .second, .val (.ref ar), .val (.long u0), .second, .val (.long u1), .second, .val (.long u2), .second, .val (.int cnt), .val (.int (1 : Int32)), .val (.int (1 : Int32)), .val (.ref b128)] [(.ref b128)])) rfl (by rw [hml]; rfl) (Steps.refl _) (argsL := []) (rest := []) (lenOf pd0___Z rfl) rfl (by show 2 * 0 + _ ≤ _; exact Nat.le_of_eq rfl) (hb hby at_277) (fun _ _ => ⟨rfl, rfl, (by decide : 2 + 0 ≤ _), (by decide : 6 + 0 ≤ _)⟩)
          dsimp only [Pt.U, Pt.locs, Pt.cells, Pt.slots] at X136 l136 y136 z136 st136 hQ136
          subst l136 y136 z136
          obtain ⟨rfl, N136q, e136⟩ := hQ136
          have N136 := Fr.app N135 N136q
          refine bk (fun t k => st136.trans k) ?_
          refine bk (fun t k => XS.iload X136.here hx rfl (hb hby at_280) rfl k) ?_
          show F (T136.setTop (mkF m 282 #[.val (.long q0), .second, .val (.long q1), .second, .val (.long q2), .second, .val (.int p3), .val (.int n7), .val (.long w0), .second, .val (.long w1), .second, .val (.long w2), .second, .val (.ref ar), .val (.long u0), .second, .val (.long u1), .second, .val (.long u2), .second, .val (.int cnt), .val (.int (1 : Int32)), .val (.int (1 : Int32)), .val (.ref b128)] [(.int (1 : Int32)), (.int (1 : Int32))]))
          refine bk (fun t k => XS.icmpNo X136.here hx rfl (hb hby at_282) rfl (teq (by decide : (1 : Int32) = (1 : Int32))).2 k) ?_
          refine bk (fun t k => XS.iconst X136.here hx rfl (hb hby at_285) k) ?_
          refine bk (fun t k => XS.goto X136.here hx rfl (pc0 := 286) (pc' := 290) rfl (hb hby at_286) (by decide) (by decide) k) ?_
          show F (T136.setTop (mkF m 290 #[.val (.long q0), .second, .val (.long q1), .second, .val (.long q2), .second, .val (.int p3), .val (.int n7), .val (.long w0), .second, .val (.long w1), .second, .val (.long w2), .second, .val (.ref ar), .val (.long u0), .second, .val (.long u1), .second, .val (.long u2), .second, .val (.int cnt), .val (.int (1 : Int32)), .val (.int (1 : Int32)), .val (.ref b128)] [(.int (1 : Int32))]))
          rw [hF]
          refine own_retZ X136 hx Bd.notSynchronized Bd.returns (hb hby at_290) (by decide) (by decide) ?_
          rw [e136]
          exact ⟨rfl, N136⟩
      · obtain rfl : any = (1 : Int32) := hany.trans (by subst hcnt; by_cases hq0 : u0 = (0 : Int64) <;> simp +decide [own_anyc, own_cnt, own_b, hc9202_89, hc9201_90, hc9101_117, hq0])
        obtain rfl : two = (1 : Int32) := htwo.trans (by subst hcnt; by_cases hq0 : u0 = (0 : Int64) <;> simp +decide [own_two, own_cnt, own_b, own_mb0, hc9202_89, hc9201_90, hc9101_117, own_clr_mbn hc9201_90 hc9101_117, hq0])
        show F (TJ.setTop (mkF m 213 #[.val (.long q0), .second, .val (.long q1), .second, .val (.long q2), .second, .val (.int p3), .val (.int n7), .val (.long w0), .second, .val (.long w1), .second, .val (.long w2), .second, .val (.ref ar), .val (.long u0), .second, .val (.long u1), .second, .val (.long u2), .second, .val (.int cnt), .val (.int (1 : Int32)), .unset, .unset] [(.int (1 : Int32))]))
        refine bk (fun t k => XS.istore XJ.here hx rfl (hb hby at_213) rfl (l' := #[.val (.long q0), .second, .val (.long q1), .second, .val (.long q2), .second, .val (.int p3), .val (.int n7), .val (.long w0), .second, .val (.long w1), .second, .val (.long w2), .second, .val (.ref ar), .val (.long u0), .second, .val (.long u1), .second, .val (.long u2), .second, .val (.int cnt), .val (.int (1 : Int32)), .val (.int (1 : Int32)), .unset]) rfl k) ?_
        show F (TJ.setTop (mkF m 215 #[.val (.long q0), .second, .val (.long q1), .second, .val (.long q2), .second, .val (.int p3), .val (.int n7), .val (.long w0), .second, .val (.long w1), .second, .val (.long w2), .second, .val (.ref ar), .val (.long u0), .second, .val (.long u1), .second, .val (.long u2), .second, .val (.int cnt), .val (.int (1 : Int32)), .val (.int (1 : Int32)), .unset] []))
        obtain ⟨T137, h137, X137, e137, E137, A137, D137, -, st137⟩ := newO XJ hx hZ hown w_8 w_9 w_10 eJ (g := (mkF m 215 #[.val (.long q0), .second, .val (.long q1), .second, .val (.long q2), .second, .val (.int p3), .val (.int n7), .val (.long w0), .second, .val (.long w1), .second, .val (.long w2), .second, .val (.ref ar), .val (.long u0), .second, .val (.long u1), .second, .val (.long u2), .second, .val (.int cnt), .val (.int (1 : Int32)), .val (.int (1 : Int32)), .unset] [])) rfl (hb hby at_215) (by decide) (by decide)
        obtain ⟨b137, g137⟩ : ∃ z, z = hJ.size := ⟨_, rfl⟩
        rw [← g137] at A137 D137 st137
        have Gb137 : n0 ≤ b137 := Nat.le_trans jZ (Nat.le_of_eq g137.symm)
        have ne_ar_b137 : ar ≠ b137 := Nat.ne_of_lt (Nat.lt_of_lt_of_le jV.lt (Nat.le_of_eq g137.symm))
        have f138 := Nat.le_trans jZ E137.1
        have f139 := jV.ext E137
        have F_words_b137 : Fld Z h137 b137 "com/example/lone1/lone1/solve/SweepOrder" "words" "[J" .null := D137 (Or.inr w_18) (ty := (.array .long)) (by decide)
        have F_at_b137 : Fld Z h137 b137 "com/example/lone1/lone1/solve/SweepOrder" "at" "I" (.int (0 : Int32)) := D137 (Or.inl w_20) (ty := .int) (by decide)
        have F_word_b137 : Fld Z h137 b137 "com/example/lone1/lone1/solve/SweepOrder" "word" "J" (.long (0 : Int64)) := D137 (Or.inl w_27) (ty := .long) (by decide)
        refine bk (fun t k => st137 t k) ?_
        refine bk (fun t k => XS.dup X137.here hx rfl (hb hby at_218) rfl rfl k) ?_
        refine bk (fun t k => XS.aload X137.here hx rfl (hb hby at_219) rfl rfl k) ?_
        show F (T137.setTop (mkF m 221 #[.val (.long q0), .second, .val (.long q1), .second, .val (.long q2), .second, .val (.int p3), .val (.int n7), .val (.long w0), .second, .val (.long w1), .second, .val (.long w2), .second, .val (.ref ar), .val (.long u0), .second, .val (.long u1), .second, .val (.long u2), .second, .val (.int cnt), .val (.int (1 : Int32)), .val (.int (1 : Int32)), .unset] [(.ref ar), (.ref b137), (.ref b137)]))
        obtain ⟨_, _, ⟨T140, L140, k140, n140⟩, -, X140, ⟨Lc140, hQ140, l140, y140, z140⟩, st140⟩ := X137.specialBack hx (y := (⟨"com/example/lone1/lone1/solve/SweepOrder", "<init>", "([J)V"⟩ : MethodName)) rfl hown (mvT hZ w_11) (mvT hZ w_12) (mvT hZ w_13) (by decide) (backOf (W := 1) (rm3 l Z a0 hw [] b137 ar kk (3 : Int32) u0 u1 u2 h137 n0 f138 A137 F_words_b137 F_at_b137 F_word_b137 f139 Gb137 (Ne.symm ne_ar_b137)) hZ w_13 w_10 (by decide) (by decide)) (g := (mkF m 221 #[.val (.long q0), .second, .val (.long q1), .second, .val (.long q2), .second, .val (.int p3), .val (.int n7), .val (.long w0), .second, .val (.long w1), .second, .val (.long w2), .second, .val (.ref ar), .val (.long u0), .second, .val (.long u1), .second, .val (.long u2), .second, .val (.int cnt), .val (.int (1 : Int32)), .val (.int (1 : Int32)), .unset] [(.ref ar), (.ref b137), (.ref b137)])) rfl (by rw [hml]; rfl) (Steps.refl _) (a := b137) (argsL := [(.ref ar)]) (rest := [(.ref b137)]) (lenOf pd0___J_V rfl) rfl (by show 2 * 0 + _ ≤ _; exact Nat.le_of_eq rfl) (hb hby at_221) (fun _ _ => ⟨rfl, e137, (by decide : 2 + 0 ≤ _), (by decide : 6 + 0 ≤ _)⟩)
        dsimp only [Pt.U, Pt.locs, Pt.cells, Pt.slots] at X140 l140 y140 z140 st140 hQ140
        subst l140 y140 z140
        obtain ⟨rfl, N140q, gZ140, gP140⟩ := hQ140
        have N140 := Fr.app NJ N140q
        have ne_b137_ar : b137 ≠ ar := (Ne.symm ne_ar_b137)
        refine bk (fun t k => st140.trans k) ?_
        show F (T140.setTop (mkF m 224 #[.val (.long q0), .second, .val (.long q1), .second, .val (.long q2), .second, .val (.int p3), .val (.int n7), .val (.long w0), .second, .val (.long w1), .second, .val (.long w2), .second, .val (.ref ar), .val (.long u0), .second, .val (.long u1), .second, .val (.long u2), .second, .val (.int cnt), .val (.int (1 : Int32)), .val (.int (1 : Int32)), .unset] [(.ref b137)]))
        refine bk (fun t k => XS.astore X140.here hx rfl (hb hby at_224) rfl rfl (l' := #[.val (.long q0), .second, .val (.long q1), .second, .val (.long q2), .second, .val (.int p3), .val (.int n7), .val (.long w0), .second, .val (.long w1), .second, .val (.long w2), .second, .val (.ref ar), .val (.long u0), .second, .val (.long u1), .second, .val (.long u2), .second, .val (.int cnt), .val (.int (1 : Int32)), .val (.int (1 : Int32)), .val (.ref b137)]) rfl k) ?_
        refine bk (fun t k => XS.aload X140.here hx rfl (hb hby at_226) rfl rfl k) ?_
        show F (T140.setTop (mkF m 228 #[.val (.long q0), .second, .val (.long q1), .second, .val (.long q2), .second, .val (.int p3), .val (.int n7), .val (.long w0), .second, .val (.long w1), .second, .val (.long w2), .second, .val (.ref ar), .val (.long u0), .second, .val (.long u1), .second, .val (.long u2), .second, .val (.int cnt), .val (.int (1 : Int32)), .val (.int (1 : Int32)), .val (.ref b137)] [(.ref b137)]))
        obtain ⟨cq141, kq141, q141a, q141b, q141c⟩ := isOf hZ rfl (gP140.1)
        obtain ⟨_, _, ⟨T141, L141, k141, n141⟩, -, X141, ⟨Lc141, hQ141, l141, y141, z141⟩, st141⟩ := X140.virtualBack hx (y := (⟨"com/example/lone1/lone1/solve/SweepOrder", "hasNext", "()Z"⟩ : MethodName)) (z := (⟨"com/example/lone1/lone1/solve/SweepOrder", "hasNext", "()Z"⟩ : MethodName)) hown (mvT hZ w_21) (mvT hZ w_22) (notFace_of_selects (args := #[]) (mvT hZ w_24)) (mvT hZ w_24) (mvT hZ w_23) (by decide) (backOf (W := 0) (rm5Z31 l Z a0 hw [] b137 ar kk (3 : Int32) u0 u1 u2 T140.heap n0 gZ140 gP140 Gb137 ne_b137_ar (by decide) (by decide) (by decide) hc9202_89 hc9201_90) hZ w_25 w_10 (by decide) (by decide)) q141a q141c (g := (mkF m 228 #[.val (.long q0), .second, .val (.long q1), .second, .val (.long q2), .second, .val (.int p3), .val (.int n7), .val (.long w0), .second, .val (.long w1), .second, .val (.long w2), .second, .val (.ref ar), .val (.long u0), .second, .val (.long u1), .second, .val (.long u2), .second, .val (.int cnt), .val (.int (1 : Int32)), .val (.int (1 : Int32)), .val (.ref b137)] [(.ref b137)])) rfl (by rw [hml]; rfl) (Steps.refl _) (argsL := []) (rest := []) (lenOf pd0___Z rfl) rfl (by show 2 * 0 + _ ≤ _; exact Nat.le_of_eq rfl) (hb hby at_228) (fun _ _ => ⟨rfl, rfl, (by decide : 2 + 0 ≤ _), (by decide : 6 + 0 ≤ _)⟩)
        dsimp only [Pt.U, Pt.locs, Pt.cells, Pt.slots] at X141 l141 y141 z141 st141 hQ141
        subst l141 y141 z141
        obtain ⟨rfl, N141q, gZ141, gP141⟩ := hQ141
        have N141 := Fr.app N140 N141q
        refine bk (fun t k => st141.trans k) ?_
        refine bk (fun t k => XS.iload X141.here hx rfl (hb hby at_231) rfl k) ?_
        show F (T141.setTop (mkF m 233 #[.val (.long q0), .second, .val (.long q1), .second, .val (.long q2), .second, .val (.int p3), .val (.int n7), .val (.long w0), .second, .val (.long w1), .second, .val (.long w2), .second, .val (.ref ar), .val (.long u0), .second, .val (.long u1), .second, .val (.long u2), .second, .val (.int cnt), .val (.int (1 : Int32)), .val (.int (1 : Int32)), .val (.ref b137)] [(.int (1 : Int32)), (.int (1 : Int32))]))
        refine bk (fun t k => XS.icmpYes X141.here hx rfl (pc0 := 233) (pc' := 238) rfl (hb hby at_233) rfl (teq (by decide : (1 : Int32) = (1 : Int32))).1 (by decide) (by decide) k) ?_
        refine bk (fun t k => XS.aload X141.here hx rfl (hb hby at_238) rfl rfl k) ?_
        show F (T141.setTop (mkF m 240 #[.val (.long q0), .second, .val (.long q1), .second, .val (.long q2), .second, .val (.int p3), .val (.int n7), .val (.long w0), .second, .val (.long w1), .second, .val (.long w2), .second, .val (.ref ar), .val (.long u0), .second, .val (.long u1), .second, .val (.long u2), .second, .val (.int cnt), .val (.int (1 : Int32)), .val (.int (1 : Int32)), .val (.ref b137)] [(.ref b137)]))
        obtain ⟨cq142, kq142, q142a, q142b, q142c⟩ := isOf hZ rfl (gP141.1)
        obtain ⟨_, _, ⟨T142, L142, k142, n142⟩, -, X142, ⟨Lc142, hQ142, l142, y142, z142⟩, st142⟩ := X141.virtualBack hx (y := (⟨"com/example/lone1/lone1/solve/SweepOrder", "hasNext", "()Z"⟩ : MethodName)) (z := (⟨"com/example/lone1/lone1/solve/SweepOrder", "hasNext", "()Z"⟩ : MethodName)) hown (mvT hZ w_21) (mvT hZ w_22) (notFace_of_selects (args := #[]) (mvT hZ w_24)) (mvT hZ w_24) (mvT hZ w_23) (by decide) (backOf (W := 0) (rm5N l Z a0 hw [] b137 u1 T141.heap n0 gZ141 gP141.2.2.2.1 hc9201_90) hZ w_25 w_10 (by decide) (by decide)) q142a q142c (g := (mkF m 240 #[.val (.long q0), .second, .val (.long q1), .second, .val (.long q2), .second, .val (.int p3), .val (.int n7), .val (.long w0), .second, .val (.long w1), .second, .val (.long w2), .second, .val (.ref ar), .val (.long u0), .second, .val (.long u1), .second, .val (.long u2), .second, .val (.int cnt), .val (.int (1 : Int32)), .val (.int (1 : Int32)), .val (.ref b137)] [(.ref b137)])) rfl (by rw [hml]; rfl) (Steps.refl _) (argsL := []) (rest := []) (lenOf pd0___Z rfl) rfl (by show 2 * 0 + _ ≤ _; exact Nat.le_of_eq rfl) (hb hby at_240) (fun _ _ => ⟨rfl, rfl, (by decide : 2 + 0 ≤ _), (by decide : 6 + 0 ≤ _)⟩)
        dsimp only [Pt.U, Pt.locs, Pt.cells, Pt.slots] at X142 l142 y142 z142 st142 hQ142
        subst l142 y142 z142
        obtain ⟨rfl, N142q, e142⟩ := hQ142
        have N142 := Fr.app N141 N142q
        refine bk (fun t k => st142.trans k) ?_
        refine bk (fun t k => XS.iload X142.here hx rfl (hb hby at_243) rfl k) ?_
        show F (T142.setTop (mkF m 245 #[.val (.long q0), .second, .val (.long q1), .second, .val (.long q2), .second, .val (.int p3), .val (.int n7), .val (.long w0), .second, .val (.long w1), .second, .val (.long w2), .second, .val (.ref ar), .val (.long u0), .second, .val (.long u1), .second, .val (.long u2), .second, .val (.int cnt), .val (.int (1 : Int32)), .val (.int (1 : Int32)), .val (.ref b137)] [(.int (1 : Int32)), (.int (1 : Int32))]))
        refine bk (fun t k => XS.icmpYes X142.here hx rfl (pc0 := 245) (pc' := 250) rfl (hb hby at_245) rfl (teq (by decide : (1 : Int32) = (1 : Int32))).1 (by decide) (by decide) k) ?_
        refine bk (fun t k => XS.iload X142.here hx rfl (hb hby at_250) rfl k) ?_
        show F (T142.setTop (mkF m 252 #[.val (.long q0), .second, .val (.long q1), .second, .val (.long q2), .second, .val (.int p3), .val (.int n7), .val (.long w0), .second, .val (.long w1), .second, .val (.long w2), .second, .val (.ref ar), .val (.long u0), .second, .val (.long u1), .second, .val (.long u2), .second, .val (.int cnt), .val (.int (1 : Int32)), .val (.int (1 : Int32)), .val (.ref b137)] [(.int (1 : Int32))]))
        refine bk (fun t k => XS.ifYes X142.here hx rfl (pc0 := 252) (pc' := 257) rfl (hb hby at_252) rfl ((if0 _ _).trans (feq (by decide : ¬ ((1 : Int32) = (0 : Int32)))).2) (by decide) (by decide) k) ?_
        refine bk (fun t k => XS.aload X142.here hx rfl (hb hby at_257) rfl rfl k) ?_
        show F (T142.setTop (mkF m 259 #[.val (.long q0), .second, .val (.long q1), .second, .val (.long q2), .second, .val (.int p3), .val (.int n7), .val (.long w0), .second, .val (.long w1), .second, .val (.long w2), .second, .val (.ref ar), .val (.long u0), .second, .val (.long u1), .second, .val (.long u2), .second, .val (.int cnt), .val (.int (1 : Int32)), .val (.int (1 : Int32)), .val (.ref b137)] [(.ref b137)]))
        obtain ⟨cq143, kq143, q143a, q143b, q143c⟩ := isOf hZ e142 (gP141.1)
        obtain ⟨_, _, ⟨T143, L143, k143, n143⟩, -, X143, ⟨Lc143, hQ143, l143, y143, z143⟩, st143⟩ := X142.virtualBack hx (y := (⟨"com/example/lone1/lone1/solve/SweepOrder", "next", "()I"⟩ : MethodName)) (z := (⟨"com/example/lone1/lone1/solve/SweepOrder", "next", "()I"⟩ : MethodName)) hown (mvT hZ w_29) (mvT hZ w_30) (notFace_of_selects (args := #[]) (mvT hZ w_32)) (mvT hZ w_32) (mvT hZ w_31) (by decide) (backOf (W := 0) (rm6 l Z a0 hw [] b137 ar kk (3 : Int32) (1 : Int32) u1 u0 u1 u2 T141.heap n0 gZ141 gP141 Gb137 ne_b137_ar hc9201_90) hZ w_33 w_10 (by decide) (by decide)) q143a q143c (g := (mkF m 259 #[.val (.long q0), .second, .val (.long q1), .second, .val (.long q2), .second, .val (.int p3), .val (.int n7), .val (.long w0), .second, .val (.long w1), .second, .val (.long w2), .second, .val (.ref ar), .val (.long u0), .second, .val (.long u1), .second, .val (.long u2), .second, .val (.int cnt), .val (.int (1 : Int32)), .val (.int (1 : Int32)), .val (.ref b137)] [(.ref b137)])) rfl (by rw [hml]; rfl) (Steps.refl _) (argsL := []) (rest := []) (lenOf pd0___I rfl) rfl (by show 2 * 0 + _ ≤ _; exact Nat.le_of_eq rfl) (hb hby at_259) (fun _ _ => ⟨rfl, e142, (by decide : 2 + 0 ≤ _), (by decide : 6 + 0 ≤ _)⟩)
        dsimp only [Pt.U, Pt.locs, Pt.cells, Pt.slots] at X143 l143 y143 z143 st143 hQ143
        subst l143 y143 z143
        obtain ⟨rfl, N143q, gZ143, gP143⟩ := hQ143
        have N143 := Fr.app N142 N143q
        refine bk (fun t k => st143.trans k) ?_
        refine bk (fun t k => XS.pop X143.here hx rfl (hb hby at_262) rfl rfl k) ?_
        refine bk (fun t k => XS.aload X143.here hx rfl (hb hby at_263) rfl rfl k) ?_
        show F (T143.setTop (mkF m 265 #[.val (.long q0), .second, .val (.long q1), .second, .val (.long q2), .second, .val (.int p3), .val (.int n7), .val (.long w0), .second, .val (.long w1), .second, .val (.long w2), .second, .val (.ref ar), .val (.long u0), .second, .val (.long u1), .second, .val (.long u2), .second, .val (.int cnt), .val (.int (1 : Int32)), .val (.int (1 : Int32)), .val (.ref b137)] [(.ref b137)]))
        obtain ⟨cq144, kq144, q144a, q144b, q144c⟩ := isOf hZ rfl (gP143.1)
        obtain ⟨_, _, ⟨T144, L144, k144, n144⟩, -, X144, ⟨Lc144, hQ144, l144, y144, z144⟩, st144⟩ := X143.virtualBack hx (y := (⟨"com/example/lone1/lone1/solve/SweepOrder", "hasNext", "()Z"⟩ : MethodName)) (z := (⟨"com/example/lone1/lone1/solve/SweepOrder", "hasNext", "()Z"⟩ : MethodName)) hown (mvT hZ w_21) (mvT hZ w_22) (notFace_of_selects (args := #[]) (mvT hZ w_24)) (mvT hZ w_24) (mvT hZ w_23) (by decide) (backOf (W := 0) (rm5N l Z a0 hw [] b137 (own_clr u1) T143.heap n0 gZ143 gP143.2.2.2.1 hc9101_117) hZ w_25 w_10 (by decide) (by decide)) q144a q144c (g := (mkF m 265 #[.val (.long q0), .second, .val (.long q1), .second, .val (.long q2), .second, .val (.int p3), .val (.int n7), .val (.long w0), .second, .val (.long w1), .second, .val (.long w2), .second, .val (.ref ar), .val (.long u0), .second, .val (.long u1), .second, .val (.long u2), .second, .val (.int cnt), .val (.int (1 : Int32)), .val (.int (1 : Int32)), .val (.ref b137)] [(.ref b137)])) rfl (by rw [hml]; rfl) (Steps.refl _) (argsL := []) (rest := []) (lenOf pd0___Z rfl) rfl (by show 2 * 0 + _ ≤ _; exact Nat.le_of_eq rfl) (hb hby at_265) (fun _ _ => ⟨rfl, rfl, (by decide : 2 + 0 ≤ _), (by decide : 6 + 0 ≤ _)⟩)
        dsimp only [Pt.U, Pt.locs, Pt.cells, Pt.slots] at X144 l144 y144 z144 st144 hQ144
        subst l144 y144 z144
        obtain ⟨rfl, N144q, e144⟩ := hQ144
        have N144 := Fr.app N143 N144q
        refine bk (fun t k => st144.trans k) ?_
        refine bk (fun t k => XS.iload X144.here hx rfl (hb hby at_268) rfl k) ?_
        show F (T144.setTop (mkF m 270 #[.val (.long q0), .second, .val (.long q1), .second, .val (.long q2), .second, .val (.int p3), .val (.int n7), .val (.long w0), .second, .val (.long w1), .second, .val (.long w2), .second, .val (.ref ar), .val (.long u0), .second, .val (.long u1), .second, .val (.long u2), .second, .val (.int cnt), .val (.int (1 : Int32)), .val (.int (1 : Int32)), .val (.ref b137)] [(.int (1 : Int32)), (.int (1 : Int32))]))
        refine bk (fun t k => XS.icmpYes X144.here hx rfl (pc0 := 270) (pc' := 275) rfl (hb hby at_270) rfl (teq (by decide : (1 : Int32) = (1 : Int32))).1 (by decide) (by decide) k) ?_
        refine bk (fun t k => XS.aload X144.here hx rfl (hb hby at_275) rfl rfl k) ?_
        show F (T144.setTop (mkF m 277 #[.val (.long q0), .second, .val (.long q1), .second, .val (.long q2), .second, .val (.int p3), .val (.int n7), .val (.long w0), .second, .val (.long w1), .second, .val (.long w2), .second, .val (.ref ar), .val (.long u0), .second, .val (.long u1), .second, .val (.long u2), .second, .val (.int cnt), .val (.int (1 : Int32)), .val (.int (1 : Int32)), .val (.ref b137)] [(.ref b137)]))
        obtain ⟨cq145, kq145, q145a, q145b, q145c⟩ := isOf hZ e144 (gP143.1)
        obtain ⟨_, _, ⟨T145, L145, k145, n145⟩, -, X145, ⟨Lc145, hQ145, l145, y145, z145⟩, st145⟩ := X144.virtualBack hx (y := (⟨"com/example/lone1/lone1/solve/SweepOrder", "hasNext", "()Z"⟩ : MethodName)) (z := (⟨"com/example/lone1/lone1/solve/SweepOrder", "hasNext", "()Z"⟩ : MethodName)) hown (mvT hZ w_21) (mvT hZ w_22) (notFace_of_selects (args := #[]) (mvT hZ w_24)) (mvT hZ w_24) (mvT hZ w_23) (by decide) (backOf (W := 0) (rm5N l Z a0 hw [] b137 (own_clr u1) T143.heap n0 gZ143 gP143.2.2.2.1 hc9101_117) hZ w_25 w_10 (by decide) (by decide)) q145a q145c (g := (mkF m 277 #[.val (.long q0), .second, .val (.long q1), .second, .val (.long q2), .second, .val (.int p3), .val (.int n7), .val (.long w0), .second, .val (.long w1), .second, .val (.long w2), .second, .val (.ref ar), .val (.long u0), .second, .val (.long u1), .second, .val (.long u2), .second, .val (.int cnt), .val (.int (1 : Int32)), .val (.int (1 : Int32)), .val (.ref b137)] [(.ref b137)])) rfl (by rw [hml]; rfl) (Steps.refl _) (argsL := []) (rest := []) (lenOf pd0___Z rfl) rfl (by show 2 * 0 + _ ≤ _; exact Nat.le_of_eq rfl) (hb hby at_277) (fun _ _ => ⟨rfl, e144, (by decide : 2 + 0 ≤ _), (by decide : 6 + 0 ≤ _)⟩)
        dsimp only [Pt.U, Pt.locs, Pt.cells, Pt.slots] at X145 l145 y145 z145 st145 hQ145
        subst l145 y145 z145
        obtain ⟨rfl, N145q, e145⟩ := hQ145
        have N145 := Fr.app N144 N145q
        refine bk (fun t k => st145.trans k) ?_
        refine bk (fun t k => XS.iload X145.here hx rfl (hb hby at_280) rfl k) ?_
        show F (T145.setTop (mkF m 282 #[.val (.long q0), .second, .val (.long q1), .second, .val (.long q2), .second, .val (.int p3), .val (.int n7), .val (.long w0), .second, .val (.long w1), .second, .val (.long w2), .second, .val (.ref ar), .val (.long u0), .second, .val (.long u1), .second, .val (.long u2), .second, .val (.int cnt), .val (.int (1 : Int32)), .val (.int (1 : Int32)), .val (.ref b137)] [(.int (1 : Int32)), (.int (1 : Int32))]))
        refine bk (fun t k => XS.icmpNo X145.here hx rfl (hb hby at_282) rfl (teq (by decide : (1 : Int32) = (1 : Int32))).2 k) ?_
        refine bk (fun t k => XS.iconst X145.here hx rfl (hb hby at_285) k) ?_
        refine bk (fun t k => XS.goto X145.here hx rfl (pc0 := 286) (pc' := 290) rfl (hb hby at_286) (by decide) (by decide) k) ?_
        show F (T145.setTop (mkF m 290 #[.val (.long q0), .second, .val (.long q1), .second, .val (.long q2), .second, .val (.int p3), .val (.int n7), .val (.long w0), .second, .val (.long w1), .second, .val (.long w2), .second, .val (.ref ar), .val (.long u0), .second, .val (.long u1), .second, .val (.long u2), .second, .val (.int cnt), .val (.int (1 : Int32)), .val (.int (1 : Int32)), .val (.ref b137)] [(.int (1 : Int32))]))
        rw [hF]
        refine own_retZ X145 hx Bd.notSynchronized Bd.returns (hb hby at_290) (by decide) (by decide) ?_
        rw [e145]
        exact ⟨rfl, N145⟩
  · by_cases hc9102_146 : (own_clr u2) = (0 : Int64)
    · by_cases hc9001_147 : u1 = (0 : Int64)
      · by_cases hc9000_148 : u0 = (0 : Int64)
        · obtain rfl : any = (1 : Int32) := hany.trans (by subst hcnt; simp +decide [own_anyc, own_cnt, own_b, hc9202_89, hc9102_146, hc9001_147, hc9000_148])
          obtain rfl : two = (0 : Int32) := htwo.trans (by subst hcnt; simp +decide [own_two, own_cnt, own_b, own_mb0, hc9202_89, hc9102_146, hc9001_147, hc9000_148, own_clr_mb hc9202_89 hc9102_146])
          show F (TJ.setTop (mkF m 213 #[.val (.long q0), .second, .val (.long q1), .second, .val (.long q2), .second, .val (.int p3), .val (.int n7), .val (.long w0), .second, .val (.long w1), .second, .val (.long w2), .second, .val (.ref ar), .val (.long u0), .second, .val (.long u1), .second, .val (.long u2), .second, .val (.int cnt), .val (.int (1 : Int32)), .unset, .unset] [(.int (0 : Int32))]))
          refine bk (fun t k => XS.istore XJ.here hx rfl (hb hby at_213) rfl (l' := #[.val (.long q0), .second, .val (.long q1), .second, .val (.long q2), .second, .val (.int p3), .val (.int n7), .val (.long w0), .second, .val (.long w1), .second, .val (.long w2), .second, .val (.ref ar), .val (.long u0), .second, .val (.long u1), .second, .val (.long u2), .second, .val (.int cnt), .val (.int (1 : Int32)), .val (.int (0 : Int32)), .unset]) rfl k) ?_
          show F (TJ.setTop (mkF m 215 #[.val (.long q0), .second, .val (.long q1), .second, .val (.long q2), .second, .val (.int p3), .val (.int n7), .val (.long w0), .second, .val (.long w1), .second, .val (.long w2), .second, .val (.ref ar), .val (.long u0), .second, .val (.long u1), .second, .val (.long u2), .second, .val (.int cnt), .val (.int (1 : Int32)), .val (.int (0 : Int32)), .unset] []))
          obtain ⟨T149, h149, X149, e149, E149, A149, D149, -, st149⟩ := newO XJ hx hZ hown w_8 w_9 w_10 eJ (g := (mkF m 215 #[.val (.long q0), .second, .val (.long q1), .second, .val (.long q2), .second, .val (.int p3), .val (.int n7), .val (.long w0), .second, .val (.long w1), .second, .val (.long w2), .second, .val (.ref ar), .val (.long u0), .second, .val (.long u1), .second, .val (.long u2), .second, .val (.int cnt), .val (.int (1 : Int32)), .val (.int (0 : Int32)), .unset] [])) rfl (hb hby at_215) (by decide) (by decide)
          obtain ⟨b149, g149⟩ : ∃ z, z = hJ.size := ⟨_, rfl⟩
          rw [← g149] at A149 D149 st149
          have Gb149 : n0 ≤ b149 := Nat.le_trans jZ (Nat.le_of_eq g149.symm)
          have ne_ar_b149 : ar ≠ b149 := Nat.ne_of_lt (Nat.lt_of_lt_of_le jV.lt (Nat.le_of_eq g149.symm))
          have f150 := Nat.le_trans jZ E149.1
          have f151 := jV.ext E149
          have F_words_b149 : Fld Z h149 b149 "com/example/lone1/lone1/solve/SweepOrder" "words" "[J" .null := D149 (Or.inr w_18) (ty := (.array .long)) (by decide)
          have F_at_b149 : Fld Z h149 b149 "com/example/lone1/lone1/solve/SweepOrder" "at" "I" (.int (0 : Int32)) := D149 (Or.inl w_20) (ty := .int) (by decide)
          have F_word_b149 : Fld Z h149 b149 "com/example/lone1/lone1/solve/SweepOrder" "word" "J" (.long (0 : Int64)) := D149 (Or.inl w_27) (ty := .long) (by decide)
          refine bk (fun t k => st149 t k) ?_
          refine bk (fun t k => XS.dup X149.here hx rfl (hb hby at_218) rfl rfl k) ?_
          refine bk (fun t k => XS.aload X149.here hx rfl (hb hby at_219) rfl rfl k) ?_
          show F (T149.setTop (mkF m 221 #[.val (.long q0), .second, .val (.long q1), .second, .val (.long q2), .second, .val (.int p3), .val (.int n7), .val (.long w0), .second, .val (.long w1), .second, .val (.long w2), .second, .val (.ref ar), .val (.long u0), .second, .val (.long u1), .second, .val (.long u2), .second, .val (.int cnt), .val (.int (1 : Int32)), .val (.int (0 : Int32)), .unset] [(.ref ar), (.ref b149), (.ref b149)]))
          obtain ⟨_, _, ⟨T152, L152, k152, n152⟩, -, X152, ⟨Lc152, hQ152, l152, y152, z152⟩, st152⟩ := X149.specialBack hx (y := (⟨"com/example/lone1/lone1/solve/SweepOrder", "<init>", "([J)V"⟩ : MethodName)) rfl hown (mvT hZ w_11) (mvT hZ w_12) (mvT hZ w_13) (by decide) (backOf (W := 1) (rm3 l Z a0 hw [] b149 ar kk (3 : Int32) u0 u1 u2 h149 n0 f150 A149 F_words_b149 F_at_b149 F_word_b149 f151 Gb149 (Ne.symm ne_ar_b149)) hZ w_13 w_10 (by decide) (by decide)) (g := (mkF m 221 #[.val (.long q0), .second, .val (.long q1), .second, .val (.long q2), .second, .val (.int p3), .val (.int n7), .val (.long w0), .second, .val (.long w1), .second, .val (.long w2), .second, .val (.ref ar), .val (.long u0), .second, .val (.long u1), .second, .val (.long u2), .second, .val (.int cnt), .val (.int (1 : Int32)), .val (.int (0 : Int32)), .unset] [(.ref ar), (.ref b149), (.ref b149)])) rfl (by rw [hml]; rfl) (Steps.refl _) (a := b149) (argsL := [(.ref ar)]) (rest := [(.ref b149)]) (lenOf pd0___J_V rfl) rfl (by show 2 * 0 + _ ≤ _; exact Nat.le_of_eq rfl) (hb hby at_221) (fun _ _ => ⟨rfl, e149, (by decide : 2 + 0 ≤ _), (by decide : 6 + 0 ≤ _)⟩)
          dsimp only [Pt.U, Pt.locs, Pt.cells, Pt.slots] at X152 l152 y152 z152 st152 hQ152
          subst l152 y152 z152
          obtain ⟨rfl, N152q, gZ152, gP152⟩ := hQ152
          have N152 := Fr.app NJ N152q
          have ne_b149_ar : b149 ≠ ar := (Ne.symm ne_ar_b149)
          refine bk (fun t k => st152.trans k) ?_
          show F (T152.setTop (mkF m 224 #[.val (.long q0), .second, .val (.long q1), .second, .val (.long q2), .second, .val (.int p3), .val (.int n7), .val (.long w0), .second, .val (.long w1), .second, .val (.long w2), .second, .val (.ref ar), .val (.long u0), .second, .val (.long u1), .second, .val (.long u2), .second, .val (.int cnt), .val (.int (1 : Int32)), .val (.int (0 : Int32)), .unset] [(.ref b149)]))
          refine bk (fun t k => XS.astore X152.here hx rfl (hb hby at_224) rfl rfl (l' := #[.val (.long q0), .second, .val (.long q1), .second, .val (.long q2), .second, .val (.int p3), .val (.int n7), .val (.long w0), .second, .val (.long w1), .second, .val (.long w2), .second, .val (.ref ar), .val (.long u0), .second, .val (.long u1), .second, .val (.long u2), .second, .val (.int cnt), .val (.int (1 : Int32)), .val (.int (0 : Int32)), .val (.ref b149)]) rfl k) ?_
          refine bk (fun t k => XS.aload X152.here hx rfl (hb hby at_226) rfl rfl k) ?_
          show F (T152.setTop (mkF m 228 #[.val (.long q0), .second, .val (.long q1), .second, .val (.long q2), .second, .val (.int p3), .val (.int n7), .val (.long w0), .second, .val (.long w1), .second, .val (.long w2), .second, .val (.ref ar), .val (.long u0), .second, .val (.long u1), .second, .val (.long u2), .second, .val (.int cnt), .val (.int (1 : Int32)), .val (.int (0 : Int32)), .val (.ref b149)] [(.ref b149)]))
          obtain ⟨cq153, kq153, q153a, q153b, q153c⟩ := isOf hZ rfl (gP152.1)
          obtain ⟨_, _, ⟨T153, L153, k153, n153⟩, -, X153, ⟨Lc153, hQ153, l153, y153, z153⟩, st153⟩ := X152.virtualBack hx (y := (⟨"com/example/lone1/lone1/solve/SweepOrder", "hasNext", "()Z"⟩ : MethodName)) (z := (⟨"com/example/lone1/lone1/solve/SweepOrder", "hasNext", "()Z"⟩ : MethodName)) hown (mvT hZ w_21) (mvT hZ w_22) (notFace_of_selects (args := #[]) (mvT hZ w_24)) (mvT hZ w_24) (mvT hZ w_23) (by decide) (backOf (W := 0) (rm5Z32 l Z a0 hw [] b149 ar kk (3 : Int32) u0 u1 u2 T152.heap n0 gZ152 gP152 Gb149 ne_b149_ar (by decide) (by decide) (by decide) hc9202_89) hZ w_25 w_10 (by decide) (by decide)) q153a q153c (g := (mkF m 228 #[.val (.long q0), .second, .val (.long q1), .second, .val (.long q2), .second, .val (.int p3), .val (.int n7), .val (.long w0), .second, .val (.long w1), .second, .val (.long w2), .second, .val (.ref ar), .val (.long u0), .second, .val (.long u1), .second, .val (.long u2), .second, .val (.int cnt), .val (.int (1 : Int32)), .val (.int (0 : Int32)), .val (.ref b149)] [(.ref b149)])) rfl (by rw [hml]; rfl) (Steps.refl _) (argsL := []) (rest := []) (lenOf pd0___Z rfl) rfl (by show 2 * 0 + _ ≤ _; exact Nat.le_of_eq rfl) (hb hby at_228) (fun _ _ => ⟨rfl, rfl, (by decide : 2 + 0 ≤ _), (by decide : 6 + 0 ≤ _)⟩)
          dsimp only [Pt.U, Pt.locs, Pt.cells, Pt.slots] at X153 l153 y153 z153 st153 hQ153
          subst l153 y153 z153
          obtain ⟨rfl, N153q, gZ153, gP153⟩ := hQ153
          have N153 := Fr.app N152 N153q
          refine bk (fun t k => st153.trans k) ?_
          refine bk (fun t k => XS.iload X153.here hx rfl (hb hby at_231) rfl k) ?_
          show F (T153.setTop (mkF m 233 #[.val (.long q0), .second, .val (.long q1), .second, .val (.long q2), .second, .val (.int p3), .val (.int n7), .val (.long w0), .second, .val (.long w1), .second, .val (.long w2), .second, .val (.ref ar), .val (.long u0), .second, .val (.long u1), .second, .val (.long u2), .second, .val (.int cnt), .val (.int (1 : Int32)), .val (.int (0 : Int32)), .val (.ref b149)] [(.int (1 : Int32)), (.int (1 : Int32))]))
          refine bk (fun t k => XS.icmpYes X153.here hx rfl (pc0 := 233) (pc' := 238) rfl (hb hby at_233) rfl (teq (by decide : (1 : Int32) = (1 : Int32))).1 (by decide) (by decide) k) ?_
          refine bk (fun t k => XS.aload X153.here hx rfl (hb hby at_238) rfl rfl k) ?_
          show F (T153.setTop (mkF m 240 #[.val (.long q0), .second, .val (.long q1), .second, .val (.long q2), .second, .val (.int p3), .val (.int n7), .val (.long w0), .second, .val (.long w1), .second, .val (.long w2), .second, .val (.ref ar), .val (.long u0), .second, .val (.long u1), .second, .val (.long u2), .second, .val (.int cnt), .val (.int (1 : Int32)), .val (.int (0 : Int32)), .val (.ref b149)] [(.ref b149)]))
          obtain ⟨cq154, kq154, q154a, q154b, q154c⟩ := isOf hZ rfl (gP153.1)
          obtain ⟨_, _, ⟨T154, L154, k154, n154⟩, -, X154, ⟨Lc154, hQ154, l154, y154, z154⟩, st154⟩ := X153.virtualBack hx (y := (⟨"com/example/lone1/lone1/solve/SweepOrder", "hasNext", "()Z"⟩ : MethodName)) (z := (⟨"com/example/lone1/lone1/solve/SweepOrder", "hasNext", "()Z"⟩ : MethodName)) hown (mvT hZ w_21) (mvT hZ w_22) (notFace_of_selects (args := #[]) (mvT hZ w_24)) (mvT hZ w_24) (mvT hZ w_23) (by decide) (backOf (W := 0) (rm5N l Z a0 hw [] b149 u2 T153.heap n0 gZ153 gP153.2.2.2.1 hc9202_89) hZ w_25 w_10 (by decide) (by decide)) q154a q154c (g := (mkF m 240 #[.val (.long q0), .second, .val (.long q1), .second, .val (.long q2), .second, .val (.int p3), .val (.int n7), .val (.long w0), .second, .val (.long w1), .second, .val (.long w2), .second, .val (.ref ar), .val (.long u0), .second, .val (.long u1), .second, .val (.long u2), .second, .val (.int cnt), .val (.int (1 : Int32)), .val (.int (0 : Int32)), .val (.ref b149)] [(.ref b149)])) rfl (by rw [hml]; rfl) (Steps.refl _) (argsL := []) (rest := []) (lenOf pd0___Z rfl) rfl (by show 2 * 0 + _ ≤ _; exact Nat.le_of_eq rfl) (hb hby at_240) (fun _ _ => ⟨rfl, rfl, (by decide : 2 + 0 ≤ _), (by decide : 6 + 0 ≤ _)⟩)
          dsimp only [Pt.U, Pt.locs, Pt.cells, Pt.slots] at X154 l154 y154 z154 st154 hQ154
          subst l154 y154 z154
          obtain ⟨rfl, N154q, e154⟩ := hQ154
          have N154 := Fr.app N153 N154q
          refine bk (fun t k => st154.trans k) ?_
          refine bk (fun t k => XS.iload X154.here hx rfl (hb hby at_243) rfl k) ?_
          show F (T154.setTop (mkF m 245 #[.val (.long q0), .second, .val (.long q1), .second, .val (.long q2), .second, .val (.int p3), .val (.int n7), .val (.long w0), .second, .val (.long w1), .second, .val (.long w2), .second, .val (.ref ar), .val (.long u0), .second, .val (.long u1), .second, .val (.long u2), .second, .val (.int cnt), .val (.int (1 : Int32)), .val (.int (0 : Int32)), .val (.ref b149)] [(.int (1 : Int32)), (.int (1 : Int32))]))
          refine bk (fun t k => XS.icmpYes X154.here hx rfl (pc0 := 245) (pc' := 250) rfl (hb hby at_245) rfl (teq (by decide : (1 : Int32) = (1 : Int32))).1 (by decide) (by decide) k) ?_
          refine bk (fun t k => XS.iload X154.here hx rfl (hb hby at_250) rfl k) ?_
          show F (T154.setTop (mkF m 252 #[.val (.long q0), .second, .val (.long q1), .second, .val (.long q2), .second, .val (.int p3), .val (.int n7), .val (.long w0), .second, .val (.long w1), .second, .val (.long w2), .second, .val (.ref ar), .val (.long u0), .second, .val (.long u1), .second, .val (.long u2), .second, .val (.int cnt), .val (.int (1 : Int32)), .val (.int (0 : Int32)), .val (.ref b149)] [(.int (1 : Int32))]))
          refine bk (fun t k => XS.ifYes X154.here hx rfl (pc0 := 252) (pc' := 257) rfl (hb hby at_252) rfl ((if0 _ _).trans (feq (by decide : ¬ ((1 : Int32) = (0 : Int32)))).2) (by decide) (by decide) k) ?_
          refine bk (fun t k => XS.aload X154.here hx rfl (hb hby at_257) rfl rfl k) ?_
          show F (T154.setTop (mkF m 259 #[.val (.long q0), .second, .val (.long q1), .second, .val (.long q2), .second, .val (.int p3), .val (.int n7), .val (.long w0), .second, .val (.long w1), .second, .val (.long w2), .second, .val (.ref ar), .val (.long u0), .second, .val (.long u1), .second, .val (.long u2), .second, .val (.int cnt), .val (.int (1 : Int32)), .val (.int (0 : Int32)), .val (.ref b149)] [(.ref b149)]))
          obtain ⟨cq155, kq155, q155a, q155b, q155c⟩ := isOf hZ e154 (gP153.1)
          obtain ⟨_, _, ⟨T155, L155, k155, n155⟩, -, X155, ⟨Lc155, hQ155, l155, y155, z155⟩, st155⟩ := X154.virtualBack hx (y := (⟨"com/example/lone1/lone1/solve/SweepOrder", "next", "()I"⟩ : MethodName)) (z := (⟨"com/example/lone1/lone1/solve/SweepOrder", "next", "()I"⟩ : MethodName)) hown (mvT hZ w_29) (mvT hZ w_30) (notFace_of_selects (args := #[]) (mvT hZ w_32)) (mvT hZ w_32) (mvT hZ w_31) (by decide) (backOf (W := 0) (rm6 l Z a0 hw [] b149 ar kk (3 : Int32) (2 : Int32) u2 u0 u1 u2 T153.heap n0 gZ153 gP153 Gb149 ne_b149_ar hc9202_89) hZ w_33 w_10 (by decide) (by decide)) q155a q155c (g := (mkF m 259 #[.val (.long q0), .second, .val (.long q1), .second, .val (.long q2), .second, .val (.int p3), .val (.int n7), .val (.long w0), .second, .val (.long w1), .second, .val (.long w2), .second, .val (.ref ar), .val (.long u0), .second, .val (.long u1), .second, .val (.long u2), .second, .val (.int cnt), .val (.int (1 : Int32)), .val (.int (0 : Int32)), .val (.ref b149)] [(.ref b149)])) rfl (by rw [hml]; rfl) (Steps.refl _) (argsL := []) (rest := []) (lenOf pd0___I rfl) rfl (by show 2 * 0 + _ ≤ _; exact Nat.le_of_eq rfl) (hb hby at_259) (fun _ _ => ⟨rfl, e154, (by decide : 2 + 0 ≤ _), (by decide : 6 + 0 ≤ _)⟩)
          dsimp only [Pt.U, Pt.locs, Pt.cells, Pt.slots] at X155 l155 y155 z155 st155 hQ155
          subst l155 y155 z155
          obtain ⟨rfl, N155q, gZ155, gP155⟩ := hQ155
          have N155 := Fr.app N154 N155q
          refine bk (fun t k => st155.trans k) ?_
          refine bk (fun t k => XS.pop X155.here hx rfl (hb hby at_262) rfl rfl k) ?_
          refine bk (fun t k => XS.aload X155.here hx rfl (hb hby at_263) rfl rfl k) ?_
          show F (T155.setTop (mkF m 265 #[.val (.long q0), .second, .val (.long q1), .second, .val (.long q2), .second, .val (.int p3), .val (.int n7), .val (.long w0), .second, .val (.long w1), .second, .val (.long w2), .second, .val (.ref ar), .val (.long u0), .second, .val (.long u1), .second, .val (.long u2), .second, .val (.int cnt), .val (.int (1 : Int32)), .val (.int (0 : Int32)), .val (.ref b149)] [(.ref b149)]))
          obtain ⟨cq156, kq156, q156a, q156b, q156c⟩ := isOf hZ rfl (gP155.1)
          obtain ⟨_, _, ⟨T156, L156, k156, n156⟩, -, X156, ⟨Lc156, hQ156, l156, y156, z156⟩, st156⟩ := X155.virtualBack hx (y := (⟨"com/example/lone1/lone1/solve/SweepOrder", "hasNext", "()Z"⟩ : MethodName)) (z := (⟨"com/example/lone1/lone1/solve/SweepOrder", "hasNext", "()Z"⟩ : MethodName)) hown (mvT hZ w_21) (mvT hZ w_22) (notFace_of_selects (args := #[]) (mvT hZ w_24)) (mvT hZ w_24) (mvT hZ w_23) (by decide) (backOf (W := 0) (rm5Z2n l Z a0 hw [] b149 ar kk (3 : Int32) u0 u1 u2 T155.heap n0 gZ155 (own_S0 hc9102_146 gP155) Gb149 ne_b149_ar (by decide) (by decide) hc9001_147 hc9000_148) hZ w_25 w_10 (by decide) (by decide)) q156a q156c (g := (mkF m 265 #[.val (.long q0), .second, .val (.long q1), .second, .val (.long q2), .second, .val (.int p3), .val (.int n7), .val (.long w0), .second, .val (.long w1), .second, .val (.long w2), .second, .val (.ref ar), .val (.long u0), .second, .val (.long u1), .second, .val (.long u2), .second, .val (.int cnt), .val (.int (1 : Int32)), .val (.int (0 : Int32)), .val (.ref b149)] [(.ref b149)])) rfl (by rw [hml]; rfl) (Steps.refl _) (argsL := []) (rest := []) (lenOf pd0___Z rfl) rfl (by show 2 * 0 + _ ≤ _; exact Nat.le_of_eq rfl) (hb hby at_265) (fun _ _ => ⟨rfl, rfl, (by decide : 2 + 0 ≤ _), (by decide : 6 + 0 ≤ _)⟩)
          dsimp only [Pt.U, Pt.locs, Pt.cells, Pt.slots] at X156 l156 y156 z156 st156 hQ156
          subst l156 y156 z156
          obtain ⟨rfl, N156q, gZ156, gP156⟩ := hQ156
          have N156 := Fr.app N155 N156q
          refine bk (fun t k => st156.trans k) ?_
          refine bk (fun t k => XS.iload X156.here hx rfl (hb hby at_268) rfl k) ?_
          show F (T156.setTop (mkF m 270 #[.val (.long q0), .second, .val (.long q1), .second, .val (.long q2), .second, .val (.int p3), .val (.int n7), .val (.long w0), .second, .val (.long w1), .second, .val (.long w2), .second, .val (.ref ar), .val (.long u0), .second, .val (.long u1), .second, .val (.long u2), .second, .val (.int cnt), .val (.int (1 : Int32)), .val (.int (0 : Int32)), .val (.ref b149)] [(.int (0 : Int32)), (.int (0 : Int32))]))
          refine bk (fun t k => XS.icmpYes X156.here hx rfl (pc0 := 270) (pc' := 275) rfl (hb hby at_270) rfl (teq (by decide : (0 : Int32) = (0 : Int32))).1 (by decide) (by decide) k) ?_
          refine bk (fun t k => XS.aload X156.here hx rfl (hb hby at_275) rfl rfl k) ?_
          show F (T156.setTop (mkF m 277 #[.val (.long q0), .second, .val (.long q1), .second, .val (.long q2), .second, .val (.int p3), .val (.int n7), .val (.long w0), .second, .val (.long w1), .second, .val (.long w2), .second, .val (.ref ar), .val (.long u0), .second, .val (.long u1), .second, .val (.long u2), .second, .val (.int cnt), .val (.int (1 : Int32)), .val (.int (0 : Int32)), .val (.ref b149)] [(.ref b149)]))
          obtain ⟨cq157, kq157, q157a, q157b, q157c⟩ := isOf hZ rfl (gP156.1)
          obtain ⟨_, _, ⟨T157, L157, k157, n157⟩, -, X157, ⟨Lc157, hQ157, l157, y157, z157⟩, st157⟩ := X156.virtualBack hx (y := (⟨"com/example/lone1/lone1/solve/SweepOrder", "hasNext", "()Z"⟩ : MethodName)) (z := (⟨"com/example/lone1/lone1/solve/SweepOrder", "hasNext", "()Z"⟩ : MethodName)) hown (mvT hZ w_21) (mvT hZ w_22) (notFace_of_selects (args := #[]) (mvT hZ w_24)) (mvT hZ w_24) (mvT hZ w_23) (by decide) (backOf (W := 0) (rm5Z0n l Z a0 hw [] b149 ar kk (3 : Int32) u0 u1 u2 T156.heap n0 gZ156 (own_S0 hc9000_148 gP156) Gb149 ne_b149_ar ) hZ w_25 w_10 (by decide) (by decide)) q157a q157c (g := (mkF m 277 #[.val (.long q0), .second, .val (.long q1), .second, .val (.long q2), .second, .val (.int p3), .val (.int n7), .val (.long w0), .second, .val (.long w1), .second, .val (.long w2), .second, .val (.ref ar), .val (.long u0), .second, .val (.long u1), .second, .val (.long u2), .second, .val (.int cnt), .val (.int (1 : Int32)), .val (.int (0 : Int32)), .val (.ref b149)] [(.ref b149)])) rfl (by rw [hml]; rfl) (Steps.refl _) (argsL := []) (rest := []) (lenOf pd0___Z rfl) rfl (by show 2 * 0 + _ ≤ _; exact Nat.le_of_eq rfl) (hb hby at_277) (fun _ _ => ⟨rfl, rfl, (by decide : 2 + 0 ≤ _), (by decide : 6 + 0 ≤ _)⟩)
          dsimp only [Pt.U, Pt.locs, Pt.cells, Pt.slots] at X157 l157 y157 z157 st157 hQ157
          subst l157 y157 z157
          obtain ⟨rfl, N157q, gZ157, gP157⟩ := hQ157
          have N157 := Fr.app N156 N157q
          refine bk (fun t k => st157.trans k) ?_
          refine bk (fun t k => XS.iload X157.here hx rfl (hb hby at_280) rfl k) ?_
          show F (T157.setTop (mkF m 282 #[.val (.long q0), .second, .val (.long q1), .second, .val (.long q2), .second, .val (.int p3), .val (.int n7), .val (.long w0), .second, .val (.long w1), .second, .val (.long w2), .second, .val (.ref ar), .val (.long u0), .second, .val (.long u1), .second, .val (.long u2), .second, .val (.int cnt), .val (.int (1 : Int32)), .val (.int (0 : Int32)), .val (.ref b149)] [(.int (0 : Int32)), (.int (0 : Int32))]))
          refine bk (fun t k => XS.icmpNo X157.here hx rfl (hb hby at_282) rfl (teq (by decide : (0 : Int32) = (0 : Int32))).2 k) ?_
          refine bk (fun t k => XS.iconst X157.here hx rfl (hb hby at_285) k) ?_
          refine bk (fun t k => XS.goto X157.here hx rfl (pc0 := 286) (pc' := 290) rfl (hb hby at_286) (by decide) (by decide) k) ?_
          show F (T157.setTop (mkF m 290 #[.val (.long q0), .second, .val (.long q1), .second, .val (.long q2), .second, .val (.int p3), .val (.int n7), .val (.long w0), .second, .val (.long w1), .second, .val (.long w2), .second, .val (.ref ar), .val (.long u0), .second, .val (.long u1), .second, .val (.long u2), .second, .val (.int cnt), .val (.int (1 : Int32)), .val (.int (0 : Int32)), .val (.ref b149)] [(.int (1 : Int32))]))
          rw [hF]
          refine own_retZ X157 hx Bd.notSynchronized Bd.returns (hb hby at_290) (by decide) (by decide) ?_
          exact ⟨rfl, N157⟩
        · obtain rfl : any = (1 : Int32) := hany.trans (by subst hcnt; simp +decide [own_anyc, own_cnt, own_b, hc9202_89, hc9102_146, hc9001_147, hc9000_148])
          obtain rfl : two = (1 : Int32) := htwo.trans (by subst hcnt; simp +decide [own_two, own_cnt, own_b, own_mb0, hc9202_89, hc9102_146, hc9001_147, hc9000_148, own_clr_mb hc9202_89 hc9102_146])
          show F (TJ.setTop (mkF m 213 #[.val (.long q0), .second, .val (.long q1), .second, .val (.long q2), .second, .val (.int p3), .val (.int n7), .val (.long w0), .second, .val (.long w1), .second, .val (.long w2), .second, .val (.ref ar), .val (.long u0), .second, .val (.long u1), .second, .val (.long u2), .second, .val (.int cnt), .val (.int (1 : Int32)), .unset, .unset] [(.int (1 : Int32))]))
          refine bk (fun t k => XS.istore XJ.here hx rfl (hb hby at_213) rfl (l' := #[.val (.long q0), .second, .val (.long q1), .second, .val (.long q2), .second, .val (.int p3), .val (.int n7), .val (.long w0), .second, .val (.long w1), .second, .val (.long w2), .second, .val (.ref ar), .val (.long u0), .second, .val (.long u1), .second, .val (.long u2), .second, .val (.int cnt), .val (.int (1 : Int32)), .val (.int (1 : Int32)), .unset]) rfl k) ?_
          show F (TJ.setTop (mkF m 215 #[.val (.long q0), .second, .val (.long q1), .second, .val (.long q2), .second, .val (.int p3), .val (.int n7), .val (.long w0), .second, .val (.long w1), .second, .val (.long w2), .second, .val (.ref ar), .val (.long u0), .second, .val (.long u1), .second, .val (.long u2), .second, .val (.int cnt), .val (.int (1 : Int32)), .val (.int (1 : Int32)), .unset] []))
          obtain ⟨T158, h158, X158, e158, E158, A158, D158, -, st158⟩ := newO XJ hx hZ hown w_8 w_9 w_10 eJ (g := (mkF m 215 #[.val (.long q0), .second, .val (.long q1), .second, .val (.long q2), .second, .val (.int p3), .val (.int n7), .val (.long w0), .second, .val (.long w1), .second, .val (.long w2), .second, .val (.ref ar), .val (.long u0), .second, .val (.long u1), .second, .val (.long u2), .second, .val (.int cnt), .val (.int (1 : Int32)), .val (.int (1 : Int32)), .unset] [])) rfl (hb hby at_215) (by decide) (by decide)
          obtain ⟨b158, g158⟩ : ∃ z, z = hJ.size := ⟨_, rfl⟩
          rw [← g158] at A158 D158 st158
          have Gb158 : n0 ≤ b158 := Nat.le_trans jZ (Nat.le_of_eq g158.symm)
          have ne_ar_b158 : ar ≠ b158 := Nat.ne_of_lt (Nat.lt_of_lt_of_le jV.lt (Nat.le_of_eq g158.symm))
          have f159 := Nat.le_trans jZ E158.1
          have f160 := jV.ext E158
          have F_words_b158 : Fld Z h158 b158 "com/example/lone1/lone1/solve/SweepOrder" "words" "[J" .null := D158 (Or.inr w_18) (ty := (.array .long)) (by decide)
          have F_at_b158 : Fld Z h158 b158 "com/example/lone1/lone1/solve/SweepOrder" "at" "I" (.int (0 : Int32)) := D158 (Or.inl w_20) (ty := .int) (by decide)
          have F_word_b158 : Fld Z h158 b158 "com/example/lone1/lone1/solve/SweepOrder" "word" "J" (.long (0 : Int64)) := D158 (Or.inl w_27) (ty := .long) (by decide)
          refine bk (fun t k => st158 t k) ?_
          refine bk (fun t k => XS.dup X158.here hx rfl (hb hby at_218) rfl rfl k) ?_
          refine bk (fun t k => XS.aload X158.here hx rfl (hb hby at_219) rfl rfl k) ?_
          show F (T158.setTop (mkF m 221 #[.val (.long q0), .second, .val (.long q1), .second, .val (.long q2), .second, .val (.int p3), .val (.int n7), .val (.long w0), .second, .val (.long w1), .second, .val (.long w2), .second, .val (.ref ar), .val (.long u0), .second, .val (.long u1), .second, .val (.long u2), .second, .val (.int cnt), .val (.int (1 : Int32)), .val (.int (1 : Int32)), .unset] [(.ref ar), (.ref b158), (.ref b158)]))
          obtain ⟨_, _, ⟨T161, L161, k161, n161⟩, -, X161, ⟨Lc161, hQ161, l161, y161, z161⟩, st161⟩ := X158.specialBack hx (y := (⟨"com/example/lone1/lone1/solve/SweepOrder", "<init>", "([J)V"⟩ : MethodName)) rfl hown (mvT hZ w_11) (mvT hZ w_12) (mvT hZ w_13) (by decide) (backOf (W := 1) (rm3 l Z a0 hw [] b158 ar kk (3 : Int32) u0 u1 u2 h158 n0 f159 A158 F_words_b158 F_at_b158 F_word_b158 f160 Gb158 (Ne.symm ne_ar_b158)) hZ w_13 w_10 (by decide) (by decide)) (g := (mkF m 221 #[.val (.long q0), .second, .val (.long q1), .second, .val (.long q2), .second, .val (.int p3), .val (.int n7), .val (.long w0), .second, .val (.long w1), .second, .val (.long w2), .second, .val (.ref ar), .val (.long u0), .second, .val (.long u1), .second, .val (.long u2), .second, .val (.int cnt), .val (.int (1 : Int32)), .val (.int (1 : Int32)), .unset] [(.ref ar), (.ref b158), (.ref b158)])) rfl (by rw [hml]; rfl) (Steps.refl _) (a := b158) (argsL := [(.ref ar)]) (rest := [(.ref b158)]) (lenOf pd0___J_V rfl) rfl (by show 2 * 0 + _ ≤ _; exact Nat.le_of_eq rfl) (hb hby at_221) (fun _ _ => ⟨rfl, e158, (by decide : 2 + 0 ≤ _), (by decide : 6 + 0 ≤ _)⟩)
          dsimp only [Pt.U, Pt.locs, Pt.cells, Pt.slots] at X161 l161 y161 z161 st161 hQ161
          subst l161 y161 z161
          obtain ⟨rfl, N161q, gZ161, gP161⟩ := hQ161
          have N161 := Fr.app NJ N161q
          have ne_b158_ar : b158 ≠ ar := (Ne.symm ne_ar_b158)
          refine bk (fun t k => st161.trans k) ?_
          show F (T161.setTop (mkF m 224 #[.val (.long q0), .second, .val (.long q1), .second, .val (.long q2), .second, .val (.int p3), .val (.int n7), .val (.long w0), .second, .val (.long w1), .second, .val (.long w2), .second, .val (.ref ar), .val (.long u0), .second, .val (.long u1), .second, .val (.long u2), .second, .val (.int cnt), .val (.int (1 : Int32)), .val (.int (1 : Int32)), .unset] [(.ref b158)]))
          refine bk (fun t k => XS.astore X161.here hx rfl (hb hby at_224) rfl rfl (l' := #[.val (.long q0), .second, .val (.long q1), .second, .val (.long q2), .second, .val (.int p3), .val (.int n7), .val (.long w0), .second, .val (.long w1), .second, .val (.long w2), .second, .val (.ref ar), .val (.long u0), .second, .val (.long u1), .second, .val (.long u2), .second, .val (.int cnt), .val (.int (1 : Int32)), .val (.int (1 : Int32)), .val (.ref b158)]) rfl k) ?_
          refine bk (fun t k => XS.aload X161.here hx rfl (hb hby at_226) rfl rfl k) ?_
          show F (T161.setTop (mkF m 228 #[.val (.long q0), .second, .val (.long q1), .second, .val (.long q2), .second, .val (.int p3), .val (.int n7), .val (.long w0), .second, .val (.long w1), .second, .val (.long w2), .second, .val (.ref ar), .val (.long u0), .second, .val (.long u1), .second, .val (.long u2), .second, .val (.int cnt), .val (.int (1 : Int32)), .val (.int (1 : Int32)), .val (.ref b158)] [(.ref b158)]))
          obtain ⟨cq162, kq162, q162a, q162b, q162c⟩ := isOf hZ rfl (gP161.1)
          obtain ⟨_, _, ⟨T162, L162, k162, n162⟩, -, X162, ⟨Lc162, hQ162, l162, y162, z162⟩, st162⟩ := X161.virtualBack hx (y := (⟨"com/example/lone1/lone1/solve/SweepOrder", "hasNext", "()Z"⟩ : MethodName)) (z := (⟨"com/example/lone1/lone1/solve/SweepOrder", "hasNext", "()Z"⟩ : MethodName)) hown (mvT hZ w_21) (mvT hZ w_22) (notFace_of_selects (args := #[]) (mvT hZ w_24)) (mvT hZ w_24) (mvT hZ w_23) (by decide) (backOf (W := 0) (rm5Z32 l Z a0 hw [] b158 ar kk (3 : Int32) u0 u1 u2 T161.heap n0 gZ161 gP161 Gb158 ne_b158_ar (by decide) (by decide) (by decide) hc9202_89) hZ w_25 w_10 (by decide) (by decide)) q162a q162c (g := (mkF m 228 #[.val (.long q0), .second, .val (.long q1), .second, .val (.long q2), .second, .val (.int p3), .val (.int n7), .val (.long w0), .second, .val (.long w1), .second, .val (.long w2), .second, .val (.ref ar), .val (.long u0), .second, .val (.long u1), .second, .val (.long u2), .second, .val (.int cnt), .val (.int (1 : Int32)), .val (.int (1 : Int32)), .val (.ref b158)] [(.ref b158)])) rfl (by rw [hml]; rfl) (Steps.refl _) (argsL := []) (rest := []) (lenOf pd0___Z rfl) rfl (by show 2 * 0 + _ ≤ _; exact Nat.le_of_eq rfl) (hb hby at_228) (fun _ _ => ⟨rfl, rfl, (by decide : 2 + 0 ≤ _), (by decide : 6 + 0 ≤ _)⟩)
          dsimp only [Pt.U, Pt.locs, Pt.cells, Pt.slots] at X162 l162 y162 z162 st162 hQ162
          subst l162 y162 z162
          obtain ⟨rfl, N162q, gZ162, gP162⟩ := hQ162
          have N162 := Fr.app N161 N162q
          refine bk (fun t k => st162.trans k) ?_
          refine bk (fun t k => XS.iload X162.here hx rfl (hb hby at_231) rfl k) ?_
          show F (T162.setTop (mkF m 233 #[.val (.long q0), .second, .val (.long q1), .second, .val (.long q2), .second, .val (.int p3), .val (.int n7), .val (.long w0), .second, .val (.long w1), .second, .val (.long w2), .second, .val (.ref ar), .val (.long u0), .second, .val (.long u1), .second, .val (.long u2), .second, .val (.int cnt), .val (.int (1 : Int32)), .val (.int (1 : Int32)), .val (.ref b158)] [(.int (1 : Int32)), (.int (1 : Int32))]))
          refine bk (fun t k => XS.icmpYes X162.here hx rfl (pc0 := 233) (pc' := 238) rfl (hb hby at_233) rfl (teq (by decide : (1 : Int32) = (1 : Int32))).1 (by decide) (by decide) k) ?_
          refine bk (fun t k => XS.aload X162.here hx rfl (hb hby at_238) rfl rfl k) ?_
          show F (T162.setTop (mkF m 240 #[.val (.long q0), .second, .val (.long q1), .second, .val (.long q2), .second, .val (.int p3), .val (.int n7), .val (.long w0), .second, .val (.long w1), .second, .val (.long w2), .second, .val (.ref ar), .val (.long u0), .second, .val (.long u1), .second, .val (.long u2), .second, .val (.int cnt), .val (.int (1 : Int32)), .val (.int (1 : Int32)), .val (.ref b158)] [(.ref b158)]))
          obtain ⟨cq163, kq163, q163a, q163b, q163c⟩ := isOf hZ rfl (gP162.1)
          obtain ⟨_, _, ⟨T163, L163, k163, n163⟩, -, X163, ⟨Lc163, hQ163, l163, y163, z163⟩, st163⟩ := X162.virtualBack hx (y := (⟨"com/example/lone1/lone1/solve/SweepOrder", "hasNext", "()Z"⟩ : MethodName)) (z := (⟨"com/example/lone1/lone1/solve/SweepOrder", "hasNext", "()Z"⟩ : MethodName)) hown (mvT hZ w_21) (mvT hZ w_22) (notFace_of_selects (args := #[]) (mvT hZ w_24)) (mvT hZ w_24) (mvT hZ w_23) (by decide) (backOf (W := 0) (rm5N l Z a0 hw [] b158 u2 T162.heap n0 gZ162 gP162.2.2.2.1 hc9202_89) hZ w_25 w_10 (by decide) (by decide)) q163a q163c (g := (mkF m 240 #[.val (.long q0), .second, .val (.long q1), .second, .val (.long q2), .second, .val (.int p3), .val (.int n7), .val (.long w0), .second, .val (.long w1), .second, .val (.long w2), .second, .val (.ref ar), .val (.long u0), .second, .val (.long u1), .second, .val (.long u2), .second, .val (.int cnt), .val (.int (1 : Int32)), .val (.int (1 : Int32)), .val (.ref b158)] [(.ref b158)])) rfl (by rw [hml]; rfl) (Steps.refl _) (argsL := []) (rest := []) (lenOf pd0___Z rfl) rfl (by show 2 * 0 + _ ≤ _; exact Nat.le_of_eq rfl) (hb hby at_240) (fun _ _ => ⟨rfl, rfl, (by decide : 2 + 0 ≤ _), (by decide : 6 + 0 ≤ _)⟩)
          dsimp only [Pt.U, Pt.locs, Pt.cells, Pt.slots] at X163 l163 y163 z163 st163 hQ163
          subst l163 y163 z163
          obtain ⟨rfl, N163q, e163⟩ := hQ163
          have N163 := Fr.app N162 N163q
          refine bk (fun t k => st163.trans k) ?_
          refine bk (fun t k => XS.iload X163.here hx rfl (hb hby at_243) rfl k) ?_
          show F (T163.setTop (mkF m 245 #[.val (.long q0), .second, .val (.long q1), .second, .val (.long q2), .second, .val (.int p3), .val (.int n7), .val (.long w0), .second, .val (.long w1), .second, .val (.long w2), .second, .val (.ref ar), .val (.long u0), .second, .val (.long u1), .second, .val (.long u2), .second, .val (.int cnt), .val (.int (1 : Int32)), .val (.int (1 : Int32)), .val (.ref b158)] [(.int (1 : Int32)), (.int (1 : Int32))]))
          refine bk (fun t k => XS.icmpYes X163.here hx rfl (pc0 := 245) (pc' := 250) rfl (hb hby at_245) rfl (teq (by decide : (1 : Int32) = (1 : Int32))).1 (by decide) (by decide) k) ?_
          refine bk (fun t k => XS.iload X163.here hx rfl (hb hby at_250) rfl k) ?_
          show F (T163.setTop (mkF m 252 #[.val (.long q0), .second, .val (.long q1), .second, .val (.long q2), .second, .val (.int p3), .val (.int n7), .val (.long w0), .second, .val (.long w1), .second, .val (.long w2), .second, .val (.ref ar), .val (.long u0), .second, .val (.long u1), .second, .val (.long u2), .second, .val (.int cnt), .val (.int (1 : Int32)), .val (.int (1 : Int32)), .val (.ref b158)] [(.int (1 : Int32))]))
          refine bk (fun t k => XS.ifYes X163.here hx rfl (pc0 := 252) (pc' := 257) rfl (hb hby at_252) rfl ((if0 _ _).trans (feq (by decide : ¬ ((1 : Int32) = (0 : Int32)))).2) (by decide) (by decide) k) ?_
          refine bk (fun t k => XS.aload X163.here hx rfl (hb hby at_257) rfl rfl k) ?_
          show F (T163.setTop (mkF m 259 #[.val (.long q0), .second, .val (.long q1), .second, .val (.long q2), .second, .val (.int p3), .val (.int n7), .val (.long w0), .second, .val (.long w1), .second, .val (.long w2), .second, .val (.ref ar), .val (.long u0), .second, .val (.long u1), .second, .val (.long u2), .second, .val (.int cnt), .val (.int (1 : Int32)), .val (.int (1 : Int32)), .val (.ref b158)] [(.ref b158)]))
          obtain ⟨cq164, kq164, q164a, q164b, q164c⟩ := isOf hZ e163 (gP162.1)
          obtain ⟨_, _, ⟨T164, L164, k164, n164⟩, -, X164, ⟨Lc164, hQ164, l164, y164, z164⟩, st164⟩ := X163.virtualBack hx (y := (⟨"com/example/lone1/lone1/solve/SweepOrder", "next", "()I"⟩ : MethodName)) (z := (⟨"com/example/lone1/lone1/solve/SweepOrder", "next", "()I"⟩ : MethodName)) hown (mvT hZ w_29) (mvT hZ w_30) (notFace_of_selects (args := #[]) (mvT hZ w_32)) (mvT hZ w_32) (mvT hZ w_31) (by decide) (backOf (W := 0) (rm6 l Z a0 hw [] b158 ar kk (3 : Int32) (2 : Int32) u2 u0 u1 u2 T162.heap n0 gZ162 gP162 Gb158 ne_b158_ar hc9202_89) hZ w_33 w_10 (by decide) (by decide)) q164a q164c (g := (mkF m 259 #[.val (.long q0), .second, .val (.long q1), .second, .val (.long q2), .second, .val (.int p3), .val (.int n7), .val (.long w0), .second, .val (.long w1), .second, .val (.long w2), .second, .val (.ref ar), .val (.long u0), .second, .val (.long u1), .second, .val (.long u2), .second, .val (.int cnt), .val (.int (1 : Int32)), .val (.int (1 : Int32)), .val (.ref b158)] [(.ref b158)])) rfl (by rw [hml]; rfl) (Steps.refl _) (argsL := []) (rest := []) (lenOf pd0___I rfl) rfl (by show 2 * 0 + _ ≤ _; exact Nat.le_of_eq rfl) (hb hby at_259) (fun _ _ => ⟨rfl, e163, (by decide : 2 + 0 ≤ _), (by decide : 6 + 0 ≤ _)⟩)
          dsimp only [Pt.U, Pt.locs, Pt.cells, Pt.slots] at X164 l164 y164 z164 st164 hQ164
          subst l164 y164 z164
          obtain ⟨rfl, N164q, gZ164, gP164⟩ := hQ164
          have N164 := Fr.app N163 N164q
          refine bk (fun t k => st164.trans k) ?_
          refine bk (fun t k => XS.pop X164.here hx rfl (hb hby at_262) rfl rfl k) ?_
          refine bk (fun t k => XS.aload X164.here hx rfl (hb hby at_263) rfl rfl k) ?_
          show F (T164.setTop (mkF m 265 #[.val (.long q0), .second, .val (.long q1), .second, .val (.long q2), .second, .val (.int p3), .val (.int n7), .val (.long w0), .second, .val (.long w1), .second, .val (.long w2), .second, .val (.ref ar), .val (.long u0), .second, .val (.long u1), .second, .val (.long u2), .second, .val (.int cnt), .val (.int (1 : Int32)), .val (.int (1 : Int32)), .val (.ref b158)] [(.ref b158)]))
          obtain ⟨cq165, kq165, q165a, q165b, q165c⟩ := isOf hZ rfl (gP164.1)
          obtain ⟨_, _, ⟨T165, L165, k165, n165⟩, -, X165, ⟨Lc165, hQ165, l165, y165, z165⟩, st165⟩ := X164.virtualBack hx (y := (⟨"com/example/lone1/lone1/solve/SweepOrder", "hasNext", "()Z"⟩ : MethodName)) (z := (⟨"com/example/lone1/lone1/solve/SweepOrder", "hasNext", "()Z"⟩ : MethodName)) hown (mvT hZ w_21) (mvT hZ w_22) (notFace_of_selects (args := #[]) (mvT hZ w_24)) (mvT hZ w_24) (mvT hZ w_23) (by decide) (backOf (W := 0) (rm5Z20 l Z a0 hw [] b158 ar kk (3 : Int32) u0 u1 u2 T164.heap n0 gZ164 (own_S0 hc9102_146 gP164) Gb158 ne_b158_ar (by decide) (by decide) hc9001_147 hc9000_148) hZ w_25 w_10 (by decide) (by decide)) q165a q165c (g := (mkF m 265 #[.val (.long q0), .second, .val (.long q1), .second, .val (.long q2), .second, .val (.int p3), .val (.int n7), .val (.long w0), .second, .val (.long w1), .second, .val (.long w2), .second, .val (.ref ar), .val (.long u0), .second, .val (.long u1), .second, .val (.long u2), .second, .val (.int cnt), .val (.int (1 : Int32)), .val (.int (1 : Int32)), .val (.ref b158)] [(.ref b158)])) rfl (by rw [hml]; rfl) (Steps.refl _) (argsL := []) (rest := []) (lenOf pd0___Z rfl) rfl (by show 2 * 0 + _ ≤ _; exact Nat.le_of_eq rfl) (hb hby at_265) (fun _ _ => ⟨rfl, rfl, (by decide : 2 + 0 ≤ _), (by decide : 6 + 0 ≤ _)⟩)
          dsimp only [Pt.U, Pt.locs, Pt.cells, Pt.slots] at X165 l165 y165 z165 st165 hQ165
          subst l165 y165 z165
          obtain ⟨rfl, N165q, gZ165, gP165⟩ := hQ165
          have N165 := Fr.app N164 N165q
          refine bk (fun t k => st165.trans k) ?_
          refine bk (fun t k => XS.iload X165.here hx rfl (hb hby at_268) rfl k) ?_
          show F (T165.setTop (mkF m 270 #[.val (.long q0), .second, .val (.long q1), .second, .val (.long q2), .second, .val (.int p3), .val (.int n7), .val (.long w0), .second, .val (.long w1), .second, .val (.long w2), .second, .val (.ref ar), .val (.long u0), .second, .val (.long u1), .second, .val (.long u2), .second, .val (.int cnt), .val (.int (1 : Int32)), .val (.int (1 : Int32)), .val (.ref b158)] [(.int (1 : Int32)), (.int (1 : Int32))]))
          refine bk (fun t k => XS.icmpYes X165.here hx rfl (pc0 := 270) (pc' := 275) rfl (hb hby at_270) rfl (teq (by decide : (1 : Int32) = (1 : Int32))).1 (by decide) (by decide) k) ?_
          refine bk (fun t k => XS.aload X165.here hx rfl (hb hby at_275) rfl rfl k) ?_
          show F (T165.setTop (mkF m 277 #[.val (.long q0), .second, .val (.long q1), .second, .val (.long q2), .second, .val (.int p3), .val (.int n7), .val (.long w0), .second, .val (.long w1), .second, .val (.long w2), .second, .val (.ref ar), .val (.long u0), .second, .val (.long u1), .second, .val (.long u2), .second, .val (.int cnt), .val (.int (1 : Int32)), .val (.int (1 : Int32)), .val (.ref b158)] [(.ref b158)]))
          obtain ⟨cq166, kq166, q166a, q166b, q166c⟩ := isOf hZ rfl (gP165.1)
          obtain ⟨_, _, ⟨T166, L166, k166, n166⟩, -, X166, ⟨Lc166, hQ166, l166, y166, z166⟩, st166⟩ := X165.virtualBack hx (y := (⟨"com/example/lone1/lone1/solve/SweepOrder", "hasNext", "()Z"⟩ : MethodName)) (z := (⟨"com/example/lone1/lone1/solve/SweepOrder", "hasNext", "()Z"⟩ : MethodName)) hown (mvT hZ w_21) (mvT hZ w_22) (notFace_of_selects (args := #[]) (mvT hZ w_24)) (mvT hZ w_24) (mvT hZ w_23) (by decide) (backOf (W := 0) (rm5N l Z a0 hw [] b158 u0 T165.heap n0 gZ165 gP165.2.2.2.1 hc9000_148) hZ w_25 w_10 (by decide) (by decide)) q166a q166c (g := (mkF m 277 #[.val (.long q0), .second, .val (.long q1), .second, .val (.long q2), .second, .val (.int p3), .val (.int n7), .val (.long w0), .second, .val (.long w1), .second, .val (.long w2), .second, .val (.ref ar), .val (.long u0), .second, .val (.long u1), .second, .val (.long u2), .second, .val (.int cnt), .val (.int (1 : Int32)), .val (.int (1 : Int32)), .val (.ref b158)] [(.ref b158)])) rfl (by rw [hml]; rfl) (Steps.refl _) (argsL := []) (rest := []) (lenOf pd0___Z rfl) rfl (by show 2 * 0 + _ ≤ _; exact Nat.le_of_eq rfl) (hb hby at_277) (fun _ _ => ⟨rfl, rfl, (by decide : 2 + 0 ≤ _), (by decide : 6 + 0 ≤ _)⟩)
          dsimp only [Pt.U, Pt.locs, Pt.cells, Pt.slots] at X166 l166 y166 z166 st166 hQ166
          subst l166 y166 z166
          obtain ⟨rfl, N166q, e166⟩ := hQ166
          have N166 := Fr.app N165 N166q
          refine bk (fun t k => st166.trans k) ?_
          refine bk (fun t k => XS.iload X166.here hx rfl (hb hby at_280) rfl k) ?_
          show F (T166.setTop (mkF m 282 #[.val (.long q0), .second, .val (.long q1), .second, .val (.long q2), .second, .val (.int p3), .val (.int n7), .val (.long w0), .second, .val (.long w1), .second, .val (.long w2), .second, .val (.ref ar), .val (.long u0), .second, .val (.long u1), .second, .val (.long u2), .second, .val (.int cnt), .val (.int (1 : Int32)), .val (.int (1 : Int32)), .val (.ref b158)] [(.int (1 : Int32)), (.int (1 : Int32))]))
          refine bk (fun t k => XS.icmpNo X166.here hx rfl (hb hby at_282) rfl (teq (by decide : (1 : Int32) = (1 : Int32))).2 k) ?_
          refine bk (fun t k => XS.iconst X166.here hx rfl (hb hby at_285) k) ?_
          refine bk (fun t k => XS.goto X166.here hx rfl (pc0 := 286) (pc' := 290) rfl (hb hby at_286) (by decide) (by decide) k) ?_
          show F (T166.setTop (mkF m 290 #[.val (.long q0), .second, .val (.long q1), .second, .val (.long q2), .second, .val (.int p3), .val (.int n7), .val (.long w0), .second, .val (.long w1), .second, .val (.long w2), .second, .val (.ref ar), .val (.long u0), .second, .val (.long u1), .second, .val (.long u2), .second, .val (.int cnt), .val (.int (1 : Int32)), .val (.int (1 : Int32)), .val (.ref b158)] [(.int (1 : Int32))]))
          rw [hF]
          refine own_retZ X166 hx Bd.notSynchronized Bd.returns (hb hby at_290) (by decide) (by decide) ?_
          rw [e166]
          exact ⟨rfl, N166⟩
      · obtain rfl : any = (1 : Int32) := hany.trans (by subst hcnt; by_cases hq0 : u0 = (0 : Int64) <;> simp +decide [own_anyc, own_cnt, own_b, hc9202_89, hc9102_146, hc9001_147, hq0])
        obtain rfl : two = (1 : Int32) := htwo.trans (by subst hcnt; by_cases hq0 : u0 = (0 : Int64) <;> simp +decide [own_two, own_cnt, own_b, own_mb0, hc9202_89, hc9102_146, hc9001_147, own_clr_mb hc9202_89 hc9102_146, hq0])
        show F (TJ.setTop (mkF m 213 #[.val (.long q0), .second, .val (.long q1), .second, .val (.long q2), .second, .val (.int p3), .val (.int n7), .val (.long w0), .second, .val (.long w1), .second, .val (.long w2), .second, .val (.ref ar), .val (.long u0), .second, .val (.long u1), .second, .val (.long u2), .second, .val (.int cnt), .val (.int (1 : Int32)), .unset, .unset] [(.int (1 : Int32))]))
        refine bk (fun t k => XS.istore XJ.here hx rfl (hb hby at_213) rfl (l' := #[.val (.long q0), .second, .val (.long q1), .second, .val (.long q2), .second, .val (.int p3), .val (.int n7), .val (.long w0), .second, .val (.long w1), .second, .val (.long w2), .second, .val (.ref ar), .val (.long u0), .second, .val (.long u1), .second, .val (.long u2), .second, .val (.int cnt), .val (.int (1 : Int32)), .val (.int (1 : Int32)), .unset]) rfl k) ?_
        show F (TJ.setTop (mkF m 215 #[.val (.long q0), .second, .val (.long q1), .second, .val (.long q2), .second, .val (.int p3), .val (.int n7), .val (.long w0), .second, .val (.long w1), .second, .val (.long w2), .second, .val (.ref ar), .val (.long u0), .second, .val (.long u1), .second, .val (.long u2), .second, .val (.int cnt), .val (.int (1 : Int32)), .val (.int (1 : Int32)), .unset] []))
        obtain ⟨T167, h167, X167, e167, E167, A167, D167, -, st167⟩ := newO XJ hx hZ hown w_8 w_9 w_10 eJ (g := (mkF m 215 #[.val (.long q0), .second, .val (.long q1), .second, .val (.long q2), .second, .val (.int p3), .val (.int n7), .val (.long w0), .second, .val (.long w1), .second, .val (.long w2), .second, .val (.ref ar), .val (.long u0), .second, .val (.long u1), .second, .val (.long u2), .second, .val (.int cnt), .val (.int (1 : Int32)), .val (.int (1 : Int32)), .unset] [])) rfl (hb hby at_215) (by decide) (by decide)
        obtain ⟨b167, g167⟩ : ∃ z, z = hJ.size := ⟨_, rfl⟩
        rw [← g167] at A167 D167 st167
        have Gb167 : n0 ≤ b167 := Nat.le_trans jZ (Nat.le_of_eq g167.symm)
        have ne_ar_b167 : ar ≠ b167 := Nat.ne_of_lt (Nat.lt_of_lt_of_le jV.lt (Nat.le_of_eq g167.symm))
        have f168 := Nat.le_trans jZ E167.1
        have f169 := jV.ext E167
        have F_words_b167 : Fld Z h167 b167 "com/example/lone1/lone1/solve/SweepOrder" "words" "[J" .null := D167 (Or.inr w_18) (ty := (.array .long)) (by decide)
        have F_at_b167 : Fld Z h167 b167 "com/example/lone1/lone1/solve/SweepOrder" "at" "I" (.int (0 : Int32)) := D167 (Or.inl w_20) (ty := .int) (by decide)
        have F_word_b167 : Fld Z h167 b167 "com/example/lone1/lone1/solve/SweepOrder" "word" "J" (.long (0 : Int64)) := D167 (Or.inl w_27) (ty := .long) (by decide)
        refine bk (fun t k => st167 t k) ?_
        refine bk (fun t k => XS.dup X167.here hx rfl (hb hby at_218) rfl rfl k) ?_
        refine bk (fun t k => XS.aload X167.here hx rfl (hb hby at_219) rfl rfl k) ?_
        show F (T167.setTop (mkF m 221 #[.val (.long q0), .second, .val (.long q1), .second, .val (.long q2), .second, .val (.int p3), .val (.int n7), .val (.long w0), .second, .val (.long w1), .second, .val (.long w2), .second, .val (.ref ar), .val (.long u0), .second, .val (.long u1), .second, .val (.long u2), .second, .val (.int cnt), .val (.int (1 : Int32)), .val (.int (1 : Int32)), .unset] [(.ref ar), (.ref b167), (.ref b167)]))
        obtain ⟨_, _, ⟨T170, L170, k170, n170⟩, -, X170, ⟨Lc170, hQ170, l170, y170, z170⟩, st170⟩ := X167.specialBack hx (y := (⟨"com/example/lone1/lone1/solve/SweepOrder", "<init>", "([J)V"⟩ : MethodName)) rfl hown (mvT hZ w_11) (mvT hZ w_12) (mvT hZ w_13) (by decide) (backOf (W := 1) (rm3 l Z a0 hw [] b167 ar kk (3 : Int32) u0 u1 u2 h167 n0 f168 A167 F_words_b167 F_at_b167 F_word_b167 f169 Gb167 (Ne.symm ne_ar_b167)) hZ w_13 w_10 (by decide) (by decide)) (g := (mkF m 221 #[.val (.long q0), .second, .val (.long q1), .second, .val (.long q2), .second, .val (.int p3), .val (.int n7), .val (.long w0), .second, .val (.long w1), .second, .val (.long w2), .second, .val (.ref ar), .val (.long u0), .second, .val (.long u1), .second, .val (.long u2), .second, .val (.int cnt), .val (.int (1 : Int32)), .val (.int (1 : Int32)), .unset] [(.ref ar), (.ref b167), (.ref b167)])) rfl (by rw [hml]; rfl) (Steps.refl _) (a := b167) (argsL := [(.ref ar)]) (rest := [(.ref b167)]) (lenOf pd0___J_V rfl) rfl (by show 2 * 0 + _ ≤ _; exact Nat.le_of_eq rfl) (hb hby at_221) (fun _ _ => ⟨rfl, e167, (by decide : 2 + 0 ≤ _), (by decide : 6 + 0 ≤ _)⟩)
        dsimp only [Pt.U, Pt.locs, Pt.cells, Pt.slots] at X170 l170 y170 z170 st170 hQ170
        subst l170 y170 z170
        obtain ⟨rfl, N170q, gZ170, gP170⟩ := hQ170
        have N170 := Fr.app NJ N170q
        have ne_b167_ar : b167 ≠ ar := (Ne.symm ne_ar_b167)
        refine bk (fun t k => st170.trans k) ?_
        show F (T170.setTop (mkF m 224 #[.val (.long q0), .second, .val (.long q1), .second, .val (.long q2), .second, .val (.int p3), .val (.int n7), .val (.long w0), .second, .val (.long w1), .second, .val (.long w2), .second, .val (.ref ar), .val (.long u0), .second, .val (.long u1), .second, .val (.long u2), .second, .val (.int cnt), .val (.int (1 : Int32)), .val (.int (1 : Int32)), .unset] [(.ref b167)]))
        refine bk (fun t k => XS.astore X170.here hx rfl (hb hby at_224) rfl rfl (l' := #[.val (.long q0), .second, .val (.long q1), .second, .val (.long q2), .second, .val (.int p3), .val (.int n7), .val (.long w0), .second, .val (.long w1), .second, .val (.long w2), .second, .val (.ref ar), .val (.long u0), .second, .val (.long u1), .second, .val (.long u2), .second, .val (.int cnt), .val (.int (1 : Int32)), .val (.int (1 : Int32)), .val (.ref b167)]) rfl k) ?_
        refine bk (fun t k => XS.aload X170.here hx rfl (hb hby at_226) rfl rfl k) ?_
        show F (T170.setTop (mkF m 228 #[.val (.long q0), .second, .val (.long q1), .second, .val (.long q2), .second, .val (.int p3), .val (.int n7), .val (.long w0), .second, .val (.long w1), .second, .val (.long w2), .second, .val (.ref ar), .val (.long u0), .second, .val (.long u1), .second, .val (.long u2), .second, .val (.int cnt), .val (.int (1 : Int32)), .val (.int (1 : Int32)), .val (.ref b167)] [(.ref b167)]))
        obtain ⟨cq171, kq171, q171a, q171b, q171c⟩ := isOf hZ rfl (gP170.1)
        obtain ⟨_, _, ⟨T171, L171, k171, n171⟩, -, X171, ⟨Lc171, hQ171, l171, y171, z171⟩, st171⟩ := X170.virtualBack hx (y := (⟨"com/example/lone1/lone1/solve/SweepOrder", "hasNext", "()Z"⟩ : MethodName)) (z := (⟨"com/example/lone1/lone1/solve/SweepOrder", "hasNext", "()Z"⟩ : MethodName)) hown (mvT hZ w_21) (mvT hZ w_22) (notFace_of_selects (args := #[]) (mvT hZ w_24)) (mvT hZ w_24) (mvT hZ w_23) (by decide) (backOf (W := 0) (rm5Z32 l Z a0 hw [] b167 ar kk (3 : Int32) u0 u1 u2 T170.heap n0 gZ170 gP170 Gb167 ne_b167_ar (by decide) (by decide) (by decide) hc9202_89) hZ w_25 w_10 (by decide) (by decide)) q171a q171c (g := (mkF m 228 #[.val (.long q0), .second, .val (.long q1), .second, .val (.long q2), .second, .val (.int p3), .val (.int n7), .val (.long w0), .second, .val (.long w1), .second, .val (.long w2), .second, .val (.ref ar), .val (.long u0), .second, .val (.long u1), .second, .val (.long u2), .second, .val (.int cnt), .val (.int (1 : Int32)), .val (.int (1 : Int32)), .val (.ref b167)] [(.ref b167)])) rfl (by rw [hml]; rfl) (Steps.refl _) (argsL := []) (rest := []) (lenOf pd0___Z rfl) rfl (by show 2 * 0 + _ ≤ _; exact Nat.le_of_eq rfl) (hb hby at_228) (fun _ _ => ⟨rfl, rfl, (by decide : 2 + 0 ≤ _), (by decide : 6 + 0 ≤ _)⟩)
        dsimp only [Pt.U, Pt.locs, Pt.cells, Pt.slots] at X171 l171 y171 z171 st171 hQ171
        subst l171 y171 z171
        obtain ⟨rfl, N171q, gZ171, gP171⟩ := hQ171
        have N171 := Fr.app N170 N171q
        refine bk (fun t k => st171.trans k) ?_
        refine bk (fun t k => XS.iload X171.here hx rfl (hb hby at_231) rfl k) ?_
        show F (T171.setTop (mkF m 233 #[.val (.long q0), .second, .val (.long q1), .second, .val (.long q2), .second, .val (.int p3), .val (.int n7), .val (.long w0), .second, .val (.long w1), .second, .val (.long w2), .second, .val (.ref ar), .val (.long u0), .second, .val (.long u1), .second, .val (.long u2), .second, .val (.int cnt), .val (.int (1 : Int32)), .val (.int (1 : Int32)), .val (.ref b167)] [(.int (1 : Int32)), (.int (1 : Int32))]))
        refine bk (fun t k => XS.icmpYes X171.here hx rfl (pc0 := 233) (pc' := 238) rfl (hb hby at_233) rfl (teq (by decide : (1 : Int32) = (1 : Int32))).1 (by decide) (by decide) k) ?_
        refine bk (fun t k => XS.aload X171.here hx rfl (hb hby at_238) rfl rfl k) ?_
        show F (T171.setTop (mkF m 240 #[.val (.long q0), .second, .val (.long q1), .second, .val (.long q2), .second, .val (.int p3), .val (.int n7), .val (.long w0), .second, .val (.long w1), .second, .val (.long w2), .second, .val (.ref ar), .val (.long u0), .second, .val (.long u1), .second, .val (.long u2), .second, .val (.int cnt), .val (.int (1 : Int32)), .val (.int (1 : Int32)), .val (.ref b167)] [(.ref b167)]))
        obtain ⟨cq172, kq172, q172a, q172b, q172c⟩ := isOf hZ rfl (gP171.1)
        obtain ⟨_, _, ⟨T172, L172, k172, n172⟩, -, X172, ⟨Lc172, hQ172, l172, y172, z172⟩, st172⟩ := X171.virtualBack hx (y := (⟨"com/example/lone1/lone1/solve/SweepOrder", "hasNext", "()Z"⟩ : MethodName)) (z := (⟨"com/example/lone1/lone1/solve/SweepOrder", "hasNext", "()Z"⟩ : MethodName)) hown (mvT hZ w_21) (mvT hZ w_22) (notFace_of_selects (args := #[]) (mvT hZ w_24)) (mvT hZ w_24) (mvT hZ w_23) (by decide) (backOf (W := 0) (rm5N l Z a0 hw [] b167 u2 T171.heap n0 gZ171 gP171.2.2.2.1 hc9202_89) hZ w_25 w_10 (by decide) (by decide)) q172a q172c (g := (mkF m 240 #[.val (.long q0), .second, .val (.long q1), .second, .val (.long q2), .second, .val (.int p3), .val (.int n7), .val (.long w0), .second, .val (.long w1), .second, .val (.long w2), .second, .val (.ref ar), .val (.long u0), .second, .val (.long u1), .second, .val (.long u2), .second, .val (.int cnt), .val (.int (1 : Int32)), .val (.int (1 : Int32)), .val (.ref b167)] [(.ref b167)])) rfl (by rw [hml]; rfl) (Steps.refl _) (argsL := []) (rest := []) (lenOf pd0___Z rfl) rfl (by show 2 * 0 + _ ≤ _; exact Nat.le_of_eq rfl) (hb hby at_240) (fun _ _ => ⟨rfl, rfl, (by decide : 2 + 0 ≤ _), (by decide : 6 + 0 ≤ _)⟩)
        dsimp only [Pt.U, Pt.locs, Pt.cells, Pt.slots] at X172 l172 y172 z172 st172 hQ172
        subst l172 y172 z172
        obtain ⟨rfl, N172q, e172⟩ := hQ172
        have N172 := Fr.app N171 N172q
        refine bk (fun t k => st172.trans k) ?_
        refine bk (fun t k => XS.iload X172.here hx rfl (hb hby at_243) rfl k) ?_
        show F (T172.setTop (mkF m 245 #[.val (.long q0), .second, .val (.long q1), .second, .val (.long q2), .second, .val (.int p3), .val (.int n7), .val (.long w0), .second, .val (.long w1), .second, .val (.long w2), .second, .val (.ref ar), .val (.long u0), .second, .val (.long u1), .second, .val (.long u2), .second, .val (.int cnt), .val (.int (1 : Int32)), .val (.int (1 : Int32)), .val (.ref b167)] [(.int (1 : Int32)), (.int (1 : Int32))]))
        refine bk (fun t k => XS.icmpYes X172.here hx rfl (pc0 := 245) (pc' := 250) rfl (hb hby at_245) rfl (teq (by decide : (1 : Int32) = (1 : Int32))).1 (by decide) (by decide) k) ?_
        refine bk (fun t k => XS.iload X172.here hx rfl (hb hby at_250) rfl k) ?_
        show F (T172.setTop (mkF m 252 #[.val (.long q0), .second, .val (.long q1), .second, .val (.long q2), .second, .val (.int p3), .val (.int n7), .val (.long w0), .second, .val (.long w1), .second, .val (.long w2), .second, .val (.ref ar), .val (.long u0), .second, .val (.long u1), .second, .val (.long u2), .second, .val (.int cnt), .val (.int (1 : Int32)), .val (.int (1 : Int32)), .val (.ref b167)] [(.int (1 : Int32))]))
        refine bk (fun t k => XS.ifYes X172.here hx rfl (pc0 := 252) (pc' := 257) rfl (hb hby at_252) rfl ((if0 _ _).trans (feq (by decide : ¬ ((1 : Int32) = (0 : Int32)))).2) (by decide) (by decide) k) ?_
        refine bk (fun t k => XS.aload X172.here hx rfl (hb hby at_257) rfl rfl k) ?_
        show F (T172.setTop (mkF m 259 #[.val (.long q0), .second, .val (.long q1), .second, .val (.long q2), .second, .val (.int p3), .val (.int n7), .val (.long w0), .second, .val (.long w1), .second, .val (.long w2), .second, .val (.ref ar), .val (.long u0), .second, .val (.long u1), .second, .val (.long u2), .second, .val (.int cnt), .val (.int (1 : Int32)), .val (.int (1 : Int32)), .val (.ref b167)] [(.ref b167)]))
        obtain ⟨cq173, kq173, q173a, q173b, q173c⟩ := isOf hZ e172 (gP171.1)
        obtain ⟨_, _, ⟨T173, L173, k173, n173⟩, -, X173, ⟨Lc173, hQ173, l173, y173, z173⟩, st173⟩ := X172.virtualBack hx (y := (⟨"com/example/lone1/lone1/solve/SweepOrder", "next", "()I"⟩ : MethodName)) (z := (⟨"com/example/lone1/lone1/solve/SweepOrder", "next", "()I"⟩ : MethodName)) hown (mvT hZ w_29) (mvT hZ w_30) (notFace_of_selects (args := #[]) (mvT hZ w_32)) (mvT hZ w_32) (mvT hZ w_31) (by decide) (backOf (W := 0) (rm6 l Z a0 hw [] b167 ar kk (3 : Int32) (2 : Int32) u2 u0 u1 u2 T171.heap n0 gZ171 gP171 Gb167 ne_b167_ar hc9202_89) hZ w_33 w_10 (by decide) (by decide)) q173a q173c (g := (mkF m 259 #[.val (.long q0), .second, .val (.long q1), .second, .val (.long q2), .second, .val (.int p3), .val (.int n7), .val (.long w0), .second, .val (.long w1), .second, .val (.long w2), .second, .val (.ref ar), .val (.long u0), .second, .val (.long u1), .second, .val (.long u2), .second, .val (.int cnt), .val (.int (1 : Int32)), .val (.int (1 : Int32)), .val (.ref b167)] [(.ref b167)])) rfl (by rw [hml]; rfl) (Steps.refl _) (argsL := []) (rest := []) (lenOf pd0___I rfl) rfl (by show 2 * 0 + _ ≤ _; exact Nat.le_of_eq rfl) (hb hby at_259) (fun _ _ => ⟨rfl, e172, (by decide : 2 + 0 ≤ _), (by decide : 6 + 0 ≤ _)⟩)
        dsimp only [Pt.U, Pt.locs, Pt.cells, Pt.slots] at X173 l173 y173 z173 st173 hQ173
        subst l173 y173 z173
        obtain ⟨rfl, N173q, gZ173, gP173⟩ := hQ173
        have N173 := Fr.app N172 N173q
        refine bk (fun t k => st173.trans k) ?_
        refine bk (fun t k => XS.pop X173.here hx rfl (hb hby at_262) rfl rfl k) ?_
        refine bk (fun t k => XS.aload X173.here hx rfl (hb hby at_263) rfl rfl k) ?_
        show F (T173.setTop (mkF m 265 #[.val (.long q0), .second, .val (.long q1), .second, .val (.long q2), .second, .val (.int p3), .val (.int n7), .val (.long w0), .second, .val (.long w1), .second, .val (.long w2), .second, .val (.ref ar), .val (.long u0), .second, .val (.long u1), .second, .val (.long u2), .second, .val (.int cnt), .val (.int (1 : Int32)), .val (.int (1 : Int32)), .val (.ref b167)] [(.ref b167)]))
        obtain ⟨cq174, kq174, q174a, q174b, q174c⟩ := isOf hZ rfl (gP173.1)
        obtain ⟨_, _, ⟨T174, L174, k174, n174⟩, -, X174, ⟨Lc174, hQ174, l174, y174, z174⟩, st174⟩ := X173.virtualBack hx (y := (⟨"com/example/lone1/lone1/solve/SweepOrder", "hasNext", "()Z"⟩ : MethodName)) (z := (⟨"com/example/lone1/lone1/solve/SweepOrder", "hasNext", "()Z"⟩ : MethodName)) hown (mvT hZ w_21) (mvT hZ w_22) (notFace_of_selects (args := #[]) (mvT hZ w_24)) (mvT hZ w_24) (mvT hZ w_23) (by decide) (backOf (W := 0) (rm5Z21 l Z a0 hw [] b167 ar kk (3 : Int32) u0 u1 u2 T173.heap n0 gZ173 (own_S0 hc9102_146 gP173) Gb167 ne_b167_ar (by decide) (by decide) hc9001_147) hZ w_25 w_10 (by decide) (by decide)) q174a q174c (g := (mkF m 265 #[.val (.long q0), .second, .val (.long q1), .second, .val (.long q2), .second, .val (.int p3), .val (.int n7), .val (.long w0), .second, .val (.long w1), .second, .val (.long w2), .second, .val (.ref ar), .val (.long u0), .second, .val (.long u1), .second, .val (.long u2), .second, .val (.int cnt), .val (.int (1 : Int32)), .val (.int (1 : Int32)), .val (.ref b167)] [(.ref b167)])) rfl (by rw [hml]; rfl) (Steps.refl _) (argsL := []) (rest := []) (lenOf pd0___Z rfl) rfl (by show 2 * 0 + _ ≤ _; exact Nat.le_of_eq rfl) (hb hby at_265) (fun _ _ => ⟨rfl, rfl, (by decide : 2 + 0 ≤ _), (by decide : 6 + 0 ≤ _)⟩)
        dsimp only [Pt.U, Pt.locs, Pt.cells, Pt.slots] at X174 l174 y174 z174 st174 hQ174
        subst l174 y174 z174
        obtain ⟨rfl, N174q, gZ174, gP174⟩ := hQ174
        have N174 := Fr.app N173 N174q
        refine bk (fun t k => st174.trans k) ?_
        refine bk (fun t k => XS.iload X174.here hx rfl (hb hby at_268) rfl k) ?_
        show F (T174.setTop (mkF m 270 #[.val (.long q0), .second, .val (.long q1), .second, .val (.long q2), .second, .val (.int p3), .val (.int n7), .val (.long w0), .second, .val (.long w1), .second, .val (.long w2), .second, .val (.ref ar), .val (.long u0), .second, .val (.long u1), .second, .val (.long u2), .second, .val (.int cnt), .val (.int (1 : Int32)), .val (.int (1 : Int32)), .val (.ref b167)] [(.int (1 : Int32)), (.int (1 : Int32))]))
        refine bk (fun t k => XS.icmpYes X174.here hx rfl (pc0 := 270) (pc' := 275) rfl (hb hby at_270) rfl (teq (by decide : (1 : Int32) = (1 : Int32))).1 (by decide) (by decide) k) ?_
        refine bk (fun t k => XS.aload X174.here hx rfl (hb hby at_275) rfl rfl k) ?_
        show F (T174.setTop (mkF m 277 #[.val (.long q0), .second, .val (.long q1), .second, .val (.long q2), .second, .val (.int p3), .val (.int n7), .val (.long w0), .second, .val (.long w1), .second, .val (.long w2), .second, .val (.ref ar), .val (.long u0), .second, .val (.long u1), .second, .val (.long u2), .second, .val (.int cnt), .val (.int (1 : Int32)), .val (.int (1 : Int32)), .val (.ref b167)] [(.ref b167)]))
        obtain ⟨cq175, kq175, q175a, q175b, q175c⟩ := isOf hZ rfl (gP174.1)
        obtain ⟨_, _, ⟨T175, L175, k175, n175⟩, -, X175, ⟨Lc175, hQ175, l175, y175, z175⟩, st175⟩ := X174.virtualBack hx (y := (⟨"com/example/lone1/lone1/solve/SweepOrder", "hasNext", "()Z"⟩ : MethodName)) (z := (⟨"com/example/lone1/lone1/solve/SweepOrder", "hasNext", "()Z"⟩ : MethodName)) hown (mvT hZ w_21) (mvT hZ w_22) (notFace_of_selects (args := #[]) (mvT hZ w_24)) (mvT hZ w_24) (mvT hZ w_23) (by decide) (backOf (W := 0) (rm5N l Z a0 hw [] b167 u1 T174.heap n0 gZ174 gP174.2.2.2.1 hc9001_147) hZ w_25 w_10 (by decide) (by decide)) q175a q175c (g := (mkF m 277 #[.val (.long q0), .second, .val (.long q1), .second, .val (.long q2), .second, .val (.int p3), .val (.int n7), .val (.long w0), .second, .val (.long w1), .second, .val (.long w2), .second, .val (.ref ar), .val (.long u0), .second, .val (.long u1), .second, .val (.long u2), .second, .val (.int cnt), .val (.int (1 : Int32)), .val (.int (1 : Int32)), .val (.ref b167)] [(.ref b167)])) rfl (by rw [hml]; rfl) (Steps.refl _) (argsL := []) (rest := []) (lenOf pd0___Z rfl) rfl (by show 2 * 0 + _ ≤ _; exact Nat.le_of_eq rfl) (hb hby at_277) (fun _ _ => ⟨rfl, rfl, (by decide : 2 + 0 ≤ _), (by decide : 6 + 0 ≤ _)⟩)
        dsimp only [Pt.U, Pt.locs, Pt.cells, Pt.slots] at X175 l175 y175 z175 st175 hQ175
        subst l175 y175 z175
        obtain ⟨rfl, N175q, e175⟩ := hQ175
        have N175 := Fr.app N174 N175q
        refine bk (fun t k => st175.trans k) ?_
        refine bk (fun t k => XS.iload X175.here hx rfl (hb hby at_280) rfl k) ?_
        show F (T175.setTop (mkF m 282 #[.val (.long q0), .second, .val (.long q1), .second, .val (.long q2), .second, .val (.int p3), .val (.int n7), .val (.long w0), .second, .val (.long w1), .second, .val (.long w2), .second, .val (.ref ar), .val (.long u0), .second, .val (.long u1), .second, .val (.long u2), .second, .val (.int cnt), .val (.int (1 : Int32)), .val (.int (1 : Int32)), .val (.ref b167)] [(.int (1 : Int32)), (.int (1 : Int32))]))
        refine bk (fun t k => XS.icmpNo X175.here hx rfl (hb hby at_282) rfl (teq (by decide : (1 : Int32) = (1 : Int32))).2 k) ?_
        refine bk (fun t k => XS.iconst X175.here hx rfl (hb hby at_285) k) ?_
        refine bk (fun t k => XS.goto X175.here hx rfl (pc0 := 286) (pc' := 290) rfl (hb hby at_286) (by decide) (by decide) k) ?_
        show F (T175.setTop (mkF m 290 #[.val (.long q0), .second, .val (.long q1), .second, .val (.long q2), .second, .val (.int p3), .val (.int n7), .val (.long w0), .second, .val (.long w1), .second, .val (.long w2), .second, .val (.ref ar), .val (.long u0), .second, .val (.long u1), .second, .val (.long u2), .second, .val (.int cnt), .val (.int (1 : Int32)), .val (.int (1 : Int32)), .val (.ref b167)] [(.int (1 : Int32))]))
        rw [hF]
        refine own_retZ X175 hx Bd.notSynchronized Bd.returns (hb hby at_290) (by decide) (by decide) ?_
        rw [e175]
        exact ⟨rfl, N175⟩
    · obtain rfl : any = (1 : Int32) := hany.trans (by subst hcnt; by_cases hq0 : u0 = (0 : Int64) <;> by_cases hq1 : u1 = (0 : Int64) <;> simp +decide [own_anyc, own_cnt, own_b, hc9202_89, hc9102_146, hq0, hq1])
      obtain rfl : two = (1 : Int32) := htwo.trans (by subst hcnt; by_cases hq0 : u0 = (0 : Int64) <;> by_cases hq1 : u1 = (0 : Int64) <;> simp +decide [own_two, own_cnt, own_b, own_mb0, hc9202_89, hc9102_146, own_clr_mbn hc9202_89 hc9102_146, hq0, hq1])
      show F (TJ.setTop (mkF m 213 #[.val (.long q0), .second, .val (.long q1), .second, .val (.long q2), .second, .val (.int p3), .val (.int n7), .val (.long w0), .second, .val (.long w1), .second, .val (.long w2), .second, .val (.ref ar), .val (.long u0), .second, .val (.long u1), .second, .val (.long u2), .second, .val (.int cnt), .val (.int (1 : Int32)), .unset, .unset] [(.int (1 : Int32))]))
      refine bk (fun t k => XS.istore XJ.here hx rfl (hb hby at_213) rfl (l' := #[.val (.long q0), .second, .val (.long q1), .second, .val (.long q2), .second, .val (.int p3), .val (.int n7), .val (.long w0), .second, .val (.long w1), .second, .val (.long w2), .second, .val (.ref ar), .val (.long u0), .second, .val (.long u1), .second, .val (.long u2), .second, .val (.int cnt), .val (.int (1 : Int32)), .val (.int (1 : Int32)), .unset]) rfl k) ?_
      show F (TJ.setTop (mkF m 215 #[.val (.long q0), .second, .val (.long q1), .second, .val (.long q2), .second, .val (.int p3), .val (.int n7), .val (.long w0), .second, .val (.long w1), .second, .val (.long w2), .second, .val (.ref ar), .val (.long u0), .second, .val (.long u1), .second, .val (.long u2), .second, .val (.int cnt), .val (.int (1 : Int32)), .val (.int (1 : Int32)), .unset] []))
      obtain ⟨T176, h176, X176, e176, E176, A176, D176, -, st176⟩ := newO XJ hx hZ hown w_8 w_9 w_10 eJ (g := (mkF m 215 #[.val (.long q0), .second, .val (.long q1), .second, .val (.long q2), .second, .val (.int p3), .val (.int n7), .val (.long w0), .second, .val (.long w1), .second, .val (.long w2), .second, .val (.ref ar), .val (.long u0), .second, .val (.long u1), .second, .val (.long u2), .second, .val (.int cnt), .val (.int (1 : Int32)), .val (.int (1 : Int32)), .unset] [])) rfl (hb hby at_215) (by decide) (by decide)
      obtain ⟨b176, g176⟩ : ∃ z, z = hJ.size := ⟨_, rfl⟩
      rw [← g176] at A176 D176 st176
      have Gb176 : n0 ≤ b176 := Nat.le_trans jZ (Nat.le_of_eq g176.symm)
      have ne_ar_b176 : ar ≠ b176 := Nat.ne_of_lt (Nat.lt_of_lt_of_le jV.lt (Nat.le_of_eq g176.symm))
      have f177 := Nat.le_trans jZ E176.1
      have f178 := jV.ext E176
      have F_words_b176 : Fld Z h176 b176 "com/example/lone1/lone1/solve/SweepOrder" "words" "[J" .null := D176 (Or.inr w_18) (ty := (.array .long)) (by decide)
      have F_at_b176 : Fld Z h176 b176 "com/example/lone1/lone1/solve/SweepOrder" "at" "I" (.int (0 : Int32)) := D176 (Or.inl w_20) (ty := .int) (by decide)
      have F_word_b176 : Fld Z h176 b176 "com/example/lone1/lone1/solve/SweepOrder" "word" "J" (.long (0 : Int64)) := D176 (Or.inl w_27) (ty := .long) (by decide)
      refine bk (fun t k => st176 t k) ?_
      refine bk (fun t k => XS.dup X176.here hx rfl (hb hby at_218) rfl rfl k) ?_
      refine bk (fun t k => XS.aload X176.here hx rfl (hb hby at_219) rfl rfl k) ?_
      show F (T176.setTop (mkF m 221 #[.val (.long q0), .second, .val (.long q1), .second, .val (.long q2), .second, .val (.int p3), .val (.int n7), .val (.long w0), .second, .val (.long w1), .second, .val (.long w2), .second, .val (.ref ar), .val (.long u0), .second, .val (.long u1), .second, .val (.long u2), .second, .val (.int cnt), .val (.int (1 : Int32)), .val (.int (1 : Int32)), .unset] [(.ref ar), (.ref b176), (.ref b176)]))
      obtain ⟨_, _, ⟨T179, L179, k179, n179⟩, -, X179, ⟨Lc179, hQ179, l179, y179, z179⟩, st179⟩ := X176.specialBack hx (y := (⟨"com/example/lone1/lone1/solve/SweepOrder", "<init>", "([J)V"⟩ : MethodName)) rfl hown (mvT hZ w_11) (mvT hZ w_12) (mvT hZ w_13) (by decide) (backOf (W := 1) (rm3 l Z a0 hw [] b176 ar kk (3 : Int32) u0 u1 u2 h176 n0 f177 A176 F_words_b176 F_at_b176 F_word_b176 f178 Gb176 (Ne.symm ne_ar_b176)) hZ w_13 w_10 (by decide) (by decide)) (g := (mkF m 221 #[.val (.long q0), .second, .val (.long q1), .second, .val (.long q2), .second, .val (.int p3), .val (.int n7), .val (.long w0), .second, .val (.long w1), .second, .val (.long w2), .second, .val (.ref ar), .val (.long u0), .second, .val (.long u1), .second, .val (.long u2), .second, .val (.int cnt), .val (.int (1 : Int32)), .val (.int (1 : Int32)), .unset] [(.ref ar), (.ref b176), (.ref b176)])) rfl (by rw [hml]; rfl) (Steps.refl _) (a := b176) (argsL := [(.ref ar)]) (rest := [(.ref b176)]) (lenOf pd0___J_V rfl) rfl (by show 2 * 0 + _ ≤ _; exact Nat.le_of_eq rfl) (hb hby at_221) (fun _ _ => ⟨rfl, e176, (by decide : 2 + 0 ≤ _), (by decide : 6 + 0 ≤ _)⟩)
      dsimp only [Pt.U, Pt.locs, Pt.cells, Pt.slots] at X179 l179 y179 z179 st179 hQ179
      subst l179 y179 z179
      obtain ⟨rfl, N179q, gZ179, gP179⟩ := hQ179
      have N179 := Fr.app NJ N179q
      have ne_b176_ar : b176 ≠ ar := (Ne.symm ne_ar_b176)
      refine bk (fun t k => st179.trans k) ?_
      show F (T179.setTop (mkF m 224 #[.val (.long q0), .second, .val (.long q1), .second, .val (.long q2), .second, .val (.int p3), .val (.int n7), .val (.long w0), .second, .val (.long w1), .second, .val (.long w2), .second, .val (.ref ar), .val (.long u0), .second, .val (.long u1), .second, .val (.long u2), .second, .val (.int cnt), .val (.int (1 : Int32)), .val (.int (1 : Int32)), .unset] [(.ref b176)]))
      refine bk (fun t k => XS.astore X179.here hx rfl (hb hby at_224) rfl rfl (l' := #[.val (.long q0), .second, .val (.long q1), .second, .val (.long q2), .second, .val (.int p3), .val (.int n7), .val (.long w0), .second, .val (.long w1), .second, .val (.long w2), .second, .val (.ref ar), .val (.long u0), .second, .val (.long u1), .second, .val (.long u2), .second, .val (.int cnt), .val (.int (1 : Int32)), .val (.int (1 : Int32)), .val (.ref b176)]) rfl k) ?_
      refine bk (fun t k => XS.aload X179.here hx rfl (hb hby at_226) rfl rfl k) ?_
      show F (T179.setTop (mkF m 228 #[.val (.long q0), .second, .val (.long q1), .second, .val (.long q2), .second, .val (.int p3), .val (.int n7), .val (.long w0), .second, .val (.long w1), .second, .val (.long w2), .second, .val (.ref ar), .val (.long u0), .second, .val (.long u1), .second, .val (.long u2), .second, .val (.int cnt), .val (.int (1 : Int32)), .val (.int (1 : Int32)), .val (.ref b176)] [(.ref b176)]))
      obtain ⟨cq180, kq180, q180a, q180b, q180c⟩ := isOf hZ rfl (gP179.1)
      obtain ⟨_, _, ⟨T180, L180, k180, n180⟩, -, X180, ⟨Lc180, hQ180, l180, y180, z180⟩, st180⟩ := X179.virtualBack hx (y := (⟨"com/example/lone1/lone1/solve/SweepOrder", "hasNext", "()Z"⟩ : MethodName)) (z := (⟨"com/example/lone1/lone1/solve/SweepOrder", "hasNext", "()Z"⟩ : MethodName)) hown (mvT hZ w_21) (mvT hZ w_22) (notFace_of_selects (args := #[]) (mvT hZ w_24)) (mvT hZ w_24) (mvT hZ w_23) (by decide) (backOf (W := 0) (rm5Z32 l Z a0 hw [] b176 ar kk (3 : Int32) u0 u1 u2 T179.heap n0 gZ179 gP179 Gb176 ne_b176_ar (by decide) (by decide) (by decide) hc9202_89) hZ w_25 w_10 (by decide) (by decide)) q180a q180c (g := (mkF m 228 #[.val (.long q0), .second, .val (.long q1), .second, .val (.long q2), .second, .val (.int p3), .val (.int n7), .val (.long w0), .second, .val (.long w1), .second, .val (.long w2), .second, .val (.ref ar), .val (.long u0), .second, .val (.long u1), .second, .val (.long u2), .second, .val (.int cnt), .val (.int (1 : Int32)), .val (.int (1 : Int32)), .val (.ref b176)] [(.ref b176)])) rfl (by rw [hml]; rfl) (Steps.refl _) (argsL := []) (rest := []) (lenOf pd0___Z rfl) rfl (by show 2 * 0 + _ ≤ _; exact Nat.le_of_eq rfl) (hb hby at_228) (fun _ _ => ⟨rfl, rfl, (by decide : 2 + 0 ≤ _), (by decide : 6 + 0 ≤ _)⟩)
      dsimp only [Pt.U, Pt.locs, Pt.cells, Pt.slots] at X180 l180 y180 z180 st180 hQ180
      subst l180 y180 z180
      obtain ⟨rfl, N180q, gZ180, gP180⟩ := hQ180
      have N180 := Fr.app N179 N180q
      refine bk (fun t k => st180.trans k) ?_
      refine bk (fun t k => XS.iload X180.here hx rfl (hb hby at_231) rfl k) ?_
      show F (T180.setTop (mkF m 233 #[.val (.long q0), .second, .val (.long q1), .second, .val (.long q2), .second, .val (.int p3), .val (.int n7), .val (.long w0), .second, .val (.long w1), .second, .val (.long w2), .second, .val (.ref ar), .val (.long u0), .second, .val (.long u1), .second, .val (.long u2), .second, .val (.int cnt), .val (.int (1 : Int32)), .val (.int (1 : Int32)), .val (.ref b176)] [(.int (1 : Int32)), (.int (1 : Int32))]))
      refine bk (fun t k => XS.icmpYes X180.here hx rfl (pc0 := 233) (pc' := 238) rfl (hb hby at_233) rfl (teq (by decide : (1 : Int32) = (1 : Int32))).1 (by decide) (by decide) k) ?_
      refine bk (fun t k => XS.aload X180.here hx rfl (hb hby at_238) rfl rfl k) ?_
      show F (T180.setTop (mkF m 240 #[.val (.long q0), .second, .val (.long q1), .second, .val (.long q2), .second, .val (.int p3), .val (.int n7), .val (.long w0), .second, .val (.long w1), .second, .val (.long w2), .second, .val (.ref ar), .val (.long u0), .second, .val (.long u1), .second, .val (.long u2), .second, .val (.int cnt), .val (.int (1 : Int32)), .val (.int (1 : Int32)), .val (.ref b176)] [(.ref b176)]))
      obtain ⟨cq181, kq181, q181a, q181b, q181c⟩ := isOf hZ rfl (gP180.1)
      obtain ⟨_, _, ⟨T181, L181, k181, n181⟩, -, X181, ⟨Lc181, hQ181, l181, y181, z181⟩, st181⟩ := X180.virtualBack hx (y := (⟨"com/example/lone1/lone1/solve/SweepOrder", "hasNext", "()Z"⟩ : MethodName)) (z := (⟨"com/example/lone1/lone1/solve/SweepOrder", "hasNext", "()Z"⟩ : MethodName)) hown (mvT hZ w_21) (mvT hZ w_22) (notFace_of_selects (args := #[]) (mvT hZ w_24)) (mvT hZ w_24) (mvT hZ w_23) (by decide) (backOf (W := 0) (rm5N l Z a0 hw [] b176 u2 T180.heap n0 gZ180 gP180.2.2.2.1 hc9202_89) hZ w_25 w_10 (by decide) (by decide)) q181a q181c (g := (mkF m 240 #[.val (.long q0), .second, .val (.long q1), .second, .val (.long q2), .second, .val (.int p3), .val (.int n7), .val (.long w0), .second, .val (.long w1), .second, .val (.long w2), .second, .val (.ref ar), .val (.long u0), .second, .val (.long u1), .second, .val (.long u2), .second, .val (.int cnt), .val (.int (1 : Int32)), .val (.int (1 : Int32)), .val (.ref b176)] [(.ref b176)])) rfl (by rw [hml]; rfl) (Steps.refl _) (argsL := []) (rest := []) (lenOf pd0___Z rfl) rfl (by show 2 * 0 + _ ≤ _; exact Nat.le_of_eq rfl) (hb hby at_240) (fun _ _ => ⟨rfl, rfl, (by decide : 2 + 0 ≤ _), (by decide : 6 + 0 ≤ _)⟩)
      dsimp only [Pt.U, Pt.locs, Pt.cells, Pt.slots] at X181 l181 y181 z181 st181 hQ181
      subst l181 y181 z181
      obtain ⟨rfl, N181q, e181⟩ := hQ181
      have N181 := Fr.app N180 N181q
      refine bk (fun t k => st181.trans k) ?_
      refine bk (fun t k => XS.iload X181.here hx rfl (hb hby at_243) rfl k) ?_
      show F (T181.setTop (mkF m 245 #[.val (.long q0), .second, .val (.long q1), .second, .val (.long q2), .second, .val (.int p3), .val (.int n7), .val (.long w0), .second, .val (.long w1), .second, .val (.long w2), .second, .val (.ref ar), .val (.long u0), .second, .val (.long u1), .second, .val (.long u2), .second, .val (.int cnt), .val (.int (1 : Int32)), .val (.int (1 : Int32)), .val (.ref b176)] [(.int (1 : Int32)), (.int (1 : Int32))]))
      refine bk (fun t k => XS.icmpYes X181.here hx rfl (pc0 := 245) (pc' := 250) rfl (hb hby at_245) rfl (teq (by decide : (1 : Int32) = (1 : Int32))).1 (by decide) (by decide) k) ?_
      refine bk (fun t k => XS.iload X181.here hx rfl (hb hby at_250) rfl k) ?_
      show F (T181.setTop (mkF m 252 #[.val (.long q0), .second, .val (.long q1), .second, .val (.long q2), .second, .val (.int p3), .val (.int n7), .val (.long w0), .second, .val (.long w1), .second, .val (.long w2), .second, .val (.ref ar), .val (.long u0), .second, .val (.long u1), .second, .val (.long u2), .second, .val (.int cnt), .val (.int (1 : Int32)), .val (.int (1 : Int32)), .val (.ref b176)] [(.int (1 : Int32))]))
      refine bk (fun t k => XS.ifYes X181.here hx rfl (pc0 := 252) (pc' := 257) rfl (hb hby at_252) rfl ((if0 _ _).trans (feq (by decide : ¬ ((1 : Int32) = (0 : Int32)))).2) (by decide) (by decide) k) ?_
      refine bk (fun t k => XS.aload X181.here hx rfl (hb hby at_257) rfl rfl k) ?_
      show F (T181.setTop (mkF m 259 #[.val (.long q0), .second, .val (.long q1), .second, .val (.long q2), .second, .val (.int p3), .val (.int n7), .val (.long w0), .second, .val (.long w1), .second, .val (.long w2), .second, .val (.ref ar), .val (.long u0), .second, .val (.long u1), .second, .val (.long u2), .second, .val (.int cnt), .val (.int (1 : Int32)), .val (.int (1 : Int32)), .val (.ref b176)] [(.ref b176)]))
      obtain ⟨cq182, kq182, q182a, q182b, q182c⟩ := isOf hZ e181 (gP180.1)
      obtain ⟨_, _, ⟨T182, L182, k182, n182⟩, -, X182, ⟨Lc182, hQ182, l182, y182, z182⟩, st182⟩ := X181.virtualBack hx (y := (⟨"com/example/lone1/lone1/solve/SweepOrder", "next", "()I"⟩ : MethodName)) (z := (⟨"com/example/lone1/lone1/solve/SweepOrder", "next", "()I"⟩ : MethodName)) hown (mvT hZ w_29) (mvT hZ w_30) (notFace_of_selects (args := #[]) (mvT hZ w_32)) (mvT hZ w_32) (mvT hZ w_31) (by decide) (backOf (W := 0) (rm6 l Z a0 hw [] b176 ar kk (3 : Int32) (2 : Int32) u2 u0 u1 u2 T180.heap n0 gZ180 gP180 Gb176 ne_b176_ar hc9202_89) hZ w_33 w_10 (by decide) (by decide)) q182a q182c (g := (mkF m 259 #[.val (.long q0), .second, .val (.long q1), .second, .val (.long q2), .second, .val (.int p3), .val (.int n7), .val (.long w0), .second, .val (.long w1), .second, .val (.long w2), .second, .val (.ref ar), .val (.long u0), .second, .val (.long u1), .second, .val (.long u2), .second, .val (.int cnt), .val (.int (1 : Int32)), .val (.int (1 : Int32)), .val (.ref b176)] [(.ref b176)])) rfl (by rw [hml]; rfl) (Steps.refl _) (argsL := []) (rest := []) (lenOf pd0___I rfl) rfl (by show 2 * 0 + _ ≤ _; exact Nat.le_of_eq rfl) (hb hby at_259) (fun _ _ => ⟨rfl, e181, (by decide : 2 + 0 ≤ _), (by decide : 6 + 0 ≤ _)⟩)
      dsimp only [Pt.U, Pt.locs, Pt.cells, Pt.slots] at X182 l182 y182 z182 st182 hQ182
      subst l182 y182 z182
      obtain ⟨rfl, N182q, gZ182, gP182⟩ := hQ182
      have N182 := Fr.app N181 N182q
      refine bk (fun t k => st182.trans k) ?_
      refine bk (fun t k => XS.pop X182.here hx rfl (hb hby at_262) rfl rfl k) ?_
      refine bk (fun t k => XS.aload X182.here hx rfl (hb hby at_263) rfl rfl k) ?_
      show F (T182.setTop (mkF m 265 #[.val (.long q0), .second, .val (.long q1), .second, .val (.long q2), .second, .val (.int p3), .val (.int n7), .val (.long w0), .second, .val (.long w1), .second, .val (.long w2), .second, .val (.ref ar), .val (.long u0), .second, .val (.long u1), .second, .val (.long u2), .second, .val (.int cnt), .val (.int (1 : Int32)), .val (.int (1 : Int32)), .val (.ref b176)] [(.ref b176)]))
      obtain ⟨cq183, kq183, q183a, q183b, q183c⟩ := isOf hZ rfl (gP182.1)
      obtain ⟨_, _, ⟨T183, L183, k183, n183⟩, -, X183, ⟨Lc183, hQ183, l183, y183, z183⟩, st183⟩ := X182.virtualBack hx (y := (⟨"com/example/lone1/lone1/solve/SweepOrder", "hasNext", "()Z"⟩ : MethodName)) (z := (⟨"com/example/lone1/lone1/solve/SweepOrder", "hasNext", "()Z"⟩ : MethodName)) hown (mvT hZ w_21) (mvT hZ w_22) (notFace_of_selects (args := #[]) (mvT hZ w_24)) (mvT hZ w_24) (mvT hZ w_23) (by decide) (backOf (W := 0) (rm5N l Z a0 hw [] b176 (own_clr u2) T182.heap n0 gZ182 gP182.2.2.2.1 hc9102_146) hZ w_25 w_10 (by decide) (by decide)) q183a q183c (g := (mkF m 265 #[.val (.long q0), .second, .val (.long q1), .second, .val (.long q2), .second, .val (.int p3), .val (.int n7), .val (.long w0), .second, .val (.long w1), .second, .val (.long w2), .second, .val (.ref ar), .val (.long u0), .second, .val (.long u1), .second, .val (.long u2), .second, .val (.int cnt), .val (.int (1 : Int32)), .val (.int (1 : Int32)), .val (.ref b176)] [(.ref b176)])) rfl (by rw [hml]; rfl) (Steps.refl _) (argsL := []) (rest := []) (lenOf pd0___Z rfl) rfl (by show 2 * 0 + _ ≤ _; exact Nat.le_of_eq rfl) (hb hby at_265) (fun _ _ => ⟨rfl, rfl, (by decide : 2 + 0 ≤ _), (by decide : 6 + 0 ≤ _)⟩)
      dsimp only [Pt.U, Pt.locs, Pt.cells, Pt.slots] at X183 l183 y183 z183 st183 hQ183
      subst l183 y183 z183
      obtain ⟨rfl, N183q, e183⟩ := hQ183
      have N183 := Fr.app N182 N183q
      refine bk (fun t k => st183.trans k) ?_
      refine bk (fun t k => XS.iload X183.here hx rfl (hb hby at_268) rfl k) ?_
      show F (T183.setTop (mkF m 270 #[.val (.long q0), .second, .val (.long q1), .second, .val (.long q2), .second, .val (.int p3), .val (.int n7), .val (.long w0), .second, .val (.long w1), .second, .val (.long w2), .second, .val (.ref ar), .val (.long u0), .second, .val (.long u1), .second, .val (.long u2), .second, .val (.int cnt), .val (.int (1 : Int32)), .val (.int (1 : Int32)), .val (.ref b176)] [(.int (1 : Int32)), (.int (1 : Int32))]))
      refine bk (fun t k => XS.icmpYes X183.here hx rfl (pc0 := 270) (pc' := 275) rfl (hb hby at_270) rfl (teq (by decide : (1 : Int32) = (1 : Int32))).1 (by decide) (by decide) k) ?_
      refine bk (fun t k => XS.aload X183.here hx rfl (hb hby at_275) rfl rfl k) ?_
      show F (T183.setTop (mkF m 277 #[.val (.long q0), .second, .val (.long q1), .second, .val (.long q2), .second, .val (.int p3), .val (.int n7), .val (.long w0), .second, .val (.long w1), .second, .val (.long w2), .second, .val (.ref ar), .val (.long u0), .second, .val (.long u1), .second, .val (.long u2), .second, .val (.int cnt), .val (.int (1 : Int32)), .val (.int (1 : Int32)), .val (.ref b176)] [(.ref b176)]))
      obtain ⟨cq184, kq184, q184a, q184b, q184c⟩ := isOf hZ e183 (gP182.1)
      obtain ⟨_, _, ⟨T184, L184, k184, n184⟩, -, X184, ⟨Lc184, hQ184, l184, y184, z184⟩, st184⟩ := X183.virtualBack hx (y := (⟨"com/example/lone1/lone1/solve/SweepOrder", "hasNext", "()Z"⟩ : MethodName)) (z := (⟨"com/example/lone1/lone1/solve/SweepOrder", "hasNext", "()Z"⟩ : MethodName)) hown (mvT hZ w_21) (mvT hZ w_22) (notFace_of_selects (args := #[]) (mvT hZ w_24)) (mvT hZ w_24) (mvT hZ w_23) (by decide) (backOf (W := 0) (rm5N l Z a0 hw [] b176 (own_clr u2) T182.heap n0 gZ182 gP182.2.2.2.1 hc9102_146) hZ w_25 w_10 (by decide) (by decide)) q184a q184c (g := (mkF m 277 #[.val (.long q0), .second, .val (.long q1), .second, .val (.long q2), .second, .val (.int p3), .val (.int n7), .val (.long w0), .second, .val (.long w1), .second, .val (.long w2), .second, .val (.ref ar), .val (.long u0), .second, .val (.long u1), .second, .val (.long u2), .second, .val (.int cnt), .val (.int (1 : Int32)), .val (.int (1 : Int32)), .val (.ref b176)] [(.ref b176)])) rfl (by rw [hml]; rfl) (Steps.refl _) (argsL := []) (rest := []) (lenOf pd0___Z rfl) rfl (by show 2 * 0 + _ ≤ _; exact Nat.le_of_eq rfl) (hb hby at_277) (fun _ _ => ⟨rfl, e183, (by decide : 2 + 0 ≤ _), (by decide : 6 + 0 ≤ _)⟩)
      dsimp only [Pt.U, Pt.locs, Pt.cells, Pt.slots] at X184 l184 y184 z184 st184 hQ184
      subst l184 y184 z184
      obtain ⟨rfl, N184q, e184⟩ := hQ184
      have N184 := Fr.app N183 N184q
      refine bk (fun t k => st184.trans k) ?_
      refine bk (fun t k => XS.iload X184.here hx rfl (hb hby at_280) rfl k) ?_
      show F (T184.setTop (mkF m 282 #[.val (.long q0), .second, .val (.long q1), .second, .val (.long q2), .second, .val (.int p3), .val (.int n7), .val (.long w0), .second, .val (.long w1), .second, .val (.long w2), .second, .val (.ref ar), .val (.long u0), .second, .val (.long u1), .second, .val (.long u2), .second, .val (.int cnt), .val (.int (1 : Int32)), .val (.int (1 : Int32)), .val (.ref b176)] [(.int (1 : Int32)), (.int (1 : Int32))]))
      refine bk (fun t k => XS.icmpNo X184.here hx rfl (hb hby at_282) rfl (teq (by decide : (1 : Int32) = (1 : Int32))).2 k) ?_
      refine bk (fun t k => XS.iconst X184.here hx rfl (hb hby at_285) k) ?_
      refine bk (fun t k => XS.goto X184.here hx rfl (pc0 := 286) (pc' := 290) rfl (hb hby at_286) (by decide) (by decide) k) ?_
      show F (T184.setTop (mkF m 290 #[.val (.long q0), .second, .val (.long q1), .second, .val (.long q2), .second, .val (.int p3), .val (.int n7), .val (.long w0), .second, .val (.long w1), .second, .val (.long w2), .second, .val (.ref ar), .val (.long u0), .second, .val (.long u1), .second, .val (.long u2), .second, .val (.int cnt), .val (.int (1 : Int32)), .val (.int (1 : Int32)), .val (.ref b176)] [(.int (1 : Int32))]))
      rw [hF]
      refine own_retZ X184 hx Bd.notSynchronized Bd.returns (hb hby at_290) (by decide) (by decide) ?_
      rw [e184]
      exact ⟨rfl, N184⟩
set_option maxRecDepth 65536 in
set_option maxHeartbeats 40000000 in
theorem rm0 (l : Launch) (Z : State) (a0 : Array Value) (hw : ∀ d ∈ tables_1, d.before a0 Z = true) (ws : List Jvm.Cond) (q0 : Int64) (q1 : Int64) (q2 : Int64) (p3 : Int32) (h0 : Heap) (n0 : Nat) (Z0 : n0 ≤ h0.size) :
    MetFree l x (head1 (Jvm.Cond.code x code maxLocals ret :: ws) room_1) (fun a U => a = #[(.long q0), (.long q1), (.long q2), (.int p3)] ∧ Z.Warmed39 U.vm ∧ U.heap = h0) (fun _ _ _ _ _ => True) (fun _ U o U' => ∃ v L, o = .returned v ∧ Q0 Z q0 q1 q2 p3 h0 n0 v U'.heap L ∧ FrameEnd U o U' L room_1.cells room_1.slots) := by
  refine MetFree.of_bodySF (plainFor_of_name pn_0) hisR ?_
  intro p e s m args below meth c s₁ Bd hml0 hP hK
  obtain ⟨rfl, hZ, hh⟩ := hP
  have hx := Bd.exec
  have hby := Bd.bytes
  have hml : c.maxLocals = 25 := hml0
  have hown : s.vm.findClass "com/example/lone1/lone1/solve/SweepOrderHasNextPinLaw" = some m.cls := findClass_of_methodNamed Bd.named
  have hnm := (name_of_methodNamed Bd.named Bd.method).1
  have X0 : Stand p l e room_1 s m #[(.long q0), (.long q1), (.long q2), (.int p3)] below meth c s₁ [] 0 0 := Stand.of_body Bd
  have e0 : s₁.heap = h0 := by rw [← hh, Bd.state]; rfl
  have N0 := Fr.nil n0
  obtain ⟨F, hF⟩ : ∃ F : State → Prop, F = own_Fin p e below s room_1.cells room_1.slots (fun v h L => Q0 Z q0 q1 q2 p3 h0 n0 v h L) := ⟨_, rfl⟩
  have bk : ∀ {A B : State}, (∀ t, Steps p.tables e below B t → Steps p.tables e below A t) → F B → F A := by
    intro A B h k
    rw [hF] at k ⊢
    exact own_back h k
  suffices hgo : F (s₁.setTop (mkF m 0 #[.val (.long q0), .second, .val (.long q1), .second, .val (.long q2), .second, .val (.int p3), .unset, .unset, .unset, .unset, .unset, .unset, .unset, .unset, .unset, .unset, .unset, .unset, .unset, .unset, .unset, .unset, .unset, .unset] [])) by
    have hgo' := bk (fun t k => castTop (T := s₁) (ef_0 m q0 q1 q2 p3) k) hgo
    rw [hF] at hgo'
    exact hgo'
  have w_0 := hw _ (List.mem_of_getElem? (i := 0) rfl)
  have w_1 := hw _ (List.mem_of_getElem? (i := 1) rfl)
  have w_2 := hw _ (List.mem_of_getElem? (i := 2) rfl)
  have w_3 := hw _ (List.mem_of_getElem? (i := 3) rfl)
  have w_4 := hw _ (List.mem_of_getElem? (i := 4) rfl)
  have w_5 := hw _ (List.mem_of_getElem? (i := 5) rfl)
  have w_6 := hw _ (List.mem_of_getElem? (i := 6) rfl)
  have w_7 := hw _ (List.mem_of_getElem? (i := 7) rfl)
  have J213 : ∀ (TJ : State) (LJ : List Loc) (hJ : Heap) (XJ : Stand p l e room_1 s m #[(.long q0), (.long q1), (.long q2), (.int p3)] below meth c TJ LJ 1 3) (eJ : TJ.heap = hJ) (NJ : Fr n0 LJ) (n7 : Int32) (w0 : Int64) (w1 : Int64) (w2 : Int64) (ar : Addr) (u0 : Int64) (u1 : Int64) (u2 : Int64) (kk : ClassId) (z : Int32) (jZ : n0 ≤ hJ.size) (jV : Arv Z hJ ar kk .long z [.long u0, .long u1, .long u2] (.long (0 : Int64))) (hzc : own_zc z u0 u1 u2) (cnt : Int32) (hcnt : cnt = own_cnt u0 u1 u2) (any : Int32) (hany : any = own_anyc cnt) (two : Int32) (htwo : two = own_two cnt u0 u1 u2), F (TJ.setTop (mkF m 213 #[.val (.long q0), .second, .val (.long q1), .second, .val (.long q2), .second, .val (.int p3), .val (.int n7), .val (.long w0), .second, .val (.long w1), .second, .val (.long w2), .second, .val (.ref ar), .val (.long u0), .second, .val (.long u1), .second, .val (.long u2), .second, .val (.int cnt), .val (.int any), .unset, .unset] [(.int two)])) := by
    intro TJ LJ hJ XJ eJ NJ n7 w0 w1 w2 ar u0 u1 u2 kk z jZ jV hzc cnt hcnt any hany two htwo
    rcases hzc with ⟨rfl, hz0, hz1, hz2⟩ | ⟨rfl, hz1, hz2⟩ | ⟨rfl, hz2⟩ | rfl
    · exact own_J213_0 l Z a0 hw ws q0 q1 q2 p3 h0 n0 Z0  Bd hml hZ F hF bk _ _ _ XJ eJ NJ _ _ _ _ _ _ _ _ _ jZ jV hz0 hz1 hz2 _ hcnt _ hany _ htwo
    · exact own_J213_1 l Z a0 hw ws q0 q1 q2 p3 h0 n0 Z0  Bd hml hZ F hF bk _ _ _ XJ eJ NJ _ _ _ _ _ _ _ _ _ jZ jV hz1 hz2 _ hcnt _ hany _ htwo
    · exact own_J213_2 l Z a0 hw ws q0 q1 q2 p3 h0 n0 Z0  Bd hml hZ F hF bk _ _ _ XJ eJ NJ _ _ _ _ _ _ _ _ _ jZ jV hz2 _ hcnt _ hany _ htwo
    · exact own_J213_3 l Z a0 hw ws q0 q1 q2 p3 h0 n0 Z0  Bd hml hZ F hF bk _ _ _ XJ eJ NJ _ _ _ _ _ _ _ _ _ jZ jV  _ hcnt _ hany _ htwo
  have J176 : ∀ (TJ : State) (LJ : List Loc) (hJ : Heap) (XJ : Stand p l e room_1 s m #[(.long q0), (.long q1), (.long q2), (.int p3)] below meth c TJ LJ 1 3) (eJ : TJ.heap = hJ) (NJ : Fr n0 LJ) (n7 : Int32) (w0 : Int64) (w1 : Int64) (w2 : Int64) (ar : Addr) (u0 : Int64) (u1 : Int64) (u2 : Int64) (kk : ClassId) (z : Int32) (jZ : n0 ≤ hJ.size) (jV : Arv Z hJ ar kk .long z [.long u0, .long u1, .long u2] (.long (0 : Int64))) (hzc : own_zc z u0 u1 u2) (cnt : Int32) (hcnt : cnt = own_cnt u0 u1 u2) (any : Int32) (hany : any = own_anyc cnt), F (TJ.setTop (mkF m 176 #[.val (.long q0), .second, .val (.long q1), .second, .val (.long q2), .second, .val (.int p3), .val (.int n7), .val (.long w0), .second, .val (.long w1), .second, .val (.long w2), .second, .val (.ref ar), .val (.long u0), .second, .val (.long u1), .second, .val (.long u2), .second, .val (.int cnt), .unset, .unset, .unset] [(.int any)])) := by
    intro TJ LJ hJ XJ eJ NJ n7 w0 w1 w2 ar u0 u1 u2 kk z jZ jV hzc cnt hcnt any hany
    show F (TJ.setTop (mkF m 176 #[.val (.long q0), .second, .val (.long q1), .second, .val (.long q2), .second, .val (.int p3), .val (.int n7), .val (.long w0), .second, .val (.long w1), .second, .val (.long w2), .second, .val (.ref ar), .val (.long u0), .second, .val (.long u1), .second, .val (.long u2), .second, .val (.int cnt), .unset, .unset, .unset] [(.int any)]))
    refine bk (fun t k => XS.istore XJ.here hx rfl (hb hby at_176) rfl (l' := #[.val (.long q0), .second, .val (.long q1), .second, .val (.long q2), .second, .val (.int p3), .val (.int n7), .val (.long w0), .second, .val (.long w1), .second, .val (.long w2), .second, .val (.ref ar), .val (.long u0), .second, .val (.long u1), .second, .val (.long u2), .second, .val (.int cnt), .val (.int any), .unset, .unset]) rfl k) ?_
    refine bk (fun t k => XS.lload XJ.here hx rfl (hb hby at_178) rfl k) ?_
    show F (TJ.setTop (mkF m 180 #[.val (.long q0), .second, .val (.long q1), .second, .val (.long q2), .second, .val (.int p3), .val (.int n7), .val (.long w0), .second, .val (.long w1), .second, .val (.long w2), .second, .val (.ref ar), .val (.long u0), .second, .val (.long u1), .second, .val (.long u2), .second, .val (.int cnt), .val (.int any), .unset, .unset] [(.long u0)]))
    obtain ⟨_, _, ⟨T185, L185, k185, n185⟩, -, X185, ⟨Lc185, hQ185, l185, y185, z185⟩, st185⟩ := Jvm.LawKit.callS XJ hx (y := (⟨"com/example/lone1/lone1/solve/SweepOrderHasNextPinLaw", "multiBit", "(J)Z"⟩ : MethodName)) hown (mvT hZ w_5) (mvT hZ w_6) (mvT hZ w_2) (mvT hZ w_7) (by decide) (backOf (W := 0) (rm2 l Z a0 hw [] u0 hJ n0 jZ) hZ w_7 w_2 (by decide) (by decide)) (g := (mkF m 180 #[.val (.long q0), .second, .val (.long q1), .second, .val (.long q2), .second, .val (.int p3), .val (.int n7), .val (.long w0), .second, .val (.long w1), .second, .val (.long w2), .second, .val (.ref ar), .val (.long u0), .second, .val (.long u1), .second, .val (.long u2), .second, .val (.int cnt), .val (.int any), .unset, .unset] [(.long u0)])) rfl (by rw [hml]; rfl) (argsL := [(.long u0)]) (rest := []) (lenOf pd0__J_Z rfl) rfl (by show 2 * 0 + _ ≤ _; exact Nat.le_of_eq rfl) (hb hby at_180) (fun _ _ => ⟨rfl, eJ, (by decide : 1 + 0 ≤ _), (by decide : 3 + 0 ≤ _)⟩)
    dsimp only [Pt.U, Pt.locs, Pt.cells, Pt.slots] at X185 l185 y185 z185 st185 hQ185
    subst l185 y185 z185
    obtain ⟨rfl, N185q, e185⟩ := hQ185
    have N185 := Fr.app NJ N185q
    refine bk (fun t k => st185 t k) ?_
    show F (T185.setTop (mkF m 183 #[.val (.long q0), .second, .val (.long q1), .second, .val (.long q2), .second, .val (.int p3), .val (.int n7), .val (.long w0), .second, .val (.long w1), .second, .val (.long w2), .second, .val (.ref ar), .val (.long u0), .second, .val (.long u1), .second, .val (.long u2), .second, .val (.int cnt), .val (.int any), .unset, .unset] [(.int (own_mb u0))]))
    by_cases hc183_186 : (own_mb u0) = (0 : Int32)
    · refine bk (fun t k => XS.ifNo X185.here hx rfl (hb hby at_183) rfl ((if0 _ _).trans (teq hc183_186).2) k) ?_
      refine bk (fun t k => XS.lload X185.here hx rfl (hb hby at_186) rfl k) ?_
      show F (T185.setTop (mkF m 188 #[.val (.long q0), .second, .val (.long q1), .second, .val (.long q2), .second, .val (.int p3), .val (.int n7), .val (.long w0), .second, .val (.long w1), .second, .val (.long w2), .second, .val (.ref ar), .val (.long u0), .second, .val (.long u1), .second, .val (.long u2), .second, .val (.int cnt), .val (.int any), .unset, .unset] [(.long u1)]))
      obtain ⟨_, _, ⟨T187, L187, k187, n187⟩, -, X187, ⟨Lc187, hQ187, l187, y187, z187⟩, st187⟩ := Jvm.LawKit.callS X185 hx (y := (⟨"com/example/lone1/lone1/solve/SweepOrderHasNextPinLaw", "multiBit", "(J)Z"⟩ : MethodName)) hown (mvT hZ w_5) (mvT hZ w_6) (mvT hZ w_2) (mvT hZ w_7) (by decide) (backOf (W := 0) (rm2 l Z a0 hw [] u1 hJ n0 jZ) hZ w_7 w_2 (by decide) (by decide)) (g := (mkF m 188 #[.val (.long q0), .second, .val (.long q1), .second, .val (.long q2), .second, .val (.int p3), .val (.int n7), .val (.long w0), .second, .val (.long w1), .second, .val (.long w2), .second, .val (.ref ar), .val (.long u0), .second, .val (.long u1), .second, .val (.long u2), .second, .val (.int cnt), .val (.int any), .unset, .unset] [(.long u1)])) rfl (by rw [hml]; rfl) (argsL := [(.long u1)]) (rest := []) (lenOf pd0__J_Z rfl) rfl (by show 2 * 0 + _ ≤ _; exact Nat.le_of_eq rfl) (hb hby at_188) (fun _ _ => ⟨rfl, e185, (by decide : 1 + 0 ≤ _), (by decide : 3 + 0 ≤ _)⟩)
      dsimp only [Pt.U, Pt.locs, Pt.cells, Pt.slots] at X187 l187 y187 z187 st187 hQ187
      subst l187 y187 z187
      obtain ⟨rfl, N187q, e187⟩ := hQ187
      have N187 := Fr.app N185 N187q
      refine bk (fun t k => st187 t k) ?_
      show F (T187.setTop (mkF m 191 #[.val (.long q0), .second, .val (.long q1), .second, .val (.long q2), .second, .val (.int p3), .val (.int n7), .val (.long w0), .second, .val (.long w1), .second, .val (.long w2), .second, .val (.ref ar), .val (.long u0), .second, .val (.long u1), .second, .val (.long u2), .second, .val (.int cnt), .val (.int any), .unset, .unset] [(.int (own_mb u1))]))
      by_cases hc191_188 : (own_mb u1) = (0 : Int32)
      · refine bk (fun t k => XS.ifNo X187.here hx rfl (hb hby at_191) rfl ((if0 _ _).trans (teq hc191_188).2) k) ?_
        refine bk (fun t k => XS.lload X187.here hx rfl (hb hby at_194) rfl k) ?_
        show F (T187.setTop (mkF m 196 #[.val (.long q0), .second, .val (.long q1), .second, .val (.long q2), .second, .val (.int p3), .val (.int n7), .val (.long w0), .second, .val (.long w1), .second, .val (.long w2), .second, .val (.ref ar), .val (.long u0), .second, .val (.long u1), .second, .val (.long u2), .second, .val (.int cnt), .val (.int any), .unset, .unset] [(.long u2)]))
        obtain ⟨_, _, ⟨T189, L189, k189, n189⟩, -, X189, ⟨Lc189, hQ189, l189, y189, z189⟩, st189⟩ := Jvm.LawKit.callS X187 hx (y := (⟨"com/example/lone1/lone1/solve/SweepOrderHasNextPinLaw", "multiBit", "(J)Z"⟩ : MethodName)) hown (mvT hZ w_5) (mvT hZ w_6) (mvT hZ w_2) (mvT hZ w_7) (by decide) (backOf (W := 0) (rm2 l Z a0 hw [] u2 hJ n0 jZ) hZ w_7 w_2 (by decide) (by decide)) (g := (mkF m 196 #[.val (.long q0), .second, .val (.long q1), .second, .val (.long q2), .second, .val (.int p3), .val (.int n7), .val (.long w0), .second, .val (.long w1), .second, .val (.long w2), .second, .val (.ref ar), .val (.long u0), .second, .val (.long u1), .second, .val (.long u2), .second, .val (.int cnt), .val (.int any), .unset, .unset] [(.long u2)])) rfl (by rw [hml]; rfl) (argsL := [(.long u2)]) (rest := []) (lenOf pd0__J_Z rfl) rfl (by show 2 * 0 + _ ≤ _; exact Nat.le_of_eq rfl) (hb hby at_196) (fun _ _ => ⟨rfl, e187, (by decide : 1 + 0 ≤ _), (by decide : 3 + 0 ≤ _)⟩)
        dsimp only [Pt.U, Pt.locs, Pt.cells, Pt.slots] at X189 l189 y189 z189 st189 hQ189
        subst l189 y189 z189
        obtain ⟨rfl, N189q, e189⟩ := hQ189
        have N189 := Fr.app N187 N189q
        refine bk (fun t k => st189 t k) ?_
        show F (T189.setTop (mkF m 199 #[.val (.long q0), .second, .val (.long q1), .second, .val (.long q2), .second, .val (.int p3), .val (.int n7), .val (.long w0), .second, .val (.long w1), .second, .val (.long w2), .second, .val (.ref ar), .val (.long u0), .second, .val (.long u1), .second, .val (.long u2), .second, .val (.int cnt), .val (.int any), .unset, .unset] [(.int (own_mb u2))]))
        by_cases hc199_190 : (own_mb u2) = (0 : Int32)
        · refine bk (fun t k => XS.ifNo X189.here hx rfl (hb hby at_199) rfl ((if0 _ _).trans (teq hc199_190).2) k) ?_
          refine bk (fun t k => XS.iload X189.here hx rfl (hb hby at_202) rfl k) ?_
          refine bk (fun t k => XS.iconst X189.here hx rfl (hb hby at_204) k) ?_
          show F (T189.setTop (mkF m 205 #[.val (.long q0), .second, .val (.long q1), .second, .val (.long q2), .second, .val (.int p3), .val (.int n7), .val (.long w0), .second, .val (.long w1), .second, .val (.long w2), .second, .val (.ref ar), .val (.long u0), .second, .val (.long u1), .second, .val (.long u2), .second, .val (.int cnt), .val (.int any), .unset, .unset] [(.int (2 : Int32)), (.int cnt)]))
          by_cases hc205_191 : cnt < (2 : Int32)
          · refine bk (fun t k => XS.icmpYes X189.here hx rfl (pc0 := 205) (pc' := 212) rfl (hb hby at_205) rfl (tlt hc205_191).1 (by decide) (by decide) k) ?_
            refine bk (fun t k => XS.iconst X189.here hx rfl (hb hby at_212) k) ?_
            show F (T189.setTop (mkF m 213 #[.val (.long q0), .second, .val (.long q1), .second, .val (.long q2), .second, .val (.int p3), .val (.int n7), .val (.long w0), .second, .val (.long w1), .second, .val (.long w2), .second, .val (.ref ar), .val (.long u0), .second, .val (.long u1), .second, .val (.long u2), .second, .val (.int cnt), .val (.int any), .unset, .unset] [(.int (0 : Int32))]))
            exact J213 _ _ hJ X189 e189 N189 _ _ _ _ _ _ _ _ _ _ jZ jV hzc _ hcnt _ hany _ (by simp [own_two, hc183_186, hc191_188, hc199_190, hc205_191])
          · refine bk (fun t k => XS.icmpNo X189.here hx rfl (hb hby at_205) rfl (flt hc205_191).1 k) ?_
            refine bk (fun t k => XS.iconst X189.here hx rfl (hb hby at_208) k) ?_
            refine bk (fun t k => XS.goto X189.here hx rfl (pc0 := 209) (pc' := 213) rfl (hb hby at_209) (by decide) (by decide) k) ?_
            show F (T189.setTop (mkF m 213 #[.val (.long q0), .second, .val (.long q1), .second, .val (.long q2), .second, .val (.int p3), .val (.int n7), .val (.long w0), .second, .val (.long w1), .second, .val (.long w2), .second, .val (.ref ar), .val (.long u0), .second, .val (.long u1), .second, .val (.long u2), .second, .val (.int cnt), .val (.int any), .unset, .unset] [(.int (1 : Int32))]))
            exact J213 _ _ hJ X189 e189 N189 _ _ _ _ _ _ _ _ _ _ jZ jV hzc _ hcnt _ hany _ (by simp [own_two, hc183_186, hc191_188, hc199_190, hc205_191])
        · refine bk (fun t k => XS.ifYes X189.here hx rfl (pc0 := 199) (pc' := 208) rfl (hb hby at_199) rfl ((if0 _ _).trans (feq hc199_190).2) (by decide) (by decide) k) ?_
          refine bk (fun t k => XS.iconst X189.here hx rfl (hb hby at_208) k) ?_
          refine bk (fun t k => XS.goto X189.here hx rfl (pc0 := 209) (pc' := 213) rfl (hb hby at_209) (by decide) (by decide) k) ?_
          show F (T189.setTop (mkF m 213 #[.val (.long q0), .second, .val (.long q1), .second, .val (.long q2), .second, .val (.int p3), .val (.int n7), .val (.long w0), .second, .val (.long w1), .second, .val (.long w2), .second, .val (.ref ar), .val (.long u0), .second, .val (.long u1), .second, .val (.long u2), .second, .val (.int cnt), .val (.int any), .unset, .unset] [(.int (1 : Int32))]))
          exact J213 _ _ hJ X189 e189 N189 _ _ _ _ _ _ _ _ _ _ jZ jV hzc _ hcnt _ hany _ (by simp [own_two, hc183_186, hc191_188, hc199_190])
      · refine bk (fun t k => XS.ifYes X187.here hx rfl (pc0 := 191) (pc' := 208) rfl (hb hby at_191) rfl ((if0 _ _).trans (feq hc191_188).2) (by decide) (by decide) k) ?_
        refine bk (fun t k => XS.iconst X187.here hx rfl (hb hby at_208) k) ?_
        refine bk (fun t k => XS.goto X187.here hx rfl (pc0 := 209) (pc' := 213) rfl (hb hby at_209) (by decide) (by decide) k) ?_
        show F (T187.setTop (mkF m 213 #[.val (.long q0), .second, .val (.long q1), .second, .val (.long q2), .second, .val (.int p3), .val (.int n7), .val (.long w0), .second, .val (.long w1), .second, .val (.long w2), .second, .val (.ref ar), .val (.long u0), .second, .val (.long u1), .second, .val (.long u2), .second, .val (.int cnt), .val (.int any), .unset, .unset] [(.int (1 : Int32))]))
        exact J213 _ _ hJ X187 e187 N187 _ _ _ _ _ _ _ _ _ _ jZ jV hzc _ hcnt _ hany _ (by simp [own_two, hc183_186, hc191_188])
    · refine bk (fun t k => XS.ifYes X185.here hx rfl (pc0 := 183) (pc' := 208) rfl (hb hby at_183) rfl ((if0 _ _).trans (feq hc183_186).2) (by decide) (by decide) k) ?_
      refine bk (fun t k => XS.iconst X185.here hx rfl (hb hby at_208) k) ?_
      refine bk (fun t k => XS.goto X185.here hx rfl (pc0 := 209) (pc' := 213) rfl (hb hby at_209) (by decide) (by decide) k) ?_
      show F (T185.setTop (mkF m 213 #[.val (.long q0), .second, .val (.long q1), .second, .val (.long q2), .second, .val (.int p3), .val (.int n7), .val (.long w0), .second, .val (.long w1), .second, .val (.long w2), .second, .val (.ref ar), .val (.long u0), .second, .val (.long u1), .second, .val (.long u2), .second, .val (.int cnt), .val (.int any), .unset, .unset] [(.int (1 : Int32))]))
      exact J213 _ _ hJ X185 e185 N185 _ _ _ _ _ _ _ _ _ _ jZ jV hzc _ hcnt _ hany _ (by simp [own_two, hc183_186])
  have J164 : ∀ (TJ : State) (LJ : List Loc) (hJ : Heap) (XJ : Stand p l e room_1 s m #[(.long q0), (.long q1), (.long q2), (.int p3)] below meth c TJ LJ 1 3) (eJ : TJ.heap = hJ) (NJ : Fr n0 LJ) (n7 : Int32) (w0 : Int64) (w1 : Int64) (w2 : Int64) (ar : Addr) (u0 : Int64) (u1 : Int64) (u2 : Int64) (kk : ClassId) (z : Int32) (jZ : n0 ≤ hJ.size) (jV : Arv Z hJ ar kk .long z [.long u0, .long u1, .long u2] (.long (0 : Int64))) (hzc : own_zc z u0 u1 u2) (cnt : Int32) (hcnt : cnt = own_cnt u0 u1 u2), F (TJ.setTop (mkF m 164 #[.val (.long q0), .second, .val (.long q1), .second, .val (.long q2), .second, .val (.int p3), .val (.int n7), .val (.long w0), .second, .val (.long w1), .second, .val (.long w2), .second, .val (.ref ar), .val (.long u0), .second, .val (.long u1), .second, .val (.long u2), .second, .unset, .unset, .unset, .unset] [(.int cnt)])) := by
    intro TJ LJ hJ XJ eJ NJ n7 w0 w1 w2 ar u0 u1 u2 kk z jZ jV hzc cnt hcnt
    show F (TJ.setTop (mkF m 164 #[.val (.long q0), .second, .val (.long q1), .second, .val (.long q2), .second, .val (.int p3), .val (.int n7), .val (.long w0), .second, .val (.long w1), .second, .val (.long w2), .second, .val (.ref ar), .val (.long u0), .second, .val (.long u1), .second, .val (.long u2), .second, .unset, .unset, .unset, .unset] [(.int cnt)]))
    refine bk (fun t k => XS.istore XJ.here hx rfl (hb hby at_164) rfl (l' := #[.val (.long q0), .second, .val (.long q1), .second, .val (.long q2), .second, .val (.int p3), .val (.int n7), .val (.long w0), .second, .val (.long w1), .second, .val (.long w2), .second, .val (.ref ar), .val (.long u0), .second, .val (.long u1), .second, .val (.long u2), .second, .val (.int cnt), .unset, .unset, .unset]) rfl k) ?_
    refine bk (fun t k => XS.iload XJ.here hx rfl (hb hby at_166) rfl k) ?_
    show F (TJ.setTop (mkF m 168 #[.val (.long q0), .second, .val (.long q1), .second, .val (.long q2), .second, .val (.int p3), .val (.int n7), .val (.long w0), .second, .val (.long w1), .second, .val (.long w2), .second, .val (.ref ar), .val (.long u0), .second, .val (.long u1), .second, .val (.long u2), .second, .val (.int cnt), .unset, .unset, .unset] [(.int cnt)]))
    by_cases hc168_192 : (0 : Int32) < cnt
    · refine bk (fun t k => XS.ifNo XJ.here hx rfl (hb hby at_168) rfl ((if0 _ _).trans (tlt hc168_192).2.2.2) k) ?_
      refine bk (fun t k => XS.iconst XJ.here hx rfl (hb hby at_171) k) ?_
      refine bk (fun t k => XS.goto XJ.here hx rfl (pc0 := 172) (pc' := 176) rfl (hb hby at_172) (by decide) (by decide) k) ?_
      show F (TJ.setTop (mkF m 176 #[.val (.long q0), .second, .val (.long q1), .second, .val (.long q2), .second, .val (.int p3), .val (.int n7), .val (.long w0), .second, .val (.long w1), .second, .val (.long w2), .second, .val (.ref ar), .val (.long u0), .second, .val (.long u1), .second, .val (.long u2), .second, .val (.int cnt), .unset, .unset, .unset] [(.int (1 : Int32))]))
      exact J176 _ _ hJ XJ eJ NJ _ _ _ _ _ _ _ _ _ _ jZ jV hzc _ hcnt _ (by simp [own_anyc, hc168_192])
    · refine bk (fun t k => XS.ifYes XJ.here hx rfl (pc0 := 168) (pc' := 175) rfl (hb hby at_168) rfl ((if0 _ _).trans (flt hc168_192).2.2.2) (by decide) (by decide) k) ?_
      refine bk (fun t k => XS.iconst XJ.here hx rfl (hb hby at_175) k) ?_
      show F (TJ.setTop (mkF m 176 #[.val (.long q0), .second, .val (.long q1), .second, .val (.long q2), .second, .val (.int p3), .val (.int n7), .val (.long w0), .second, .val (.long w1), .second, .val (.long w2), .second, .val (.ref ar), .val (.long u0), .second, .val (.long u1), .second, .val (.long u2), .second, .val (.int cnt), .unset, .unset, .unset] [(.int (0 : Int32))]))
      exact J176 _ _ hJ XJ eJ NJ _ _ _ _ _ _ _ _ _ _ jZ jV hzc _ hcnt _ (by simp [own_anyc, hc168_192])
  have J126 : ∀ (TJ : State) (LJ : List Loc) (hJ : Heap) (XJ : Stand p l e room_1 s m #[(.long q0), (.long q1), (.long q2), (.int p3)] below meth c TJ LJ 1 3) (eJ : TJ.heap = hJ) (NJ : Fr n0 LJ) (n7 : Int32) (w0 : Int64) (w1 : Int64) (w2 : Int64) (ar : Addr) (u0 : Int64) (u1 : Int64) (u2 : Int64) (kk : ClassId) (z : Int32) (jZ : n0 ≤ hJ.size) (jV : Arv Z hJ ar kk .long z [.long u0, .long u1, .long u2] (.long (0 : Int64))) (hzc : own_zc z u0 u1 u2), F (TJ.setTop (mkF m 126 #[.val (.long q0), .second, .val (.long q1), .second, .val (.long q2), .second, .val (.int p3), .val (.int n7), .val (.long w0), .second, .val (.long w1), .second, .val (.long w2), .second, .val (.ref ar), .val (.long u0), .second, .val (.long u1), .second, .val (.long u2), .second, .unset, .unset, .unset, .unset] [])) := by
    intro TJ LJ hJ XJ eJ NJ n7 w0 w1 w2 ar u0 u1 u2 kk z jZ jV hzc
    refine bk (fun t k => XS.lload XJ.here hx rfl (hb hby at_126) rfl k) ?_
    refine bk (fun t k => XS.lconst XJ.here hx rfl (hb hby at_128) k) ?_
    show F (TJ.setTop (mkF m 129 #[.val (.long q0), .second, .val (.long q1), .second, .val (.long q2), .second, .val (.int p3), .val (.int n7), .val (.long w0), .second, .val (.long w1), .second, .val (.long w2), .second, .val (.ref ar), .val (.long u0), .second, .val (.long u1), .second, .val (.long u2), .second, .unset, .unset, .unset, .unset] [(.long (0 : Int64)), (.long u0)]))
    refine bk (fun t k => XS.lcmp XJ.here hx rfl (hb hby at_129) rfl k) ?_
    show F (TJ.setTop (mkF m 130 #[.val (.long q0), .second, .val (.long q1), .second, .val (.long q2), .second, .val (.int p3), .val (.int n7), .val (.long w0), .second, .val (.long w1), .second, .val (.long w2), .second, .val (.ref ar), .val (.long u0), .second, .val (.long u1), .second, .val (.long u2), .second, .unset, .unset, .unset, .unset] [(.int (lcmpW u0 (0 : Int64)))]))
    by_cases hc130_193 : u0 = (0 : Int64)
    · refine bk (fun t k => XS.ifYes XJ.here hx rfl (pc0 := 130) (pc' := 137) rfl (hb hby at_130) rfl ((if0 _ _).trans (teq ((lw_eq _ _).mpr hc130_193)).1) (by decide) (by decide) k) ?_
      refine bk (fun t k => XS.iconst XJ.here hx rfl (hb hby at_137) k) ?_
      refine bk (fun t k => XS.lload XJ.here hx rfl (hb hby at_138) rfl k) ?_
      refine bk (fun t k => XS.lconst XJ.here hx rfl (hb hby at_140) k) ?_
      show F (TJ.setTop (mkF m 141 #[.val (.long q0), .second, .val (.long q1), .second, .val (.long q2), .second, .val (.int p3), .val (.int n7), .val (.long w0), .second, .val (.long w1), .second, .val (.long w2), .second, .val (.ref ar), .val (.long u0), .second, .val (.long u1), .second, .val (.long u2), .second, .unset, .unset, .unset, .unset] [(.long (0 : Int64)), (.long u1), (.int (0 : Int32))]))
      refine bk (fun t k => XS.lcmp XJ.here hx rfl (hb hby at_141) rfl k) ?_
      show F (TJ.setTop (mkF m 142 #[.val (.long q0), .second, .val (.long q1), .second, .val (.long q2), .second, .val (.int p3), .val (.int n7), .val (.long w0), .second, .val (.long w1), .second, .val (.long w2), .second, .val (.ref ar), .val (.long u0), .second, .val (.long u1), .second, .val (.long u2), .second, .unset, .unset, .unset, .unset] [(.int (lcmpW u1 (0 : Int64))), (.int (0 : Int32))]))
      by_cases hc142_194 : u1 = (0 : Int64)
      · refine bk (fun t k => XS.ifYes XJ.here hx rfl (pc0 := 142) (pc' := 149) rfl (hb hby at_142) rfl ((if0 _ _).trans (teq ((lw_eq _ _).mpr hc142_194)).1) (by decide) (by decide) k) ?_
        refine bk (fun t k => XS.iconst XJ.here hx rfl (hb hby at_149) k) ?_
        show F (TJ.setTop (mkF m 150 #[.val (.long q0), .second, .val (.long q1), .second, .val (.long q2), .second, .val (.int p3), .val (.int n7), .val (.long w0), .second, .val (.long w1), .second, .val (.long w2), .second, .val (.ref ar), .val (.long u0), .second, .val (.long u1), .second, .val (.long u2), .second, .unset, .unset, .unset, .unset] [(.int (0 : Int32)), (.int (0 : Int32))]))
        refine bk (fun t k => XS.iadd XJ.here hx rfl (hb hby at_150) rfl k) ?_
        refine bk (fun t k => XS.lload XJ.here hx rfl (hb hby at_151) rfl k) ?_
        refine bk (fun t k => XS.lconst XJ.here hx rfl (hb hby at_153) k) ?_
        show F (TJ.setTop (mkF m 154 #[.val (.long q0), .second, .val (.long q1), .second, .val (.long q2), .second, .val (.int p3), .val (.int n7), .val (.long w0), .second, .val (.long w1), .second, .val (.long w2), .second, .val (.ref ar), .val (.long u0), .second, .val (.long u1), .second, .val (.long u2), .second, .unset, .unset, .unset, .unset] [(.long (0 : Int64)), (.long u2), (.int (0 : Int32))]))
        refine bk (fun t k => XS.lcmp XJ.here hx rfl (hb hby at_154) rfl k) ?_
        show F (TJ.setTop (mkF m 155 #[.val (.long q0), .second, .val (.long q1), .second, .val (.long q2), .second, .val (.int p3), .val (.int n7), .val (.long w0), .second, .val (.long w1), .second, .val (.long w2), .second, .val (.ref ar), .val (.long u0), .second, .val (.long u1), .second, .val (.long u2), .second, .unset, .unset, .unset, .unset] [(.int (lcmpW u2 (0 : Int64))), (.int (0 : Int32))]))
        by_cases hc155_195 : u2 = (0 : Int64)
        · refine bk (fun t k => XS.ifYes XJ.here hx rfl (pc0 := 155) (pc' := 162) rfl (hb hby at_155) rfl ((if0 _ _).trans (teq ((lw_eq _ _).mpr hc155_195)).1) (by decide) (by decide) k) ?_
          refine bk (fun t k => XS.iconst XJ.here hx rfl (hb hby at_162) k) ?_
          show F (TJ.setTop (mkF m 163 #[.val (.long q0), .second, .val (.long q1), .second, .val (.long q2), .second, .val (.int p3), .val (.int n7), .val (.long w0), .second, .val (.long w1), .second, .val (.long w2), .second, .val (.ref ar), .val (.long u0), .second, .val (.long u1), .second, .val (.long u2), .second, .unset, .unset, .unset, .unset] [(.int (0 : Int32)), (.int (0 : Int32))]))
          refine bk (fun t k => XS.iadd XJ.here hx rfl (hb hby at_163) rfl k) ?_
          show F (TJ.setTop (mkF m 164 #[.val (.long q0), .second, .val (.long q1), .second, .val (.long q2), .second, .val (.int p3), .val (.int n7), .val (.long w0), .second, .val (.long w1), .second, .val (.long w2), .second, .val (.ref ar), .val (.long u0), .second, .val (.long u1), .second, .val (.long u2), .second, .unset, .unset, .unset, .unset] [(.int (0 : Int32))]))
          exact J164 _ _ hJ XJ eJ NJ _ _ _ _ _ _ _ _ _ _ jZ jV hzc _ (by simp +decide [own_cnt, own_b, hc130_193, hc142_194, hc155_195])
        · refine bk (fun t k => XS.ifNo XJ.here hx rfl (hb hby at_155) rfl ((if0 _ _).trans (feq (fun q => hc155_195 ((lw_eq _ _).mp q))).1) k) ?_
          refine bk (fun t k => XS.iconst XJ.here hx rfl (hb hby at_158) k) ?_
          refine bk (fun t k => XS.goto XJ.here hx rfl (pc0 := 159) (pc' := 163) rfl (hb hby at_159) (by decide) (by decide) k) ?_
          show F (TJ.setTop (mkF m 163 #[.val (.long q0), .second, .val (.long q1), .second, .val (.long q2), .second, .val (.int p3), .val (.int n7), .val (.long w0), .second, .val (.long w1), .second, .val (.long w2), .second, .val (.ref ar), .val (.long u0), .second, .val (.long u1), .second, .val (.long u2), .second, .unset, .unset, .unset, .unset] [(.int (1 : Int32)), (.int (0 : Int32))]))
          refine bk (fun t k => XS.iadd XJ.here hx rfl (hb hby at_163) rfl k) ?_
          show F (TJ.setTop (mkF m 164 #[.val (.long q0), .second, .val (.long q1), .second, .val (.long q2), .second, .val (.int p3), .val (.int n7), .val (.long w0), .second, .val (.long w1), .second, .val (.long w2), .second, .val (.ref ar), .val (.long u0), .second, .val (.long u1), .second, .val (.long u2), .second, .unset, .unset, .unset, .unset] [(.int (1 : Int32))]))
          exact J164 _ _ hJ XJ eJ NJ _ _ _ _ _ _ _ _ _ _ jZ jV hzc _ (by simp +decide [own_cnt, own_b, hc130_193, hc142_194, hc155_195])
      · refine bk (fun t k => XS.ifNo XJ.here hx rfl (hb hby at_142) rfl ((if0 _ _).trans (feq (fun q => hc142_194 ((lw_eq _ _).mp q))).1) k) ?_
        refine bk (fun t k => XS.iconst XJ.here hx rfl (hb hby at_145) k) ?_
        refine bk (fun t k => XS.goto XJ.here hx rfl (pc0 := 146) (pc' := 150) rfl (hb hby at_146) (by decide) (by decide) k) ?_
        show F (TJ.setTop (mkF m 150 #[.val (.long q0), .second, .val (.long q1), .second, .val (.long q2), .second, .val (.int p3), .val (.int n7), .val (.long w0), .second, .val (.long w1), .second, .val (.long w2), .second, .val (.ref ar), .val (.long u0), .second, .val (.long u1), .second, .val (.long u2), .second, .unset, .unset, .unset, .unset] [(.int (1 : Int32)), (.int (0 : Int32))]))
        refine bk (fun t k => XS.iadd XJ.here hx rfl (hb hby at_150) rfl k) ?_
        refine bk (fun t k => XS.lload XJ.here hx rfl (hb hby at_151) rfl k) ?_
        refine bk (fun t k => XS.lconst XJ.here hx rfl (hb hby at_153) k) ?_
        show F (TJ.setTop (mkF m 154 #[.val (.long q0), .second, .val (.long q1), .second, .val (.long q2), .second, .val (.int p3), .val (.int n7), .val (.long w0), .second, .val (.long w1), .second, .val (.long w2), .second, .val (.ref ar), .val (.long u0), .second, .val (.long u1), .second, .val (.long u2), .second, .unset, .unset, .unset, .unset] [(.long (0 : Int64)), (.long u2), (.int (1 : Int32))]))
        refine bk (fun t k => XS.lcmp XJ.here hx rfl (hb hby at_154) rfl k) ?_
        show F (TJ.setTop (mkF m 155 #[.val (.long q0), .second, .val (.long q1), .second, .val (.long q2), .second, .val (.int p3), .val (.int n7), .val (.long w0), .second, .val (.long w1), .second, .val (.long w2), .second, .val (.ref ar), .val (.long u0), .second, .val (.long u1), .second, .val (.long u2), .second, .unset, .unset, .unset, .unset] [(.int (lcmpW u2 (0 : Int64))), (.int (1 : Int32))]))
        by_cases hc155_196 : u2 = (0 : Int64)
        · refine bk (fun t k => XS.ifYes XJ.here hx rfl (pc0 := 155) (pc' := 162) rfl (hb hby at_155) rfl ((if0 _ _).trans (teq ((lw_eq _ _).mpr hc155_196)).1) (by decide) (by decide) k) ?_
          refine bk (fun t k => XS.iconst XJ.here hx rfl (hb hby at_162) k) ?_
          show F (TJ.setTop (mkF m 163 #[.val (.long q0), .second, .val (.long q1), .second, .val (.long q2), .second, .val (.int p3), .val (.int n7), .val (.long w0), .second, .val (.long w1), .second, .val (.long w2), .second, .val (.ref ar), .val (.long u0), .second, .val (.long u1), .second, .val (.long u2), .second, .unset, .unset, .unset, .unset] [(.int (0 : Int32)), (.int (1 : Int32))]))
          refine bk (fun t k => XS.iadd XJ.here hx rfl (hb hby at_163) rfl k) ?_
          show F (TJ.setTop (mkF m 164 #[.val (.long q0), .second, .val (.long q1), .second, .val (.long q2), .second, .val (.int p3), .val (.int n7), .val (.long w0), .second, .val (.long w1), .second, .val (.long w2), .second, .val (.ref ar), .val (.long u0), .second, .val (.long u1), .second, .val (.long u2), .second, .unset, .unset, .unset, .unset] [(.int (1 : Int32))]))
          exact J164 _ _ hJ XJ eJ NJ _ _ _ _ _ _ _ _ _ _ jZ jV hzc _ (by simp +decide [own_cnt, own_b, hc130_193, hc142_194, hc155_196])
        · refine bk (fun t k => XS.ifNo XJ.here hx rfl (hb hby at_155) rfl ((if0 _ _).trans (feq (fun q => hc155_196 ((lw_eq _ _).mp q))).1) k) ?_
          refine bk (fun t k => XS.iconst XJ.here hx rfl (hb hby at_158) k) ?_
          refine bk (fun t k => XS.goto XJ.here hx rfl (pc0 := 159) (pc' := 163) rfl (hb hby at_159) (by decide) (by decide) k) ?_
          show F (TJ.setTop (mkF m 163 #[.val (.long q0), .second, .val (.long q1), .second, .val (.long q2), .second, .val (.int p3), .val (.int n7), .val (.long w0), .second, .val (.long w1), .second, .val (.long w2), .second, .val (.ref ar), .val (.long u0), .second, .val (.long u1), .second, .val (.long u2), .second, .unset, .unset, .unset, .unset] [(.int (1 : Int32)), (.int (1 : Int32))]))
          refine bk (fun t k => XS.iadd XJ.here hx rfl (hb hby at_163) rfl k) ?_
          show F (TJ.setTop (mkF m 164 #[.val (.long q0), .second, .val (.long q1), .second, .val (.long q2), .second, .val (.int p3), .val (.int n7), .val (.long w0), .second, .val (.long w1), .second, .val (.long w2), .second, .val (.ref ar), .val (.long u0), .second, .val (.long u1), .second, .val (.long u2), .second, .unset, .unset, .unset, .unset] [(.int (2 : Int32))]))
          exact J164 _ _ hJ XJ eJ NJ _ _ _ _ _ _ _ _ _ _ jZ jV hzc _ (by simp +decide [own_cnt, own_b, hc130_193, hc142_194, hc155_196])
    · refine bk (fun t k => XS.ifNo XJ.here hx rfl (hb hby at_130) rfl ((if0 _ _).trans (feq (fun q => hc130_193 ((lw_eq _ _).mp q))).1) k) ?_
      refine bk (fun t k => XS.iconst XJ.here hx rfl (hb hby at_133) k) ?_
      refine bk (fun t k => XS.goto XJ.here hx rfl (pc0 := 134) (pc' := 138) rfl (hb hby at_134) (by decide) (by decide) k) ?_
      refine bk (fun t k => XS.lload XJ.here hx rfl (hb hby at_138) rfl k) ?_
      refine bk (fun t k => XS.lconst XJ.here hx rfl (hb hby at_140) k) ?_
      show F (TJ.setTop (mkF m 141 #[.val (.long q0), .second, .val (.long q1), .second, .val (.long q2), .second, .val (.int p3), .val (.int n7), .val (.long w0), .second, .val (.long w1), .second, .val (.long w2), .second, .val (.ref ar), .val (.long u0), .second, .val (.long u1), .second, .val (.long u2), .second, .unset, .unset, .unset, .unset] [(.long (0 : Int64)), (.long u1), (.int (1 : Int32))]))
      refine bk (fun t k => XS.lcmp XJ.here hx rfl (hb hby at_141) rfl k) ?_
      show F (TJ.setTop (mkF m 142 #[.val (.long q0), .second, .val (.long q1), .second, .val (.long q2), .second, .val (.int p3), .val (.int n7), .val (.long w0), .second, .val (.long w1), .second, .val (.long w2), .second, .val (.ref ar), .val (.long u0), .second, .val (.long u1), .second, .val (.long u2), .second, .unset, .unset, .unset, .unset] [(.int (lcmpW u1 (0 : Int64))), (.int (1 : Int32))]))
      by_cases hc142_197 : u1 = (0 : Int64)
      · refine bk (fun t k => XS.ifYes XJ.here hx rfl (pc0 := 142) (pc' := 149) rfl (hb hby at_142) rfl ((if0 _ _).trans (teq ((lw_eq _ _).mpr hc142_197)).1) (by decide) (by decide) k) ?_
        refine bk (fun t k => XS.iconst XJ.here hx rfl (hb hby at_149) k) ?_
        show F (TJ.setTop (mkF m 150 #[.val (.long q0), .second, .val (.long q1), .second, .val (.long q2), .second, .val (.int p3), .val (.int n7), .val (.long w0), .second, .val (.long w1), .second, .val (.long w2), .second, .val (.ref ar), .val (.long u0), .second, .val (.long u1), .second, .val (.long u2), .second, .unset, .unset, .unset, .unset] [(.int (0 : Int32)), (.int (1 : Int32))]))
        refine bk (fun t k => XS.iadd XJ.here hx rfl (hb hby at_150) rfl k) ?_
        refine bk (fun t k => XS.lload XJ.here hx rfl (hb hby at_151) rfl k) ?_
        refine bk (fun t k => XS.lconst XJ.here hx rfl (hb hby at_153) k) ?_
        show F (TJ.setTop (mkF m 154 #[.val (.long q0), .second, .val (.long q1), .second, .val (.long q2), .second, .val (.int p3), .val (.int n7), .val (.long w0), .second, .val (.long w1), .second, .val (.long w2), .second, .val (.ref ar), .val (.long u0), .second, .val (.long u1), .second, .val (.long u2), .second, .unset, .unset, .unset, .unset] [(.long (0 : Int64)), (.long u2), (.int (1 : Int32))]))
        refine bk (fun t k => XS.lcmp XJ.here hx rfl (hb hby at_154) rfl k) ?_
        show F (TJ.setTop (mkF m 155 #[.val (.long q0), .second, .val (.long q1), .second, .val (.long q2), .second, .val (.int p3), .val (.int n7), .val (.long w0), .second, .val (.long w1), .second, .val (.long w2), .second, .val (.ref ar), .val (.long u0), .second, .val (.long u1), .second, .val (.long u2), .second, .unset, .unset, .unset, .unset] [(.int (lcmpW u2 (0 : Int64))), (.int (1 : Int32))]))
        by_cases hc155_198 : u2 = (0 : Int64)
        · refine bk (fun t k => XS.ifYes XJ.here hx rfl (pc0 := 155) (pc' := 162) rfl (hb hby at_155) rfl ((if0 _ _).trans (teq ((lw_eq _ _).mpr hc155_198)).1) (by decide) (by decide) k) ?_
          refine bk (fun t k => XS.iconst XJ.here hx rfl (hb hby at_162) k) ?_
          show F (TJ.setTop (mkF m 163 #[.val (.long q0), .second, .val (.long q1), .second, .val (.long q2), .second, .val (.int p3), .val (.int n7), .val (.long w0), .second, .val (.long w1), .second, .val (.long w2), .second, .val (.ref ar), .val (.long u0), .second, .val (.long u1), .second, .val (.long u2), .second, .unset, .unset, .unset, .unset] [(.int (0 : Int32)), (.int (1 : Int32))]))
          refine bk (fun t k => XS.iadd XJ.here hx rfl (hb hby at_163) rfl k) ?_
          show F (TJ.setTop (mkF m 164 #[.val (.long q0), .second, .val (.long q1), .second, .val (.long q2), .second, .val (.int p3), .val (.int n7), .val (.long w0), .second, .val (.long w1), .second, .val (.long w2), .second, .val (.ref ar), .val (.long u0), .second, .val (.long u1), .second, .val (.long u2), .second, .unset, .unset, .unset, .unset] [(.int (1 : Int32))]))
          exact J164 _ _ hJ XJ eJ NJ _ _ _ _ _ _ _ _ _ _ jZ jV hzc _ (by simp +decide [own_cnt, own_b, hc130_193, hc142_197, hc155_198])
        · refine bk (fun t k => XS.ifNo XJ.here hx rfl (hb hby at_155) rfl ((if0 _ _).trans (feq (fun q => hc155_198 ((lw_eq _ _).mp q))).1) k) ?_
          refine bk (fun t k => XS.iconst XJ.here hx rfl (hb hby at_158) k) ?_
          refine bk (fun t k => XS.goto XJ.here hx rfl (pc0 := 159) (pc' := 163) rfl (hb hby at_159) (by decide) (by decide) k) ?_
          show F (TJ.setTop (mkF m 163 #[.val (.long q0), .second, .val (.long q1), .second, .val (.long q2), .second, .val (.int p3), .val (.int n7), .val (.long w0), .second, .val (.long w1), .second, .val (.long w2), .second, .val (.ref ar), .val (.long u0), .second, .val (.long u1), .second, .val (.long u2), .second, .unset, .unset, .unset, .unset] [(.int (1 : Int32)), (.int (1 : Int32))]))
          refine bk (fun t k => XS.iadd XJ.here hx rfl (hb hby at_163) rfl k) ?_
          show F (TJ.setTop (mkF m 164 #[.val (.long q0), .second, .val (.long q1), .second, .val (.long q2), .second, .val (.int p3), .val (.int n7), .val (.long w0), .second, .val (.long w1), .second, .val (.long w2), .second, .val (.ref ar), .val (.long u0), .second, .val (.long u1), .second, .val (.long u2), .second, .unset, .unset, .unset, .unset] [(.int (2 : Int32))]))
          exact J164 _ _ hJ XJ eJ NJ _ _ _ _ _ _ _ _ _ _ jZ jV hzc _ (by simp +decide [own_cnt, own_b, hc130_193, hc142_197, hc155_198])
      · refine bk (fun t k => XS.ifNo XJ.here hx rfl (hb hby at_142) rfl ((if0 _ _).trans (feq (fun q => hc142_197 ((lw_eq _ _).mp q))).1) k) ?_
        refine bk (fun t k => XS.iconst XJ.here hx rfl (hb hby at_145) k) ?_
        refine bk (fun t k => XS.goto XJ.here hx rfl (pc0 := 146) (pc' := 150) rfl (hb hby at_146) (by decide) (by decide) k) ?_
        show F (TJ.setTop (mkF m 150 #[.val (.long q0), .second, .val (.long q1), .second, .val (.long q2), .second, .val (.int p3), .val (.int n7), .val (.long w0), .second, .val (.long w1), .second, .val (.long w2), .second, .val (.ref ar), .val (.long u0), .second, .val (.long u1), .second, .val (.long u2), .second, .unset, .unset, .unset, .unset] [(.int (1 : Int32)), (.int (1 : Int32))]))
        refine bk (fun t k => XS.iadd XJ.here hx rfl (hb hby at_150) rfl k) ?_
        refine bk (fun t k => XS.lload XJ.here hx rfl (hb hby at_151) rfl k) ?_
        refine bk (fun t k => XS.lconst XJ.here hx rfl (hb hby at_153) k) ?_
        show F (TJ.setTop (mkF m 154 #[.val (.long q0), .second, .val (.long q1), .second, .val (.long q2), .second, .val (.int p3), .val (.int n7), .val (.long w0), .second, .val (.long w1), .second, .val (.long w2), .second, .val (.ref ar), .val (.long u0), .second, .val (.long u1), .second, .val (.long u2), .second, .unset, .unset, .unset, .unset] [(.long (0 : Int64)), (.long u2), (.int (2 : Int32))]))
        refine bk (fun t k => XS.lcmp XJ.here hx rfl (hb hby at_154) rfl k) ?_
        show F (TJ.setTop (mkF m 155 #[.val (.long q0), .second, .val (.long q1), .second, .val (.long q2), .second, .val (.int p3), .val (.int n7), .val (.long w0), .second, .val (.long w1), .second, .val (.long w2), .second, .val (.ref ar), .val (.long u0), .second, .val (.long u1), .second, .val (.long u2), .second, .unset, .unset, .unset, .unset] [(.int (lcmpW u2 (0 : Int64))), (.int (2 : Int32))]))
        by_cases hc155_199 : u2 = (0 : Int64)
        · refine bk (fun t k => XS.ifYes XJ.here hx rfl (pc0 := 155) (pc' := 162) rfl (hb hby at_155) rfl ((if0 _ _).trans (teq ((lw_eq _ _).mpr hc155_199)).1) (by decide) (by decide) k) ?_
          refine bk (fun t k => XS.iconst XJ.here hx rfl (hb hby at_162) k) ?_
          show F (TJ.setTop (mkF m 163 #[.val (.long q0), .second, .val (.long q1), .second, .val (.long q2), .second, .val (.int p3), .val (.int n7), .val (.long w0), .second, .val (.long w1), .second, .val (.long w2), .second, .val (.ref ar), .val (.long u0), .second, .val (.long u1), .second, .val (.long u2), .second, .unset, .unset, .unset, .unset] [(.int (0 : Int32)), (.int (2 : Int32))]))
          refine bk (fun t k => XS.iadd XJ.here hx rfl (hb hby at_163) rfl k) ?_
          show F (TJ.setTop (mkF m 164 #[.val (.long q0), .second, .val (.long q1), .second, .val (.long q2), .second, .val (.int p3), .val (.int n7), .val (.long w0), .second, .val (.long w1), .second, .val (.long w2), .second, .val (.ref ar), .val (.long u0), .second, .val (.long u1), .second, .val (.long u2), .second, .unset, .unset, .unset, .unset] [(.int (2 : Int32))]))
          exact J164 _ _ hJ XJ eJ NJ _ _ _ _ _ _ _ _ _ _ jZ jV hzc _ (by simp +decide [own_cnt, own_b, hc130_193, hc142_197, hc155_199])
        · refine bk (fun t k => XS.ifNo XJ.here hx rfl (hb hby at_155) rfl ((if0 _ _).trans (feq (fun q => hc155_199 ((lw_eq _ _).mp q))).1) k) ?_
          refine bk (fun t k => XS.iconst XJ.here hx rfl (hb hby at_158) k) ?_
          refine bk (fun t k => XS.goto XJ.here hx rfl (pc0 := 159) (pc' := 163) rfl (hb hby at_159) (by decide) (by decide) k) ?_
          show F (TJ.setTop (mkF m 163 #[.val (.long q0), .second, .val (.long q1), .second, .val (.long q2), .second, .val (.int p3), .val (.int n7), .val (.long w0), .second, .val (.long w1), .second, .val (.long w2), .second, .val (.ref ar), .val (.long u0), .second, .val (.long u1), .second, .val (.long u2), .second, .unset, .unset, .unset, .unset] [(.int (1 : Int32)), (.int (2 : Int32))]))
          refine bk (fun t k => XS.iadd XJ.here hx rfl (hb hby at_163) rfl k) ?_
          show F (TJ.setTop (mkF m 164 #[.val (.long q0), .second, .val (.long q1), .second, .val (.long q2), .second, .val (.int p3), .val (.int n7), .val (.long w0), .second, .val (.long w1), .second, .val (.long w2), .second, .val (.ref ar), .val (.long u0), .second, .val (.long u1), .second, .val (.long u2), .second, .unset, .unset, .unset, .unset] [(.int (3 : Int32))]))
          exact J164 _ _ hJ XJ eJ NJ _ _ _ _ _ _ _ _ _ _ jZ jV hzc _ (by simp +decide [own_cnt, own_b, hc130_193, hc142_197, hc155_199])
  by_cases hc9300_200 : (p3 &&& (3 : Int32)) = (0 : Int32)
  · refine bk (fun t k => XS.iload X0.here hx rfl (hb hby at_0) rfl k) ?_
    refine bk (fun t k => XS.iconst X0.here hx rfl (hb hby at_2) k) ?_
    show F (s₁.setTop (mkF m 3 #[.val (.long q0), .second, .val (.long q1), .second, .val (.long q2), .second, .val (.int p3), .unset, .unset, .unset, .unset, .unset, .unset, .unset, .unset, .unset, .unset, .unset, .unset, .unset, .unset, .unset, .unset, .unset, .unset] [(.int (3 : Int32)), (.int p3)]))
    refine bk (fun t k => XS.iand X0.here hx rfl (hb hby at_3) rfl k) ?_
    show F (s₁.setTop (mkF m 4 #[.val (.long q0), .second, .val (.long q1), .second, .val (.long q2), .second, .val (.int p3), .unset, .unset, .unset, .unset, .unset, .unset, .unset, .unset, .unset, .unset, .unset, .unset, .unset, .unset, .unset, .unset, .unset, .unset] [(.int (p3 &&& (3 : Int32)))]))
    refine bk (fun t k => XS.istore X0.here hx rfl (hb hby at_4) rfl (l' := #[.val (.long q0), .second, .val (.long q1), .second, .val (.long q2), .second, .val (.int p3), .val (.int (p3 &&& (3 : Int32))), .unset, .unset, .unset, .unset, .unset, .unset, .unset, .unset, .unset, .unset, .unset, .unset, .unset, .unset, .unset, .unset, .unset]) rfl k) ?_
    refine bk (fun t k => XS.iload X0.here hx rfl (hb hby at_6) rfl k) ?_
    refine bk (fun t k => XS.iconst X0.here hx rfl (hb hby at_8) k) ?_
    show F (s₁.setTop (mkF m 9 #[.val (.long q0), .second, .val (.long q1), .second, .val (.long q2), .second, .val (.int p3), .val (.int (p3 &&& (3 : Int32))), .unset, .unset, .unset, .unset, .unset, .unset, .unset, .unset, .unset, .unset, .unset, .unset, .unset, .unset, .unset, .unset, .unset] [(.int (2 : Int32)), (.int p3)]))
    refine bk (fun t k => XS.iushr X0.here hx rfl (hb hby at_9) rfl k) ?_
    refine bk (fun t k => XS.iconst X0.here hx rfl (hb hby at_10) k) ?_
    show F (s₁.setTop (mkF m 11 #[.val (.long q0), .second, .val (.long q1), .second, .val (.long q2), .second, .val (.int p3), .val (.int (p3 &&& (3 : Int32))), .unset, .unset, .unset, .unset, .unset, .unset, .unset, .unset, .unset, .unset, .unset, .unset, .unset, .unset, .unset, .unset, .unset] [(.int (3 : Int32)), (.int ((p3.toUInt32 >>> ((2 : Int32) &&& 31).toUInt32).toInt32))]))
    refine bk (fun t k => XS.iand X0.here hx rfl (hb hby at_11) rfl k) ?_
    refine bk (fun t k => XS.lloadN X0.here hx rfl (hb hby at_12) rfl k) ?_
    show F (s₁.setTop (mkF m 13 #[.val (.long q0), .second, .val (.long q1), .second, .val (.long q2), .second, .val (.int p3), .val (.int (p3 &&& (3 : Int32))), .unset, .unset, .unset, .unset, .unset, .unset, .unset, .unset, .unset, .unset, .unset, .unset, .unset, .unset, .unset, .unset, .unset] [(.long q0), (.int (((p3.toUInt32 >>> ((2 : Int32) &&& 31).toUInt32).toInt32) &&& (3 : Int32)))]))
    obtain ⟨_, _, ⟨T201, L201, k201, n201⟩, -, X201, ⟨Lc201, hQ201, l201, y201, z201⟩, st201⟩ := Jvm.LawKit.callS X0 hx (y := (⟨"com/example/lone1/lone1/solve/SweepOrderHasNextPinLaw", "pick", "(IJ)J"⟩ : MethodName)) hown (mvT hZ w_0) (mvT hZ w_1) (mvT hZ w_2) (mvT hZ w_3) (by decide) (backOf (W := 0) (rm1 l Z a0 hw [] (((p3.toUInt32 >>> ((2 : Int32) &&& 31).toUInt32).toInt32) &&& (3 : Int32)) q0 h0 n0 Z0) hZ w_3 w_2 (by decide) (by decide)) (g := (mkF m 13 #[.val (.long q0), .second, .val (.long q1), .second, .val (.long q2), .second, .val (.int p3), .val (.int (p3 &&& (3 : Int32))), .unset, .unset, .unset, .unset, .unset, .unset, .unset, .unset, .unset, .unset, .unset, .unset, .unset, .unset, .unset, .unset, .unset] [(.long q0), (.int (((p3.toUInt32 >>> ((2 : Int32) &&& 31).toUInt32).toInt32) &&& (3 : Int32)))])) rfl (by rw [hml]; rfl) (argsL := [(.int (((p3.toUInt32 >>> ((2 : Int32) &&& 31).toUInt32).toInt32) &&& (3 : Int32))), (.long q0)]) (rest := []) (lenOf pd0__IJ_J rfl) rfl (by show 2 * 0 + _ ≤ _; exact Nat.le_of_eq rfl) (hb hby at_13) (fun _ _ => ⟨rfl, e0, (by decide : 0 + 0 ≤ _), (by decide : 0 + 0 ≤ _)⟩)
    dsimp only [Pt.U, Pt.locs, Pt.cells, Pt.slots] at X201 l201 y201 z201 st201 hQ201
    subst l201 y201 z201
    obtain ⟨rfl, N201q, e201⟩ := hQ201
    have N201 := Fr.app N0 N201q
    refine bk (fun t k => st201 t k) ?_
    show F (T201.setTop (mkF m 16 #[.val (.long q0), .second, .val (.long q1), .second, .val (.long q2), .second, .val (.int p3), .val (.int (p3 &&& (3 : Int32))), .unset, .unset, .unset, .unset, .unset, .unset, .unset, .unset, .unset, .unset, .unset, .unset, .unset, .unset, .unset, .unset, .unset] [(.long (own_pick (((p3.toUInt32 >>> ((2 : Int32) &&& 31).toUInt32).toInt32) &&& (3 : Int32)) q0))]))
    refine bk (fun t k => XS.lstore X201.here hx rfl (hb hby at_16) rfl (l' := #[.val (.long q0), .second, .val (.long q1), .second, .val (.long q2), .second, .val (.int p3), .val (.int (p3 &&& (3 : Int32))), .val (.long (own_pick (((p3.toUInt32 >>> ((2 : Int32) &&& 31).toUInt32).toInt32) &&& (3 : Int32)) q0)), .second, .unset, .unset, .unset, .unset, .unset, .unset, .unset, .unset, .unset, .unset, .unset, .unset, .unset, .unset, .unset]) rfl k) ?_
    refine bk (fun t k => XS.iload X201.here hx rfl (hb hby at_18) rfl k) ?_
    refine bk (fun t k => XS.iconst X201.here hx rfl (hb hby at_20) k) ?_
    show F (T201.setTop (mkF m 21 #[.val (.long q0), .second, .val (.long q1), .second, .val (.long q2), .second, .val (.int p3), .val (.int (p3 &&& (3 : Int32))), .val (.long (own_pick (((p3.toUInt32 >>> ((2 : Int32) &&& 31).toUInt32).toInt32) &&& (3 : Int32)) q0)), .second, .unset, .unset, .unset, .unset, .unset, .unset, .unset, .unset, .unset, .unset, .unset, .unset, .unset, .unset, .unset] [(.int (4 : Int32)), (.int p3)]))
    refine bk (fun t k => XS.iushr X201.here hx rfl (hb hby at_21) rfl k) ?_
    refine bk (fun t k => XS.iconst X201.here hx rfl (hb hby at_22) k) ?_
    show F (T201.setTop (mkF m 23 #[.val (.long q0), .second, .val (.long q1), .second, .val (.long q2), .second, .val (.int p3), .val (.int (p3 &&& (3 : Int32))), .val (.long (own_pick (((p3.toUInt32 >>> ((2 : Int32) &&& 31).toUInt32).toInt32) &&& (3 : Int32)) q0)), .second, .unset, .unset, .unset, .unset, .unset, .unset, .unset, .unset, .unset, .unset, .unset, .unset, .unset, .unset, .unset] [(.int (3 : Int32)), (.int ((p3.toUInt32 >>> ((4 : Int32) &&& 31).toUInt32).toInt32))]))
    refine bk (fun t k => XS.iand X201.here hx rfl (hb hby at_23) rfl k) ?_
    refine bk (fun t k => XS.lloadN X201.here hx rfl (hb hby at_24) rfl k) ?_
    show F (T201.setTop (mkF m 25 #[.val (.long q0), .second, .val (.long q1), .second, .val (.long q2), .second, .val (.int p3), .val (.int (p3 &&& (3 : Int32))), .val (.long (own_pick (((p3.toUInt32 >>> ((2 : Int32) &&& 31).toUInt32).toInt32) &&& (3 : Int32)) q0)), .second, .unset, .unset, .unset, .unset, .unset, .unset, .unset, .unset, .unset, .unset, .unset, .unset, .unset, .unset, .unset] [(.long q1), (.int (((p3.toUInt32 >>> ((4 : Int32) &&& 31).toUInt32).toInt32) &&& (3 : Int32)))]))
    obtain ⟨_, _, ⟨T202, L202, k202, n202⟩, -, X202, ⟨Lc202, hQ202, l202, y202, z202⟩, st202⟩ := Jvm.LawKit.callS X201 hx (y := (⟨"com/example/lone1/lone1/solve/SweepOrderHasNextPinLaw", "pick", "(IJ)J"⟩ : MethodName)) hown (mvT hZ w_0) (mvT hZ w_1) (mvT hZ w_2) (mvT hZ w_3) (by decide) (backOf (W := 0) (rm1 l Z a0 hw [] (((p3.toUInt32 >>> ((4 : Int32) &&& 31).toUInt32).toInt32) &&& (3 : Int32)) q1 h0 n0 Z0) hZ w_3 w_2 (by decide) (by decide)) (g := (mkF m 25 #[.val (.long q0), .second, .val (.long q1), .second, .val (.long q2), .second, .val (.int p3), .val (.int (p3 &&& (3 : Int32))), .val (.long (own_pick (((p3.toUInt32 >>> ((2 : Int32) &&& 31).toUInt32).toInt32) &&& (3 : Int32)) q0)), .second, .unset, .unset, .unset, .unset, .unset, .unset, .unset, .unset, .unset, .unset, .unset, .unset, .unset, .unset, .unset] [(.long q1), (.int (((p3.toUInt32 >>> ((4 : Int32) &&& 31).toUInt32).toInt32) &&& (3 : Int32)))])) rfl (by rw [hml]; rfl) (argsL := [(.int (((p3.toUInt32 >>> ((4 : Int32) &&& 31).toUInt32).toInt32) &&& (3 : Int32))), (.long q1)]) (rest := []) (lenOf pd0__IJ_J rfl) rfl (by show 2 * 0 + _ ≤ _; exact Nat.le_of_eq rfl) (hb hby at_25) (fun _ _ => ⟨rfl, e201, (by decide : 0 + 0 ≤ _), (by decide : 0 + 0 ≤ _)⟩)
    dsimp only [Pt.U, Pt.locs, Pt.cells, Pt.slots] at X202 l202 y202 z202 st202 hQ202
    subst l202 y202 z202
    obtain ⟨rfl, N202q, e202⟩ := hQ202
    have N202 := Fr.app N201 N202q
    refine bk (fun t k => st202 t k) ?_
    show F (T202.setTop (mkF m 28 #[.val (.long q0), .second, .val (.long q1), .second, .val (.long q2), .second, .val (.int p3), .val (.int (p3 &&& (3 : Int32))), .val (.long (own_pick (((p3.toUInt32 >>> ((2 : Int32) &&& 31).toUInt32).toInt32) &&& (3 : Int32)) q0)), .second, .unset, .unset, .unset, .unset, .unset, .unset, .unset, .unset, .unset, .unset, .unset, .unset, .unset, .unset, .unset] [(.long (own_pick (((p3.toUInt32 >>> ((4 : Int32) &&& 31).toUInt32).toInt32) &&& (3 : Int32)) q1))]))
    refine bk (fun t k => XS.lstore X202.here hx rfl (hb hby at_28) rfl (l' := #[.val (.long q0), .second, .val (.long q1), .second, .val (.long q2), .second, .val (.int p3), .val (.int (p3 &&& (3 : Int32))), .val (.long (own_pick (((p3.toUInt32 >>> ((2 : Int32) &&& 31).toUInt32).toInt32) &&& (3 : Int32)) q0)), .second, .val (.long (own_pick (((p3.toUInt32 >>> ((4 : Int32) &&& 31).toUInt32).toInt32) &&& (3 : Int32)) q1)), .second, .unset, .unset, .unset, .unset, .unset, .unset, .unset, .unset, .unset, .unset, .unset, .unset, .unset]) rfl k) ?_
    refine bk (fun t k => XS.iload X202.here hx rfl (hb hby at_30) rfl k) ?_
    refine bk (fun t k => XS.bipush X202.here hx rfl (hb hby at_32) k) ?_
    show F (T202.setTop (mkF m 34 #[.val (.long q0), .second, .val (.long q1), .second, .val (.long q2), .second, .val (.int p3), .val (.int (p3 &&& (3 : Int32))), .val (.long (own_pick (((p3.toUInt32 >>> ((2 : Int32) &&& 31).toUInt32).toInt32) &&& (3 : Int32)) q0)), .second, .val (.long (own_pick (((p3.toUInt32 >>> ((4 : Int32) &&& 31).toUInt32).toInt32) &&& (3 : Int32)) q1)), .second, .unset, .unset, .unset, .unset, .unset, .unset, .unset, .unset, .unset, .unset, .unset, .unset, .unset] [(.int (6 : Int32)), (.int p3)]))
    refine bk (fun t k => XS.iushr X202.here hx rfl (hb hby at_34) rfl k) ?_
    refine bk (fun t k => XS.iconst X202.here hx rfl (hb hby at_35) k) ?_
    show F (T202.setTop (mkF m 36 #[.val (.long q0), .second, .val (.long q1), .second, .val (.long q2), .second, .val (.int p3), .val (.int (p3 &&& (3 : Int32))), .val (.long (own_pick (((p3.toUInt32 >>> ((2 : Int32) &&& 31).toUInt32).toInt32) &&& (3 : Int32)) q0)), .second, .val (.long (own_pick (((p3.toUInt32 >>> ((4 : Int32) &&& 31).toUInt32).toInt32) &&& (3 : Int32)) q1)), .second, .unset, .unset, .unset, .unset, .unset, .unset, .unset, .unset, .unset, .unset, .unset, .unset, .unset] [(.int (3 : Int32)), (.int ((p3.toUInt32 >>> ((6 : Int32) &&& 31).toUInt32).toInt32))]))
    refine bk (fun t k => XS.iand X202.here hx rfl (hb hby at_36) rfl k) ?_
    refine bk (fun t k => XS.lload X202.here hx rfl (hb hby at_37) rfl k) ?_
    show F (T202.setTop (mkF m 39 #[.val (.long q0), .second, .val (.long q1), .second, .val (.long q2), .second, .val (.int p3), .val (.int (p3 &&& (3 : Int32))), .val (.long (own_pick (((p3.toUInt32 >>> ((2 : Int32) &&& 31).toUInt32).toInt32) &&& (3 : Int32)) q0)), .second, .val (.long (own_pick (((p3.toUInt32 >>> ((4 : Int32) &&& 31).toUInt32).toInt32) &&& (3 : Int32)) q1)), .second, .unset, .unset, .unset, .unset, .unset, .unset, .unset, .unset, .unset, .unset, .unset, .unset, .unset] [(.long q2), (.int (((p3.toUInt32 >>> ((6 : Int32) &&& 31).toUInt32).toInt32) &&& (3 : Int32)))]))
    obtain ⟨_, _, ⟨T203, L203, k203, n203⟩, -, X203, ⟨Lc203, hQ203, l203, y203, z203⟩, st203⟩ := Jvm.LawKit.callS X202 hx (y := (⟨"com/example/lone1/lone1/solve/SweepOrderHasNextPinLaw", "pick", "(IJ)J"⟩ : MethodName)) hown (mvT hZ w_0) (mvT hZ w_1) (mvT hZ w_2) (mvT hZ w_3) (by decide) (backOf (W := 0) (rm1 l Z a0 hw [] (((p3.toUInt32 >>> ((6 : Int32) &&& 31).toUInt32).toInt32) &&& (3 : Int32)) q2 h0 n0 Z0) hZ w_3 w_2 (by decide) (by decide)) (g := (mkF m 39 #[.val (.long q0), .second, .val (.long q1), .second, .val (.long q2), .second, .val (.int p3), .val (.int (p3 &&& (3 : Int32))), .val (.long (own_pick (((p3.toUInt32 >>> ((2 : Int32) &&& 31).toUInt32).toInt32) &&& (3 : Int32)) q0)), .second, .val (.long (own_pick (((p3.toUInt32 >>> ((4 : Int32) &&& 31).toUInt32).toInt32) &&& (3 : Int32)) q1)), .second, .unset, .unset, .unset, .unset, .unset, .unset, .unset, .unset, .unset, .unset, .unset, .unset, .unset] [(.long q2), (.int (((p3.toUInt32 >>> ((6 : Int32) &&& 31).toUInt32).toInt32) &&& (3 : Int32)))])) rfl (by rw [hml]; rfl) (argsL := [(.int (((p3.toUInt32 >>> ((6 : Int32) &&& 31).toUInt32).toInt32) &&& (3 : Int32))), (.long q2)]) (rest := []) (lenOf pd0__IJ_J rfl) rfl (by show 2 * 0 + _ ≤ _; exact Nat.le_of_eq rfl) (hb hby at_39) (fun _ _ => ⟨rfl, e202, (by decide : 0 + 0 ≤ _), (by decide : 0 + 0 ≤ _)⟩)
    dsimp only [Pt.U, Pt.locs, Pt.cells, Pt.slots] at X203 l203 y203 z203 st203 hQ203
    subst l203 y203 z203
    obtain ⟨rfl, N203q, e203⟩ := hQ203
    have N203 := Fr.app N202 N203q
    refine bk (fun t k => st203 t k) ?_
    show F (T203.setTop (mkF m 42 #[.val (.long q0), .second, .val (.long q1), .second, .val (.long q2), .second, .val (.int p3), .val (.int (p3 &&& (3 : Int32))), .val (.long (own_pick (((p3.toUInt32 >>> ((2 : Int32) &&& 31).toUInt32).toInt32) &&& (3 : Int32)) q0)), .second, .val (.long (own_pick (((p3.toUInt32 >>> ((4 : Int32) &&& 31).toUInt32).toInt32) &&& (3 : Int32)) q1)), .second, .unset, .unset, .unset, .unset, .unset, .unset, .unset, .unset, .unset, .unset, .unset, .unset, .unset] [(.long (own_pick (((p3.toUInt32 >>> ((6 : Int32) &&& 31).toUInt32).toInt32) &&& (3 : Int32)) q2))]))
    refine bk (fun t k => XS.lstore X203.here hx rfl (hb hby at_42) rfl (l' := #[.val (.long q0), .second, .val (.long q1), .second, .val (.long q2), .second, .val (.int p3), .val (.int (p3 &&& (3 : Int32))), .val (.long (own_pick (((p3.toUInt32 >>> ((2 : Int32) &&& 31).toUInt32).toInt32) &&& (3 : Int32)) q0)), .second, .val (.long (own_pick (((p3.toUInt32 >>> ((4 : Int32) &&& 31).toUInt32).toInt32) &&& (3 : Int32)) q1)), .second, .val (.long (own_pick (((p3.toUInt32 >>> ((6 : Int32) &&& 31).toUInt32).toInt32) &&& (3 : Int32)) q2)), .second, .unset, .unset, .unset, .unset, .unset, .unset, .unset, .unset, .unset, .unset, .unset]) rfl k) ?_
    show F (T203.setTop (mkF m 44 #[.val (.long q0), .second, .val (.long q1), .second, .val (.long q2), .second, .val (.int p3), .val (.int (p3 &&& (3 : Int32))), .val (.long (own_pick (((p3.toUInt32 >>> ((2 : Int32) &&& 31).toUInt32).toInt32) &&& (3 : Int32)) q0)), .second, .val (.long (own_pick (((p3.toUInt32 >>> ((4 : Int32) &&& 31).toUInt32).toInt32) &&& (3 : Int32)) q1)), .second, .val (.long (own_pick (((p3.toUInt32 >>> ((6 : Int32) &&& 31).toUInt32).toInt32) &&& (3 : Int32)) q2)), .second, .unset, .unset, .unset, .unset, .unset, .unset, .unset, .unset, .unset, .unset, .unset] []))
    rw [hc9300_200]
    refine bk (fun t k => XS.iload X203.here hx rfl (hb hby at_44) rfl k) ?_
    show F (T203.setTop (mkF m 46 #[.val (.long q0), .second, .val (.long q1), .second, .val (.long q2), .second, .val (.int p3), .val (.int (0 : Int32)), .val (.long (own_pick (((p3.toUInt32 >>> ((2 : Int32) &&& 31).toUInt32).toInt32) &&& (3 : Int32)) q0)), .second, .val (.long (own_pick (((p3.toUInt32 >>> ((4 : Int32) &&& 31).toUInt32).toInt32) &&& (3 : Int32)) q1)), .second, .val (.long (own_pick (((p3.toUInt32 >>> ((6 : Int32) &&& 31).toUInt32).toInt32) &&& (3 : Int32)) q2)), .second, .unset, .unset, .unset, .unset, .unset, .unset, .unset, .unset, .unset, .unset, .unset] [(.int (0 : Int32))]))
    obtain ⟨T204, h204, k204, X204, e204, E204, A204, st204⟩ := newP (aty := .long) X203 hx hZ w_4 e203 (g := (mkF m 46 #[.val (.long q0), .second, .val (.long q1), .second, .val (.long q2), .second, .val (.int p3), .val (.int (0 : Int32)), .val (.long (own_pick (((p3.toUInt32 >>> ((2 : Int32) &&& 31).toUInt32).toInt32) &&& (3 : Int32)) q0)), .second, .val (.long (own_pick (((p3.toUInt32 >>> ((4 : Int32) &&& 31).toUInt32).toInt32) &&& (3 : Int32)) q1)), .second, .val (.long (own_pick (((p3.toUInt32 >>> ((6 : Int32) &&& 31).toUInt32).toInt32) &&& (3 : Int32)) q2)), .second, .unset, .unset, .unset, .unset, .unset, .unset, .unset, .unset, .unset, .unset, .unset] [(.int (0 : Int32))])) rfl (hb hby at_46) rfl (by decide) (cap := 0) (by decide) (by decide) (by decide) (by decide)
    obtain ⟨b204, g204⟩ : ∃ z, z = h0.size := ⟨_, rfl⟩
    rw [← g204] at A204 st204
    have Gb204 : n0 ≤ b204 := Nat.le_trans Z0 (Nat.le_of_eq g204.symm)
    have f205 := Nat.le_trans Z0 E204.1
    have V_b204 : Arv Z h204 b204 k204 .long (0 : Int32) [(.long (0 : Int64)), (.long (0 : Int64)), (.long (0 : Int64))] (.long (0 : Int64)) := (Arv.new A204 (by decide)).pad (pad_rep [] (.long (0 : Int64)) 3)
    refine bk (fun t k => st204 t k) ?_
    show F (T204.setTop (mkF m 48 #[.val (.long q0), .second, .val (.long q1), .second, .val (.long q2), .second, .val (.int p3), .val (.int (0 : Int32)), .val (.long (own_pick (((p3.toUInt32 >>> ((2 : Int32) &&& 31).toUInt32).toInt32) &&& (3 : Int32)) q0)), .second, .val (.long (own_pick (((p3.toUInt32 >>> ((4 : Int32) &&& 31).toUInt32).toInt32) &&& (3 : Int32)) q1)), .second, .val (.long (own_pick (((p3.toUInt32 >>> ((6 : Int32) &&& 31).toUInt32).toInt32) &&& (3 : Int32)) q2)), .second, .unset, .unset, .unset, .unset, .unset, .unset, .unset, .unset, .unset, .unset, .unset] [(.ref b204)]))
    refine bk (fun t k => XS.astore X204.here hx rfl (hb hby at_48) rfl rfl (l' := #[.val (.long q0), .second, .val (.long q1), .second, .val (.long q2), .second, .val (.int p3), .val (.int (0 : Int32)), .val (.long (own_pick (((p3.toUInt32 >>> ((2 : Int32) &&& 31).toUInt32).toInt32) &&& (3 : Int32)) q0)), .second, .val (.long (own_pick (((p3.toUInt32 >>> ((4 : Int32) &&& 31).toUInt32).toInt32) &&& (3 : Int32)) q1)), .second, .val (.long (own_pick (((p3.toUInt32 >>> ((6 : Int32) &&& 31).toUInt32).toInt32) &&& (3 : Int32)) q2)), .second, .val (.ref b204), .unset, .unset, .unset, .unset, .unset, .unset, .unset, .unset, .unset, .unset]) rfl k) ?_
    refine bk (fun t k => XS.iload X204.here hx rfl (hb hby at_50) rfl k) ?_
    show F (T204.setTop (mkF m 52 #[.val (.long q0), .second, .val (.long q1), .second, .val (.long q2), .second, .val (.int p3), .val (.int (0 : Int32)), .val (.long (own_pick (((p3.toUInt32 >>> ((2 : Int32) &&& 31).toUInt32).toInt32) &&& (3 : Int32)) q0)), .second, .val (.long (own_pick (((p3.toUInt32 >>> ((4 : Int32) &&& 31).toUInt32).toInt32) &&& (3 : Int32)) q1)), .second, .val (.long (own_pick (((p3.toUInt32 >>> ((6 : Int32) &&& 31).toUInt32).toInt32) &&& (3 : Int32)) q2)), .second, .val (.ref b204), .unset, .unset, .unset, .unset, .unset, .unset, .unset, .unset, .unset, .unset] [(.int (0 : Int32))]))
    refine bk (fun t k => XS.ifYes X204.here hx rfl (pc0 := 52) (pc' := 61) rfl (hb hby at_52) rfl ((if0 _ _).trans (flt (by decide : ¬ ((0 : Int32) < (0 : Int32)))).2.2.2) (by decide) (by decide) k) ?_
    refine bk (fun t k => XS.iload X204.here hx rfl (hb hby at_61) rfl k) ?_
    refine bk (fun t k => XS.iconst X204.here hx rfl (hb hby at_63) k) ?_
    show F (T204.setTop (mkF m 64 #[.val (.long q0), .second, .val (.long q1), .second, .val (.long q2), .second, .val (.int p3), .val (.int (0 : Int32)), .val (.long (own_pick (((p3.toUInt32 >>> ((2 : Int32) &&& 31).toUInt32).toInt32) &&& (3 : Int32)) q0)), .second, .val (.long (own_pick (((p3.toUInt32 >>> ((4 : Int32) &&& 31).toUInt32).toInt32) &&& (3 : Int32)) q1)), .second, .val (.long (own_pick (((p3.toUInt32 >>> ((6 : Int32) &&& 31).toUInt32).toInt32) &&& (3 : Int32)) q2)), .second, .val (.ref b204), .unset, .unset, .unset, .unset, .unset, .unset, .unset, .unset, .unset, .unset] [(.int (1 : Int32)), (.int (0 : Int32))]))
    refine bk (fun t k => XS.icmpYes X204.here hx rfl (pc0 := 64) (pc' := 73) rfl (hb hby at_64) rfl (flt (by decide : ¬ ((1 : Int32) < (0 : Int32)))).2.2.2 (by decide) (by decide) k) ?_
    refine bk (fun t k => XS.iload X204.here hx rfl (hb hby at_73) rfl k) ?_
    refine bk (fun t k => XS.iconst X204.here hx rfl (hb hby at_75) k) ?_
    show F (T204.setTop (mkF m 76 #[.val (.long q0), .second, .val (.long q1), .second, .val (.long q2), .second, .val (.int p3), .val (.int (0 : Int32)), .val (.long (own_pick (((p3.toUInt32 >>> ((2 : Int32) &&& 31).toUInt32).toInt32) &&& (3 : Int32)) q0)), .second, .val (.long (own_pick (((p3.toUInt32 >>> ((4 : Int32) &&& 31).toUInt32).toInt32) &&& (3 : Int32)) q1)), .second, .val (.long (own_pick (((p3.toUInt32 >>> ((6 : Int32) &&& 31).toUInt32).toInt32) &&& (3 : Int32)) q2)), .second, .val (.ref b204), .unset, .unset, .unset, .unset, .unset, .unset, .unset, .unset, .unset, .unset] [(.int (2 : Int32)), (.int (0 : Int32))]))
    refine bk (fun t k => XS.icmpYes X204.here hx rfl (pc0 := 76) (pc' := 85) rfl (hb hby at_76) rfl (flt (by decide : ¬ ((2 : Int32) < (0 : Int32)))).2.2.2 (by decide) (by decide) k) ?_
    refine bk (fun t k => XS.iload X204.here hx rfl (hb hby at_85) rfl k) ?_
    show F (T204.setTop (mkF m 87 #[.val (.long q0), .second, .val (.long q1), .second, .val (.long q2), .second, .val (.int p3), .val (.int (0 : Int32)), .val (.long (own_pick (((p3.toUInt32 >>> ((2 : Int32) &&& 31).toUInt32).toInt32) &&& (3 : Int32)) q0)), .second, .val (.long (own_pick (((p3.toUInt32 >>> ((4 : Int32) &&& 31).toUInt32).toInt32) &&& (3 : Int32)) q1)), .second, .val (.long (own_pick (((p3.toUInt32 >>> ((6 : Int32) &&& 31).toUInt32).toInt32) &&& (3 : Int32)) q2)), .second, .val (.ref b204), .unset, .unset, .unset, .unset, .unset, .unset, .unset, .unset, .unset, .unset] [(.int (0 : Int32))]))
    refine bk (fun t k => XS.ifYes X204.here hx rfl (pc0 := 87) (pc' := 95) rfl (hb hby at_87) rfl ((if0 _ _).trans (flt (by decide : ¬ ((0 : Int32) < (0 : Int32)))).2.2.2) (by decide) (by decide) k) ?_
    refine bk (fun t k => XS.lconst X204.here hx rfl (hb hby at_95) k) ?_
    show F (T204.setTop (mkF m 96 #[.val (.long q0), .second, .val (.long q1), .second, .val (.long q2), .second, .val (.int p3), .val (.int (0 : Int32)), .val (.long (own_pick (((p3.toUInt32 >>> ((2 : Int32) &&& 31).toUInt32).toInt32) &&& (3 : Int32)) q0)), .second, .val (.long (own_pick (((p3.toUInt32 >>> ((4 : Int32) &&& 31).toUInt32).toInt32) &&& (3 : Int32)) q1)), .second, .val (.long (own_pick (((p3.toUInt32 >>> ((6 : Int32) &&& 31).toUInt32).toInt32) &&& (3 : Int32)) q2)), .second, .val (.ref b204), .unset, .unset, .unset, .unset, .unset, .unset, .unset, .unset, .unset, .unset] [(.long (0 : Int64))]))
    refine bk (fun t k => XS.lstore X204.here hx rfl (hb hby at_96) rfl (l' := #[.val (.long q0), .second, .val (.long q1), .second, .val (.long q2), .second, .val (.int p3), .val (.int (0 : Int32)), .val (.long (own_pick (((p3.toUInt32 >>> ((2 : Int32) &&& 31).toUInt32).toInt32) &&& (3 : Int32)) q0)), .second, .val (.long (own_pick (((p3.toUInt32 >>> ((4 : Int32) &&& 31).toUInt32).toInt32) &&& (3 : Int32)) q1)), .second, .val (.long (own_pick (((p3.toUInt32 >>> ((6 : Int32) &&& 31).toUInt32).toInt32) &&& (3 : Int32)) q2)), .second, .val (.ref b204), .val (.long (0 : Int64)), .second, .unset, .unset, .unset, .unset, .unset, .unset, .unset, .unset]) rfl k) ?_
    refine bk (fun t k => XS.iload X204.here hx rfl (hb hby at_98) rfl k) ?_
    refine bk (fun t k => XS.iconst X204.here hx rfl (hb hby at_100) k) ?_
    show F (T204.setTop (mkF m 101 #[.val (.long q0), .second, .val (.long q1), .second, .val (.long q2), .second, .val (.int p3), .val (.int (0 : Int32)), .val (.long (own_pick (((p3.toUInt32 >>> ((2 : Int32) &&& 31).toUInt32).toInt32) &&& (3 : Int32)) q0)), .second, .val (.long (own_pick (((p3.toUInt32 >>> ((4 : Int32) &&& 31).toUInt32).toInt32) &&& (3 : Int32)) q1)), .second, .val (.long (own_pick (((p3.toUInt32 >>> ((6 : Int32) &&& 31).toUInt32).toInt32) &&& (3 : Int32)) q2)), .second, .val (.ref b204), .val (.long (0 : Int64)), .second, .unset, .unset, .unset, .unset, .unset, .unset, .unset, .unset] [(.int (1 : Int32)), (.int (0 : Int32))]))
    refine bk (fun t k => XS.icmpYes X204.here hx rfl (pc0 := 101) (pc' := 109) rfl (hb hby at_101) rfl (flt (by decide : ¬ ((1 : Int32) < (0 : Int32)))).2.2.2 (by decide) (by decide) k) ?_
    refine bk (fun t k => XS.lconst X204.here hx rfl (hb hby at_109) k) ?_
    show F (T204.setTop (mkF m 110 #[.val (.long q0), .second, .val (.long q1), .second, .val (.long q2), .second, .val (.int p3), .val (.int (0 : Int32)), .val (.long (own_pick (((p3.toUInt32 >>> ((2 : Int32) &&& 31).toUInt32).toInt32) &&& (3 : Int32)) q0)), .second, .val (.long (own_pick (((p3.toUInt32 >>> ((4 : Int32) &&& 31).toUInt32).toInt32) &&& (3 : Int32)) q1)), .second, .val (.long (own_pick (((p3.toUInt32 >>> ((6 : Int32) &&& 31).toUInt32).toInt32) &&& (3 : Int32)) q2)), .second, .val (.ref b204), .val (.long (0 : Int64)), .second, .unset, .unset, .unset, .unset, .unset, .unset, .unset, .unset] [(.long (0 : Int64))]))
    refine bk (fun t k => XS.lstore X204.here hx rfl (hb hby at_110) rfl (l' := #[.val (.long q0), .second, .val (.long q1), .second, .val (.long q2), .second, .val (.int p3), .val (.int (0 : Int32)), .val (.long (own_pick (((p3.toUInt32 >>> ((2 : Int32) &&& 31).toUInt32).toInt32) &&& (3 : Int32)) q0)), .second, .val (.long (own_pick (((p3.toUInt32 >>> ((4 : Int32) &&& 31).toUInt32).toInt32) &&& (3 : Int32)) q1)), .second, .val (.long (own_pick (((p3.toUInt32 >>> ((6 : Int32) &&& 31).toUInt32).toInt32) &&& (3 : Int32)) q2)), .second, .val (.ref b204), .val (.long (0 : Int64)), .second, .val (.long (0 : Int64)), .second, .unset, .unset, .unset, .unset, .unset, .unset]) rfl k) ?_
    refine bk (fun t k => XS.iload X204.here hx rfl (hb hby at_112) rfl k) ?_
    refine bk (fun t k => XS.iconst X204.here hx rfl (hb hby at_114) k) ?_
    show F (T204.setTop (mkF m 115 #[.val (.long q0), .second, .val (.long q1), .second, .val (.long q2), .second, .val (.int p3), .val (.int (0 : Int32)), .val (.long (own_pick (((p3.toUInt32 >>> ((2 : Int32) &&& 31).toUInt32).toInt32) &&& (3 : Int32)) q0)), .second, .val (.long (own_pick (((p3.toUInt32 >>> ((4 : Int32) &&& 31).toUInt32).toInt32) &&& (3 : Int32)) q1)), .second, .val (.long (own_pick (((p3.toUInt32 >>> ((6 : Int32) &&& 31).toUInt32).toInt32) &&& (3 : Int32)) q2)), .second, .val (.ref b204), .val (.long (0 : Int64)), .second, .val (.long (0 : Int64)), .second, .unset, .unset, .unset, .unset, .unset, .unset] [(.int (2 : Int32)), (.int (0 : Int32))]))
    refine bk (fun t k => XS.icmpYes X204.here hx rfl (pc0 := 115) (pc' := 123) rfl (hb hby at_115) rfl (flt (by decide : ¬ ((2 : Int32) < (0 : Int32)))).2.2.2 (by decide) (by decide) k) ?_
    refine bk (fun t k => XS.lconst X204.here hx rfl (hb hby at_123) k) ?_
    show F (T204.setTop (mkF m 124 #[.val (.long q0), .second, .val (.long q1), .second, .val (.long q2), .second, .val (.int p3), .val (.int (0 : Int32)), .val (.long (own_pick (((p3.toUInt32 >>> ((2 : Int32) &&& 31).toUInt32).toInt32) &&& (3 : Int32)) q0)), .second, .val (.long (own_pick (((p3.toUInt32 >>> ((4 : Int32) &&& 31).toUInt32).toInt32) &&& (3 : Int32)) q1)), .second, .val (.long (own_pick (((p3.toUInt32 >>> ((6 : Int32) &&& 31).toUInt32).toInt32) &&& (3 : Int32)) q2)), .second, .val (.ref b204), .val (.long (0 : Int64)), .second, .val (.long (0 : Int64)), .second, .unset, .unset, .unset, .unset, .unset, .unset] [(.long (0 : Int64))]))
    refine bk (fun t k => XS.lstore X204.here hx rfl (hb hby at_124) rfl (l' := #[.val (.long q0), .second, .val (.long q1), .second, .val (.long q2), .second, .val (.int p3), .val (.int (0 : Int32)), .val (.long (own_pick (((p3.toUInt32 >>> ((2 : Int32) &&& 31).toUInt32).toInt32) &&& (3 : Int32)) q0)), .second, .val (.long (own_pick (((p3.toUInt32 >>> ((4 : Int32) &&& 31).toUInt32).toInt32) &&& (3 : Int32)) q1)), .second, .val (.long (own_pick (((p3.toUInt32 >>> ((6 : Int32) &&& 31).toUInt32).toInt32) &&& (3 : Int32)) q2)), .second, .val (.ref b204), .val (.long (0 : Int64)), .second, .val (.long (0 : Int64)), .second, .val (.long (0 : Int64)), .second, .unset, .unset, .unset, .unset]) rfl k) ?_
    show F (T204.setTop (mkF m 126 #[.val (.long q0), .second, .val (.long q1), .second, .val (.long q2), .second, .val (.int p3), .val (.int (0 : Int32)), .val (.long (own_pick (((p3.toUInt32 >>> ((2 : Int32) &&& 31).toUInt32).toInt32) &&& (3 : Int32)) q0)), .second, .val (.long (own_pick (((p3.toUInt32 >>> ((4 : Int32) &&& 31).toUInt32).toInt32) &&& (3 : Int32)) q1)), .second, .val (.long (own_pick (((p3.toUInt32 >>> ((6 : Int32) &&& 31).toUInt32).toInt32) &&& (3 : Int32)) q2)), .second, .val (.ref b204), .val (.long (0 : Int64)), .second, .val (.long (0 : Int64)), .second, .val (.long (0 : Int64)), .second, .unset, .unset, .unset, .unset] []))
    exact J126 _ _ h204 (X204.more (Nat.le_refl _) (by decide)) e204 N203 _ _ _ _ _ _ _ _ _ _ f205 V_b204 (Or.inl ⟨rfl, rfl, rfl, rfl⟩)
  · by_cases hc9301_206 : (p3 &&& (3 : Int32)) = (1 : Int32)
    · refine bk (fun t k => XS.iload X0.here hx rfl (hb hby at_0) rfl k) ?_
      refine bk (fun t k => XS.iconst X0.here hx rfl (hb hby at_2) k) ?_
      show F (s₁.setTop (mkF m 3 #[.val (.long q0), .second, .val (.long q1), .second, .val (.long q2), .second, .val (.int p3), .unset, .unset, .unset, .unset, .unset, .unset, .unset, .unset, .unset, .unset, .unset, .unset, .unset, .unset, .unset, .unset, .unset, .unset] [(.int (3 : Int32)), (.int p3)]))
      refine bk (fun t k => XS.iand X0.here hx rfl (hb hby at_3) rfl k) ?_
      show F (s₁.setTop (mkF m 4 #[.val (.long q0), .second, .val (.long q1), .second, .val (.long q2), .second, .val (.int p3), .unset, .unset, .unset, .unset, .unset, .unset, .unset, .unset, .unset, .unset, .unset, .unset, .unset, .unset, .unset, .unset, .unset, .unset] [(.int (p3 &&& (3 : Int32)))]))
      refine bk (fun t k => XS.istore X0.here hx rfl (hb hby at_4) rfl (l' := #[.val (.long q0), .second, .val (.long q1), .second, .val (.long q2), .second, .val (.int p3), .val (.int (p3 &&& (3 : Int32))), .unset, .unset, .unset, .unset, .unset, .unset, .unset, .unset, .unset, .unset, .unset, .unset, .unset, .unset, .unset, .unset, .unset]) rfl k) ?_
      refine bk (fun t k => XS.iload X0.here hx rfl (hb hby at_6) rfl k) ?_
      refine bk (fun t k => XS.iconst X0.here hx rfl (hb hby at_8) k) ?_
      show F (s₁.setTop (mkF m 9 #[.val (.long q0), .second, .val (.long q1), .second, .val (.long q2), .second, .val (.int p3), .val (.int (p3 &&& (3 : Int32))), .unset, .unset, .unset, .unset, .unset, .unset, .unset, .unset, .unset, .unset, .unset, .unset, .unset, .unset, .unset, .unset, .unset] [(.int (2 : Int32)), (.int p3)]))
      refine bk (fun t k => XS.iushr X0.here hx rfl (hb hby at_9) rfl k) ?_
      refine bk (fun t k => XS.iconst X0.here hx rfl (hb hby at_10) k) ?_
      show F (s₁.setTop (mkF m 11 #[.val (.long q0), .second, .val (.long q1), .second, .val (.long q2), .second, .val (.int p3), .val (.int (p3 &&& (3 : Int32))), .unset, .unset, .unset, .unset, .unset, .unset, .unset, .unset, .unset, .unset, .unset, .unset, .unset, .unset, .unset, .unset, .unset] [(.int (3 : Int32)), (.int ((p3.toUInt32 >>> ((2 : Int32) &&& 31).toUInt32).toInt32))]))
      refine bk (fun t k => XS.iand X0.here hx rfl (hb hby at_11) rfl k) ?_
      refine bk (fun t k => XS.lloadN X0.here hx rfl (hb hby at_12) rfl k) ?_
      show F (s₁.setTop (mkF m 13 #[.val (.long q0), .second, .val (.long q1), .second, .val (.long q2), .second, .val (.int p3), .val (.int (p3 &&& (3 : Int32))), .unset, .unset, .unset, .unset, .unset, .unset, .unset, .unset, .unset, .unset, .unset, .unset, .unset, .unset, .unset, .unset, .unset] [(.long q0), (.int (((p3.toUInt32 >>> ((2 : Int32) &&& 31).toUInt32).toInt32) &&& (3 : Int32)))]))
      obtain ⟨_, _, ⟨T207, L207, k207, n207⟩, -, X207, ⟨Lc207, hQ207, l207, y207, z207⟩, st207⟩ := Jvm.LawKit.callS X0 hx (y := (⟨"com/example/lone1/lone1/solve/SweepOrderHasNextPinLaw", "pick", "(IJ)J"⟩ : MethodName)) hown (mvT hZ w_0) (mvT hZ w_1) (mvT hZ w_2) (mvT hZ w_3) (by decide) (backOf (W := 0) (rm1 l Z a0 hw [] (((p3.toUInt32 >>> ((2 : Int32) &&& 31).toUInt32).toInt32) &&& (3 : Int32)) q0 h0 n0 Z0) hZ w_3 w_2 (by decide) (by decide)) (g := (mkF m 13 #[.val (.long q0), .second, .val (.long q1), .second, .val (.long q2), .second, .val (.int p3), .val (.int (p3 &&& (3 : Int32))), .unset, .unset, .unset, .unset, .unset, .unset, .unset, .unset, .unset, .unset, .unset, .unset, .unset, .unset, .unset, .unset, .unset] [(.long q0), (.int (((p3.toUInt32 >>> ((2 : Int32) &&& 31).toUInt32).toInt32) &&& (3 : Int32)))])) rfl (by rw [hml]; rfl) (argsL := [(.int (((p3.toUInt32 >>> ((2 : Int32) &&& 31).toUInt32).toInt32) &&& (3 : Int32))), (.long q0)]) (rest := []) (lenOf pd0__IJ_J rfl) rfl (by show 2 * 0 + _ ≤ _; exact Nat.le_of_eq rfl) (hb hby at_13) (fun _ _ => ⟨rfl, e0, (by decide : 0 + 0 ≤ _), (by decide : 0 + 0 ≤ _)⟩)
      dsimp only [Pt.U, Pt.locs, Pt.cells, Pt.slots] at X207 l207 y207 z207 st207 hQ207
      subst l207 y207 z207
      obtain ⟨rfl, N207q, e207⟩ := hQ207
      have N207 := Fr.app N0 N207q
      refine bk (fun t k => st207 t k) ?_
      show F (T207.setTop (mkF m 16 #[.val (.long q0), .second, .val (.long q1), .second, .val (.long q2), .second, .val (.int p3), .val (.int (p3 &&& (3 : Int32))), .unset, .unset, .unset, .unset, .unset, .unset, .unset, .unset, .unset, .unset, .unset, .unset, .unset, .unset, .unset, .unset, .unset] [(.long (own_pick (((p3.toUInt32 >>> ((2 : Int32) &&& 31).toUInt32).toInt32) &&& (3 : Int32)) q0))]))
      refine bk (fun t k => XS.lstore X207.here hx rfl (hb hby at_16) rfl (l' := #[.val (.long q0), .second, .val (.long q1), .second, .val (.long q2), .second, .val (.int p3), .val (.int (p3 &&& (3 : Int32))), .val (.long (own_pick (((p3.toUInt32 >>> ((2 : Int32) &&& 31).toUInt32).toInt32) &&& (3 : Int32)) q0)), .second, .unset, .unset, .unset, .unset, .unset, .unset, .unset, .unset, .unset, .unset, .unset, .unset, .unset, .unset, .unset]) rfl k) ?_
      refine bk (fun t k => XS.iload X207.here hx rfl (hb hby at_18) rfl k) ?_
      refine bk (fun t k => XS.iconst X207.here hx rfl (hb hby at_20) k) ?_
      show F (T207.setTop (mkF m 21 #[.val (.long q0), .second, .val (.long q1), .second, .val (.long q2), .second, .val (.int p3), .val (.int (p3 &&& (3 : Int32))), .val (.long (own_pick (((p3.toUInt32 >>> ((2 : Int32) &&& 31).toUInt32).toInt32) &&& (3 : Int32)) q0)), .second, .unset, .unset, .unset, .unset, .unset, .unset, .unset, .unset, .unset, .unset, .unset, .unset, .unset, .unset, .unset] [(.int (4 : Int32)), (.int p3)]))
      refine bk (fun t k => XS.iushr X207.here hx rfl (hb hby at_21) rfl k) ?_
      refine bk (fun t k => XS.iconst X207.here hx rfl (hb hby at_22) k) ?_
      show F (T207.setTop (mkF m 23 #[.val (.long q0), .second, .val (.long q1), .second, .val (.long q2), .second, .val (.int p3), .val (.int (p3 &&& (3 : Int32))), .val (.long (own_pick (((p3.toUInt32 >>> ((2 : Int32) &&& 31).toUInt32).toInt32) &&& (3 : Int32)) q0)), .second, .unset, .unset, .unset, .unset, .unset, .unset, .unset, .unset, .unset, .unset, .unset, .unset, .unset, .unset, .unset] [(.int (3 : Int32)), (.int ((p3.toUInt32 >>> ((4 : Int32) &&& 31).toUInt32).toInt32))]))
      refine bk (fun t k => XS.iand X207.here hx rfl (hb hby at_23) rfl k) ?_
      refine bk (fun t k => XS.lloadN X207.here hx rfl (hb hby at_24) rfl k) ?_
      show F (T207.setTop (mkF m 25 #[.val (.long q0), .second, .val (.long q1), .second, .val (.long q2), .second, .val (.int p3), .val (.int (p3 &&& (3 : Int32))), .val (.long (own_pick (((p3.toUInt32 >>> ((2 : Int32) &&& 31).toUInt32).toInt32) &&& (3 : Int32)) q0)), .second, .unset, .unset, .unset, .unset, .unset, .unset, .unset, .unset, .unset, .unset, .unset, .unset, .unset, .unset, .unset] [(.long q1), (.int (((p3.toUInt32 >>> ((4 : Int32) &&& 31).toUInt32).toInt32) &&& (3 : Int32)))]))
      obtain ⟨_, _, ⟨T208, L208, k208, n208⟩, -, X208, ⟨Lc208, hQ208, l208, y208, z208⟩, st208⟩ := Jvm.LawKit.callS X207 hx (y := (⟨"com/example/lone1/lone1/solve/SweepOrderHasNextPinLaw", "pick", "(IJ)J"⟩ : MethodName)) hown (mvT hZ w_0) (mvT hZ w_1) (mvT hZ w_2) (mvT hZ w_3) (by decide) (backOf (W := 0) (rm1 l Z a0 hw [] (((p3.toUInt32 >>> ((4 : Int32) &&& 31).toUInt32).toInt32) &&& (3 : Int32)) q1 h0 n0 Z0) hZ w_3 w_2 (by decide) (by decide)) (g := (mkF m 25 #[.val (.long q0), .second, .val (.long q1), .second, .val (.long q2), .second, .val (.int p3), .val (.int (p3 &&& (3 : Int32))), .val (.long (own_pick (((p3.toUInt32 >>> ((2 : Int32) &&& 31).toUInt32).toInt32) &&& (3 : Int32)) q0)), .second, .unset, .unset, .unset, .unset, .unset, .unset, .unset, .unset, .unset, .unset, .unset, .unset, .unset, .unset, .unset] [(.long q1), (.int (((p3.toUInt32 >>> ((4 : Int32) &&& 31).toUInt32).toInt32) &&& (3 : Int32)))])) rfl (by rw [hml]; rfl) (argsL := [(.int (((p3.toUInt32 >>> ((4 : Int32) &&& 31).toUInt32).toInt32) &&& (3 : Int32))), (.long q1)]) (rest := []) (lenOf pd0__IJ_J rfl) rfl (by show 2 * 0 + _ ≤ _; exact Nat.le_of_eq rfl) (hb hby at_25) (fun _ _ => ⟨rfl, e207, (by decide : 0 + 0 ≤ _), (by decide : 0 + 0 ≤ _)⟩)
      dsimp only [Pt.U, Pt.locs, Pt.cells, Pt.slots] at X208 l208 y208 z208 st208 hQ208
      subst l208 y208 z208
      obtain ⟨rfl, N208q, e208⟩ := hQ208
      have N208 := Fr.app N207 N208q
      refine bk (fun t k => st208 t k) ?_
      show F (T208.setTop (mkF m 28 #[.val (.long q0), .second, .val (.long q1), .second, .val (.long q2), .second, .val (.int p3), .val (.int (p3 &&& (3 : Int32))), .val (.long (own_pick (((p3.toUInt32 >>> ((2 : Int32) &&& 31).toUInt32).toInt32) &&& (3 : Int32)) q0)), .second, .unset, .unset, .unset, .unset, .unset, .unset, .unset, .unset, .unset, .unset, .unset, .unset, .unset, .unset, .unset] [(.long (own_pick (((p3.toUInt32 >>> ((4 : Int32) &&& 31).toUInt32).toInt32) &&& (3 : Int32)) q1))]))
      refine bk (fun t k => XS.lstore X208.here hx rfl (hb hby at_28) rfl (l' := #[.val (.long q0), .second, .val (.long q1), .second, .val (.long q2), .second, .val (.int p3), .val (.int (p3 &&& (3 : Int32))), .val (.long (own_pick (((p3.toUInt32 >>> ((2 : Int32) &&& 31).toUInt32).toInt32) &&& (3 : Int32)) q0)), .second, .val (.long (own_pick (((p3.toUInt32 >>> ((4 : Int32) &&& 31).toUInt32).toInt32) &&& (3 : Int32)) q1)), .second, .unset, .unset, .unset, .unset, .unset, .unset, .unset, .unset, .unset, .unset, .unset, .unset, .unset]) rfl k) ?_
      refine bk (fun t k => XS.iload X208.here hx rfl (hb hby at_30) rfl k) ?_
      refine bk (fun t k => XS.bipush X208.here hx rfl (hb hby at_32) k) ?_
      show F (T208.setTop (mkF m 34 #[.val (.long q0), .second, .val (.long q1), .second, .val (.long q2), .second, .val (.int p3), .val (.int (p3 &&& (3 : Int32))), .val (.long (own_pick (((p3.toUInt32 >>> ((2 : Int32) &&& 31).toUInt32).toInt32) &&& (3 : Int32)) q0)), .second, .val (.long (own_pick (((p3.toUInt32 >>> ((4 : Int32) &&& 31).toUInt32).toInt32) &&& (3 : Int32)) q1)), .second, .unset, .unset, .unset, .unset, .unset, .unset, .unset, .unset, .unset, .unset, .unset, .unset, .unset] [(.int (6 : Int32)), (.int p3)]))
      refine bk (fun t k => XS.iushr X208.here hx rfl (hb hby at_34) rfl k) ?_
      refine bk (fun t k => XS.iconst X208.here hx rfl (hb hby at_35) k) ?_
      show F (T208.setTop (mkF m 36 #[.val (.long q0), .second, .val (.long q1), .second, .val (.long q2), .second, .val (.int p3), .val (.int (p3 &&& (3 : Int32))), .val (.long (own_pick (((p3.toUInt32 >>> ((2 : Int32) &&& 31).toUInt32).toInt32) &&& (3 : Int32)) q0)), .second, .val (.long (own_pick (((p3.toUInt32 >>> ((4 : Int32) &&& 31).toUInt32).toInt32) &&& (3 : Int32)) q1)), .second, .unset, .unset, .unset, .unset, .unset, .unset, .unset, .unset, .unset, .unset, .unset, .unset, .unset] [(.int (3 : Int32)), (.int ((p3.toUInt32 >>> ((6 : Int32) &&& 31).toUInt32).toInt32))]))
      refine bk (fun t k => XS.iand X208.here hx rfl (hb hby at_36) rfl k) ?_
      refine bk (fun t k => XS.lload X208.here hx rfl (hb hby at_37) rfl k) ?_
      show F (T208.setTop (mkF m 39 #[.val (.long q0), .second, .val (.long q1), .second, .val (.long q2), .second, .val (.int p3), .val (.int (p3 &&& (3 : Int32))), .val (.long (own_pick (((p3.toUInt32 >>> ((2 : Int32) &&& 31).toUInt32).toInt32) &&& (3 : Int32)) q0)), .second, .val (.long (own_pick (((p3.toUInt32 >>> ((4 : Int32) &&& 31).toUInt32).toInt32) &&& (3 : Int32)) q1)), .second, .unset, .unset, .unset, .unset, .unset, .unset, .unset, .unset, .unset, .unset, .unset, .unset, .unset] [(.long q2), (.int (((p3.toUInt32 >>> ((6 : Int32) &&& 31).toUInt32).toInt32) &&& (3 : Int32)))]))
      obtain ⟨_, _, ⟨T209, L209, k209, n209⟩, -, X209, ⟨Lc209, hQ209, l209, y209, z209⟩, st209⟩ := Jvm.LawKit.callS X208 hx (y := (⟨"com/example/lone1/lone1/solve/SweepOrderHasNextPinLaw", "pick", "(IJ)J"⟩ : MethodName)) hown (mvT hZ w_0) (mvT hZ w_1) (mvT hZ w_2) (mvT hZ w_3) (by decide) (backOf (W := 0) (rm1 l Z a0 hw [] (((p3.toUInt32 >>> ((6 : Int32) &&& 31).toUInt32).toInt32) &&& (3 : Int32)) q2 h0 n0 Z0) hZ w_3 w_2 (by decide) (by decide)) (g := (mkF m 39 #[.val (.long q0), .second, .val (.long q1), .second, .val (.long q2), .second, .val (.int p3), .val (.int (p3 &&& (3 : Int32))), .val (.long (own_pick (((p3.toUInt32 >>> ((2 : Int32) &&& 31).toUInt32).toInt32) &&& (3 : Int32)) q0)), .second, .val (.long (own_pick (((p3.toUInt32 >>> ((4 : Int32) &&& 31).toUInt32).toInt32) &&& (3 : Int32)) q1)), .second, .unset, .unset, .unset, .unset, .unset, .unset, .unset, .unset, .unset, .unset, .unset, .unset, .unset] [(.long q2), (.int (((p3.toUInt32 >>> ((6 : Int32) &&& 31).toUInt32).toInt32) &&& (3 : Int32)))])) rfl (by rw [hml]; rfl) (argsL := [(.int (((p3.toUInt32 >>> ((6 : Int32) &&& 31).toUInt32).toInt32) &&& (3 : Int32))), (.long q2)]) (rest := []) (lenOf pd0__IJ_J rfl) rfl (by show 2 * 0 + _ ≤ _; exact Nat.le_of_eq rfl) (hb hby at_39) (fun _ _ => ⟨rfl, e208, (by decide : 0 + 0 ≤ _), (by decide : 0 + 0 ≤ _)⟩)
      dsimp only [Pt.U, Pt.locs, Pt.cells, Pt.slots] at X209 l209 y209 z209 st209 hQ209
      subst l209 y209 z209
      obtain ⟨rfl, N209q, e209⟩ := hQ209
      have N209 := Fr.app N208 N209q
      refine bk (fun t k => st209 t k) ?_
      show F (T209.setTop (mkF m 42 #[.val (.long q0), .second, .val (.long q1), .second, .val (.long q2), .second, .val (.int p3), .val (.int (p3 &&& (3 : Int32))), .val (.long (own_pick (((p3.toUInt32 >>> ((2 : Int32) &&& 31).toUInt32).toInt32) &&& (3 : Int32)) q0)), .second, .val (.long (own_pick (((p3.toUInt32 >>> ((4 : Int32) &&& 31).toUInt32).toInt32) &&& (3 : Int32)) q1)), .second, .unset, .unset, .unset, .unset, .unset, .unset, .unset, .unset, .unset, .unset, .unset, .unset, .unset] [(.long (own_pick (((p3.toUInt32 >>> ((6 : Int32) &&& 31).toUInt32).toInt32) &&& (3 : Int32)) q2))]))
      refine bk (fun t k => XS.lstore X209.here hx rfl (hb hby at_42) rfl (l' := #[.val (.long q0), .second, .val (.long q1), .second, .val (.long q2), .second, .val (.int p3), .val (.int (p3 &&& (3 : Int32))), .val (.long (own_pick (((p3.toUInt32 >>> ((2 : Int32) &&& 31).toUInt32).toInt32) &&& (3 : Int32)) q0)), .second, .val (.long (own_pick (((p3.toUInt32 >>> ((4 : Int32) &&& 31).toUInt32).toInt32) &&& (3 : Int32)) q1)), .second, .val (.long (own_pick (((p3.toUInt32 >>> ((6 : Int32) &&& 31).toUInt32).toInt32) &&& (3 : Int32)) q2)), .second, .unset, .unset, .unset, .unset, .unset, .unset, .unset, .unset, .unset, .unset, .unset]) rfl k) ?_
      show F (T209.setTop (mkF m 44 #[.val (.long q0), .second, .val (.long q1), .second, .val (.long q2), .second, .val (.int p3), .val (.int (p3 &&& (3 : Int32))), .val (.long (own_pick (((p3.toUInt32 >>> ((2 : Int32) &&& 31).toUInt32).toInt32) &&& (3 : Int32)) q0)), .second, .val (.long (own_pick (((p3.toUInt32 >>> ((4 : Int32) &&& 31).toUInt32).toInt32) &&& (3 : Int32)) q1)), .second, .val (.long (own_pick (((p3.toUInt32 >>> ((6 : Int32) &&& 31).toUInt32).toInt32) &&& (3 : Int32)) q2)), .second, .unset, .unset, .unset, .unset, .unset, .unset, .unset, .unset, .unset, .unset, .unset] []))
      rw [hc9301_206]
      refine bk (fun t k => XS.iload X209.here hx rfl (hb hby at_44) rfl k) ?_
      show F (T209.setTop (mkF m 46 #[.val (.long q0), .second, .val (.long q1), .second, .val (.long q2), .second, .val (.int p3), .val (.int (1 : Int32)), .val (.long (own_pick (((p3.toUInt32 >>> ((2 : Int32) &&& 31).toUInt32).toInt32) &&& (3 : Int32)) q0)), .second, .val (.long (own_pick (((p3.toUInt32 >>> ((4 : Int32) &&& 31).toUInt32).toInt32) &&& (3 : Int32)) q1)), .second, .val (.long (own_pick (((p3.toUInt32 >>> ((6 : Int32) &&& 31).toUInt32).toInt32) &&& (3 : Int32)) q2)), .second, .unset, .unset, .unset, .unset, .unset, .unset, .unset, .unset, .unset, .unset, .unset] [(.int (1 : Int32))]))
      obtain ⟨T210, h210, k210, X210, e210, E210, A210, st210⟩ := newP (aty := .long) X209 hx hZ w_4 e209 (g := (mkF m 46 #[.val (.long q0), .second, .val (.long q1), .second, .val (.long q2), .second, .val (.int p3), .val (.int (1 : Int32)), .val (.long (own_pick (((p3.toUInt32 >>> ((2 : Int32) &&& 31).toUInt32).toInt32) &&& (3 : Int32)) q0)), .second, .val (.long (own_pick (((p3.toUInt32 >>> ((4 : Int32) &&& 31).toUInt32).toInt32) &&& (3 : Int32)) q1)), .second, .val (.long (own_pick (((p3.toUInt32 >>> ((6 : Int32) &&& 31).toUInt32).toInt32) &&& (3 : Int32)) q2)), .second, .unset, .unset, .unset, .unset, .unset, .unset, .unset, .unset, .unset, .unset, .unset] [(.int (1 : Int32))])) rfl (hb hby at_46) rfl (by decide) (cap := 1) (by decide) (by decide) (by decide) (by decide)
      obtain ⟨b210, g210⟩ : ∃ z, z = h0.size := ⟨_, rfl⟩
      rw [← g210] at A210 st210
      have Gb210 : n0 ≤ b210 := Nat.le_trans Z0 (Nat.le_of_eq g210.symm)
      have f211 := Nat.le_trans Z0 E210.1
      have V_b210 : Arv Z h210 b210 k210 .long (1 : Int32) [(.long (0 : Int64)), (.long (0 : Int64)), (.long (0 : Int64))] (.long (0 : Int64)) := (Arv.new A210 (by decide)).pad (pad_rep [] (.long (0 : Int64)) 3)
      refine bk (fun t k => st210 t k) ?_
      show F (T210.setTop (mkF m 48 #[.val (.long q0), .second, .val (.long q1), .second, .val (.long q2), .second, .val (.int p3), .val (.int (1 : Int32)), .val (.long (own_pick (((p3.toUInt32 >>> ((2 : Int32) &&& 31).toUInt32).toInt32) &&& (3 : Int32)) q0)), .second, .val (.long (own_pick (((p3.toUInt32 >>> ((4 : Int32) &&& 31).toUInt32).toInt32) &&& (3 : Int32)) q1)), .second, .val (.long (own_pick (((p3.toUInt32 >>> ((6 : Int32) &&& 31).toUInt32).toInt32) &&& (3 : Int32)) q2)), .second, .unset, .unset, .unset, .unset, .unset, .unset, .unset, .unset, .unset, .unset, .unset] [(.ref b210)]))
      refine bk (fun t k => XS.astore X210.here hx rfl (hb hby at_48) rfl rfl (l' := #[.val (.long q0), .second, .val (.long q1), .second, .val (.long q2), .second, .val (.int p3), .val (.int (1 : Int32)), .val (.long (own_pick (((p3.toUInt32 >>> ((2 : Int32) &&& 31).toUInt32).toInt32) &&& (3 : Int32)) q0)), .second, .val (.long (own_pick (((p3.toUInt32 >>> ((4 : Int32) &&& 31).toUInt32).toInt32) &&& (3 : Int32)) q1)), .second, .val (.long (own_pick (((p3.toUInt32 >>> ((6 : Int32) &&& 31).toUInt32).toInt32) &&& (3 : Int32)) q2)), .second, .val (.ref b210), .unset, .unset, .unset, .unset, .unset, .unset, .unset, .unset, .unset, .unset]) rfl k) ?_
      refine bk (fun t k => XS.iload X210.here hx rfl (hb hby at_50) rfl k) ?_
      show F (T210.setTop (mkF m 52 #[.val (.long q0), .second, .val (.long q1), .second, .val (.long q2), .second, .val (.int p3), .val (.int (1 : Int32)), .val (.long (own_pick (((p3.toUInt32 >>> ((2 : Int32) &&& 31).toUInt32).toInt32) &&& (3 : Int32)) q0)), .second, .val (.long (own_pick (((p3.toUInt32 >>> ((4 : Int32) &&& 31).toUInt32).toInt32) &&& (3 : Int32)) q1)), .second, .val (.long (own_pick (((p3.toUInt32 >>> ((6 : Int32) &&& 31).toUInt32).toInt32) &&& (3 : Int32)) q2)), .second, .val (.ref b210), .unset, .unset, .unset, .unset, .unset, .unset, .unset, .unset, .unset, .unset] [(.int (1 : Int32))]))
      refine bk (fun t k => XS.ifNo X210.here hx rfl (hb hby at_52) rfl ((if0 _ _).trans (tlt (by decide : (0 : Int32) < (1 : Int32))).2.2.2) k) ?_
      refine bk (fun t k => XS.aload X210.here hx rfl (hb hby at_55) rfl rfl k) ?_
      refine bk (fun t k => XS.iconst X210.here hx rfl (hb hby at_57) k) ?_
      refine bk (fun t k => XS.lload X210.here hx rfl (hb hby at_58) rfl k) ?_
      show F (T210.setTop (mkF m 60 #[.val (.long q0), .second, .val (.long q1), .second, .val (.long q2), .second, .val (.int p3), .val (.int (1 : Int32)), .val (.long (own_pick (((p3.toUInt32 >>> ((2 : Int32) &&& 31).toUInt32).toInt32) &&& (3 : Int32)) q0)), .second, .val (.long (own_pick (((p3.toUInt32 >>> ((4 : Int32) &&& 31).toUInt32).toInt32) &&& (3 : Int32)) q1)), .second, .val (.long (own_pick (((p3.toUInt32 >>> ((6 : Int32) &&& 31).toUInt32).toInt32) &&& (3 : Int32)) q2)), .second, .val (.ref b210), .unset, .unset, .unset, .unset, .unset, .unset, .unset, .unset, .unset, .unset] [(.long (own_pick (((p3.toUInt32 >>> ((2 : Int32) &&& 31).toUInt32).toInt32) &&& (3 : Int32)) q0)), (.int (0 : Int32)), (.ref b210)]))
      have vv212 := V_b210
      obtain ⟨cl212, Ar212, q212, S212, M212, H212, G212⟩ := vv212
      have hin212 : ¬ ((0 : Int32) < 0 ∨ cl212.slots.size ≤ ((0 : Int32)).toNatClampNeg) := inb_of S212 ⟨by decide, by decide⟩
      obtain ⟨T212, h212, X212, e212, W212, st212⟩ := stJ X210 hx hZ e210 Ar212 (j := (0 : Int32)) hin212 (g := (mkF m 60 #[.val (.long q0), .second, .val (.long q1), .second, .val (.long q2), .second, .val (.int p3), .val (.int (1 : Int32)), .val (.long (own_pick (((p3.toUInt32 >>> ((2 : Int32) &&& 31).toUInt32).toInt32) &&& (3 : Int32)) q0)), .second, .val (.long (own_pick (((p3.toUInt32 >>> ((4 : Int32) &&& 31).toUInt32).toInt32) &&& (3 : Int32)) q1)), .second, .val (.long (own_pick (((p3.toUInt32 >>> ((6 : Int32) &&& 31).toUInt32).toInt32) &&& (3 : Int32)) q2)), .second, .val (.ref b210), .unset, .unset, .unset, .unset, .unset, .unset, .unset, .unset, .unset, .unset] [(.long (own_pick (((p3.toUInt32 >>> ((2 : Int32) &&& 31).toUInt32).toInt32) &&& (3 : Int32)) q0)), (.int (0 : Int32)), (.ref b210)])) rfl rfl (hb hby at_60)
      have V_b210_212 : Arv Z h212 b210 k210 .long (1 : Int32) [(.long (own_pick (((p3.toUInt32 >>> ((2 : Int32) &&& 31).toUInt32).toInt32) &&& (3 : Int32)) q0)), (.long (0 : Int64)), (.long (0 : Int64))] (.long (0 : Int64)) := Arv.set Ar212 q212 S212 M212 H212 G212 rfl W212 0 rfl (Nat.le_of_ble_eq_true rfl)
      have f213 := Nat.le_trans f211 (Keep.of_wr W212).1
      have N212 := Fr.snoc X212 N209 Gb210
      refine bk (fun t k => st212 t k) ?_
      refine bk (fun t k => XS.iload X212.here hx rfl (hb hby at_61) rfl k) ?_
      refine bk (fun t k => XS.iconst X212.here hx rfl (hb hby at_63) k) ?_
      show F (T212.setTop (mkF m 64 #[.val (.long q0), .second, .val (.long q1), .second, .val (.long q2), .second, .val (.int p3), .val (.int (1 : Int32)), .val (.long (own_pick (((p3.toUInt32 >>> ((2 : Int32) &&& 31).toUInt32).toInt32) &&& (3 : Int32)) q0)), .second, .val (.long (own_pick (((p3.toUInt32 >>> ((4 : Int32) &&& 31).toUInt32).toInt32) &&& (3 : Int32)) q1)), .second, .val (.long (own_pick (((p3.toUInt32 >>> ((6 : Int32) &&& 31).toUInt32).toInt32) &&& (3 : Int32)) q2)), .second, .val (.ref b210), .unset, .unset, .unset, .unset, .unset, .unset, .unset, .unset, .unset, .unset] [(.int (1 : Int32)), (.int (1 : Int32))]))
      refine bk (fun t k => XS.icmpYes X212.here hx rfl (pc0 := 64) (pc' := 73) rfl (hb hby at_64) rfl (flt (by decide : ¬ ((1 : Int32) < (1 : Int32)))).2.2.2 (by decide) (by decide) k) ?_
      refine bk (fun t k => XS.iload X212.here hx rfl (hb hby at_73) rfl k) ?_
      refine bk (fun t k => XS.iconst X212.here hx rfl (hb hby at_75) k) ?_
      show F (T212.setTop (mkF m 76 #[.val (.long q0), .second, .val (.long q1), .second, .val (.long q2), .second, .val (.int p3), .val (.int (1 : Int32)), .val (.long (own_pick (((p3.toUInt32 >>> ((2 : Int32) &&& 31).toUInt32).toInt32) &&& (3 : Int32)) q0)), .second, .val (.long (own_pick (((p3.toUInt32 >>> ((4 : Int32) &&& 31).toUInt32).toInt32) &&& (3 : Int32)) q1)), .second, .val (.long (own_pick (((p3.toUInt32 >>> ((6 : Int32) &&& 31).toUInt32).toInt32) &&& (3 : Int32)) q2)), .second, .val (.ref b210), .unset, .unset, .unset, .unset, .unset, .unset, .unset, .unset, .unset, .unset] [(.int (2 : Int32)), (.int (1 : Int32))]))
      refine bk (fun t k => XS.icmpYes X212.here hx rfl (pc0 := 76) (pc' := 85) rfl (hb hby at_76) rfl (flt (by decide : ¬ ((2 : Int32) < (1 : Int32)))).2.2.2 (by decide) (by decide) k) ?_
      refine bk (fun t k => XS.iload X212.here hx rfl (hb hby at_85) rfl k) ?_
      show F (T212.setTop (mkF m 87 #[.val (.long q0), .second, .val (.long q1), .second, .val (.long q2), .second, .val (.int p3), .val (.int (1 : Int32)), .val (.long (own_pick (((p3.toUInt32 >>> ((2 : Int32) &&& 31).toUInt32).toInt32) &&& (3 : Int32)) q0)), .second, .val (.long (own_pick (((p3.toUInt32 >>> ((4 : Int32) &&& 31).toUInt32).toInt32) &&& (3 : Int32)) q1)), .second, .val (.long (own_pick (((p3.toUInt32 >>> ((6 : Int32) &&& 31).toUInt32).toInt32) &&& (3 : Int32)) q2)), .second, .val (.ref b210), .unset, .unset, .unset, .unset, .unset, .unset, .unset, .unset, .unset, .unset] [(.int (1 : Int32))]))
      refine bk (fun t k => XS.ifNo X212.here hx rfl (hb hby at_87) rfl ((if0 _ _).trans (tlt (by decide : (0 : Int32) < (1 : Int32))).2.2.2) k) ?_
      refine bk (fun t k => XS.lload X212.here hx rfl (hb hby at_90) rfl k) ?_
      refine bk (fun t k => XS.goto X212.here hx rfl (pc0 := 92) (pc' := 96) rfl (hb hby at_92) (by decide) (by decide) k) ?_
      show F (T212.setTop (mkF m 96 #[.val (.long q0), .second, .val (.long q1), .second, .val (.long q2), .second, .val (.int p3), .val (.int (1 : Int32)), .val (.long (own_pick (((p3.toUInt32 >>> ((2 : Int32) &&& 31).toUInt32).toInt32) &&& (3 : Int32)) q0)), .second, .val (.long (own_pick (((p3.toUInt32 >>> ((4 : Int32) &&& 31).toUInt32).toInt32) &&& (3 : Int32)) q1)), .second, .val (.long (own_pick (((p3.toUInt32 >>> ((6 : Int32) &&& 31).toUInt32).toInt32) &&& (3 : Int32)) q2)), .second, .val (.ref b210), .unset, .unset, .unset, .unset, .unset, .unset, .unset, .unset, .unset, .unset] [(.long (own_pick (((p3.toUInt32 >>> ((2 : Int32) &&& 31).toUInt32).toInt32) &&& (3 : Int32)) q0))]))
      refine bk (fun t k => XS.lstore X212.here hx rfl (hb hby at_96) rfl (l' := #[.val (.long q0), .second, .val (.long q1), .second, .val (.long q2), .second, .val (.int p3), .val (.int (1 : Int32)), .val (.long (own_pick (((p3.toUInt32 >>> ((2 : Int32) &&& 31).toUInt32).toInt32) &&& (3 : Int32)) q0)), .second, .val (.long (own_pick (((p3.toUInt32 >>> ((4 : Int32) &&& 31).toUInt32).toInt32) &&& (3 : Int32)) q1)), .second, .val (.long (own_pick (((p3.toUInt32 >>> ((6 : Int32) &&& 31).toUInt32).toInt32) &&& (3 : Int32)) q2)), .second, .val (.ref b210), .val (.long (own_pick (((p3.toUInt32 >>> ((2 : Int32) &&& 31).toUInt32).toInt32) &&& (3 : Int32)) q0)), .second, .unset, .unset, .unset, .unset, .unset, .unset, .unset, .unset]) rfl k) ?_
      refine bk (fun t k => XS.iload X212.here hx rfl (hb hby at_98) rfl k) ?_
      refine bk (fun t k => XS.iconst X212.here hx rfl (hb hby at_100) k) ?_
      show F (T212.setTop (mkF m 101 #[.val (.long q0), .second, .val (.long q1), .second, .val (.long q2), .second, .val (.int p3), .val (.int (1 : Int32)), .val (.long (own_pick (((p3.toUInt32 >>> ((2 : Int32) &&& 31).toUInt32).toInt32) &&& (3 : Int32)) q0)), .second, .val (.long (own_pick (((p3.toUInt32 >>> ((4 : Int32) &&& 31).toUInt32).toInt32) &&& (3 : Int32)) q1)), .second, .val (.long (own_pick (((p3.toUInt32 >>> ((6 : Int32) &&& 31).toUInt32).toInt32) &&& (3 : Int32)) q2)), .second, .val (.ref b210), .val (.long (own_pick (((p3.toUInt32 >>> ((2 : Int32) &&& 31).toUInt32).toInt32) &&& (3 : Int32)) q0)), .second, .unset, .unset, .unset, .unset, .unset, .unset, .unset, .unset] [(.int (1 : Int32)), (.int (1 : Int32))]))
      refine bk (fun t k => XS.icmpYes X212.here hx rfl (pc0 := 101) (pc' := 109) rfl (hb hby at_101) rfl (flt (by decide : ¬ ((1 : Int32) < (1 : Int32)))).2.2.2 (by decide) (by decide) k) ?_
      refine bk (fun t k => XS.lconst X212.here hx rfl (hb hby at_109) k) ?_
      show F (T212.setTop (mkF m 110 #[.val (.long q0), .second, .val (.long q1), .second, .val (.long q2), .second, .val (.int p3), .val (.int (1 : Int32)), .val (.long (own_pick (((p3.toUInt32 >>> ((2 : Int32) &&& 31).toUInt32).toInt32) &&& (3 : Int32)) q0)), .second, .val (.long (own_pick (((p3.toUInt32 >>> ((4 : Int32) &&& 31).toUInt32).toInt32) &&& (3 : Int32)) q1)), .second, .val (.long (own_pick (((p3.toUInt32 >>> ((6 : Int32) &&& 31).toUInt32).toInt32) &&& (3 : Int32)) q2)), .second, .val (.ref b210), .val (.long (own_pick (((p3.toUInt32 >>> ((2 : Int32) &&& 31).toUInt32).toInt32) &&& (3 : Int32)) q0)), .second, .unset, .unset, .unset, .unset, .unset, .unset, .unset, .unset] [(.long (0 : Int64))]))
      refine bk (fun t k => XS.lstore X212.here hx rfl (hb hby at_110) rfl (l' := #[.val (.long q0), .second, .val (.long q1), .second, .val (.long q2), .second, .val (.int p3), .val (.int (1 : Int32)), .val (.long (own_pick (((p3.toUInt32 >>> ((2 : Int32) &&& 31).toUInt32).toInt32) &&& (3 : Int32)) q0)), .second, .val (.long (own_pick (((p3.toUInt32 >>> ((4 : Int32) &&& 31).toUInt32).toInt32) &&& (3 : Int32)) q1)), .second, .val (.long (own_pick (((p3.toUInt32 >>> ((6 : Int32) &&& 31).toUInt32).toInt32) &&& (3 : Int32)) q2)), .second, .val (.ref b210), .val (.long (own_pick (((p3.toUInt32 >>> ((2 : Int32) &&& 31).toUInt32).toInt32) &&& (3 : Int32)) q0)), .second, .val (.long (0 : Int64)), .second, .unset, .unset, .unset, .unset, .unset, .unset]) rfl k) ?_
      refine bk (fun t k => XS.iload X212.here hx rfl (hb hby at_112) rfl k) ?_
      refine bk (fun t k => XS.iconst X212.here hx rfl (hb hby at_114) k) ?_
      show F (T212.setTop (mkF m 115 #[.val (.long q0), .second, .val (.long q1), .second, .val (.long q2), .second, .val (.int p3), .val (.int (1 : Int32)), .val (.long (own_pick (((p3.toUInt32 >>> ((2 : Int32) &&& 31).toUInt32).toInt32) &&& (3 : Int32)) q0)), .second, .val (.long (own_pick (((p3.toUInt32 >>> ((4 : Int32) &&& 31).toUInt32).toInt32) &&& (3 : Int32)) q1)), .second, .val (.long (own_pick (((p3.toUInt32 >>> ((6 : Int32) &&& 31).toUInt32).toInt32) &&& (3 : Int32)) q2)), .second, .val (.ref b210), .val (.long (own_pick (((p3.toUInt32 >>> ((2 : Int32) &&& 31).toUInt32).toInt32) &&& (3 : Int32)) q0)), .second, .val (.long (0 : Int64)), .second, .unset, .unset, .unset, .unset, .unset, .unset] [(.int (2 : Int32)), (.int (1 : Int32))]))
      refine bk (fun t k => XS.icmpYes X212.here hx rfl (pc0 := 115) (pc' := 123) rfl (hb hby at_115) rfl (flt (by decide : ¬ ((2 : Int32) < (1 : Int32)))).2.2.2 (by decide) (by decide) k) ?_
      refine bk (fun t k => XS.lconst X212.here hx rfl (hb hby at_123) k) ?_
      show F (T212.setTop (mkF m 124 #[.val (.long q0), .second, .val (.long q1), .second, .val (.long q2), .second, .val (.int p3), .val (.int (1 : Int32)), .val (.long (own_pick (((p3.toUInt32 >>> ((2 : Int32) &&& 31).toUInt32).toInt32) &&& (3 : Int32)) q0)), .second, .val (.long (own_pick (((p3.toUInt32 >>> ((4 : Int32) &&& 31).toUInt32).toInt32) &&& (3 : Int32)) q1)), .second, .val (.long (own_pick (((p3.toUInt32 >>> ((6 : Int32) &&& 31).toUInt32).toInt32) &&& (3 : Int32)) q2)), .second, .val (.ref b210), .val (.long (own_pick (((p3.toUInt32 >>> ((2 : Int32) &&& 31).toUInt32).toInt32) &&& (3 : Int32)) q0)), .second, .val (.long (0 : Int64)), .second, .unset, .unset, .unset, .unset, .unset, .unset] [(.long (0 : Int64))]))
      refine bk (fun t k => XS.lstore X212.here hx rfl (hb hby at_124) rfl (l' := #[.val (.long q0), .second, .val (.long q1), .second, .val (.long q2), .second, .val (.int p3), .val (.int (1 : Int32)), .val (.long (own_pick (((p3.toUInt32 >>> ((2 : Int32) &&& 31).toUInt32).toInt32) &&& (3 : Int32)) q0)), .second, .val (.long (own_pick (((p3.toUInt32 >>> ((4 : Int32) &&& 31).toUInt32).toInt32) &&& (3 : Int32)) q1)), .second, .val (.long (own_pick (((p3.toUInt32 >>> ((6 : Int32) &&& 31).toUInt32).toInt32) &&& (3 : Int32)) q2)), .second, .val (.ref b210), .val (.long (own_pick (((p3.toUInt32 >>> ((2 : Int32) &&& 31).toUInt32).toInt32) &&& (3 : Int32)) q0)), .second, .val (.long (0 : Int64)), .second, .val (.long (0 : Int64)), .second, .unset, .unset, .unset, .unset]) rfl k) ?_
      show F (T212.setTop (mkF m 126 #[.val (.long q0), .second, .val (.long q1), .second, .val (.long q2), .second, .val (.int p3), .val (.int (1 : Int32)), .val (.long (own_pick (((p3.toUInt32 >>> ((2 : Int32) &&& 31).toUInt32).toInt32) &&& (3 : Int32)) q0)), .second, .val (.long (own_pick (((p3.toUInt32 >>> ((4 : Int32) &&& 31).toUInt32).toInt32) &&& (3 : Int32)) q1)), .second, .val (.long (own_pick (((p3.toUInt32 >>> ((6 : Int32) &&& 31).toUInt32).toInt32) &&& (3 : Int32)) q2)), .second, .val (.ref b210), .val (.long (own_pick (((p3.toUInt32 >>> ((2 : Int32) &&& 31).toUInt32).toInt32) &&& (3 : Int32)) q0)), .second, .val (.long (0 : Int64)), .second, .val (.long (0 : Int64)), .second, .unset, .unset, .unset, .unset] []))
      exact J126 _ _ h212 (X212.more (Nat.le_refl _) (by decide)) e212 N212 _ _ _ _ _ _ _ _ _ _ f213 V_b210_212 (Or.inr (Or.inl ⟨rfl, rfl, rfl⟩))
    · by_cases hc9302_214 : (p3 &&& (3 : Int32)) = (2 : Int32)
      · refine bk (fun t k => XS.iload X0.here hx rfl (hb hby at_0) rfl k) ?_
        refine bk (fun t k => XS.iconst X0.here hx rfl (hb hby at_2) k) ?_
        show F (s₁.setTop (mkF m 3 #[.val (.long q0), .second, .val (.long q1), .second, .val (.long q2), .second, .val (.int p3), .unset, .unset, .unset, .unset, .unset, .unset, .unset, .unset, .unset, .unset, .unset, .unset, .unset, .unset, .unset, .unset, .unset, .unset] [(.int (3 : Int32)), (.int p3)]))
        refine bk (fun t k => XS.iand X0.here hx rfl (hb hby at_3) rfl k) ?_
        show F (s₁.setTop (mkF m 4 #[.val (.long q0), .second, .val (.long q1), .second, .val (.long q2), .second, .val (.int p3), .unset, .unset, .unset, .unset, .unset, .unset, .unset, .unset, .unset, .unset, .unset, .unset, .unset, .unset, .unset, .unset, .unset, .unset] [(.int (p3 &&& (3 : Int32)))]))
        refine bk (fun t k => XS.istore X0.here hx rfl (hb hby at_4) rfl (l' := #[.val (.long q0), .second, .val (.long q1), .second, .val (.long q2), .second, .val (.int p3), .val (.int (p3 &&& (3 : Int32))), .unset, .unset, .unset, .unset, .unset, .unset, .unset, .unset, .unset, .unset, .unset, .unset, .unset, .unset, .unset, .unset, .unset]) rfl k) ?_
        refine bk (fun t k => XS.iload X0.here hx rfl (hb hby at_6) rfl k) ?_
        refine bk (fun t k => XS.iconst X0.here hx rfl (hb hby at_8) k) ?_
        show F (s₁.setTop (mkF m 9 #[.val (.long q0), .second, .val (.long q1), .second, .val (.long q2), .second, .val (.int p3), .val (.int (p3 &&& (3 : Int32))), .unset, .unset, .unset, .unset, .unset, .unset, .unset, .unset, .unset, .unset, .unset, .unset, .unset, .unset, .unset, .unset, .unset] [(.int (2 : Int32)), (.int p3)]))
        refine bk (fun t k => XS.iushr X0.here hx rfl (hb hby at_9) rfl k) ?_
        refine bk (fun t k => XS.iconst X0.here hx rfl (hb hby at_10) k) ?_
        show F (s₁.setTop (mkF m 11 #[.val (.long q0), .second, .val (.long q1), .second, .val (.long q2), .second, .val (.int p3), .val (.int (p3 &&& (3 : Int32))), .unset, .unset, .unset, .unset, .unset, .unset, .unset, .unset, .unset, .unset, .unset, .unset, .unset, .unset, .unset, .unset, .unset] [(.int (3 : Int32)), (.int ((p3.toUInt32 >>> ((2 : Int32) &&& 31).toUInt32).toInt32))]))
        refine bk (fun t k => XS.iand X0.here hx rfl (hb hby at_11) rfl k) ?_
        refine bk (fun t k => XS.lloadN X0.here hx rfl (hb hby at_12) rfl k) ?_
        show F (s₁.setTop (mkF m 13 #[.val (.long q0), .second, .val (.long q1), .second, .val (.long q2), .second, .val (.int p3), .val (.int (p3 &&& (3 : Int32))), .unset, .unset, .unset, .unset, .unset, .unset, .unset, .unset, .unset, .unset, .unset, .unset, .unset, .unset, .unset, .unset, .unset] [(.long q0), (.int (((p3.toUInt32 >>> ((2 : Int32) &&& 31).toUInt32).toInt32) &&& (3 : Int32)))]))
        obtain ⟨_, _, ⟨T215, L215, k215, n215⟩, -, X215, ⟨Lc215, hQ215, l215, y215, z215⟩, st215⟩ := Jvm.LawKit.callS X0 hx (y := (⟨"com/example/lone1/lone1/solve/SweepOrderHasNextPinLaw", "pick", "(IJ)J"⟩ : MethodName)) hown (mvT hZ w_0) (mvT hZ w_1) (mvT hZ w_2) (mvT hZ w_3) (by decide) (backOf (W := 0) (rm1 l Z a0 hw [] (((p3.toUInt32 >>> ((2 : Int32) &&& 31).toUInt32).toInt32) &&& (3 : Int32)) q0 h0 n0 Z0) hZ w_3 w_2 (by decide) (by decide)) (g := (mkF m 13 #[.val (.long q0), .second, .val (.long q1), .second, .val (.long q2), .second, .val (.int p3), .val (.int (p3 &&& (3 : Int32))), .unset, .unset, .unset, .unset, .unset, .unset, .unset, .unset, .unset, .unset, .unset, .unset, .unset, .unset, .unset, .unset, .unset] [(.long q0), (.int (((p3.toUInt32 >>> ((2 : Int32) &&& 31).toUInt32).toInt32) &&& (3 : Int32)))])) rfl (by rw [hml]; rfl) (argsL := [(.int (((p3.toUInt32 >>> ((2 : Int32) &&& 31).toUInt32).toInt32) &&& (3 : Int32))), (.long q0)]) (rest := []) (lenOf pd0__IJ_J rfl) rfl (by show 2 * 0 + _ ≤ _; exact Nat.le_of_eq rfl) (hb hby at_13) (fun _ _ => ⟨rfl, e0, (by decide : 0 + 0 ≤ _), (by decide : 0 + 0 ≤ _)⟩)
        dsimp only [Pt.U, Pt.locs, Pt.cells, Pt.slots] at X215 l215 y215 z215 st215 hQ215
        subst l215 y215 z215
        obtain ⟨rfl, N215q, e215⟩ := hQ215
        have N215 := Fr.app N0 N215q
        refine bk (fun t k => st215 t k) ?_
        show F (T215.setTop (mkF m 16 #[.val (.long q0), .second, .val (.long q1), .second, .val (.long q2), .second, .val (.int p3), .val (.int (p3 &&& (3 : Int32))), .unset, .unset, .unset, .unset, .unset, .unset, .unset, .unset, .unset, .unset, .unset, .unset, .unset, .unset, .unset, .unset, .unset] [(.long (own_pick (((p3.toUInt32 >>> ((2 : Int32) &&& 31).toUInt32).toInt32) &&& (3 : Int32)) q0))]))
        refine bk (fun t k => XS.lstore X215.here hx rfl (hb hby at_16) rfl (l' := #[.val (.long q0), .second, .val (.long q1), .second, .val (.long q2), .second, .val (.int p3), .val (.int (p3 &&& (3 : Int32))), .val (.long (own_pick (((p3.toUInt32 >>> ((2 : Int32) &&& 31).toUInt32).toInt32) &&& (3 : Int32)) q0)), .second, .unset, .unset, .unset, .unset, .unset, .unset, .unset, .unset, .unset, .unset, .unset, .unset, .unset, .unset, .unset]) rfl k) ?_
        refine bk (fun t k => XS.iload X215.here hx rfl (hb hby at_18) rfl k) ?_
        refine bk (fun t k => XS.iconst X215.here hx rfl (hb hby at_20) k) ?_
        show F (T215.setTop (mkF m 21 #[.val (.long q0), .second, .val (.long q1), .second, .val (.long q2), .second, .val (.int p3), .val (.int (p3 &&& (3 : Int32))), .val (.long (own_pick (((p3.toUInt32 >>> ((2 : Int32) &&& 31).toUInt32).toInt32) &&& (3 : Int32)) q0)), .second, .unset, .unset, .unset, .unset, .unset, .unset, .unset, .unset, .unset, .unset, .unset, .unset, .unset, .unset, .unset] [(.int (4 : Int32)), (.int p3)]))
        refine bk (fun t k => XS.iushr X215.here hx rfl (hb hby at_21) rfl k) ?_
        refine bk (fun t k => XS.iconst X215.here hx rfl (hb hby at_22) k) ?_
        show F (T215.setTop (mkF m 23 #[.val (.long q0), .second, .val (.long q1), .second, .val (.long q2), .second, .val (.int p3), .val (.int (p3 &&& (3 : Int32))), .val (.long (own_pick (((p3.toUInt32 >>> ((2 : Int32) &&& 31).toUInt32).toInt32) &&& (3 : Int32)) q0)), .second, .unset, .unset, .unset, .unset, .unset, .unset, .unset, .unset, .unset, .unset, .unset, .unset, .unset, .unset, .unset] [(.int (3 : Int32)), (.int ((p3.toUInt32 >>> ((4 : Int32) &&& 31).toUInt32).toInt32))]))
        refine bk (fun t k => XS.iand X215.here hx rfl (hb hby at_23) rfl k) ?_
        refine bk (fun t k => XS.lloadN X215.here hx rfl (hb hby at_24) rfl k) ?_
        show F (T215.setTop (mkF m 25 #[.val (.long q0), .second, .val (.long q1), .second, .val (.long q2), .second, .val (.int p3), .val (.int (p3 &&& (3 : Int32))), .val (.long (own_pick (((p3.toUInt32 >>> ((2 : Int32) &&& 31).toUInt32).toInt32) &&& (3 : Int32)) q0)), .second, .unset, .unset, .unset, .unset, .unset, .unset, .unset, .unset, .unset, .unset, .unset, .unset, .unset, .unset, .unset] [(.long q1), (.int (((p3.toUInt32 >>> ((4 : Int32) &&& 31).toUInt32).toInt32) &&& (3 : Int32)))]))
        obtain ⟨_, _, ⟨T216, L216, k216, n216⟩, -, X216, ⟨Lc216, hQ216, l216, y216, z216⟩, st216⟩ := Jvm.LawKit.callS X215 hx (y := (⟨"com/example/lone1/lone1/solve/SweepOrderHasNextPinLaw", "pick", "(IJ)J"⟩ : MethodName)) hown (mvT hZ w_0) (mvT hZ w_1) (mvT hZ w_2) (mvT hZ w_3) (by decide) (backOf (W := 0) (rm1 l Z a0 hw [] (((p3.toUInt32 >>> ((4 : Int32) &&& 31).toUInt32).toInt32) &&& (3 : Int32)) q1 h0 n0 Z0) hZ w_3 w_2 (by decide) (by decide)) (g := (mkF m 25 #[.val (.long q0), .second, .val (.long q1), .second, .val (.long q2), .second, .val (.int p3), .val (.int (p3 &&& (3 : Int32))), .val (.long (own_pick (((p3.toUInt32 >>> ((2 : Int32) &&& 31).toUInt32).toInt32) &&& (3 : Int32)) q0)), .second, .unset, .unset, .unset, .unset, .unset, .unset, .unset, .unset, .unset, .unset, .unset, .unset, .unset, .unset, .unset] [(.long q1), (.int (((p3.toUInt32 >>> ((4 : Int32) &&& 31).toUInt32).toInt32) &&& (3 : Int32)))])) rfl (by rw [hml]; rfl) (argsL := [(.int (((p3.toUInt32 >>> ((4 : Int32) &&& 31).toUInt32).toInt32) &&& (3 : Int32))), (.long q1)]) (rest := []) (lenOf pd0__IJ_J rfl) rfl (by show 2 * 0 + _ ≤ _; exact Nat.le_of_eq rfl) (hb hby at_25) (fun _ _ => ⟨rfl, e215, (by decide : 0 + 0 ≤ _), (by decide : 0 + 0 ≤ _)⟩)
        dsimp only [Pt.U, Pt.locs, Pt.cells, Pt.slots] at X216 l216 y216 z216 st216 hQ216
        subst l216 y216 z216
        obtain ⟨rfl, N216q, e216⟩ := hQ216
        have N216 := Fr.app N215 N216q
        refine bk (fun t k => st216 t k) ?_
        show F (T216.setTop (mkF m 28 #[.val (.long q0), .second, .val (.long q1), .second, .val (.long q2), .second, .val (.int p3), .val (.int (p3 &&& (3 : Int32))), .val (.long (own_pick (((p3.toUInt32 >>> ((2 : Int32) &&& 31).toUInt32).toInt32) &&& (3 : Int32)) q0)), .second, .unset, .unset, .unset, .unset, .unset, .unset, .unset, .unset, .unset, .unset, .unset, .unset, .unset, .unset, .unset] [(.long (own_pick (((p3.toUInt32 >>> ((4 : Int32) &&& 31).toUInt32).toInt32) &&& (3 : Int32)) q1))]))
        refine bk (fun t k => XS.lstore X216.here hx rfl (hb hby at_28) rfl (l' := #[.val (.long q0), .second, .val (.long q1), .second, .val (.long q2), .second, .val (.int p3), .val (.int (p3 &&& (3 : Int32))), .val (.long (own_pick (((p3.toUInt32 >>> ((2 : Int32) &&& 31).toUInt32).toInt32) &&& (3 : Int32)) q0)), .second, .val (.long (own_pick (((p3.toUInt32 >>> ((4 : Int32) &&& 31).toUInt32).toInt32) &&& (3 : Int32)) q1)), .second, .unset, .unset, .unset, .unset, .unset, .unset, .unset, .unset, .unset, .unset, .unset, .unset, .unset]) rfl k) ?_
        refine bk (fun t k => XS.iload X216.here hx rfl (hb hby at_30) rfl k) ?_
        refine bk (fun t k => XS.bipush X216.here hx rfl (hb hby at_32) k) ?_
        show F (T216.setTop (mkF m 34 #[.val (.long q0), .second, .val (.long q1), .second, .val (.long q2), .second, .val (.int p3), .val (.int (p3 &&& (3 : Int32))), .val (.long (own_pick (((p3.toUInt32 >>> ((2 : Int32) &&& 31).toUInt32).toInt32) &&& (3 : Int32)) q0)), .second, .val (.long (own_pick (((p3.toUInt32 >>> ((4 : Int32) &&& 31).toUInt32).toInt32) &&& (3 : Int32)) q1)), .second, .unset, .unset, .unset, .unset, .unset, .unset, .unset, .unset, .unset, .unset, .unset, .unset, .unset] [(.int (6 : Int32)), (.int p3)]))
        refine bk (fun t k => XS.iushr X216.here hx rfl (hb hby at_34) rfl k) ?_
        refine bk (fun t k => XS.iconst X216.here hx rfl (hb hby at_35) k) ?_
        show F (T216.setTop (mkF m 36 #[.val (.long q0), .second, .val (.long q1), .second, .val (.long q2), .second, .val (.int p3), .val (.int (p3 &&& (3 : Int32))), .val (.long (own_pick (((p3.toUInt32 >>> ((2 : Int32) &&& 31).toUInt32).toInt32) &&& (3 : Int32)) q0)), .second, .val (.long (own_pick (((p3.toUInt32 >>> ((4 : Int32) &&& 31).toUInt32).toInt32) &&& (3 : Int32)) q1)), .second, .unset, .unset, .unset, .unset, .unset, .unset, .unset, .unset, .unset, .unset, .unset, .unset, .unset] [(.int (3 : Int32)), (.int ((p3.toUInt32 >>> ((6 : Int32) &&& 31).toUInt32).toInt32))]))
        refine bk (fun t k => XS.iand X216.here hx rfl (hb hby at_36) rfl k) ?_
        refine bk (fun t k => XS.lload X216.here hx rfl (hb hby at_37) rfl k) ?_
        show F (T216.setTop (mkF m 39 #[.val (.long q0), .second, .val (.long q1), .second, .val (.long q2), .second, .val (.int p3), .val (.int (p3 &&& (3 : Int32))), .val (.long (own_pick (((p3.toUInt32 >>> ((2 : Int32) &&& 31).toUInt32).toInt32) &&& (3 : Int32)) q0)), .second, .val (.long (own_pick (((p3.toUInt32 >>> ((4 : Int32) &&& 31).toUInt32).toInt32) &&& (3 : Int32)) q1)), .second, .unset, .unset, .unset, .unset, .unset, .unset, .unset, .unset, .unset, .unset, .unset, .unset, .unset] [(.long q2), (.int (((p3.toUInt32 >>> ((6 : Int32) &&& 31).toUInt32).toInt32) &&& (3 : Int32)))]))
        obtain ⟨_, _, ⟨T217, L217, k217, n217⟩, -, X217, ⟨Lc217, hQ217, l217, y217, z217⟩, st217⟩ := Jvm.LawKit.callS X216 hx (y := (⟨"com/example/lone1/lone1/solve/SweepOrderHasNextPinLaw", "pick", "(IJ)J"⟩ : MethodName)) hown (mvT hZ w_0) (mvT hZ w_1) (mvT hZ w_2) (mvT hZ w_3) (by decide) (backOf (W := 0) (rm1 l Z a0 hw [] (((p3.toUInt32 >>> ((6 : Int32) &&& 31).toUInt32).toInt32) &&& (3 : Int32)) q2 h0 n0 Z0) hZ w_3 w_2 (by decide) (by decide)) (g := (mkF m 39 #[.val (.long q0), .second, .val (.long q1), .second, .val (.long q2), .second, .val (.int p3), .val (.int (p3 &&& (3 : Int32))), .val (.long (own_pick (((p3.toUInt32 >>> ((2 : Int32) &&& 31).toUInt32).toInt32) &&& (3 : Int32)) q0)), .second, .val (.long (own_pick (((p3.toUInt32 >>> ((4 : Int32) &&& 31).toUInt32).toInt32) &&& (3 : Int32)) q1)), .second, .unset, .unset, .unset, .unset, .unset, .unset, .unset, .unset, .unset, .unset, .unset, .unset, .unset] [(.long q2), (.int (((p3.toUInt32 >>> ((6 : Int32) &&& 31).toUInt32).toInt32) &&& (3 : Int32)))])) rfl (by rw [hml]; rfl) (argsL := [(.int (((p3.toUInt32 >>> ((6 : Int32) &&& 31).toUInt32).toInt32) &&& (3 : Int32))), (.long q2)]) (rest := []) (lenOf pd0__IJ_J rfl) rfl (by show 2 * 0 + _ ≤ _; exact Nat.le_of_eq rfl) (hb hby at_39) (fun _ _ => ⟨rfl, e216, (by decide : 0 + 0 ≤ _), (by decide : 0 + 0 ≤ _)⟩)
        dsimp only [Pt.U, Pt.locs, Pt.cells, Pt.slots] at X217 l217 y217 z217 st217 hQ217
        subst l217 y217 z217
        obtain ⟨rfl, N217q, e217⟩ := hQ217
        have N217 := Fr.app N216 N217q
        refine bk (fun t k => st217 t k) ?_
        show F (T217.setTop (mkF m 42 #[.val (.long q0), .second, .val (.long q1), .second, .val (.long q2), .second, .val (.int p3), .val (.int (p3 &&& (3 : Int32))), .val (.long (own_pick (((p3.toUInt32 >>> ((2 : Int32) &&& 31).toUInt32).toInt32) &&& (3 : Int32)) q0)), .second, .val (.long (own_pick (((p3.toUInt32 >>> ((4 : Int32) &&& 31).toUInt32).toInt32) &&& (3 : Int32)) q1)), .second, .unset, .unset, .unset, .unset, .unset, .unset, .unset, .unset, .unset, .unset, .unset, .unset, .unset] [(.long (own_pick (((p3.toUInt32 >>> ((6 : Int32) &&& 31).toUInt32).toInt32) &&& (3 : Int32)) q2))]))
        refine bk (fun t k => XS.lstore X217.here hx rfl (hb hby at_42) rfl (l' := #[.val (.long q0), .second, .val (.long q1), .second, .val (.long q2), .second, .val (.int p3), .val (.int (p3 &&& (3 : Int32))), .val (.long (own_pick (((p3.toUInt32 >>> ((2 : Int32) &&& 31).toUInt32).toInt32) &&& (3 : Int32)) q0)), .second, .val (.long (own_pick (((p3.toUInt32 >>> ((4 : Int32) &&& 31).toUInt32).toInt32) &&& (3 : Int32)) q1)), .second, .val (.long (own_pick (((p3.toUInt32 >>> ((6 : Int32) &&& 31).toUInt32).toInt32) &&& (3 : Int32)) q2)), .second, .unset, .unset, .unset, .unset, .unset, .unset, .unset, .unset, .unset, .unset, .unset]) rfl k) ?_
        show F (T217.setTop (mkF m 44 #[.val (.long q0), .second, .val (.long q1), .second, .val (.long q2), .second, .val (.int p3), .val (.int (p3 &&& (3 : Int32))), .val (.long (own_pick (((p3.toUInt32 >>> ((2 : Int32) &&& 31).toUInt32).toInt32) &&& (3 : Int32)) q0)), .second, .val (.long (own_pick (((p3.toUInt32 >>> ((4 : Int32) &&& 31).toUInt32).toInt32) &&& (3 : Int32)) q1)), .second, .val (.long (own_pick (((p3.toUInt32 >>> ((6 : Int32) &&& 31).toUInt32).toInt32) &&& (3 : Int32)) q2)), .second, .unset, .unset, .unset, .unset, .unset, .unset, .unset, .unset, .unset, .unset, .unset] []))
        rw [hc9302_214]
        refine bk (fun t k => XS.iload X217.here hx rfl (hb hby at_44) rfl k) ?_
        show F (T217.setTop (mkF m 46 #[.val (.long q0), .second, .val (.long q1), .second, .val (.long q2), .second, .val (.int p3), .val (.int (2 : Int32)), .val (.long (own_pick (((p3.toUInt32 >>> ((2 : Int32) &&& 31).toUInt32).toInt32) &&& (3 : Int32)) q0)), .second, .val (.long (own_pick (((p3.toUInt32 >>> ((4 : Int32) &&& 31).toUInt32).toInt32) &&& (3 : Int32)) q1)), .second, .val (.long (own_pick (((p3.toUInt32 >>> ((6 : Int32) &&& 31).toUInt32).toInt32) &&& (3 : Int32)) q2)), .second, .unset, .unset, .unset, .unset, .unset, .unset, .unset, .unset, .unset, .unset, .unset] [(.int (2 : Int32))]))
        obtain ⟨T218, h218, k218, X218, e218, E218, A218, st218⟩ := newP (aty := .long) X217 hx hZ w_4 e217 (g := (mkF m 46 #[.val (.long q0), .second, .val (.long q1), .second, .val (.long q2), .second, .val (.int p3), .val (.int (2 : Int32)), .val (.long (own_pick (((p3.toUInt32 >>> ((2 : Int32) &&& 31).toUInt32).toInt32) &&& (3 : Int32)) q0)), .second, .val (.long (own_pick (((p3.toUInt32 >>> ((4 : Int32) &&& 31).toUInt32).toInt32) &&& (3 : Int32)) q1)), .second, .val (.long (own_pick (((p3.toUInt32 >>> ((6 : Int32) &&& 31).toUInt32).toInt32) &&& (3 : Int32)) q2)), .second, .unset, .unset, .unset, .unset, .unset, .unset, .unset, .unset, .unset, .unset, .unset] [(.int (2 : Int32))])) rfl (hb hby at_46) rfl (by decide) (cap := 2) (by decide) (by decide) (by decide) (by decide)
        obtain ⟨b218, g218⟩ : ∃ z, z = h0.size := ⟨_, rfl⟩
        rw [← g218] at A218 st218
        have Gb218 : n0 ≤ b218 := Nat.le_trans Z0 (Nat.le_of_eq g218.symm)
        have f219 := Nat.le_trans Z0 E218.1
        have V_b218 : Arv Z h218 b218 k218 .long (2 : Int32) [(.long (0 : Int64)), (.long (0 : Int64)), (.long (0 : Int64))] (.long (0 : Int64)) := (Arv.new A218 (by decide)).pad (pad_rep [] (.long (0 : Int64)) 3)
        refine bk (fun t k => st218 t k) ?_
        show F (T218.setTop (mkF m 48 #[.val (.long q0), .second, .val (.long q1), .second, .val (.long q2), .second, .val (.int p3), .val (.int (2 : Int32)), .val (.long (own_pick (((p3.toUInt32 >>> ((2 : Int32) &&& 31).toUInt32).toInt32) &&& (3 : Int32)) q0)), .second, .val (.long (own_pick (((p3.toUInt32 >>> ((4 : Int32) &&& 31).toUInt32).toInt32) &&& (3 : Int32)) q1)), .second, .val (.long (own_pick (((p3.toUInt32 >>> ((6 : Int32) &&& 31).toUInt32).toInt32) &&& (3 : Int32)) q2)), .second, .unset, .unset, .unset, .unset, .unset, .unset, .unset, .unset, .unset, .unset, .unset] [(.ref b218)]))
        refine bk (fun t k => XS.astore X218.here hx rfl (hb hby at_48) rfl rfl (l' := #[.val (.long q0), .second, .val (.long q1), .second, .val (.long q2), .second, .val (.int p3), .val (.int (2 : Int32)), .val (.long (own_pick (((p3.toUInt32 >>> ((2 : Int32) &&& 31).toUInt32).toInt32) &&& (3 : Int32)) q0)), .second, .val (.long (own_pick (((p3.toUInt32 >>> ((4 : Int32) &&& 31).toUInt32).toInt32) &&& (3 : Int32)) q1)), .second, .val (.long (own_pick (((p3.toUInt32 >>> ((6 : Int32) &&& 31).toUInt32).toInt32) &&& (3 : Int32)) q2)), .second, .val (.ref b218), .unset, .unset, .unset, .unset, .unset, .unset, .unset, .unset, .unset, .unset]) rfl k) ?_
        refine bk (fun t k => XS.iload X218.here hx rfl (hb hby at_50) rfl k) ?_
        show F (T218.setTop (mkF m 52 #[.val (.long q0), .second, .val (.long q1), .second, .val (.long q2), .second, .val (.int p3), .val (.int (2 : Int32)), .val (.long (own_pick (((p3.toUInt32 >>> ((2 : Int32) &&& 31).toUInt32).toInt32) &&& (3 : Int32)) q0)), .second, .val (.long (own_pick (((p3.toUInt32 >>> ((4 : Int32) &&& 31).toUInt32).toInt32) &&& (3 : Int32)) q1)), .second, .val (.long (own_pick (((p3.toUInt32 >>> ((6 : Int32) &&& 31).toUInt32).toInt32) &&& (3 : Int32)) q2)), .second, .val (.ref b218), .unset, .unset, .unset, .unset, .unset, .unset, .unset, .unset, .unset, .unset] [(.int (2 : Int32))]))
        refine bk (fun t k => XS.ifNo X218.here hx rfl (hb hby at_52) rfl ((if0 _ _).trans (tlt (by decide : (0 : Int32) < (2 : Int32))).2.2.2) k) ?_
        refine bk (fun t k => XS.aload X218.here hx rfl (hb hby at_55) rfl rfl k) ?_
        refine bk (fun t k => XS.iconst X218.here hx rfl (hb hby at_57) k) ?_
        refine bk (fun t k => XS.lload X218.here hx rfl (hb hby at_58) rfl k) ?_
        show F (T218.setTop (mkF m 60 #[.val (.long q0), .second, .val (.long q1), .second, .val (.long q2), .second, .val (.int p3), .val (.int (2 : Int32)), .val (.long (own_pick (((p3.toUInt32 >>> ((2 : Int32) &&& 31).toUInt32).toInt32) &&& (3 : Int32)) q0)), .second, .val (.long (own_pick (((p3.toUInt32 >>> ((4 : Int32) &&& 31).toUInt32).toInt32) &&& (3 : Int32)) q1)), .second, .val (.long (own_pick (((p3.toUInt32 >>> ((6 : Int32) &&& 31).toUInt32).toInt32) &&& (3 : Int32)) q2)), .second, .val (.ref b218), .unset, .unset, .unset, .unset, .unset, .unset, .unset, .unset, .unset, .unset] [(.long (own_pick (((p3.toUInt32 >>> ((2 : Int32) &&& 31).toUInt32).toInt32) &&& (3 : Int32)) q0)), (.int (0 : Int32)), (.ref b218)]))
        have vv220 := V_b218
        obtain ⟨cl220, Ar220, q220, S220, M220, H220, G220⟩ := vv220
        have hin220 : ¬ ((0 : Int32) < 0 ∨ cl220.slots.size ≤ ((0 : Int32)).toNatClampNeg) := inb_of S220 ⟨by decide, by decide⟩
        obtain ⟨T220, h220, X220, e220, W220, st220⟩ := stJ X218 hx hZ e218 Ar220 (j := (0 : Int32)) hin220 (g := (mkF m 60 #[.val (.long q0), .second, .val (.long q1), .second, .val (.long q2), .second, .val (.int p3), .val (.int (2 : Int32)), .val (.long (own_pick (((p3.toUInt32 >>> ((2 : Int32) &&& 31).toUInt32).toInt32) &&& (3 : Int32)) q0)), .second, .val (.long (own_pick (((p3.toUInt32 >>> ((4 : Int32) &&& 31).toUInt32).toInt32) &&& (3 : Int32)) q1)), .second, .val (.long (own_pick (((p3.toUInt32 >>> ((6 : Int32) &&& 31).toUInt32).toInt32) &&& (3 : Int32)) q2)), .second, .val (.ref b218), .unset, .unset, .unset, .unset, .unset, .unset, .unset, .unset, .unset, .unset] [(.long (own_pick (((p3.toUInt32 >>> ((2 : Int32) &&& 31).toUInt32).toInt32) &&& (3 : Int32)) q0)), (.int (0 : Int32)), (.ref b218)])) rfl rfl (hb hby at_60)
        have V_b218_220 : Arv Z h220 b218 k218 .long (2 : Int32) [(.long (own_pick (((p3.toUInt32 >>> ((2 : Int32) &&& 31).toUInt32).toInt32) &&& (3 : Int32)) q0)), (.long (0 : Int64)), (.long (0 : Int64))] (.long (0 : Int64)) := Arv.set Ar220 q220 S220 M220 H220 G220 rfl W220 0 rfl (Nat.le_of_ble_eq_true rfl)
        have f221 := Nat.le_trans f219 (Keep.of_wr W220).1
        have N220 := Fr.snoc X220 N217 Gb218
        refine bk (fun t k => st220 t k) ?_
        refine bk (fun t k => XS.iload X220.here hx rfl (hb hby at_61) rfl k) ?_
        refine bk (fun t k => XS.iconst X220.here hx rfl (hb hby at_63) k) ?_
        show F (T220.setTop (mkF m 64 #[.val (.long q0), .second, .val (.long q1), .second, .val (.long q2), .second, .val (.int p3), .val (.int (2 : Int32)), .val (.long (own_pick (((p3.toUInt32 >>> ((2 : Int32) &&& 31).toUInt32).toInt32) &&& (3 : Int32)) q0)), .second, .val (.long (own_pick (((p3.toUInt32 >>> ((4 : Int32) &&& 31).toUInt32).toInt32) &&& (3 : Int32)) q1)), .second, .val (.long (own_pick (((p3.toUInt32 >>> ((6 : Int32) &&& 31).toUInt32).toInt32) &&& (3 : Int32)) q2)), .second, .val (.ref b218), .unset, .unset, .unset, .unset, .unset, .unset, .unset, .unset, .unset, .unset] [(.int (1 : Int32)), (.int (2 : Int32))]))
        refine bk (fun t k => XS.icmpNo X220.here hx rfl (hb hby at_64) rfl (tlt (by decide : (1 : Int32) < (2 : Int32))).2.2.2 k) ?_
        refine bk (fun t k => XS.aload X220.here hx rfl (hb hby at_67) rfl rfl k) ?_
        refine bk (fun t k => XS.iconst X220.here hx rfl (hb hby at_69) k) ?_
        refine bk (fun t k => XS.lload X220.here hx rfl (hb hby at_70) rfl k) ?_
        show F (T220.setTop (mkF m 72 #[.val (.long q0), .second, .val (.long q1), .second, .val (.long q2), .second, .val (.int p3), .val (.int (2 : Int32)), .val (.long (own_pick (((p3.toUInt32 >>> ((2 : Int32) &&& 31).toUInt32).toInt32) &&& (3 : Int32)) q0)), .second, .val (.long (own_pick (((p3.toUInt32 >>> ((4 : Int32) &&& 31).toUInt32).toInt32) &&& (3 : Int32)) q1)), .second, .val (.long (own_pick (((p3.toUInt32 >>> ((6 : Int32) &&& 31).toUInt32).toInt32) &&& (3 : Int32)) q2)), .second, .val (.ref b218), .unset, .unset, .unset, .unset, .unset, .unset, .unset, .unset, .unset, .unset] [(.long (own_pick (((p3.toUInt32 >>> ((4 : Int32) &&& 31).toUInt32).toInt32) &&& (3 : Int32)) q1)), (.int (1 : Int32)), (.ref b218)]))
        have vv222 := V_b218_220
        obtain ⟨cl222, Ar222, q222, S222, M222, H222, G222⟩ := vv222
        have hin222 : ¬ ((1 : Int32) < 0 ∨ cl222.slots.size ≤ ((1 : Int32)).toNatClampNeg) := inb_of S222 ⟨by decide, by decide⟩
        obtain ⟨T222, h222, X222, e222, W222, st222⟩ := stJ X220 hx hZ e220 Ar222 (j := (1 : Int32)) hin222 (g := (mkF m 72 #[.val (.long q0), .second, .val (.long q1), .second, .val (.long q2), .second, .val (.int p3), .val (.int (2 : Int32)), .val (.long (own_pick (((p3.toUInt32 >>> ((2 : Int32) &&& 31).toUInt32).toInt32) &&& (3 : Int32)) q0)), .second, .val (.long (own_pick (((p3.toUInt32 >>> ((4 : Int32) &&& 31).toUInt32).toInt32) &&& (3 : Int32)) q1)), .second, .val (.long (own_pick (((p3.toUInt32 >>> ((6 : Int32) &&& 31).toUInt32).toInt32) &&& (3 : Int32)) q2)), .second, .val (.ref b218), .unset, .unset, .unset, .unset, .unset, .unset, .unset, .unset, .unset, .unset] [(.long (own_pick (((p3.toUInt32 >>> ((4 : Int32) &&& 31).toUInt32).toInt32) &&& (3 : Int32)) q1)), (.int (1 : Int32)), (.ref b218)])) rfl rfl (hb hby at_72)
        have V_b218_222 : Arv Z h222 b218 k218 .long (2 : Int32) [(.long (own_pick (((p3.toUInt32 >>> ((2 : Int32) &&& 31).toUInt32).toInt32) &&& (3 : Int32)) q0)), (.long (own_pick (((p3.toUInt32 >>> ((4 : Int32) &&& 31).toUInt32).toInt32) &&& (3 : Int32)) q1)), (.long (0 : Int64))] (.long (0 : Int64)) := Arv.set Ar222 q222 S222 M222 H222 G222 rfl W222 1 rfl (Nat.le_of_ble_eq_true rfl)
        have f223 := Nat.le_trans f221 (Keep.of_wr W222).1
        have N222 := Fr.snoc X222 N220 Gb218
        refine bk (fun t k => st222 t k) ?_
        refine bk (fun t k => XS.iload X222.here hx rfl (hb hby at_73) rfl k) ?_
        refine bk (fun t k => XS.iconst X222.here hx rfl (hb hby at_75) k) ?_
        show F (T222.setTop (mkF m 76 #[.val (.long q0), .second, .val (.long q1), .second, .val (.long q2), .second, .val (.int p3), .val (.int (2 : Int32)), .val (.long (own_pick (((p3.toUInt32 >>> ((2 : Int32) &&& 31).toUInt32).toInt32) &&& (3 : Int32)) q0)), .second, .val (.long (own_pick (((p3.toUInt32 >>> ((4 : Int32) &&& 31).toUInt32).toInt32) &&& (3 : Int32)) q1)), .second, .val (.long (own_pick (((p3.toUInt32 >>> ((6 : Int32) &&& 31).toUInt32).toInt32) &&& (3 : Int32)) q2)), .second, .val (.ref b218), .unset, .unset, .unset, .unset, .unset, .unset, .unset, .unset, .unset, .unset] [(.int (2 : Int32)), (.int (2 : Int32))]))
        refine bk (fun t k => XS.icmpYes X222.here hx rfl (pc0 := 76) (pc' := 85) rfl (hb hby at_76) rfl (flt (by decide : ¬ ((2 : Int32) < (2 : Int32)))).2.2.2 (by decide) (by decide) k) ?_
        refine bk (fun t k => XS.iload X222.here hx rfl (hb hby at_85) rfl k) ?_
        show F (T222.setTop (mkF m 87 #[.val (.long q0), .second, .val (.long q1), .second, .val (.long q2), .second, .val (.int p3), .val (.int (2 : Int32)), .val (.long (own_pick (((p3.toUInt32 >>> ((2 : Int32) &&& 31).toUInt32).toInt32) &&& (3 : Int32)) q0)), .second, .val (.long (own_pick (((p3.toUInt32 >>> ((4 : Int32) &&& 31).toUInt32).toInt32) &&& (3 : Int32)) q1)), .second, .val (.long (own_pick (((p3.toUInt32 >>> ((6 : Int32) &&& 31).toUInt32).toInt32) &&& (3 : Int32)) q2)), .second, .val (.ref b218), .unset, .unset, .unset, .unset, .unset, .unset, .unset, .unset, .unset, .unset] [(.int (2 : Int32))]))
        refine bk (fun t k => XS.ifNo X222.here hx rfl (hb hby at_87) rfl ((if0 _ _).trans (tlt (by decide : (0 : Int32) < (2 : Int32))).2.2.2) k) ?_
        refine bk (fun t k => XS.lload X222.here hx rfl (hb hby at_90) rfl k) ?_
        refine bk (fun t k => XS.goto X222.here hx rfl (pc0 := 92) (pc' := 96) rfl (hb hby at_92) (by decide) (by decide) k) ?_
        show F (T222.setTop (mkF m 96 #[.val (.long q0), .second, .val (.long q1), .second, .val (.long q2), .second, .val (.int p3), .val (.int (2 : Int32)), .val (.long (own_pick (((p3.toUInt32 >>> ((2 : Int32) &&& 31).toUInt32).toInt32) &&& (3 : Int32)) q0)), .second, .val (.long (own_pick (((p3.toUInt32 >>> ((4 : Int32) &&& 31).toUInt32).toInt32) &&& (3 : Int32)) q1)), .second, .val (.long (own_pick (((p3.toUInt32 >>> ((6 : Int32) &&& 31).toUInt32).toInt32) &&& (3 : Int32)) q2)), .second, .val (.ref b218), .unset, .unset, .unset, .unset, .unset, .unset, .unset, .unset, .unset, .unset] [(.long (own_pick (((p3.toUInt32 >>> ((2 : Int32) &&& 31).toUInt32).toInt32) &&& (3 : Int32)) q0))]))
        refine bk (fun t k => XS.lstore X222.here hx rfl (hb hby at_96) rfl (l' := #[.val (.long q0), .second, .val (.long q1), .second, .val (.long q2), .second, .val (.int p3), .val (.int (2 : Int32)), .val (.long (own_pick (((p3.toUInt32 >>> ((2 : Int32) &&& 31).toUInt32).toInt32) &&& (3 : Int32)) q0)), .second, .val (.long (own_pick (((p3.toUInt32 >>> ((4 : Int32) &&& 31).toUInt32).toInt32) &&& (3 : Int32)) q1)), .second, .val (.long (own_pick (((p3.toUInt32 >>> ((6 : Int32) &&& 31).toUInt32).toInt32) &&& (3 : Int32)) q2)), .second, .val (.ref b218), .val (.long (own_pick (((p3.toUInt32 >>> ((2 : Int32) &&& 31).toUInt32).toInt32) &&& (3 : Int32)) q0)), .second, .unset, .unset, .unset, .unset, .unset, .unset, .unset, .unset]) rfl k) ?_
        refine bk (fun t k => XS.iload X222.here hx rfl (hb hby at_98) rfl k) ?_
        refine bk (fun t k => XS.iconst X222.here hx rfl (hb hby at_100) k) ?_
        show F (T222.setTop (mkF m 101 #[.val (.long q0), .second, .val (.long q1), .second, .val (.long q2), .second, .val (.int p3), .val (.int (2 : Int32)), .val (.long (own_pick (((p3.toUInt32 >>> ((2 : Int32) &&& 31).toUInt32).toInt32) &&& (3 : Int32)) q0)), .second, .val (.long (own_pick (((p3.toUInt32 >>> ((4 : Int32) &&& 31).toUInt32).toInt32) &&& (3 : Int32)) q1)), .second, .val (.long (own_pick (((p3.toUInt32 >>> ((6 : Int32) &&& 31).toUInt32).toInt32) &&& (3 : Int32)) q2)), .second, .val (.ref b218), .val (.long (own_pick (((p3.toUInt32 >>> ((2 : Int32) &&& 31).toUInt32).toInt32) &&& (3 : Int32)) q0)), .second, .unset, .unset, .unset, .unset, .unset, .unset, .unset, .unset] [(.int (1 : Int32)), (.int (2 : Int32))]))
        refine bk (fun t k => XS.icmpNo X222.here hx rfl (hb hby at_101) rfl (tlt (by decide : (1 : Int32) < (2 : Int32))).2.2.2 k) ?_
        refine bk (fun t k => XS.lload X222.here hx rfl (hb hby at_104) rfl k) ?_
        refine bk (fun t k => XS.goto X222.here hx rfl (pc0 := 106) (pc' := 110) rfl (hb hby at_106) (by decide) (by decide) k) ?_
        show F (T222.setTop (mkF m 110 #[.val (.long q0), .second, .val (.long q1), .second, .val (.long q2), .second, .val (.int p3), .val (.int (2 : Int32)), .val (.long (own_pick (((p3.toUInt32 >>> ((2 : Int32) &&& 31).toUInt32).toInt32) &&& (3 : Int32)) q0)), .second, .val (.long (own_pick (((p3.toUInt32 >>> ((4 : Int32) &&& 31).toUInt32).toInt32) &&& (3 : Int32)) q1)), .second, .val (.long (own_pick (((p3.toUInt32 >>> ((6 : Int32) &&& 31).toUInt32).toInt32) &&& (3 : Int32)) q2)), .second, .val (.ref b218), .val (.long (own_pick (((p3.toUInt32 >>> ((2 : Int32) &&& 31).toUInt32).toInt32) &&& (3 : Int32)) q0)), .second, .unset, .unset, .unset, .unset, .unset, .unset, .unset, .unset] [(.long (own_pick (((p3.toUInt32 >>> ((4 : Int32) &&& 31).toUInt32).toInt32) &&& (3 : Int32)) q1))]))
        refine bk (fun t k => XS.lstore X222.here hx rfl (hb hby at_110) rfl (l' := #[.val (.long q0), .second, .val (.long q1), .second, .val (.long q2), .second, .val (.int p3), .val (.int (2 : Int32)), .val (.long (own_pick (((p3.toUInt32 >>> ((2 : Int32) &&& 31).toUInt32).toInt32) &&& (3 : Int32)) q0)), .second, .val (.long (own_pick (((p3.toUInt32 >>> ((4 : Int32) &&& 31).toUInt32).toInt32) &&& (3 : Int32)) q1)), .second, .val (.long (own_pick (((p3.toUInt32 >>> ((6 : Int32) &&& 31).toUInt32).toInt32) &&& (3 : Int32)) q2)), .second, .val (.ref b218), .val (.long (own_pick (((p3.toUInt32 >>> ((2 : Int32) &&& 31).toUInt32).toInt32) &&& (3 : Int32)) q0)), .second, .val (.long (own_pick (((p3.toUInt32 >>> ((4 : Int32) &&& 31).toUInt32).toInt32) &&& (3 : Int32)) q1)), .second, .unset, .unset, .unset, .unset, .unset, .unset]) rfl k) ?_
        refine bk (fun t k => XS.iload X222.here hx rfl (hb hby at_112) rfl k) ?_
        refine bk (fun t k => XS.iconst X222.here hx rfl (hb hby at_114) k) ?_
        show F (T222.setTop (mkF m 115 #[.val (.long q0), .second, .val (.long q1), .second, .val (.long q2), .second, .val (.int p3), .val (.int (2 : Int32)), .val (.long (own_pick (((p3.toUInt32 >>> ((2 : Int32) &&& 31).toUInt32).toInt32) &&& (3 : Int32)) q0)), .second, .val (.long (own_pick (((p3.toUInt32 >>> ((4 : Int32) &&& 31).toUInt32).toInt32) &&& (3 : Int32)) q1)), .second, .val (.long (own_pick (((p3.toUInt32 >>> ((6 : Int32) &&& 31).toUInt32).toInt32) &&& (3 : Int32)) q2)), .second, .val (.ref b218), .val (.long (own_pick (((p3.toUInt32 >>> ((2 : Int32) &&& 31).toUInt32).toInt32) &&& (3 : Int32)) q0)), .second, .val (.long (own_pick (((p3.toUInt32 >>> ((4 : Int32) &&& 31).toUInt32).toInt32) &&& (3 : Int32)) q1)), .second, .unset, .unset, .unset, .unset, .unset, .unset] [(.int (2 : Int32)), (.int (2 : Int32))]))
        refine bk (fun t k => XS.icmpYes X222.here hx rfl (pc0 := 115) (pc' := 123) rfl (hb hby at_115) rfl (flt (by decide : ¬ ((2 : Int32) < (2 : Int32)))).2.2.2 (by decide) (by decide) k) ?_
        refine bk (fun t k => XS.lconst X222.here hx rfl (hb hby at_123) k) ?_
        show F (T222.setTop (mkF m 124 #[.val (.long q0), .second, .val (.long q1), .second, .val (.long q2), .second, .val (.int p3), .val (.int (2 : Int32)), .val (.long (own_pick (((p3.toUInt32 >>> ((2 : Int32) &&& 31).toUInt32).toInt32) &&& (3 : Int32)) q0)), .second, .val (.long (own_pick (((p3.toUInt32 >>> ((4 : Int32) &&& 31).toUInt32).toInt32) &&& (3 : Int32)) q1)), .second, .val (.long (own_pick (((p3.toUInt32 >>> ((6 : Int32) &&& 31).toUInt32).toInt32) &&& (3 : Int32)) q2)), .second, .val (.ref b218), .val (.long (own_pick (((p3.toUInt32 >>> ((2 : Int32) &&& 31).toUInt32).toInt32) &&& (3 : Int32)) q0)), .second, .val (.long (own_pick (((p3.toUInt32 >>> ((4 : Int32) &&& 31).toUInt32).toInt32) &&& (3 : Int32)) q1)), .second, .unset, .unset, .unset, .unset, .unset, .unset] [(.long (0 : Int64))]))
        refine bk (fun t k => XS.lstore X222.here hx rfl (hb hby at_124) rfl (l' := #[.val (.long q0), .second, .val (.long q1), .second, .val (.long q2), .second, .val (.int p3), .val (.int (2 : Int32)), .val (.long (own_pick (((p3.toUInt32 >>> ((2 : Int32) &&& 31).toUInt32).toInt32) &&& (3 : Int32)) q0)), .second, .val (.long (own_pick (((p3.toUInt32 >>> ((4 : Int32) &&& 31).toUInt32).toInt32) &&& (3 : Int32)) q1)), .second, .val (.long (own_pick (((p3.toUInt32 >>> ((6 : Int32) &&& 31).toUInt32).toInt32) &&& (3 : Int32)) q2)), .second, .val (.ref b218), .val (.long (own_pick (((p3.toUInt32 >>> ((2 : Int32) &&& 31).toUInt32).toInt32) &&& (3 : Int32)) q0)), .second, .val (.long (own_pick (((p3.toUInt32 >>> ((4 : Int32) &&& 31).toUInt32).toInt32) &&& (3 : Int32)) q1)), .second, .val (.long (0 : Int64)), .second, .unset, .unset, .unset, .unset]) rfl k) ?_
        show F (T222.setTop (mkF m 126 #[.val (.long q0), .second, .val (.long q1), .second, .val (.long q2), .second, .val (.int p3), .val (.int (2 : Int32)), .val (.long (own_pick (((p3.toUInt32 >>> ((2 : Int32) &&& 31).toUInt32).toInt32) &&& (3 : Int32)) q0)), .second, .val (.long (own_pick (((p3.toUInt32 >>> ((4 : Int32) &&& 31).toUInt32).toInt32) &&& (3 : Int32)) q1)), .second, .val (.long (own_pick (((p3.toUInt32 >>> ((6 : Int32) &&& 31).toUInt32).toInt32) &&& (3 : Int32)) q2)), .second, .val (.ref b218), .val (.long (own_pick (((p3.toUInt32 >>> ((2 : Int32) &&& 31).toUInt32).toInt32) &&& (3 : Int32)) q0)), .second, .val (.long (own_pick (((p3.toUInt32 >>> ((4 : Int32) &&& 31).toUInt32).toInt32) &&& (3 : Int32)) q1)), .second, .val (.long (0 : Int64)), .second, .unset, .unset, .unset, .unset] []))
        exact J126 _ _ h222 (X222.more (Nat.le_refl _) (by decide)) e222 N222 _ _ _ _ _ _ _ _ _ _ f223 V_b218_222 (Or.inr (Or.inr (Or.inl ⟨rfl, rfl⟩)))
      · refine bk (fun t k => XS.iload X0.here hx rfl (hb hby at_0) rfl k) ?_
        refine bk (fun t k => XS.iconst X0.here hx rfl (hb hby at_2) k) ?_
        show F (s₁.setTop (mkF m 3 #[.val (.long q0), .second, .val (.long q1), .second, .val (.long q2), .second, .val (.int p3), .unset, .unset, .unset, .unset, .unset, .unset, .unset, .unset, .unset, .unset, .unset, .unset, .unset, .unset, .unset, .unset, .unset, .unset] [(.int (3 : Int32)), (.int p3)]))
        refine bk (fun t k => XS.iand X0.here hx rfl (hb hby at_3) rfl k) ?_
        show F (s₁.setTop (mkF m 4 #[.val (.long q0), .second, .val (.long q1), .second, .val (.long q2), .second, .val (.int p3), .unset, .unset, .unset, .unset, .unset, .unset, .unset, .unset, .unset, .unset, .unset, .unset, .unset, .unset, .unset, .unset, .unset, .unset] [(.int (p3 &&& (3 : Int32)))]))
        refine bk (fun t k => XS.istore X0.here hx rfl (hb hby at_4) rfl (l' := #[.val (.long q0), .second, .val (.long q1), .second, .val (.long q2), .second, .val (.int p3), .val (.int (p3 &&& (3 : Int32))), .unset, .unset, .unset, .unset, .unset, .unset, .unset, .unset, .unset, .unset, .unset, .unset, .unset, .unset, .unset, .unset, .unset]) rfl k) ?_
        refine bk (fun t k => XS.iload X0.here hx rfl (hb hby at_6) rfl k) ?_
        refine bk (fun t k => XS.iconst X0.here hx rfl (hb hby at_8) k) ?_
        show F (s₁.setTop (mkF m 9 #[.val (.long q0), .second, .val (.long q1), .second, .val (.long q2), .second, .val (.int p3), .val (.int (p3 &&& (3 : Int32))), .unset, .unset, .unset, .unset, .unset, .unset, .unset, .unset, .unset, .unset, .unset, .unset, .unset, .unset, .unset, .unset, .unset] [(.int (2 : Int32)), (.int p3)]))
        refine bk (fun t k => XS.iushr X0.here hx rfl (hb hby at_9) rfl k) ?_
        refine bk (fun t k => XS.iconst X0.here hx rfl (hb hby at_10) k) ?_
        show F (s₁.setTop (mkF m 11 #[.val (.long q0), .second, .val (.long q1), .second, .val (.long q2), .second, .val (.int p3), .val (.int (p3 &&& (3 : Int32))), .unset, .unset, .unset, .unset, .unset, .unset, .unset, .unset, .unset, .unset, .unset, .unset, .unset, .unset, .unset, .unset, .unset] [(.int (3 : Int32)), (.int ((p3.toUInt32 >>> ((2 : Int32) &&& 31).toUInt32).toInt32))]))
        refine bk (fun t k => XS.iand X0.here hx rfl (hb hby at_11) rfl k) ?_
        refine bk (fun t k => XS.lloadN X0.here hx rfl (hb hby at_12) rfl k) ?_
        show F (s₁.setTop (mkF m 13 #[.val (.long q0), .second, .val (.long q1), .second, .val (.long q2), .second, .val (.int p3), .val (.int (p3 &&& (3 : Int32))), .unset, .unset, .unset, .unset, .unset, .unset, .unset, .unset, .unset, .unset, .unset, .unset, .unset, .unset, .unset, .unset, .unset] [(.long q0), (.int (((p3.toUInt32 >>> ((2 : Int32) &&& 31).toUInt32).toInt32) &&& (3 : Int32)))]))
        obtain ⟨_, _, ⟨T224, L224, k224, n224⟩, -, X224, ⟨Lc224, hQ224, l224, y224, z224⟩, st224⟩ := Jvm.LawKit.callS X0 hx (y := (⟨"com/example/lone1/lone1/solve/SweepOrderHasNextPinLaw", "pick", "(IJ)J"⟩ : MethodName)) hown (mvT hZ w_0) (mvT hZ w_1) (mvT hZ w_2) (mvT hZ w_3) (by decide) (backOf (W := 0) (rm1 l Z a0 hw [] (((p3.toUInt32 >>> ((2 : Int32) &&& 31).toUInt32).toInt32) &&& (3 : Int32)) q0 h0 n0 Z0) hZ w_3 w_2 (by decide) (by decide)) (g := (mkF m 13 #[.val (.long q0), .second, .val (.long q1), .second, .val (.long q2), .second, .val (.int p3), .val (.int (p3 &&& (3 : Int32))), .unset, .unset, .unset, .unset, .unset, .unset, .unset, .unset, .unset, .unset, .unset, .unset, .unset, .unset, .unset, .unset, .unset] [(.long q0), (.int (((p3.toUInt32 >>> ((2 : Int32) &&& 31).toUInt32).toInt32) &&& (3 : Int32)))])) rfl (by rw [hml]; rfl) (argsL := [(.int (((p3.toUInt32 >>> ((2 : Int32) &&& 31).toUInt32).toInt32) &&& (3 : Int32))), (.long q0)]) (rest := []) (lenOf pd0__IJ_J rfl) rfl (by show 2 * 0 + _ ≤ _; exact Nat.le_of_eq rfl) (hb hby at_13) (fun _ _ => ⟨rfl, e0, (by decide : 0 + 0 ≤ _), (by decide : 0 + 0 ≤ _)⟩)
        dsimp only [Pt.U, Pt.locs, Pt.cells, Pt.slots] at X224 l224 y224 z224 st224 hQ224
        subst l224 y224 z224
        obtain ⟨rfl, N224q, e224⟩ := hQ224
        have N224 := Fr.app N0 N224q
        refine bk (fun t k => st224 t k) ?_
        show F (T224.setTop (mkF m 16 #[.val (.long q0), .second, .val (.long q1), .second, .val (.long q2), .second, .val (.int p3), .val (.int (p3 &&& (3 : Int32))), .unset, .unset, .unset, .unset, .unset, .unset, .unset, .unset, .unset, .unset, .unset, .unset, .unset, .unset, .unset, .unset, .unset] [(.long (own_pick (((p3.toUInt32 >>> ((2 : Int32) &&& 31).toUInt32).toInt32) &&& (3 : Int32)) q0))]))
        refine bk (fun t k => XS.lstore X224.here hx rfl (hb hby at_16) rfl (l' := #[.val (.long q0), .second, .val (.long q1), .second, .val (.long q2), .second, .val (.int p3), .val (.int (p3 &&& (3 : Int32))), .val (.long (own_pick (((p3.toUInt32 >>> ((2 : Int32) &&& 31).toUInt32).toInt32) &&& (3 : Int32)) q0)), .second, .unset, .unset, .unset, .unset, .unset, .unset, .unset, .unset, .unset, .unset, .unset, .unset, .unset, .unset, .unset]) rfl k) ?_
        refine bk (fun t k => XS.iload X224.here hx rfl (hb hby at_18) rfl k) ?_
        refine bk (fun t k => XS.iconst X224.here hx rfl (hb hby at_20) k) ?_
        show F (T224.setTop (mkF m 21 #[.val (.long q0), .second, .val (.long q1), .second, .val (.long q2), .second, .val (.int p3), .val (.int (p3 &&& (3 : Int32))), .val (.long (own_pick (((p3.toUInt32 >>> ((2 : Int32) &&& 31).toUInt32).toInt32) &&& (3 : Int32)) q0)), .second, .unset, .unset, .unset, .unset, .unset, .unset, .unset, .unset, .unset, .unset, .unset, .unset, .unset, .unset, .unset] [(.int (4 : Int32)), (.int p3)]))
        refine bk (fun t k => XS.iushr X224.here hx rfl (hb hby at_21) rfl k) ?_
        refine bk (fun t k => XS.iconst X224.here hx rfl (hb hby at_22) k) ?_
        show F (T224.setTop (mkF m 23 #[.val (.long q0), .second, .val (.long q1), .second, .val (.long q2), .second, .val (.int p3), .val (.int (p3 &&& (3 : Int32))), .val (.long (own_pick (((p3.toUInt32 >>> ((2 : Int32) &&& 31).toUInt32).toInt32) &&& (3 : Int32)) q0)), .second, .unset, .unset, .unset, .unset, .unset, .unset, .unset, .unset, .unset, .unset, .unset, .unset, .unset, .unset, .unset] [(.int (3 : Int32)), (.int ((p3.toUInt32 >>> ((4 : Int32) &&& 31).toUInt32).toInt32))]))
        refine bk (fun t k => XS.iand X224.here hx rfl (hb hby at_23) rfl k) ?_
        refine bk (fun t k => XS.lloadN X224.here hx rfl (hb hby at_24) rfl k) ?_
        show F (T224.setTop (mkF m 25 #[.val (.long q0), .second, .val (.long q1), .second, .val (.long q2), .second, .val (.int p3), .val (.int (p3 &&& (3 : Int32))), .val (.long (own_pick (((p3.toUInt32 >>> ((2 : Int32) &&& 31).toUInt32).toInt32) &&& (3 : Int32)) q0)), .second, .unset, .unset, .unset, .unset, .unset, .unset, .unset, .unset, .unset, .unset, .unset, .unset, .unset, .unset, .unset] [(.long q1), (.int (((p3.toUInt32 >>> ((4 : Int32) &&& 31).toUInt32).toInt32) &&& (3 : Int32)))]))
        obtain ⟨_, _, ⟨T225, L225, k225, n225⟩, -, X225, ⟨Lc225, hQ225, l225, y225, z225⟩, st225⟩ := Jvm.LawKit.callS X224 hx (y := (⟨"com/example/lone1/lone1/solve/SweepOrderHasNextPinLaw", "pick", "(IJ)J"⟩ : MethodName)) hown (mvT hZ w_0) (mvT hZ w_1) (mvT hZ w_2) (mvT hZ w_3) (by decide) (backOf (W := 0) (rm1 l Z a0 hw [] (((p3.toUInt32 >>> ((4 : Int32) &&& 31).toUInt32).toInt32) &&& (3 : Int32)) q1 h0 n0 Z0) hZ w_3 w_2 (by decide) (by decide)) (g := (mkF m 25 #[.val (.long q0), .second, .val (.long q1), .second, .val (.long q2), .second, .val (.int p3), .val (.int (p3 &&& (3 : Int32))), .val (.long (own_pick (((p3.toUInt32 >>> ((2 : Int32) &&& 31).toUInt32).toInt32) &&& (3 : Int32)) q0)), .second, .unset, .unset, .unset, .unset, .unset, .unset, .unset, .unset, .unset, .unset, .unset, .unset, .unset, .unset, .unset] [(.long q1), (.int (((p3.toUInt32 >>> ((4 : Int32) &&& 31).toUInt32).toInt32) &&& (3 : Int32)))])) rfl (by rw [hml]; rfl) (argsL := [(.int (((p3.toUInt32 >>> ((4 : Int32) &&& 31).toUInt32).toInt32) &&& (3 : Int32))), (.long q1)]) (rest := []) (lenOf pd0__IJ_J rfl) rfl (by show 2 * 0 + _ ≤ _; exact Nat.le_of_eq rfl) (hb hby at_25) (fun _ _ => ⟨rfl, e224, (by decide : 0 + 0 ≤ _), (by decide : 0 + 0 ≤ _)⟩)
        dsimp only [Pt.U, Pt.locs, Pt.cells, Pt.slots] at X225 l225 y225 z225 st225 hQ225
        subst l225 y225 z225
        obtain ⟨rfl, N225q, e225⟩ := hQ225
        have N225 := Fr.app N224 N225q
        refine bk (fun t k => st225 t k) ?_
        show F (T225.setTop (mkF m 28 #[.val (.long q0), .second, .val (.long q1), .second, .val (.long q2), .second, .val (.int p3), .val (.int (p3 &&& (3 : Int32))), .val (.long (own_pick (((p3.toUInt32 >>> ((2 : Int32) &&& 31).toUInt32).toInt32) &&& (3 : Int32)) q0)), .second, .unset, .unset, .unset, .unset, .unset, .unset, .unset, .unset, .unset, .unset, .unset, .unset, .unset, .unset, .unset] [(.long (own_pick (((p3.toUInt32 >>> ((4 : Int32) &&& 31).toUInt32).toInt32) &&& (3 : Int32)) q1))]))
        refine bk (fun t k => XS.lstore X225.here hx rfl (hb hby at_28) rfl (l' := #[.val (.long q0), .second, .val (.long q1), .second, .val (.long q2), .second, .val (.int p3), .val (.int (p3 &&& (3 : Int32))), .val (.long (own_pick (((p3.toUInt32 >>> ((2 : Int32) &&& 31).toUInt32).toInt32) &&& (3 : Int32)) q0)), .second, .val (.long (own_pick (((p3.toUInt32 >>> ((4 : Int32) &&& 31).toUInt32).toInt32) &&& (3 : Int32)) q1)), .second, .unset, .unset, .unset, .unset, .unset, .unset, .unset, .unset, .unset, .unset, .unset, .unset, .unset]) rfl k) ?_
        refine bk (fun t k => XS.iload X225.here hx rfl (hb hby at_30) rfl k) ?_
        refine bk (fun t k => XS.bipush X225.here hx rfl (hb hby at_32) k) ?_
        show F (T225.setTop (mkF m 34 #[.val (.long q0), .second, .val (.long q1), .second, .val (.long q2), .second, .val (.int p3), .val (.int (p3 &&& (3 : Int32))), .val (.long (own_pick (((p3.toUInt32 >>> ((2 : Int32) &&& 31).toUInt32).toInt32) &&& (3 : Int32)) q0)), .second, .val (.long (own_pick (((p3.toUInt32 >>> ((4 : Int32) &&& 31).toUInt32).toInt32) &&& (3 : Int32)) q1)), .second, .unset, .unset, .unset, .unset, .unset, .unset, .unset, .unset, .unset, .unset, .unset, .unset, .unset] [(.int (6 : Int32)), (.int p3)]))
        refine bk (fun t k => XS.iushr X225.here hx rfl (hb hby at_34) rfl k) ?_
        refine bk (fun t k => XS.iconst X225.here hx rfl (hb hby at_35) k) ?_
        show F (T225.setTop (mkF m 36 #[.val (.long q0), .second, .val (.long q1), .second, .val (.long q2), .second, .val (.int p3), .val (.int (p3 &&& (3 : Int32))), .val (.long (own_pick (((p3.toUInt32 >>> ((2 : Int32) &&& 31).toUInt32).toInt32) &&& (3 : Int32)) q0)), .second, .val (.long (own_pick (((p3.toUInt32 >>> ((4 : Int32) &&& 31).toUInt32).toInt32) &&& (3 : Int32)) q1)), .second, .unset, .unset, .unset, .unset, .unset, .unset, .unset, .unset, .unset, .unset, .unset, .unset, .unset] [(.int (3 : Int32)), (.int ((p3.toUInt32 >>> ((6 : Int32) &&& 31).toUInt32).toInt32))]))
        refine bk (fun t k => XS.iand X225.here hx rfl (hb hby at_36) rfl k) ?_
        refine bk (fun t k => XS.lload X225.here hx rfl (hb hby at_37) rfl k) ?_
        show F (T225.setTop (mkF m 39 #[.val (.long q0), .second, .val (.long q1), .second, .val (.long q2), .second, .val (.int p3), .val (.int (p3 &&& (3 : Int32))), .val (.long (own_pick (((p3.toUInt32 >>> ((2 : Int32) &&& 31).toUInt32).toInt32) &&& (3 : Int32)) q0)), .second, .val (.long (own_pick (((p3.toUInt32 >>> ((4 : Int32) &&& 31).toUInt32).toInt32) &&& (3 : Int32)) q1)), .second, .unset, .unset, .unset, .unset, .unset, .unset, .unset, .unset, .unset, .unset, .unset, .unset, .unset] [(.long q2), (.int (((p3.toUInt32 >>> ((6 : Int32) &&& 31).toUInt32).toInt32) &&& (3 : Int32)))]))
        obtain ⟨_, _, ⟨T226, L226, k226, n226⟩, -, X226, ⟨Lc226, hQ226, l226, y226, z226⟩, st226⟩ := Jvm.LawKit.callS X225 hx (y := (⟨"com/example/lone1/lone1/solve/SweepOrderHasNextPinLaw", "pick", "(IJ)J"⟩ : MethodName)) hown (mvT hZ w_0) (mvT hZ w_1) (mvT hZ w_2) (mvT hZ w_3) (by decide) (backOf (W := 0) (rm1 l Z a0 hw [] (((p3.toUInt32 >>> ((6 : Int32) &&& 31).toUInt32).toInt32) &&& (3 : Int32)) q2 h0 n0 Z0) hZ w_3 w_2 (by decide) (by decide)) (g := (mkF m 39 #[.val (.long q0), .second, .val (.long q1), .second, .val (.long q2), .second, .val (.int p3), .val (.int (p3 &&& (3 : Int32))), .val (.long (own_pick (((p3.toUInt32 >>> ((2 : Int32) &&& 31).toUInt32).toInt32) &&& (3 : Int32)) q0)), .second, .val (.long (own_pick (((p3.toUInt32 >>> ((4 : Int32) &&& 31).toUInt32).toInt32) &&& (3 : Int32)) q1)), .second, .unset, .unset, .unset, .unset, .unset, .unset, .unset, .unset, .unset, .unset, .unset, .unset, .unset] [(.long q2), (.int (((p3.toUInt32 >>> ((6 : Int32) &&& 31).toUInt32).toInt32) &&& (3 : Int32)))])) rfl (by rw [hml]; rfl) (argsL := [(.int (((p3.toUInt32 >>> ((6 : Int32) &&& 31).toUInt32).toInt32) &&& (3 : Int32))), (.long q2)]) (rest := []) (lenOf pd0__IJ_J rfl) rfl (by show 2 * 0 + _ ≤ _; exact Nat.le_of_eq rfl) (hb hby at_39) (fun _ _ => ⟨rfl, e225, (by decide : 0 + 0 ≤ _), (by decide : 0 + 0 ≤ _)⟩)
        dsimp only [Pt.U, Pt.locs, Pt.cells, Pt.slots] at X226 l226 y226 z226 st226 hQ226
        subst l226 y226 z226
        obtain ⟨rfl, N226q, e226⟩ := hQ226
        have N226 := Fr.app N225 N226q
        refine bk (fun t k => st226 t k) ?_
        show F (T226.setTop (mkF m 42 #[.val (.long q0), .second, .val (.long q1), .second, .val (.long q2), .second, .val (.int p3), .val (.int (p3 &&& (3 : Int32))), .val (.long (own_pick (((p3.toUInt32 >>> ((2 : Int32) &&& 31).toUInt32).toInt32) &&& (3 : Int32)) q0)), .second, .val (.long (own_pick (((p3.toUInt32 >>> ((4 : Int32) &&& 31).toUInt32).toInt32) &&& (3 : Int32)) q1)), .second, .unset, .unset, .unset, .unset, .unset, .unset, .unset, .unset, .unset, .unset, .unset, .unset, .unset] [(.long (own_pick (((p3.toUInt32 >>> ((6 : Int32) &&& 31).toUInt32).toInt32) &&& (3 : Int32)) q2))]))
        refine bk (fun t k => XS.lstore X226.here hx rfl (hb hby at_42) rfl (l' := #[.val (.long q0), .second, .val (.long q1), .second, .val (.long q2), .second, .val (.int p3), .val (.int (p3 &&& (3 : Int32))), .val (.long (own_pick (((p3.toUInt32 >>> ((2 : Int32) &&& 31).toUInt32).toInt32) &&& (3 : Int32)) q0)), .second, .val (.long (own_pick (((p3.toUInt32 >>> ((4 : Int32) &&& 31).toUInt32).toInt32) &&& (3 : Int32)) q1)), .second, .val (.long (own_pick (((p3.toUInt32 >>> ((6 : Int32) &&& 31).toUInt32).toInt32) &&& (3 : Int32)) q2)), .second, .unset, .unset, .unset, .unset, .unset, .unset, .unset, .unset, .unset, .unset, .unset]) rfl k) ?_
        have hn3 : (p3 &&& (3 : Int32)) = (3 : Int32) := own_and3 hc9300_200 hc9301_206 hc9302_214
        show F (T226.setTop (mkF m 44 #[.val (.long q0), .second, .val (.long q1), .second, .val (.long q2), .second, .val (.int p3), .val (.int (p3 &&& (3 : Int32))), .val (.long (own_pick (((p3.toUInt32 >>> ((2 : Int32) &&& 31).toUInt32).toInt32) &&& (3 : Int32)) q0)), .second, .val (.long (own_pick (((p3.toUInt32 >>> ((4 : Int32) &&& 31).toUInt32).toInt32) &&& (3 : Int32)) q1)), .second, .val (.long (own_pick (((p3.toUInt32 >>> ((6 : Int32) &&& 31).toUInt32).toInt32) &&& (3 : Int32)) q2)), .second, .unset, .unset, .unset, .unset, .unset, .unset, .unset, .unset, .unset, .unset, .unset] []))
        rw [hn3]
        refine bk (fun t k => XS.iload X226.here hx rfl (hb hby at_44) rfl k) ?_
        show F (T226.setTop (mkF m 46 #[.val (.long q0), .second, .val (.long q1), .second, .val (.long q2), .second, .val (.int p3), .val (.int (3 : Int32)), .val (.long (own_pick (((p3.toUInt32 >>> ((2 : Int32) &&& 31).toUInt32).toInt32) &&& (3 : Int32)) q0)), .second, .val (.long (own_pick (((p3.toUInt32 >>> ((4 : Int32) &&& 31).toUInt32).toInt32) &&& (3 : Int32)) q1)), .second, .val (.long (own_pick (((p3.toUInt32 >>> ((6 : Int32) &&& 31).toUInt32).toInt32) &&& (3 : Int32)) q2)), .second, .unset, .unset, .unset, .unset, .unset, .unset, .unset, .unset, .unset, .unset, .unset] [(.int (3 : Int32))]))
        obtain ⟨T227, h227, k227, X227, e227, E227, A227, st227⟩ := newP (aty := .long) X226 hx hZ w_4 e226 (g := (mkF m 46 #[.val (.long q0), .second, .val (.long q1), .second, .val (.long q2), .second, .val (.int p3), .val (.int (3 : Int32)), .val (.long (own_pick (((p3.toUInt32 >>> ((2 : Int32) &&& 31).toUInt32).toInt32) &&& (3 : Int32)) q0)), .second, .val (.long (own_pick (((p3.toUInt32 >>> ((4 : Int32) &&& 31).toUInt32).toInt32) &&& (3 : Int32)) q1)), .second, .val (.long (own_pick (((p3.toUInt32 >>> ((6 : Int32) &&& 31).toUInt32).toInt32) &&& (3 : Int32)) q2)), .second, .unset, .unset, .unset, .unset, .unset, .unset, .unset, .unset, .unset, .unset, .unset] [(.int (3 : Int32))])) rfl (hb hby at_46) rfl (by decide) (cap := 3) (by decide) (by decide) (by decide) (by decide)
        obtain ⟨b227, g227⟩ : ∃ z, z = h0.size := ⟨_, rfl⟩
        rw [← g227] at A227 st227
        have Gb227 : n0 ≤ b227 := Nat.le_trans Z0 (Nat.le_of_eq g227.symm)
        have f228 := Nat.le_trans Z0 E227.1
        have V_b227 : Arv Z h227 b227 k227 .long (3 : Int32) [(.long (0 : Int64)), (.long (0 : Int64)), (.long (0 : Int64))] (.long (0 : Int64)) := (Arv.new A227 (by decide)).pad (pad_rep [] (.long (0 : Int64)) 3)
        refine bk (fun t k => st227 t k) ?_
        show F (T227.setTop (mkF m 48 #[.val (.long q0), .second, .val (.long q1), .second, .val (.long q2), .second, .val (.int p3), .val (.int (3 : Int32)), .val (.long (own_pick (((p3.toUInt32 >>> ((2 : Int32) &&& 31).toUInt32).toInt32) &&& (3 : Int32)) q0)), .second, .val (.long (own_pick (((p3.toUInt32 >>> ((4 : Int32) &&& 31).toUInt32).toInt32) &&& (3 : Int32)) q1)), .second, .val (.long (own_pick (((p3.toUInt32 >>> ((6 : Int32) &&& 31).toUInt32).toInt32) &&& (3 : Int32)) q2)), .second, .unset, .unset, .unset, .unset, .unset, .unset, .unset, .unset, .unset, .unset, .unset] [(.ref b227)]))
        refine bk (fun t k => XS.astore X227.here hx rfl (hb hby at_48) rfl rfl (l' := #[.val (.long q0), .second, .val (.long q1), .second, .val (.long q2), .second, .val (.int p3), .val (.int (3 : Int32)), .val (.long (own_pick (((p3.toUInt32 >>> ((2 : Int32) &&& 31).toUInt32).toInt32) &&& (3 : Int32)) q0)), .second, .val (.long (own_pick (((p3.toUInt32 >>> ((4 : Int32) &&& 31).toUInt32).toInt32) &&& (3 : Int32)) q1)), .second, .val (.long (own_pick (((p3.toUInt32 >>> ((6 : Int32) &&& 31).toUInt32).toInt32) &&& (3 : Int32)) q2)), .second, .val (.ref b227), .unset, .unset, .unset, .unset, .unset, .unset, .unset, .unset, .unset, .unset]) rfl k) ?_
        refine bk (fun t k => XS.iload X227.here hx rfl (hb hby at_50) rfl k) ?_
        show F (T227.setTop (mkF m 52 #[.val (.long q0), .second, .val (.long q1), .second, .val (.long q2), .second, .val (.int p3), .val (.int (3 : Int32)), .val (.long (own_pick (((p3.toUInt32 >>> ((2 : Int32) &&& 31).toUInt32).toInt32) &&& (3 : Int32)) q0)), .second, .val (.long (own_pick (((p3.toUInt32 >>> ((4 : Int32) &&& 31).toUInt32).toInt32) &&& (3 : Int32)) q1)), .second, .val (.long (own_pick (((p3.toUInt32 >>> ((6 : Int32) &&& 31).toUInt32).toInt32) &&& (3 : Int32)) q2)), .second, .val (.ref b227), .unset, .unset, .unset, .unset, .unset, .unset, .unset, .unset, .unset, .unset] [(.int (3 : Int32))]))
        refine bk (fun t k => XS.ifNo X227.here hx rfl (hb hby at_52) rfl ((if0 _ _).trans (tlt (by decide : (0 : Int32) < (3 : Int32))).2.2.2) k) ?_
        refine bk (fun t k => XS.aload X227.here hx rfl (hb hby at_55) rfl rfl k) ?_
        refine bk (fun t k => XS.iconst X227.here hx rfl (hb hby at_57) k) ?_
        refine bk (fun t k => XS.lload X227.here hx rfl (hb hby at_58) rfl k) ?_
        show F (T227.setTop (mkF m 60 #[.val (.long q0), .second, .val (.long q1), .second, .val (.long q2), .second, .val (.int p3), .val (.int (3 : Int32)), .val (.long (own_pick (((p3.toUInt32 >>> ((2 : Int32) &&& 31).toUInt32).toInt32) &&& (3 : Int32)) q0)), .second, .val (.long (own_pick (((p3.toUInt32 >>> ((4 : Int32) &&& 31).toUInt32).toInt32) &&& (3 : Int32)) q1)), .second, .val (.long (own_pick (((p3.toUInt32 >>> ((6 : Int32) &&& 31).toUInt32).toInt32) &&& (3 : Int32)) q2)), .second, .val (.ref b227), .unset, .unset, .unset, .unset, .unset, .unset, .unset, .unset, .unset, .unset] [(.long (own_pick (((p3.toUInt32 >>> ((2 : Int32) &&& 31).toUInt32).toInt32) &&& (3 : Int32)) q0)), (.int (0 : Int32)), (.ref b227)]))
        have vv229 := V_b227
        obtain ⟨cl229, Ar229, q229, S229, M229, H229, G229⟩ := vv229
        have hin229 : ¬ ((0 : Int32) < 0 ∨ cl229.slots.size ≤ ((0 : Int32)).toNatClampNeg) := inb_of S229 ⟨by decide, by decide⟩
        obtain ⟨T229, h229, X229, e229, W229, st229⟩ := stJ X227 hx hZ e227 Ar229 (j := (0 : Int32)) hin229 (g := (mkF m 60 #[.val (.long q0), .second, .val (.long q1), .second, .val (.long q2), .second, .val (.int p3), .val (.int (3 : Int32)), .val (.long (own_pick (((p3.toUInt32 >>> ((2 : Int32) &&& 31).toUInt32).toInt32) &&& (3 : Int32)) q0)), .second, .val (.long (own_pick (((p3.toUInt32 >>> ((4 : Int32) &&& 31).toUInt32).toInt32) &&& (3 : Int32)) q1)), .second, .val (.long (own_pick (((p3.toUInt32 >>> ((6 : Int32) &&& 31).toUInt32).toInt32) &&& (3 : Int32)) q2)), .second, .val (.ref b227), .unset, .unset, .unset, .unset, .unset, .unset, .unset, .unset, .unset, .unset] [(.long (own_pick (((p3.toUInt32 >>> ((2 : Int32) &&& 31).toUInt32).toInt32) &&& (3 : Int32)) q0)), (.int (0 : Int32)), (.ref b227)])) rfl rfl (hb hby at_60)
        have V_b227_229 : Arv Z h229 b227 k227 .long (3 : Int32) [(.long (own_pick (((p3.toUInt32 >>> ((2 : Int32) &&& 31).toUInt32).toInt32) &&& (3 : Int32)) q0)), (.long (0 : Int64)), (.long (0 : Int64))] (.long (0 : Int64)) := Arv.set Ar229 q229 S229 M229 H229 G229 rfl W229 0 rfl (Nat.le_of_ble_eq_true rfl)
        have f230 := Nat.le_trans f228 (Keep.of_wr W229).1
        have N229 := Fr.snoc X229 N226 Gb227
        refine bk (fun t k => st229 t k) ?_
        refine bk (fun t k => XS.iload X229.here hx rfl (hb hby at_61) rfl k) ?_
        refine bk (fun t k => XS.iconst X229.here hx rfl (hb hby at_63) k) ?_
        show F (T229.setTop (mkF m 64 #[.val (.long q0), .second, .val (.long q1), .second, .val (.long q2), .second, .val (.int p3), .val (.int (3 : Int32)), .val (.long (own_pick (((p3.toUInt32 >>> ((2 : Int32) &&& 31).toUInt32).toInt32) &&& (3 : Int32)) q0)), .second, .val (.long (own_pick (((p3.toUInt32 >>> ((4 : Int32) &&& 31).toUInt32).toInt32) &&& (3 : Int32)) q1)), .second, .val (.long (own_pick (((p3.toUInt32 >>> ((6 : Int32) &&& 31).toUInt32).toInt32) &&& (3 : Int32)) q2)), .second, .val (.ref b227), .unset, .unset, .unset, .unset, .unset, .unset, .unset, .unset, .unset, .unset] [(.int (1 : Int32)), (.int (3 : Int32))]))
        refine bk (fun t k => XS.icmpNo X229.here hx rfl (hb hby at_64) rfl (tlt (by decide : (1 : Int32) < (3 : Int32))).2.2.2 k) ?_
        refine bk (fun t k => XS.aload X229.here hx rfl (hb hby at_67) rfl rfl k) ?_
        refine bk (fun t k => XS.iconst X229.here hx rfl (hb hby at_69) k) ?_
        refine bk (fun t k => XS.lload X229.here hx rfl (hb hby at_70) rfl k) ?_
        show F (T229.setTop (mkF m 72 #[.val (.long q0), .second, .val (.long q1), .second, .val (.long q2), .second, .val (.int p3), .val (.int (3 : Int32)), .val (.long (own_pick (((p3.toUInt32 >>> ((2 : Int32) &&& 31).toUInt32).toInt32) &&& (3 : Int32)) q0)), .second, .val (.long (own_pick (((p3.toUInt32 >>> ((4 : Int32) &&& 31).toUInt32).toInt32) &&& (3 : Int32)) q1)), .second, .val (.long (own_pick (((p3.toUInt32 >>> ((6 : Int32) &&& 31).toUInt32).toInt32) &&& (3 : Int32)) q2)), .second, .val (.ref b227), .unset, .unset, .unset, .unset, .unset, .unset, .unset, .unset, .unset, .unset] [(.long (own_pick (((p3.toUInt32 >>> ((4 : Int32) &&& 31).toUInt32).toInt32) &&& (3 : Int32)) q1)), (.int (1 : Int32)), (.ref b227)]))
        have vv231 := V_b227_229
        obtain ⟨cl231, Ar231, q231, S231, M231, H231, G231⟩ := vv231
        have hin231 : ¬ ((1 : Int32) < 0 ∨ cl231.slots.size ≤ ((1 : Int32)).toNatClampNeg) := inb_of S231 ⟨by decide, by decide⟩
        obtain ⟨T231, h231, X231, e231, W231, st231⟩ := stJ X229 hx hZ e229 Ar231 (j := (1 : Int32)) hin231 (g := (mkF m 72 #[.val (.long q0), .second, .val (.long q1), .second, .val (.long q2), .second, .val (.int p3), .val (.int (3 : Int32)), .val (.long (own_pick (((p3.toUInt32 >>> ((2 : Int32) &&& 31).toUInt32).toInt32) &&& (3 : Int32)) q0)), .second, .val (.long (own_pick (((p3.toUInt32 >>> ((4 : Int32) &&& 31).toUInt32).toInt32) &&& (3 : Int32)) q1)), .second, .val (.long (own_pick (((p3.toUInt32 >>> ((6 : Int32) &&& 31).toUInt32).toInt32) &&& (3 : Int32)) q2)), .second, .val (.ref b227), .unset, .unset, .unset, .unset, .unset, .unset, .unset, .unset, .unset, .unset] [(.long (own_pick (((p3.toUInt32 >>> ((4 : Int32) &&& 31).toUInt32).toInt32) &&& (3 : Int32)) q1)), (.int (1 : Int32)), (.ref b227)])) rfl rfl (hb hby at_72)
        have V_b227_231 : Arv Z h231 b227 k227 .long (3 : Int32) [(.long (own_pick (((p3.toUInt32 >>> ((2 : Int32) &&& 31).toUInt32).toInt32) &&& (3 : Int32)) q0)), (.long (own_pick (((p3.toUInt32 >>> ((4 : Int32) &&& 31).toUInt32).toInt32) &&& (3 : Int32)) q1)), (.long (0 : Int64))] (.long (0 : Int64)) := Arv.set Ar231 q231 S231 M231 H231 G231 rfl W231 1 rfl (Nat.le_of_ble_eq_true rfl)
        have f232 := Nat.le_trans f230 (Keep.of_wr W231).1
        have N231 := Fr.snoc X231 N229 Gb227
        refine bk (fun t k => st231 t k) ?_
        refine bk (fun t k => XS.iload X231.here hx rfl (hb hby at_73) rfl k) ?_
        refine bk (fun t k => XS.iconst X231.here hx rfl (hb hby at_75) k) ?_
        show F (T231.setTop (mkF m 76 #[.val (.long q0), .second, .val (.long q1), .second, .val (.long q2), .second, .val (.int p3), .val (.int (3 : Int32)), .val (.long (own_pick (((p3.toUInt32 >>> ((2 : Int32) &&& 31).toUInt32).toInt32) &&& (3 : Int32)) q0)), .second, .val (.long (own_pick (((p3.toUInt32 >>> ((4 : Int32) &&& 31).toUInt32).toInt32) &&& (3 : Int32)) q1)), .second, .val (.long (own_pick (((p3.toUInt32 >>> ((6 : Int32) &&& 31).toUInt32).toInt32) &&& (3 : Int32)) q2)), .second, .val (.ref b227), .unset, .unset, .unset, .unset, .unset, .unset, .unset, .unset, .unset, .unset] [(.int (2 : Int32)), (.int (3 : Int32))]))
        refine bk (fun t k => XS.icmpNo X231.here hx rfl (hb hby at_76) rfl (tlt (by decide : (2 : Int32) < (3 : Int32))).2.2.2 k) ?_
        refine bk (fun t k => XS.aload X231.here hx rfl (hb hby at_79) rfl rfl k) ?_
        refine bk (fun t k => XS.iconst X231.here hx rfl (hb hby at_81) k) ?_
        refine bk (fun t k => XS.lload X231.here hx rfl (hb hby at_82) rfl k) ?_
        show F (T231.setTop (mkF m 84 #[.val (.long q0), .second, .val (.long q1), .second, .val (.long q2), .second, .val (.int p3), .val (.int (3 : Int32)), .val (.long (own_pick (((p3.toUInt32 >>> ((2 : Int32) &&& 31).toUInt32).toInt32) &&& (3 : Int32)) q0)), .second, .val (.long (own_pick (((p3.toUInt32 >>> ((4 : Int32) &&& 31).toUInt32).toInt32) &&& (3 : Int32)) q1)), .second, .val (.long (own_pick (((p3.toUInt32 >>> ((6 : Int32) &&& 31).toUInt32).toInt32) &&& (3 : Int32)) q2)), .second, .val (.ref b227), .unset, .unset, .unset, .unset, .unset, .unset, .unset, .unset, .unset, .unset] [(.long (own_pick (((p3.toUInt32 >>> ((6 : Int32) &&& 31).toUInt32).toInt32) &&& (3 : Int32)) q2)), (.int (2 : Int32)), (.ref b227)]))
        have vv233 := V_b227_231
        obtain ⟨cl233, Ar233, q233, S233, M233, H233, G233⟩ := vv233
        have hin233 : ¬ ((2 : Int32) < 0 ∨ cl233.slots.size ≤ ((2 : Int32)).toNatClampNeg) := inb_of S233 ⟨by decide, by decide⟩
        obtain ⟨T233, h233, X233, e233, W233, st233⟩ := stJ X231 hx hZ e231 Ar233 (j := (2 : Int32)) hin233 (g := (mkF m 84 #[.val (.long q0), .second, .val (.long q1), .second, .val (.long q2), .second, .val (.int p3), .val (.int (3 : Int32)), .val (.long (own_pick (((p3.toUInt32 >>> ((2 : Int32) &&& 31).toUInt32).toInt32) &&& (3 : Int32)) q0)), .second, .val (.long (own_pick (((p3.toUInt32 >>> ((4 : Int32) &&& 31).toUInt32).toInt32) &&& (3 : Int32)) q1)), .second, .val (.long (own_pick (((p3.toUInt32 >>> ((6 : Int32) &&& 31).toUInt32).toInt32) &&& (3 : Int32)) q2)), .second, .val (.ref b227), .unset, .unset, .unset, .unset, .unset, .unset, .unset, .unset, .unset, .unset] [(.long (own_pick (((p3.toUInt32 >>> ((6 : Int32) &&& 31).toUInt32).toInt32) &&& (3 : Int32)) q2)), (.int (2 : Int32)), (.ref b227)])) rfl rfl (hb hby at_84)
        have V_b227_233 : Arv Z h233 b227 k227 .long (3 : Int32) [(.long (own_pick (((p3.toUInt32 >>> ((2 : Int32) &&& 31).toUInt32).toInt32) &&& (3 : Int32)) q0)), (.long (own_pick (((p3.toUInt32 >>> ((4 : Int32) &&& 31).toUInt32).toInt32) &&& (3 : Int32)) q1)), (.long (own_pick (((p3.toUInt32 >>> ((6 : Int32) &&& 31).toUInt32).toInt32) &&& (3 : Int32)) q2))] (.long (0 : Int64)) := Arv.set Ar233 q233 S233 M233 H233 G233 rfl W233 2 rfl (Nat.le_of_ble_eq_true rfl)
        have f234 := Nat.le_trans f232 (Keep.of_wr W233).1
        have N233 := Fr.snoc X233 N231 Gb227
        refine bk (fun t k => st233 t k) ?_
        refine bk (fun t k => XS.iload X233.here hx rfl (hb hby at_85) rfl k) ?_
        show F (T233.setTop (mkF m 87 #[.val (.long q0), .second, .val (.long q1), .second, .val (.long q2), .second, .val (.int p3), .val (.int (3 : Int32)), .val (.long (own_pick (((p3.toUInt32 >>> ((2 : Int32) &&& 31).toUInt32).toInt32) &&& (3 : Int32)) q0)), .second, .val (.long (own_pick (((p3.toUInt32 >>> ((4 : Int32) &&& 31).toUInt32).toInt32) &&& (3 : Int32)) q1)), .second, .val (.long (own_pick (((p3.toUInt32 >>> ((6 : Int32) &&& 31).toUInt32).toInt32) &&& (3 : Int32)) q2)), .second, .val (.ref b227), .unset, .unset, .unset, .unset, .unset, .unset, .unset, .unset, .unset, .unset] [(.int (3 : Int32))]))
        refine bk (fun t k => XS.ifNo X233.here hx rfl (hb hby at_87) rfl ((if0 _ _).trans (tlt (by decide : (0 : Int32) < (3 : Int32))).2.2.2) k) ?_
        refine bk (fun t k => XS.lload X233.here hx rfl (hb hby at_90) rfl k) ?_
        refine bk (fun t k => XS.goto X233.here hx rfl (pc0 := 92) (pc' := 96) rfl (hb hby at_92) (by decide) (by decide) k) ?_
        show F (T233.setTop (mkF m 96 #[.val (.long q0), .second, .val (.long q1), .second, .val (.long q2), .second, .val (.int p3), .val (.int (3 : Int32)), .val (.long (own_pick (((p3.toUInt32 >>> ((2 : Int32) &&& 31).toUInt32).toInt32) &&& (3 : Int32)) q0)), .second, .val (.long (own_pick (((p3.toUInt32 >>> ((4 : Int32) &&& 31).toUInt32).toInt32) &&& (3 : Int32)) q1)), .second, .val (.long (own_pick (((p3.toUInt32 >>> ((6 : Int32) &&& 31).toUInt32).toInt32) &&& (3 : Int32)) q2)), .second, .val (.ref b227), .unset, .unset, .unset, .unset, .unset, .unset, .unset, .unset, .unset, .unset] [(.long (own_pick (((p3.toUInt32 >>> ((2 : Int32) &&& 31).toUInt32).toInt32) &&& (3 : Int32)) q0))]))
        refine bk (fun t k => XS.lstore X233.here hx rfl (hb hby at_96) rfl (l' := #[.val (.long q0), .second, .val (.long q1), .second, .val (.long q2), .second, .val (.int p3), .val (.int (3 : Int32)), .val (.long (own_pick (((p3.toUInt32 >>> ((2 : Int32) &&& 31).toUInt32).toInt32) &&& (3 : Int32)) q0)), .second, .val (.long (own_pick (((p3.toUInt32 >>> ((4 : Int32) &&& 31).toUInt32).toInt32) &&& (3 : Int32)) q1)), .second, .val (.long (own_pick (((p3.toUInt32 >>> ((6 : Int32) &&& 31).toUInt32).toInt32) &&& (3 : Int32)) q2)), .second, .val (.ref b227), .val (.long (own_pick (((p3.toUInt32 >>> ((2 : Int32) &&& 31).toUInt32).toInt32) &&& (3 : Int32)) q0)), .second, .unset, .unset, .unset, .unset, .unset, .unset, .unset, .unset]) rfl k) ?_
        refine bk (fun t k => XS.iload X233.here hx rfl (hb hby at_98) rfl k) ?_
        refine bk (fun t k => XS.iconst X233.here hx rfl (hb hby at_100) k) ?_
        show F (T233.setTop (mkF m 101 #[.val (.long q0), .second, .val (.long q1), .second, .val (.long q2), .second, .val (.int p3), .val (.int (3 : Int32)), .val (.long (own_pick (((p3.toUInt32 >>> ((2 : Int32) &&& 31).toUInt32).toInt32) &&& (3 : Int32)) q0)), .second, .val (.long (own_pick (((p3.toUInt32 >>> ((4 : Int32) &&& 31).toUInt32).toInt32) &&& (3 : Int32)) q1)), .second, .val (.long (own_pick (((p3.toUInt32 >>> ((6 : Int32) &&& 31).toUInt32).toInt32) &&& (3 : Int32)) q2)), .second, .val (.ref b227), .val (.long (own_pick (((p3.toUInt32 >>> ((2 : Int32) &&& 31).toUInt32).toInt32) &&& (3 : Int32)) q0)), .second, .unset, .unset, .unset, .unset, .unset, .unset, .unset, .unset] [(.int (1 : Int32)), (.int (3 : Int32))]))
        refine bk (fun t k => XS.icmpNo X233.here hx rfl (hb hby at_101) rfl (tlt (by decide : (1 : Int32) < (3 : Int32))).2.2.2 k) ?_
        refine bk (fun t k => XS.lload X233.here hx rfl (hb hby at_104) rfl k) ?_
        refine bk (fun t k => XS.goto X233.here hx rfl (pc0 := 106) (pc' := 110) rfl (hb hby at_106) (by decide) (by decide) k) ?_
        show F (T233.setTop (mkF m 110 #[.val (.long q0), .second, .val (.long q1), .second, .val (.long q2), .second, .val (.int p3), .val (.int (3 : Int32)), .val (.long (own_pick (((p3.toUInt32 >>> ((2 : Int32) &&& 31).toUInt32).toInt32) &&& (3 : Int32)) q0)), .second, .val (.long (own_pick (((p3.toUInt32 >>> ((4 : Int32) &&& 31).toUInt32).toInt32) &&& (3 : Int32)) q1)), .second, .val (.long (own_pick (((p3.toUInt32 >>> ((6 : Int32) &&& 31).toUInt32).toInt32) &&& (3 : Int32)) q2)), .second, .val (.ref b227), .val (.long (own_pick (((p3.toUInt32 >>> ((2 : Int32) &&& 31).toUInt32).toInt32) &&& (3 : Int32)) q0)), .second, .unset, .unset, .unset, .unset, .unset, .unset, .unset, .unset] [(.long (own_pick (((p3.toUInt32 >>> ((4 : Int32) &&& 31).toUInt32).toInt32) &&& (3 : Int32)) q1))]))
        refine bk (fun t k => XS.lstore X233.here hx rfl (hb hby at_110) rfl (l' := #[.val (.long q0), .second, .val (.long q1), .second, .val (.long q2), .second, .val (.int p3), .val (.int (3 : Int32)), .val (.long (own_pick (((p3.toUInt32 >>> ((2 : Int32) &&& 31).toUInt32).toInt32) &&& (3 : Int32)) q0)), .second, .val (.long (own_pick (((p3.toUInt32 >>> ((4 : Int32) &&& 31).toUInt32).toInt32) &&& (3 : Int32)) q1)), .second, .val (.long (own_pick (((p3.toUInt32 >>> ((6 : Int32) &&& 31).toUInt32).toInt32) &&& (3 : Int32)) q2)), .second, .val (.ref b227), .val (.long (own_pick (((p3.toUInt32 >>> ((2 : Int32) &&& 31).toUInt32).toInt32) &&& (3 : Int32)) q0)), .second, .val (.long (own_pick (((p3.toUInt32 >>> ((4 : Int32) &&& 31).toUInt32).toInt32) &&& (3 : Int32)) q1)), .second, .unset, .unset, .unset, .unset, .unset, .unset]) rfl k) ?_
        refine bk (fun t k => XS.iload X233.here hx rfl (hb hby at_112) rfl k) ?_
        refine bk (fun t k => XS.iconst X233.here hx rfl (hb hby at_114) k) ?_
        show F (T233.setTop (mkF m 115 #[.val (.long q0), .second, .val (.long q1), .second, .val (.long q2), .second, .val (.int p3), .val (.int (3 : Int32)), .val (.long (own_pick (((p3.toUInt32 >>> ((2 : Int32) &&& 31).toUInt32).toInt32) &&& (3 : Int32)) q0)), .second, .val (.long (own_pick (((p3.toUInt32 >>> ((4 : Int32) &&& 31).toUInt32).toInt32) &&& (3 : Int32)) q1)), .second, .val (.long (own_pick (((p3.toUInt32 >>> ((6 : Int32) &&& 31).toUInt32).toInt32) &&& (3 : Int32)) q2)), .second, .val (.ref b227), .val (.long (own_pick (((p3.toUInt32 >>> ((2 : Int32) &&& 31).toUInt32).toInt32) &&& (3 : Int32)) q0)), .second, .val (.long (own_pick (((p3.toUInt32 >>> ((4 : Int32) &&& 31).toUInt32).toInt32) &&& (3 : Int32)) q1)), .second, .unset, .unset, .unset, .unset, .unset, .unset] [(.int (2 : Int32)), (.int (3 : Int32))]))
        refine bk (fun t k => XS.icmpNo X233.here hx rfl (hb hby at_115) rfl (tlt (by decide : (2 : Int32) < (3 : Int32))).2.2.2 k) ?_
        refine bk (fun t k => XS.lload X233.here hx rfl (hb hby at_118) rfl k) ?_
        refine bk (fun t k => XS.goto X233.here hx rfl (pc0 := 120) (pc' := 124) rfl (hb hby at_120) (by decide) (by decide) k) ?_
        show F (T233.setTop (mkF m 124 #[.val (.long q0), .second, .val (.long q1), .second, .val (.long q2), .second, .val (.int p3), .val (.int (3 : Int32)), .val (.long (own_pick (((p3.toUInt32 >>> ((2 : Int32) &&& 31).toUInt32).toInt32) &&& (3 : Int32)) q0)), .second, .val (.long (own_pick (((p3.toUInt32 >>> ((4 : Int32) &&& 31).toUInt32).toInt32) &&& (3 : Int32)) q1)), .second, .val (.long (own_pick (((p3.toUInt32 >>> ((6 : Int32) &&& 31).toUInt32).toInt32) &&& (3 : Int32)) q2)), .second, .val (.ref b227), .val (.long (own_pick (((p3.toUInt32 >>> ((2 : Int32) &&& 31).toUInt32).toInt32) &&& (3 : Int32)) q0)), .second, .val (.long (own_pick (((p3.toUInt32 >>> ((4 : Int32) &&& 31).toUInt32).toInt32) &&& (3 : Int32)) q1)), .second, .unset, .unset, .unset, .unset, .unset, .unset] [(.long (own_pick (((p3.toUInt32 >>> ((6 : Int32) &&& 31).toUInt32).toInt32) &&& (3 : Int32)) q2))]))
        refine bk (fun t k => XS.lstore X233.here hx rfl (hb hby at_124) rfl (l' := #[.val (.long q0), .second, .val (.long q1), .second, .val (.long q2), .second, .val (.int p3), .val (.int (3 : Int32)), .val (.long (own_pick (((p3.toUInt32 >>> ((2 : Int32) &&& 31).toUInt32).toInt32) &&& (3 : Int32)) q0)), .second, .val (.long (own_pick (((p3.toUInt32 >>> ((4 : Int32) &&& 31).toUInt32).toInt32) &&& (3 : Int32)) q1)), .second, .val (.long (own_pick (((p3.toUInt32 >>> ((6 : Int32) &&& 31).toUInt32).toInt32) &&& (3 : Int32)) q2)), .second, .val (.ref b227), .val (.long (own_pick (((p3.toUInt32 >>> ((2 : Int32) &&& 31).toUInt32).toInt32) &&& (3 : Int32)) q0)), .second, .val (.long (own_pick (((p3.toUInt32 >>> ((4 : Int32) &&& 31).toUInt32).toInt32) &&& (3 : Int32)) q1)), .second, .val (.long (own_pick (((p3.toUInt32 >>> ((6 : Int32) &&& 31).toUInt32).toInt32) &&& (3 : Int32)) q2)), .second, .unset, .unset, .unset, .unset]) rfl k) ?_
        show F (T233.setTop (mkF m 126 #[.val (.long q0), .second, .val (.long q1), .second, .val (.long q2), .second, .val (.int p3), .val (.int (3 : Int32)), .val (.long (own_pick (((p3.toUInt32 >>> ((2 : Int32) &&& 31).toUInt32).toInt32) &&& (3 : Int32)) q0)), .second, .val (.long (own_pick (((p3.toUInt32 >>> ((4 : Int32) &&& 31).toUInt32).toInt32) &&& (3 : Int32)) q1)), .second, .val (.long (own_pick (((p3.toUInt32 >>> ((6 : Int32) &&& 31).toUInt32).toInt32) &&& (3 : Int32)) q2)), .second, .val (.ref b227), .val (.long (own_pick (((p3.toUInt32 >>> ((2 : Int32) &&& 31).toUInt32).toInt32) &&& (3 : Int32)) q0)), .second, .val (.long (own_pick (((p3.toUInt32 >>> ((4 : Int32) &&& 31).toUInt32).toInt32) &&& (3 : Int32)) q1)), .second, .val (.long (own_pick (((p3.toUInt32 >>> ((6 : Int32) &&& 31).toUInt32).toInt32) &&& (3 : Int32)) q2)), .second, .unset, .unset, .unset, .unset] []))
        exact J126 _ _ h233 (X233.more (Nat.le_refl _) (by decide)) e233 N233 _ _ _ _ _ _ _ _ _ _ f234 V_b227_233 (Or.inr (Or.inr (Or.inr rfl)))
set_option maxRecDepth 65536 in
set_option maxHeartbeats 40000000 in
theorem comes_1 {Post : Tables → Env → Array Value → State → Outcome → State → Prop} (hpost : ∀ tb e args s v u, (limb_1_1.after args s (.returned v) u = true ∧ limb_1_2.after args s (.returned v) u = true ∧ True) → FrameEnd s (.returned v) u (Jvm.fieldLocs frame_1_writes args s ++ Jvm.arrayLocs frame_1_arrays args s ++ Jvm.staticLocs frame_1_statics s) 16 128 → Post tb e args s (.returned v) u) :
    ArmFor flags0 classFile x code maxLocals ret World_1 tables_1 room_1 Calls_1 rest_1 Pre_1 Post := by
  intro l hfl _ _ p e ha hc hk s m args below hf hA hF happ hP
  obtain ⟨hcalls, hrest, hpre⟩ := hP
  obtain ⟨-, -, -, hnamed, -, -, -, hat⟩ := (Spec.applies_iff hf).mp happ
  obtain ⟨hg, hn⟩ := and_e (Cond.before_iff.mp (show (Jvm.Cond.and given_1 narrow_1).before args s = true from hpre))
  obtain ⟨hcount, hk0⟩ := and_e hg
  obtain ⟨hi0, hk1⟩ := and_e hk0
  obtain ⟨hi1, hk2⟩ := and_e hk1
  obtain ⟨hi2, hk3⟩ := and_e hk2
  have hi3 := hk3
  obtain ⟨w0, w1, w2, w3, rfl⟩ : ∃ w0 w1 w2 w3 : Value, args = #[w0, w1, w2, w3] := by
    have hs : args.size = 4 := by simpa [Cond.value, given_1] using hcount
    obtain ⟨L⟩ := args
    match L, hs with
    | [w0, w1, w2, w3], _ => exact ⟨w0, w1, w2, w3, rfl⟩
  have hw := fun d (hd : d ∈ tables_1) => atoms_spec (ws := Jvm.Cond.code x code maxLocals ret :: tables_1) hat d (List.mem_cons_of_mem _ hd)
  obtain ⟨i0, ei0⟩ := isL_v hi0
  obtain rfl : w0 = (.long i0) := Option.some.inj ei0
  obtain ⟨i1, ei1⟩ := isL_v hi1
  obtain rfl : w1 = (.long i1) := Option.some.inj ei1
  obtain ⟨i2, ei2⟩ := isL_v hi2
  obtain rfl : w2 = (.long i2) := Option.some.inj ei2
  obtain ⟨i3, ei3⟩ := is_v hi3
  obtain rfl : w3 = (.int i3) := Option.some.inj ei3
  obtain ⟨n, o, h1, h2, h3, _, L, rfl, ⟨rfl, N⟩, hq⟩ := rm0 l s _ hw tables_1 i0 i1 i2 i3  s.heap s.heap.size (Nat.le_refl _)  p e ha hc hk s m _ below hf ((Spec.applies_iff_loose hf).mp happ).1 ⟨rfl, State.Warmed39.refl s, rfl⟩ trivial
  refine ⟨n, _, h1, h2, h3, hpost _ _ _ _ _ _ ⟨Cond.after_iff.mpr rfl, Cond.after_iff.mpr (eq_i res_at (Term.int_eval (1)) rfl), trivial⟩ ⟨hq.1, hq.2.1, (hq.2.2.sift fun y hy => Or.inr (N y hy)).mono (by decide) (by decide)⟩⟩
theorem main_1_1 : Claimed_1_1 := comes_1 fun _ _ _ _ _ _ h hF => ⟨h.1, hF⟩
theorem main_1_2 : Claimed_1_2 := comes_1 fun _ _ _ _ _ _ h hF => ⟨h.2.1, hF⟩
end Jvm.Pilot.@@N@@
namespace Jvm.Pilot.@@N@@
open Jvm Jvm.ClassFile Sem Op Lib Jvm.Free Jvm.Stand Jvm.Pilot.@@N@@.Jvm.D
/-! MADE BY PROGRAM (witnessworld.py) out of the Statement's table words and the real class files: 17 classes; the members and pool entries that the words name. The judged class is class 1, her method 3. -/
namespace start1
open Jvm.ClassFile
def u (s : String) : CpInfo := .utf8 (stringToUtf16 s)
/-- a pool by its gaps: so many unusable entries, then the entry; so many at the end -/
def gap : Nat → List CpInfo → List CpInfo
  | 0, r => r
  | n + 1, r => .unusable :: gap n r
def poolList (es : List (Nat × CpInfo)) (last : Nat) : List CpInfo := es.foldr (fun e r => gap e.1 (e.2 :: r)) (gap last [])
def pool (es : List (Nat × CpInfo)) (last : Nat) : Array CpInfo := ⟨poolList es last⟩
def fileOf (pool : Array CpInfo) (this : Nat) (attrs : Array Attribute := #[]) (ms : Array MethodInfo := #[]) (fl : Nat := 33) (sup : Nat := 0) (ifs : Array Nat := #[]) (fds : Array FieldInfo := #[]) : ClassFile where
  minorVersion := 0
  majorVersion := 65
  constantPool := pool
  accessFlags := fl
  thisClass := this
  superClass := sup
  interfaces := ifs
  fields := fds
  methods := ms
  attributes := attrs
def plain (name : String) (sup : Option ClassId) : Class where
  name := name
  kind := .ordinary
  loader := none
  accessFlags := 33
  super := sup
  interfaces := #[]
  cf := none
  fields := #[]
  methods := #[]
  instanceTypes := #[]
  staticTypes := #[]
  resolved := #[]
  callSites := []
  init := .initialized
  statics := none
  mirror := none

def pool0 : Array CpInfo := pool [(5, u "<init>"), (0, u "()V"), (1, .class_ 10), (1, u "java/lang/Object")] 113

def k0c0 : Code := { maxStack := 0, maxLocals := 1, code := object_method_1_code, exceptionTable := #[], attributes := #[] }
def k0m0 : Method := { name := "<init>", desc := "()V", sig := { parameters := [], returnType := none }, accessFlags := 1, code := some k0c0 }
/-- java/lang/Object -/
def k0 : Class := { plain "java/lang/Object" none with
  accessFlags := 33
  interfaces := #[]
  cf := some (fileOf pool0 8 #[] #[{ accessFlags := 1, nameIndex := 5, descriptorIndex := 6, attributes := #[] }] 33 0 #[] #[])
  fields := #[]
  methods := #[k0m0]
  instanceTypes := #[]
  staticTypes := #[]
  resolved := Array.replicate 124 none
  statics := none }

def pool1 : Array CpInfo := pool [(2, .class_ 4), (1, u "java/lang/Object"), (0, u "<init>"), (0, u "()V"), (0, .long 63), (1, .methodref 10 11), (0, .class_ 12), (0, .nameAndType 13 14), (0, u "com/example/lone1/lone1/solve/SweepOrderHasNextPinLaw"), (0, u "pick"), (0, u "(IJ)J"), (0, .methodref 10 16), (0, .nameAndType 17 18), (0, u "multiBit"), (0, u "(J)Z"), (0, .class_ 20), (0, u "com/example/lone1/lone1/solve/SweepOrder"), (0, .methodref 19 22), (0, .nameAndType 5 23), (0, u "([J)V"), (0, .methodref 19 25), (0, .nameAndType 26 27), (0, u "hasNext"), (0, u "()Z"), (0, .methodref 19 29), (0, .nameAndType 30 31), (0, u "next"), (0, u "()I"), (3, u "law"), (0, u "(JJJI)Z")] 4

def k1m0 : Method := { name := "<init>", desc := "()V", sig := { parameters := [], returnType := none }, accessFlags := 1, code := none }
def k1c1 : Code := { maxStack := 6, maxLocals := 3, code := method_2_code, exceptionTable := #[], attributes := #[] }
def k1m1 : Method := { name := "pick", desc := "(IJ)J", sig := { parameters := [.int, .long], returnType := some .long }, accessFlags := 10, code := some k1c1 }
def k1c2 : Code := { maxStack := 6, maxLocals := 2, code := method_3_code, exceptionTable := #[], attributes := #[] }
def k1m2 : Method := { name := "multiBit", desc := "(J)Z", sig := { parameters := [.long], returnType := some .boolean }, accessFlags := 10, code := some k1c2 }
def k1c3 : Code := { maxStack := 5, maxLocals := 25, code := code, exceptionTable := #[], attributes := #[] }
def k1m3 : Method := { name := "law", desc := "(JJJI)Z", sig := { parameters := [.long, .long, .long, .int], returnType := some .boolean }, accessFlags := 9, code := some k1c3 }
/-- com/example/lone1/lone1/solve/SweepOrderHasNextPinLaw -/
def k1 : Class := { plain "com/example/lone1/lone1/solve/SweepOrderHasNextPinLaw" (some 0) with
  accessFlags := 49
  interfaces := #[]
  cf := some (fileOf pool1 10 #[] #[{ accessFlags := 1, nameIndex := 5, descriptorIndex := 6, attributes := #[] }, { accessFlags := 10, nameIndex := 13, descriptorIndex := 14, attributes := #[] }, { accessFlags := 10, nameIndex := 17, descriptorIndex := 18, attributes := #[] }, { accessFlags := 9, nameIndex := 35, descriptorIndex := 36, attributes := #[] }] 49 2 #[] #[])
  fields := #[]
  methods := #[k1m0, k1m1, k1m2, k1m3]
  instanceTypes := #[]
  staticTypes := #[]
  resolved := Array.replicate 41 none
  statics := none }

def pool2 : Array CpInfo := pool [(1, .methodref 2 3), (0, .class_ 4), (0, .nameAndType 5 6), (0, u "java/lang/Object"), (0, u "<init>"), (0, u "()V"), (0, .fieldref 8 9), (0, .class_ 10), (0, .nameAndType 11 12), (0, u "com/example/lone1/lone1/solve/SweepOrder"), (0, u "words"), (0, u "[J"), (0, .fieldref 8 14), (0, .nameAndType 15 16), (0, u "at"), (0, u "I"), (0, .fieldref 8 18), (0, .nameAndType 19 20), (0, u "word"), (0, u "J"), (0, .methodref 8 22), (0, .nameAndType 23 24), (0, u "hasNext"), (0, u "()Z"), (7, .methodref 33 34), (0, .class_ 35), (0, .nameAndType 36 37), (0, u "java/lang/Long"), (0, u "numberOfLeadingZeros"), (0, u "(J)I"), (0, .long 18446744073709551615), (1, u "([J)V"), (3, u "next"), (0, u "()I")] 2

def k2c0 : Code := { maxStack := 2, maxLocals := 2, code := prog_114_method_1_code, exceptionTable := #[], attributes := #[] }
def k2m0 : Method := { name := "<init>", desc := "([J)V", sig := { parameters := [(.array .long)], returnType := none }, accessFlags := 0, code := some k2c0 }
def k2c1 : Code := { maxStack := 4, maxLocals := 1, code := prog_114_method_2_code, exceptionTable := #[], attributes := #[] }
def k2m1 : Method := { name := "hasNext", desc := "()Z", sig := { parameters := [], returnType := some .boolean }, accessFlags := 0, code := some k2c1 }
def k2c2 : Code := { maxStack := 7, maxLocals := 2, code := prog_114_method_3_code, exceptionTable := #[], attributes := #[] }
def k2m2 : Method := { name := "next", desc := "()I", sig := { parameters := [], returnType := some .int }, accessFlags := 0, code := some k2c2 }
/-- com/example/lone1/lone1/solve/SweepOrder -/
def k2 : Class := { plain "com/example/lone1/lone1/solve/SweepOrder" (some 0) with
  accessFlags := 32
  interfaces := #[]
  cf := some (fileOf pool2 8 #[] #[{ accessFlags := 0, nameIndex := 5, descriptorIndex := 40, attributes := #[] }, { accessFlags := 0, nameIndex := 23, descriptorIndex := 24, attributes := #[] }, { accessFlags := 0, nameIndex := 44, descriptorIndex := 45, attributes := #[] }] 32 2 #[] #[{ accessFlags := 18, nameIndex := 11, descriptorIndex := 12, attributes := #[] }, { accessFlags := 2, nameIndex := 15, descriptorIndex := 16, attributes := #[] }, { accessFlags := 2, nameIndex := 19, descriptorIndex := 20, attributes := #[] }])
  fields := #[{ name := "words", type := (.array .long), accessFlags := 18, slot := 0, constantValue := 0 }, { name := "at", type := .int, accessFlags := 2, slot := 1, constantValue := 0 }, { name := "word", type := .long, accessFlags := 2, slot := 2, constantValue := 0 }]
  methods := #[k2m0, k2m1, k2m2]
  instanceTypes := #[(.array .long), .int, .long]
  staticTypes := #[]
  resolved := Array.replicate 48 none
  statics := none }

def pool3 : Array CpInfo := pool [(1, .class_ 2), (0, u "java/io/Serializable"), (0, .class_ 4), (0, u "java/lang/Object")] 2

/-- java/io/Serializable -/
def k3 : Class := { plain "java/io/Serializable" (some 0) with
  accessFlags := 1537
  interfaces := #[]
  cf := some (fileOf pool3 1 #[] #[] 1537 3 #[] #[])
  fields := #[]
  methods := #[]
  instanceTypes := #[]
  staticTypes := #[]
  resolved := Array.replicate 7 none
  statics := none }

def pool4 : Array CpInfo := pool [(2, .class_ 4), (1, u "java/lang/Object"), (0, u "<init>"), (0, u "()V"), (1, .class_ 10), (1, u "java/lang/Number"), (2, .class_ 14), (0, u "java/io/Serializable"), (0, u "serialVersionUID"), (0, u "J")] 20

def k4m0 : Method := { name := "<init>", desc := "()V", sig := { parameters := [], returnType := none }, accessFlags := 1, code := none }
/-- java/lang/Number -/
def k4 : Class := { plain "java/lang/Number" (some 0) with
  accessFlags := 1057
  interfaces := #[3]
  cf := some (fileOf pool4 8 #[] #[{ accessFlags := 1, nameIndex := 5, descriptorIndex := 6, attributes := #[] }] 1057 2 #[13] #[{ accessFlags := 26, nameIndex := 15, descriptorIndex := 16, attributes := #[] }])
  fields := #[{ name := "serialVersionUID", type := .long, accessFlags := 26, slot := 0, constantValue := 0 }]
  methods := #[k4m0]
  instanceTypes := #[]
  staticTypes := #[.long]
  resolved := Array.replicate 37 none
  statics := none }

def pool5 : Array CpInfo := pool [(1, .class_ 2), (0, u "java/lang/Comparable"), (0, .class_ 4), (0, u "java/lang/Object")] 7

/-- java/lang/Comparable -/
def k5 : Class := { plain "java/lang/Comparable" (some 0) with
  accessFlags := 1537
  interfaces := #[]
  cf := some (fileOf pool5 1 #[] #[] 1537 3 #[] #[])
  fields := #[]
  methods := #[]
  instanceTypes := #[]
  staticTypes := #[]
  resolved := Array.replicate 12 none
  statics := none }

def pool6 : Array CpInfo := pool [(1, .class_ 2), (0, u "java/lang/constant/Constable"), (0, .class_ 4), (0, u "java/lang/Object")] 6

/-- java/lang/constant/Constable -/
def k6 : Class := { plain "java/lang/constant/Constable" (some 0) with
  accessFlags := 1537
  interfaces := #[]
  cf := some (fileOf pool6 1 #[] #[] 1537 3 #[] #[])
  fields := #[]
  methods := #[]
  instanceTypes := #[]
  staticTypes := #[]
  resolved := Array.replicate 11 none
  statics := none }

def pool7 : Array CpInfo := pool [(1, .class_ 2), (0, u "java/lang/constant/ConstantDesc"), (0, .class_ 4), (0, u "java/lang/Object")] 32

/-- java/lang/constant/ConstantDesc -/
def k7 : Class := { plain "java/lang/constant/ConstantDesc" (some 0) with
  accessFlags := 1537
  interfaces := #[]
  cf := some (fileOf pool7 1 #[] #[] 1537 3 #[] #[])
  fields := #[]
  methods := #[]
  instanceTypes := #[]
  staticTypes := #[]
  resolved := Array.replicate 37 none
  statics := none }

def pool8 : Array CpInfo := pool [(1, .class_ 2), (0, u "java/lang/Long"), (15, .class_ 20), (1, u "java/lang/Integer"), (79, u "numberOfLeadingZeros"), (0, u "(J)I"), (133, .class_ 237), (1, u "java/lang/Long$LongCache"), (33, .class_ 272), (0, u "java/lang/Number"), (2, u "value"), (0, u "J"), (31, .methodref 18 309), (0, .nameAndType 100 310), (0, u "(I)I"), (50, u "TYPE"), (0, u "Ljava/lang/Class;"), (0, .class_ 364), (0, u "java/lang/Comparable"), (0, .class_ 366), (0, u "java/lang/constant/Constable"), (0, .class_ 368), (0, u "java/lang/constant/ConstantDesc"), (0, u "MIN_VALUE"), (1, u "MAX_VALUE"), (4, u "SIZE"), (0, u "I"), (1, u "BYTES"), (1, u "serialVersionUID")] 142

def k8c0 : Code := { maxStack := 3, maxLocals := 3, code := jdk_35_method_48_code, exceptionTable := #[], attributes := #[] }
def k8m0 : Method := { name := "numberOfLeadingZeros", desc := "(J)I", sig := { parameters := [.long], returnType := some .int }, accessFlags := 9, code := some k8c0 }
/-- java/lang/Long -/
def k8 : Class := { plain "java/lang/Long" (some 4) with
  accessFlags := 49
  interfaces := #[5, 6, 7]
  cf := some (fileOf pool8 1 #[.nestMembers #[235]] #[{ accessFlags := 9, nameIndex := 100, descriptorIndex := 101, attributes := #[] }] 49 271 #[363, 365, 367] #[{ accessFlags := 25, nameIndex := 369, descriptorIndex := 276, attributes := #[] }, { accessFlags := 25, nameIndex := 371, descriptorIndex := 276, attributes := #[] }, { accessFlags := 25, nameIndex := 361, descriptorIndex := 362, attributes := #[] }, { accessFlags := 18, nameIndex := 275, descriptorIndex := 276, attributes := #[] }, { accessFlags := 25, nameIndex := 376, descriptorIndex := 377, attributes := #[] }, { accessFlags := 25, nameIndex := 379, descriptorIndex := 377, attributes := #[] }, { accessFlags := 26, nameIndex := 381, descriptorIndex := 276, attributes := #[] }])
  fields := #[{ name := "MIN_VALUE", type := .long, accessFlags := 25, slot := 0, constantValue := 0 }, { name := "MAX_VALUE", type := .long, accessFlags := 25, slot := 1, constantValue := 0 }, { name := "TYPE", type := (.object "java/lang/Class"), accessFlags := 25, slot := 2, constantValue := 0 }, { name := "value", type := .long, accessFlags := 18, slot := 0, constantValue := 0 }, { name := "SIZE", type := .int, accessFlags := 25, slot := 3, constantValue := 0 }, { name := "BYTES", type := .int, accessFlags := 25, slot := 4, constantValue := 0 }, { name := "serialVersionUID", type := .long, accessFlags := 26, slot := 5, constantValue := 0 }]
  methods := #[k8m0]
  instanceTypes := #[.long]
  staticTypes := #[.long, .long, (.object "java/lang/Class"), .int, .int, .long]
  resolved := Array.replicate 524 none
  statics := none }

def pool9 : Array CpInfo := pool [(1, .class_ 2), (0, u "java/lang/Integer"), (16, u "digits"), (0, u "[C"), (32, u "numberOfLeadingZeros"), (0, u "(I)I"), (30, u "DigitOnes"), (0, u "[B"), (2, u "DigitTens"), (99, .class_ 190), (0, u "java/lang/Integer$IntegerCache"), (3, u "I"), (8, .class_ 204), (0, u "java/lang/Number"), (2, u "value"), (56, .integer 65536), (37, u "TYPE"), (0, u "Ljava/lang/Class;"), (0, .class_ 305), (0, u "java/lang/Comparable"), (0, .class_ 307), (0, u "java/lang/constant/Constable"), (0, .class_ 309), (0, u "java/lang/constant/ConstantDesc"), (0, u "MIN_VALUE"), (1, u "MAX_VALUE"), (3, u "SIZE"), (1, u "BYTES"), (1, u "serialVersionUID"), (0, u "J")] 131

def k9c0 : Code := { maxStack := 3, maxLocals := 2, code := jdk_33_method_47_code, exceptionTable := #[], attributes := #[] }
def k9m0 : Method := { name := "numberOfLeadingZeros", desc := "(I)I", sig := { parameters := [.int], returnType := some .int }, accessFlags := 9, code := some k9c0 }
/-- java/lang/Integer -/
def k9 : Class := { plain "java/lang/Integer" (some 4) with
  accessFlags := 49
  interfaces := #[5, 6, 7]
  cf := some (fileOf pool9 1 #[.nestMembers #[189]] #[{ accessFlags := 9, nameIndex := 53, descriptorIndex := 54, attributes := #[] }] 49 203 #[304, 306, 308] #[{ accessFlags := 25, nameIndex := 310, descriptorIndex := 194, attributes := #[] }, { accessFlags := 25, nameIndex := 312, descriptorIndex := 194, attributes := #[] }, { accessFlags := 25, nameIndex := 302, descriptorIndex := 303, attributes := #[] }, { accessFlags := 24, nameIndex := 19, descriptorIndex := 20, attributes := #[] }, { accessFlags := 24, nameIndex := 89, descriptorIndex := 86, attributes := #[] }, { accessFlags := 24, nameIndex := 85, descriptorIndex := 86, attributes := #[] }, { accessFlags := 18, nameIndex := 207, descriptorIndex := 194, attributes := #[] }, { accessFlags := 25, nameIndex := 316, descriptorIndex := 194, attributes := #[] }, { accessFlags := 25, nameIndex := 318, descriptorIndex := 194, attributes := #[] }, { accessFlags := 26, nameIndex := 320, descriptorIndex := 321, attributes := #[] }])
  fields := #[{ name := "MIN_VALUE", type := .int, accessFlags := 25, slot := 0, constantValue := 0 }, { name := "MAX_VALUE", type := .int, accessFlags := 25, slot := 1, constantValue := 0 }, { name := "TYPE", type := (.object "java/lang/Class"), accessFlags := 25, slot := 2, constantValue := 0 }, { name := "digits", type := (.array .char), accessFlags := 24, slot := 3, constantValue := 0 }, { name := "DigitTens", type := (.array .byte), accessFlags := 24, slot := 4, constantValue := 0 }, { name := "DigitOnes", type := (.array .byte), accessFlags := 24, slot := 5, constantValue := 0 }, { name := "value", type := .int, accessFlags := 18, slot := 0, constantValue := 0 }, { name := "SIZE", type := .int, accessFlags := 25, slot := 6, constantValue := 0 }, { name := "BYTES", type := .int, accessFlags := 25, slot := 7, constantValue := 0 }, { name := "serialVersionUID", type := .long, accessFlags := 26, slot := 8, constantValue := 0 }]
  methods := #[k9m0]
  instanceTypes := #[.int]
  staticTypes := #[.int, .int, (.object "java/lang/Class"), (.array .char), (.array .byte), (.array .byte), .int, .int, .long]
  resolved := Array.replicate 453 none
  statics := none }

def pool10 : Array CpInfo := pool [(1, u "java/lang/Cloneable"), (0, .class_ 1), (0, u "java/lang/Object"), (0, .class_ 3)] 3

/-- java/lang/Cloneable -/
def k10 : Class := { plain "java/lang/Cloneable" (some 0) with
  accessFlags := 1537
  interfaces := #[]
  cf := some (fileOf pool10 2 #[] #[] 1537 4 #[] #[])
  fields := #[]
  methods := #[]
  instanceTypes := #[]
  staticTypes := #[]
  resolved := Array.replicate 8 none
  statics := none }

/-- the primitive byte -/
def k11 : Class := { plain "byte" none with kind := .primitive 'B', accessFlags := 0x411 }
/-- [B -/
def k12 : Class := { plain "[B" (some 0) with kind := .array 11 .byte, interfaces := #[10, 3], accessFlags := 1041 }

/-- the primitive int -/
def k13 : Class := { plain "int" none with kind := .primitive 'I', accessFlags := 0x411 }
/-- [I -/
def k14 : Class := { plain "[I" (some 0) with kind := .array 13 .int, interfaces := #[10, 3], accessFlags := 1041 }

/-- the primitive long -/
def k15 : Class := { plain "long" none with kind := .primitive 'J', accessFlags := 0x411 }
/-- [J -/
def k16 : Class := { plain "[J" (some 0) with kind := .array 15 .long, interfaces := #[10, 3], accessFlags := 1041 }

def heap : Heap := #[]
def classes : Array Class := #[k0, k1, k2, k3, k4, k5, k6, k7, k8, k9, k10, k11, k12, k13, k14, k15, k16]
def interned : List (Array UInt16 × Addr) := []
def slotsUsed : Nat := 0
def theMethod : MethodId := ⟨1, 3⟩
def args0 : Array Value := #[.long 5, .long 6, .long 7, .int 3]
def aboutOver (below : List Frame) : State where
  vm := { classes := classes, interned := interned.toArray }
  heap := heap
  slotsUsed := slotsUsed
  threads := #[{ frames := .invoking theMethod args0 :: below }]
def below0 : List Frame := [.native { method := ⟨0, 0⟩, args := #[] }]
def about1 : State := aboutOver below0
def p0 : Program := .bare "" "" ""
def e0 : Env := launch0.env 0 0 0
theorem w_frames : about1.frames = Frame.invoking theMethod args0 :: below0 := rfl
set_option maxRecDepth 65536 in
theorem w_args : argsFit about1.vm theMethod args0 = true := by decide +kernel
set_option maxRecDepth 65536 in
theorem w_heap : heapFits about1 = true := by decide +kernel
set_option maxRecDepth 65536 in
theorem w_runnable : about1.curStatus? = some .runnable := by decide +kernel
set_option maxRecDepth 65536 in
theorem w_alone : about1.alone = true := by decide +kernel
set_option maxRecDepth 65536 in
theorem w_named : about1.methodNamed? x = some theMethod := by decide +kernel
set_option maxRecDepth 65536 in
theorem w_hears : about1.hears theMethod below0 = true := by decide +kernel
set_option maxRecDepth 65536 in
theorem w_ripe : about1.ripe theMethod args0 below0 = true := by decide +kernel
theorem w_running : about1.status = .running := rfl
set_option maxRecDepth 65536 in
theorem w_room : about1.hasRoom e0.platform room_1 = true :=
  launch0.hasRoom_least _ room_1 (by decide +kernel) (by decide +kernel) (by decide +kernel) (by decide +kernel) (by decide +kernel) (by decide +kernel)
theorem allAtoms_all (ts : List Jvm.Cond) (a : Array Jvm.Value) (st : Jvm.State) : (allAtoms ts).before a st = ts.all (fun c => c.before a st) := by
  induction ts with
  | nil => rfl
  | cons c t ih =>
    show (Jvm.Cond.and c (allAtoms t)).before a st = _
    rw [Jvm.Cond.before_and, ih, List.all_cons]
def words1 : List Jvm.Cond := Jvm.Cond.code x code maxLocals ret :: tables_1
/-- a 'code' word, met by the world's own term for the bytes: nothing is compared byte by byte -/
theorem code_word {y : MethodName} {bytes : ByteArray} {mx : Nat} {rt : Option FieldType} {a : Array Value} {s : State} {m : MethodId} {meth : Method} {c : Code} (h1 : s.methodNamed? y = some m) (h2 : s.vm.method? m = some meth) (h3 : meth.code = some c) (h4 : c.code = bytes)
    (h5 : (c.maxLocals == mx && c.exceptionTable.isEmpty && decide (c.maxStack ≤ mostOperands) && decide (meth.sig.returnType = rt) && !meth.locks && decide (parseMethodDescriptor y.desc = some meth.sig)) = true) : (Jvm.Cond.code y bytes mx rt).before a s = true := by
  simp only [Bool.and_eq_true, beq_iff_eq, Bool.not_eq_true', decide_eq_true_eq] at h5
  obtain ⟨⟨⟨⟨⟨g1, g2⟩, g3⟩, g4⟩, g5⟩, g6⟩ := h5
  simp [Cond.before, Cond.holds, Cond.value, h1, h2, h3, h4, g1, g2, g3, g4, g5, g6]
def isCode : Jvm.Cond → Bool
  | .code _ _ _ _ => true
  | _ => false
theorem all_split {L : List Jvm.Cond} {P : Jvm.Cond → Bool} (h1 : L.all (fun c => isCode c || P c) = true) (h2 : ∀ c ∈ L.filter isCode, P c = true) : L.all P = true := by
  refine List.all_eq_true.mpr fun c hc => ?_
  have h := List.all_eq_true.mp h1 c hc
  rcases Bool.eq_false_or_eq_true (isCode c) with hi | hi
  · exact h2 c (List.mem_filter.mpr ⟨hc, hi⟩)
  · simpa [hi] using h
set_option maxRecDepth 65536 in
theorem w_c0 : (Jvm.Cond.code x code maxLocals ret).before args0 about1 = true := code_word (m := ⟨1, 3⟩) (meth := k1m3) (c := k1c3) (by decide +kernel) rfl rfl rfl (by decide +kernel)
set_option maxRecDepth 65536 in
theorem w_c1 : (Jvm.Cond.code ({ cls := "com/example/lone1/lone1/solve/SweepOrderHasNextPinLaw", name := "pick", desc := "(IJ)J" } : Jvm.MethodName) method_2_code (3 : Nat) (Option.some Jvm.ClassFile.FieldType.long)).before args0 about1 = true := code_word (m := ⟨1, 1⟩) (meth := k1m1) (c := k1c1) (by decide +kernel) rfl rfl rfl (by decide +kernel)
set_option maxRecDepth 65536 in
theorem w_c2 : (Jvm.Cond.code ({ cls := "com/example/lone1/lone1/solve/SweepOrderHasNextPinLaw", name := "multiBit", desc := "(J)Z" } : Jvm.MethodName) method_3_code (2 : Nat) (Option.some Jvm.ClassFile.FieldType.boolean)).before args0 about1 = true := code_word (m := ⟨1, 2⟩) (meth := k1m2) (c := k1c2) (by decide +kernel) rfl rfl rfl (by decide +kernel)
set_option maxRecDepth 65536 in
theorem w_c3 : (Jvm.Cond.code ({ cls := "com/example/lone1/lone1/solve/SweepOrder", name := "<init>", desc := "([J)V" } : Jvm.MethodName) prog_114_method_1_code (2 : Nat) (Option.none : Option Jvm.ClassFile.FieldType)).before args0 about1 = true := code_word (m := ⟨2, 0⟩) (meth := k2m0) (c := k2c0) (by decide +kernel) rfl rfl rfl (by decide +kernel)
set_option maxRecDepth 65536 in
theorem w_c4 : (Jvm.Cond.code ({ cls := "java/lang/Object", name := "<init>", desc := "()V" } : Jvm.MethodName) object_method_1_code (1 : Nat) (Option.none : Option Jvm.ClassFile.FieldType)).before args0 about1 = true := code_word (m := ⟨0, 0⟩) (meth := k0m0) (c := k0c0) (by decide +kernel) rfl rfl rfl (by decide +kernel)
set_option maxRecDepth 65536 in
theorem w_c5 : (Jvm.Cond.code ({ cls := "com/example/lone1/lone1/solve/SweepOrder", name := "hasNext", desc := "()Z" } : Jvm.MethodName) prog_114_method_2_code (1 : Nat) (Option.some Jvm.ClassFile.FieldType.boolean)).before args0 about1 = true := code_word (m := ⟨2, 1⟩) (meth := k2m1) (c := k2c1) (by decide +kernel) rfl rfl rfl (by decide +kernel)
set_option maxRecDepth 65536 in
theorem w_c6 : (Jvm.Cond.code ({ cls := "com/example/lone1/lone1/solve/SweepOrder", name := "next", desc := "()I" } : Jvm.MethodName) prog_114_method_3_code (2 : Nat) (Option.some Jvm.ClassFile.FieldType.int)).before args0 about1 = true := code_word (m := ⟨2, 2⟩) (meth := k2m2) (c := k2c2) (by decide +kernel) rfl rfl rfl (by decide +kernel)
set_option maxRecDepth 65536 in
theorem w_c7 : (Jvm.Cond.code ({ cls := "java/lang/Long", name := "numberOfLeadingZeros", desc := "(J)I" } : Jvm.MethodName) jdk_35_method_48_code (3 : Nat) (Option.some Jvm.ClassFile.FieldType.int)).before args0 about1 = true := code_word (m := ⟨8, 0⟩) (meth := k8m0) (c := k8c0) (by decide +kernel) rfl rfl rfl (by decide +kernel)
set_option maxRecDepth 65536 in
theorem w_c8 : (Jvm.Cond.code ({ cls := "java/lang/Integer", name := "numberOfLeadingZeros", desc := "(I)I" } : Jvm.MethodName) jdk_33_method_47_code (2 : Nat) (Option.some Jvm.ClassFile.FieldType.int)).before args0 about1 = true := code_word (m := ⟨9, 0⟩) (meth := k9m0) (c := k9c0) (by decide +kernel) rfl rfl rfl (by decide +kernel)
def codes1 : List Jvm.Cond := [Jvm.Cond.code x code maxLocals ret, Jvm.Cond.code ({ cls := "com/example/lone1/lone1/solve/SweepOrderHasNextPinLaw", name := "pick", desc := "(IJ)J" } : Jvm.MethodName) method_2_code (3 : Nat) (Option.some Jvm.ClassFile.FieldType.long), Jvm.Cond.code ({ cls := "com/example/lone1/lone1/solve/SweepOrderHasNextPinLaw", name := "multiBit", desc := "(J)Z" } : Jvm.MethodName) method_3_code (2 : Nat) (Option.some Jvm.ClassFile.FieldType.boolean), Jvm.Cond.code ({ cls := "com/example/lone1/lone1/solve/SweepOrder", name := "<init>", desc := "([J)V" } : Jvm.MethodName) prog_114_method_1_code (2 : Nat) (Option.none : Option Jvm.ClassFile.FieldType), Jvm.Cond.code ({ cls := "java/lang/Object", name := "<init>", desc := "()V" } : Jvm.MethodName) object_method_1_code (1 : Nat) (Option.none : Option Jvm.ClassFile.FieldType), Jvm.Cond.code ({ cls := "com/example/lone1/lone1/solve/SweepOrder", name := "hasNext", desc := "()Z" } : Jvm.MethodName) prog_114_method_2_code (1 : Nat) (Option.some Jvm.ClassFile.FieldType.boolean), Jvm.Cond.code ({ cls := "com/example/lone1/lone1/solve/SweepOrder", name := "next", desc := "()I" } : Jvm.MethodName) prog_114_method_3_code (2 : Nat) (Option.some Jvm.ClassFile.FieldType.int), Jvm.Cond.code ({ cls := "java/lang/Long", name := "numberOfLeadingZeros", desc := "(J)I" } : Jvm.MethodName) jdk_35_method_48_code (3 : Nat) (Option.some Jvm.ClassFile.FieldType.int), Jvm.Cond.code ({ cls := "java/lang/Integer", name := "numberOfLeadingZeros", desc := "(I)I" } : Jvm.MethodName) jdk_33_method_47_code (2 : Nat) (Option.some Jvm.ClassFile.FieldType.int)]
set_option maxRecDepth 65536 in
theorem codes_eq : words1.filter isCode = codes1 := rfl
theorem w_codes : ∀ c ∈ words1.filter isCode, c.before args0 about1 = true := by
  rw [codes_eq]
  intro c hc
  simp only [codes1, List.mem_cons, List.not_mem_nil, or_false] at hc
  rcases hc with rfl | rfl | rfl | rfl | rfl | rfl | rfl | rfl | rfl
  · exact w_c0
  · exact w_c1
  · exact w_c2
  · exact w_c3
  · exact w_c4
  · exact w_c5
  · exact w_c6
  · exact w_c7
  · exact w_c8
set_option maxRecDepth 65536 in
theorem w_t1 : (words1.take 24).all (fun c => isCode c || c.before args0 about1) = true := by decide +kernel
set_option maxRecDepth 65536 in
theorem w_t2 : (words1.drop 24).all (fun c => isCode c || c.before args0 about1) = true := by decide +kernel
theorem w_tables : (allAtoms (Jvm.Cond.code x code maxLocals ret :: tables_1)).before args0 about1 = true := by
  rw [allAtoms_all]
  show words1.all (fun c => c.before args0 about1) = true
  refine all_split ?_ w_codes
  rw [← List.take_append_drop 24 words1, List.all_append, w_t1, w_t2]
  rfl
set_option maxRecDepth 65536 in
theorem w_case : (Jvm.Cond.and given_1 narrow_1).before args0 about1 = true := by decide +kernel
theorem w_applies : (headSpec (Jvm.Cond.code x code maxLocals ret :: tables_1) room_1).applies x e0.platform about1 = true :=
  (Spec.applies_iff w_frames).mpr ⟨w_running, w_runnable, w_alone, w_named, w_hears, w_ripe, w_room, w_tables⟩
theorem atStart : AtStart classFile x code maxLocals ret World_1 tables_1 room_1 Calls_1 rest_1 Pre_1 launch0 p0 e0 about1 theMethod args0 below0 :=
  ⟨lists_1, trivial, launch0.admits_env _ _ _, launch0.least_env, fairChoices_fair.cas, fairChoices_fair.clock, w_frames, w_args, w_heap, w_applies, trivial, trivial, w_case⟩
end start1
theorem witness_1 : WitnessClaimed_1 := ⟨start1.p0, start1.e0, start1.about1, start1.theMethod, start1.args0, start1.below0, start1.atStart⟩
end Jvm.Pilot.@@N@@
