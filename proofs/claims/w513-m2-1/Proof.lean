import JvmDerived
import JvmDerived.Pilot.@@N@@Statement
import JvmDerived.Pilot.@@N@@Code
set_option linter.unusedVariables false
set_option linter.unusedSimpArgs false
namespace Jvm.Pilot.@@N@@
open Jvm Jvm.ClassFile Sem Op Lib Jvm.Free Jvm.Stand Jvm.LawKit Jvm.RoadKit Bundle Jvm.Pilot.@@N@@.Jvm.D
/-- the run from A comes to a return that Q speaks of -/
def own_Fin (p : Program) (e : Env) (below : List Frame) (s : State) (kc ks : Nat) (Q : Option Value → Heap → List Loc → Prop) (A : State) : Prop :=
  ∃ s₂ o, Steps p.tables e below A s₂ ∧ s₂.status = .running ∧ Ended s₂ below o ∧ ∃ v L, o = .returned v ∧ Q v s₂.heap L ∧ FrameEnd s o s₂ L kc ks
section Own
variable {p : Program} {l : Launch} {e : Env} {R : Room} {s : State} {m : MethodId} {args : Array Value} {below : List Frame} {meth : Method} {c : Code} {T : State} {locs : List Loc} {cells slots kc ks : Nat} {Q : Option Value → Heap → List Loc → Prop}
theorem own_back {A B : State} (h : ∀ t, Steps p.tables e below B t → Steps p.tables e below A t) (k : own_Fin p e below s kc ks Q B) : own_Fin p e below s kc ks Q A := by
  obtain ⟨s2, o, h1, r⟩ := k
  exact ⟨s2, o, h _ h1, r⟩
theorem own_retN (X : Stand p l e R s m args below meth c T locs cells slots) (hx : p.tables.exec = Jvm.exec) (hlk : meth.locks = false) {t : FieldType} (ht : t = .boolean ∨ t = .byte ∨ t = .char ∨ t = .short) {pc : Nat} {Ls : Array Slot} {z : Int32} {rest : List Value} (hret : meth.sig.returnType = some t) (hd : decode c.code pc = .ok (.ireturn, 1)) (hc : cells ≤ kc) (hs : slots ≤ ks)
    (hQ : Q (some (.int (nar t z))) T.heap locs) : own_Fin p e below s kc ks Q (T.setTop (mkF m pc Ls (.int z :: rest))) := by
  obtain ⟨fs, hr, hrun, hended, hW, hsame⟩ := X.leave (v := some (.int (nar t z))) (fun h => by rw [hret] at h; cases h) hlk
  exact ⟨_, _, retN X hx hret ht hd hr, hrun, hended, _, _, rfl, hQ, ⟨_, rfl⟩, hW, hsame.mono hc hs⟩
theorem own_retZ (X : Stand p l e R s m args below meth c T locs cells slots) (hx : p.tables.exec = Jvm.exec) (hlk : meth.locks = false) {pc : Nat} {Ls : Array Slot} {z : Int32} {rest : List Value} (hret : meth.sig.returnType = some .boolean) (hd : decode c.code pc = .ok (.ireturn, 1)) (hc : cells ≤ kc) (hs : slots ≤ ks)
    (hQ : Q (some (.int (z &&& 1))) T.heap locs) : own_Fin p e below s kc ks Q (T.setTop (mkF m pc Ls (.int z :: rest))) := own_retN X hx hlk (Or.inl rfl) hret hd hc hs hQ
theorem own_retB (X : Stand p l e R s m args below meth c T locs cells slots) (hx : p.tables.exec = Jvm.exec) (hlk : meth.locks = false) {pc : Nat} {Ls : Array Slot} {z : Int32} {rest : List Value} (hret : meth.sig.returnType = some .byte) (hd : decode c.code pc = .ok (.ireturn, 1)) (hc : cells ≤ kc) (hs : slots ≤ ks)
    (hQ : Q (some (.int (nar .byte z))) T.heap locs) : own_Fin p e below s kc ks Q (T.setTop (mkF m pc Ls (.int z :: rest))) := own_retN X hx hlk (Or.inr (Or.inl rfl)) hret hd hc hs hQ
theorem own_retI (X : Stand p l e R s m args below meth c T locs cells slots) (hx : p.tables.exec = Jvm.exec) (hlk : meth.locks = false) {pc : Nat} {Ls : Array Slot} {z : Int32} {rest : List Value} (hret : meth.sig.returnType = some .int) (hd : decode c.code pc = .ok (.ireturn, 1)) (hc : cells ≤ kc) (hs : slots ≤ ks)
    (hQ : Q (some (.int z)) T.heap locs) : own_Fin p e below s kc ks Q (T.setTop (mkF m pc Ls (.int z :: rest))) := by
  obtain ⟨fs, hr, hrun, hended, hW, hsame⟩ := X.leave (v := some (.int z)) (fun h => by rw [hret] at h; cases h) hlk
  exact ⟨_, _, retOut X hx hret rfl (Or.inl ⟨rfl, Or.inl rfl, z, rfl⟩) hd hr, hrun, hended, _, _, rfl, hQ, ⟨_, rfl⟩, hW, hsame.mono hc hs⟩
theorem own_retJ (X : Stand p l e R s m args below meth c T locs cells slots) (hx : p.tables.exec = Jvm.exec) (hlk : meth.locks = false) {pc : Nat} {Ls : Array Slot} {z : Int64} {rest : List Value} (hret : meth.sig.returnType = some .long) (hd : decode c.code pc = .ok (.lreturn, 1)) (hc : cells ≤ kc) (hs : slots ≤ ks)
    (hQ : Q (some (.long z)) T.heap locs) : own_Fin p e below s kc ks Q (T.setTop (mkF m pc Ls (.long z :: rest))) := by
  obtain ⟨fs, hr, hrun, hended, hW, hsame⟩ := X.leave (v := some (.long z)) (fun h => by rw [hret] at h; cases h) hlk
  exact ⟨_, _, retOut X hx hret rfl (Or.inr (Or.inl ⟨rfl, rfl, z, rfl⟩)) hd hr, hrun, hended, _, _, rfl, hQ, ⟨_, rfl⟩, hW, hsame.mono hc hs⟩
theorem own_retA (X : Stand p l e R s m args below meth c T locs cells slots) (hx : p.tables.exec = Jvm.exec) (hlk : meth.locks = false) {pc : Nat} {Ls : Array Slot} {w : Value} {rest : List Value} {t : FieldType} (hret : meth.sig.returnType = some t) (ht : t.isReference = true) (hw : w.isRef = true) (hd : decode c.code pc = .ok (.areturn, 1)) (hc : cells ≤ kc) (hs : slots ≤ ks)
    (hQ : Q (some w) T.heap locs) : own_Fin p e below s kc ks Q (T.setTop (mkF m pc Ls (w :: rest))) := by
  obtain ⟨fs, hr, hrun, hended, hW, hsame⟩ := X.leave (v := some w) (fun h => by rw [hret] at h; cases h) hlk
  have hn : narrow t w = w := by cases t <;> first | rfl | cases ht
  exact ⟨_, _, retOut X hx hret hn (Or.inr (Or.inr (Or.inr (Or.inr ⟨rfl, ht, hw⟩)))) hd hr, hrun, hended, _, _, rfl, hQ, ⟨_, rfl⟩, hW, hsame.mono hc hs⟩
theorem own_ret0 (X : Stand p l e R s m args below meth c T locs cells slots) (hx : p.tables.exec = Jvm.exec) (hlk : meth.locks = false) {pc : Nat} {Ls : Array Slot} (hret : meth.sig.returnType = none) (hd : decode c.code pc = .ok (.return_, 1)) (hc : cells ≤ kc) (hs : slots ≤ ks)
    (hQ : Q none T.heap locs) : own_Fin p e below s kc ks Q (T.setTop (mkF m pc Ls [])) := by
  obtain ⟨fs, hr, hrun, hended, hW, hsame⟩ := X.leave (v := none) (fun _ => rfl) hlk
  exact ⟨_, _, X.returnOut hx hret hd hr, hrun, hended, _, _, rfl, hQ, ⟨_, rfl⟩, hW, hsame.mono hc hs⟩
end Own
def own_pick (sel : Int32) (raw : Int64) : Int64 := if sel = 0 then (raw &&& (9223372036854775807 : Int64)) else if sel = 1 then (0 : Int64) else if sel = 2 then (1 : Int64) else (9223372036854775807 : Int64)
def own_max (a b : Int64) : Int64 := if a < b then b else a
def own_min (a b : Int64) : Int64 := if b < a then b else a
def own_keeps (c o : Int64) : Int32 := if (0 : Int64) < c then (if o = (0 : Int64) then 1 else 0) else 0
theorem own_mask (x : Int64) : ¬ (x &&& (9223372036854775807 : Int64)) < 0 := by
  have h : (x &&& (9223372036854775807 : Int64)).toBitVec.toNat < 2 ^ 63 := by
    simp only [Int64.toBitVec_and, BitVec.toNat_and]
    exact Nat.lt_of_le_of_lt Nat.and_le_right (by decide)
  rw [Int64.lt_iff_toInt_lt]
  show ¬ (x &&& (9223372036854775807 : Int64)).toBitVec.toInt < 0
  rw [BitVec.toInt_eq_toNat_of_lt (by omega)]
  omega
theorem own_picknn (s : Int32) (r : Int64) : ¬ own_pick s r < (0 : Int64) := by
  unfold own_pick
  split
  · exact own_mask r
  · split
    · decide
    · split <;> decide
theorem own_win {c o : Int64} (hc : ¬ c < (0 : Int64)) (ho : ¬ o < (0 : Int64)) (b : Int32) (hb : b = if (0 : Int64) < o then 0 else if ((0 : Int64) - o) < c then 1 else 0) : own_keeps c o = b := by
  subst hb
  rw [Int64.lt_iff_toInt_lt] at hc ho
  have e0 : (0 : Int64).toInt = 0 := rfl
  unfold own_keeps
  by_cases h : o = (0 : Int64)
  · subst h
    simp [show ((0 : Int64) - 0) = 0 from by decide, show ¬ ((0 : Int64) < 0) from by decide]
  · have hne : ¬ o.toInt = 0 := fun q => h (Int64.toInt_inj.mp q)
    rw [if_neg h, ite_self, if_pos (by rw [Int64.lt_iff_toInt_lt]; omega)]
theorem own_one {c o : Int64} (hc : ¬ c < (0 : Int64)) (ho : ¬ o < (0 : Int64)) (b : Int32) (hb : b = if own_min c (own_max (0 : Int64) ((1 : Int64) - o)) = (1 : Int64) then 1 else 0) : own_keeps c o = b := by
  subst hb
  rw [Int64.lt_iff_toInt_lt] at hc ho
  have e0 : (0 : Int64).toInt = 0 := rfl
  have e1 : (1 : Int64).toInt = 1 := rfl
  have b1 := Int64.toInt_lt o
  have hs : ((1 : Int64) - o).toInt = 1 - o.toInt := by
    rw [Int64.toInt_sub, e1]
    rw [Int.bmod_eq_of_le] <;> omega
  unfold own_keeps own_min own_max
  simp only [Int64.lt_iff_toInt_lt, ← Int64.toInt_inj, hs, e0, e1]
  split <;> split <;> (try split) <;> (try split) <;> (try split) <;> (try rfl) <;> (simp only [← Int64.toInt_inj, hs, e0, e1] at *) <;> omega
theorem d1_0 : decode method_2_code 0 = .ok (.lload_n 1, 1) := by decide +kernel
theorem d1_1 : decode method_2_code 1 = .ok (.ldc2_w 9, 3) := by decide +kernel
theorem d1_4 : decode method_2_code 4 = .ok (.land, 1) := by decide +kernel
theorem d1_5 : decode method_2_code 5 = .ok (.lstore_n 3, 1) := by decide +kernel
theorem d1_6 : decode method_2_code 6 = .ok (.iload_n 0, 1) := by decide +kernel
theorem d1_7 : decode method_2_code 7 = .ok (.ifCond .ne 5, 3) := by decide +kernel
theorem d1_10 : decode method_2_code 10 = .ok (.lload_n 3, 1) := by decide +kernel
theorem d1_11 : decode method_2_code 11 = .ok (.lreturn, 1) := by decide +kernel
theorem d1_12 : decode method_2_code 12 = .ok (.iload_n 0, 1) := by decide +kernel
theorem d1_13 : decode method_2_code 13 = .ok (.iconst 1, 1) := by decide +kernel
theorem d1_14 : decode method_2_code 14 = .ok (.if_icmp .ne 5, 3) := by decide +kernel
theorem d1_17 : decode method_2_code 17 = .ok (.lconst 0, 1) := by decide +kernel
theorem d1_18 : decode method_2_code 18 = .ok (.lreturn, 1) := by decide +kernel
theorem d1_19 : decode method_2_code 19 = .ok (.iload_n 0, 1) := by decide +kernel
theorem d1_20 : decode method_2_code 20 = .ok (.iconst 2, 1) := by decide +kernel
theorem d1_21 : decode method_2_code 21 = .ok (.if_icmp .ne 5, 3) := by decide +kernel
theorem d1_24 : decode method_2_code 24 = .ok (.lconst 1, 1) := by decide +kernel
theorem d1_25 : decode method_2_code 25 = .ok (.lreturn, 1) := by decide +kernel
theorem d1_26 : decode method_2_code 26 = .ok (.ldc2_w 9, 3) := by decide +kernel
theorem d1_29 : decode method_2_code 29 = .ok (.lreturn, 1) := by decide +kernel
theorem pn_1 : plainName "com/example/culljoin/culljoin/model/LimitKeepsFirstRowPinLaw" = true := by first | (simp [plainName, overriddenIn]; done) | decide +kernel
theorem ef_1 (m : MethodId) (x0 : Int32) (x1 : Int64) : entryFrame m #[(.int x0), (.long x1)] 5 = mkF m 0 #[.val (.int x0), .val (.long x1), .second, .unset, .unset] [] := by first | (simp [entryFrame, mkF, argsToLocals, Value.category]; done) | rfl
def Q1 (Z : State) (p0 : Int32) (q1 : Int64) (h0 : Heap) (n0 : Nat) (v : Option Value) (h : Heap) (L : List Loc) : Prop := v = some (.long (own_pick p0 q1)) ∧ Fr n0 L ∧ h = h0
set_option maxRecDepth 65536 in
set_option maxHeartbeats 40000000 in
theorem rm1 (l : Launch) (Z : State) (a0 : Array Value) (hw : ∀ d ∈ tables_1, d.before a0 Z = true) (ws : List Jvm.Cond) (p0 : Int32) (q1 : Int64) (h0 : Heap) (n0 : Nat) (Z0 : n0 ≤ h0.size) :
    MetFree l (⟨"com/example/culljoin/culljoin/model/LimitKeepsFirstRowPinLaw", "pick", "(IJ)J"⟩ : MethodName) (head1 (Jvm.Cond.code (⟨"com/example/culljoin/culljoin/model/LimitKeepsFirstRowPinLaw", "pick", "(IJ)J"⟩ : MethodName) method_2_code 5 (some .long) :: ws) ({ frames := 0, cells := 0, slots := 0, locals := 0 } : Room)) (fun a U => a = #[(.int p0), (.long q1)] ∧ Z.Warmed39 U.vm ∧ U.heap = h0) (fun _ _ _ _ _ => True) (fun _ U o U' => ∃ v L, o = .returned v ∧ Q1 Z p0 q1 h0 n0 v U'.heap L ∧ FrameEnd U o U' L ({ frames := 0, cells := 0, slots := 0, locals := 0 } : Room).cells ({ frames := 0, cells := 0, slots := 0, locals := 0 } : Room).slots) := by
  refine MetFree.of_bodySF (plainFor_of_name pn_1) hisR ?_
  intro p e s m args below meth c s₁ Bd hml0 hP hK
  obtain ⟨rfl, hZ, hh⟩ := hP
  have hx := Bd.exec
  have hby := Bd.bytes
  have hml : c.maxLocals = 5 := hml0
  have hown : s.vm.findClass "com/example/culljoin/culljoin/model/LimitKeepsFirstRowPinLaw" = some m.cls := findClass_of_methodNamed Bd.named
  have hnm := (name_of_methodNamed Bd.named Bd.method).1
  have X0 : Stand p l e ({ frames := 0, cells := 0, slots := 0, locals := 0 } : Room) s m #[(.int p0), (.long q1)] below meth c s₁ [] 0 0 := Stand.of_body Bd
  have e0 : s₁.heap = h0 := by rw [← hh, Bd.state]; rfl
  have N0 := Fr.nil n0
  obtain ⟨F, hF⟩ : ∃ F : State → Prop, F = own_Fin p e below s ({ frames := 0, cells := 0, slots := 0, locals := 0 } : Room).cells ({ frames := 0, cells := 0, slots := 0, locals := 0 } : Room).slots (fun v h L => Q1 Z p0 q1 h0 n0 v h L) := ⟨_, rfl⟩
  have bk : ∀ {A B : State}, (∀ t, Steps p.tables e below B t → Steps p.tables e below A t) → F B → F A := by
    intro A B h k
    rw [hF] at k ⊢
    exact own_back h k
  suffices hgo : F (s₁.setTop (mkF m 0 #[.val (.int p0), .val (.long q1), .second, .unset, .unset] [])) by
    have hgo' := bk (fun t k => castTop (T := s₁) (ef_1 m p0 q1) k) hgo
    rw [hF] at hgo'
    exact hgo'
  show F (s₁.setTop (mkF m 0 #[.val (.int p0), .val (.long q1), .second, .unset, .unset] []))
  refine bk (fun t k => XS.lloadN X0.here hx rfl (hb hby d1_0) rfl k) ?_
  show F (s₁.setTop (mkF m 1 #[.val (.int p0), .val (.long q1), .second, .unset, .unset] [(.long q1)]))
  refine bk (fun t k => X0.ldc2Long hx hown (mvT hZ (hw _ (List.mem_of_getElem? (i := 4) rfl))) (g := (mkF m 1 #[.val (.int p0), .val (.long q1), .second, .unset, .unset] [(.long q1)])) rfl (hb hby d1_1) t k) ?_
  show F (s₁.setTop (mkF m 4 #[.val (.int p0), .val (.long q1), .second, .unset, .unset] [(.long (9223372036854775807 : Int64)), (.long q1)]))
  refine bk (fun t k => XS.land X0.here hx rfl (hb hby d1_4) rfl k) ?_
  show F (s₁.setTop (mkF m 5 #[.val (.int p0), .val (.long q1), .second, .unset, .unset] [(.long (q1 &&& (9223372036854775807 : Int64)))]))
  refine bk (fun t k => XS.lstoreN X0.here hx rfl (hb hby d1_5) rfl (l' := #[.val (.int p0), .val (.long q1), .second, .val (.long (q1 &&& (9223372036854775807 : Int64))), .second]) rfl k) ?_
  show F (s₁.setTop (mkF m 6 #[.val (.int p0), .val (.long q1), .second, .val (.long (q1 &&& (9223372036854775807 : Int64))), .second] []))
  refine bk (fun t k => XS.iloadN X0.here hx rfl (hb hby d1_6) rfl k) ?_
  show F (s₁.setTop (mkF m 7 #[.val (.int p0), .val (.long q1), .second, .val (.long (q1 &&& (9223372036854775807 : Int64))), .second] [(.int p0)]))
  by_cases hc7_1 : p0 = (0 : Int32)
  · refine bk (fun t k => XS.ifNo X0.here hx rfl (hb hby d1_7) rfl ((if0 _ _).trans (teq hc7_1).2) k) ?_
    show F (s₁.setTop (mkF m 10 #[.val (.int p0), .val (.long q1), .second, .val (.long (q1 &&& (9223372036854775807 : Int64))), .second] []))
    refine bk (fun t k => XS.lloadN X0.here hx rfl (hb hby d1_10) rfl k) ?_
    show F (s₁.setTop (mkF m 11 #[.val (.int p0), .val (.long q1), .second, .val (.long (q1 &&& (9223372036854775807 : Int64))), .second] [(.long (q1 &&& (9223372036854775807 : Int64)))]))
    rw [hF]
    refine own_retJ X0 hx Bd.notSynchronized Bd.returns (hb hby d1_11) (by decide) (by decide) ?_
    rw [e0]
    refine ⟨?_, N0, rfl⟩
    show some (Value.long (q1 &&& (9223372036854775807 : Int64))) = some (Value.long (own_pick p0 q1))
    simp [own_pick, hc7_1]
  · refine bk (fun t k => XS.ifYes X0.here hx rfl (pc0 := 7) (pc' := 12) rfl (hb hby d1_7) rfl ((if0 _ _).trans (feq hc7_1).2) (by decide) (by decide) k) ?_
    show F (s₁.setTop (mkF m 12 #[.val (.int p0), .val (.long q1), .second, .val (.long (q1 &&& (9223372036854775807 : Int64))), .second] []))
    refine bk (fun t k => XS.iloadN X0.here hx rfl (hb hby d1_12) rfl k) ?_
    show F (s₁.setTop (mkF m 13 #[.val (.int p0), .val (.long q1), .second, .val (.long (q1 &&& (9223372036854775807 : Int64))), .second] [(.int p0)]))
    refine bk (fun t k => XS.iconst X0.here hx rfl (hb hby d1_13) k) ?_
    show F (s₁.setTop (mkF m 14 #[.val (.int p0), .val (.long q1), .second, .val (.long (q1 &&& (9223372036854775807 : Int64))), .second] [(.int (1 : Int32)), (.int p0)]))
    by_cases hc14_2 : p0 = (1 : Int32)
    · refine bk (fun t k => XS.icmpNo X0.here hx rfl (hb hby d1_14) rfl (teq hc14_2).2 k) ?_
      show F (s₁.setTop (mkF m 17 #[.val (.int p0), .val (.long q1), .second, .val (.long (q1 &&& (9223372036854775807 : Int64))), .second] []))
      refine bk (fun t k => XS.lconst X0.here hx rfl (hb hby d1_17) k) ?_
      show F (s₁.setTop (mkF m 18 #[.val (.int p0), .val (.long q1), .second, .val (.long (q1 &&& (9223372036854775807 : Int64))), .second] [(.long (0 : Int64))]))
      rw [hF]
      refine own_retJ X0 hx Bd.notSynchronized Bd.returns (hb hby d1_18) (by decide) (by decide) ?_
      rw [e0]
      refine ⟨?_, N0, rfl⟩
      show some (Value.long (0 : Int64)) = some (Value.long (own_pick p0 q1))
      simp [own_pick, hc7_1, hc14_2]
    · refine bk (fun t k => XS.icmpYes X0.here hx rfl (pc0 := 14) (pc' := 19) rfl (hb hby d1_14) rfl (feq hc14_2).2 (by decide) (by decide) k) ?_
      show F (s₁.setTop (mkF m 19 #[.val (.int p0), .val (.long q1), .second, .val (.long (q1 &&& (9223372036854775807 : Int64))), .second] []))
      refine bk (fun t k => XS.iloadN X0.here hx rfl (hb hby d1_19) rfl k) ?_
      show F (s₁.setTop (mkF m 20 #[.val (.int p0), .val (.long q1), .second, .val (.long (q1 &&& (9223372036854775807 : Int64))), .second] [(.int p0)]))
      refine bk (fun t k => XS.iconst X0.here hx rfl (hb hby d1_20) k) ?_
      show F (s₁.setTop (mkF m 21 #[.val (.int p0), .val (.long q1), .second, .val (.long (q1 &&& (9223372036854775807 : Int64))), .second] [(.int (2 : Int32)), (.int p0)]))
      by_cases hc21_3 : p0 = (2 : Int32)
      · refine bk (fun t k => XS.icmpNo X0.here hx rfl (hb hby d1_21) rfl (teq hc21_3).2 k) ?_
        show F (s₁.setTop (mkF m 24 #[.val (.int p0), .val (.long q1), .second, .val (.long (q1 &&& (9223372036854775807 : Int64))), .second] []))
        refine bk (fun t k => XS.lconst X0.here hx rfl (hb hby d1_24) k) ?_
        show F (s₁.setTop (mkF m 25 #[.val (.int p0), .val (.long q1), .second, .val (.long (q1 &&& (9223372036854775807 : Int64))), .second] [(.long (1 : Int64))]))
        rw [hF]
        refine own_retJ X0 hx Bd.notSynchronized Bd.returns (hb hby d1_25) (by decide) (by decide) ?_
        rw [e0]
        refine ⟨?_, N0, rfl⟩
        show some (Value.long (1 : Int64)) = some (Value.long (own_pick p0 q1))
        simp [own_pick, hc7_1, hc14_2, hc21_3]
      · refine bk (fun t k => XS.icmpYes X0.here hx rfl (pc0 := 21) (pc' := 26) rfl (hb hby d1_21) rfl (feq hc21_3).2 (by decide) (by decide) k) ?_
        show F (s₁.setTop (mkF m 26 #[.val (.int p0), .val (.long q1), .second, .val (.long (q1 &&& (9223372036854775807 : Int64))), .second] []))
        refine bk (fun t k => X0.ldc2Long hx hown (mvT hZ (hw _ (List.mem_of_getElem? (i := 4) rfl))) (g := (mkF m 26 #[.val (.int p0), .val (.long q1), .second, .val (.long (q1 &&& (9223372036854775807 : Int64))), .second] [])) rfl (hb hby d1_26) t k) ?_
        show F (s₁.setTop (mkF m 29 #[.val (.int p0), .val (.long q1), .second, .val (.long (q1 &&& (9223372036854775807 : Int64))), .second] [(.long (9223372036854775807 : Int64))]))
        rw [hF]
        refine own_retJ X0 hx Bd.notSynchronized Bd.returns (hb hby d1_29) (by decide) (by decide) ?_
        rw [e0]
        refine ⟨?_, N0, rfl⟩
        show some (Value.long (9223372036854775807 : Int64)) = some (Value.long (own_pick p0 q1))
        simp [own_pick, hc7_1, hc14_2, hc21_3]
theorem d4_0 : decode jdk_29_method_66_code 0 = .ok (.lload_n 0, 1) := by decide +kernel
theorem d4_1 : decode jdk_29_method_66_code 1 = .ok (.lload_n 2, 1) := by decide +kernel
theorem d4_2 : decode jdk_29_method_66_code 2 = .ok (.lcmp, 1) := by decide +kernel
theorem d4_3 : decode jdk_29_method_66_code 3 = .ok (.ifCond .lt 7, 3) := by decide +kernel
theorem d4_6 : decode jdk_29_method_66_code 6 = .ok (.lload_n 0, 1) := by decide +kernel
theorem d4_7 : decode jdk_29_method_66_code 7 = .ok (.goto 4, 3) := by decide +kernel
theorem d4_10 : decode jdk_29_method_66_code 10 = .ok (.lload_n 2, 1) := by decide +kernel
theorem d4_11 : decode jdk_29_method_66_code 11 = .ok (.lreturn, 1) := by decide +kernel
theorem ef_4 (m : MethodId) (x0 : Int64) (x1 : Int64) : entryFrame m #[(.long x0), (.long x1)] 4 = mkF m 0 #[.val (.long x0), .second, .val (.long x1), .second] [] := by first | (simp [entryFrame, mkF, argsToLocals, Value.category]; done) | rfl
def Q4 (Z : State) (q0 : Int64) (q1 : Int64) (h0 : Heap) (n0 : Nat) (v : Option Value) (h : Heap) (L : List Loc) : Prop := v = some (.long (own_max q0 q1)) ∧ Fr n0 L ∧ h = h0
set_option maxRecDepth 65536 in
set_option maxHeartbeats 40000000 in
theorem rm4 (l : Launch) (Z : State) (a0 : Array Value) (hw : ∀ d ∈ tables_1, d.before a0 Z = true) (ws : List Jvm.Cond) (q0 : Int64) (q1 : Int64) (h0 : Heap) (n0 : Nat) (Z0 : n0 ≤ h0.size) :
    MetFree l (⟨"java/lang/Math", "max", "(JJ)J"⟩ : MethodName) (head1 (Jvm.Cond.code (⟨"java/lang/Math", "max", "(JJ)J"⟩ : MethodName) jdk_29_method_66_code 4 (some .long) :: ws) ({ frames := 0, cells := 0, slots := 0, locals := 0 } : Room)) (fun a U => a = #[(.long q0), (.long q1)] ∧ Z.Warmed39 U.vm ∧ U.heap = h0) (fun _ _ _ _ _ => True) (fun _ U o U' => ∃ v L, o = .returned v ∧ Q4 Z q0 q1 h0 n0 v U'.heap L ∧ FrameEnd U o U' L ({ frames := 0, cells := 0, slots := 0, locals := 0 } : Room).cells ({ frames := 0, cells := 0, slots := 0, locals := 0 } : Room).slots) := by
  refine MetFree.of_bodySF (Jvm.Free.JP.mathPlain rfl (by decide +kernel)) hisR ?_
  intro p e s m args below meth c s₁ Bd hml0 hP hK
  obtain ⟨rfl, hZ, hh⟩ := hP
  have hx := Bd.exec
  have hby := Bd.bytes
  have hml : c.maxLocals = 4 := hml0
  have hown : s.vm.findClass "java/lang/Math" = some m.cls := findClass_of_methodNamed Bd.named
  have hnm := (name_of_methodNamed Bd.named Bd.method).1
  have X0 : Stand p l e ({ frames := 0, cells := 0, slots := 0, locals := 0 } : Room) s m #[(.long q0), (.long q1)] below meth c s₁ [] 0 0 := Stand.of_body Bd
  have e0 : s₁.heap = h0 := by rw [← hh, Bd.state]; rfl
  have N0 := Fr.nil n0
  obtain ⟨F, hF⟩ : ∃ F : State → Prop, F = own_Fin p e below s ({ frames := 0, cells := 0, slots := 0, locals := 0 } : Room).cells ({ frames := 0, cells := 0, slots := 0, locals := 0 } : Room).slots (fun v h L => Q4 Z q0 q1 h0 n0 v h L) := ⟨_, rfl⟩
  have bk : ∀ {A B : State}, (∀ t, Steps p.tables e below B t → Steps p.tables e below A t) → F B → F A := by
    intro A B h k
    rw [hF] at k ⊢
    exact own_back h k
  suffices hgo : F (s₁.setTop (mkF m 0 #[.val (.long q0), .second, .val (.long q1), .second] [])) by
    have hgo' := bk (fun t k => castTop (T := s₁) (ef_4 m q0 q1) k) hgo
    rw [hF] at hgo'
    exact hgo'
  show F (s₁.setTop (mkF m 0 #[.val (.long q0), .second, .val (.long q1), .second] []))
  refine bk (fun t k => XS.lloadN X0.here hx rfl (hb hby d4_0) rfl k) ?_
  show F (s₁.setTop (mkF m 1 #[.val (.long q0), .second, .val (.long q1), .second] [(.long q0)]))
  refine bk (fun t k => XS.lloadN X0.here hx rfl (hb hby d4_1) rfl k) ?_
  show F (s₁.setTop (mkF m 2 #[.val (.long q0), .second, .val (.long q1), .second] [(.long q1), (.long q0)]))
  refine bk (fun t k => XS.lcmp X0.here hx rfl (hb hby d4_2) rfl k) ?_
  show F (s₁.setTop (mkF m 3 #[.val (.long q0), .second, .val (.long q1), .second] [(.int (lcmpW q0 q1))]))
  by_cases hc3_1 : q0 < q1
  · refine bk (fun t k => XS.ifYes X0.here hx rfl (pc0 := 3) (pc' := 10) rfl (hb hby d4_3) rfl ((if0 _ _).trans (tlt ((lw_lt _ _).mpr hc3_1)).1) (by decide) (by decide) k) ?_
    show F (s₁.setTop (mkF m 10 #[.val (.long q0), .second, .val (.long q1), .second] []))
    refine bk (fun t k => XS.lloadN X0.here hx rfl (hb hby d4_10) rfl k) ?_
    show F (s₁.setTop (mkF m 11 #[.val (.long q0), .second, .val (.long q1), .second] [(.long q1)]))
    rw [hF]
    refine own_retJ X0 hx Bd.notSynchronized Bd.returns (hb hby d4_11) (by decide) (by decide) ?_
    rw [e0]
    refine ⟨?_, N0, rfl⟩
    show some (Value.long q1) = some (Value.long (own_max q0 q1))
    simp [own_max, hc3_1]
  · refine bk (fun t k => XS.ifNo X0.here hx rfl (hb hby d4_3) rfl ((if0 _ _).trans (flt (fun q => hc3_1 ((lw_lt _ _).mp q))).1) k) ?_
    show F (s₁.setTop (mkF m 6 #[.val (.long q0), .second, .val (.long q1), .second] []))
    refine bk (fun t k => XS.lloadN X0.here hx rfl (hb hby d4_6) rfl k) ?_
    show F (s₁.setTop (mkF m 7 #[.val (.long q0), .second, .val (.long q1), .second] [(.long q0)]))
    refine bk (fun t k => XS.goto X0.here hx rfl (pc0 := 7) (pc' := 11) rfl (hb hby d4_7) (by decide) (by decide) k) ?_
    show F (s₁.setTop (mkF m 11 #[.val (.long q0), .second, .val (.long q1), .second] [(.long q0)]))
    rw [hF]
    refine own_retJ X0 hx Bd.notSynchronized Bd.returns (hb hby d4_11) (by decide) (by decide) ?_
    rw [e0]
    refine ⟨?_, N0, rfl⟩
    show some (Value.long q0) = some (Value.long (own_max q0 q1))
    simp [own_max, hc3_1]
theorem d5_0 : decode jdk_29_method_70_code 0 = .ok (.lload_n 0, 1) := by decide +kernel
theorem d5_1 : decode jdk_29_method_70_code 1 = .ok (.lload_n 2, 1) := by decide +kernel
theorem d5_2 : decode jdk_29_method_70_code 2 = .ok (.lcmp, 1) := by decide +kernel
theorem d5_3 : decode jdk_29_method_70_code 3 = .ok (.ifCond .gt 7, 3) := by decide +kernel
theorem d5_6 : decode jdk_29_method_70_code 6 = .ok (.lload_n 0, 1) := by decide +kernel
theorem d5_7 : decode jdk_29_method_70_code 7 = .ok (.goto 4, 3) := by decide +kernel
theorem d5_10 : decode jdk_29_method_70_code 10 = .ok (.lload_n 2, 1) := by decide +kernel
theorem d5_11 : decode jdk_29_method_70_code 11 = .ok (.lreturn, 1) := by decide +kernel
theorem ef_5 (m : MethodId) (x0 : Int64) (x1 : Int64) : entryFrame m #[(.long x0), (.long x1)] 4 = mkF m 0 #[.val (.long x0), .second, .val (.long x1), .second] [] := by first | (simp [entryFrame, mkF, argsToLocals, Value.category]; done) | rfl
def Q5 (Z : State) (q0 : Int64) (q1 : Int64) (h0 : Heap) (n0 : Nat) (v : Option Value) (h : Heap) (L : List Loc) : Prop := v = some (.long (own_min q0 q1)) ∧ Fr n0 L ∧ h = h0
set_option maxRecDepth 65536 in
set_option maxHeartbeats 40000000 in
theorem rm5 (l : Launch) (Z : State) (a0 : Array Value) (hw : ∀ d ∈ tables_1, d.before a0 Z = true) (ws : List Jvm.Cond) (q0 : Int64) (q1 : Int64) (h0 : Heap) (n0 : Nat) (Z0 : n0 ≤ h0.size) :
    MetFree l (⟨"java/lang/Math", "min", "(JJ)J"⟩ : MethodName) (head1 (Jvm.Cond.code (⟨"java/lang/Math", "min", "(JJ)J"⟩ : MethodName) jdk_29_method_70_code 4 (some .long) :: ws) ({ frames := 0, cells := 0, slots := 0, locals := 0 } : Room)) (fun a U => a = #[(.long q0), (.long q1)] ∧ Z.Warmed39 U.vm ∧ U.heap = h0) (fun _ _ _ _ _ => True) (fun _ U o U' => ∃ v L, o = .returned v ∧ Q5 Z q0 q1 h0 n0 v U'.heap L ∧ FrameEnd U o U' L ({ frames := 0, cells := 0, slots := 0, locals := 0 } : Room).cells ({ frames := 0, cells := 0, slots := 0, locals := 0 } : Room).slots) := by
  refine MetFree.of_bodySF (Jvm.Free.JP.mathPlain rfl (by decide +kernel)) hisR ?_
  intro p e s m args below meth c s₁ Bd hml0 hP hK
  obtain ⟨rfl, hZ, hh⟩ := hP
  have hx := Bd.exec
  have hby := Bd.bytes
  have hml : c.maxLocals = 4 := hml0
  have hown : s.vm.findClass "java/lang/Math" = some m.cls := findClass_of_methodNamed Bd.named
  have hnm := (name_of_methodNamed Bd.named Bd.method).1
  have X0 : Stand p l e ({ frames := 0, cells := 0, slots := 0, locals := 0 } : Room) s m #[(.long q0), (.long q1)] below meth c s₁ [] 0 0 := Stand.of_body Bd
  have e0 : s₁.heap = h0 := by rw [← hh, Bd.state]; rfl
  have N0 := Fr.nil n0
  obtain ⟨F, hF⟩ : ∃ F : State → Prop, F = own_Fin p e below s ({ frames := 0, cells := 0, slots := 0, locals := 0 } : Room).cells ({ frames := 0, cells := 0, slots := 0, locals := 0 } : Room).slots (fun v h L => Q5 Z q0 q1 h0 n0 v h L) := ⟨_, rfl⟩
  have bk : ∀ {A B : State}, (∀ t, Steps p.tables e below B t → Steps p.tables e below A t) → F B → F A := by
    intro A B h k
    rw [hF] at k ⊢
    exact own_back h k
  suffices hgo : F (s₁.setTop (mkF m 0 #[.val (.long q0), .second, .val (.long q1), .second] [])) by
    have hgo' := bk (fun t k => castTop (T := s₁) (ef_5 m q0 q1) k) hgo
    rw [hF] at hgo'
    exact hgo'
  show F (s₁.setTop (mkF m 0 #[.val (.long q0), .second, .val (.long q1), .second] []))
  refine bk (fun t k => XS.lloadN X0.here hx rfl (hb hby d5_0) rfl k) ?_
  show F (s₁.setTop (mkF m 1 #[.val (.long q0), .second, .val (.long q1), .second] [(.long q0)]))
  refine bk (fun t k => XS.lloadN X0.here hx rfl (hb hby d5_1) rfl k) ?_
  show F (s₁.setTop (mkF m 2 #[.val (.long q0), .second, .val (.long q1), .second] [(.long q1), (.long q0)]))
  refine bk (fun t k => XS.lcmp X0.here hx rfl (hb hby d5_2) rfl k) ?_
  show F (s₁.setTop (mkF m 3 #[.val (.long q0), .second, .val (.long q1), .second] [(.int (lcmpW q0 q1))]))
  by_cases hc3_1 : q1 < q0
  · refine bk (fun t k => XS.ifYes X0.here hx rfl (pc0 := 3) (pc' := 10) rfl (hb hby d5_3) rfl ((if0 _ _).trans (tlt ((lw_gt _ _).mpr hc3_1)).2.2.1) (by decide) (by decide) k) ?_
    show F (s₁.setTop (mkF m 10 #[.val (.long q0), .second, .val (.long q1), .second] []))
    refine bk (fun t k => XS.lloadN X0.here hx rfl (hb hby d5_10) rfl k) ?_
    show F (s₁.setTop (mkF m 11 #[.val (.long q0), .second, .val (.long q1), .second] [(.long q1)]))
    rw [hF]
    refine own_retJ X0 hx Bd.notSynchronized Bd.returns (hb hby d5_11) (by decide) (by decide) ?_
    rw [e0]
    refine ⟨?_, N0, rfl⟩
    show some (Value.long q1) = some (Value.long (own_min q0 q1))
    simp [own_min, hc3_1]
  · refine bk (fun t k => XS.ifNo X0.here hx rfl (hb hby d5_3) rfl ((if0 _ _).trans (flt (fun q => hc3_1 ((lw_gt _ _).mp q))).2.2.1) k) ?_
    show F (s₁.setTop (mkF m 6 #[.val (.long q0), .second, .val (.long q1), .second] []))
    refine bk (fun t k => XS.lloadN X0.here hx rfl (hb hby d5_6) rfl k) ?_
    show F (s₁.setTop (mkF m 7 #[.val (.long q0), .second, .val (.long q1), .second] [(.long q0)]))
    refine bk (fun t k => XS.goto X0.here hx rfl (pc0 := 7) (pc' := 11) rfl (hb hby d5_7) (by decide) (by decide) k) ?_
    show F (s₁.setTop (mkF m 11 #[.val (.long q0), .second, .val (.long q1), .second] [(.long q0)]))
    rw [hF]
    refine own_retJ X0 hx Bd.notSynchronized Bd.returns (hb hby d5_11) (by decide) (by decide) ?_
    rw [e0]
    refine ⟨?_, N0, rfl⟩
    show some (Value.long q0) = some (Value.long (own_min q0 q1))
    simp [own_min, hc3_1]
theorem d2_0 : decode prog_19_method_1_code 0 = .ok (.aload_n 0, 1) := by decide +kernel
theorem d2_1 : decode prog_19_method_1_code 1 = .ok (.invokespecial 1, 3) := by decide +kernel
theorem d2_4 : decode prog_19_method_1_code 4 = .ok (.lload_n 1, 1) := by decide +kernel
theorem d2_5 : decode prog_19_method_1_code 5 = .ok (.lconst 0, 1) := by decide +kernel
theorem d2_6 : decode prog_19_method_1_code 6 = .ok (.lcmp, 1) := by decide +kernel
theorem d2_7 : decode prog_19_method_1_code 7 = .ok (.ifCond .lt 9, 3) := by decide +kernel
theorem d2_10 : decode prog_19_method_1_code 10 = .ok (.lload_n 3, 1) := by decide +kernel
theorem d2_11 : decode prog_19_method_1_code 11 = .ok (.lconst 0, 1) := by decide +kernel
theorem d2_12 : decode prog_19_method_1_code 12 = .ok (.lcmp, 1) := by decide +kernel
theorem d2_13 : decode prog_19_method_1_code 13 = .ok (.ifCond .ge 18, 3) := by decide +kernel
theorem d2_31 : decode prog_19_method_1_code 31 = .ok (.aload_n 0, 1) := by decide +kernel
theorem d2_32 : decode prog_19_method_1_code 32 = .ok (.lload_n 1, 1) := by decide +kernel
theorem d2_33 : decode prog_19_method_1_code 33 = .ok (.putfield 16, 3) := by decide +kernel
theorem d2_36 : decode prog_19_method_1_code 36 = .ok (.aload_n 0, 1) := by decide +kernel
theorem d2_37 : decode prog_19_method_1_code 37 = .ok (.lload_n 3, 1) := by decide +kernel
theorem d2_38 : decode prog_19_method_1_code 38 = .ok (.putfield 22, 3) := by decide +kernel
theorem d2_41 : decode prog_19_method_1_code 41 = .ok (.return_, 1) := by decide +kernel
theorem pn_2 : plainName "com/example/culljoin/culljoin/model/Limit" = true := by first | (simp [plainName, overriddenIn]; done) | decide +kernel
theorem ef_2 (m : MethodId) (x0 : Addr) (x1 : Int64) (x2 : Int64) : entryFrame m #[(.ref x0), (.long x1), (.long x2)] 5 = mkF m 0 #[.val (.ref x0), .val (.long x1), .second, .val (.long x2), .second] [] := by first | (simp [entryFrame, mkF, argsToLocals, Value.category]; done) | rfl
def Q2 (Z : State) (o0 : Addr) (q1 : Int64) (q2 : Int64) (u0 : Value) (u1 : Value) (h0 : Heap) (n0 : Nat) (v : Option Value) (h : Heap) (L : List Loc) : Prop := v = none ∧ Fr n0 L ∧ Keep h0 h [o0] ∧ Exa Z h o0 "com/example/culljoin/culljoin/model/Limit" ∧ Fld Z h o0 "com/example/culljoin/culljoin/model/Limit" "count" "J" (.long q1) ∧ Fld Z h o0 "com/example/culljoin/culljoin/model/Limit" "offset" "J" (.long q2)
set_option maxRecDepth 65536 in
set_option maxHeartbeats 40000000 in
theorem rm2 (l : Launch) (Z : State) (a0 : Array Value) (hw : ∀ d ∈ tables_1, d.before a0 Z = true) (ws : List Jvm.Cond) (o0 : Addr) (q1 : Int64) (q2 : Int64) (u0 : Value) (u1 : Value) (h0 : Heap) (n0 : Nat) (Z0 : n0 ≤ h0.size) (E_o0 : Exa Z h0 o0 "com/example/culljoin/culljoin/model/Limit") (F_c : Fld Z h0 o0 "com/example/culljoin/culljoin/model/Limit" "count" "J" u0) (F_o : Fld Z h0 o0 "com/example/culljoin/culljoin/model/Limit" "offset" "J" u1) (g_o0 : n0 ≤ o0) (hq1 : ¬ q1 < (0 : Int64)) (hq2 : ¬ q2 < (0 : Int64)) :
    MetFree l (⟨"com/example/culljoin/culljoin/model/Limit", "<init>", "(JJ)V"⟩ : MethodName) (head1 (Jvm.Cond.code (⟨"com/example/culljoin/culljoin/model/Limit", "<init>", "(JJ)V"⟩ : MethodName) prog_19_method_1_code 5 none :: ws) ({ frames := 1, cells := 0, slots := 0, locals := 12 } : Room)) (fun a U => a = #[(.ref o0), (.long q1), (.long q2)] ∧ Z.Warmed39 U.vm ∧ U.heap = h0) (fun _ _ _ _ _ => True) (fun _ U o U' => ∃ v L, o = .returned v ∧ Q2 Z o0 q1 q2 u0 u1 h0 n0 v U'.heap L ∧ FrameEnd U o U' L ({ frames := 1, cells := 0, slots := 0, locals := 12 } : Room).cells ({ frames := 1, cells := 0, slots := 0, locals := 12 } : Room).slots) := by
  refine MetFree.of_bodySF (plainFor_of_name pn_2) hisR ?_
  intro p e s m args below meth c s₁ Bd hml0 hP hK
  obtain ⟨rfl, hZ, hh⟩ := hP
  have hx := Bd.exec
  have hby := Bd.bytes
  have hml : c.maxLocals = 5 := hml0
  have hown : s.vm.findClass "com/example/culljoin/culljoin/model/Limit" = some m.cls := findClass_of_methodNamed Bd.named
  have hnm := (name_of_methodNamed Bd.named Bd.method).1
  have X0 : Stand p l e ({ frames := 1, cells := 0, slots := 0, locals := 12 } : Room) s m #[(.ref o0), (.long q1), (.long q2)] below meth c s₁ [] 0 0 := Stand.of_body Bd
  have e0 : s₁.heap = h0 := by rw [← hh, Bd.state]; rfl
  have N0 := Fr.nil n0
  obtain ⟨F, hF⟩ : ∃ F : State → Prop, F = own_Fin p e below s ({ frames := 1, cells := 0, slots := 0, locals := 12 } : Room).cells ({ frames := 1, cells := 0, slots := 0, locals := 12 } : Room).slots (fun v h L => Q2 Z o0 q1 q2 u0 u1 h0 n0 v h L) := ⟨_, rfl⟩
  have bk : ∀ {A B : State}, (∀ t, Steps p.tables e below B t → Steps p.tables e below A t) → F B → F A := by
    intro A B h k
    rw [hF] at k ⊢
    exact own_back h k
  suffices hgo : F (s₁.setTop (mkF m 0 #[.val (.ref o0), .val (.long q1), .second, .val (.long q2), .second] [])) by
    have hgo' := bk (fun t k => castTop (T := s₁) (ef_2 m o0 q1 q2) k) hgo
    rw [hF] at hgo'
    exact hgo'
  show F (s₁.setTop (mkF m 0 #[.val (.ref o0), .val (.long q1), .second, .val (.long q2), .second] []))
  refine bk (fun t k => XS.aloadN X0.here hx rfl (hb hby d2_0) rfl rfl k) ?_
  show F (s₁.setTop (mkF m 1 #[.val (.ref o0), .val (.long q1), .second, .val (.long q2), .second] [(.ref o0)]))
  obtain ⟨T1, X1, e1, st1⟩ := initO X0 hx hZ hown (hw _ (List.mem_of_getElem? (i := 11) rfl)) (hw _ (List.mem_of_getElem? (i := 12) rfl)) (hw _ (List.mem_of_getElem? (i := 13) rfl)) e0 (g := (mkF m 1 #[.val (.ref o0), .val (.long q1), .second, .val (.long q2), .second] [(.ref o0)])) rfl (by rw [hml]; rfl) rfl (hb hby d2_1) (by decide) (W := 0) (by show 2 * 0 + _ ≤ _; exact Nat.le_of_eq rfl) (by decide)
  refine bk (fun t k => st1 t k) ?_
  show F (T1.setTop (mkF m 4 #[.val (.ref o0), .val (.long q1), .second, .val (.long q2), .second] []))
  refine bk (fun t k => XS.lloadN X1.here hx rfl (hb hby d2_4) rfl k) ?_
  show F (T1.setTop (mkF m 5 #[.val (.ref o0), .val (.long q1), .second, .val (.long q2), .second] [(.long q1)]))
  refine bk (fun t k => XS.lconst X1.here hx rfl (hb hby d2_5) k) ?_
  show F (T1.setTop (mkF m 6 #[.val (.ref o0), .val (.long q1), .second, .val (.long q2), .second] [(.long (0 : Int64)), (.long q1)]))
  refine bk (fun t k => XS.lcmp X1.here hx rfl (hb hby d2_6) rfl k) ?_
  show F (T1.setTop (mkF m 7 #[.val (.ref o0), .val (.long q1), .second, .val (.long q2), .second] [(.int (lcmpW q1 (0 : Int64)))]))
  refine bk (fun t k => XS.ifNo X1.here hx rfl (hb hby d2_7) rfl ((if0 _ _).trans (flt (fun q => hq1 ((lw_lt _ _).mp q))).1) k) ?_
  show F (T1.setTop (mkF m 10 #[.val (.ref o0), .val (.long q1), .second, .val (.long q2), .second] []))
  refine bk (fun t k => XS.lloadN X1.here hx rfl (hb hby d2_10) rfl k) ?_
  show F (T1.setTop (mkF m 11 #[.val (.ref o0), .val (.long q1), .second, .val (.long q2), .second] [(.long q2)]))
  refine bk (fun t k => XS.lconst X1.here hx rfl (hb hby d2_11) k) ?_
  show F (T1.setTop (mkF m 12 #[.val (.ref o0), .val (.long q1), .second, .val (.long q2), .second] [(.long (0 : Int64)), (.long q2)]))
  refine bk (fun t k => XS.lcmp X1.here hx rfl (hb hby d2_12) rfl k) ?_
  show F (T1.setTop (mkF m 13 #[.val (.ref o0), .val (.long q1), .second, .val (.long q2), .second] [(.int (lcmpW q2 (0 : Int64)))]))
  refine bk (fun t k => XS.ifYes X1.here hx rfl (pc0 := 13) (pc' := 31) rfl (hb hby d2_13) rfl ((if0 _ _).trans (flt (fun q => hq2 ((lw_lt _ _).mp q))).2.1) (by decide) (by decide) k) ?_
  show F (T1.setTop (mkF m 31 #[.val (.ref o0), .val (.long q1), .second, .val (.long q2), .second] []))
  refine bk (fun t k => XS.aloadN X1.here hx rfl (hb hby d2_31) rfl rfl k) ?_
  show F (T1.setTop (mkF m 32 #[.val (.ref o0), .val (.long q1), .second, .val (.long q2), .second] [(.ref o0)]))
  refine bk (fun t k => XS.lloadN X1.here hx rfl (hb hby d2_32) rfl k) ?_
  show F (T1.setTop (mkF m 33 #[.val (.ref o0), .val (.long q1), .second, .val (.long q2), .second] [(.long q1), (.ref o0)]))
  obtain ⟨T2, h2, X2, e2, W2, st2⟩ := putF X1 hx hZ hown (host := "") (Or.inl (hw _ (List.mem_of_getElem? (i := 14) rfl))) Via.refl e1 F_c E_o0 (Or.inr ⟨(hw _ (List.mem_of_getElem? (i := 15) rfl)), rfl, hnm⟩) (hw _ (List.mem_of_getElem? (i := 6) rfl)) (ty := .long) (by decide) rfl rfl (g := (mkF m 33 #[.val (.ref o0), .val (.long q1), .second, .val (.long q2), .second] [(.long q1), (.ref o0)])) rfl rfl (hb hby d2_33)
  have f3 := E_o0.wr W2
  have f4 := F_c.same W2
  have f5 := F_o.other W2 (Or.inr (slot_ne (Or.inr (hw _ (List.mem_of_getElem? (i := 17) rfl))) (Or.inr (hw _ (List.mem_of_getElem? (i := 15) rfl))) (by decide) (t := .long) (t' := .long) (by decide) (by decide)))
  have f6 := Nat.le_trans Z0 (Keep.of_wr W2).1
  have f7 := (Keep.refl h0 [o0]).wr W2 (Or.inl (List.mem_of_getElem? (i := 0) rfl))
  have N2 := Fr.snoc X2 N0 g_o0
  refine bk (fun t k => st2 t k) ?_
  show F (T2.setTop (mkF m 36 #[.val (.ref o0), .val (.long q1), .second, .val (.long q2), .second] []))
  refine bk (fun t k => XS.aloadN X2.here hx rfl (hb hby d2_36) rfl rfl k) ?_
  show F (T2.setTop (mkF m 37 #[.val (.ref o0), .val (.long q1), .second, .val (.long q2), .second] [(.ref o0)]))
  refine bk (fun t k => XS.lloadN X2.here hx rfl (hb hby d2_37) rfl k) ?_
  show F (T2.setTop (mkF m 38 #[.val (.ref o0), .val (.long q1), .second, .val (.long q2), .second] [(.long q2), (.ref o0)]))
  obtain ⟨T8, h8, X8, e8, W8, st8⟩ := putF X2 hx hZ hown (host := "") (Or.inl (hw _ (List.mem_of_getElem? (i := 16) rfl))) Via.refl e2 f5 f3 (Or.inr ⟨(hw _ (List.mem_of_getElem? (i := 17) rfl)), rfl, hnm⟩) (hw _ (List.mem_of_getElem? (i := 6) rfl)) (ty := .long) (by decide) rfl rfl (g := (mkF m 38 #[.val (.ref o0), .val (.long q1), .second, .val (.long q2), .second] [(.long q2), (.ref o0)])) rfl rfl (hb hby d2_38)
  have f9 := f3.wr W8
  have f10 := f4.other W8 (Or.inr (slot_ne (Or.inr (hw _ (List.mem_of_getElem? (i := 15) rfl))) (Or.inr (hw _ (List.mem_of_getElem? (i := 17) rfl))) (by decide) (t := .long) (t' := .long) (by decide) (by decide)))
  have f11 := f5.same W8
  have f12 := Nat.le_trans f6 (Keep.of_wr W8).1
  have f13 := f7.wr W8 (Or.inl (List.mem_of_getElem? (i := 0) rfl))
  have N8 := Fr.snoc X8 N2 g_o0
  refine bk (fun t k => st8 t k) ?_
  show F (T8.setTop (mkF m 41 #[.val (.ref o0), .val (.long q1), .second, .val (.long q2), .second] []))
  rw [hF]
  refine own_ret0 X8 hx Bd.notSynchronized Bd.returns (hb hby d2_41) (by decide) (by decide) ?_
  rw [e8]
  exact ⟨rfl, N8, f13, f9, f10, f11⟩
theorem d6_0 : decode prog_19_method_4_code 0 = .ok (.aload_n 0, 1) := by decide +kernel
theorem d6_1 : decode prog_19_method_4_code 1 = .ok (.getfield 16, 3) := by decide +kernel
theorem d6_4 : decode prog_19_method_4_code 4 = .ok (.lconst 0, 1) := by decide +kernel
theorem d6_5 : decode prog_19_method_4_code 5 = .ok (.lcmp, 1) := by decide +kernel
theorem d6_6 : decode prog_19_method_4_code 6 = .ok (.ifCond .le 16, 3) := by decide +kernel
theorem d6_9 : decode prog_19_method_4_code 9 = .ok (.aload_n 0, 1) := by decide +kernel
theorem d6_10 : decode prog_19_method_4_code 10 = .ok (.getfield 22, 3) := by decide +kernel
theorem d6_13 : decode prog_19_method_4_code 13 = .ok (.lconst 0, 1) := by decide +kernel
theorem d6_14 : decode prog_19_method_4_code 14 = .ok (.lcmp, 1) := by decide +kernel
theorem d6_15 : decode prog_19_method_4_code 15 = .ok (.ifCond .ne 7, 3) := by decide +kernel
theorem d6_18 : decode prog_19_method_4_code 18 = .ok (.iconst 1, 1) := by decide +kernel
theorem d6_19 : decode prog_19_method_4_code 19 = .ok (.goto 4, 3) := by decide +kernel
theorem d6_22 : decode prog_19_method_4_code 22 = .ok (.iconst 0, 1) := by decide +kernel
theorem d6_23 : decode prog_19_method_4_code 23 = .ok (.ireturn, 1) := by decide +kernel
theorem pn_6 : plainName "com/example/culljoin/culljoin/model/Limit" = true := by first | (simp [plainName, overriddenIn]; done) | decide +kernel
theorem ef_6 (m : MethodId) (x0 : Addr) : entryFrame m #[(.ref x0)] 1 = mkF m 0 #[.val (.ref x0)] [] := by first | (simp [entryFrame, mkF, argsToLocals, Value.category]; done) | rfl
def Q6 (Z : State) (o0 : Addr) (cc : Int64) (oo : Int64) (h0 : Heap) (n0 : Nat) (v : Option Value) (h : Heap) (L : List Loc) : Prop := v = some (.int (own_keeps cc oo)) ∧ Fr n0 L ∧ h = h0
set_option maxRecDepth 65536 in
set_option maxHeartbeats 40000000 in
theorem rm6 (l : Launch) (Z : State) (a0 : Array Value) (hw : ∀ d ∈ tables_1, d.before a0 Z = true) (ws : List Jvm.Cond) (o0 : Addr) (cc : Int64) (oo : Int64) (h0 : Heap) (n0 : Nat) (Z0 : n0 ≤ h0.size) (F_c : Fld Z h0 o0 "com/example/culljoin/culljoin/model/Limit" "count" "J" (.long cc)) (F_o : Fld Z h0 o0 "com/example/culljoin/culljoin/model/Limit" "offset" "J" (.long oo)) :
    MetFree l (⟨"com/example/culljoin/culljoin/model/Limit", "keepsFirstRow", "()Z"⟩ : MethodName) (head1 (Jvm.Cond.code (⟨"com/example/culljoin/culljoin/model/Limit", "keepsFirstRow", "()Z"⟩ : MethodName) prog_19_method_4_code 1 (some .boolean) :: ws) ({ frames := 0, cells := 0, slots := 0, locals := 0 } : Room)) (fun a U => a = #[(.ref o0)] ∧ Z.Warmed39 U.vm ∧ U.heap = h0) (fun _ _ _ _ _ => True) (fun _ U o U' => ∃ v L, o = .returned v ∧ Q6 Z o0 cc oo h0 n0 v U'.heap L ∧ FrameEnd U o U' L ({ frames := 0, cells := 0, slots := 0, locals := 0 } : Room).cells ({ frames := 0, cells := 0, slots := 0, locals := 0 } : Room).slots) := by
  refine MetFree.of_bodySF (plainFor_of_name pn_6) hisR ?_
  intro p e s m args below meth c s₁ Bd hml0 hP hK
  obtain ⟨rfl, hZ, hh⟩ := hP
  have hx := Bd.exec
  have hby := Bd.bytes
  have hml : c.maxLocals = 1 := hml0
  have hown : s.vm.findClass "com/example/culljoin/culljoin/model/Limit" = some m.cls := findClass_of_methodNamed Bd.named
  have hnm := (name_of_methodNamed Bd.named Bd.method).1
  have X0 : Stand p l e ({ frames := 0, cells := 0, slots := 0, locals := 0 } : Room) s m #[(.ref o0)] below meth c s₁ [] 0 0 := Stand.of_body Bd
  have e0 : s₁.heap = h0 := by rw [← hh, Bd.state]; rfl
  have N0 := Fr.nil n0
  obtain ⟨F, hF⟩ : ∃ F : State → Prop, F = own_Fin p e below s ({ frames := 0, cells := 0, slots := 0, locals := 0 } : Room).cells ({ frames := 0, cells := 0, slots := 0, locals := 0 } : Room).slots (fun v h L => Q6 Z o0 cc oo h0 n0 v h L) := ⟨_, rfl⟩
  have bk : ∀ {A B : State}, (∀ t, Steps p.tables e below B t → Steps p.tables e below A t) → F B → F A := by
    intro A B h k
    rw [hF] at k ⊢
    exact own_back h k
  suffices hgo : F (s₁.setTop (mkF m 0 #[.val (.ref o0)] [])) by
    have hgo' := bk (fun t k => castTop (T := s₁) (ef_6 m o0) k) hgo
    rw [hF] at hgo'
    exact hgo'
  show F (s₁.setTop (mkF m 0 #[.val (.ref o0)] []))
  refine bk (fun t k => XS.aloadN X0.here hx rfl (hb hby d6_0) rfl rfl k) ?_
  show F (s₁.setTop (mkF m 1 #[.val (.ref o0)] [(.ref o0)]))
  obtain ⟨T1, X1, e1, st1⟩ := getF X0 hx hZ hown (host := "") (Or.inl (hw _ (List.mem_of_getElem? (i := 14) rfl))) Via.refl e0 F_c (g := (mkF m 1 #[.val (.ref o0)] [(.ref o0)])) rfl rfl (hb hby d6_1)
  refine bk (fun t k => st1 t k) ?_
  show F (T1.setTop (mkF m 4 #[.val (.ref o0)] [(.long cc)]))
  refine bk (fun t k => XS.lconst X1.here hx rfl (hb hby d6_4) k) ?_
  show F (T1.setTop (mkF m 5 #[.val (.ref o0)] [(.long (0 : Int64)), (.long cc)]))
  refine bk (fun t k => XS.lcmp X1.here hx rfl (hb hby d6_5) rfl k) ?_
  show F (T1.setTop (mkF m 6 #[.val (.ref o0)] [(.int (lcmpW cc (0 : Int64)))]))
  by_cases hc6_2 : (0 : Int64) < cc
  · refine bk (fun t k => XS.ifNo X1.here hx rfl (hb hby d6_6) rfl ((if0 _ _).trans (tlt ((lw_gt _ _).mpr hc6_2)).2.2.2) k) ?_
    show F (T1.setTop (mkF m 9 #[.val (.ref o0)] []))
    refine bk (fun t k => XS.aloadN X1.here hx rfl (hb hby d6_9) rfl rfl k) ?_
    show F (T1.setTop (mkF m 10 #[.val (.ref o0)] [(.ref o0)]))
    obtain ⟨T3, X3, e3, st3⟩ := getF X1 hx hZ hown (host := "") (Or.inl (hw _ (List.mem_of_getElem? (i := 16) rfl))) Via.refl e1 F_o (g := (mkF m 10 #[.val (.ref o0)] [(.ref o0)])) rfl rfl (hb hby d6_10)
    refine bk (fun t k => st3 t k) ?_
    show F (T3.setTop (mkF m 13 #[.val (.ref o0)] [(.long oo)]))
    refine bk (fun t k => XS.lconst X3.here hx rfl (hb hby d6_13) k) ?_
    show F (T3.setTop (mkF m 14 #[.val (.ref o0)] [(.long (0 : Int64)), (.long oo)]))
    refine bk (fun t k => XS.lcmp X3.here hx rfl (hb hby d6_14) rfl k) ?_
    show F (T3.setTop (mkF m 15 #[.val (.ref o0)] [(.int (lcmpW oo (0 : Int64)))]))
    by_cases hc15_4 : oo = (0 : Int64)
    · refine bk (fun t k => XS.ifNo X3.here hx rfl (hb hby d6_15) rfl ((if0 _ _).trans (teq ((lw_eq _ _).mpr hc15_4)).2) k) ?_
      show F (T3.setTop (mkF m 18 #[.val (.ref o0)] []))
      refine bk (fun t k => XS.iconst X3.here hx rfl (hb hby d6_18) k) ?_
      show F (T3.setTop (mkF m 19 #[.val (.ref o0)] [(.int (1 : Int32))]))
      refine bk (fun t k => XS.goto X3.here hx rfl (pc0 := 19) (pc' := 23) rfl (hb hby d6_19) (by decide) (by decide) k) ?_
      show F (T3.setTop (mkF m 23 #[.val (.ref o0)] [(.int (1 : Int32))]))
      rw [hF]
      refine own_retZ X3 hx Bd.notSynchronized Bd.returns (hb hby d6_23) (by decide) (by decide) ?_
      rw [e3]
      refine ⟨?_, N0, rfl⟩
      show some (Value.int (1 : Int32)) = some (Value.int (own_keeps cc oo))
      simp [own_keeps, hc6_2, hc15_4]
    · refine bk (fun t k => XS.ifYes X3.here hx rfl (pc0 := 15) (pc' := 22) rfl (hb hby d6_15) rfl ((if0 _ _).trans (feq (fun q => hc15_4 ((lw_eq _ _).mp q))).2) (by decide) (by decide) k) ?_
      show F (T3.setTop (mkF m 22 #[.val (.ref o0)] []))
      refine bk (fun t k => XS.iconst X3.here hx rfl (hb hby d6_22) k) ?_
      show F (T3.setTop (mkF m 23 #[.val (.ref o0)] [(.int (0 : Int32))]))
      rw [hF]
      refine own_retZ X3 hx Bd.notSynchronized Bd.returns (hb hby d6_23) (by decide) (by decide) ?_
      rw [e3]
      refine ⟨?_, N0, rfl⟩
      show some (Value.int (0 : Int32)) = some (Value.int (own_keeps cc oo))
      simp [own_keeps, hc6_2, hc15_4]
  · refine bk (fun t k => XS.ifYes X1.here hx rfl (pc0 := 6) (pc' := 22) rfl (hb hby d6_6) rfl ((if0 _ _).trans (flt (fun q => hc6_2 ((lw_gt _ _).mp q))).2.2.2) (by decide) (by decide) k) ?_
    show F (T1.setTop (mkF m 22 #[.val (.ref o0)] []))
    refine bk (fun t k => XS.iconst X1.here hx rfl (hb hby d6_22) k) ?_
    show F (T1.setTop (mkF m 23 #[.val (.ref o0)] [(.int (0 : Int32))]))
    rw [hF]
    refine own_retZ X1 hx Bd.notSynchronized Bd.returns (hb hby d6_23) (by decide) (by decide) ?_
    rw [e1]
    refine ⟨?_, N0, rfl⟩
    show some (Value.int (0 : Int32)) = some (Value.int (own_keeps cc oo))
    simp [own_keeps, hc6_2]
theorem d7_0 : decode prog_19_method_2_code 0 = .ok (.aload_n 0, 1) := by decide +kernel
theorem d7_1 : decode prog_19_method_2_code 1 = .ok (.getfield 16, 3) := by decide +kernel
theorem d7_4 : decode prog_19_method_2_code 4 = .ok (.lreturn, 1) := by decide +kernel
theorem pn_7 : plainName "com/example/culljoin/culljoin/model/Limit" = true := by first | (simp [plainName, overriddenIn]; done) | decide +kernel
theorem ef_7 (m : MethodId) (x0 : Addr) : entryFrame m #[(.ref x0)] 1 = mkF m 0 #[.val (.ref x0)] [] := by first | (simp [entryFrame, mkF, argsToLocals, Value.category]; done) | rfl
def Q7 (Z : State) (o0 : Addr) (cc : Int64) (oo : Int64) (h0 : Heap) (n0 : Nat) (v : Option Value) (h : Heap) (L : List Loc) : Prop := v = some (.long cc) ∧ Fr n0 L ∧ h = h0
set_option maxRecDepth 65536 in
set_option maxHeartbeats 40000000 in
theorem rm7 (l : Launch) (Z : State) (a0 : Array Value) (hw : ∀ d ∈ tables_1, d.before a0 Z = true) (ws : List Jvm.Cond) (o0 : Addr) (cc : Int64) (oo : Int64) (h0 : Heap) (n0 : Nat) (Z0 : n0 ≤ h0.size) (F_c : Fld Z h0 o0 "com/example/culljoin/culljoin/model/Limit" "count" "J" (.long cc)) (F_o : Fld Z h0 o0 "com/example/culljoin/culljoin/model/Limit" "offset" "J" (.long oo)) :
    MetFree l (⟨"com/example/culljoin/culljoin/model/Limit", "count", "()J"⟩ : MethodName) (head1 (Jvm.Cond.code (⟨"com/example/culljoin/culljoin/model/Limit", "count", "()J"⟩ : MethodName) prog_19_method_2_code 1 (some .long) :: ws) ({ frames := 0, cells := 0, slots := 0, locals := 0 } : Room)) (fun a U => a = #[(.ref o0)] ∧ Z.Warmed39 U.vm ∧ U.heap = h0) (fun _ _ _ _ _ => True) (fun _ U o U' => ∃ v L, o = .returned v ∧ Q7 Z o0 cc oo h0 n0 v U'.heap L ∧ FrameEnd U o U' L ({ frames := 0, cells := 0, slots := 0, locals := 0 } : Room).cells ({ frames := 0, cells := 0, slots := 0, locals := 0 } : Room).slots) := by
  refine MetFree.of_bodySF (plainFor_of_name pn_7) hisR ?_
  intro p e s m args below meth c s₁ Bd hml0 hP hK
  obtain ⟨rfl, hZ, hh⟩ := hP
  have hx := Bd.exec
  have hby := Bd.bytes
  have hml : c.maxLocals = 1 := hml0
  have hown : s.vm.findClass "com/example/culljoin/culljoin/model/Limit" = some m.cls := findClass_of_methodNamed Bd.named
  have hnm := (name_of_methodNamed Bd.named Bd.method).1
  have X0 : Stand p l e ({ frames := 0, cells := 0, slots := 0, locals := 0 } : Room) s m #[(.ref o0)] below meth c s₁ [] 0 0 := Stand.of_body Bd
  have e0 : s₁.heap = h0 := by rw [← hh, Bd.state]; rfl
  have N0 := Fr.nil n0
  obtain ⟨F, hF⟩ : ∃ F : State → Prop, F = own_Fin p e below s ({ frames := 0, cells := 0, slots := 0, locals := 0 } : Room).cells ({ frames := 0, cells := 0, slots := 0, locals := 0 } : Room).slots (fun v h L => Q7 Z o0 cc oo h0 n0 v h L) := ⟨_, rfl⟩
  have bk : ∀ {A B : State}, (∀ t, Steps p.tables e below B t → Steps p.tables e below A t) → F B → F A := by
    intro A B h k
    rw [hF] at k ⊢
    exact own_back h k
  suffices hgo : F (s₁.setTop (mkF m 0 #[.val (.ref o0)] [])) by
    have hgo' := bk (fun t k => castTop (T := s₁) (ef_7 m o0) k) hgo
    rw [hF] at hgo'
    exact hgo'
  show F (s₁.setTop (mkF m 0 #[.val (.ref o0)] []))
  refine bk (fun t k => XS.aloadN X0.here hx rfl (hb hby d7_0) rfl rfl k) ?_
  show F (s₁.setTop (mkF m 1 #[.val (.ref o0)] [(.ref o0)]))
  obtain ⟨T1, X1, e1, st1⟩ := getF X0 hx hZ hown (host := "") (Or.inl (hw _ (List.mem_of_getElem? (i := 14) rfl))) Via.refl e0 F_c (g := (mkF m 1 #[.val (.ref o0)] [(.ref o0)])) rfl rfl (hb hby d7_1)
  refine bk (fun t k => st1 t k) ?_
  show F (T1.setTop (mkF m 4 #[.val (.ref o0)] [(.long cc)]))
  rw [hF]
  refine own_retJ X1 hx Bd.notSynchronized Bd.returns (hb hby d7_4) (by decide) (by decide) ?_
  rw [e1]
  exact ⟨rfl, N0, rfl⟩
theorem d8_0 : decode prog_19_method_3_code 0 = .ok (.aload_n 0, 1) := by decide +kernel
theorem d8_1 : decode prog_19_method_3_code 1 = .ok (.getfield 22, 3) := by decide +kernel
theorem d8_4 : decode prog_19_method_3_code 4 = .ok (.lreturn, 1) := by decide +kernel
theorem pn_8 : plainName "com/example/culljoin/culljoin/model/Limit" = true := by first | (simp [plainName, overriddenIn]; done) | decide +kernel
theorem ef_8 (m : MethodId) (x0 : Addr) : entryFrame m #[(.ref x0)] 1 = mkF m 0 #[.val (.ref x0)] [] := by first | (simp [entryFrame, mkF, argsToLocals, Value.category]; done) | rfl
def Q8 (Z : State) (o0 : Addr) (cc : Int64) (oo : Int64) (h0 : Heap) (n0 : Nat) (v : Option Value) (h : Heap) (L : List Loc) : Prop := v = some (.long oo) ∧ Fr n0 L ∧ h = h0
set_option maxRecDepth 65536 in
set_option maxHeartbeats 40000000 in
theorem rm8 (l : Launch) (Z : State) (a0 : Array Value) (hw : ∀ d ∈ tables_1, d.before a0 Z = true) (ws : List Jvm.Cond) (o0 : Addr) (cc : Int64) (oo : Int64) (h0 : Heap) (n0 : Nat) (Z0 : n0 ≤ h0.size) (F_c : Fld Z h0 o0 "com/example/culljoin/culljoin/model/Limit" "count" "J" (.long cc)) (F_o : Fld Z h0 o0 "com/example/culljoin/culljoin/model/Limit" "offset" "J" (.long oo)) :
    MetFree l (⟨"com/example/culljoin/culljoin/model/Limit", "offset", "()J"⟩ : MethodName) (head1 (Jvm.Cond.code (⟨"com/example/culljoin/culljoin/model/Limit", "offset", "()J"⟩ : MethodName) prog_19_method_3_code 1 (some .long) :: ws) ({ frames := 0, cells := 0, slots := 0, locals := 0 } : Room)) (fun a U => a = #[(.ref o0)] ∧ Z.Warmed39 U.vm ∧ U.heap = h0) (fun _ _ _ _ _ => True) (fun _ U o U' => ∃ v L, o = .returned v ∧ Q8 Z o0 cc oo h0 n0 v U'.heap L ∧ FrameEnd U o U' L ({ frames := 0, cells := 0, slots := 0, locals := 0 } : Room).cells ({ frames := 0, cells := 0, slots := 0, locals := 0 } : Room).slots) := by
  refine MetFree.of_bodySF (plainFor_of_name pn_8) hisR ?_
  intro p e s m args below meth c s₁ Bd hml0 hP hK
  obtain ⟨rfl, hZ, hh⟩ := hP
  have hx := Bd.exec
  have hby := Bd.bytes
  have hml : c.maxLocals = 1 := hml0
  have hown : s.vm.findClass "com/example/culljoin/culljoin/model/Limit" = some m.cls := findClass_of_methodNamed Bd.named
  have hnm := (name_of_methodNamed Bd.named Bd.method).1
  have X0 : Stand p l e ({ frames := 0, cells := 0, slots := 0, locals := 0 } : Room) s m #[(.ref o0)] below meth c s₁ [] 0 0 := Stand.of_body Bd
  have e0 : s₁.heap = h0 := by rw [← hh, Bd.state]; rfl
  have N0 := Fr.nil n0
  obtain ⟨F, hF⟩ : ∃ F : State → Prop, F = own_Fin p e below s ({ frames := 0, cells := 0, slots := 0, locals := 0 } : Room).cells ({ frames := 0, cells := 0, slots := 0, locals := 0 } : Room).slots (fun v h L => Q8 Z o0 cc oo h0 n0 v h L) := ⟨_, rfl⟩
  have bk : ∀ {A B : State}, (∀ t, Steps p.tables e below B t → Steps p.tables e below A t) → F B → F A := by
    intro A B h k
    rw [hF] at k ⊢
    exact own_back h k
  suffices hgo : F (s₁.setTop (mkF m 0 #[.val (.ref o0)] [])) by
    have hgo' := bk (fun t k => castTop (T := s₁) (ef_8 m o0) k) hgo
    rw [hF] at hgo'
    exact hgo'
  show F (s₁.setTop (mkF m 0 #[.val (.ref o0)] []))
  refine bk (fun t k => XS.aloadN X0.here hx rfl (hb hby d8_0) rfl rfl k) ?_
  show F (s₁.setTop (mkF m 1 #[.val (.ref o0)] [(.ref o0)]))
  obtain ⟨T1, X1, e1, st1⟩ := getF X0 hx hZ hown (host := "") (Or.inl (hw _ (List.mem_of_getElem? (i := 16) rfl))) Via.refl e0 F_o (g := (mkF m 1 #[.val (.ref o0)] [(.ref o0)])) rfl rfl (hb hby d8_1)
  refine bk (fun t k => st1 t k) ?_
  show F (T1.setTop (mkF m 4 #[.val (.ref o0)] [(.long oo)]))
  rw [hF]
  refine own_retJ X1 hx Bd.notSynchronized Bd.returns (hb hby d8_4) (by decide) (by decide) ?_
  rw [e1]
  exact ⟨rfl, N0, rfl⟩
theorem pd0___Z : parseMethodDescriptor "()Z" = some ⟨[], some .boolean⟩ := by decide +kernel
theorem pd0___J : parseMethodDescriptor "()J" = some ⟨[], some .long⟩ := by decide +kernel
theorem pd0__JJ_J : parseMethodDescriptor "(JJ)J" = some ⟨[.long, .long], some .long⟩ := by decide +kernel
theorem pd0__IJ_J : parseMethodDescriptor "(IJ)J" = some ⟨[.int, .long], some .long⟩ := by decide +kernel
theorem pd0__JJ_V : parseMethodDescriptor "(JJ)V" = some ⟨[.long, .long], none⟩ := by decide +kernel
theorem pn_0 : plainName "com/example/culljoin/culljoin/model/LimitKeepsFirstRowPinLaw" = true := by first | (simp [plainName, overriddenIn]; done) | decide +kernel
theorem ef_0 (m : MethodId) (x0 : Int32) (x1 : Int64) (x2 : Int64) : entryFrame m #[(.int x0), (.long x1), (.long x2)] maxLocals = mkF m 0 #[.val (.int x0), .val (.long x1), .second, .val (.long x2), .second, .unset, .unset, .unset, .unset, .unset, .unset, .unset, .unset, .unset, .unset] [] := by first | (simp [entryFrame, mkF, argsToLocals, Value.category, maxLocals]; done) | rfl
def Q0 (Z : State) (p0 : Int32) (q1 : Int64) (q2 : Int64) (h0 : Heap) (n0 : Nat) (v : Option Value) (h : Heap) (L : List Loc) : Prop := v = some (.int (1 : Int32)) ∧ Fr n0 L
set_option maxRecDepth 65536 in
set_option maxHeartbeats 40000000 in
theorem rm0 (l : Launch) (Z : State) (a0 : Array Value) (hw : ∀ d ∈ tables_1, d.before a0 Z = true) (ws : List Jvm.Cond) (p0 : Int32) (q1 : Int64) (q2 : Int64) (h0 : Heap) (n0 : Nat) (Z0 : n0 ≤ h0.size) :
    MetFree l x (head1 (Jvm.Cond.code x code maxLocals ret :: ws) room_1) (fun a U => a = #[(.int p0), (.long q1), (.long q2)] ∧ Z.Warmed39 U.vm ∧ U.heap = h0) (fun _ _ _ _ _ => True) (fun _ U o U' => ∃ v L, o = .returned v ∧ Q0 Z p0 q1 q2 h0 n0 v U'.heap L ∧ FrameEnd U o U' L room_1.cells room_1.slots) := by
  refine MetFree.of_bodySF (plainFor_of_name pn_0) hisR ?_
  intro p e s m args below meth c s₁ Bd hml0 hP hK
  obtain ⟨rfl, hZ, hh⟩ := hP
  have hx := Bd.exec
  have hby := Bd.bytes
  have hml : c.maxLocals = 15 := hml0
  have hown : s.vm.findClass "com/example/culljoin/culljoin/model/LimitKeepsFirstRowPinLaw" = some m.cls := findClass_of_methodNamed Bd.named
  have hnm := (name_of_methodNamed Bd.named Bd.method).1
  have X0 : Stand p l e room_1 s m #[(.int p0), (.long q1), (.long q2)] below meth c s₁ [] 0 0 := Stand.of_body Bd
  have e0 : s₁.heap = h0 := by rw [← hh, Bd.state]; rfl
  have N0 := Fr.nil n0
  obtain ⟨F, hF⟩ : ∃ F : State → Prop, F = own_Fin p e below s room_1.cells room_1.slots (fun v h L => Q0 Z p0 q1 q2 h0 n0 v h L) := ⟨_, rfl⟩
  have bk : ∀ {A B : State}, (∀ t, Steps p.tables e below B t → Steps p.tables e below A t) → F B → F A := by
    intro A B h k
    rw [hF] at k ⊢
    exact own_back h k
  suffices hgo : F (s₁.setTop (mkF m 0 #[.val (.int p0), .val (.long q1), .second, .val (.long q2), .second, .unset, .unset, .unset, .unset, .unset, .unset, .unset, .unset, .unset, .unset] [])) by
    have hgo' := bk (fun t k => castTop (T := s₁) (ef_0 m p0 q1 q2) k) hgo
    rw [hF] at hgo'
    exact hgo'
  have w_0 := hw _ (List.mem_of_getElem? (i := 0) rfl)
  have w_1 := hw _ (List.mem_of_getElem? (i := 1) rfl)
  have w_2 := hw _ (List.mem_of_getElem? (i := 2) rfl)
  have w_3 := hw _ (List.mem_of_getElem? (i := 3) rfl)
  have w_5 := hw _ (List.mem_of_getElem? (i := 5) rfl)
  have w_6 := hw _ (List.mem_of_getElem? (i := 6) rfl)
  have w_7 := hw _ (List.mem_of_getElem? (i := 7) rfl)
  have w_8 := hw _ (List.mem_of_getElem? (i := 8) rfl)
  have w_9 := hw _ (List.mem_of_getElem? (i := 9) rfl)
  have w_10 := hw _ (List.mem_of_getElem? (i := 10) rfl)
  have w_15 := hw _ (List.mem_of_getElem? (i := 15) rfl)
  have w_17 := hw _ (List.mem_of_getElem? (i := 17) rfl)
  have w_18 := hw _ (List.mem_of_getElem? (i := 18) rfl)
  have w_19 := hw _ (List.mem_of_getElem? (i := 19) rfl)
  have w_20 := hw _ (List.mem_of_getElem? (i := 20) rfl)
  have w_21 := hw _ (List.mem_of_getElem? (i := 21) rfl)
  have w_22 := hw _ (List.mem_of_getElem? (i := 22) rfl)
  have w_23 := hw _ (List.mem_of_getElem? (i := 23) rfl)
  have w_24 := hw _ (List.mem_of_getElem? (i := 24) rfl)
  have w_25 := hw _ (List.mem_of_getElem? (i := 25) rfl)
  have w_26 := hw _ (List.mem_of_getElem? (i := 26) rfl)
  have w_27 := hw _ (List.mem_of_getElem? (i := 27) rfl)
  have w_28 := hw _ (List.mem_of_getElem? (i := 28) rfl)
  have w_29 := hw _ (List.mem_of_getElem? (i := 29) rfl)
  have w_30 := hw _ (List.mem_of_getElem? (i := 30) rfl)
  have w_31 := hw _ (List.mem_of_getElem? (i := 31) rfl)
  have w_32 := hw _ (List.mem_of_getElem? (i := 32) rfl)
  have w_33 := hw _ (List.mem_of_getElem? (i := 33) rfl)
  have w_34 := hw _ (List.mem_of_getElem? (i := 34) rfl)
  have w_35 := hw _ (List.mem_of_getElem? (i := 35) rfl)
  have w_36 := hw _ (List.mem_of_getElem? (i := 36) rfl)
  have w_37 := hw _ (List.mem_of_getElem? (i := 37) rfl)
  have w_38 := hw _ (List.mem_of_getElem? (i := 38) rfl)
  have w_39 := hw _ (List.mem_of_getElem? (i := 39) rfl)
  have J84 : ∀ (TJ : State) (LJ : List Loc) (hJ : Heap) (XJ : Stand p l e room_1 s m #[(.int p0), (.long q1), (.long q2)] below meth c TJ LJ 1 2) (eJ : TJ.heap = hJ) (NJ : Fr n0 LJ) (cc : Int64) (oo : Int64) (lim : Addr) (jZ : n0 ≤ hJ.size) (jE : Exa Z hJ lim "com/example/culljoin/culljoin/model/Limit") (jC : Fld Z hJ lim "com/example/culljoin/culljoin/model/Limit" "count" "J" (.long cc)) (jO : Fld Z hJ lim "com/example/culljoin/culljoin/model/Limit" "offset" "J" (.long oo)) (hcc : ¬ cc < (0 : Int64)) (hoo : ¬ oo < (0 : Int64)) (b10 : Int32) (b : Int32) (hb10 : b10 = if (0 : Int64) < oo then 0 else if ((0 : Int64) - oo) < cc then 1 else 0) (hb13 : b = if own_min cc (own_max (0 : Int64) ((1 : Int64) - oo)) = (1 : Int64) then 1 else 0), F (TJ.setTop (mkF m 84 #[.val (.int p0), .val (.long q1), .second, .val (.long q2), .second, .val (.long cc), .second, .val (.long oo), .second, .val (.ref lim), .val (.int b10), .val (.long (own_min cc (own_max (0 : Int64) ((1 : Int64) - oo)))), .second, .unset, .unset] [(.int b)])) := by
    intro TJ LJ hJ XJ eJ NJ cc oo lim jZ jE jC jO hcc hoo b10 b hb10 hb13
    show F (TJ.setTop (mkF m 84 #[.val (.int p0), .val (.long q1), .second, .val (.long q2), .second, .val (.long cc), .second, .val (.long oo), .second, .val (.ref lim), .val (.int b10), .val (.long (own_min cc (own_max (0 : Int64) ((1 : Int64) - oo)))), .second, .unset, .unset] [(.int b)]))
    refine bk (fun t k => XS.istore XJ.here hx rfl (hb hby at_84) rfl (l' := #[.val (.int p0), .val (.long q1), .second, .val (.long q2), .second, .val (.long cc), .second, .val (.long oo), .second, .val (.ref lim), .val (.int b10), .val (.long (own_min cc (own_max (0 : Int64) ((1 : Int64) - oo)))), .second, .val (.int b), .unset]) rfl k) ?_
    show F (TJ.setTop (mkF m 86 #[.val (.int p0), .val (.long q1), .second, .val (.long q2), .second, .val (.long cc), .second, .val (.long oo), .second, .val (.ref lim), .val (.int b10), .val (.long (own_min cc (own_max (0 : Int64) ((1 : Int64) - oo)))), .second, .val (.int b), .unset] []))
    refine bk (fun t k => XS.aload XJ.here hx rfl (hb hby at_86) rfl rfl k) ?_
    show F (TJ.setTop (mkF m 88 #[.val (.int p0), .val (.long q1), .second, .val (.long q2), .second, .val (.long cc), .second, .val (.long oo), .second, .val (.ref lim), .val (.int b10), .val (.long (own_min cc (own_max (0 : Int64) ((1 : Int64) - oo)))), .second, .val (.int b), .unset] [(.ref lim)]))
    obtain ⟨cq1, kq1, q1a, q1b, q1c⟩ := isOf hZ eJ (jE)
    obtain ⟨_, _, ⟨T1, L1, k1, n1⟩, -, X1, ⟨Lc1, hQ1, l1, y1, z1⟩, st1⟩ := XJ.virtualBack hx (y := (⟨"com/example/culljoin/culljoin/model/Limit", "keepsFirstRow", "()Z"⟩ : MethodName)) (z := (⟨"com/example/culljoin/culljoin/model/Limit", "keepsFirstRow", "()Z"⟩ : MethodName)) hown (mvT hZ w_25) (mvT hZ w_26) (notFace_of_selects (args := #[]) (mvT hZ w_28)) (mvT hZ w_28) (mvT hZ w_27) (by decide) (backOf (W := 0) (rm6 l Z a0 hw [] lim cc oo hJ n0 jZ jC jO) hZ w_29 w_7 (by decide) (by decide)) q1a q1c (g := (mkF m 88 #[.val (.int p0), .val (.long q1), .second, .val (.long q2), .second, .val (.long cc), .second, .val (.long oo), .second, .val (.ref lim), .val (.int b10), .val (.long (own_min cc (own_max (0 : Int64) ((1 : Int64) - oo)))), .second, .val (.int b), .unset] [(.ref lim)])) rfl (by rw [hml]; rfl) (Steps.refl _) (argsL := []) (rest := []) (lenOf pd0___Z rfl) rfl (by show 2 * 0 + _ ≤ _; exact Nat.le_of_eq rfl) (hb hby at_88) (fun _ _ => ⟨rfl, eJ, (by decide : 1 + 0 ≤ _), (by decide : 2 + 0 ≤ _)⟩)
    dsimp only [Pt.U, Pt.locs, Pt.cells, Pt.slots] at X1 l1 y1 z1 st1 hQ1
    subst l1 y1 z1
    obtain ⟨rfl, N1q, e1⟩ := hQ1
    have N1 := Fr.app NJ N1q
    refine bk (fun t k => st1.trans k) ?_
    show F (T1.setTop (mkF m 91 #[.val (.int p0), .val (.long q1), .second, .val (.long q2), .second, .val (.long cc), .second, .val (.long oo), .second, .val (.ref lim), .val (.int b10), .val (.long (own_min cc (own_max (0 : Int64) ((1 : Int64) - oo)))), .second, .val (.int b), .unset] [(.int (own_keeps cc oo))]))
    refine bk (fun t k => XS.istore X1.here hx rfl (hb hby at_91) rfl (l' := #[.val (.int p0), .val (.long q1), .second, .val (.long q2), .second, .val (.long cc), .second, .val (.long oo), .second, .val (.ref lim), .val (.int b10), .val (.long (own_min cc (own_max (0 : Int64) ((1 : Int64) - oo)))), .second, .val (.int b), .val (.int (own_keeps cc oo))]) rfl k) ?_
    show F (T1.setTop (mkF m 93 #[.val (.int p0), .val (.long q1), .second, .val (.long q2), .second, .val (.long cc), .second, .val (.long oo), .second, .val (.ref lim), .val (.int b10), .val (.long (own_min cc (own_max (0 : Int64) ((1 : Int64) - oo)))), .second, .val (.int b), .val (.int (own_keeps cc oo))] []))
    refine bk (fun t k => XS.iload X1.here hx rfl (hb hby at_93) rfl k) ?_
    show F (T1.setTop (mkF m 95 #[.val (.int p0), .val (.long q1), .second, .val (.long q2), .second, .val (.long cc), .second, .val (.long oo), .second, .val (.ref lim), .val (.int b10), .val (.long (own_min cc (own_max (0 : Int64) ((1 : Int64) - oo)))), .second, .val (.int b), .val (.int (own_keeps cc oo))] [(.int (own_keeps cc oo))]))
    refine bk (fun t k => XS.iload X1.here hx rfl (hb hby at_95) rfl k) ?_
    show F (T1.setTop (mkF m 97 #[.val (.int p0), .val (.long q1), .second, .val (.long q2), .second, .val (.long cc), .second, .val (.long oo), .second, .val (.ref lim), .val (.int b10), .val (.long (own_min cc (own_max (0 : Int64) ((1 : Int64) - oo)))), .second, .val (.int b), .val (.int (own_keeps cc oo))] [(.int b10), (.int (own_keeps cc oo))]))
    refine bk (fun t k => XS.icmpNo X1.here hx rfl (hb hby at_97) rfl (teq (own_win hcc hoo _ hb10)).2 k) ?_
    show F (T1.setTop (mkF m 100 #[.val (.int p0), .val (.long q1), .second, .val (.long q2), .second, .val (.long cc), .second, .val (.long oo), .second, .val (.ref lim), .val (.int b10), .val (.long (own_min cc (own_max (0 : Int64) ((1 : Int64) - oo)))), .second, .val (.int b), .val (.int (own_keeps cc oo))] []))
    refine bk (fun t k => XS.iload X1.here hx rfl (hb hby at_100) rfl k) ?_
    show F (T1.setTop (mkF m 102 #[.val (.int p0), .val (.long q1), .second, .val (.long q2), .second, .val (.long cc), .second, .val (.long oo), .second, .val (.ref lim), .val (.int b10), .val (.long (own_min cc (own_max (0 : Int64) ((1 : Int64) - oo)))), .second, .val (.int b), .val (.int (own_keeps cc oo))] [(.int (own_keeps cc oo))]))
    refine bk (fun t k => XS.iload X1.here hx rfl (hb hby at_102) rfl k) ?_
    show F (T1.setTop (mkF m 104 #[.val (.int p0), .val (.long q1), .second, .val (.long q2), .second, .val (.long cc), .second, .val (.long oo), .second, .val (.ref lim), .val (.int b10), .val (.long (own_min cc (own_max (0 : Int64) ((1 : Int64) - oo)))), .second, .val (.int b), .val (.int (own_keeps cc oo))] [(.int b), (.int (own_keeps cc oo))]))
    refine bk (fun t k => XS.icmpNo X1.here hx rfl (hb hby at_104) rfl (teq (own_one hcc hoo _ hb13)).2 k) ?_
    show F (T1.setTop (mkF m 107 #[.val (.int p0), .val (.long q1), .second, .val (.long q2), .second, .val (.long cc), .second, .val (.long oo), .second, .val (.ref lim), .val (.int b10), .val (.long (own_min cc (own_max (0 : Int64) ((1 : Int64) - oo)))), .second, .val (.int b), .val (.int (own_keeps cc oo))] []))
    refine bk (fun t k => XS.aload X1.here hx rfl (hb hby at_107) rfl rfl k) ?_
    show F (T1.setTop (mkF m 109 #[.val (.int p0), .val (.long q1), .second, .val (.long q2), .second, .val (.long cc), .second, .val (.long oo), .second, .val (.ref lim), .val (.int b10), .val (.long (own_min cc (own_max (0 : Int64) ((1 : Int64) - oo)))), .second, .val (.int b), .val (.int (own_keeps cc oo))] [(.ref lim)]))
    obtain ⟨cq2, kq2, q2a, q2b, q2c⟩ := isOf hZ e1 (jE)
    obtain ⟨_, _, ⟨T2, L2, k2, n2⟩, -, X2, ⟨Lc2, hQ2, l2, y2, z2⟩, st2⟩ := X1.virtualBack hx (y := (⟨"com/example/culljoin/culljoin/model/Limit", "count", "()J"⟩ : MethodName)) (z := (⟨"com/example/culljoin/culljoin/model/Limit", "count", "()J"⟩ : MethodName)) hown (mvT hZ w_30) (mvT hZ w_31) (notFace_of_selects (args := #[]) (mvT hZ w_33)) (mvT hZ w_33) (mvT hZ w_32) (by decide) (backOf (W := 0) (rm7 l Z a0 hw [] lim cc oo hJ n0 jZ jC jO) hZ w_34 w_7 (by decide) (by decide)) q2a q2c (g := (mkF m 109 #[.val (.int p0), .val (.long q1), .second, .val (.long q2), .second, .val (.long cc), .second, .val (.long oo), .second, .val (.ref lim), .val (.int b10), .val (.long (own_min cc (own_max (0 : Int64) ((1 : Int64) - oo)))), .second, .val (.int b), .val (.int (own_keeps cc oo))] [(.ref lim)])) rfl (by rw [hml]; rfl) (Steps.refl _) (argsL := []) (rest := []) (lenOf pd0___J rfl) rfl (by show 2 * 0 + _ ≤ _; exact Nat.le_of_eq rfl) (hb hby at_109) (fun _ _ => ⟨rfl, e1, (by decide : 1 + 0 ≤ _), (by decide : 2 + 0 ≤ _)⟩)
    dsimp only [Pt.U, Pt.locs, Pt.cells, Pt.slots] at X2 l2 y2 z2 st2 hQ2
    subst l2 y2 z2
    obtain ⟨rfl, N2q, e2⟩ := hQ2
    have N2 := Fr.app N1 N2q
    refine bk (fun t k => st2.trans k) ?_
    show F (T2.setTop (mkF m 112 #[.val (.int p0), .val (.long q1), .second, .val (.long q2), .second, .val (.long cc), .second, .val (.long oo), .second, .val (.ref lim), .val (.int b10), .val (.long (own_min cc (own_max (0 : Int64) ((1 : Int64) - oo)))), .second, .val (.int b), .val (.int (own_keeps cc oo))] [(.long cc)]))
    refine bk (fun t k => XS.lload X2.here hx rfl (hb hby at_112) rfl k) ?_
    show F (T2.setTop (mkF m 114 #[.val (.int p0), .val (.long q1), .second, .val (.long q2), .second, .val (.long cc), .second, .val (.long oo), .second, .val (.ref lim), .val (.int b10), .val (.long (own_min cc (own_max (0 : Int64) ((1 : Int64) - oo)))), .second, .val (.int b), .val (.int (own_keeps cc oo))] [(.long cc), (.long cc)]))
    refine bk (fun t k => XS.lcmp X2.here hx rfl (hb hby at_114) rfl k) ?_
    show F (T2.setTop (mkF m 115 #[.val (.int p0), .val (.long q1), .second, .val (.long q2), .second, .val (.long cc), .second, .val (.long oo), .second, .val (.ref lim), .val (.int b10), .val (.long (own_min cc (own_max (0 : Int64) ((1 : Int64) - oo)))), .second, .val (.int b), .val (.int (own_keeps cc oo))] [(.int (lcmpW cc cc))]))
    refine bk (fun t k => XS.ifNo X2.here hx rfl (hb hby at_115) rfl ((if0 _ _).trans (teq ((lw_eq _ _).mpr (rfl : cc = cc))).2) k) ?_
    show F (T2.setTop (mkF m 118 #[.val (.int p0), .val (.long q1), .second, .val (.long q2), .second, .val (.long cc), .second, .val (.long oo), .second, .val (.ref lim), .val (.int b10), .val (.long (own_min cc (own_max (0 : Int64) ((1 : Int64) - oo)))), .second, .val (.int b), .val (.int (own_keeps cc oo))] []))
    refine bk (fun t k => XS.aload X2.here hx rfl (hb hby at_118) rfl rfl k) ?_
    show F (T2.setTop (mkF m 120 #[.val (.int p0), .val (.long q1), .second, .val (.long q2), .second, .val (.long cc), .second, .val (.long oo), .second, .val (.ref lim), .val (.int b10), .val (.long (own_min cc (own_max (0 : Int64) ((1 : Int64) - oo)))), .second, .val (.int b), .val (.int (own_keeps cc oo))] [(.ref lim)]))
    obtain ⟨cq3, kq3, q3a, q3b, q3c⟩ := isOf hZ e2 (jE)
    obtain ⟨_, _, ⟨T3, L3, k3, n3⟩, -, X3, ⟨Lc3, hQ3, l3, y3, z3⟩, st3⟩ := X2.virtualBack hx (y := (⟨"com/example/culljoin/culljoin/model/Limit", "offset", "()J"⟩ : MethodName)) (z := (⟨"com/example/culljoin/culljoin/model/Limit", "offset", "()J"⟩ : MethodName)) hown (mvT hZ w_35) (mvT hZ w_36) (notFace_of_selects (args := #[]) (mvT hZ w_38)) (mvT hZ w_38) (mvT hZ w_37) (by decide) (backOf (W := 0) (rm8 l Z a0 hw [] lim cc oo hJ n0 jZ jC jO) hZ w_39 w_7 (by decide) (by decide)) q3a q3c (g := (mkF m 120 #[.val (.int p0), .val (.long q1), .second, .val (.long q2), .second, .val (.long cc), .second, .val (.long oo), .second, .val (.ref lim), .val (.int b10), .val (.long (own_min cc (own_max (0 : Int64) ((1 : Int64) - oo)))), .second, .val (.int b), .val (.int (own_keeps cc oo))] [(.ref lim)])) rfl (by rw [hml]; rfl) (Steps.refl _) (argsL := []) (rest := []) (lenOf pd0___J rfl) rfl (by show 2 * 0 + _ ≤ _; exact Nat.le_of_eq rfl) (hb hby at_120) (fun _ _ => ⟨rfl, e2, (by decide : 1 + 0 ≤ _), (by decide : 2 + 0 ≤ _)⟩)
    dsimp only [Pt.U, Pt.locs, Pt.cells, Pt.slots] at X3 l3 y3 z3 st3 hQ3
    subst l3 y3 z3
    obtain ⟨rfl, N3q, e3⟩ := hQ3
    have N3 := Fr.app N2 N3q
    refine bk (fun t k => st3.trans k) ?_
    show F (T3.setTop (mkF m 123 #[.val (.int p0), .val (.long q1), .second, .val (.long q2), .second, .val (.long cc), .second, .val (.long oo), .second, .val (.ref lim), .val (.int b10), .val (.long (own_min cc (own_max (0 : Int64) ((1 : Int64) - oo)))), .second, .val (.int b), .val (.int (own_keeps cc oo))] [(.long oo)]))
    refine bk (fun t k => XS.lload X3.here hx rfl (hb hby at_123) rfl k) ?_
    show F (T3.setTop (mkF m 125 #[.val (.int p0), .val (.long q1), .second, .val (.long q2), .second, .val (.long cc), .second, .val (.long oo), .second, .val (.ref lim), .val (.int b10), .val (.long (own_min cc (own_max (0 : Int64) ((1 : Int64) - oo)))), .second, .val (.int b), .val (.int (own_keeps cc oo))] [(.long oo), (.long oo)]))
    refine bk (fun t k => XS.lcmp X3.here hx rfl (hb hby at_125) rfl k) ?_
    show F (T3.setTop (mkF m 126 #[.val (.int p0), .val (.long q1), .second, .val (.long q2), .second, .val (.long cc), .second, .val (.long oo), .second, .val (.ref lim), .val (.int b10), .val (.long (own_min cc (own_max (0 : Int64) ((1 : Int64) - oo)))), .second, .val (.int b), .val (.int (own_keeps cc oo))] [(.int (lcmpW oo oo))]))
    refine bk (fun t k => XS.ifNo X3.here hx rfl (hb hby at_126) rfl ((if0 _ _).trans (teq ((lw_eq _ _).mpr (rfl : oo = oo))).2) k) ?_
    show F (T3.setTop (mkF m 129 #[.val (.int p0), .val (.long q1), .second, .val (.long q2), .second, .val (.long cc), .second, .val (.long oo), .second, .val (.ref lim), .val (.int b10), .val (.long (own_min cc (own_max (0 : Int64) ((1 : Int64) - oo)))), .second, .val (.int b), .val (.int (own_keeps cc oo))] []))
    refine bk (fun t k => XS.iconst X3.here hx rfl (hb hby at_129) k) ?_
    show F (T3.setTop (mkF m 130 #[.val (.int p0), .val (.long q1), .second, .val (.long q2), .second, .val (.long cc), .second, .val (.long oo), .second, .val (.ref lim), .val (.int b10), .val (.long (own_min cc (own_max (0 : Int64) ((1 : Int64) - oo)))), .second, .val (.int b), .val (.int (own_keeps cc oo))] [(.int (1 : Int32))]))
    refine bk (fun t k => XS.goto X3.here hx rfl (pc0 := 130) (pc' := 134) rfl (hb hby at_130) (by decide) (by decide) k) ?_
    show F (T3.setTop (mkF m 134 #[.val (.int p0), .val (.long q1), .second, .val (.long q2), .second, .val (.long cc), .second, .val (.long oo), .second, .val (.ref lim), .val (.int b10), .val (.long (own_min cc (own_max (0 : Int64) ((1 : Int64) - oo)))), .second, .val (.int b), .val (.int (own_keeps cc oo))] [(.int (1 : Int32))]))
    rw [hF]
    refine own_retZ X3 hx Bd.notSynchronized Bd.returns (hb hby at_134) (by decide) (by decide) ?_
    rw [e3]
    exact ⟨rfl, N3⟩
  have J55 : ∀ (TJ : State) (LJ : List Loc) (hJ : Heap) (XJ : Stand p l e room_1 s m #[(.int p0), (.long q1), (.long q2)] below meth c TJ LJ 1 2) (eJ : TJ.heap = hJ) (NJ : Fr n0 LJ) (cc : Int64) (oo : Int64) (lim : Addr) (jZ : n0 ≤ hJ.size) (jE : Exa Z hJ lim "com/example/culljoin/culljoin/model/Limit") (jC : Fld Z hJ lim "com/example/culljoin/culljoin/model/Limit" "count" "J" (.long cc)) (jO : Fld Z hJ lim "com/example/culljoin/culljoin/model/Limit" "offset" "J" (.long oo)) (hcc : ¬ cc < (0 : Int64)) (hoo : ¬ oo < (0 : Int64)) (b10 : Int32) (hb10 : b10 = if (0 : Int64) < oo then 0 else if ((0 : Int64) - oo) < cc then 1 else 0), F (TJ.setTop (mkF m 55 #[.val (.int p0), .val (.long q1), .second, .val (.long q2), .second, .val (.long cc), .second, .val (.long oo), .second, .val (.ref lim), .unset, .unset, .unset, .unset, .unset] [(.int b10)])) := by
    intro TJ LJ hJ XJ eJ NJ cc oo lim jZ jE jC jO hcc hoo b10 hb10
    show F (TJ.setTop (mkF m 55 #[.val (.int p0), .val (.long q1), .second, .val (.long q2), .second, .val (.long cc), .second, .val (.long oo), .second, .val (.ref lim), .unset, .unset, .unset, .unset, .unset] [(.int b10)]))
    refine bk (fun t k => XS.istore XJ.here hx rfl (hb hby at_55) rfl (l' := #[.val (.int p0), .val (.long q1), .second, .val (.long q2), .second, .val (.long cc), .second, .val (.long oo), .second, .val (.ref lim), .val (.int b10), .unset, .unset, .unset, .unset]) rfl k) ?_
    show F (TJ.setTop (mkF m 57 #[.val (.int p0), .val (.long q1), .second, .val (.long q2), .second, .val (.long cc), .second, .val (.long oo), .second, .val (.ref lim), .val (.int b10), .unset, .unset, .unset, .unset] []))
    refine bk (fun t k => XS.lload XJ.here hx rfl (hb hby at_57) rfl k) ?_
    show F (TJ.setTop (mkF m 59 #[.val (.int p0), .val (.long q1), .second, .val (.long q2), .second, .val (.long cc), .second, .val (.long oo), .second, .val (.ref lim), .val (.int b10), .unset, .unset, .unset, .unset] [(.long cc)]))
    refine bk (fun t k => XS.lconst XJ.here hx rfl (hb hby at_59) k) ?_
    show F (TJ.setTop (mkF m 60 #[.val (.int p0), .val (.long q1), .second, .val (.long q2), .second, .val (.long cc), .second, .val (.long oo), .second, .val (.ref lim), .val (.int b10), .unset, .unset, .unset, .unset] [(.long (0 : Int64)), (.long cc)]))
    refine bk (fun t k => XS.lconst XJ.here hx rfl (hb hby at_60) k) ?_
    show F (TJ.setTop (mkF m 61 #[.val (.int p0), .val (.long q1), .second, .val (.long q2), .second, .val (.long cc), .second, .val (.long oo), .second, .val (.ref lim), .val (.int b10), .unset, .unset, .unset, .unset] [(.long (1 : Int64)), (.long (0 : Int64)), (.long cc)]))
    refine bk (fun t k => XS.lload XJ.here hx rfl (hb hby at_61) rfl k) ?_
    show F (TJ.setTop (mkF m 63 #[.val (.int p0), .val (.long q1), .second, .val (.long q2), .second, .val (.long cc), .second, .val (.long oo), .second, .val (.ref lim), .val (.int b10), .unset, .unset, .unset, .unset] [(.long oo), (.long (1 : Int64)), (.long (0 : Int64)), (.long cc)]))
    refine bk (fun t k => XS.lsub XJ.here hx rfl (hb hby at_63) rfl k) ?_
    show F (TJ.setTop (mkF m 64 #[.val (.int p0), .val (.long q1), .second, .val (.long q2), .second, .val (.long cc), .second, .val (.long oo), .second, .val (.ref lim), .val (.int b10), .unset, .unset, .unset, .unset] [(.long ((1 : Int64) - oo)), (.long (0 : Int64)), (.long cc)]))
    obtain ⟨_, _, ⟨T4, L4, k4, n4⟩, -, X4, ⟨Lc4, hQ4, l4, y4, z4⟩, st4⟩ := Jvm.LawKit.callS XJ hx (y := (⟨"java/lang/Math", "max", "(JJ)J"⟩ : MethodName)) hown (mvT hZ w_18) (mvT hZ w_19) (mvT hZ w_20) (mvT hZ w_21) (by decide) (backOf (W := 2) (rm4 l Z a0 hw [] (0 : Int64) ((1 : Int64) - oo) hJ n0 jZ) hZ w_21 w_20 (by decide) (by decide)) (g := (mkF m 64 #[.val (.int p0), .val (.long q1), .second, .val (.long q2), .second, .val (.long cc), .second, .val (.long oo), .second, .val (.ref lim), .val (.int b10), .unset, .unset, .unset, .unset] [(.long ((1 : Int64) - oo)), (.long (0 : Int64)), (.long cc)])) rfl (by rw [hml]; rfl) (argsL := [(.long (0 : Int64)), (.long ((1 : Int64) - oo))]) (rest := [(.long cc)]) (lenOf pd0__JJ_J rfl) rfl (by show 2 * 0 + _ ≤ _; exact Nat.le_of_eq rfl) (hb hby at_64) (fun _ _ => ⟨rfl, eJ, (by decide : 1 + 0 ≤ _), (by decide : 2 + 0 ≤ _)⟩)
    dsimp only [Pt.U, Pt.locs, Pt.cells, Pt.slots] at X4 l4 y4 z4 st4 hQ4
    subst l4 y4 z4
    obtain ⟨rfl, N4q, e4⟩ := hQ4
    have N4 := Fr.app NJ N4q
    refine bk (fun t k => st4 t k) ?_
    show F (T4.setTop (mkF m 67 #[.val (.int p0), .val (.long q1), .second, .val (.long q2), .second, .val (.long cc), .second, .val (.long oo), .second, .val (.ref lim), .val (.int b10), .unset, .unset, .unset, .unset] [(.long (own_max (0 : Int64) ((1 : Int64) - oo))), (.long cc)]))
    obtain ⟨_, _, ⟨T5, L5, k5, n5⟩, -, X5, ⟨Lc5, hQ5, l5, y5, z5⟩, st5⟩ := Jvm.LawKit.callS X4 hx (y := (⟨"java/lang/Math", "min", "(JJ)J"⟩ : MethodName)) hown (mvT hZ w_22) (mvT hZ w_23) (mvT hZ w_20) (mvT hZ w_24) (by decide) (backOf (W := 0) (rm5 l Z a0 hw [] cc (own_max (0 : Int64) ((1 : Int64) - oo)) hJ n0 jZ) hZ w_24 w_20 (by decide) (by decide)) (g := (mkF m 67 #[.val (.int p0), .val (.long q1), .second, .val (.long q2), .second, .val (.long cc), .second, .val (.long oo), .second, .val (.ref lim), .val (.int b10), .unset, .unset, .unset, .unset] [(.long (own_max (0 : Int64) ((1 : Int64) - oo))), (.long cc)])) rfl (by rw [hml]; rfl) (argsL := [(.long cc), (.long (own_max (0 : Int64) ((1 : Int64) - oo)))]) (rest := []) (lenOf pd0__JJ_J rfl) rfl (by show 2 * 0 + _ ≤ _; exact Nat.le_of_eq rfl) (hb hby at_67) (fun _ _ => ⟨rfl, e4, (by decide : 1 + 0 ≤ _), (by decide : 2 + 0 ≤ _)⟩)
    dsimp only [Pt.U, Pt.locs, Pt.cells, Pt.slots] at X5 l5 y5 z5 st5 hQ5
    subst l5 y5 z5
    obtain ⟨rfl, N5q, e5⟩ := hQ5
    have N5 := Fr.app N4 N5q
    refine bk (fun t k => st5 t k) ?_
    show F (T5.setTop (mkF m 70 #[.val (.int p0), .val (.long q1), .second, .val (.long q2), .second, .val (.long cc), .second, .val (.long oo), .second, .val (.ref lim), .val (.int b10), .unset, .unset, .unset, .unset] [(.long (own_min cc (own_max (0 : Int64) ((1 : Int64) - oo))))]))
    refine bk (fun t k => XS.lstore X5.here hx rfl (hb hby at_70) rfl (l' := #[.val (.int p0), .val (.long q1), .second, .val (.long q2), .second, .val (.long cc), .second, .val (.long oo), .second, .val (.ref lim), .val (.int b10), .val (.long (own_min cc (own_max (0 : Int64) ((1 : Int64) - oo)))), .second, .unset, .unset]) rfl k) ?_
    show F (T5.setTop (mkF m 72 #[.val (.int p0), .val (.long q1), .second, .val (.long q2), .second, .val (.long cc), .second, .val (.long oo), .second, .val (.ref lim), .val (.int b10), .val (.long (own_min cc (own_max (0 : Int64) ((1 : Int64) - oo)))), .second, .unset, .unset] []))
    refine bk (fun t k => XS.lload X5.here hx rfl (hb hby at_72) rfl k) ?_
    show F (T5.setTop (mkF m 74 #[.val (.int p0), .val (.long q1), .second, .val (.long q2), .second, .val (.long cc), .second, .val (.long oo), .second, .val (.ref lim), .val (.int b10), .val (.long (own_min cc (own_max (0 : Int64) ((1 : Int64) - oo)))), .second, .unset, .unset] [(.long (own_min cc (own_max (0 : Int64) ((1 : Int64) - oo))))]))
    refine bk (fun t k => XS.lconst X5.here hx rfl (hb hby at_74) k) ?_
    show F (T5.setTop (mkF m 75 #[.val (.int p0), .val (.long q1), .second, .val (.long q2), .second, .val (.long cc), .second, .val (.long oo), .second, .val (.ref lim), .val (.int b10), .val (.long (own_min cc (own_max (0 : Int64) ((1 : Int64) - oo)))), .second, .unset, .unset] [(.long (1 : Int64)), (.long (own_min cc (own_max (0 : Int64) ((1 : Int64) - oo))))]))
    refine bk (fun t k => XS.lcmp X5.here hx rfl (hb hby at_75) rfl k) ?_
    show F (T5.setTop (mkF m 76 #[.val (.int p0), .val (.long q1), .second, .val (.long q2), .second, .val (.long cc), .second, .val (.long oo), .second, .val (.ref lim), .val (.int b10), .val (.long (own_min cc (own_max (0 : Int64) ((1 : Int64) - oo)))), .second, .unset, .unset] [(.int (lcmpW (own_min cc (own_max (0 : Int64) ((1 : Int64) - oo))) (1 : Int64)))]))
    by_cases hc76_6 : (own_min cc (own_max (0 : Int64) ((1 : Int64) - oo))) = (1 : Int64)
    · refine bk (fun t k => XS.ifNo X5.here hx rfl (hb hby at_76) rfl ((if0 _ _).trans (teq ((lw_eq _ _).mpr hc76_6)).2) k) ?_
      show F (T5.setTop (mkF m 79 #[.val (.int p0), .val (.long q1), .second, .val (.long q2), .second, .val (.long cc), .second, .val (.long oo), .second, .val (.ref lim), .val (.int b10), .val (.long (own_min cc (own_max (0 : Int64) ((1 : Int64) - oo)))), .second, .unset, .unset] []))
      refine bk (fun t k => XS.iconst X5.here hx rfl (hb hby at_79) k) ?_
      show F (T5.setTop (mkF m 80 #[.val (.int p0), .val (.long q1), .second, .val (.long q2), .second, .val (.long cc), .second, .val (.long oo), .second, .val (.ref lim), .val (.int b10), .val (.long (own_min cc (own_max (0 : Int64) ((1 : Int64) - oo)))), .second, .unset, .unset] [(.int (1 : Int32))]))
      refine bk (fun t k => XS.goto X5.here hx rfl (pc0 := 80) (pc' := 84) rfl (hb hby at_80) (by decide) (by decide) k) ?_
      show F (T5.setTop (mkF m 84 #[.val (.int p0), .val (.long q1), .second, .val (.long q2), .second, .val (.long cc), .second, .val (.long oo), .second, .val (.ref lim), .val (.int b10), .val (.long (own_min cc (own_max (0 : Int64) ((1 : Int64) - oo)))), .second, .unset, .unset] [(.int (1 : Int32))]))
      exact J84 _ _ hJ X5 e5 N5 _ _ _ jZ jE jC jO hcc hoo _ _ hb10 (by rw [if_pos hc76_6])
    · refine bk (fun t k => XS.ifYes X5.here hx rfl (pc0 := 76) (pc' := 83) rfl (hb hby at_76) rfl ((if0 _ _).trans (feq (fun q => hc76_6 ((lw_eq _ _).mp q))).2) (by decide) (by decide) k) ?_
      show F (T5.setTop (mkF m 83 #[.val (.int p0), .val (.long q1), .second, .val (.long q2), .second, .val (.long cc), .second, .val (.long oo), .second, .val (.ref lim), .val (.int b10), .val (.long (own_min cc (own_max (0 : Int64) ((1 : Int64) - oo)))), .second, .unset, .unset] []))
      refine bk (fun t k => XS.iconst X5.here hx rfl (hb hby at_83) k) ?_
      show F (T5.setTop (mkF m 84 #[.val (.int p0), .val (.long q1), .second, .val (.long q2), .second, .val (.long cc), .second, .val (.long oo), .second, .val (.ref lim), .val (.int b10), .val (.long (own_min cc (own_max (0 : Int64) ((1 : Int64) - oo)))), .second, .unset, .unset] [(.int (0 : Int32))]))
      exact J84 _ _ hJ X5 e5 N5 _ _ _ jZ jE jC jO hcc hoo _ _ hb10 (by rw [if_neg hc76_6])
  show F (s₁.setTop (mkF m 0 #[.val (.int p0), .val (.long q1), .second, .val (.long q2), .second, .unset, .unset, .unset, .unset, .unset, .unset, .unset, .unset, .unset, .unset] []))
  refine bk (fun t k => XS.iloadN X0.here hx rfl (hb hby at_0) rfl k) ?_
  show F (s₁.setTop (mkF m 1 #[.val (.int p0), .val (.long q1), .second, .val (.long q2), .second, .unset, .unset, .unset, .unset, .unset, .unset, .unset, .unset, .unset, .unset] [(.int p0)]))
  refine bk (fun t k => XS.iconst X0.here hx rfl (hb hby at_1) k) ?_
  show F (s₁.setTop (mkF m 2 #[.val (.int p0), .val (.long q1), .second, .val (.long q2), .second, .unset, .unset, .unset, .unset, .unset, .unset, .unset, .unset, .unset, .unset] [(.int (3 : Int32)), (.int p0)]))
  refine bk (fun t k => XS.iand X0.here hx rfl (hb hby at_2) rfl k) ?_
  show F (s₁.setTop (mkF m 3 #[.val (.int p0), .val (.long q1), .second, .val (.long q2), .second, .unset, .unset, .unset, .unset, .unset, .unset, .unset, .unset, .unset, .unset] [(.int (p0 &&& (3 : Int32)))]))
  refine bk (fun t k => XS.lloadN X0.here hx rfl (hb hby at_3) rfl k) ?_
  show F (s₁.setTop (mkF m 4 #[.val (.int p0), .val (.long q1), .second, .val (.long q2), .second, .unset, .unset, .unset, .unset, .unset, .unset, .unset, .unset, .unset, .unset] [(.long q1), (.int (p0 &&& (3 : Int32)))]))
  obtain ⟨_, _, ⟨T7, L7, k7, n7⟩, -, X7, ⟨Lc7, hQ7, l7, y7, z7⟩, st7⟩ := Jvm.LawKit.callS X0 hx (y := (⟨"com/example/culljoin/culljoin/model/LimitKeepsFirstRowPinLaw", "pick", "(IJ)J"⟩ : MethodName)) hown (mvT hZ w_0) (mvT hZ w_1) (mvT hZ w_2) (mvT hZ w_3) (by decide) (backOf (W := 0) (rm1 l Z a0 hw [] (p0 &&& (3 : Int32)) q1 h0 n0 Z0) hZ w_3 w_2 (by decide) (by decide)) (g := (mkF m 4 #[.val (.int p0), .val (.long q1), .second, .val (.long q2), .second, .unset, .unset, .unset, .unset, .unset, .unset, .unset, .unset, .unset, .unset] [(.long q1), (.int (p0 &&& (3 : Int32)))])) rfl (by rw [hml]; rfl) (argsL := [(.int (p0 &&& (3 : Int32))), (.long q1)]) (rest := []) (lenOf pd0__IJ_J rfl) rfl (by show 2 * 0 + _ ≤ _; exact Nat.le_of_eq rfl) (hb hby at_4) (fun _ _ => ⟨rfl, e0, (by decide : 0 + 0 ≤ _), (by decide : 0 + 0 ≤ _)⟩)
  dsimp only [Pt.U, Pt.locs, Pt.cells, Pt.slots] at X7 l7 y7 z7 st7 hQ7
  subst l7 y7 z7
  obtain ⟨rfl, N7q, e7⟩ := hQ7
  have N7 := Fr.app N0 N7q
  refine bk (fun t k => st7 t k) ?_
  show F (T7.setTop (mkF m 7 #[.val (.int p0), .val (.long q1), .second, .val (.long q2), .second, .unset, .unset, .unset, .unset, .unset, .unset, .unset, .unset, .unset, .unset] [(.long (own_pick (p0 &&& (3 : Int32)) q1))]))
  refine bk (fun t k => XS.lstore X7.here hx rfl (hb hby at_7) rfl (l' := #[.val (.int p0), .val (.long q1), .second, .val (.long q2), .second, .val (.long (own_pick (p0 &&& (3 : Int32)) q1)), .second, .unset, .unset, .unset, .unset, .unset, .unset, .unset, .unset]) rfl k) ?_
  show F (T7.setTop (mkF m 9 #[.val (.int p0), .val (.long q1), .second, .val (.long q2), .second, .val (.long (own_pick (p0 &&& (3 : Int32)) q1)), .second, .unset, .unset, .unset, .unset, .unset, .unset, .unset, .unset] []))
  refine bk (fun t k => XS.iloadN X7.here hx rfl (hb hby at_9) rfl k) ?_
  show F (T7.setTop (mkF m 10 #[.val (.int p0), .val (.long q1), .second, .val (.long q2), .second, .val (.long (own_pick (p0 &&& (3 : Int32)) q1)), .second, .unset, .unset, .unset, .unset, .unset, .unset, .unset, .unset] [(.int p0)]))
  refine bk (fun t k => XS.iconst X7.here hx rfl (hb hby at_10) k) ?_
  show F (T7.setTop (mkF m 11 #[.val (.int p0), .val (.long q1), .second, .val (.long q2), .second, .val (.long (own_pick (p0 &&& (3 : Int32)) q1)), .second, .unset, .unset, .unset, .unset, .unset, .unset, .unset, .unset] [(.int (2 : Int32)), (.int p0)]))
  refine bk (fun t k => XS.ishr X7.here hx rfl (hb hby at_11) rfl k) ?_
  show F (T7.setTop (mkF m 12 #[.val (.int p0), .val (.long q1), .second, .val (.long q2), .second, .val (.long (own_pick (p0 &&& (3 : Int32)) q1)), .second, .unset, .unset, .unset, .unset, .unset, .unset, .unset, .unset] [(.int (p0 >>> ((2 : Int32) &&& 31)))]))
  refine bk (fun t k => XS.iconst X7.here hx rfl (hb hby at_12) k) ?_
  show F (T7.setTop (mkF m 13 #[.val (.int p0), .val (.long q1), .second, .val (.long q2), .second, .val (.long (own_pick (p0 &&& (3 : Int32)) q1)), .second, .unset, .unset, .unset, .unset, .unset, .unset, .unset, .unset] [(.int (3 : Int32)), (.int (p0 >>> ((2 : Int32) &&& 31)))]))
  refine bk (fun t k => XS.iand X7.here hx rfl (hb hby at_13) rfl k) ?_
  show F (T7.setTop (mkF m 14 #[.val (.int p0), .val (.long q1), .second, .val (.long q2), .second, .val (.long (own_pick (p0 &&& (3 : Int32)) q1)), .second, .unset, .unset, .unset, .unset, .unset, .unset, .unset, .unset] [(.int ((p0 >>> ((2 : Int32) &&& 31)) &&& (3 : Int32)))]))
  refine bk (fun t k => XS.lloadN X7.here hx rfl (hb hby at_14) rfl k) ?_
  show F (T7.setTop (mkF m 15 #[.val (.int p0), .val (.long q1), .second, .val (.long q2), .second, .val (.long (own_pick (p0 &&& (3 : Int32)) q1)), .second, .unset, .unset, .unset, .unset, .unset, .unset, .unset, .unset] [(.long q2), (.int ((p0 >>> ((2 : Int32) &&& 31)) &&& (3 : Int32)))]))
  obtain ⟨_, _, ⟨T8, L8, k8, n8⟩, -, X8, ⟨Lc8, hQ8, l8, y8, z8⟩, st8⟩ := Jvm.LawKit.callS X7 hx (y := (⟨"com/example/culljoin/culljoin/model/LimitKeepsFirstRowPinLaw", "pick", "(IJ)J"⟩ : MethodName)) hown (mvT hZ w_0) (mvT hZ w_1) (mvT hZ w_2) (mvT hZ w_3) (by decide) (backOf (W := 0) (rm1 l Z a0 hw [] ((p0 >>> ((2 : Int32) &&& 31)) &&& (3 : Int32)) q2 h0 n0 Z0) hZ w_3 w_2 (by decide) (by decide)) (g := (mkF m 15 #[.val (.int p0), .val (.long q1), .second, .val (.long q2), .second, .val (.long (own_pick (p0 &&& (3 : Int32)) q1)), .second, .unset, .unset, .unset, .unset, .unset, .unset, .unset, .unset] [(.long q2), (.int ((p0 >>> ((2 : Int32) &&& 31)) &&& (3 : Int32)))])) rfl (by rw [hml]; rfl) (argsL := [(.int ((p0 >>> ((2 : Int32) &&& 31)) &&& (3 : Int32))), (.long q2)]) (rest := []) (lenOf pd0__IJ_J rfl) rfl (by show 2 * 0 + _ ≤ _; exact Nat.le_of_eq rfl) (hb hby at_15) (fun _ _ => ⟨rfl, e7, (by decide : 0 + 0 ≤ _), (by decide : 0 + 0 ≤ _)⟩)
  dsimp only [Pt.U, Pt.locs, Pt.cells, Pt.slots] at X8 l8 y8 z8 st8 hQ8
  subst l8 y8 z8
  obtain ⟨rfl, N8q, e8⟩ := hQ8
  have N8 := Fr.app N7 N8q
  refine bk (fun t k => st8 t k) ?_
  show F (T8.setTop (mkF m 18 #[.val (.int p0), .val (.long q1), .second, .val (.long q2), .second, .val (.long (own_pick (p0 &&& (3 : Int32)) q1)), .second, .unset, .unset, .unset, .unset, .unset, .unset, .unset, .unset] [(.long (own_pick ((p0 >>> ((2 : Int32) &&& 31)) &&& (3 : Int32)) q2))]))
  refine bk (fun t k => XS.lstore X8.here hx rfl (hb hby at_18) rfl (l' := #[.val (.int p0), .val (.long q1), .second, .val (.long q2), .second, .val (.long (own_pick (p0 &&& (3 : Int32)) q1)), .second, .val (.long (own_pick ((p0 >>> ((2 : Int32) &&& 31)) &&& (3 : Int32)) q2)), .second, .unset, .unset, .unset, .unset, .unset, .unset]) rfl k) ?_
  have hcc : ¬ (own_pick (p0 &&& (3 : Int32)) q1) < (0 : Int64) := own_picknn _ _
  have hoo : ¬ (own_pick ((p0 >>> ((2 : Int32) &&& 31)) &&& (3 : Int32)) q2) < (0 : Int64) := own_picknn _ _
  show F (T8.setTop (mkF m 20 #[.val (.int p0), .val (.long q1), .second, .val (.long q2), .second, .val (.long (own_pick (p0 &&& (3 : Int32)) q1)), .second, .val (.long (own_pick ((p0 >>> ((2 : Int32) &&& 31)) &&& (3 : Int32)) q2)), .second, .unset, .unset, .unset, .unset, .unset, .unset] []))
  obtain ⟨T9, h9, X9, e9, E9, A9, D9, -, st9⟩ := newO X8 hx hZ hown w_5 w_6 w_7 e8 (g := (mkF m 20 #[.val (.int p0), .val (.long q1), .second, .val (.long q2), .second, .val (.long (own_pick (p0 &&& (3 : Int32)) q1)), .second, .val (.long (own_pick ((p0 >>> ((2 : Int32) &&& 31)) &&& (3 : Int32)) q2)), .second, .unset, .unset, .unset, .unset, .unset, .unset] [])) rfl (hb hby at_20) (by decide) (by decide)
  obtain ⟨b9, g9⟩ : ∃ z, z = h0.size := ⟨_, rfl⟩
  rw [← g9] at A9 D9 st9
  have Gb9 : n0 ≤ b9 := Nat.le_trans Z0 (Nat.le_of_eq g9.symm)
  have f10 := Nat.le_trans Z0 E9.1
  have F_count_b9 : Fld Z h9 b9 "com/example/culljoin/culljoin/model/Limit" "count" "J" (.long (0 : Int64)) := D9 (Or.inr w_15) (ty := .long) (by decide)
  have F_offset_b9 : Fld Z h9 b9 "com/example/culljoin/culljoin/model/Limit" "offset" "J" (.long (0 : Int64)) := D9 (Or.inr w_17) (ty := .long) (by decide)
  refine bk (fun t k => st9 t k) ?_
  show F (T9.setTop (mkF m 23 #[.val (.int p0), .val (.long q1), .second, .val (.long q2), .second, .val (.long (own_pick (p0 &&& (3 : Int32)) q1)), .second, .val (.long (own_pick ((p0 >>> ((2 : Int32) &&& 31)) &&& (3 : Int32)) q2)), .second, .unset, .unset, .unset, .unset, .unset, .unset] [(.ref b9)]))
  refine bk (fun t k => XS.dup X9.here hx rfl (hb hby at_23) rfl rfl k) ?_
  show F (T9.setTop (mkF m 24 #[.val (.int p0), .val (.long q1), .second, .val (.long q2), .second, .val (.long (own_pick (p0 &&& (3 : Int32)) q1)), .second, .val (.long (own_pick ((p0 >>> ((2 : Int32) &&& 31)) &&& (3 : Int32)) q2)), .second, .unset, .unset, .unset, .unset, .unset, .unset] [(.ref b9), (.ref b9)]))
  refine bk (fun t k => XS.lload X9.here hx rfl (hb hby at_24) rfl k) ?_
  show F (T9.setTop (mkF m 26 #[.val (.int p0), .val (.long q1), .second, .val (.long q2), .second, .val (.long (own_pick (p0 &&& (3 : Int32)) q1)), .second, .val (.long (own_pick ((p0 >>> ((2 : Int32) &&& 31)) &&& (3 : Int32)) q2)), .second, .unset, .unset, .unset, .unset, .unset, .unset] [(.long (own_pick (p0 &&& (3 : Int32)) q1)), (.ref b9), (.ref b9)]))
  refine bk (fun t k => XS.lload X9.here hx rfl (hb hby at_26) rfl k) ?_
  show F (T9.setTop (mkF m 28 #[.val (.int p0), .val (.long q1), .second, .val (.long q2), .second, .val (.long (own_pick (p0 &&& (3 : Int32)) q1)), .second, .val (.long (own_pick ((p0 >>> ((2 : Int32) &&& 31)) &&& (3 : Int32)) q2)), .second, .unset, .unset, .unset, .unset, .unset, .unset] [(.long (own_pick ((p0 >>> ((2 : Int32) &&& 31)) &&& (3 : Int32)) q2)), (.long (own_pick (p0 &&& (3 : Int32)) q1)), (.ref b9), (.ref b9)]))
  obtain ⟨_, _, ⟨T11, L11, k11, n11⟩, -, X11, ⟨Lc11, hQ11, l11, y11, z11⟩, st11⟩ := X9.specialBack hx (y := (⟨"com/example/culljoin/culljoin/model/Limit", "<init>", "(JJ)V"⟩ : MethodName)) rfl hown (mvT hZ w_8) (mvT hZ w_9) (mvT hZ w_10) (by decide) (backOf (W := 1) (rm2 l Z a0 hw [] b9 (own_pick (p0 &&& (3 : Int32)) q1) (own_pick ((p0 >>> ((2 : Int32) &&& 31)) &&& (3 : Int32)) q2) (.long (0 : Int64)) (.long (0 : Int64)) h9 n0 f10 A9 F_count_b9 F_offset_b9 Gb9 hcc hoo) hZ w_10 w_7 (by decide) (by decide)) (g := (mkF m 28 #[.val (.int p0), .val (.long q1), .second, .val (.long q2), .second, .val (.long (own_pick (p0 &&& (3 : Int32)) q1)), .second, .val (.long (own_pick ((p0 >>> ((2 : Int32) &&& 31)) &&& (3 : Int32)) q2)), .second, .unset, .unset, .unset, .unset, .unset, .unset] [(.long (own_pick ((p0 >>> ((2 : Int32) &&& 31)) &&& (3 : Int32)) q2)), (.long (own_pick (p0 &&& (3 : Int32)) q1)), (.ref b9), (.ref b9)])) rfl (by rw [hml]; rfl) (Steps.refl _) (a := b9) (argsL := [(.long (own_pick (p0 &&& (3 : Int32)) q1)), (.long (own_pick ((p0 >>> ((2 : Int32) &&& 31)) &&& (3 : Int32)) q2))]) (rest := [(.ref b9)]) (lenOf pd0__JJ_V rfl) rfl (by show 2 * 0 + _ ≤ _; exact Nat.le_of_eq rfl) (hb hby at_28) (fun _ _ => ⟨rfl, e9, (by decide : 1 + 0 ≤ _), (by decide : 2 + 0 ≤ _)⟩)
  dsimp only [Pt.U, Pt.locs, Pt.cells, Pt.slots] at X11 l11 y11 z11 st11 hQ11
  subst l11 y11 z11
  obtain ⟨rfl, N11q, K11, gE11, gC11, gO11⟩ := hQ11
  have N11 := Fr.app N8 N11q
  have f12 := Nat.le_trans f10 K11.1
  have f13 := A9.keep K11
  refine bk (fun t k => st11.trans k) ?_
  show F (T11.setTop (mkF m 31 #[.val (.int p0), .val (.long q1), .second, .val (.long q2), .second, .val (.long (own_pick (p0 &&& (3 : Int32)) q1)), .second, .val (.long (own_pick ((p0 >>> ((2 : Int32) &&& 31)) &&& (3 : Int32)) q2)), .second, .unset, .unset, .unset, .unset, .unset, .unset] [(.ref b9)]))
  refine bk (fun t k => XS.astore X11.here hx rfl (hb hby at_31) rfl rfl (l' := #[.val (.int p0), .val (.long q1), .second, .val (.long q2), .second, .val (.long (own_pick (p0 &&& (3 : Int32)) q1)), .second, .val (.long (own_pick ((p0 >>> ((2 : Int32) &&& 31)) &&& (3 : Int32)) q2)), .second, .val (.ref b9), .unset, .unset, .unset, .unset, .unset]) rfl k) ?_
  show F (T11.setTop (mkF m 33 #[.val (.int p0), .val (.long q1), .second, .val (.long q2), .second, .val (.long (own_pick (p0 &&& (3 : Int32)) q1)), .second, .val (.long (own_pick ((p0 >>> ((2 : Int32) &&& 31)) &&& (3 : Int32)) q2)), .second, .val (.ref b9), .unset, .unset, .unset, .unset, .unset] []))
  refine bk (fun t k => XS.lconst X11.here hx rfl (hb hby at_33) k) ?_
  show F (T11.setTop (mkF m 34 #[.val (.int p0), .val (.long q1), .second, .val (.long q2), .second, .val (.long (own_pick (p0 &&& (3 : Int32)) q1)), .second, .val (.long (own_pick ((p0 >>> ((2 : Int32) &&& 31)) &&& (3 : Int32)) q2)), .second, .val (.ref b9), .unset, .unset, .unset, .unset, .unset] [(.long (0 : Int64))]))
  refine bk (fun t k => XS.lload X11.here hx rfl (hb hby at_34) rfl k) ?_
  show F (T11.setTop (mkF m 36 #[.val (.int p0), .val (.long q1), .second, .val (.long q2), .second, .val (.long (own_pick (p0 &&& (3 : Int32)) q1)), .second, .val (.long (own_pick ((p0 >>> ((2 : Int32) &&& 31)) &&& (3 : Int32)) q2)), .second, .val (.ref b9), .unset, .unset, .unset, .unset, .unset] [(.long (own_pick ((p0 >>> ((2 : Int32) &&& 31)) &&& (3 : Int32)) q2)), (.long (0 : Int64))]))
  refine bk (fun t k => XS.lcmp X11.here hx rfl (hb hby at_36) rfl k) ?_
  show F (T11.setTop (mkF m 37 #[.val (.int p0), .val (.long q1), .second, .val (.long q2), .second, .val (.long (own_pick (p0 &&& (3 : Int32)) q1)), .second, .val (.long (own_pick ((p0 >>> ((2 : Int32) &&& 31)) &&& (3 : Int32)) q2)), .second, .val (.ref b9), .unset, .unset, .unset, .unset, .unset] [(.int (lcmpW (0 : Int64) (own_pick ((p0 >>> ((2 : Int32) &&& 31)) &&& (3 : Int32)) q2)))]))
  by_cases hc37_14 : (0 : Int64) < (own_pick ((p0 >>> ((2 : Int32) &&& 31)) &&& (3 : Int32)) q2)
  · refine bk (fun t k => XS.ifYes X11.here hx rfl (pc0 := 37) (pc' := 54) rfl (hb hby at_37) rfl ((if0 _ _).trans (tlt ((lw_lt _ _).mpr hc37_14)).1) (by decide) (by decide) k) ?_
    show F (T11.setTop (mkF m 54 #[.val (.int p0), .val (.long q1), .second, .val (.long q2), .second, .val (.long (own_pick (p0 &&& (3 : Int32)) q1)), .second, .val (.long (own_pick ((p0 >>> ((2 : Int32) &&& 31)) &&& (3 : Int32)) q2)), .second, .val (.ref b9), .unset, .unset, .unset, .unset, .unset] []))
    refine bk (fun t k => XS.iconst X11.here hx rfl (hb hby at_54) k) ?_
    show F (T11.setTop (mkF m 55 #[.val (.int p0), .val (.long q1), .second, .val (.long q2), .second, .val (.long (own_pick (p0 &&& (3 : Int32)) q1)), .second, .val (.long (own_pick ((p0 >>> ((2 : Int32) &&& 31)) &&& (3 : Int32)) q2)), .second, .val (.ref b9), .unset, .unset, .unset, .unset, .unset] [(.int (0 : Int32))]))
    exact J55 _ _ T11.heap X11 rfl N11 _ _ _ f12 gE11 gC11 gO11 hcc hoo _ (by rw [if_pos hc37_14])
  · refine bk (fun t k => XS.ifNo X11.here hx rfl (hb hby at_37) rfl ((if0 _ _).trans (flt (fun q => hc37_14 ((lw_lt _ _).mp q))).1) k) ?_
    show F (T11.setTop (mkF m 40 #[.val (.int p0), .val (.long q1), .second, .val (.long q2), .second, .val (.long (own_pick (p0 &&& (3 : Int32)) q1)), .second, .val (.long (own_pick ((p0 >>> ((2 : Int32) &&& 31)) &&& (3 : Int32)) q2)), .second, .val (.ref b9), .unset, .unset, .unset, .unset, .unset] []))
    refine bk (fun t k => XS.lconst X11.here hx rfl (hb hby at_40) k) ?_
    show F (T11.setTop (mkF m 41 #[.val (.int p0), .val (.long q1), .second, .val (.long q2), .second, .val (.long (own_pick (p0 &&& (3 : Int32)) q1)), .second, .val (.long (own_pick ((p0 >>> ((2 : Int32) &&& 31)) &&& (3 : Int32)) q2)), .second, .val (.ref b9), .unset, .unset, .unset, .unset, .unset] [(.long (0 : Int64))]))
    refine bk (fun t k => XS.lload X11.here hx rfl (hb hby at_41) rfl k) ?_
    show F (T11.setTop (mkF m 43 #[.val (.int p0), .val (.long q1), .second, .val (.long q2), .second, .val (.long (own_pick (p0 &&& (3 : Int32)) q1)), .second, .val (.long (own_pick ((p0 >>> ((2 : Int32) &&& 31)) &&& (3 : Int32)) q2)), .second, .val (.ref b9), .unset, .unset, .unset, .unset, .unset] [(.long (own_pick ((p0 >>> ((2 : Int32) &&& 31)) &&& (3 : Int32)) q2)), (.long (0 : Int64))]))
    refine bk (fun t k => XS.lsub X11.here hx rfl (hb hby at_43) rfl k) ?_
    show F (T11.setTop (mkF m 44 #[.val (.int p0), .val (.long q1), .second, .val (.long q2), .second, .val (.long (own_pick (p0 &&& (3 : Int32)) q1)), .second, .val (.long (own_pick ((p0 >>> ((2 : Int32) &&& 31)) &&& (3 : Int32)) q2)), .second, .val (.ref b9), .unset, .unset, .unset, .unset, .unset] [(.long ((0 : Int64) - (own_pick ((p0 >>> ((2 : Int32) &&& 31)) &&& (3 : Int32)) q2)))]))
    refine bk (fun t k => XS.lload X11.here hx rfl (hb hby at_44) rfl k) ?_
    show F (T11.setTop (mkF m 46 #[.val (.int p0), .val (.long q1), .second, .val (.long q2), .second, .val (.long (own_pick (p0 &&& (3 : Int32)) q1)), .second, .val (.long (own_pick ((p0 >>> ((2 : Int32) &&& 31)) &&& (3 : Int32)) q2)), .second, .val (.ref b9), .unset, .unset, .unset, .unset, .unset] [(.long (own_pick (p0 &&& (3 : Int32)) q1)), (.long ((0 : Int64) - (own_pick ((p0 >>> ((2 : Int32) &&& 31)) &&& (3 : Int32)) q2)))]))
    refine bk (fun t k => XS.lcmp X11.here hx rfl (hb hby at_46) rfl k) ?_
    show F (T11.setTop (mkF m 47 #[.val (.int p0), .val (.long q1), .second, .val (.long q2), .second, .val (.long (own_pick (p0 &&& (3 : Int32)) q1)), .second, .val (.long (own_pick ((p0 >>> ((2 : Int32) &&& 31)) &&& (3 : Int32)) q2)), .second, .val (.ref b9), .unset, .unset, .unset, .unset, .unset] [(.int (lcmpW ((0 : Int64) - (own_pick ((p0 >>> ((2 : Int32) &&& 31)) &&& (3 : Int32)) q2)) (own_pick (p0 &&& (3 : Int32)) q1)))]))
    by_cases hc47_15 : ((0 : Int64) - (own_pick ((p0 >>> ((2 : Int32) &&& 31)) &&& (3 : Int32)) q2)) < (own_pick (p0 &&& (3 : Int32)) q1)
    · refine bk (fun t k => XS.ifNo X11.here hx rfl (hb hby at_47) rfl ((if0 _ _).trans (tlt ((lw_lt _ _).mpr hc47_15)).2.1) k) ?_
      show F (T11.setTop (mkF m 50 #[.val (.int p0), .val (.long q1), .second, .val (.long q2), .second, .val (.long (own_pick (p0 &&& (3 : Int32)) q1)), .second, .val (.long (own_pick ((p0 >>> ((2 : Int32) &&& 31)) &&& (3 : Int32)) q2)), .second, .val (.ref b9), .unset, .unset, .unset, .unset, .unset] []))
      refine bk (fun t k => XS.iconst X11.here hx rfl (hb hby at_50) k) ?_
      show F (T11.setTop (mkF m 51 #[.val (.int p0), .val (.long q1), .second, .val (.long q2), .second, .val (.long (own_pick (p0 &&& (3 : Int32)) q1)), .second, .val (.long (own_pick ((p0 >>> ((2 : Int32) &&& 31)) &&& (3 : Int32)) q2)), .second, .val (.ref b9), .unset, .unset, .unset, .unset, .unset] [(.int (1 : Int32))]))
      refine bk (fun t k => XS.goto X11.here hx rfl (pc0 := 51) (pc' := 55) rfl (hb hby at_51) (by decide) (by decide) k) ?_
      show F (T11.setTop (mkF m 55 #[.val (.int p0), .val (.long q1), .second, .val (.long q2), .second, .val (.long (own_pick (p0 &&& (3 : Int32)) q1)), .second, .val (.long (own_pick ((p0 >>> ((2 : Int32) &&& 31)) &&& (3 : Int32)) q2)), .second, .val (.ref b9), .unset, .unset, .unset, .unset, .unset] [(.int (1 : Int32))]))
      exact J55 _ _ T11.heap X11 rfl N11 _ _ _ f12 gE11 gC11 gO11 hcc hoo _ (by rw [if_neg hc37_14, if_pos hc47_15])
    · refine bk (fun t k => XS.ifYes X11.here hx rfl (pc0 := 47) (pc' := 54) rfl (hb hby at_47) rfl ((if0 _ _).trans (flt (fun q => hc47_15 ((lw_lt _ _).mp q))).2.1) (by decide) (by decide) k) ?_
      show F (T11.setTop (mkF m 54 #[.val (.int p0), .val (.long q1), .second, .val (.long q2), .second, .val (.long (own_pick (p0 &&& (3 : Int32)) q1)), .second, .val (.long (own_pick ((p0 >>> ((2 : Int32) &&& 31)) &&& (3 : Int32)) q2)), .second, .val (.ref b9), .unset, .unset, .unset, .unset, .unset] []))
      refine bk (fun t k => XS.iconst X11.here hx rfl (hb hby at_54) k) ?_
      show F (T11.setTop (mkF m 55 #[.val (.int p0), .val (.long q1), .second, .val (.long q2), .second, .val (.long (own_pick (p0 &&& (3 : Int32)) q1)), .second, .val (.long (own_pick ((p0 >>> ((2 : Int32) &&& 31)) &&& (3 : Int32)) q2)), .second, .val (.ref b9), .unset, .unset, .unset, .unset, .unset] [(.int (0 : Int32))]))
      exact J55 _ _ T11.heap X11 rfl N11 _ _ _ f12 gE11 gC11 gO11 hcc hoo _ (by rw [if_neg hc37_14, if_neg hc47_15])
set_option maxRecDepth 65536 in
set_option maxHeartbeats 40000000 in
theorem comes_1 {Post : Tables → Env → Array Value → State → Outcome → State → Prop} (hpost : ∀ tb e args s v u, (limb_1_1.after args s (.returned v) u = true ∧ limb_1_2.after args s (.returned v) u = true ∧ True) → FrameEnd s (.returned v) u (Jvm.fieldLocs frame_1_writes args s ++ Jvm.arrayLocs frame_1_arrays args s ++ Jvm.staticLocs frame_1_statics s) 16 128 → Post tb e args s (.returned v) u) :
    ArmFor flags0 classFile x code maxLocals ret World_1 tables_1 room_1 Calls_1 rest_1 Pre_1 Post := by
  intro l hfl _ _ p e ha hc hk s m args below hf hA hF happ hP
  obtain ⟨hcalls, hrest, hpre⟩ := hP
  obtain ⟨-, -, -, hnamed, -, -, -, hat⟩ := (Spec.applies_iff hf).mp happ
  obtain ⟨hg, hn⟩ := and_e (Cond.before_iff.mp (show (Jvm.Cond.and given_1 narrow_1).before args s = true from hpre))
  obtain ⟨hcount, hk0⟩ := and_e hg
  obtain ⟨hi0, hk1⟩ := and_e hk0
  obtain ⟨hi1, hk2⟩ := and_e hk1
  have hi2 := hk2
  obtain ⟨w0, w1, w2, rfl⟩ : ∃ w0 w1 w2 : Value, args = #[w0, w1, w2] := by
    have hs : args.size = 3 := by simpa [Cond.value, given_1] using hcount
    obtain ⟨L⟩ := args
    match L, hs with
    | [w0, w1, w2], _ => exact ⟨w0, w1, w2, rfl⟩
  have hw := fun d (hd : d ∈ tables_1) => atoms_spec (ws := Jvm.Cond.code x code maxLocals ret :: tables_1) hat d (List.mem_cons_of_mem _ hd)
  obtain ⟨i0, ei0⟩ := is_v hi0
  obtain rfl : w0 = (.int i0) := Option.some.inj ei0
  obtain ⟨i1, ei1⟩ := isL_v hi1
  obtain rfl : w1 = (.long i1) := Option.some.inj ei1
  obtain ⟨i2, ei2⟩ := isL_v hi2
  obtain rfl : w2 = (.long i2) := Option.some.inj ei2
  obtain ⟨n, o, h1, h2, h3, _, L, rfl, ⟨rfl, N⟩, hq⟩ := rm0 l s _ hw tables_1 i0 i1 i2  s.heap s.heap.size (Nat.le_refl _)  p e ha hc hk s m _ below hf ((Spec.applies_iff_loose hf).mp happ).1 ⟨rfl, State.Warmed39.refl s, rfl⟩ trivial
  refine ⟨n, _, h1, h2, h3, hpost _ _ _ _ _ _ ⟨Cond.after_iff.mpr rfl, Cond.after_iff.mpr (eq_i res_at (Term.int_eval (1)) rfl), trivial⟩ ⟨hq.1, hq.2.1, (hq.2.2.sift fun y hy => Or.inr (N y hy)).mono (by decide) (by decide)⟩⟩
theorem main_1_1 : Claimed_1_1 := comes_1 fun _ _ _ _ _ _ h hF => ⟨h.1, hF⟩
theorem main_1_2 : Claimed_1_2 := comes_1 fun _ _ _ _ _ _ h hF => ⟨h.2.1, hF⟩
end Jvm.Pilot.@@N@@
namespace Jvm.Pilot.@@N@@
open Jvm Jvm.ClassFile Sem Op Lib Jvm.Free Jvm.Stand Jvm.Pilot.@@N@@.Jvm.D
/-! MADE BY PROGRAM (witnessworld.py) out of the Statement's table words and the real class files: 10 classes; the members and pool entries that the words name. The judged class is class 1, her method 2. -/
namespace start1
open Jvm.ClassFile
def u (s : String) : CpInfo := .utf8 (stringToUtf16 s)
/-- a pool by its gaps: so many unusable entries, then the entry; so many at the end -/
def gap : Nat → List CpInfo → List CpInfo
  | 0, r => r
  | n + 1, r => .unusable :: gap n r
def poolList (es : List (Nat × CpInfo)) (last : Nat) : List CpInfo := es.foldr (fun e r => gap e.1 (e.2 :: r)) (gap last [])
def pool (es : List (Nat × CpInfo)) (last : Nat) : Array CpInfo := ⟨poolList es last⟩
def fileOf (pool : Array CpInfo) (this : Nat) (attrs : Array Attribute := #[]) (ms : Array MethodInfo := #[]) (fl : Nat := 33) (sup : Nat := 0) (ifs : Array Nat := #[]) (fds : Array FieldInfo := #[]) : ClassFile where
  minorVersion := 0
  majorVersion := 65
  constantPool := pool
  accessFlags := fl
  thisClass := this
  superClass := sup
  interfaces := ifs
  fields := fds
  methods := ms
  attributes := attrs
def plain (name : String) (sup : Option ClassId) : Class where
  name := name
  kind := .ordinary
  loader := none
  accessFlags := 33
  super := sup
  interfaces := #[]
  cf := none
  fields := #[]
  methods := #[]
  instanceTypes := #[]
  staticTypes := #[]
  resolved := #[]
  callSites := []
  init := .initialized
  statics := none
  mirror := none

def pool0 : Array CpInfo := pool [(5, u "<init>"), (0, u "()V"), (1, .class_ 10), (1, u "java/lang/Object")] 113

def k0c0 : Code := { maxStack := 0, maxLocals := 1, code := object_method_1_code, exceptionTable := #[], attributes := #[] }
def k0m0 : Method := { name := "<init>", desc := "()V", sig := { parameters := [], returnType := none }, accessFlags := 1, code := some k0c0 }
/-- java/lang/Object -/
def k0 : Class := { plain "java/lang/Object" none with
  accessFlags := 33
  interfaces := #[]
  cf := some (fileOf pool0 8 #[] #[{ accessFlags := 1, nameIndex := 5, descriptorIndex := 6, attributes := #[] }] 33 0 #[] #[])
  fields := #[]
  methods := #[k0m0]
  instanceTypes := #[]
  staticTypes := #[]
  resolved := Array.replicate 124 none
  statics := none }

def pool1 : Array CpInfo := pool [(2, .class_ 4), (1, u "java/lang/Object"), (0, u "<init>"), (0, u "()V"), (2, .long 9223372036854775807), (1, .methodref 12 13), (0, .class_ 14), (0, .nameAndType 15 16), (0, u "com/example/culljoin/culljoin/model/LimitKeepsFirstRowPinLaw"), (0, u "pick"), (0, u "(IJ)J"), (0, .class_ 18), (0, u "com/example/culljoin/culljoin/model/Limit"), (0, .methodref 17 20), (0, .nameAndType 5 21), (0, u "(JJ)V"), (0, .methodref 23 24), (0, .class_ 25), (0, .nameAndType 26 27), (0, u "java/lang/Math"), (0, u "max"), (0, u "(JJ)J"), (0, .methodref 23 29), (0, .nameAndType 30 27), (0, u "min"), (0, .methodref 17 32), (0, .nameAndType 33 34), (0, u "keepsFirstRow"), (0, u "()Z"), (0, .methodref 17 36), (0, .nameAndType 37 38), (0, u "count"), (0, u "()J"), (0, .methodref 17 40), (0, .nameAndType 41 38), (0, u "offset"), (3, u "law"), (0, u "(IJJ)Z")] 2

def k1m0 : Method := { name := "<init>", desc := "()V", sig := { parameters := [], returnType := none }, accessFlags := 1, code := none }
def k1c1 : Code := { maxStack := 4, maxLocals := 5, code := method_2_code, exceptionTable := #[], attributes := #[] }
def k1m1 : Method := { name := "pick", desc := "(IJ)J", sig := { parameters := [.int, .long], returnType := some .long }, accessFlags := 10, code := some k1c1 }
def k1c2 : Code := { maxStack := 8, maxLocals := 15, code := code, exceptionTable := #[], attributes := #[] }
def k1m2 : Method := { name := "law", desc := "(IJJ)Z", sig := { parameters := [.int, .long, .long], returnType := some .boolean }, accessFlags := 9, code := some k1c2 }
/-- com/example/culljoin/culljoin/model/LimitKeepsFirstRowPinLaw -/
def k1 : Class := { plain "com/example/culljoin/culljoin/model/LimitKeepsFirstRowPinLaw" (some 0) with
  accessFlags := 49
  interfaces := #[]
  cf := some (fileOf pool1 12 #[] #[{ accessFlags := 1, nameIndex := 5, descriptorIndex := 6, attributes := #[] }, { accessFlags := 10, nameIndex := 15, descriptorIndex := 16, attributes := #[] }, { accessFlags := 9, nameIndex := 45, descriptorIndex := 46, attributes := #[] }] 49 2 #[] #[])
  fields := #[]
  methods := #[k1m0, k1m1, k1m2]
  instanceTypes := #[]
  staticTypes := #[]
  resolved := Array.replicate 49 none
  statics := none }

def pool2 : Array CpInfo := pool [(1, .methodref 2 3), (0, .class_ 4), (0, .nameAndType 5 6), (0, u "java/lang/Object"), (0, u "<init>"), (0, u "()V"), (9, .fieldref 17 18), (0, .class_ 19), (0, .nameAndType 20 21), (0, u "com/example/culljoin/culljoin/model/Limit"), (0, u "count"), (0, u "J"), (0, .fieldref 17 23), (0, .nameAndType 24 21), (0, u "offset"), (0, u "(JJ)V"), (3, u "()J"), (0, u "keepsFirstRow"), (0, u "()Z")] 17

def k2c0 : Code := { maxStack := 6, maxLocals := 5, code := prog_19_method_1_code, exceptionTable := #[], attributes := #[] }
def k2m0 : Method := { name := "<init>", desc := "(JJ)V", sig := { parameters := [.long, .long], returnType := none }, accessFlags := 1, code := some k2c0 }
def k2c1 : Code := { maxStack := 2, maxLocals := 1, code := prog_19_method_2_code, exceptionTable := #[], attributes := #[] }
def k2m1 : Method := { name := "count", desc := "()J", sig := { parameters := [], returnType := some .long }, accessFlags := 1, code := some k2c1 }
def k2c2 : Code := { maxStack := 2, maxLocals := 1, code := prog_19_method_3_code, exceptionTable := #[], attributes := #[] }
def k2m2 : Method := { name := "offset", desc := "()J", sig := { parameters := [], returnType := some .long }, accessFlags := 1, code := some k2c2 }
def k2c3 : Code := { maxStack := 4, maxLocals := 1, code := prog_19_method_4_code, exceptionTable := #[], attributes := #[] }
def k2m3 : Method := { name := "keepsFirstRow", desc := "()Z", sig := { parameters := [], returnType := some .boolean }, accessFlags := 1, code := some k2c3 }
/-- com/example/culljoin/culljoin/model/Limit -/
def k2 : Class := { plain "com/example/culljoin/culljoin/model/Limit" (some 0) with
  accessFlags := 49
  interfaces := #[]
  cf := some (fileOf pool2 17 #[] #[{ accessFlags := 1, nameIndex := 5, descriptorIndex := 25, attributes := #[] }, { accessFlags := 1, nameIndex := 20, descriptorIndex := 29, attributes := #[] }, { accessFlags := 1, nameIndex := 24, descriptorIndex := 29, attributes := #[] }, { accessFlags := 1, nameIndex := 30, descriptorIndex := 31, attributes := #[] }] 49 2 #[] #[{ accessFlags := 18, nameIndex := 20, descriptorIndex := 21, attributes := #[] }, { accessFlags := 18, nameIndex := 24, descriptorIndex := 21, attributes := #[] }])
  fields := #[{ name := "count", type := .long, accessFlags := 18, slot := 0, constantValue := 0 }, { name := "offset", type := .long, accessFlags := 18, slot := 1, constantValue := 0 }]
  methods := #[k2m0, k2m1, k2m2, k2m3]
  instanceTypes := #[.long, .long]
  staticTypes := #[]
  resolved := Array.replicate 49 none
  statics := none }

def pool3 : Array CpInfo := pool [(1, .class_ 2), (0, u "java/lang/Math"), (1, .class_ 6), (1, u "java/lang/Object"), (0, u "<init>"), (0, u "()V"), (89, .class_ 100), (1, u "java/lang/Math$RandomNumberGeneratorHolder"), (20, u "(JJ)J"), (50, u "negativeZeroFloatBits"), (0, u "J"), (2, u "negativeZeroDoubleBits"), (21, u "max"), (2, u "min"), (43, u "$assertionsDisabled"), (0, u "Z"), (91, u "twoToTheDoubleScaleDown"), (0, u "D"), (4, u "twoToTheDoubleScaleUp"), (9, u "E"), (3, u "PI"), (2, u "TAU"), (2, u "DEGREES_TO_RADIANS"), (0, u "RADIANS_TO_DEGREES")] 94

def k3m0 : Method := { name := "<init>", desc := "()V", sig := { parameters := [], returnType := none }, accessFlags := 2, code := none }
def k3c1 : Code := { maxStack := 4, maxLocals := 4, code := jdk_29_method_66_code, exceptionTable := #[], attributes := #[] }
def k3m1 : Method := { name := "max", desc := "(JJ)J", sig := { parameters := [.long, .long], returnType := some .long }, accessFlags := 9, code := some k3c1 }
def k3c2 : Code := { maxStack := 4, maxLocals := 4, code := jdk_29_method_70_code, exceptionTable := #[], attributes := #[] }
def k3m2 : Method := { name := "min", desc := "(JJ)J", sig := { parameters := [.long, .long], returnType := some .long }, accessFlags := 9, code := some k3c2 }
/-- java/lang/Math -/
def k3 : Class := { plain "java/lang/Math" (some 0) with
  accessFlags := 49
  interfaces := #[]
  cf := some (fileOf pool3 1 #[.nestMembers #[98]] #[{ accessFlags := 2, nameIndex := 7, descriptorIndex := 8, attributes := #[] }, { accessFlags := 9, nameIndex := 198, descriptorIndex := 121, attributes := #[] }, { accessFlags := 9, nameIndex := 201, descriptorIndex := 121, attributes := #[] }] 49 4 #[] #[{ accessFlags := 25, nameIndex := 354, descriptorIndex := 339, attributes := #[] }, { accessFlags := 25, nameIndex := 358, descriptorIndex := 339, attributes := #[] }, { accessFlags := 25, nameIndex := 361, descriptorIndex := 339, attributes := #[] }, { accessFlags := 26, nameIndex := 364, descriptorIndex := 339, attributes := #[] }, { accessFlags := 26, nameIndex := 365, descriptorIndex := 339, attributes := #[] }, { accessFlags := 26, nameIndex := 172, descriptorIndex := 173, attributes := #[] }, { accessFlags := 26, nameIndex := 176, descriptorIndex := 173, attributes := #[] }, { accessFlags := 8, nameIndex := 344, descriptorIndex := 339, attributes := #[] }, { accessFlags := 8, nameIndex := 338, descriptorIndex := 339, attributes := #[] }, { accessFlags := 4120, nameIndex := 245, descriptorIndex := 246, attributes := #[] }])
  fields := #[{ name := "E", type := .double, accessFlags := 25, slot := 0, constantValue := 0 }, { name := "PI", type := .double, accessFlags := 25, slot := 1, constantValue := 0 }, { name := "TAU", type := .double, accessFlags := 25, slot := 2, constantValue := 0 }, { name := "DEGREES_TO_RADIANS", type := .double, accessFlags := 26, slot := 3, constantValue := 0 }, { name := "RADIANS_TO_DEGREES", type := .double, accessFlags := 26, slot := 4, constantValue := 0 }, { name := "negativeZeroFloatBits", type := .long, accessFlags := 26, slot := 5, constantValue := 0 }, { name := "negativeZeroDoubleBits", type := .long, accessFlags := 26, slot := 6, constantValue := 0 }, { name := "twoToTheDoubleScaleUp", type := .double, accessFlags := 8, slot := 7, constantValue := 0 }, { name := "twoToTheDoubleScaleDown", type := .double, accessFlags := 8, slot := 8, constantValue := 0 }, { name := "$assertionsDisabled", type := .boolean, accessFlags := 4120, slot := 9, constantValue := 0 }]
  methods := #[k3m0, k3m1, k3m2]
  instanceTypes := #[]
  staticTypes := #[.double, .double, .double, .double, .double, .long, .long, .double, .double, .boolean]
  resolved := Array.replicate 460 none
  statics := none }

def pool4 : Array CpInfo := pool [(1, u "java/lang/Cloneable"), (0, .class_ 1), (0, u "java/lang/Object"), (0, .class_ 3)] 3

/-- java/lang/Cloneable -/
def k4 : Class := { plain "java/lang/Cloneable" (some 0) with
  accessFlags := 1537
  interfaces := #[]
  cf := some (fileOf pool4 2 #[] #[] 1537 4 #[] #[])
  fields := #[]
  methods := #[]
  instanceTypes := #[]
  staticTypes := #[]
  resolved := Array.replicate 8 none
  statics := none }

def pool5 : Array CpInfo := pool [(1, u "java/io/Serializable"), (0, .class_ 1), (0, u "java/lang/Object"), (0, .class_ 3)] 3

/-- java/io/Serializable -/
def k5 : Class := { plain "java/io/Serializable" (some 0) with
  accessFlags := 1537
  interfaces := #[]
  cf := some (fileOf pool5 2 #[] #[] 1537 4 #[] #[])
  fields := #[]
  methods := #[]
  instanceTypes := #[]
  staticTypes := #[]
  resolved := Array.replicate 8 none
  statics := none }

/-- the primitive byte -/
def k6 : Class := { plain "byte" none with kind := .primitive 'B', accessFlags := 0x411 }
/-- [B -/
def k7 : Class := { plain "[B" (some 0) with kind := .array 6 .byte, interfaces := #[4, 5], accessFlags := 1041 }

/-- the primitive int -/
def k8 : Class := { plain "int" none with kind := .primitive 'I', accessFlags := 0x411 }
/-- [I -/
def k9 : Class := { plain "[I" (some 0) with kind := .array 8 .int, interfaces := #[4, 5], accessFlags := 1041 }

def heap : Heap := #[]
def classes : Array Class := #[k0, k1, k2, k3, k4, k5, k6, k7, k8, k9]
def interned : List (Array UInt16 × Addr) := []
def slotsUsed : Nat := 0
def theMethod : MethodId := ⟨1, 2⟩
def args0 : Array Value := #[.int 5, .long 2, .long 7]
def aboutOver (below : List Frame) : State where
  vm := { classes := classes, interned := interned.toArray }
  heap := heap
  slotsUsed := slotsUsed
  threads := #[{ frames := .invoking theMethod args0 :: below }]
def below0 : List Frame := [.native { method := ⟨0, 0⟩, args := #[] }]
def about1 : State := aboutOver below0
def p0 : Program := .bare "" "" ""
def e0 : Env := launch0.env 0 0 0
theorem w_frames : about1.frames = Frame.invoking theMethod args0 :: below0 := rfl
set_option maxRecDepth 65536 in
theorem w_args : argsFit about1.vm theMethod args0 = true := by decide +kernel
set_option maxRecDepth 65536 in
theorem w_heap : heapFits about1 = true := by decide +kernel
set_option maxRecDepth 65536 in
theorem w_runnable : about1.curStatus? = some .runnable := by decide +kernel
set_option maxRecDepth 65536 in
theorem w_alone : about1.alone = true := by decide +kernel
set_option maxRecDepth 65536 in
theorem w_named : about1.methodNamed? x = some theMethod := by decide +kernel
set_option maxRecDepth 65536 in
theorem w_hears : about1.hears theMethod below0 = true := by decide +kernel
set_option maxRecDepth 65536 in
theorem w_ripe : about1.ripe theMethod args0 below0 = true := by decide +kernel
theorem w_running : about1.status = .running := rfl
set_option maxRecDepth 65536 in
theorem w_room : about1.hasRoom e0.platform room_1 = true :=
  launch0.hasRoom_least _ room_1 (by decide +kernel) (by decide +kernel) (by decide +kernel) (by decide +kernel) (by decide +kernel) (by decide +kernel)
theorem allAtoms_all (ts : List Jvm.Cond) (a : Array Jvm.Value) (st : Jvm.State) : (allAtoms ts).before a st = ts.all (fun c => c.before a st) := by
  induction ts with
  | nil => rfl
  | cons c t ih =>
    show (Jvm.Cond.and c (allAtoms t)).before a st = _
    rw [Jvm.Cond.before_and, ih, List.all_cons]
def words1 : List Jvm.Cond := Jvm.Cond.code x code maxLocals ret :: tables_1
/-- a 'code' word, met by the world's own term for the bytes: nothing is compared byte by byte -/
theorem code_word {y : MethodName} {bytes : ByteArray} {mx : Nat} {rt : Option FieldType} {a : Array Value} {s : State} {m : MethodId} {meth : Method} {c : Code} (h1 : s.methodNamed? y = some m) (h2 : s.vm.method? m = some meth) (h3 : meth.code = some c) (h4 : c.code = bytes)
    (h5 : (c.maxLocals == mx && c.exceptionTable.isEmpty && decide (c.maxStack ≤ mostOperands) && decide (meth.sig.returnType = rt) && !meth.locks && decide (parseMethodDescriptor y.desc = some meth.sig)) = true) : (Jvm.Cond.code y bytes mx rt).before a s = true := by
  simp only [Bool.and_eq_true, beq_iff_eq, Bool.not_eq_true', decide_eq_true_eq] at h5
  obtain ⟨⟨⟨⟨⟨g1, g2⟩, g3⟩, g4⟩, g5⟩, g6⟩ := h5
  simp [Cond.before, Cond.holds, Cond.value, h1, h2, h3, h4, g1, g2, g3, g4, g5, g6]
def isCode : Jvm.Cond → Bool
  | .code _ _ _ _ => true
  | _ => false
theorem all_split {L : List Jvm.Cond} {P : Jvm.Cond → Bool} (h1 : L.all (fun c => isCode c || P c) = true) (h2 : ∀ c ∈ L.filter isCode, P c = true) : L.all P = true := by
  refine List.all_eq_true.mpr fun c hc => ?_
  have h := List.all_eq_true.mp h1 c hc
  rcases Bool.eq_false_or_eq_true (isCode c) with hi | hi
  · exact h2 c (List.mem_filter.mpr ⟨hc, hi⟩)
  · simpa [hi] using h
set_option maxRecDepth 65536 in
theorem w_c0 : (Jvm.Cond.code x code maxLocals ret).before args0 about1 = true := code_word (m := ⟨1, 2⟩) (meth := k1m2) (c := k1c2) (by decide +kernel) rfl rfl rfl (by decide +kernel)
set_option maxRecDepth 65536 in
theorem w_c1 : (Jvm.Cond.code ({ cls := "com/example/culljoin/culljoin/model/LimitKeepsFirstRowPinLaw", name := "pick", desc := "(IJ)J" } : Jvm.MethodName) method_2_code (5 : Nat) (Option.some Jvm.ClassFile.FieldType.long)).before args0 about1 = true := code_word (m := ⟨1, 1⟩) (meth := k1m1) (c := k1c1) (by decide +kernel) rfl rfl rfl (by decide +kernel)
set_option maxRecDepth 65536 in
theorem w_c2 : (Jvm.Cond.code ({ cls := "com/example/culljoin/culljoin/model/Limit", name := "<init>", desc := "(JJ)V" } : Jvm.MethodName) prog_19_method_1_code (5 : Nat) (Option.none : Option Jvm.ClassFile.FieldType)).before args0 about1 = true := code_word (m := ⟨2, 0⟩) (meth := k2m0) (c := k2c0) (by decide +kernel) rfl rfl rfl (by decide +kernel)
set_option maxRecDepth 65536 in
theorem w_c3 : (Jvm.Cond.code ({ cls := "java/lang/Object", name := "<init>", desc := "()V" } : Jvm.MethodName) object_method_1_code (1 : Nat) (Option.none : Option Jvm.ClassFile.FieldType)).before args0 about1 = true := code_word (m := ⟨0, 0⟩) (meth := k0m0) (c := k0c0) (by decide +kernel) rfl rfl rfl (by decide +kernel)
set_option maxRecDepth 65536 in
theorem w_c4 : (Jvm.Cond.code ({ cls := "java/lang/Math", name := "max", desc := "(JJ)J" } : Jvm.MethodName) jdk_29_method_66_code (4 : Nat) (Option.some Jvm.ClassFile.FieldType.long)).before args0 about1 = true := code_word (m := ⟨3, 1⟩) (meth := k3m1) (c := k3c1) (by decide +kernel) rfl rfl rfl (by decide +kernel)
set_option maxRecDepth 65536 in
theorem w_c5 : (Jvm.Cond.code ({ cls := "java/lang/Math", name := "min", desc := "(JJ)J" } : Jvm.MethodName) jdk_29_method_70_code (4 : Nat) (Option.some Jvm.ClassFile.FieldType.long)).before args0 about1 = true := code_word (m := ⟨3, 2⟩) (meth := k3m2) (c := k3c2) (by decide +kernel) rfl rfl rfl (by decide +kernel)
set_option maxRecDepth 65536 in
theorem w_c6 : (Jvm.Cond.code ({ cls := "com/example/culljoin/culljoin/model/Limit", name := "keepsFirstRow", desc := "()Z" } : Jvm.MethodName) prog_19_method_4_code (1 : Nat) (Option.some Jvm.ClassFile.FieldType.boolean)).before args0 about1 = true := code_word (m := ⟨2, 3⟩) (meth := k2m3) (c := k2c3) (by decide +kernel) rfl rfl rfl (by decide +kernel)
set_option maxRecDepth 65536 in
theorem w_c7 : (Jvm.Cond.code ({ cls := "com/example/culljoin/culljoin/model/Limit", name := "count", desc := "()J" } : Jvm.MethodName) prog_19_method_2_code (1 : Nat) (Option.some Jvm.ClassFile.FieldType.long)).before args0 about1 = true := code_word (m := ⟨2, 1⟩) (meth := k2m1) (c := k2c1) (by decide +kernel) rfl rfl rfl (by decide +kernel)
set_option maxRecDepth 65536 in
theorem w_c8 : (Jvm.Cond.code ({ cls := "com/example/culljoin/culljoin/model/Limit", name := "offset", desc := "()J" } : Jvm.MethodName) prog_19_method_3_code (1 : Nat) (Option.some Jvm.ClassFile.FieldType.long)).before args0 about1 = true := code_word (m := ⟨2, 2⟩) (meth := k2m2) (c := k2c2) (by decide +kernel) rfl rfl rfl (by decide +kernel)
def codes1 : List Jvm.Cond := [Jvm.Cond.code x code maxLocals ret, Jvm.Cond.code ({ cls := "com/example/culljoin/culljoin/model/LimitKeepsFirstRowPinLaw", name := "pick", desc := "(IJ)J" } : Jvm.MethodName) method_2_code (5 : Nat) (Option.some Jvm.ClassFile.FieldType.long), Jvm.Cond.code ({ cls := "com/example/culljoin/culljoin/model/Limit", name := "<init>", desc := "(JJ)V" } : Jvm.MethodName) prog_19_method_1_code (5 : Nat) (Option.none : Option Jvm.ClassFile.FieldType), Jvm.Cond.code ({ cls := "java/lang/Object", name := "<init>", desc := "()V" } : Jvm.MethodName) object_method_1_code (1 : Nat) (Option.none : Option Jvm.ClassFile.FieldType), Jvm.Cond.code ({ cls := "java/lang/Math", name := "max", desc := "(JJ)J" } : Jvm.MethodName) jdk_29_method_66_code (4 : Nat) (Option.some Jvm.ClassFile.FieldType.long), Jvm.Cond.code ({ cls := "java/lang/Math", name := "min", desc := "(JJ)J" } : Jvm.MethodName) jdk_29_method_70_code (4 : Nat) (Option.some Jvm.ClassFile.FieldType.long), Jvm.Cond.code ({ cls := "com/example/culljoin/culljoin/model/Limit", name := "keepsFirstRow", desc := "()Z" } : Jvm.MethodName) prog_19_method_4_code (1 : Nat) (Option.some Jvm.ClassFile.FieldType.boolean), Jvm.Cond.code ({ cls := "com/example/culljoin/culljoin/model/Limit", name := "count", desc := "()J" } : Jvm.MethodName) prog_19_method_2_code (1 : Nat) (Option.some Jvm.ClassFile.FieldType.long), Jvm.Cond.code ({ cls := "com/example/culljoin/culljoin/model/Limit", name := "offset", desc := "()J" } : Jvm.MethodName) prog_19_method_3_code (1 : Nat) (Option.some Jvm.ClassFile.FieldType.long)]
set_option maxRecDepth 65536 in
theorem codes_eq : words1.filter isCode = codes1 := rfl
theorem w_codes : ∀ c ∈ words1.filter isCode, c.before args0 about1 = true := by
  rw [codes_eq]
  intro c hc
  simp only [codes1, List.mem_cons, List.not_mem_nil, or_false] at hc
  rcases hc with rfl | rfl | rfl | rfl | rfl | rfl | rfl | rfl | rfl
  · exact w_c0
  · exact w_c1
  · exact w_c2
  · exact w_c3
  · exact w_c4
  · exact w_c5
  · exact w_c6
  · exact w_c7
  · exact w_c8
set_option maxRecDepth 65536 in
theorem w_t1 : (words1.take 24).all (fun c => isCode c || c.before args0 about1) = true := by decide +kernel
set_option maxRecDepth 65536 in
theorem w_t2 : (words1.drop 24).all (fun c => isCode c || c.before args0 about1) = true := by decide +kernel
theorem w_tables : (allAtoms (Jvm.Cond.code x code maxLocals ret :: tables_1)).before args0 about1 = true := by
  rw [allAtoms_all]
  show words1.all (fun c => c.before args0 about1) = true
  refine all_split ?_ w_codes
  rw [← List.take_append_drop 24 words1, List.all_append, w_t1, w_t2]
  rfl
set_option maxRecDepth 65536 in
theorem w_case : (Jvm.Cond.and given_1 narrow_1).before args0 about1 = true := by decide +kernel
theorem w_applies : (headSpec (Jvm.Cond.code x code maxLocals ret :: tables_1) room_1).applies x e0.platform about1 = true :=
  (Spec.applies_iff w_frames).mpr ⟨w_running, w_runnable, w_alone, w_named, w_hears, w_ripe, w_room, w_tables⟩
theorem atStart : AtStart classFile x code maxLocals ret World_1 tables_1 room_1 Calls_1 rest_1 Pre_1 launch0 p0 e0 about1 theMethod args0 below0 :=
  ⟨lists_1, trivial, launch0.admits_env _ _ _, launch0.least_env, fairChoices_fair.cas, fairChoices_fair.clock, w_frames, w_args, w_heap, w_applies, trivial, trivial, w_case⟩
end start1
theorem witness_1 : WitnessClaimed_1 := ⟨start1.p0, start1.e0, start1.about1, start1.theMethod, start1.args0, start1.below0, start1.atStart⟩
end Jvm.Pilot.@@N@@
