import JvmDerived
import JvmDerived.Pilot.@@N@@Statement
import JvmDerived.Pilot.@@N@@Code
set_option linter.unusedVariables false
set_option linter.unusedSimpArgs false
namespace Jvm.Pilot.@@N@@
open Jvm Jvm.ClassFile Sem Op Lib Jvm.Free Jvm.Stand Jvm.LawKit Jvm.RoadKit Bundle Jvm.Pilot.@@N@@.Jvm.D
/-- the run from A comes to a return that Q speaks of -/
def own_Fin (p : Program) (e : Env) (below : List Frame) (s : State) (kc ks : Nat) (Q : Option Value → Heap → List Loc → Prop) (A : State) : Prop :=
  ∃ s₂ o, Steps p.tables e below A s₂ ∧ s₂.status = .running ∧ Ended s₂ below o ∧ ∃ v L, o = .returned v ∧ Q v s₂.heap L ∧ FrameEnd s o s₂ L kc ks
section Own
variable {p : Program} {l : Launch} {e : Env} {R : Room} {s : State} {m : MethodId} {args : Array Value} {below : List Frame} {meth : Method} {c : Code} {T : State} {locs : List Loc} {cells slots kc ks : Nat} {Q : Option Value → Heap → List Loc → Prop}
theorem own_back {A B : State} (h : ∀ t, Steps p.tables e below B t → Steps p.tables e below A t) (k : own_Fin p e below s kc ks Q B) : own_Fin p e below s kc ks Q A := by
  obtain ⟨s2, o, h1, r⟩ := k
  exact ⟨s2, o, h _ h1, r⟩
theorem own_retN (X : Stand p l e R s m args below meth c T locs cells slots) (hx : p.tables.exec = Jvm.exec) (hlk : meth.locks = false) {t : FieldType} (ht : t = .boolean ∨ t = .byte ∨ t = .char ∨ t = .short) {pc : Nat} {Ls : Array Slot} {z : Int32} {rest : List Value} (hret : meth.sig.returnType = some t) (hd : decode c.code pc = .ok (.ireturn, 1)) (hc : cells ≤ kc) (hs : slots ≤ ks)
    (hQ : Q (some (.int (nar t z))) T.heap locs) : own_Fin p e below s kc ks Q (T.setTop (mkF m pc Ls (.int z :: rest))) := by
  obtain ⟨fs, hr, hrun, hended, hW, hsame⟩ := X.leave (v := some (.int (nar t z))) (fun h => by rw [hret] at h; cases h) hlk
  exact ⟨_, _, retN X hx hret ht hd hr, hrun, hended, _, _, rfl, hQ, ⟨_, rfl⟩, hW, hsame.mono hc hs⟩
theorem own_retZ (X : Stand p l e R s m args below meth c T locs cells slots) (hx : p.tables.exec = Jvm.exec) (hlk : meth.locks = false) {pc : Nat} {Ls : Array Slot} {z : Int32} {rest : List Value} (hret : meth.sig.returnType = some .boolean) (hd : decode c.code pc = .ok (.ireturn, 1)) (hc : cells ≤ kc) (hs : slots ≤ ks)
    (hQ : Q (some (.int (z &&& 1))) T.heap locs) : own_Fin p e below s kc ks Q (T.setTop (mkF m pc Ls (.int z :: rest))) := own_retN X hx hlk (Or.inl rfl) hret hd hc hs hQ
theorem own_retB (X : Stand p l e R s m args below meth c T locs cells slots) (hx : p.tables.exec = Jvm.exec) (hlk : meth.locks = false) {pc : Nat} {Ls : Array Slot} {z : Int32} {rest : List Value} (hret : meth.sig.returnType = some .byte) (hd : decode c.code pc = .ok (.ireturn, 1)) (hc : cells ≤ kc) (hs : slots ≤ ks)
    (hQ : Q (some (.int (nar .byte z))) T.heap locs) : own_Fin p e below s kc ks Q (T.setTop (mkF m pc Ls (.int z :: rest))) := own_retN X hx hlk (Or.inr (Or.inl rfl)) hret hd hc hs hQ
theorem own_retI (X : Stand p l e R s m args below meth c T locs cells slots) (hx : p.tables.exec = Jvm.exec) (hlk : meth.locks = false) {pc : Nat} {Ls : Array Slot} {z : Int32} {rest : List Value} (hret : meth.sig.returnType = some .int) (hd : decode c.code pc = .ok (.ireturn, 1)) (hc : cells ≤ kc) (hs : slots ≤ ks)
    (hQ : Q (some (.int z)) T.heap locs) : own_Fin p e below s kc ks Q (T.setTop (mkF m pc Ls (.int z :: rest))) := by
  obtain ⟨fs, hr, hrun, hended, hW, hsame⟩ := X.leave (v := some (.int z)) (fun h => by rw [hret] at h; cases h) hlk
  exact ⟨_, _, retOut X hx hret rfl (Or.inl ⟨rfl, Or.inl rfl, z, rfl⟩) hd hr, hrun, hended, _, _, rfl, hQ, ⟨_, rfl⟩, hW, hsame.mono hc hs⟩
theorem own_retJ (X : Stand p l e R s m args below meth c T locs cells slots) (hx : p.tables.exec = Jvm.exec) (hlk : meth.locks = false) {pc : Nat} {Ls : Array Slot} {z : Int64} {rest : List Value} (hret : meth.sig.returnType = some .long) (hd : decode c.code pc = .ok (.lreturn, 1)) (hc : cells ≤ kc) (hs : slots ≤ ks)
    (hQ : Q (some (.long z)) T.heap locs) : own_Fin p e below s kc ks Q (T.setTop (mkF m pc Ls (.long z :: rest))) := by
  obtain ⟨fs, hr, hrun, hended, hW, hsame⟩ := X.leave (v := some (.long z)) (fun h => by rw [hret] at h; cases h) hlk
  exact ⟨_, _, retOut X hx hret rfl (Or.inr (Or.inl ⟨rfl, rfl, z, rfl⟩)) hd hr, hrun, hended, _, _, rfl, hQ, ⟨_, rfl⟩, hW, hsame.mono hc hs⟩
theorem own_retA (X : Stand p l e R s m args below meth c T locs cells slots) (hx : p.tables.exec = Jvm.exec) (hlk : meth.locks = false) {pc : Nat} {Ls : Array Slot} {w : Value} {rest : List Value} {t : FieldType} (hret : meth.sig.returnType = some t) (ht : t.isReference = true) (hw : w.isRef = true) (hd : decode c.code pc = .ok (.areturn, 1)) (hc : cells ≤ kc) (hs : slots ≤ ks)
    (hQ : Q (some w) T.heap locs) : own_Fin p e below s kc ks Q (T.setTop (mkF m pc Ls (w :: rest))) := by
  obtain ⟨fs, hr, hrun, hended, hW, hsame⟩ := X.leave (v := some w) (fun h => by rw [hret] at h; cases h) hlk
  have hn : narrow t w = w := by cases t <;> first | rfl | cases ht
  exact ⟨_, _, retOut X hx hret hn (Or.inr (Or.inr (Or.inr (Or.inr ⟨rfl, ht, hw⟩)))) hd hr, hrun, hended, _, _, rfl, hQ, ⟨_, rfl⟩, hW, hsame.mono hc hs⟩
theorem own_ret0 (X : Stand p l e R s m args below meth c T locs cells slots) (hx : p.tables.exec = Jvm.exec) (hlk : meth.locks = false) {pc : Nat} {Ls : Array Slot} (hret : meth.sig.returnType = none) (hd : decode c.code pc = .ok (.return_, 1)) (hc : cells ≤ kc) (hs : slots ≤ ks)
    (hQ : Q none T.heap locs) : own_Fin p e below s kc ks Q (T.setTop (mkF m pc Ls [])) := by
  obtain ⟨fs, hr, hrun, hended, hW, hsame⟩ := X.leave (v := none) (fun _ => rfl) hlk
  exact ⟨_, _, X.returnOut hx hret hd hr, hrun, hended, _, _, rfl, hQ, ⟨_, rfl⟩, hW, hsame.mono hc hs⟩
end Own
theorem own_fldAt {args : Array Value} {s : State} {t : Term} {a : Addr} {C n d : String} {k : Int32} (ev : t.eval args s none [] s = some (.ref a)) (h : (Cond.eq (Term.field t C n d) (Term.int k)).value args s none s [] = some true) : Fld s s.heap a C n d (.int k) := by
  obtain ⟨x, y, h1, h2, k1, k2⟩ := cmp_v (Or.inl h)
  have h2' : y = .int k := by simpa [Term.eval] using h2.symm
  subst h2'
  obtain ⟨z, rfl⟩ := k2
  have e : (Cond.eq (Term.field t C n d) (Term.int k)).value args s none s [] = some (decide (z = k)) := by simp [Cond.value, h1, h2]
  have hz : z = k := gotT e h
  subst hz
  rw [fld_at ev] at h1
  exact Fld.start h1
def own_named (m : Int32) (wR wU : Addr) : Value := if (m &&& (2 : Int32)) = 0 then (if (m &&& (1 : Int32)) = 0 then .null else .ref wU) else .ref wR
def own_low (m : Int32) : Int32 := ((m % (4 : Int32)) + (4 : Int32)) % (4 : Int32)
theorem own_named1 (wR wU : Addr) : own_named (1 : Int32) wR wU = .ref wU := by
  rw [own_named, if_pos (by decide), if_neg (by decide)]
theorem own_named2 (wR wU : Addr) : own_named (2 : Int32) wR wU = .ref wR := by
  rw [own_named, if_neg (by decide)]
theorem own_nat (c : Int32) : c.toInt = if c.toBitVec.toNat < 2147483648 then (c.toBitVec.toNat : Int) else (c.toBitVec.toNat : Int) - 4294967296 := by
  show c.toBitVec.toInt = _
  rw [BitVec.toInt_eq_toNat_cond]
  simp only [show (2 * c.toBitVec.toNat < 2 ^ 32) ↔ c.toBitVec.toNat < 2147483648 from by omega]
  split <;> rfl
theorem own_tm (x : Int) : x.tmod 4 = if 0 ≤ x then x % 4 else -((-x) % 4) := by
  split
  · rename_i h
    exact Int.tmod_eq_emod_of_nonneg h
  · rename_i h
    have h1 : (-(-x)).tmod 4 = -((-x).tmod 4) := Int.neg_tmod _ _
    rw [Int.neg_neg] at h1
    rw [h1, Int.tmod_eq_emod_of_nonneg (by omega)]
theorem own_lowI (m : Int32) : (own_low m).toInt = (m.toBitVec.toNat % 4 : Nat) := by
  have h := own_nat m
  have hl : m.toBitVec.toNat < 4294967296 := m.toBitVec.isLt
  have e4 : (4 : Int32).toInt = 4 := rfl
  have h1 : (m % (4 : Int32)).toInt = m.toInt.tmod 4 := by rw [Int32.toInt_mod, e4]
  have t1 := own_tm m.toInt
  have b1 : -4 < m.toInt.tmod 4 ∧ m.toInt.tmod 4 < 4 := by split at t1 <;> omega
  have h2 : (m % (4 : Int32) + (4 : Int32)).toInt = m.toInt.tmod 4 + 4 := by
    rw [Int32.toInt_add, h1, e4]
    rw [Int.bmod_eq_of_le] <;> omega
  rw [own_low, Int32.toInt_mod, h2, e4, own_tm, if_pos (by omega)]
  split at t1 <;> split at h <;> omega
theorem own_b2 (m : Int32) : (m &&& (2 : Int32)) = 0 ↔ m.toBitVec.toNat % 4 < 2 := by
  have e : ∀ n : Nat, n &&& 2 = (n % 4) &&& 2 := fun n => by
    rw [show n % 4 = n &&& 3 from (Nat.and_two_pow_sub_one_eq_mod n 2).symm, Nat.and_assoc]
    rfl
  have d : ∀ k : Fin 4, (k.val &&& 2 = 0 ↔ k.val < 2) := by decide
  have q : (m &&& (2 : Int32)) = 0 ↔ m.toBitVec.toNat &&& 2 = 0 := by
    rw [← Int32.toBitVec_inj, ← BitVec.toNat_inj]
    simp [Int32.toBitVec_and, BitVec.toNat_and]
  rw [q, e]
  exact d ⟨m.toBitVec.toNat % 4, Nat.mod_lt _ (by decide)⟩
theorem own_b1 (m : Int32) : (m &&& (1 : Int32)) = 0 ↔ m.toBitVec.toNat % 2 = 0 := by
  have q : (m &&& (1 : Int32)) = 0 ↔ m.toBitVec.toNat &&& 1 = 0 := by
    rw [← Int32.toBitVec_inj, ← BitVec.toNat_inj]
    simp [Int32.toBitVec_and, BitVec.toNat_and]
  rw [q, Nat.and_one_is_mod]
theorem own_low0 {m : Int32} (h2 : (m &&& (2 : Int32)) = (0 : Int32)) (h1 : (m &&& (1 : Int32)) = (0 : Int32)) : own_low m = (0 : Int32) := by
  rw [own_b2] at h2
  rw [own_b1] at h1
  apply Int32.toInt_inj.mp
  rw [own_lowI]
  show _ = (0 : Int)
  omega
theorem own_low1 {m : Int32} (h2 : (m &&& (2 : Int32)) = (0 : Int32)) (h1 : ¬ (m &&& (1 : Int32)) = (0 : Int32)) : own_low m = (1 : Int32) := by
  rw [own_b2] at h2
  rw [own_b1] at h1
  apply Int32.toInt_inj.mp
  rw [own_lowI]
  show _ = (1 : Int)
  omega
theorem own_lowN0 {m : Int32} (h : ¬ (m &&& (2 : Int32)) = (0 : Int32) ∨ ¬ (m &&& (1 : Int32)) = (0 : Int32)) : ¬ own_low m = (0 : Int32) := fun e => by
  rw [own_b2, own_b1] at h
  have q := own_lowI m
  rw [e] at q
  have q' : (0 : Int) = (m.toBitVec.toNat % 4 : Nat) := q
  omega
theorem own_lowN1 {m : Int32} (h : ¬ (m &&& (2 : Int32)) = (0 : Int32)) : ¬ own_low m = (1 : Int32) := fun e => by
  rw [own_b2] at h
  have q := own_lowI m
  rw [e] at q
  have q' : (1 : Int) = (m.toBitVec.toNat % 4 : Nat) := q
  omega
theorem d1_0 : decode prog_69_method_5_code 0 = .ok (.iload_n 0, 1) := by decide +kernel
theorem d1_1 : decode prog_69_method_5_code 1 = .ok (.getstatic 3, 3) := by decide +kernel
theorem d1_4 : decode prog_69_method_5_code 4 = .ok (.getfield 29, 3) := by decide +kernel
theorem d1_7 : decode prog_69_method_5_code 7 = .ok (.iand, 1) := by decide +kernel
theorem d1_8 : decode prog_69_method_5_code 8 = .ok (.ifCond .eq 7, 3) := by decide +kernel
theorem d1_11 : decode prog_69_method_5_code 11 = .ok (.getstatic 3, 3) := by decide +kernel
theorem d1_14 : decode prog_69_method_5_code 14 = .ok (.areturn, 1) := by decide +kernel
theorem d1_15 : decode prog_69_method_5_code 15 = .ok (.iload_n 0, 1) := by decide +kernel
theorem d1_16 : decode prog_69_method_5_code 16 = .ok (.getstatic 7, 3) := by decide +kernel
theorem d1_19 : decode prog_69_method_5_code 19 = .ok (.getfield 29, 3) := by decide +kernel
theorem d1_22 : decode prog_69_method_5_code 22 = .ok (.iand, 1) := by decide +kernel
theorem d1_23 : decode prog_69_method_5_code 23 = .ok (.ifCond .eq 9, 3) := by decide +kernel
theorem d1_26 : decode prog_69_method_5_code 26 = .ok (.getstatic 7, 3) := by decide +kernel
theorem d1_29 : decode prog_69_method_5_code 29 = .ok (.goto 4, 3) := by decide +kernel
theorem d1_32 : decode prog_69_method_5_code 32 = .ok (.aconst_null, 1) := by decide +kernel
theorem d1_33 : decode prog_69_method_5_code 33 = .ok (.areturn, 1) := by decide +kernel
theorem pn_1 : plainName "com/example/occoquan/occoquan/Service" = true := by first | (simp [plainName, overriddenIn]; done) | decide +kernel
theorem ef_1 (m : MethodId) (x0 : Int32) : entryFrame m #[(.int x0)] 1 = mkF m 0 #[.val (.int x0)] [] := by first | (simp [entryFrame, mkF, argsToLocals, Value.category]; done) | rfl
def Q1 (Z : State) (p0 : Int32) (w_RELIABLE : Addr) (w_UNRELIABLE : Addr) (h0 : Heap) (n0 : Nat) (v : Option Value) (h : Heap) (L : List Loc) : Prop := v = some (own_named p0 w_RELIABLE w_UNRELIABLE) ∧ Fr n0 L ∧ h = h0
set_option maxRecDepth 65536 in
set_option maxHeartbeats 40000000 in
theorem rm1 (l : Launch) (Z : State) (a0 : Array Value) (hw : ∀ d ∈ tables_1, d.before a0 Z = true) (ws : List Jvm.Cond) (p0 : Int32) (w_RELIABLE : Addr) (w_UNRELIABLE : Addr) (h0 : Heap) (n0 : Nat) (Z0 : n0 ≤ h0.size) (S_RELIABLE : Sta Z h0 "com/example/occoquan/occoquan/Service" "RELIABLE" "Lcom/example/occoquan/occoquan/Service;" (.ref w_RELIABLE)) (S_UNRELIABLE : Sta Z h0 "com/example/occoquan/occoquan/Service" "UNRELIABLE" "Lcom/example/occoquan/occoquan/Service;" (.ref w_UNRELIABLE)) (O_RELIABLE : Fld Z h0 w_RELIABLE "com/example/occoquan/occoquan/Service" "mode" "I" (.int (2 : Int32))) (O_UNRELIABLE : Fld Z h0 w_UNRELIABLE "com/example/occoquan/occoquan/Service" "mode" "I" (.int (1 : Int32))) :
    MetFree l (⟨"com/example/occoquan/occoquan/Service", "named", "(I)Lcom/example/occoquan/occoquan/Service;"⟩ : MethodName) (head1 (Jvm.Cond.code (⟨"com/example/occoquan/occoquan/Service", "named", "(I)Lcom/example/occoquan/occoquan/Service;"⟩ : MethodName) prog_69_method_5_code 1 (some (.object "com/example/occoquan/occoquan/Service")) :: ws) ({ frames := 0, cells := 0, slots := 0, locals := 0 } : Room)) (fun a U => a = #[(.int p0)] ∧ Z.Warmed39 U.vm ∧ U.heap = h0) (fun _ _ _ _ _ => True) (fun _ U o U' => ∃ v L, o = .returned v ∧ Q1 Z p0 w_RELIABLE w_UNRELIABLE h0 n0 v U'.heap L ∧ FrameEnd U o U' L ({ frames := 0, cells := 0, slots := 0, locals := 0 } : Room).cells ({ frames := 0, cells := 0, slots := 0, locals := 0 } : Room).slots) := by
  refine MetFree.of_bodySF (plainFor_of_name pn_1) hisR ?_
  intro p e s m args below meth c s₁ Bd hml0 hP hK
  obtain ⟨rfl, hZ, hh⟩ := hP
  have hx := Bd.exec
  have hby := Bd.bytes
  have hml : c.maxLocals = 1 := hml0
  have hown : s.vm.findClass "com/example/occoquan/occoquan/Service" = some m.cls := findClass_of_methodNamed Bd.named
  have hnm := (name_of_methodNamed Bd.named Bd.method).1
  have X0 : Stand p l e ({ frames := 0, cells := 0, slots := 0, locals := 0 } : Room) s m #[(.int p0)] below meth c s₁ [] 0 0 := Stand.of_body Bd
  have e0 : s₁.heap = h0 := by rw [← hh, Bd.state]; rfl
  have N0 := Fr.nil n0
  obtain ⟨F, hF⟩ : ∃ F : State → Prop, F = own_Fin p e below s ({ frames := 0, cells := 0, slots := 0, locals := 0 } : Room).cells ({ frames := 0, cells := 0, slots := 0, locals := 0 } : Room).slots (fun v h L => Q1 Z p0 w_RELIABLE w_UNRELIABLE h0 n0 v h L) := ⟨_, rfl⟩
  have bk : ∀ {A B : State}, (∀ t, Steps p.tables e below B t → Steps p.tables e below A t) → F B → F A := by
    intro A B h k
    rw [hF] at k ⊢
    exact own_back h k
  suffices hgo : F (s₁.setTop (mkF m 0 #[.val (.int p0)] [])) by
    have hgo' := bk (fun t k => castTop (T := s₁) (ef_1 m p0) k) hgo
    rw [hF] at hgo'
    exact hgo'
  show F (s₁.setTop (mkF m 0 #[.val (.int p0)] []))
  refine bk (fun t k => XS.iloadN X0.here hx rfl (hb hby d1_0) rfl k) ?_
  show F (s₁.setTop (mkF m 1 #[.val (.int p0)] [(.int p0)]))
  obtain ⟨T1, X1, e1, st1⟩ := getS2 X0 hx hZ hown (host := "") (Or.inl (hw _ (List.mem_of_getElem? (i := 4) rfl))) Via.refl e0 S_RELIABLE (g := (mkF m 1 #[.val (.int p0)] [(.int p0)])) rfl (hb hby d1_1)
  refine bk (fun t k => st1 t k) ?_
  show F (T1.setTop (mkF m 4 #[.val (.int p0)] [(.ref w_RELIABLE), (.int p0)]))
  obtain ⟨T2, X2, e2, st2⟩ := getF X1 hx hZ hown (host := "") (Or.inl (hw _ (List.mem_of_getElem? (i := 6) rfl))) Via.refl e1 O_RELIABLE (g := (mkF m 4 #[.val (.int p0)] [(.ref w_RELIABLE), (.int p0)])) rfl rfl (hb hby d1_4)
  refine bk (fun t k => st2 t k) ?_
  show F (T2.setTop (mkF m 7 #[.val (.int p0)] [(.int (2 : Int32)), (.int p0)]))
  refine bk (fun t k => XS.iand X2.here hx rfl (hb hby d1_7) rfl k) ?_
  show F (T2.setTop (mkF m 8 #[.val (.int p0)] [(.int (p0 &&& (2 : Int32)))]))
  by_cases hc8_3 : (p0 &&& (2 : Int32)) = (0 : Int32)
  · refine bk (fun t k => XS.ifYes X2.here hx rfl (pc0 := 8) (pc' := 15) rfl (hb hby d1_8) rfl ((if0 _ _).trans (teq hc8_3).1) (by decide) (by decide) k) ?_
    show F (T2.setTop (mkF m 15 #[.val (.int p0)] []))
    refine bk (fun t k => XS.iloadN X2.here hx rfl (hb hby d1_15) rfl k) ?_
    show F (T2.setTop (mkF m 16 #[.val (.int p0)] [(.int p0)]))
    obtain ⟨T4, X4, e4, st4⟩ := getS2 X2 hx hZ hown (host := "") (Or.inl (hw _ (List.mem_of_getElem? (i := 8) rfl))) Via.refl e2 S_UNRELIABLE (g := (mkF m 16 #[.val (.int p0)] [(.int p0)])) rfl (hb hby d1_16)
    refine bk (fun t k => st4 t k) ?_
    show F (T4.setTop (mkF m 19 #[.val (.int p0)] [(.ref w_UNRELIABLE), (.int p0)]))
    obtain ⟨T5, X5, e5, st5⟩ := getF X4 hx hZ hown (host := "") (Or.inl (hw _ (List.mem_of_getElem? (i := 6) rfl))) Via.refl e4 O_UNRELIABLE (g := (mkF m 19 #[.val (.int p0)] [(.ref w_UNRELIABLE), (.int p0)])) rfl rfl (hb hby d1_19)
    refine bk (fun t k => st5 t k) ?_
    show F (T5.setTop (mkF m 22 #[.val (.int p0)] [(.int (1 : Int32)), (.int p0)]))
    refine bk (fun t k => XS.iand X5.here hx rfl (hb hby d1_22) rfl k) ?_
    show F (T5.setTop (mkF m 23 #[.val (.int p0)] [(.int (p0 &&& (1 : Int32)))]))
    by_cases hc23_6 : (p0 &&& (1 : Int32)) = (0 : Int32)
    · refine bk (fun t k => XS.ifYes X5.here hx rfl (pc0 := 23) (pc' := 32) rfl (hb hby d1_23) rfl ((if0 _ _).trans (teq hc23_6).1) (by decide) (by decide) k) ?_
      show F (T5.setTop (mkF m 32 #[.val (.int p0)] []))
      refine bk (fun t k => XS.aconstNull X5.here hx rfl (hb hby d1_32) k) ?_
      show F (T5.setTop (mkF m 33 #[.val (.int p0)] [.null]))
      rw [hF]
      refine own_retA X5 hx Bd.notSynchronized Bd.returns rfl rfl (hb hby d1_33) (by decide) (by decide) ?_
      rw [e5]
      refine ⟨?_, N0, rfl⟩
      show some (.null : Value) = some (own_named p0 w_RELIABLE w_UNRELIABLE)
      simp [own_named, hc8_3, hc23_6]
    · refine bk (fun t k => XS.ifNo X5.here hx rfl (hb hby d1_23) rfl ((if0 _ _).trans (feq hc23_6).1) k) ?_
      show F (T5.setTop (mkF m 26 #[.val (.int p0)] []))
      obtain ⟨T7, X7, e7, st7⟩ := getS2 X5 hx hZ hown (host := "") (Or.inl (hw _ (List.mem_of_getElem? (i := 8) rfl))) Via.refl e5 S_UNRELIABLE (g := (mkF m 26 #[.val (.int p0)] [])) rfl (hb hby d1_26)
      refine bk (fun t k => st7 t k) ?_
      show F (T7.setTop (mkF m 29 #[.val (.int p0)] [(.ref w_UNRELIABLE)]))
      refine bk (fun t k => XS.goto X7.here hx rfl (pc0 := 29) (pc' := 33) rfl (hb hby d1_29) (by decide) (by decide) k) ?_
      show F (T7.setTop (mkF m 33 #[.val (.int p0)] [(.ref w_UNRELIABLE)]))
      rw [hF]
      refine own_retA X7 hx Bd.notSynchronized Bd.returns rfl rfl (hb hby d1_33) (by decide) (by decide) ?_
      rw [e7]
      refine ⟨?_, N0, rfl⟩
      show some ((.ref w_UNRELIABLE) : Value) = some (own_named p0 w_RELIABLE w_UNRELIABLE)
      simp [own_named, hc8_3, hc23_6]
  · refine bk (fun t k => XS.ifNo X2.here hx rfl (hb hby d1_8) rfl ((if0 _ _).trans (feq hc8_3).1) k) ?_
    show F (T2.setTop (mkF m 11 #[.val (.int p0)] []))
    obtain ⟨T8, X8, e8, st8⟩ := getS2 X2 hx hZ hown (host := "") (Or.inl (hw _ (List.mem_of_getElem? (i := 4) rfl))) Via.refl e2 S_RELIABLE (g := (mkF m 11 #[.val (.int p0)] [])) rfl (hb hby d1_11)
    refine bk (fun t k => st8 t k) ?_
    show F (T8.setTop (mkF m 14 #[.val (.int p0)] [(.ref w_RELIABLE)]))
    rw [hF]
    refine own_retA X8 hx Bd.notSynchronized Bd.returns rfl rfl (hb hby d1_14) (by decide) (by decide) ?_
    rw [e8]
    refine ⟨?_, N0, rfl⟩
    show some ((.ref w_RELIABLE) : Value) = some (own_named p0 w_RELIABLE w_UNRELIABLE)
    simp [own_named, hc8_3]
theorem d2_0 : decode prog_69_method_4_code 0 = .ok (.aload_n 0, 1) := by decide +kernel
theorem d2_1 : decode prog_69_method_4_code 1 = .ok (.getfield 29, 3) := by decide +kernel
theorem d2_4 : decode prog_69_method_4_code 4 = .ok (.ireturn, 1) := by decide +kernel
theorem pn_2 : plainName "com/example/occoquan/occoquan/Service" = true := by first | (simp [plainName, overriddenIn]; done) | decide +kernel
theorem ef_2 (m : MethodId) (x0 : Addr) : entryFrame m #[(.ref x0)] 1 = mkF m 0 #[.val (.ref x0)] [] := by first | (simp [entryFrame, mkF, argsToLocals, Value.category]; done) | rfl
def Q2 (Z : State) (o0 : Addr) (kk : Int32) (h0 : Heap) (n0 : Nat) (v : Option Value) (h : Heap) (L : List Loc) : Prop := v = some (.int kk) ∧ Fr n0 L ∧ h = h0
set_option maxRecDepth 65536 in
set_option maxHeartbeats 40000000 in
theorem rm2 (l : Launch) (Z : State) (a0 : Array Value) (hw : ∀ d ∈ tables_1, d.before a0 Z = true) (ws : List Jvm.Cond) (o0 : Addr) (kk : Int32) (h0 : Heap) (n0 : Nat) (Z0 : n0 ≤ h0.size) (O_o : Fld Z h0 o0 "com/example/occoquan/occoquan/Service" "mode" "I" (.int kk)) :
    MetFree l (⟨"com/example/occoquan/occoquan/Service", "mode", "()I"⟩ : MethodName) (head1 (Jvm.Cond.code (⟨"com/example/occoquan/occoquan/Service", "mode", "()I"⟩ : MethodName) prog_69_method_4_code 1 (some .int) :: ws) ({ frames := 0, cells := 0, slots := 0, locals := 0 } : Room)) (fun a U => a = #[(.ref o0)] ∧ Z.Warmed39 U.vm ∧ U.heap = h0) (fun _ _ _ _ _ => True) (fun _ U o U' => ∃ v L, o = .returned v ∧ Q2 Z o0 kk h0 n0 v U'.heap L ∧ FrameEnd U o U' L ({ frames := 0, cells := 0, slots := 0, locals := 0 } : Room).cells ({ frames := 0, cells := 0, slots := 0, locals := 0 } : Room).slots) := by
  refine MetFree.of_bodySF (plainFor_of_name pn_2) hisR ?_
  intro p e s m args below meth c s₁ Bd hml0 hP hK
  obtain ⟨rfl, hZ, hh⟩ := hP
  have hx := Bd.exec
  have hby := Bd.bytes
  have hml : c.maxLocals = 1 := hml0
  have hown : s.vm.findClass "com/example/occoquan/occoquan/Service" = some m.cls := findClass_of_methodNamed Bd.named
  have hnm := (name_of_methodNamed Bd.named Bd.method).1
  have X0 : Stand p l e ({ frames := 0, cells := 0, slots := 0, locals := 0 } : Room) s m #[(.ref o0)] below meth c s₁ [] 0 0 := Stand.of_body Bd
  have e0 : s₁.heap = h0 := by rw [← hh, Bd.state]; rfl
  have N0 := Fr.nil n0
  obtain ⟨F, hF⟩ : ∃ F : State → Prop, F = own_Fin p e below s ({ frames := 0, cells := 0, slots := 0, locals := 0 } : Room).cells ({ frames := 0, cells := 0, slots := 0, locals := 0 } : Room).slots (fun v h L => Q2 Z o0 kk h0 n0 v h L) := ⟨_, rfl⟩
  have bk : ∀ {A B : State}, (∀ t, Steps p.tables e below B t → Steps p.tables e below A t) → F B → F A := by
    intro A B h k
    rw [hF] at k ⊢
    exact own_back h k
  suffices hgo : F (s₁.setTop (mkF m 0 #[.val (.ref o0)] [])) by
    have hgo' := bk (fun t k => castTop (T := s₁) (ef_2 m o0) k) hgo
    rw [hF] at hgo'
    exact hgo'
  show F (s₁.setTop (mkF m 0 #[.val (.ref o0)] []))
  refine bk (fun t k => XS.aloadN X0.here hx rfl (hb hby d2_0) rfl rfl k) ?_
  show F (s₁.setTop (mkF m 1 #[.val (.ref o0)] [(.ref o0)]))
  obtain ⟨T1, X1, e1, st1⟩ := getF X0 hx hZ hown (host := "") (Or.inl (hw _ (List.mem_of_getElem? (i := 6) rfl))) Via.refl e0 O_o (g := (mkF m 1 #[.val (.ref o0)] [(.ref o0)])) rfl rfl (hb hby d2_1)
  refine bk (fun t k => st1 t k) ?_
  show F (T1.setTop (mkF m 4 #[.val (.ref o0)] [(.int kk)]))
  rw [hF]
  refine own_retI X1 hx Bd.notSynchronized Bd.returns (hb hby d2_4) (by decide) (by decide) ?_
  rw [e1]
  exact ⟨rfl, N0, rfl⟩
theorem pd0__I_Lcom_example_occoquan_occoquan_Service_ : parseMethodDescriptor "(I)Lcom/example/occoquan/occoquan/Service;" = some ⟨[.int], some (.object "com/example/occoquan/occoquan/Service")⟩ := by decide +kernel
theorem pd0___I : parseMethodDescriptor "()I" = some ⟨[], some .int⟩ := by decide +kernel
theorem pn_0 : plainName "com/example/occoquan/occoquan/ServiceNamedPinLaw" = true := by first | (simp [plainName, overriddenIn]; done) | decide +kernel
theorem ef_0 (m : MethodId) (x0 : Int32) : entryFrame m #[(.int x0)] maxLocals = mkF m 0 #[.val (.int x0), .unset, .unset, .unset, .unset] [] := by first | (simp [entryFrame, mkF, argsToLocals, Value.category, maxLocals]; done) | rfl
def Q0 (Z : State) (p0 : Int32) (w_RELIABLE : Addr) (w_UNRELIABLE : Addr) (h0 : Heap) (n0 : Nat) (v : Option Value) (h : Heap) (L : List Loc) : Prop := v = some (.int (1 : Int32)) ∧ Fr n0 L
set_option maxRecDepth 65536 in
set_option maxHeartbeats 40000000 in
theorem rm0 (l : Launch) (Z : State) (a0 : Array Value) (hw : ∀ d ∈ tables_1, d.before a0 Z = true) (ws : List Jvm.Cond) (p0 : Int32) (w_RELIABLE : Addr) (w_UNRELIABLE : Addr) (h0 : Heap) (n0 : Nat) (Z0 : n0 ≤ h0.size) (S_RELIABLE : Sta Z h0 "com/example/occoquan/occoquan/Service" "RELIABLE" "Lcom/example/occoquan/occoquan/Service;" (.ref w_RELIABLE)) (S_UNRELIABLE : Sta Z h0 "com/example/occoquan/occoquan/Service" "UNRELIABLE" "Lcom/example/occoquan/occoquan/Service;" (.ref w_UNRELIABLE)) (E_RELIABLE : Exa Z h0 w_RELIABLE "com/example/occoquan/occoquan/Service") (E_UNRELIABLE : Exa Z h0 w_UNRELIABLE "com/example/occoquan/occoquan/Service") (O_RELIABLE : Fld Z h0 w_RELIABLE "com/example/occoquan/occoquan/Service" "mode" "I" (.int (2 : Int32))) (O_UNRELIABLE : Fld Z h0 w_UNRELIABLE "com/example/occoquan/occoquan/Service" "mode" "I" (.int (1 : Int32))) :
    MetFree l x (head1 (Jvm.Cond.code x code maxLocals ret :: ws) room_1) (fun a U => a = #[(.int p0)] ∧ Z.Warmed39 U.vm ∧ U.heap = h0) (fun _ _ _ _ _ => True) (fun _ U o U' => ∃ v L, o = .returned v ∧ Q0 Z p0 w_RELIABLE w_UNRELIABLE h0 n0 v U'.heap L ∧ FrameEnd U o U' L room_1.cells room_1.slots) := by
  refine MetFree.of_bodySF (plainFor_of_name pn_0) hisR ?_
  intro p e s m args below meth c s₁ Bd hml0 hP hK
  obtain ⟨rfl, hZ, hh⟩ := hP
  have hx := Bd.exec
  have hby := Bd.bytes
  have hml : c.maxLocals = 5 := hml0
  have hown : s.vm.findClass "com/example/occoquan/occoquan/ServiceNamedPinLaw" = some m.cls := findClass_of_methodNamed Bd.named
  have hnm := (name_of_methodNamed Bd.named Bd.method).1
  have X0 : Stand p l e room_1 s m #[(.int p0)] below meth c s₁ [] 0 0 := Stand.of_body Bd
  have e0 : s₁.heap = h0 := by rw [← hh, Bd.state]; rfl
  have N0 := Fr.nil n0
  obtain ⟨F, hF⟩ : ∃ F : State → Prop, F = own_Fin p e below s room_1.cells room_1.slots (fun v h L => Q0 Z p0 w_RELIABLE w_UNRELIABLE h0 n0 v h L) := ⟨_, rfl⟩
  have bk : ∀ {A B : State}, (∀ t, Steps p.tables e below B t → Steps p.tables e below A t) → F B → F A := by
    intro A B h k
    rw [hF] at k ⊢
    exact own_back h k
  suffices hgo : F (s₁.setTop (mkF m 0 #[.val (.int p0), .unset, .unset, .unset, .unset] [])) by
    have hgo' := bk (fun t k => castTop (T := s₁) (ef_0 m p0) k) hgo
    rw [hF] at hgo'
    exact hgo'
  have w_0 := hw _ (List.mem_of_getElem? (i := 0) rfl)
  have w_1 := hw _ (List.mem_of_getElem? (i := 1) rfl)
  have w_2 := hw _ (List.mem_of_getElem? (i := 2) rfl)
  have w_3 := hw _ (List.mem_of_getElem? (i := 3) rfl)
  have w_10 := hw _ (List.mem_of_getElem? (i := 10) rfl)
  have w_11 := hw _ (List.mem_of_getElem? (i := 11) rfl)
  have w_12 := hw _ (List.mem_of_getElem? (i := 12) rfl)
  have w_13 := hw _ (List.mem_of_getElem? (i := 13) rfl)
  have w_14 := hw _ (List.mem_of_getElem? (i := 14) rfl)
  have w_15 := hw _ (List.mem_of_getElem? (i := 15) rfl)
  have w_16 := hw _ (List.mem_of_getElem? (i := 16) rfl)
  by_cases hc900_1 : (p0 &&& (2 : Int32)) = (0 : Int32)
  · by_cases hc901_2 : (p0 &&& (1 : Int32)) = (0 : Int32)
    · show F (s₁.setTop (mkF m 0 #[.val (.int p0), .unset, .unset, .unset, .unset] []))
      refine bk (fun t k => XS.iloadN X0.here hx rfl (hb hby at_0) rfl k) ?_
      show F (s₁.setTop (mkF m 1 #[.val (.int p0), .unset, .unset, .unset, .unset] [(.int p0)]))
      refine bk (fun t k => XS.iconst X0.here hx rfl (hb hby at_1) k) ?_
      show F (s₁.setTop (mkF m 2 #[.val (.int p0), .unset, .unset, .unset, .unset] [(.int (4 : Int32)), (.int p0)]))
      refine bk (fun t k => iremM X0 hx rfl (hb hby at_2) rfl (by decide) k) ?_
      show F (s₁.setTop (mkF m 3 #[.val (.int p0), .unset, .unset, .unset, .unset] [(.int (p0 % (4 : Int32)))]))
      refine bk (fun t k => XS.iconst X0.here hx rfl (hb hby at_3) k) ?_
      show F (s₁.setTop (mkF m 4 #[.val (.int p0), .unset, .unset, .unset, .unset] [(.int (4 : Int32)), (.int (p0 % (4 : Int32)))]))
      refine bk (fun t k => XS.iadd X0.here hx rfl (hb hby at_4) rfl k) ?_
      show F (s₁.setTop (mkF m 5 #[.val (.int p0), .unset, .unset, .unset, .unset] [(.int ((p0 % (4 : Int32)) + (4 : Int32)))]))
      refine bk (fun t k => XS.iconst X0.here hx rfl (hb hby at_5) k) ?_
      show F (s₁.setTop (mkF m 6 #[.val (.int p0), .unset, .unset, .unset, .unset] [(.int (4 : Int32)), (.int ((p0 % (4 : Int32)) + (4 : Int32)))]))
      refine bk (fun t k => iremM X0 hx rfl (hb hby at_6) rfl (by decide) k) ?_
      show F (s₁.setTop (mkF m 7 #[.val (.int p0), .unset, .unset, .unset, .unset] [(.int (own_low p0))]))
      refine bk (fun t k => XS.istoreN X0.here hx rfl (hb hby at_7) rfl (l' := #[.val (.int p0), .val (.int (own_low p0)), .unset, .unset, .unset]) rfl k) ?_
      show F (s₁.setTop (mkF m 8 #[.val (.int p0), .val (.int (own_low p0)), .unset, .unset, .unset] []))
      refine bk (fun t k => XS.iloadN X0.here hx rfl (hb hby at_8) rfl k) ?_
      show F (s₁.setTop (mkF m 9 #[.val (.int p0), .val (.int (own_low p0)), .unset, .unset, .unset] [(.int (own_low p0))]))
      refine bk (fun t k => XS.ifNo X0.here hx rfl (hb hby at_9) rfl ((if0 _ _).trans (teq (own_low0 hc900_1 hc901_2)).2) k) ?_
      show F (s₁.setTop (mkF m 12 #[.val (.int p0), .val (.int (own_low p0)), .unset, .unset, .unset] []))
      refine bk (fun t k => XS.aconstNull X0.here hx rfl (hb hby at_12) k) ?_
      show F (s₁.setTop (mkF m 13 #[.val (.int p0), .val (.int (own_low p0)), .unset, .unset, .unset] [.null]))
      refine bk (fun t k => XS.astoreN X0.here hx rfl (hb hby at_13) rfl rfl (l' := #[.val (.int p0), .val (.int (own_low p0)), .val .null, .unset, .unset]) rfl k) ?_
      show F (s₁.setTop (mkF m 14 #[.val (.int p0), .val (.int (own_low p0)), .val .null, .unset, .unset] []))
      refine bk (fun t k => XS.goto X0.here hx rfl (pc0 := 14) (pc' := 33) rfl (hb hby at_14) (by decide) (by decide) k) ?_
      show F (s₁.setTop (mkF m 33 #[.val (.int p0), .val (.int (own_low p0)), .val .null, .unset, .unset] []))
      refine bk (fun t k => XS.iloadN X0.here hx rfl (hb hby at_33) rfl k) ?_
      show F (s₁.setTop (mkF m 34 #[.val (.int p0), .val (.int (own_low p0)), .val .null, .unset, .unset] [(.int p0)]))
      obtain ⟨_, _, ⟨T3, L3, k3, n3⟩, -, X3, ⟨Lc3, hQ3, l3, y3, z3⟩, st3⟩ := Jvm.LawKit.callS X0 hx (y := (⟨"com/example/occoquan/occoquan/Service", "named", "(I)Lcom/example/occoquan/occoquan/Service;"⟩ : MethodName)) hown (mvT hZ w_0) (mvT hZ w_1) (mvT hZ w_2) (mvT hZ w_3) (by decide) (backOf (W := 0) (rm1 l Z a0 hw [] p0 w_RELIABLE w_UNRELIABLE h0 n0 Z0 S_RELIABLE S_UNRELIABLE O_RELIABLE O_UNRELIABLE) hZ w_3 w_2 (by decide) (by decide)) (g := (mkF m 34 #[.val (.int p0), .val (.int (own_low p0)), .val .null, .unset, .unset] [(.int p0)])) rfl (by rw [hml]; rfl) (argsL := [(.int p0)]) (rest := []) (lenOf pd0__I_Lcom_example_occoquan_occoquan_Service_ rfl) rfl (by show 2 * 0 + _ ≤ _; exact Nat.le_of_eq rfl) (hb hby at_34) (fun _ _ => ⟨rfl, e0, (by decide : 0 + 0 ≤ _), (by decide : 0 + 0 ≤ _)⟩)
      dsimp only [Pt.U, Pt.locs, Pt.cells, Pt.slots] at X3 l3 y3 z3 st3 hQ3
      subst l3 y3 z3
      obtain ⟨hv3, N3q, e3⟩ := hQ3
      rw [own_named, if_pos hc900_1, if_pos hc901_2] at hv3
      subst hv3
      have N3 := Fr.app N0 N3q
      refine bk (fun t k => st3 t k) ?_
      show F (T3.setTop (mkF m 37 #[.val (.int p0), .val (.int (own_low p0)), .val .null, .unset, .unset] [.null]))
      refine bk (fun t k => XS.astoreN X3.here hx rfl (hb hby at_37) rfl rfl (l' := #[.val (.int p0), .val (.int (own_low p0)), .val .null, .val .null, .unset]) rfl k) ?_
      show F (T3.setTop (mkF m 38 #[.val (.int p0), .val (.int (own_low p0)), .val .null, .val .null, .unset] []))
      obtain ⟨T4, X4, e4, st4⟩ := getS2 X3 hx hZ hown (host := "") (Or.inl w_10) Via.refl e3 S_RELIABLE (g := (mkF m 38 #[.val (.int p0), .val (.int (own_low p0)), .val .null, .val .null, .unset] [])) rfl (hb hby at_38)
      refine bk (fun t k => st4 t k) ?_
      show F (T4.setTop (mkF m 41 #[.val (.int p0), .val (.int (own_low p0)), .val .null, .val .null, .unset] [(.ref w_RELIABLE)]))
      obtain ⟨cq5, kq5, q5a, q5b, q5c⟩ := isOf hZ e4 (E_RELIABLE)
      obtain ⟨_, _, ⟨T5, L5, k5, n5⟩, -, X5, ⟨Lc5, hQ5, l5, y5, z5⟩, st5⟩ := X4.virtualBack hx (y := (⟨"com/example/occoquan/occoquan/Service", "mode", "()I"⟩ : MethodName)) (z := (⟨"com/example/occoquan/occoquan/Service", "mode", "()I"⟩ : MethodName)) hown (mvT hZ w_11) (mvT hZ w_12) (notFace_of_selects (args := #[]) (mvT hZ w_14)) (mvT hZ w_14) (mvT hZ w_13) (by decide) (backOf (W := 0) (rm2 l Z a0 hw [] w_RELIABLE (2 : Int32) h0 n0 Z0 O_RELIABLE) hZ w_15 w_2 (by decide) (by decide)) q5a q5c (g := (mkF m 41 #[.val (.int p0), .val (.int (own_low p0)), .val .null, .val .null, .unset] [(.ref w_RELIABLE)])) rfl (by rw [hml]; rfl) (Steps.refl _) (argsL := []) (rest := []) (lenOf pd0___I rfl) rfl (by show 2 * 0 + _ ≤ _; exact Nat.le_of_eq rfl) (hb hby at_41) (fun _ _ => ⟨rfl, e4, (by decide : 0 + 0 ≤ _), (by decide : 0 + 0 ≤ _)⟩)
      dsimp only [Pt.U, Pt.locs, Pt.cells, Pt.slots] at X5 l5 y5 z5 st5 hQ5
      subst l5 y5 z5
      obtain ⟨rfl, N5q, e5⟩ := hQ5
      have N5 := Fr.app N3 N5q
      refine bk (fun t k => st5.trans k) ?_
      show F (T5.setTop (mkF m 44 #[.val (.int p0), .val (.int (own_low p0)), .val .null, .val .null, .unset] [(.int (2 : Int32))]))
      obtain ⟨_, _, ⟨T6, L6, k6, n6⟩, -, X6, ⟨Lc6, hQ6, l6, y6, z6⟩, st6⟩ := Jvm.LawKit.callS X5 hx (y := (⟨"com/example/occoquan/occoquan/Service", "named", "(I)Lcom/example/occoquan/occoquan/Service;"⟩ : MethodName)) hown (mvT hZ w_0) (mvT hZ w_1) (mvT hZ w_2) (mvT hZ w_3) (by decide) (backOf (W := 0) (rm1 l Z a0 hw [] (2 : Int32) w_RELIABLE w_UNRELIABLE h0 n0 Z0 S_RELIABLE S_UNRELIABLE O_RELIABLE O_UNRELIABLE) hZ w_3 w_2 (by decide) (by decide)) (g := (mkF m 44 #[.val (.int p0), .val (.int (own_low p0)), .val .null, .val .null, .unset] [(.int (2 : Int32))])) rfl (by rw [hml]; rfl) (argsL := [(.int (2 : Int32))]) (rest := []) (lenOf pd0__I_Lcom_example_occoquan_occoquan_Service_ rfl) rfl (by show 2 * 0 + _ ≤ _; exact Nat.le_of_eq rfl) (hb hby at_44) (fun _ _ => ⟨rfl, e5, (by decide : 0 + 0 ≤ _), (by decide : 0 + 0 ≤ _)⟩)
      dsimp only [Pt.U, Pt.locs, Pt.cells, Pt.slots] at X6 l6 y6 z6 st6 hQ6
      subst l6 y6 z6
      obtain ⟨hv6, N6q, e6⟩ := hQ6
      rw [own_named2] at hv6
      subst hv6
      have N6 := Fr.app N5 N6q
      refine bk (fun t k => st6 t k) ?_
      show F (T6.setTop (mkF m 47 #[.val (.int p0), .val (.int (own_low p0)), .val .null, .val .null, .unset] [(.ref w_RELIABLE)]))
      obtain ⟨T7, X7, e7, st7⟩ := getS2 X6 hx hZ hown (host := "") (Or.inl w_10) Via.refl e6 S_RELIABLE (g := (mkF m 47 #[.val (.int p0), .val (.int (own_low p0)), .val .null, .val .null, .unset] [(.ref w_RELIABLE)])) rfl (hb hby at_47)
      refine bk (fun t k => st7 t k) ?_
      show F (T7.setTop (mkF m 50 #[.val (.int p0), .val (.int (own_low p0)), .val .null, .val .null, .unset] [(.ref w_RELIABLE), (.ref w_RELIABLE)]))
      refine bk (fun t k => Jvm.RoadKit.acmp (g := (mkF m 50 #[.val (.int p0), .val (.int (own_low p0)), .val .null, .val .null, .unset] [(.ref w_RELIABLE), (.ref w_RELIABLE)])) X7 hx rfl rfl rfl (pc0 := 50) (pc' := 53) (same := true) rfl (hb hby at_50) rfl (decide_eq_true rfl) (by decide) (by decide) k) ?_
      show F (T7.setTop (mkF m 53 #[.val (.int p0), .val (.int (own_low p0)), .val .null, .val .null, .unset] []))
      obtain ⟨T8, X8, e8, st8⟩ := getS2 X7 hx hZ hown (host := "") (Or.inl w_16) Via.refl e7 S_UNRELIABLE (g := (mkF m 53 #[.val (.int p0), .val (.int (own_low p0)), .val .null, .val .null, .unset] [])) rfl (hb hby at_53)
      refine bk (fun t k => st8 t k) ?_
      show F (T8.setTop (mkF m 56 #[.val (.int p0), .val (.int (own_low p0)), .val .null, .val .null, .unset] [(.ref w_UNRELIABLE)]))
      obtain ⟨cq9, kq9, q9a, q9b, q9c⟩ := isOf hZ e8 (E_UNRELIABLE)
      obtain ⟨_, _, ⟨T9, L9, k9, n9⟩, -, X9, ⟨Lc9, hQ9, l9, y9, z9⟩, st9⟩ := X8.virtualBack hx (y := (⟨"com/example/occoquan/occoquan/Service", "mode", "()I"⟩ : MethodName)) (z := (⟨"com/example/occoquan/occoquan/Service", "mode", "()I"⟩ : MethodName)) hown (mvT hZ w_11) (mvT hZ w_12) (notFace_of_selects (args := #[]) (mvT hZ w_14)) (mvT hZ w_14) (mvT hZ w_13) (by decide) (backOf (W := 0) (rm2 l Z a0 hw [] w_UNRELIABLE (1 : Int32) h0 n0 Z0 O_UNRELIABLE) hZ w_15 w_2 (by decide) (by decide)) q9a q9c (g := (mkF m 56 #[.val (.int p0), .val (.int (own_low p0)), .val .null, .val .null, .unset] [(.ref w_UNRELIABLE)])) rfl (by rw [hml]; rfl) (Steps.refl _) (argsL := []) (rest := []) (lenOf pd0___I rfl) rfl (by show 2 * 0 + _ ≤ _; exact Nat.le_of_eq rfl) (hb hby at_56) (fun _ _ => ⟨rfl, e8, (by decide : 0 + 0 ≤ _), (by decide : 0 + 0 ≤ _)⟩)
      dsimp only [Pt.U, Pt.locs, Pt.cells, Pt.slots] at X9 l9 y9 z9 st9 hQ9
      subst l9 y9 z9
      obtain ⟨rfl, N9q, e9⟩ := hQ9
      have N9 := Fr.app N6 N9q
      refine bk (fun t k => st9.trans k) ?_
      show F (T9.setTop (mkF m 59 #[.val (.int p0), .val (.int (own_low p0)), .val .null, .val .null, .unset] [(.int (1 : Int32))]))
      obtain ⟨_, _, ⟨T10, L10, k10, n10⟩, -, X10, ⟨Lc10, hQ10, l10, y10, z10⟩, st10⟩ := Jvm.LawKit.callS X9 hx (y := (⟨"com/example/occoquan/occoquan/Service", "named", "(I)Lcom/example/occoquan/occoquan/Service;"⟩ : MethodName)) hown (mvT hZ w_0) (mvT hZ w_1) (mvT hZ w_2) (mvT hZ w_3) (by decide) (backOf (W := 0) (rm1 l Z a0 hw [] (1 : Int32) w_RELIABLE w_UNRELIABLE h0 n0 Z0 S_RELIABLE S_UNRELIABLE O_RELIABLE O_UNRELIABLE) hZ w_3 w_2 (by decide) (by decide)) (g := (mkF m 59 #[.val (.int p0), .val (.int (own_low p0)), .val .null, .val .null, .unset] [(.int (1 : Int32))])) rfl (by rw [hml]; rfl) (argsL := [(.int (1 : Int32))]) (rest := []) (lenOf pd0__I_Lcom_example_occoquan_occoquan_Service_ rfl) rfl (by show 2 * 0 + _ ≤ _; exact Nat.le_of_eq rfl) (hb hby at_59) (fun _ _ => ⟨rfl, e9, (by decide : 0 + 0 ≤ _), (by decide : 0 + 0 ≤ _)⟩)
      dsimp only [Pt.U, Pt.locs, Pt.cells, Pt.slots] at X10 l10 y10 z10 st10 hQ10
      subst l10 y10 z10
      obtain ⟨hv10, N10q, e10⟩ := hQ10
      rw [own_named1] at hv10
      subst hv10
      have N10 := Fr.app N9 N10q
      refine bk (fun t k => st10 t k) ?_
      show F (T10.setTop (mkF m 62 #[.val (.int p0), .val (.int (own_low p0)), .val .null, .val .null, .unset] [(.ref w_UNRELIABLE)]))
      obtain ⟨T11, X11, e11, st11⟩ := getS2 X10 hx hZ hown (host := "") (Or.inl w_16) Via.refl e10 S_UNRELIABLE (g := (mkF m 62 #[.val (.int p0), .val (.int (own_low p0)), .val .null, .val .null, .unset] [(.ref w_UNRELIABLE)])) rfl (hb hby at_62)
      refine bk (fun t k => st11 t k) ?_
      show F (T11.setTop (mkF m 65 #[.val (.int p0), .val (.int (own_low p0)), .val .null, .val .null, .unset] [(.ref w_UNRELIABLE), (.ref w_UNRELIABLE)]))
      refine bk (fun t k => Jvm.RoadKit.acmp (g := (mkF m 65 #[.val (.int p0), .val (.int (own_low p0)), .val .null, .val .null, .unset] [(.ref w_UNRELIABLE), (.ref w_UNRELIABLE)])) X11 hx rfl rfl rfl (pc0 := 65) (pc' := 68) (same := true) rfl (hb hby at_65) rfl (decide_eq_true rfl) (by decide) (by decide) k) ?_
      show F (T11.setTop (mkF m 68 #[.val (.int p0), .val (.int (own_low p0)), .val .null, .val .null, .unset] []))
      refine bk (fun t k => XS.iconst X11.here hx rfl (hb hby at_68) k) ?_
      show F (T11.setTop (mkF m 69 #[.val (.int p0), .val (.int (own_low p0)), .val .null, .val .null, .unset] [(.int (1 : Int32))]))
      refine bk (fun t k => XS.goto X11.here hx rfl (pc0 := 69) (pc' := 73) rfl (hb hby at_69) (by decide) (by decide) k) ?_
      show F (T11.setTop (mkF m 73 #[.val (.int p0), .val (.int (own_low p0)), .val .null, .val .null, .unset] [(.int (1 : Int32))]))
      refine bk (fun t k => XS.istore X11.here hx rfl (hb hby at_73) rfl (l' := #[.val (.int p0), .val (.int (own_low p0)), .val .null, .val .null, .val (.int (1 : Int32))]) rfl k) ?_
      show F (T11.setTop (mkF m 75 #[.val (.int p0), .val (.int (own_low p0)), .val .null, .val .null, .val (.int (1 : Int32))] []))
      refine bk (fun t k => XS.aloadN X11.here hx rfl (hb hby at_75) rfl rfl k) ?_
      show F (T11.setTop (mkF m 76 #[.val (.int p0), .val (.int (own_low p0)), .val .null, .val .null, .val (.int (1 : Int32))] [.null]))
      refine bk (fun t k => XS.aloadN X11.here hx rfl (hb hby at_76) rfl rfl k) ?_
      show F (T11.setTop (mkF m 77 #[.val (.int p0), .val (.int (own_low p0)), .val .null, .val .null, .val (.int (1 : Int32))] [.null, .null]))
      refine bk (fun t k => Jvm.RoadKit.acmp (g := (mkF m 77 #[.val (.int p0), .val (.int (own_low p0)), .val .null, .val .null, .val (.int (1 : Int32))] [.null, .null])) X11 hx rfl rfl rfl (pc0 := 77) (pc' := 80) (same := true) rfl (hb hby at_77) rfl (decide_eq_true rfl) (by decide) (by decide) k) ?_
      show F (T11.setTop (mkF m 80 #[.val (.int p0), .val (.int (own_low p0)), .val .null, .val .null, .val (.int (1 : Int32))] []))
      refine bk (fun t k => XS.iload X11.here hx rfl (hb hby at_80) rfl k) ?_
      show F (T11.setTop (mkF m 82 #[.val (.int p0), .val (.int (own_low p0)), .val .null, .val .null, .val (.int (1 : Int32))] [(.int (1 : Int32))]))
      refine bk (fun t k => XS.ifNo X11.here hx rfl (hb hby at_82) rfl ((if0 _ _).trans (feq (by decide : ¬ ((1 : Int32) = (0 : Int32)))).1) k) ?_
      show F (T11.setTop (mkF m 85 #[.val (.int p0), .val (.int (own_low p0)), .val .null, .val .null, .val (.int (1 : Int32))] []))
      refine bk (fun t k => XS.iconst X11.here hx rfl (hb hby at_85) k) ?_
      show F (T11.setTop (mkF m 86 #[.val (.int p0), .val (.int (own_low p0)), .val .null, .val .null, .val (.int (1 : Int32))] [(.int (1 : Int32))]))
      refine bk (fun t k => XS.goto X11.here hx rfl (pc0 := 86) (pc' := 90) rfl (hb hby at_86) (by decide) (by decide) k) ?_
      show F (T11.setTop (mkF m 90 #[.val (.int p0), .val (.int (own_low p0)), .val .null, .val .null, .val (.int (1 : Int32))] [(.int (1 : Int32))]))
      rw [hF]
      refine own_retZ X11 hx Bd.notSynchronized Bd.returns (hb hby at_90) (by decide) (by decide) ?_
      rw [e11]
      exact ⟨rfl, N10⟩
    · show F (s₁.setTop (mkF m 0 #[.val (.int p0), .unset, .unset, .unset, .unset] []))
      refine bk (fun t k => XS.iloadN X0.here hx rfl (hb hby at_0) rfl k) ?_
      show F (s₁.setTop (mkF m 1 #[.val (.int p0), .unset, .unset, .unset, .unset] [(.int p0)]))
      refine bk (fun t k => XS.iconst X0.here hx rfl (hb hby at_1) k) ?_
      show F (s₁.setTop (mkF m 2 #[.val (.int p0), .unset, .unset, .unset, .unset] [(.int (4 : Int32)), (.int p0)]))
      refine bk (fun t k => iremM X0 hx rfl (hb hby at_2) rfl (by decide) k) ?_
      show F (s₁.setTop (mkF m 3 #[.val (.int p0), .unset, .unset, .unset, .unset] [(.int (p0 % (4 : Int32)))]))
      refine bk (fun t k => XS.iconst X0.here hx rfl (hb hby at_3) k) ?_
      show F (s₁.setTop (mkF m 4 #[.val (.int p0), .unset, .unset, .unset, .unset] [(.int (4 : Int32)), (.int (p0 % (4 : Int32)))]))
      refine bk (fun t k => XS.iadd X0.here hx rfl (hb hby at_4) rfl k) ?_
      show F (s₁.setTop (mkF m 5 #[.val (.int p0), .unset, .unset, .unset, .unset] [(.int ((p0 % (4 : Int32)) + (4 : Int32)))]))
      refine bk (fun t k => XS.iconst X0.here hx rfl (hb hby at_5) k) ?_
      show F (s₁.setTop (mkF m 6 #[.val (.int p0), .unset, .unset, .unset, .unset] [(.int (4 : Int32)), (.int ((p0 % (4 : Int32)) + (4 : Int32)))]))
      refine bk (fun t k => iremM X0 hx rfl (hb hby at_6) rfl (by decide) k) ?_
      show F (s₁.setTop (mkF m 7 #[.val (.int p0), .unset, .unset, .unset, .unset] [(.int (own_low p0))]))
      refine bk (fun t k => XS.istoreN X0.here hx rfl (hb hby at_7) rfl (l' := #[.val (.int p0), .val (.int (own_low p0)), .unset, .unset, .unset]) rfl k) ?_
      show F (s₁.setTop (mkF m 8 #[.val (.int p0), .val (.int (own_low p0)), .unset, .unset, .unset] []))
      refine bk (fun t k => XS.iloadN X0.here hx rfl (hb hby at_8) rfl k) ?_
      show F (s₁.setTop (mkF m 9 #[.val (.int p0), .val (.int (own_low p0)), .unset, .unset, .unset] [(.int (own_low p0))]))
      refine bk (fun t k => XS.ifYes X0.here hx rfl (pc0 := 9) (pc' := 17) rfl (hb hby at_9) rfl ((if0 _ _).trans (feq (own_lowN0 (Or.inr hc901_2))).2) (by decide) (by decide) k) ?_
      show F (s₁.setTop (mkF m 17 #[.val (.int p0), .val (.int (own_low p0)), .unset, .unset, .unset] []))
      refine bk (fun t k => XS.iloadN X0.here hx rfl (hb hby at_17) rfl k) ?_
      show F (s₁.setTop (mkF m 18 #[.val (.int p0), .val (.int (own_low p0)), .unset, .unset, .unset] [(.int (own_low p0))]))
      refine bk (fun t k => XS.iconst X0.here hx rfl (hb hby at_18) k) ?_
      show F (s₁.setTop (mkF m 19 #[.val (.int p0), .val (.int (own_low p0)), .unset, .unset, .unset] [(.int (1 : Int32)), (.int (own_low p0))]))
      refine bk (fun t k => XS.icmpNo X0.here hx rfl (hb hby at_19) rfl (teq (own_low1 hc900_1 hc901_2)).2 k) ?_
      show F (s₁.setTop (mkF m 22 #[.val (.int p0), .val (.int (own_low p0)), .unset, .unset, .unset] []))
      obtain ⟨T12, X12, e12, st12⟩ := getS2 X0 hx hZ hown (host := "") (Or.inl w_16) Via.refl e0 S_UNRELIABLE (g := (mkF m 22 #[.val (.int p0), .val (.int (own_low p0)), .unset, .unset, .unset] [])) rfl (hb hby at_22)
      refine bk (fun t k => st12 t k) ?_
      show F (T12.setTop (mkF m 25 #[.val (.int p0), .val (.int (own_low p0)), .unset, .unset, .unset] [(.ref w_UNRELIABLE)]))
      refine bk (fun t k => XS.astoreN X12.here hx rfl (hb hby at_25) rfl rfl (l' := #[.val (.int p0), .val (.int (own_low p0)), .val (.ref w_UNRELIABLE), .unset, .unset]) rfl k) ?_
      show F (T12.setTop (mkF m 26 #[.val (.int p0), .val (.int (own_low p0)), .val (.ref w_UNRELIABLE), .unset, .unset] []))
      refine bk (fun t k => XS.goto X12.here hx rfl (pc0 := 26) (pc' := 33) rfl (hb hby at_26) (by decide) (by decide) k) ?_
      show F (T12.setTop (mkF m 33 #[.val (.int p0), .val (.int (own_low p0)), .val (.ref w_UNRELIABLE), .unset, .unset] []))
      refine bk (fun t k => XS.iloadN X12.here hx rfl (hb hby at_33) rfl k) ?_
      show F (T12.setTop (mkF m 34 #[.val (.int p0), .val (.int (own_low p0)), .val (.ref w_UNRELIABLE), .unset, .unset] [(.int p0)]))
      obtain ⟨_, _, ⟨T13, L13, k13, n13⟩, -, X13, ⟨Lc13, hQ13, l13, y13, z13⟩, st13⟩ := Jvm.LawKit.callS X12 hx (y := (⟨"com/example/occoquan/occoquan/Service", "named", "(I)Lcom/example/occoquan/occoquan/Service;"⟩ : MethodName)) hown (mvT hZ w_0) (mvT hZ w_1) (mvT hZ w_2) (mvT hZ w_3) (by decide) (backOf (W := 0) (rm1 l Z a0 hw [] p0 w_RELIABLE w_UNRELIABLE h0 n0 Z0 S_RELIABLE S_UNRELIABLE O_RELIABLE O_UNRELIABLE) hZ w_3 w_2 (by decide) (by decide)) (g := (mkF m 34 #[.val (.int p0), .val (.int (own_low p0)), .val (.ref w_UNRELIABLE), .unset, .unset] [(.int p0)])) rfl (by rw [hml]; rfl) (argsL := [(.int p0)]) (rest := []) (lenOf pd0__I_Lcom_example_occoquan_occoquan_Service_ rfl) rfl (by show 2 * 0 + _ ≤ _; exact Nat.le_of_eq rfl) (hb hby at_34) (fun _ _ => ⟨rfl, e12, (by decide : 0 + 0 ≤ _), (by decide : 0 + 0 ≤ _)⟩)
      dsimp only [Pt.U, Pt.locs, Pt.cells, Pt.slots] at X13 l13 y13 z13 st13 hQ13
      subst l13 y13 z13
      obtain ⟨hv13, N13q, e13⟩ := hQ13
      rw [own_named, if_pos hc900_1, if_neg hc901_2] at hv13
      subst hv13
      have N13 := Fr.app N0 N13q
      refine bk (fun t k => st13 t k) ?_
      show F (T13.setTop (mkF m 37 #[.val (.int p0), .val (.int (own_low p0)), .val (.ref w_UNRELIABLE), .unset, .unset] [(.ref w_UNRELIABLE)]))
      refine bk (fun t k => XS.astoreN X13.here hx rfl (hb hby at_37) rfl rfl (l' := #[.val (.int p0), .val (.int (own_low p0)), .val (.ref w_UNRELIABLE), .val (.ref w_UNRELIABLE), .unset]) rfl k) ?_
      show F (T13.setTop (mkF m 38 #[.val (.int p0), .val (.int (own_low p0)), .val (.ref w_UNRELIABLE), .val (.ref w_UNRELIABLE), .unset] []))
      obtain ⟨T14, X14, e14, st14⟩ := getS2 X13 hx hZ hown (host := "") (Or.inl w_10) Via.refl e13 S_RELIABLE (g := (mkF m 38 #[.val (.int p0), .val (.int (own_low p0)), .val (.ref w_UNRELIABLE), .val (.ref w_UNRELIABLE), .unset] [])) rfl (hb hby at_38)
      refine bk (fun t k => st14 t k) ?_
      show F (T14.setTop (mkF m 41 #[.val (.int p0), .val (.int (own_low p0)), .val (.ref w_UNRELIABLE), .val (.ref w_UNRELIABLE), .unset] [(.ref w_RELIABLE)]))
      obtain ⟨cq15, kq15, q15a, q15b, q15c⟩ := isOf hZ e14 (E_RELIABLE)
      obtain ⟨_, _, ⟨T15, L15, k15, n15⟩, -, X15, ⟨Lc15, hQ15, l15, y15, z15⟩, st15⟩ := X14.virtualBack hx (y := (⟨"com/example/occoquan/occoquan/Service", "mode", "()I"⟩ : MethodName)) (z := (⟨"com/example/occoquan/occoquan/Service", "mode", "()I"⟩ : MethodName)) hown (mvT hZ w_11) (mvT hZ w_12) (notFace_of_selects (args := #[]) (mvT hZ w_14)) (mvT hZ w_14) (mvT hZ w_13) (by decide) (backOf (W := 0) (rm2 l Z a0 hw [] w_RELIABLE (2 : Int32) h0 n0 Z0 O_RELIABLE) hZ w_15 w_2 (by decide) (by decide)) q15a q15c (g := (mkF m 41 #[.val (.int p0), .val (.int (own_low p0)), .val (.ref w_UNRELIABLE), .val (.ref w_UNRELIABLE), .unset] [(.ref w_RELIABLE)])) rfl (by rw [hml]; rfl) (Steps.refl _) (argsL := []) (rest := []) (lenOf pd0___I rfl) rfl (by show 2 * 0 + _ ≤ _; exact Nat.le_of_eq rfl) (hb hby at_41) (fun _ _ => ⟨rfl, e14, (by decide : 0 + 0 ≤ _), (by decide : 0 + 0 ≤ _)⟩)
      dsimp only [Pt.U, Pt.locs, Pt.cells, Pt.slots] at X15 l15 y15 z15 st15 hQ15
      subst l15 y15 z15
      obtain ⟨rfl, N15q, e15⟩ := hQ15
      have N15 := Fr.app N13 N15q
      refine bk (fun t k => st15.trans k) ?_
      show F (T15.setTop (mkF m 44 #[.val (.int p0), .val (.int (own_low p0)), .val (.ref w_UNRELIABLE), .val (.ref w_UNRELIABLE), .unset] [(.int (2 : Int32))]))
      obtain ⟨_, _, ⟨T16, L16, k16, n16⟩, -, X16, ⟨Lc16, hQ16, l16, y16, z16⟩, st16⟩ := Jvm.LawKit.callS X15 hx (y := (⟨"com/example/occoquan/occoquan/Service", "named", "(I)Lcom/example/occoquan/occoquan/Service;"⟩ : MethodName)) hown (mvT hZ w_0) (mvT hZ w_1) (mvT hZ w_2) (mvT hZ w_3) (by decide) (backOf (W := 0) (rm1 l Z a0 hw [] (2 : Int32) w_RELIABLE w_UNRELIABLE h0 n0 Z0 S_RELIABLE S_UNRELIABLE O_RELIABLE O_UNRELIABLE) hZ w_3 w_2 (by decide) (by decide)) (g := (mkF m 44 #[.val (.int p0), .val (.int (own_low p0)), .val (.ref w_UNRELIABLE), .val (.ref w_UNRELIABLE), .unset] [(.int (2 : Int32))])) rfl (by rw [hml]; rfl) (argsL := [(.int (2 : Int32))]) (rest := []) (lenOf pd0__I_Lcom_example_occoquan_occoquan_Service_ rfl) rfl (by show 2 * 0 + _ ≤ _; exact Nat.le_of_eq rfl) (hb hby at_44) (fun _ _ => ⟨rfl, e15, (by decide : 0 + 0 ≤ _), (by decide : 0 + 0 ≤ _)⟩)
      dsimp only [Pt.U, Pt.locs, Pt.cells, Pt.slots] at X16 l16 y16 z16 st16 hQ16
      subst l16 y16 z16
      obtain ⟨hv16, N16q, e16⟩ := hQ16
      rw [own_named2] at hv16
      subst hv16
      have N16 := Fr.app N15 N16q
      refine bk (fun t k => st16 t k) ?_
      show F (T16.setTop (mkF m 47 #[.val (.int p0), .val (.int (own_low p0)), .val (.ref w_UNRELIABLE), .val (.ref w_UNRELIABLE), .unset] [(.ref w_RELIABLE)]))
      obtain ⟨T17, X17, e17, st17⟩ := getS2 X16 hx hZ hown (host := "") (Or.inl w_10) Via.refl e16 S_RELIABLE (g := (mkF m 47 #[.val (.int p0), .val (.int (own_low p0)), .val (.ref w_UNRELIABLE), .val (.ref w_UNRELIABLE), .unset] [(.ref w_RELIABLE)])) rfl (hb hby at_47)
      refine bk (fun t k => st17 t k) ?_
      show F (T17.setTop (mkF m 50 #[.val (.int p0), .val (.int (own_low p0)), .val (.ref w_UNRELIABLE), .val (.ref w_UNRELIABLE), .unset] [(.ref w_RELIABLE), (.ref w_RELIABLE)]))
      refine bk (fun t k => Jvm.RoadKit.acmp (g := (mkF m 50 #[.val (.int p0), .val (.int (own_low p0)), .val (.ref w_UNRELIABLE), .val (.ref w_UNRELIABLE), .unset] [(.ref w_RELIABLE), (.ref w_RELIABLE)])) X17 hx rfl rfl rfl (pc0 := 50) (pc' := 53) (same := true) rfl (hb hby at_50) rfl (decide_eq_true rfl) (by decide) (by decide) k) ?_
      show F (T17.setTop (mkF m 53 #[.val (.int p0), .val (.int (own_low p0)), .val (.ref w_UNRELIABLE), .val (.ref w_UNRELIABLE), .unset] []))
      obtain ⟨T18, X18, e18, st18⟩ := getS2 X17 hx hZ hown (host := "") (Or.inl w_16) Via.refl e17 S_UNRELIABLE (g := (mkF m 53 #[.val (.int p0), .val (.int (own_low p0)), .val (.ref w_UNRELIABLE), .val (.ref w_UNRELIABLE), .unset] [])) rfl (hb hby at_53)
      refine bk (fun t k => st18 t k) ?_
      show F (T18.setTop (mkF m 56 #[.val (.int p0), .val (.int (own_low p0)), .val (.ref w_UNRELIABLE), .val (.ref w_UNRELIABLE), .unset] [(.ref w_UNRELIABLE)]))
      obtain ⟨cq19, kq19, q19a, q19b, q19c⟩ := isOf hZ e18 (E_UNRELIABLE)
      obtain ⟨_, _, ⟨T19, L19, k19, n19⟩, -, X19, ⟨Lc19, hQ19, l19, y19, z19⟩, st19⟩ := X18.virtualBack hx (y := (⟨"com/example/occoquan/occoquan/Service", "mode", "()I"⟩ : MethodName)) (z := (⟨"com/example/occoquan/occoquan/Service", "mode", "()I"⟩ : MethodName)) hown (mvT hZ w_11) (mvT hZ w_12) (notFace_of_selects (args := #[]) (mvT hZ w_14)) (mvT hZ w_14) (mvT hZ w_13) (by decide) (backOf (W := 0) (rm2 l Z a0 hw [] w_UNRELIABLE (1 : Int32) h0 n0 Z0 O_UNRELIABLE) hZ w_15 w_2 (by decide) (by decide)) q19a q19c (g := (mkF m 56 #[.val (.int p0), .val (.int (own_low p0)), .val (.ref w_UNRELIABLE), .val (.ref w_UNRELIABLE), .unset] [(.ref w_UNRELIABLE)])) rfl (by rw [hml]; rfl) (Steps.refl _) (argsL := []) (rest := []) (lenOf pd0___I rfl) rfl (by show 2 * 0 + _ ≤ _; exact Nat.le_of_eq rfl) (hb hby at_56) (fun _ _ => ⟨rfl, e18, (by decide : 0 + 0 ≤ _), (by decide : 0 + 0 ≤ _)⟩)
      dsimp only [Pt.U, Pt.locs, Pt.cells, Pt.slots] at X19 l19 y19 z19 st19 hQ19
      subst l19 y19 z19
      obtain ⟨rfl, N19q, e19⟩ := hQ19
      have N19 := Fr.app N16 N19q
      refine bk (fun t k => st19.trans k) ?_
      show F (T19.setTop (mkF m 59 #[.val (.int p0), .val (.int (own_low p0)), .val (.ref w_UNRELIABLE), .val (.ref w_UNRELIABLE), .unset] [(.int (1 : Int32))]))
      obtain ⟨_, _, ⟨T20, L20, k20, n20⟩, -, X20, ⟨Lc20, hQ20, l20, y20, z20⟩, st20⟩ := Jvm.LawKit.callS X19 hx (y := (⟨"com/example/occoquan/occoquan/Service", "named", "(I)Lcom/example/occoquan/occoquan/Service;"⟩ : MethodName)) hown (mvT hZ w_0) (mvT hZ w_1) (mvT hZ w_2) (mvT hZ w_3) (by decide) (backOf (W := 0) (rm1 l Z a0 hw [] (1 : Int32) w_RELIABLE w_UNRELIABLE h0 n0 Z0 S_RELIABLE S_UNRELIABLE O_RELIABLE O_UNRELIABLE) hZ w_3 w_2 (by decide) (by decide)) (g := (mkF m 59 #[.val (.int p0), .val (.int (own_low p0)), .val (.ref w_UNRELIABLE), .val (.ref w_UNRELIABLE), .unset] [(.int (1 : Int32))])) rfl (by rw [hml]; rfl) (argsL := [(.int (1 : Int32))]) (rest := []) (lenOf pd0__I_Lcom_example_occoquan_occoquan_Service_ rfl) rfl (by show 2 * 0 + _ ≤ _; exact Nat.le_of_eq rfl) (hb hby at_59) (fun _ _ => ⟨rfl, e19, (by decide : 0 + 0 ≤ _), (by decide : 0 + 0 ≤ _)⟩)
      dsimp only [Pt.U, Pt.locs, Pt.cells, Pt.slots] at X20 l20 y20 z20 st20 hQ20
      subst l20 y20 z20
      obtain ⟨hv20, N20q, e20⟩ := hQ20
      rw [own_named1] at hv20
      subst hv20
      have N20 := Fr.app N19 N20q
      refine bk (fun t k => st20 t k) ?_
      show F (T20.setTop (mkF m 62 #[.val (.int p0), .val (.int (own_low p0)), .val (.ref w_UNRELIABLE), .val (.ref w_UNRELIABLE), .unset] [(.ref w_UNRELIABLE)]))
      obtain ⟨T21, X21, e21, st21⟩ := getS2 X20 hx hZ hown (host := "") (Or.inl w_16) Via.refl e20 S_UNRELIABLE (g := (mkF m 62 #[.val (.int p0), .val (.int (own_low p0)), .val (.ref w_UNRELIABLE), .val (.ref w_UNRELIABLE), .unset] [(.ref w_UNRELIABLE)])) rfl (hb hby at_62)
      refine bk (fun t k => st21 t k) ?_
      show F (T21.setTop (mkF m 65 #[.val (.int p0), .val (.int (own_low p0)), .val (.ref w_UNRELIABLE), .val (.ref w_UNRELIABLE), .unset] [(.ref w_UNRELIABLE), (.ref w_UNRELIABLE)]))
      refine bk (fun t k => Jvm.RoadKit.acmp (g := (mkF m 65 #[.val (.int p0), .val (.int (own_low p0)), .val (.ref w_UNRELIABLE), .val (.ref w_UNRELIABLE), .unset] [(.ref w_UNRELIABLE), (.ref w_UNRELIABLE)])) X21 hx rfl rfl rfl (pc0 := 65) (pc' := 68) (same := true) rfl (hb hby at_65) rfl (decide_eq_true rfl) (by decide) (by decide) k) ?_
      show F (T21.setTop (mkF m 68 #[.val (.int p0), .val (.int (own_low p0)), .val (.ref w_UNRELIABLE), .val (.ref w_UNRELIABLE), .unset] []))
      refine bk (fun t k => XS.iconst X21.here hx rfl (hb hby at_68) k) ?_
      show F (T21.setTop (mkF m 69 #[.val (.int p0), .val (.int (own_low p0)), .val (.ref w_UNRELIABLE), .val (.ref w_UNRELIABLE), .unset] [(.int (1 : Int32))]))
      refine bk (fun t k => XS.goto X21.here hx rfl (pc0 := 69) (pc' := 73) rfl (hb hby at_69) (by decide) (by decide) k) ?_
      show F (T21.setTop (mkF m 73 #[.val (.int p0), .val (.int (own_low p0)), .val (.ref w_UNRELIABLE), .val (.ref w_UNRELIABLE), .unset] [(.int (1 : Int32))]))
      refine bk (fun t k => XS.istore X21.here hx rfl (hb hby at_73) rfl (l' := #[.val (.int p0), .val (.int (own_low p0)), .val (.ref w_UNRELIABLE), .val (.ref w_UNRELIABLE), .val (.int (1 : Int32))]) rfl k) ?_
      show F (T21.setTop (mkF m 75 #[.val (.int p0), .val (.int (own_low p0)), .val (.ref w_UNRELIABLE), .val (.ref w_UNRELIABLE), .val (.int (1 : Int32))] []))
      refine bk (fun t k => XS.aloadN X21.here hx rfl (hb hby at_75) rfl rfl k) ?_
      show F (T21.setTop (mkF m 76 #[.val (.int p0), .val (.int (own_low p0)), .val (.ref w_UNRELIABLE), .val (.ref w_UNRELIABLE), .val (.int (1 : Int32))] [(.ref w_UNRELIABLE)]))
      refine bk (fun t k => XS.aloadN X21.here hx rfl (hb hby at_76) rfl rfl k) ?_
      show F (T21.setTop (mkF m 77 #[.val (.int p0), .val (.int (own_low p0)), .val (.ref w_UNRELIABLE), .val (.ref w_UNRELIABLE), .val (.int (1 : Int32))] [(.ref w_UNRELIABLE), (.ref w_UNRELIABLE)]))
      refine bk (fun t k => Jvm.RoadKit.acmp (g := (mkF m 77 #[.val (.int p0), .val (.int (own_low p0)), .val (.ref w_UNRELIABLE), .val (.ref w_UNRELIABLE), .val (.int (1 : Int32))] [(.ref w_UNRELIABLE), (.ref w_UNRELIABLE)])) X21 hx rfl rfl rfl (pc0 := 77) (pc' := 80) (same := true) rfl (hb hby at_77) rfl (decide_eq_true rfl) (by decide) (by decide) k) ?_
      show F (T21.setTop (mkF m 80 #[.val (.int p0), .val (.int (own_low p0)), .val (.ref w_UNRELIABLE), .val (.ref w_UNRELIABLE), .val (.int (1 : Int32))] []))
      refine bk (fun t k => XS.iload X21.here hx rfl (hb hby at_80) rfl k) ?_
      show F (T21.setTop (mkF m 82 #[.val (.int p0), .val (.int (own_low p0)), .val (.ref w_UNRELIABLE), .val (.ref w_UNRELIABLE), .val (.int (1 : Int32))] [(.int (1 : Int32))]))
      refine bk (fun t k => XS.ifNo X21.here hx rfl (hb hby at_82) rfl ((if0 _ _).trans (feq (by decide : ¬ ((1 : Int32) = (0 : Int32)))).1) k) ?_
      show F (T21.setTop (mkF m 85 #[.val (.int p0), .val (.int (own_low p0)), .val (.ref w_UNRELIABLE), .val (.ref w_UNRELIABLE), .val (.int (1 : Int32))] []))
      refine bk (fun t k => XS.iconst X21.here hx rfl (hb hby at_85) k) ?_
      show F (T21.setTop (mkF m 86 #[.val (.int p0), .val (.int (own_low p0)), .val (.ref w_UNRELIABLE), .val (.ref w_UNRELIABLE), .val (.int (1 : Int32))] [(.int (1 : Int32))]))
      refine bk (fun t k => XS.goto X21.here hx rfl (pc0 := 86) (pc' := 90) rfl (hb hby at_86) (by decide) (by decide) k) ?_
      show F (T21.setTop (mkF m 90 #[.val (.int p0), .val (.int (own_low p0)), .val (.ref w_UNRELIABLE), .val (.ref w_UNRELIABLE), .val (.int (1 : Int32))] [(.int (1 : Int32))]))
      rw [hF]
      refine own_retZ X21 hx Bd.notSynchronized Bd.returns (hb hby at_90) (by decide) (by decide) ?_
      rw [e21]
      exact ⟨rfl, N20⟩
  · by_cases hc901_22 : (p0 &&& (1 : Int32)) = (0 : Int32)
    · show F (s₁.setTop (mkF m 0 #[.val (.int p0), .unset, .unset, .unset, .unset] []))
      refine bk (fun t k => XS.iloadN X0.here hx rfl (hb hby at_0) rfl k) ?_
      show F (s₁.setTop (mkF m 1 #[.val (.int p0), .unset, .unset, .unset, .unset] [(.int p0)]))
      refine bk (fun t k => XS.iconst X0.here hx rfl (hb hby at_1) k) ?_
      show F (s₁.setTop (mkF m 2 #[.val (.int p0), .unset, .unset, .unset, .unset] [(.int (4 : Int32)), (.int p0)]))
      refine bk (fun t k => iremM X0 hx rfl (hb hby at_2) rfl (by decide) k) ?_
      show F (s₁.setTop (mkF m 3 #[.val (.int p0), .unset, .unset, .unset, .unset] [(.int (p0 % (4 : Int32)))]))
      refine bk (fun t k => XS.iconst X0.here hx rfl (hb hby at_3) k) ?_
      show F (s₁.setTop (mkF m 4 #[.val (.int p0), .unset, .unset, .unset, .unset] [(.int (4 : Int32)), (.int (p0 % (4 : Int32)))]))
      refine bk (fun t k => XS.iadd X0.here hx rfl (hb hby at_4) rfl k) ?_
      show F (s₁.setTop (mkF m 5 #[.val (.int p0), .unset, .unset, .unset, .unset] [(.int ((p0 % (4 : Int32)) + (4 : Int32)))]))
      refine bk (fun t k => XS.iconst X0.here hx rfl (hb hby at_5) k) ?_
      show F (s₁.setTop (mkF m 6 #[.val (.int p0), .unset, .unset, .unset, .unset] [(.int (4 : Int32)), (.int ((p0 % (4 : Int32)) + (4 : Int32)))]))
      refine bk (fun t k => iremM X0 hx rfl (hb hby at_6) rfl (by decide) k) ?_
      show F (s₁.setTop (mkF m 7 #[.val (.int p0), .unset, .unset, .unset, .unset] [(.int (own_low p0))]))
      refine bk (fun t k => XS.istoreN X0.here hx rfl (hb hby at_7) rfl (l' := #[.val (.int p0), .val (.int (own_low p0)), .unset, .unset, .unset]) rfl k) ?_
      show F (s₁.setTop (mkF m 8 #[.val (.int p0), .val (.int (own_low p0)), .unset, .unset, .unset] []))
      refine bk (fun t k => XS.iloadN X0.here hx rfl (hb hby at_8) rfl k) ?_
      show F (s₁.setTop (mkF m 9 #[.val (.int p0), .val (.int (own_low p0)), .unset, .unset, .unset] [(.int (own_low p0))]))
      refine bk (fun t k => XS.ifYes X0.here hx rfl (pc0 := 9) (pc' := 17) rfl (hb hby at_9) rfl ((if0 _ _).trans (feq (own_lowN0 (Or.inl hc900_1))).2) (by decide) (by decide) k) ?_
      show F (s₁.setTop (mkF m 17 #[.val (.int p0), .val (.int (own_low p0)), .unset, .unset, .unset] []))
      refine bk (fun t k => XS.iloadN X0.here hx rfl (hb hby at_17) rfl k) ?_
      show F (s₁.setTop (mkF m 18 #[.val (.int p0), .val (.int (own_low p0)), .unset, .unset, .unset] [(.int (own_low p0))]))
      refine bk (fun t k => XS.iconst X0.here hx rfl (hb hby at_18) k) ?_
      show F (s₁.setTop (mkF m 19 #[.val (.int p0), .val (.int (own_low p0)), .unset, .unset, .unset] [(.int (1 : Int32)), (.int (own_low p0))]))
      refine bk (fun t k => XS.icmpYes X0.here hx rfl (pc0 := 19) (pc' := 29) rfl (hb hby at_19) rfl (feq (own_lowN1 hc900_1)).2 (by decide) (by decide) k) ?_
      show F (s₁.setTop (mkF m 29 #[.val (.int p0), .val (.int (own_low p0)), .unset, .unset, .unset] []))
      obtain ⟨T23, X23, e23, st23⟩ := getS2 X0 hx hZ hown (host := "") (Or.inl w_10) Via.refl e0 S_RELIABLE (g := (mkF m 29 #[.val (.int p0), .val (.int (own_low p0)), .unset, .unset, .unset] [])) rfl (hb hby at_29)
      refine bk (fun t k => st23 t k) ?_
      show F (T23.setTop (mkF m 32 #[.val (.int p0), .val (.int (own_low p0)), .unset, .unset, .unset] [(.ref w_RELIABLE)]))
      refine bk (fun t k => XS.astoreN X23.here hx rfl (hb hby at_32) rfl rfl (l' := #[.val (.int p0), .val (.int (own_low p0)), .val (.ref w_RELIABLE), .unset, .unset]) rfl k) ?_
      show F (T23.setTop (mkF m 33 #[.val (.int p0), .val (.int (own_low p0)), .val (.ref w_RELIABLE), .unset, .unset] []))
      refine bk (fun t k => XS.iloadN X23.here hx rfl (hb hby at_33) rfl k) ?_
      show F (T23.setTop (mkF m 34 #[.val (.int p0), .val (.int (own_low p0)), .val (.ref w_RELIABLE), .unset, .unset] [(.int p0)]))
      obtain ⟨_, _, ⟨T24, L24, k24, n24⟩, -, X24, ⟨Lc24, hQ24, l24, y24, z24⟩, st24⟩ := Jvm.LawKit.callS X23 hx (y := (⟨"com/example/occoquan/occoquan/Service", "named", "(I)Lcom/example/occoquan/occoquan/Service;"⟩ : MethodName)) hown (mvT hZ w_0) (mvT hZ w_1) (mvT hZ w_2) (mvT hZ w_3) (by decide) (backOf (W := 0) (rm1 l Z a0 hw [] p0 w_RELIABLE w_UNRELIABLE h0 n0 Z0 S_RELIABLE S_UNRELIABLE O_RELIABLE O_UNRELIABLE) hZ w_3 w_2 (by decide) (by decide)) (g := (mkF m 34 #[.val (.int p0), .val (.int (own_low p0)), .val (.ref w_RELIABLE), .unset, .unset] [(.int p0)])) rfl (by rw [hml]; rfl) (argsL := [(.int p0)]) (rest := []) (lenOf pd0__I_Lcom_example_occoquan_occoquan_Service_ rfl) rfl (by show 2 * 0 + _ ≤ _; exact Nat.le_of_eq rfl) (hb hby at_34) (fun _ _ => ⟨rfl, e23, (by decide : 0 + 0 ≤ _), (by decide : 0 + 0 ≤ _)⟩)
      dsimp only [Pt.U, Pt.locs, Pt.cells, Pt.slots] at X24 l24 y24 z24 st24 hQ24
      subst l24 y24 z24
      obtain ⟨hv24, N24q, e24⟩ := hQ24
      rw [own_named, if_neg hc900_1] at hv24
      subst hv24
      have N24 := Fr.app N0 N24q
      refine bk (fun t k => st24 t k) ?_
      show F (T24.setTop (mkF m 37 #[.val (.int p0), .val (.int (own_low p0)), .val (.ref w_RELIABLE), .unset, .unset] [(.ref w_RELIABLE)]))
      refine bk (fun t k => XS.astoreN X24.here hx rfl (hb hby at_37) rfl rfl (l' := #[.val (.int p0), .val (.int (own_low p0)), .val (.ref w_RELIABLE), .val (.ref w_RELIABLE), .unset]) rfl k) ?_
      show F (T24.setTop (mkF m 38 #[.val (.int p0), .val (.int (own_low p0)), .val (.ref w_RELIABLE), .val (.ref w_RELIABLE), .unset] []))
      obtain ⟨T25, X25, e25, st25⟩ := getS2 X24 hx hZ hown (host := "") (Or.inl w_10) Via.refl e24 S_RELIABLE (g := (mkF m 38 #[.val (.int p0), .val (.int (own_low p0)), .val (.ref w_RELIABLE), .val (.ref w_RELIABLE), .unset] [])) rfl (hb hby at_38)
      refine bk (fun t k => st25 t k) ?_
      show F (T25.setTop (mkF m 41 #[.val (.int p0), .val (.int (own_low p0)), .val (.ref w_RELIABLE), .val (.ref w_RELIABLE), .unset] [(.ref w_RELIABLE)]))
      obtain ⟨cq26, kq26, q26a, q26b, q26c⟩ := isOf hZ e25 (E_RELIABLE)
      obtain ⟨_, _, ⟨T26, L26, k26, n26⟩, -, X26, ⟨Lc26, hQ26, l26, y26, z26⟩, st26⟩ := X25.virtualBack hx (y := (⟨"com/example/occoquan/occoquan/Service", "mode", "()I"⟩ : MethodName)) (z := (⟨"com/example/occoquan/occoquan/Service", "mode", "()I"⟩ : MethodName)) hown (mvT hZ w_11) (mvT hZ w_12) (notFace_of_selects (args := #[]) (mvT hZ w_14)) (mvT hZ w_14) (mvT hZ w_13) (by decide) (backOf (W := 0) (rm2 l Z a0 hw [] w_RELIABLE (2 : Int32) h0 n0 Z0 O_RELIABLE) hZ w_15 w_2 (by decide) (by decide)) q26a q26c (g := (mkF m 41 #[.val (.int p0), .val (.int (own_low p0)), .val (.ref w_RELIABLE), .val (.ref w_RELIABLE), .unset] [(.ref w_RELIABLE)])) rfl (by rw [hml]; rfl) (Steps.refl _) (argsL := []) (rest := []) (lenOf pd0___I rfl) rfl (by show 2 * 0 + _ ≤ _; exact Nat.le_of_eq rfl) (hb hby at_41) (fun _ _ => ⟨rfl, e25, (by decide : 0 + 0 ≤ _), (by decide : 0 + 0 ≤ _)⟩)
      dsimp only [Pt.U, Pt.locs, Pt.cells, Pt.slots] at X26 l26 y26 z26 st26 hQ26
      subst l26 y26 z26
      obtain ⟨rfl, N26q, e26⟩ := hQ26
      have N26 := Fr.app N24 N26q
      refine bk (fun t k => st26.trans k) ?_
      show F (T26.setTop (mkF m 44 #[.val (.int p0), .val (.int (own_low p0)), .val (.ref w_RELIABLE), .val (.ref w_RELIABLE), .unset] [(.int (2 : Int32))]))
      obtain ⟨_, _, ⟨T27, L27, k27, n27⟩, -, X27, ⟨Lc27, hQ27, l27, y27, z27⟩, st27⟩ := Jvm.LawKit.callS X26 hx (y := (⟨"com/example/occoquan/occoquan/Service", "named", "(I)Lcom/example/occoquan/occoquan/Service;"⟩ : MethodName)) hown (mvT hZ w_0) (mvT hZ w_1) (mvT hZ w_2) (mvT hZ w_3) (by decide) (backOf (W := 0) (rm1 l Z a0 hw [] (2 : Int32) w_RELIABLE w_UNRELIABLE h0 n0 Z0 S_RELIABLE S_UNRELIABLE O_RELIABLE O_UNRELIABLE) hZ w_3 w_2 (by decide) (by decide)) (g := (mkF m 44 #[.val (.int p0), .val (.int (own_low p0)), .val (.ref w_RELIABLE), .val (.ref w_RELIABLE), .unset] [(.int (2 : Int32))])) rfl (by rw [hml]; rfl) (argsL := [(.int (2 : Int32))]) (rest := []) (lenOf pd0__I_Lcom_example_occoquan_occoquan_Service_ rfl) rfl (by show 2 * 0 + _ ≤ _; exact Nat.le_of_eq rfl) (hb hby at_44) (fun _ _ => ⟨rfl, e26, (by decide : 0 + 0 ≤ _), (by decide : 0 + 0 ≤ _)⟩)
      dsimp only [Pt.U, Pt.locs, Pt.cells, Pt.slots] at X27 l27 y27 z27 st27 hQ27
      subst l27 y27 z27
      obtain ⟨hv27, N27q, e27⟩ := hQ27
      rw [own_named2] at hv27
      subst hv27
      have N27 := Fr.app N26 N27q
      refine bk (fun t k => st27 t k) ?_
      show F (T27.setTop (mkF m 47 #[.val (.int p0), .val (.int (own_low p0)), .val (.ref w_RELIABLE), .val (.ref w_RELIABLE), .unset] [(.ref w_RELIABLE)]))
      obtain ⟨T28, X28, e28, st28⟩ := getS2 X27 hx hZ hown (host := "") (Or.inl w_10) Via.refl e27 S_RELIABLE (g := (mkF m 47 #[.val (.int p0), .val (.int (own_low p0)), .val (.ref w_RELIABLE), .val (.ref w_RELIABLE), .unset] [(.ref w_RELIABLE)])) rfl (hb hby at_47)
      refine bk (fun t k => st28 t k) ?_
      show F (T28.setTop (mkF m 50 #[.val (.int p0), .val (.int (own_low p0)), .val (.ref w_RELIABLE), .val (.ref w_RELIABLE), .unset] [(.ref w_RELIABLE), (.ref w_RELIABLE)]))
      refine bk (fun t k => Jvm.RoadKit.acmp (g := (mkF m 50 #[.val (.int p0), .val (.int (own_low p0)), .val (.ref w_RELIABLE), .val (.ref w_RELIABLE), .unset] [(.ref w_RELIABLE), (.ref w_RELIABLE)])) X28 hx rfl rfl rfl (pc0 := 50) (pc' := 53) (same := true) rfl (hb hby at_50) rfl (decide_eq_true rfl) (by decide) (by decide) k) ?_
      show F (T28.setTop (mkF m 53 #[.val (.int p0), .val (.int (own_low p0)), .val (.ref w_RELIABLE), .val (.ref w_RELIABLE), .unset] []))
      obtain ⟨T29, X29, e29, st29⟩ := getS2 X28 hx hZ hown (host := "") (Or.inl w_16) Via.refl e28 S_UNRELIABLE (g := (mkF m 53 #[.val (.int p0), .val (.int (own_low p0)), .val (.ref w_RELIABLE), .val (.ref w_RELIABLE), .unset] [])) rfl (hb hby at_53)
      refine bk (fun t k => st29 t k) ?_
      show F (T29.setTop (mkF m 56 #[.val (.int p0), .val (.int (own_low p0)), .val (.ref w_RELIABLE), .val (.ref w_RELIABLE), .unset] [(.ref w_UNRELIABLE)]))
      obtain ⟨cq30, kq30, q30a, q30b, q30c⟩ := isOf hZ e29 (E_UNRELIABLE)
      obtain ⟨_, _, ⟨T30, L30, k30, n30⟩, -, X30, ⟨Lc30, hQ30, l30, y30, z30⟩, st30⟩ := X29.virtualBack hx (y := (⟨"com/example/occoquan/occoquan/Service", "mode", "()I"⟩ : MethodName)) (z := (⟨"com/example/occoquan/occoquan/Service", "mode", "()I"⟩ : MethodName)) hown (mvT hZ w_11) (mvT hZ w_12) (notFace_of_selects (args := #[]) (mvT hZ w_14)) (mvT hZ w_14) (mvT hZ w_13) (by decide) (backOf (W := 0) (rm2 l Z a0 hw [] w_UNRELIABLE (1 : Int32) h0 n0 Z0 O_UNRELIABLE) hZ w_15 w_2 (by decide) (by decide)) q30a q30c (g := (mkF m 56 #[.val (.int p0), .val (.int (own_low p0)), .val (.ref w_RELIABLE), .val (.ref w_RELIABLE), .unset] [(.ref w_UNRELIABLE)])) rfl (by rw [hml]; rfl) (Steps.refl _) (argsL := []) (rest := []) (lenOf pd0___I rfl) rfl (by show 2 * 0 + _ ≤ _; exact Nat.le_of_eq rfl) (hb hby at_56) (fun _ _ => ⟨rfl, e29, (by decide : 0 + 0 ≤ _), (by decide : 0 + 0 ≤ _)⟩)
      dsimp only [Pt.U, Pt.locs, Pt.cells, Pt.slots] at X30 l30 y30 z30 st30 hQ30
      subst l30 y30 z30
      obtain ⟨rfl, N30q, e30⟩ := hQ30
      have N30 := Fr.app N27 N30q
      refine bk (fun t k => st30.trans k) ?_
      show F (T30.setTop (mkF m 59 #[.val (.int p0), .val (.int (own_low p0)), .val (.ref w_RELIABLE), .val (.ref w_RELIABLE), .unset] [(.int (1 : Int32))]))
      obtain ⟨_, _, ⟨T31, L31, k31, n31⟩, -, X31, ⟨Lc31, hQ31, l31, y31, z31⟩, st31⟩ := Jvm.LawKit.callS X30 hx (y := (⟨"com/example/occoquan/occoquan/Service", "named", "(I)Lcom/example/occoquan/occoquan/Service;"⟩ : MethodName)) hown (mvT hZ w_0) (mvT hZ w_1) (mvT hZ w_2) (mvT hZ w_3) (by decide) (backOf (W := 0) (rm1 l Z a0 hw [] (1 : Int32) w_RELIABLE w_UNRELIABLE h0 n0 Z0 S_RELIABLE S_UNRELIABLE O_RELIABLE O_UNRELIABLE) hZ w_3 w_2 (by decide) (by decide)) (g := (mkF m 59 #[.val (.int p0), .val (.int (own_low p0)), .val (.ref w_RELIABLE), .val (.ref w_RELIABLE), .unset] [(.int (1 : Int32))])) rfl (by rw [hml]; rfl) (argsL := [(.int (1 : Int32))]) (rest := []) (lenOf pd0__I_Lcom_example_occoquan_occoquan_Service_ rfl) rfl (by show 2 * 0 + _ ≤ _; exact Nat.le_of_eq rfl) (hb hby at_59) (fun _ _ => ⟨rfl, e30, (by decide : 0 + 0 ≤ _), (by decide : 0 + 0 ≤ _)⟩)
      dsimp only [Pt.U, Pt.locs, Pt.cells, Pt.slots] at X31 l31 y31 z31 st31 hQ31
      subst l31 y31 z31
      obtain ⟨hv31, N31q, e31⟩ := hQ31
      rw [own_named1] at hv31
      subst hv31
      have N31 := Fr.app N30 N31q
      refine bk (fun t k => st31 t k) ?_
      show F (T31.setTop (mkF m 62 #[.val (.int p0), .val (.int (own_low p0)), .val (.ref w_RELIABLE), .val (.ref w_RELIABLE), .unset] [(.ref w_UNRELIABLE)]))
      obtain ⟨T32, X32, e32, st32⟩ := getS2 X31 hx hZ hown (host := "") (Or.inl w_16) Via.refl e31 S_UNRELIABLE (g := (mkF m 62 #[.val (.int p0), .val (.int (own_low p0)), .val (.ref w_RELIABLE), .val (.ref w_RELIABLE), .unset] [(.ref w_UNRELIABLE)])) rfl (hb hby at_62)
      refine bk (fun t k => st32 t k) ?_
      show F (T32.setTop (mkF m 65 #[.val (.int p0), .val (.int (own_low p0)), .val (.ref w_RELIABLE), .val (.ref w_RELIABLE), .unset] [(.ref w_UNRELIABLE), (.ref w_UNRELIABLE)]))
      refine bk (fun t k => Jvm.RoadKit.acmp (g := (mkF m 65 #[.val (.int p0), .val (.int (own_low p0)), .val (.ref w_RELIABLE), .val (.ref w_RELIABLE), .unset] [(.ref w_UNRELIABLE), (.ref w_UNRELIABLE)])) X32 hx rfl rfl rfl (pc0 := 65) (pc' := 68) (same := true) rfl (hb hby at_65) rfl (decide_eq_true rfl) (by decide) (by decide) k) ?_
      show F (T32.setTop (mkF m 68 #[.val (.int p0), .val (.int (own_low p0)), .val (.ref w_RELIABLE), .val (.ref w_RELIABLE), .unset] []))
      refine bk (fun t k => XS.iconst X32.here hx rfl (hb hby at_68) k) ?_
      show F (T32.setTop (mkF m 69 #[.val (.int p0), .val (.int (own_low p0)), .val (.ref w_RELIABLE), .val (.ref w_RELIABLE), .unset] [(.int (1 : Int32))]))
      refine bk (fun t k => XS.goto X32.here hx rfl (pc0 := 69) (pc' := 73) rfl (hb hby at_69) (by decide) (by decide) k) ?_
      show F (T32.setTop (mkF m 73 #[.val (.int p0), .val (.int (own_low p0)), .val (.ref w_RELIABLE), .val (.ref w_RELIABLE), .unset] [(.int (1 : Int32))]))
      refine bk (fun t k => XS.istore X32.here hx rfl (hb hby at_73) rfl (l' := #[.val (.int p0), .val (.int (own_low p0)), .val (.ref w_RELIABLE), .val (.ref w_RELIABLE), .val (.int (1 : Int32))]) rfl k) ?_
      show F (T32.setTop (mkF m 75 #[.val (.int p0), .val (.int (own_low p0)), .val (.ref w_RELIABLE), .val (.ref w_RELIABLE), .val (.int (1 : Int32))] []))
      refine bk (fun t k => XS.aloadN X32.here hx rfl (hb hby at_75) rfl rfl k) ?_
      show F (T32.setTop (mkF m 76 #[.val (.int p0), .val (.int (own_low p0)), .val (.ref w_RELIABLE), .val (.ref w_RELIABLE), .val (.int (1 : Int32))] [(.ref w_RELIABLE)]))
      refine bk (fun t k => XS.aloadN X32.here hx rfl (hb hby at_76) rfl rfl k) ?_
      show F (T32.setTop (mkF m 77 #[.val (.int p0), .val (.int (own_low p0)), .val (.ref w_RELIABLE), .val (.ref w_RELIABLE), .val (.int (1 : Int32))] [(.ref w_RELIABLE), (.ref w_RELIABLE)]))
      refine bk (fun t k => Jvm.RoadKit.acmp (g := (mkF m 77 #[.val (.int p0), .val (.int (own_low p0)), .val (.ref w_RELIABLE), .val (.ref w_RELIABLE), .val (.int (1 : Int32))] [(.ref w_RELIABLE), (.ref w_RELIABLE)])) X32 hx rfl rfl rfl (pc0 := 77) (pc' := 80) (same := true) rfl (hb hby at_77) rfl (decide_eq_true rfl) (by decide) (by decide) k) ?_
      show F (T32.setTop (mkF m 80 #[.val (.int p0), .val (.int (own_low p0)), .val (.ref w_RELIABLE), .val (.ref w_RELIABLE), .val (.int (1 : Int32))] []))
      refine bk (fun t k => XS.iload X32.here hx rfl (hb hby at_80) rfl k) ?_
      show F (T32.setTop (mkF m 82 #[.val (.int p0), .val (.int (own_low p0)), .val (.ref w_RELIABLE), .val (.ref w_RELIABLE), .val (.int (1 : Int32))] [(.int (1 : Int32))]))
      refine bk (fun t k => XS.ifNo X32.here hx rfl (hb hby at_82) rfl ((if0 _ _).trans (feq (by decide : ¬ ((1 : Int32) = (0 : Int32)))).1) k) ?_
      show F (T32.setTop (mkF m 85 #[.val (.int p0), .val (.int (own_low p0)), .val (.ref w_RELIABLE), .val (.ref w_RELIABLE), .val (.int (1 : Int32))] []))
      refine bk (fun t k => XS.iconst X32.here hx rfl (hb hby at_85) k) ?_
      show F (T32.setTop (mkF m 86 #[.val (.int p0), .val (.int (own_low p0)), .val (.ref w_RELIABLE), .val (.ref w_RELIABLE), .val (.int (1 : Int32))] [(.int (1 : Int32))]))
      refine bk (fun t k => XS.goto X32.here hx rfl (pc0 := 86) (pc' := 90) rfl (hb hby at_86) (by decide) (by decide) k) ?_
      show F (T32.setTop (mkF m 90 #[.val (.int p0), .val (.int (own_low p0)), .val (.ref w_RELIABLE), .val (.ref w_RELIABLE), .val (.int (1 : Int32))] [(.int (1 : Int32))]))
      rw [hF]
      refine own_retZ X32 hx Bd.notSynchronized Bd.returns (hb hby at_90) (by decide) (by decide) ?_
      rw [e32]
      exact ⟨rfl, N31⟩
    · show F (s₁.setTop (mkF m 0 #[.val (.int p0), .unset, .unset, .unset, .unset] []))
      refine bk (fun t k => XS.iloadN X0.here hx rfl (hb hby at_0) rfl k) ?_
      show F (s₁.setTop (mkF m 1 #[.val (.int p0), .unset, .unset, .unset, .unset] [(.int p0)]))
      refine bk (fun t k => XS.iconst X0.here hx rfl (hb hby at_1) k) ?_
      show F (s₁.setTop (mkF m 2 #[.val (.int p0), .unset, .unset, .unset, .unset] [(.int (4 : Int32)), (.int p0)]))
      refine bk (fun t k => iremM X0 hx rfl (hb hby at_2) rfl (by decide) k) ?_
      show F (s₁.setTop (mkF m 3 #[.val (.int p0), .unset, .unset, .unset, .unset] [(.int (p0 % (4 : Int32)))]))
      refine bk (fun t k => XS.iconst X0.here hx rfl (hb hby at_3) k) ?_
      show F (s₁.setTop (mkF m 4 #[.val (.int p0), .unset, .unset, .unset, .unset] [(.int (4 : Int32)), (.int (p0 % (4 : Int32)))]))
      refine bk (fun t k => XS.iadd X0.here hx rfl (hb hby at_4) rfl k) ?_
      show F (s₁.setTop (mkF m 5 #[.val (.int p0), .unset, .unset, .unset, .unset] [(.int ((p0 % (4 : Int32)) + (4 : Int32)))]))
      refine bk (fun t k => XS.iconst X0.here hx rfl (hb hby at_5) k) ?_
      show F (s₁.setTop (mkF m 6 #[.val (.int p0), .unset, .unset, .unset, .unset] [(.int (4 : Int32)), (.int ((p0 % (4 : Int32)) + (4 : Int32)))]))
      refine bk (fun t k => iremM X0 hx rfl (hb hby at_6) rfl (by decide) k) ?_
      show F (s₁.setTop (mkF m 7 #[.val (.int p0), .unset, .unset, .unset, .unset] [(.int (own_low p0))]))
      refine bk (fun t k => XS.istoreN X0.here hx rfl (hb hby at_7) rfl (l' := #[.val (.int p0), .val (.int (own_low p0)), .unset, .unset, .unset]) rfl k) ?_
      show F (s₁.setTop (mkF m 8 #[.val (.int p0), .val (.int (own_low p0)), .unset, .unset, .unset] []))
      refine bk (fun t k => XS.iloadN X0.here hx rfl (hb hby at_8) rfl k) ?_
      show F (s₁.setTop (mkF m 9 #[.val (.int p0), .val (.int (own_low p0)), .unset, .unset, .unset] [(.int (own_low p0))]))
      refine bk (fun t k => XS.ifYes X0.here hx rfl (pc0 := 9) (pc' := 17) rfl (hb hby at_9) rfl ((if0 _ _).trans (feq (own_lowN0 (Or.inl hc900_1))).2) (by decide) (by decide) k) ?_
      show F (s₁.setTop (mkF m 17 #[.val (.int p0), .val (.int (own_low p0)), .unset, .unset, .unset] []))
      refine bk (fun t k => XS.iloadN X0.here hx rfl (hb hby at_17) rfl k) ?_
      show F (s₁.setTop (mkF m 18 #[.val (.int p0), .val (.int (own_low p0)), .unset, .unset, .unset] [(.int (own_low p0))]))
      refine bk (fun t k => XS.iconst X0.here hx rfl (hb hby at_18) k) ?_
      show F (s₁.setTop (mkF m 19 #[.val (.int p0), .val (.int (own_low p0)), .unset, .unset, .unset] [(.int (1 : Int32)), (.int (own_low p0))]))
      refine bk (fun t k => XS.icmpYes X0.here hx rfl (pc0 := 19) (pc' := 29) rfl (hb hby at_19) rfl (feq (own_lowN1 hc900_1)).2 (by decide) (by decide) k) ?_
      show F (s₁.setTop (mkF m 29 #[.val (.int p0), .val (.int (own_low p0)), .unset, .unset, .unset] []))
      obtain ⟨T33, X33, e33, st33⟩ := getS2 X0 hx hZ hown (host := "") (Or.inl w_10) Via.refl e0 S_RELIABLE (g := (mkF m 29 #[.val (.int p0), .val (.int (own_low p0)), .unset, .unset, .unset] [])) rfl (hb hby at_29)
      refine bk (fun t k => st33 t k) ?_
      show F (T33.setTop (mkF m 32 #[.val (.int p0), .val (.int (own_low p0)), .unset, .unset, .unset] [(.ref w_RELIABLE)]))
      refine bk (fun t k => XS.astoreN X33.here hx rfl (hb hby at_32) rfl rfl (l' := #[.val (.int p0), .val (.int (own_low p0)), .val (.ref w_RELIABLE), .unset, .unset]) rfl k) ?_
      show F (T33.setTop (mkF m 33 #[.val (.int p0), .val (.int (own_low p0)), .val (.ref w_RELIABLE), .unset, .unset] []))
      refine bk (fun t k => XS.iloadN X33.here hx rfl (hb hby at_33) rfl k) ?_
      show F (T33.setTop (mkF m 34 #[.val (.int p0), .val (.int (own_low p0)), .val (.ref w_RELIABLE), .unset, .unset] [(.int p0)]))
      obtain ⟨_, _, ⟨T34, L34, k34, n34⟩, -, X34, ⟨Lc34, hQ34, l34, y34, z34⟩, st34⟩ := Jvm.LawKit.callS X33 hx (y := (⟨"com/example/occoquan/occoquan/Service", "named", "(I)Lcom/example/occoquan/occoquan/Service;"⟩ : MethodName)) hown (mvT hZ w_0) (mvT hZ w_1) (mvT hZ w_2) (mvT hZ w_3) (by decide) (backOf (W := 0) (rm1 l Z a0 hw [] p0 w_RELIABLE w_UNRELIABLE h0 n0 Z0 S_RELIABLE S_UNRELIABLE O_RELIABLE O_UNRELIABLE) hZ w_3 w_2 (by decide) (by decide)) (g := (mkF m 34 #[.val (.int p0), .val (.int (own_low p0)), .val (.ref w_RELIABLE), .unset, .unset] [(.int p0)])) rfl (by rw [hml]; rfl) (argsL := [(.int p0)]) (rest := []) (lenOf pd0__I_Lcom_example_occoquan_occoquan_Service_ rfl) rfl (by show 2 * 0 + _ ≤ _; exact Nat.le_of_eq rfl) (hb hby at_34) (fun _ _ => ⟨rfl, e33, (by decide : 0 + 0 ≤ _), (by decide : 0 + 0 ≤ _)⟩)
      dsimp only [Pt.U, Pt.locs, Pt.cells, Pt.slots] at X34 l34 y34 z34 st34 hQ34
      subst l34 y34 z34
      obtain ⟨hv34, N34q, e34⟩ := hQ34
      rw [own_named, if_neg hc900_1] at hv34
      subst hv34
      have N34 := Fr.app N0 N34q
      refine bk (fun t k => st34 t k) ?_
      show F (T34.setTop (mkF m 37 #[.val (.int p0), .val (.int (own_low p0)), .val (.ref w_RELIABLE), .unset, .unset] [(.ref w_RELIABLE)]))
      refine bk (fun t k => XS.astoreN X34.here hx rfl (hb hby at_37) rfl rfl (l' := #[.val (.int p0), .val (.int (own_low p0)), .val (.ref w_RELIABLE), .val (.ref w_RELIABLE), .unset]) rfl k) ?_
      show F (T34.setTop (mkF m 38 #[.val (.int p0), .val (.int (own_low p0)), .val (.ref w_RELIABLE), .val (.ref w_RELIABLE), .unset] []))
      obtain ⟨T35, X35, e35, st35⟩ := getS2 X34 hx hZ hown (host := "") (Or.inl w_10) Via.refl e34 S_RELIABLE (g := (mkF m 38 #[.val (.int p0), .val (.int (own_low p0)), .val (.ref w_RELIABLE), .val (.ref w_RELIABLE), .unset] [])) rfl (hb hby at_38)
      refine bk (fun t k => st35 t k) ?_
      show F (T35.setTop (mkF m 41 #[.val (.int p0), .val (.int (own_low p0)), .val (.ref w_RELIABLE), .val (.ref w_RELIABLE), .unset] [(.ref w_RELIABLE)]))
      obtain ⟨cq36, kq36, q36a, q36b, q36c⟩ := isOf hZ e35 (E_RELIABLE)
      obtain ⟨_, _, ⟨T36, L36, k36, n36⟩, -, X36, ⟨Lc36, hQ36, l36, y36, z36⟩, st36⟩ := X35.virtualBack hx (y := (⟨"com/example/occoquan/occoquan/Service", "mode", "()I"⟩ : MethodName)) (z := (⟨"com/example/occoquan/occoquan/Service", "mode", "()I"⟩ : MethodName)) hown (mvT hZ w_11) (mvT hZ w_12) (notFace_of_selects (args := #[]) (mvT hZ w_14)) (mvT hZ w_14) (mvT hZ w_13) (by decide) (backOf (W := 0) (rm2 l Z a0 hw [] w_RELIABLE (2 : Int32) h0 n0 Z0 O_RELIABLE) hZ w_15 w_2 (by decide) (by decide)) q36a q36c (g := (mkF m 41 #[.val (.int p0), .val (.int (own_low p0)), .val (.ref w_RELIABLE), .val (.ref w_RELIABLE), .unset] [(.ref w_RELIABLE)])) rfl (by rw [hml]; rfl) (Steps.refl _) (argsL := []) (rest := []) (lenOf pd0___I rfl) rfl (by show 2 * 0 + _ ≤ _; exact Nat.le_of_eq rfl) (hb hby at_41) (fun _ _ => ⟨rfl, e35, (by decide : 0 + 0 ≤ _), (by decide : 0 + 0 ≤ _)⟩)
      dsimp only [Pt.U, Pt.locs, Pt.cells, Pt.slots] at X36 l36 y36 z36 st36 hQ36
      subst l36 y36 z36
      obtain ⟨rfl, N36q, e36⟩ := hQ36
      have N36 := Fr.app N34 N36q
      refine bk (fun t k => st36.trans k) ?_
      show F (T36.setTop (mkF m 44 #[.val (.int p0), .val (.int (own_low p0)), .val (.ref w_RELIABLE), .val (.ref w_RELIABLE), .unset] [(.int (2 : Int32))]))
      obtain ⟨_, _, ⟨T37, L37, k37, n37⟩, -, X37, ⟨Lc37, hQ37, l37, y37, z37⟩, st37⟩ := Jvm.LawKit.callS X36 hx (y := (⟨"com/example/occoquan/occoquan/Service", "named", "(I)Lcom/example/occoquan/occoquan/Service;"⟩ : MethodName)) hown (mvT hZ w_0) (mvT hZ w_1) (mvT hZ w_2) (mvT hZ w_3) (by decide) (backOf (W := 0) (rm1 l Z a0 hw [] (2 : Int32) w_RELIABLE w_UNRELIABLE h0 n0 Z0 S_RELIABLE S_UNRELIABLE O_RELIABLE O_UNRELIABLE) hZ w_3 w_2 (by decide) (by decide)) (g := (mkF m 44 #[.val (.int p0), .val (.int (own_low p0)), .val (.ref w_RELIABLE), .val (.ref w_RELIABLE), .unset] [(.int (2 : Int32))])) rfl (by rw [hml]; rfl) (argsL := [(.int (2 : Int32))]) (rest := []) (lenOf pd0__I_Lcom_example_occoquan_occoquan_Service_ rfl) rfl (by show 2 * 0 + _ ≤ _; exact Nat.le_of_eq rfl) (hb hby at_44) (fun _ _ => ⟨rfl, e36, (by decide : 0 + 0 ≤ _), (by decide : 0 + 0 ≤ _)⟩)
      dsimp only [Pt.U, Pt.locs, Pt.cells, Pt.slots] at X37 l37 y37 z37 st37 hQ37
      subst l37 y37 z37
      obtain ⟨hv37, N37q, e37⟩ := hQ37
      rw [own_named2] at hv37
      subst hv37
      have N37 := Fr.app N36 N37q
      refine bk (fun t k => st37 t k) ?_
      show F (T37.setTop (mkF m 47 #[.val (.int p0), .val (.int (own_low p0)), .val (.ref w_RELIABLE), .val (.ref w_RELIABLE), .unset] [(.ref w_RELIABLE)]))
      obtain ⟨T38, X38, e38, st38⟩ := getS2 X37 hx hZ hown (host := "") (Or.inl w_10) Via.refl e37 S_RELIABLE (g := (mkF m 47 #[.val (.int p0), .val (.int (own_low p0)), .val (.ref w_RELIABLE), .val (.ref w_RELIABLE), .unset] [(.ref w_RELIABLE)])) rfl (hb hby at_47)
      refine bk (fun t k => st38 t k) ?_
      show F (T38.setTop (mkF m 50 #[.val (.int p0), .val (.int (own_low p0)), .val (.ref w_RELIABLE), .val (.ref w_RELIABLE), .unset] [(.ref w_RELIABLE), (.ref w_RELIABLE)]))
      refine bk (fun t k => Jvm.RoadKit.acmp (g := (mkF m 50 #[.val (.int p0), .val (.int (own_low p0)), .val (.ref w_RELIABLE), .val (.ref w_RELIABLE), .unset] [(.ref w_RELIABLE), (.ref w_RELIABLE)])) X38 hx rfl rfl rfl (pc0 := 50) (pc' := 53) (same := true) rfl (hb hby at_50) rfl (decide_eq_true rfl) (by decide) (by decide) k) ?_
      show F (T38.setTop (mkF m 53 #[.val (.int p0), .val (.int (own_low p0)), .val (.ref w_RELIABLE), .val (.ref w_RELIABLE), .unset] []))
      obtain ⟨T39, X39, e39, st39⟩ := getS2 X38 hx hZ hown (host := "") (Or.inl w_16) Via.refl e38 S_UNRELIABLE (g := (mkF m 53 #[.val (.int p0), .val (.int (own_low p0)), .val (.ref w_RELIABLE), .val (.ref w_RELIABLE), .unset] [])) rfl (hb hby at_53)
      refine bk (fun t k => st39 t k) ?_
      show F (T39.setTop (mkF m 56 #[.val (.int p0), .val (.int (own_low p0)), .val (.ref w_RELIABLE), .val (.ref w_RELIABLE), .unset] [(.ref w_UNRELIABLE)]))
      obtain ⟨cq40, kq40, q40a, q40b, q40c⟩ := isOf hZ e39 (E_UNRELIABLE)
      obtain ⟨_, _, ⟨T40, L40, k40, n40⟩, -, X40, ⟨Lc40, hQ40, l40, y40, z40⟩, st40⟩ := X39.virtualBack hx (y := (⟨"com/example/occoquan/occoquan/Service", "mode", "()I"⟩ : MethodName)) (z := (⟨"com/example/occoquan/occoquan/Service", "mode", "()I"⟩ : MethodName)) hown (mvT hZ w_11) (mvT hZ w_12) (notFace_of_selects (args := #[]) (mvT hZ w_14)) (mvT hZ w_14) (mvT hZ w_13) (by decide) (backOf (W := 0) (rm2 l Z a0 hw [] w_UNRELIABLE (1 : Int32) h0 n0 Z0 O_UNRELIABLE) hZ w_15 w_2 (by decide) (by decide)) q40a q40c (g := (mkF m 56 #[.val (.int p0), .val (.int (own_low p0)), .val (.ref w_RELIABLE), .val (.ref w_RELIABLE), .unset] [(.ref w_UNRELIABLE)])) rfl (by rw [hml]; rfl) (Steps.refl _) (argsL := []) (rest := []) (lenOf pd0___I rfl) rfl (by show 2 * 0 + _ ≤ _; exact Nat.le_of_eq rfl) (hb hby at_56) (fun _ _ => ⟨rfl, e39, (by decide : 0 + 0 ≤ _), (by decide : 0 + 0 ≤ _)⟩)
      dsimp only [Pt.U, Pt.locs, Pt.cells, Pt.slots] at X40 l40 y40 z40 st40 hQ40
      subst l40 y40 z40
      obtain ⟨rfl, N40q, e40⟩ := hQ40
      have N40 := Fr.app N37 N40q
      refine bk (fun t k => st40.trans k) ?_
      show F (T40.setTop (mkF m 59 #[.val (.int p0), .val (.int (own_low p0)), .val (.ref w_RELIABLE), .val (.ref w_RELIABLE), .unset] [(.int (1 : Int32))]))
      obtain ⟨_, _, ⟨T41, L41, k41, n41⟩, -, X41, ⟨Lc41, hQ41, l41, y41, z41⟩, st41⟩ := Jvm.LawKit.callS X40 hx (y := (⟨"com/example/occoquan/occoquan/Service", "named", "(I)Lcom/example/occoquan/occoquan/Service;"⟩ : MethodName)) hown (mvT hZ w_0) (mvT hZ w_1) (mvT hZ w_2) (mvT hZ w_3) (by decide) (backOf (W := 0) (rm1 l Z a0 hw [] (1 : Int32) w_RELIABLE w_UNRELIABLE h0 n0 Z0 S_RELIABLE S_UNRELIABLE O_RELIABLE O_UNRELIABLE) hZ w_3 w_2 (by decide) (by decide)) (g := (mkF m 59 #[.val (.int p0), .val (.int (own_low p0)), .val (.ref w_RELIABLE), .val (.ref w_RELIABLE), .unset] [(.int (1 : Int32))])) rfl (by rw [hml]; rfl) (argsL := [(.int (1 : Int32))]) (rest := []) (lenOf pd0__I_Lcom_example_occoquan_occoquan_Service_ rfl) rfl (by show 2 * 0 + _ ≤ _; exact Nat.le_of_eq rfl) (hb hby at_59) (fun _ _ => ⟨rfl, e40, (by decide : 0 + 0 ≤ _), (by decide : 0 + 0 ≤ _)⟩)
      dsimp only [Pt.U, Pt.locs, Pt.cells, Pt.slots] at X41 l41 y41 z41 st41 hQ41
      subst l41 y41 z41
      obtain ⟨hv41, N41q, e41⟩ := hQ41
      rw [own_named1] at hv41
      subst hv41
      have N41 := Fr.app N40 N41q
      refine bk (fun t k => st41 t k) ?_
      show F (T41.setTop (mkF m 62 #[.val (.int p0), .val (.int (own_low p0)), .val (.ref w_RELIABLE), .val (.ref w_RELIABLE), .unset] [(.ref w_UNRELIABLE)]))
      obtain ⟨T42, X42, e42, st42⟩ := getS2 X41 hx hZ hown (host := "") (Or.inl w_16) Via.refl e41 S_UNRELIABLE (g := (mkF m 62 #[.val (.int p0), .val (.int (own_low p0)), .val (.ref w_RELIABLE), .val (.ref w_RELIABLE), .unset] [(.ref w_UNRELIABLE)])) rfl (hb hby at_62)
      refine bk (fun t k => st42 t k) ?_
      show F (T42.setTop (mkF m 65 #[.val (.int p0), .val (.int (own_low p0)), .val (.ref w_RELIABLE), .val (.ref w_RELIABLE), .unset] [(.ref w_UNRELIABLE), (.ref w_UNRELIABLE)]))
      refine bk (fun t k => Jvm.RoadKit.acmp (g := (mkF m 65 #[.val (.int p0), .val (.int (own_low p0)), .val (.ref w_RELIABLE), .val (.ref w_RELIABLE), .unset] [(.ref w_UNRELIABLE), (.ref w_UNRELIABLE)])) X42 hx rfl rfl rfl (pc0 := 65) (pc' := 68) (same := true) rfl (hb hby at_65) rfl (decide_eq_true rfl) (by decide) (by decide) k) ?_
      show F (T42.setTop (mkF m 68 #[.val (.int p0), .val (.int (own_low p0)), .val (.ref w_RELIABLE), .val (.ref w_RELIABLE), .unset] []))
      refine bk (fun t k => XS.iconst X42.here hx rfl (hb hby at_68) k) ?_
      show F (T42.setTop (mkF m 69 #[.val (.int p0), .val (.int (own_low p0)), .val (.ref w_RELIABLE), .val (.ref w_RELIABLE), .unset] [(.int (1 : Int32))]))
      refine bk (fun t k => XS.goto X42.here hx rfl (pc0 := 69) (pc' := 73) rfl (hb hby at_69) (by decide) (by decide) k) ?_
      show F (T42.setTop (mkF m 73 #[.val (.int p0), .val (.int (own_low p0)), .val (.ref w_RELIABLE), .val (.ref w_RELIABLE), .unset] [(.int (1 : Int32))]))
      refine bk (fun t k => XS.istore X42.here hx rfl (hb hby at_73) rfl (l' := #[.val (.int p0), .val (.int (own_low p0)), .val (.ref w_RELIABLE), .val (.ref w_RELIABLE), .val (.int (1 : Int32))]) rfl k) ?_
      show F (T42.setTop (mkF m 75 #[.val (.int p0), .val (.int (own_low p0)), .val (.ref w_RELIABLE), .val (.ref w_RELIABLE), .val (.int (1 : Int32))] []))
      refine bk (fun t k => XS.aloadN X42.here hx rfl (hb hby at_75) rfl rfl k) ?_
      show F (T42.setTop (mkF m 76 #[.val (.int p0), .val (.int (own_low p0)), .val (.ref w_RELIABLE), .val (.ref w_RELIABLE), .val (.int (1 : Int32))] [(.ref w_RELIABLE)]))
      refine bk (fun t k => XS.aloadN X42.here hx rfl (hb hby at_76) rfl rfl k) ?_
      show F (T42.setTop (mkF m 77 #[.val (.int p0), .val (.int (own_low p0)), .val (.ref w_RELIABLE), .val (.ref w_RELIABLE), .val (.int (1 : Int32))] [(.ref w_RELIABLE), (.ref w_RELIABLE)]))
      refine bk (fun t k => Jvm.RoadKit.acmp (g := (mkF m 77 #[.val (.int p0), .val (.int (own_low p0)), .val (.ref w_RELIABLE), .val (.ref w_RELIABLE), .val (.int (1 : Int32))] [(.ref w_RELIABLE), (.ref w_RELIABLE)])) X42 hx rfl rfl rfl (pc0 := 77) (pc' := 80) (same := true) rfl (hb hby at_77) rfl (decide_eq_true rfl) (by decide) (by decide) k) ?_
      show F (T42.setTop (mkF m 80 #[.val (.int p0), .val (.int (own_low p0)), .val (.ref w_RELIABLE), .val (.ref w_RELIABLE), .val (.int (1 : Int32))] []))
      refine bk (fun t k => XS.iload X42.here hx rfl (hb hby at_80) rfl k) ?_
      show F (T42.setTop (mkF m 82 #[.val (.int p0), .val (.int (own_low p0)), .val (.ref w_RELIABLE), .val (.ref w_RELIABLE), .val (.int (1 : Int32))] [(.int (1 : Int32))]))
      refine bk (fun t k => XS.ifNo X42.here hx rfl (hb hby at_82) rfl ((if0 _ _).trans (feq (by decide : ¬ ((1 : Int32) = (0 : Int32)))).1) k) ?_
      show F (T42.setTop (mkF m 85 #[.val (.int p0), .val (.int (own_low p0)), .val (.ref w_RELIABLE), .val (.ref w_RELIABLE), .val (.int (1 : Int32))] []))
      refine bk (fun t k => XS.iconst X42.here hx rfl (hb hby at_85) k) ?_
      show F (T42.setTop (mkF m 86 #[.val (.int p0), .val (.int (own_low p0)), .val (.ref w_RELIABLE), .val (.ref w_RELIABLE), .val (.int (1 : Int32))] [(.int (1 : Int32))]))
      refine bk (fun t k => XS.goto X42.here hx rfl (pc0 := 86) (pc' := 90) rfl (hb hby at_86) (by decide) (by decide) k) ?_
      show F (T42.setTop (mkF m 90 #[.val (.int p0), .val (.int (own_low p0)), .val (.ref w_RELIABLE), .val (.ref w_RELIABLE), .val (.int (1 : Int32))] [(.int (1 : Int32))]))
      rw [hF]
      refine own_retZ X42 hx Bd.notSynchronized Bd.returns (hb hby at_90) (by decide) (by decide) ?_
      rw [e42]
      exact ⟨rfl, N41⟩
set_option maxRecDepth 65536 in
set_option maxHeartbeats 40000000 in
theorem comes_1 {Post : Tables → Env → Array Value → State → Outcome → State → Prop} (hpost : ∀ tb e args s v u, (limb_1_1.after args s (.returned v) u = true ∧ limb_1_2.after args s (.returned v) u = true ∧ True) → FrameEnd s (.returned v) u (Jvm.fieldLocs frame_1_writes args s ++ Jvm.arrayLocs frame_1_arrays args s ++ Jvm.staticLocs frame_1_statics s) 0 0 → Post tb e args s (.returned v) u) :
    ArmFor flags0 classFile x code maxLocals ret World_1 tables_1 room_1 Calls_1 rest_1 Pre_1 Post := by
  intro l hfl _ _ p e ha hc hk s m args below hf hA hF happ hP
  obtain ⟨hcalls, hrest, hpre⟩ := hP
  obtain ⟨-, -, -, hnamed, -, -, -, hat⟩ := (Spec.applies_iff hf).mp happ
  obtain ⟨hg, hn⟩ := and_e (Cond.before_iff.mp (show (Jvm.Cond.and given_1 narrow_1).before args s = true from hpre))
  obtain ⟨hcount, hk0⟩ := and_e hg
  have hi0 := hk0
  obtain ⟨w0, rfl⟩ : ∃ w0 : Value, args = #[w0] := by
    have hs : args.size = 1 := by simpa [Cond.value, given_1] using hcount
    obtain ⟨L⟩ := args
    match L, hs with
    | [w0], _ => exact ⟨w0, rfl⟩
  have hw := fun d (hd : d ∈ tables_1) => atoms_spec (ws := Jvm.Cond.code x code maxLocals ret :: tables_1) hat d (List.mem_cons_of_mem _ hd)
  obtain ⟨i0, ei0⟩ := is_v hi0
  obtain rfl : w0 = (.int i0) := Option.some.inj ei0
  obtain ⟨na1, nb1⟩ := and_e hn
  obtain ⟨na2, nb2⟩ := and_e nb1
  obtain ⟨na3, nb3⟩ := and_e nb2
  obtain ⟨w_RELIABLE, ev_RELIABLE⟩ := exa_v na1
  have S_RELIABLE : Sta s s.heap "com/example/occoquan/occoquan/Service" "RELIABLE" "Lcom/example/occoquan/occoquan/Service;" (.ref w_RELIABLE) := Sta.start ev_RELIABLE (Or.inr ⟨(hw _ (List.mem_of_getElem? (i := 2) rfl)), (hw _ (List.mem_of_getElem? (i := 5) rfl))⟩)
  have E_RELIABLE : Exa s s.heap w_RELIABLE "com/example/occoquan/occoquan/Service" := Exa.start ev_RELIABLE na1
  have O0_RELIABLE : Fld s s.heap w_RELIABLE "com/example/occoquan/occoquan/Service" "mode" "I" (.int (2 : Int32)) := own_fldAt ev_RELIABLE na2
  obtain ⟨w_UNRELIABLE, ev_UNRELIABLE⟩ := exa_v na3
  have S_UNRELIABLE : Sta s s.heap "com/example/occoquan/occoquan/Service" "UNRELIABLE" "Lcom/example/occoquan/occoquan/Service;" (.ref w_UNRELIABLE) := Sta.start ev_UNRELIABLE (Or.inr ⟨(hw _ (List.mem_of_getElem? (i := 2) rfl)), (hw _ (List.mem_of_getElem? (i := 9) rfl))⟩)
  have E_UNRELIABLE : Exa s s.heap w_UNRELIABLE "com/example/occoquan/occoquan/Service" := Exa.start ev_UNRELIABLE na3
  have O0_UNRELIABLE : Fld s s.heap w_UNRELIABLE "com/example/occoquan/occoquan/Service" "mode" "I" (.int (1 : Int32)) := own_fldAt ev_UNRELIABLE nb3
  obtain ⟨n, o, h1, h2, h3, _, L, rfl, ⟨rfl, N⟩, hq⟩ := rm0 l s _ hw tables_1 i0 w_RELIABLE w_UNRELIABLE s.heap s.heap.size (Nat.le_refl _) S_RELIABLE S_UNRELIABLE E_RELIABLE E_UNRELIABLE O0_RELIABLE O0_UNRELIABLE p e ha hc hk s m _ below hf ((Spec.applies_iff_loose hf).mp happ).1 ⟨rfl, State.Warmed39.refl s, rfl⟩ trivial
  refine ⟨n, _, h1, h2, h3, hpost _ _ _ _ _ _ ⟨Cond.after_iff.mpr rfl, Cond.after_iff.mpr (eq_i res_at (Term.int_eval (1)) rfl), trivial⟩ ⟨hq.1, hq.2.1, (hq.2.2.sift fun y hy => Or.inr (N y hy)).mono (by decide) (by decide)⟩⟩
theorem main_1_1 : Claimed_1_1 := comes_1 fun _ _ _ _ _ _ h hF => ⟨h.1, hF⟩
theorem main_1_2 : Claimed_1_2 := comes_1 fun _ _ _ _ _ _ h hF => ⟨h.2.1, hF⟩
end Jvm.Pilot.@@N@@
namespace Jvm.Pilot.@@N@@
open Jvm Jvm.ClassFile Sem Op Lib Jvm.Free Jvm.Stand Jvm.Pilot.@@N@@.Jvm.D
/-! MADE BY PROGRAM (witnessworld.py) out of the Statement's table words and the real class files: 12 classes; the members and pool entries that the words name. The judged class is class 1, her method 1. -/
namespace start1
open Jvm.ClassFile
def u (s : String) : CpInfo := .utf8 (stringToUtf16 s)
/-- a pool by its gaps: so many unusable entries, then the entry; so many at the end -/
def gap : Nat → List CpInfo → List CpInfo
  | 0, r => r
  | n + 1, r => .unusable :: gap n r
def poolList (es : List (Nat × CpInfo)) (last : Nat) : List CpInfo := es.foldr (fun e r => gap e.1 (e.2 :: r)) (gap last [])
def pool (es : List (Nat × CpInfo)) (last : Nat) : Array CpInfo := ⟨poolList es last⟩
def fileOf (pool : Array CpInfo) (this : Nat) (attrs : Array Attribute := #[]) (ms : Array MethodInfo := #[]) (fl : Nat := 33) (sup : Nat := 0) (ifs : Array Nat := #[]) (fds : Array FieldInfo := #[]) : ClassFile where
  minorVersion := 0
  majorVersion := 65
  constantPool := pool
  accessFlags := fl
  thisClass := this
  superClass := sup
  interfaces := ifs
  fields := fds
  methods := ms
  attributes := attrs
def plain (name : String) (sup : Option ClassId) : Class where
  name := name
  kind := .ordinary
  loader := none
  accessFlags := 33
  super := sup
  interfaces := #[]
  cf := none
  fields := #[]
  methods := #[]
  instanceTypes := #[]
  staticTypes := #[]
  resolved := #[]
  callSites := []
  init := .initialized
  statics := none
  mirror := none

def pool0 : Array CpInfo := pool [(5, u "<init>"), (0, u "()V"), (1, .class_ 10), (1, u "java/lang/Object")] 113

def k0m0 : Method := { name := "<init>", desc := "()V", sig := { parameters := [], returnType := none }, accessFlags := 1, code := none }
/-- java/lang/Object -/
def k0 : Class := { plain "java/lang/Object" none with
  accessFlags := 33
  interfaces := #[]
  cf := some (fileOf pool0 8 #[] #[{ accessFlags := 1, nameIndex := 5, descriptorIndex := 6, attributes := #[] }] 33 0 #[] #[])
  fields := #[]
  methods := #[k0m0]
  instanceTypes := #[]
  staticTypes := #[]
  resolved := Array.replicate 124 none
  statics := none }

def pool1 : Array CpInfo := pool [(2, .class_ 4), (1, u "java/lang/Object"), (0, u "<init>"), (0, u "()V"), (0, .fieldref 8 9), (0, .class_ 10), (0, .nameAndType 11 12), (0, u "com/example/occoquan/occoquan/Service"), (0, u "UNRELIABLE"), (0, u "Lcom/example/occoquan/occoquan/Service;"), (0, .fieldref 8 14), (0, .nameAndType 15 12), (0, u "RELIABLE"), (0, .methodref 8 17), (0, .nameAndType 18 19), (0, u "named"), (0, u "(I)Lcom/example/occoquan/occoquan/Service;"), (0, .methodref 8 21), (0, .nameAndType 22 23), (0, u "mode"), (0, u "()I"), (0, .class_ 25), (0, u "com/example/occoquan/occoquan/ServiceNamedPinLaw"), (2, u "law"), (0, u "(I)Z")] 3

def k1m0 : Method := { name := "<init>", desc := "()V", sig := { parameters := [], returnType := none }, accessFlags := 2, code := none }
def k1c1 : Code := { maxStack := 2, maxLocals := 5, code := code, exceptionTable := #[], attributes := #[] }
def k1m1 : Method := { name := "law", desc := "(I)Z", sig := { parameters := [.int], returnType := some .boolean }, accessFlags := 9, code := some k1c1 }
/-- com/example/occoquan/occoquan/ServiceNamedPinLaw -/
def k1 : Class := { plain "com/example/occoquan/occoquan/ServiceNamedPinLaw" (some 0) with
  accessFlags := 49
  interfaces := #[]
  cf := some (fileOf pool1 24 #[] #[{ accessFlags := 2, nameIndex := 5, descriptorIndex := 6, attributes := #[] }, { accessFlags := 9, nameIndex := 28, descriptorIndex := 29, attributes := #[] }] 49 2 #[] #[])
  fields := #[]
  methods := #[k1m0, k1m1]
  instanceTypes := #[]
  staticTypes := #[]
  resolved := Array.replicate 33 none
  statics := none }

def pool2 : Array CpInfo := pool [(1, .class_ 2), (0, u "java/lang/constant/Constable"), (0, .class_ 4), (0, u "java/lang/Object")] 6

/-- java/lang/constant/Constable -/
def k2 : Class := { plain "java/lang/constant/Constable" (some 0) with
  accessFlags := 1537
  interfaces := #[]
  cf := some (fileOf pool2 1 #[] #[] 1537 3 #[] #[])
  fields := #[]
  methods := #[]
  instanceTypes := #[]
  staticTypes := #[]
  resolved := Array.replicate 11 none
  statics := none }

def pool3 : Array CpInfo := pool [(1, .class_ 2), (0, u "java/lang/Comparable"), (0, .class_ 4), (0, u "java/lang/Object")] 7

/-- java/lang/Comparable -/
def k3 : Class := { plain "java/lang/Comparable" (some 0) with
  accessFlags := 1537
  interfaces := #[]
  cf := some (fileOf pool3 1 #[] #[] 1537 3 #[] #[])
  fields := #[]
  methods := #[]
  instanceTypes := #[]
  staticTypes := #[]
  resolved := Array.replicate 12 none
  statics := none }

def pool4 : Array CpInfo := pool [(1, .class_ 2), (0, u "java/io/Serializable"), (0, .class_ 4), (0, u "java/lang/Object")] 2

/-- java/io/Serializable -/
def k4 : Class := { plain "java/io/Serializable" (some 0) with
  accessFlags := 1537
  interfaces := #[]
  cf := some (fileOf pool4 1 #[] #[] 1537 3 #[] #[])
  fields := #[]
  methods := #[]
  instanceTypes := #[]
  staticTypes := #[]
  resolved := Array.replicate 7 none
  statics := none }

def pool5 : Array CpInfo := pool [(2, .class_ 4), (1, u "java/lang/Enum"), (0, u "name"), (0, u "Ljava/lang/String;"), (2, u "ordinal"), (0, u "I"), (1, .class_ 14), (1, u "java/lang/Object"), (4, u "hash"), (86, .class_ 108), (1, u "java/lang/Enum$EnumDesc"), (2, .class_ 112), (0, u "java/lang/constant/Constable"), (0, .class_ 114), (0, u "java/lang/Comparable"), (0, .class_ 116), (0, u "java/io/Serializable")] 87

/-- java/lang/Enum -/
def k5 : Class := { plain "java/lang/Enum" (some 0) with
  accessFlags := 1057
  interfaces := #[2, 3, 4]
  cf := some (fileOf pool5 2 #[.nestMembers #[106]] #[] 1057 12 #[111, 113, 115] #[{ accessFlags := 18, nameIndex := 5, descriptorIndex := 6, attributes := #[] }, { accessFlags := 18, nameIndex := 9, descriptorIndex := 10, attributes := #[] }, { accessFlags := 2, nameIndex := 19, descriptorIndex := 10, attributes := #[] }])
  fields := #[{ name := "name", type := (.object "java/lang/String"), accessFlags := 18, slot := 0, constantValue := 0 }, { name := "ordinal", type := .int, accessFlags := 18, slot := 1, constantValue := 0 }, { name := "hash", type := .int, accessFlags := 2, slot := 2, constantValue := 0 }]
  methods := #[]
  instanceTypes := #[(.object "java/lang/String"), .int, .int]
  staticTypes := #[]
  resolved := Array.replicate 204 none
  statics := none }

def pool6 : Array CpInfo := pool [(1, .class_ 2), (0, u "com/example/occoquan/occoquan/Service"), (0, .fieldref 1 4), (0, .nameAndType 5 6), (0, u "RELIABLE"), (0, u "Lcom/example/occoquan/occoquan/Service;"), (0, .fieldref 1 8), (0, .nameAndType 9 6), (0, u "UNRELIABLE"), (2, u "$VALUES"), (0, u "[Lcom/example/occoquan/occoquan/Service;"), (6, .class_ 22), (1, u "java/lang/Enum"), (6, .fieldref 1 30), (0, .nameAndType 31 32), (0, u "mode"), (0, u "I"), (18, u "()I"), (0, u "named"), (0, u "(I)Lcom/example/occoquan/occoquan/Service;")] 6

def k6c0 : Code := { maxStack := 1, maxLocals := 1, code := prog_69_method_4_code, exceptionTable := #[], attributes := #[] }
def k6m0 : Method := { name := "mode", desc := "()I", sig := { parameters := [], returnType := some .int }, accessFlags := 0, code := some k6c0 }
def k6c1 : Code := { maxStack := 2, maxLocals := 1, code := prog_69_method_5_code, exceptionTable := #[], attributes := #[] }
def k6m1 : Method := { name := "named", desc := "(I)Lcom/example/occoquan/occoquan/Service;", sig := { parameters := [.int], returnType := some (.object "com/example/occoquan/occoquan/Service") }, accessFlags := 8, code := some k6c1 }
/-- com/example/occoquan/occoquan/Service -/
def k6 : Class := { plain "com/example/occoquan/occoquan/Service" (some 5) with
  accessFlags := 16433
  interfaces := #[]
  cf := some (fileOf pool6 1 #[] #[{ accessFlags := 0, nameIndex := 31, descriptorIndex := 51, attributes := #[] }, { accessFlags := 8, nameIndex := 52, descriptorIndex := 53, attributes := #[] }] 16433 20 #[] #[{ accessFlags := 16409, nameIndex := 5, descriptorIndex := 6, attributes := #[] }, { accessFlags := 16409, nameIndex := 9, descriptorIndex := 6, attributes := #[] }, { accessFlags := 18, nameIndex := 31, descriptorIndex := 32, attributes := #[] }, { accessFlags := 4122, nameIndex := 12, descriptorIndex := 13, attributes := #[] }])
  fields := #[{ name := "RELIABLE", type := (.object "com/example/occoquan/occoquan/Service"), accessFlags := 16409, slot := 0, constantValue := 0 }, { name := "UNRELIABLE", type := (.object "com/example/occoquan/occoquan/Service"), accessFlags := 16409, slot := 1, constantValue := 0 }, { name := "mode", type := .int, accessFlags := 18, slot := 3, constantValue := 0 }, { name := "$VALUES", type := (.array (.object "com/example/occoquan/occoquan/Service")), accessFlags := 4122, slot := 2, constantValue := 0 }]
  methods := #[k6m0, k6m1]
  instanceTypes := #[(.object "java/lang/String"), .int, .int, .int]
  staticTypes := #[(.object "com/example/occoquan/occoquan/Service"), (.object "com/example/occoquan/occoquan/Service"), (.array (.object "com/example/occoquan/occoquan/Service"))]
  resolved := Array.replicate 60 none
  statics := some 0 }

def pool7 : Array CpInfo := pool [(1, u "java/lang/Cloneable"), (0, .class_ 1), (0, u "java/lang/Object"), (0, .class_ 3)] 3

/-- java/lang/Cloneable -/
def k7 : Class := { plain "java/lang/Cloneable" (some 0) with
  accessFlags := 1537
  interfaces := #[]
  cf := some (fileOf pool7 2 #[] #[] 1537 4 #[] #[])
  fields := #[]
  methods := #[]
  instanceTypes := #[]
  staticTypes := #[]
  resolved := Array.replicate 8 none
  statics := none }

/-- the primitive byte -/
def k8 : Class := { plain "byte" none with kind := .primitive 'B', accessFlags := 0x411 }
/-- [B -/
def k9 : Class := { plain "[B" (some 0) with kind := .array 8 .byte, interfaces := #[7, 4], accessFlags := 1041 }

/-- the primitive int -/
def k10 : Class := { plain "int" none with kind := .primitive 'I', accessFlags := 0x411 }
/-- [I -/
def k11 : Class := { plain "[I" (some 0) with kind := .array 10 .int, interfaces := #[7, 4], accessFlags := 1041 }

def heap : Heap := #[{ cls := 6, slots := #[.ref 1, .ref 2, .null], vm := .statics 6 },
  { cls := 6, slots := #[.null, .int 0, .int 0, .int 2], vm := .none },
  { cls := 6, slots := #[.null, .int 1, .int 0, .int 1], vm := .none }]
def classes : Array Class := #[k0, k1, k2, k3, k4, k5, k6, k7, k8, k9, k10, k11]
def interned : List (Array UInt16 × Addr) := []
def slotsUsed : Nat := 11
def theMethod : MethodId := ⟨1, 1⟩
def args0 : Array Value := #[.int 5]
def aboutOver (below : List Frame) : State where
  vm := { classes := classes, interned := interned.toArray }
  heap := heap
  slotsUsed := slotsUsed
  threads := #[{ frames := .invoking theMethod args0 :: below }]
def below0 : List Frame := [.native { method := ⟨0, 0⟩, args := #[] }]
def about1 : State := aboutOver below0
def p0 : Program := .bare "" "" ""
def e0 : Env := launch0.env 0 0 0
theorem w_frames : about1.frames = Frame.invoking theMethod args0 :: below0 := rfl
set_option maxRecDepth 65536 in
theorem w_args : argsFit about1.vm theMethod args0 = true := by decide +kernel
set_option maxRecDepth 65536 in
theorem w_heap : heapFits about1 = true := by decide +kernel
set_option maxRecDepth 65536 in
theorem w_runnable : about1.curStatus? = some .runnable := by decide +kernel
set_option maxRecDepth 65536 in
theorem w_alone : about1.alone = true := by decide +kernel
set_option maxRecDepth 65536 in
theorem w_named : about1.methodNamed? x = some theMethod := by decide +kernel
set_option maxRecDepth 65536 in
theorem w_hears : about1.hears theMethod below0 = true := by decide +kernel
set_option maxRecDepth 65536 in
theorem w_ripe : about1.ripe theMethod args0 below0 = true := by decide +kernel
theorem w_running : about1.status = .running := rfl
set_option maxRecDepth 65536 in
theorem w_room : about1.hasRoom e0.platform room_1 = true :=
  launch0.hasRoom_least _ room_1 (by decide +kernel) (by decide +kernel) (by decide +kernel) (by decide +kernel) (by decide +kernel) (by decide +kernel)
theorem allAtoms_all (ts : List Jvm.Cond) (a : Array Jvm.Value) (st : Jvm.State) : (allAtoms ts).before a st = ts.all (fun c => c.before a st) := by
  induction ts with
  | nil => rfl
  | cons c t ih =>
    show (Jvm.Cond.and c (allAtoms t)).before a st = _
    rw [Jvm.Cond.before_and, ih, List.all_cons]
def words1 : List Jvm.Cond := Jvm.Cond.code x code maxLocals ret :: tables_1
/-- a 'code' word, met by the world's own term for the bytes: nothing is compared byte by byte -/
theorem code_word {y : MethodName} {bytes : ByteArray} {mx : Nat} {rt : Option FieldType} {a : Array Value} {s : State} {m : MethodId} {meth : Method} {c : Code} (h1 : s.methodNamed? y = some m) (h2 : s.vm.method? m = some meth) (h3 : meth.code = some c) (h4 : c.code = bytes)
    (h5 : (c.maxLocals == mx && c.exceptionTable.isEmpty && decide (c.maxStack ≤ mostOperands) && decide (meth.sig.returnType = rt) && !meth.locks && decide (parseMethodDescriptor y.desc = some meth.sig)) = true) : (Jvm.Cond.code y bytes mx rt).before a s = true := by
  simp only [Bool.and_eq_true, beq_iff_eq, Bool.not_eq_true', decide_eq_true_eq] at h5
  obtain ⟨⟨⟨⟨⟨g1, g2⟩, g3⟩, g4⟩, g5⟩, g6⟩ := h5
  simp [Cond.before, Cond.holds, Cond.value, h1, h2, h3, h4, g1, g2, g3, g4, g5, g6]
def isCode : Jvm.Cond → Bool
  | .code _ _ _ _ => true
  | _ => false
theorem all_split {L : List Jvm.Cond} {P : Jvm.Cond → Bool} (h1 : L.all (fun c => isCode c || P c) = true) (h2 : ∀ c ∈ L.filter isCode, P c = true) : L.all P = true := by
  refine List.all_eq_true.mpr fun c hc => ?_
  have h := List.all_eq_true.mp h1 c hc
  rcases Bool.eq_false_or_eq_true (isCode c) with hi | hi
  · exact h2 c (List.mem_filter.mpr ⟨hc, hi⟩)
  · simpa [hi] using h
set_option maxRecDepth 65536 in
theorem w_c0 : (Jvm.Cond.code x code maxLocals ret).before args0 about1 = true := code_word (m := ⟨1, 1⟩) (meth := k1m1) (c := k1c1) (by decide +kernel) rfl rfl rfl (by decide +kernel)
set_option maxRecDepth 65536 in
theorem w_c1 : (Jvm.Cond.code ({ cls := "com/example/occoquan/occoquan/Service", name := "named", desc := "(I)Lcom/example/occoquan/occoquan/Service;" } : Jvm.MethodName) prog_69_method_5_code (1 : Nat) (Option.some (Jvm.ClassFile.FieldType.object "com/example/occoquan/occoquan/Service"))).before args0 about1 = true := code_word (m := ⟨6, 1⟩) (meth := k6m1) (c := k6c1) (by decide +kernel) rfl rfl rfl (by decide +kernel)
set_option maxRecDepth 65536 in
theorem w_c2 : (Jvm.Cond.code ({ cls := "com/example/occoquan/occoquan/Service", name := "mode", desc := "()I" } : Jvm.MethodName) prog_69_method_4_code (1 : Nat) (Option.some Jvm.ClassFile.FieldType.int)).before args0 about1 = true := code_word (m := ⟨6, 0⟩) (meth := k6m0) (c := k6c0) (by decide +kernel) rfl rfl rfl (by decide +kernel)
def codes1 : List Jvm.Cond := [Jvm.Cond.code x code maxLocals ret, Jvm.Cond.code ({ cls := "com/example/occoquan/occoquan/Service", name := "named", desc := "(I)Lcom/example/occoquan/occoquan/Service;" } : Jvm.MethodName) prog_69_method_5_code (1 : Nat) (Option.some (Jvm.ClassFile.FieldType.object "com/example/occoquan/occoquan/Service")), Jvm.Cond.code ({ cls := "com/example/occoquan/occoquan/Service", name := "mode", desc := "()I" } : Jvm.MethodName) prog_69_method_4_code (1 : Nat) (Option.some Jvm.ClassFile.FieldType.int)]
set_option maxRecDepth 65536 in
theorem codes_eq : words1.filter isCode = codes1 := rfl
theorem w_codes : ∀ c ∈ words1.filter isCode, c.before args0 about1 = true := by
  rw [codes_eq]
  intro c hc
  simp only [codes1, List.mem_cons, List.not_mem_nil, or_false] at hc
  rcases hc with rfl | rfl | rfl
  · exact w_c0
  · exact w_c1
  · exact w_c2
set_option maxRecDepth 65536 in
theorem w_t1 : words1.all (fun c => isCode c || c.before args0 about1) = true := by decide +kernel
theorem w_tables : (allAtoms (Jvm.Cond.code x code maxLocals ret :: tables_1)).before args0 about1 = true := by
  rw [allAtoms_all]
  show words1.all (fun c => c.before args0 about1) = true
  refine all_split ?_ w_codes
  rw [w_t1]
set_option maxRecDepth 65536 in
theorem w_case : (Jvm.Cond.and given_1 narrow_1).before args0 about1 = true := by decide +kernel
theorem w_applies : (headSpec (Jvm.Cond.code x code maxLocals ret :: tables_1) room_1).applies x e0.platform about1 = true :=
  (Spec.applies_iff w_frames).mpr ⟨w_running, w_runnable, w_alone, w_named, w_hears, w_ripe, w_room, w_tables⟩
theorem atStart : AtStart classFile x code maxLocals ret World_1 tables_1 room_1 Calls_1 rest_1 Pre_1 launch0 p0 e0 about1 theMethod args0 below0 :=
  ⟨lists_1, trivial, launch0.admits_env _ _ _, launch0.least_env, fairChoices_fair.cas, fairChoices_fair.clock, w_frames, w_args, w_heap, w_applies, trivial, trivial, w_case⟩
end start1
theorem witness_1 : WitnessClaimed_1 := ⟨start1.p0, start1.e0, start1.about1, start1.theMethod, start1.args0, start1.below0, start1.atStart⟩
end Jvm.Pilot.@@N@@
