import JvmDerived
import JvmDerived.Pilot.@@N@@Statement
import JvmDerived.Pilot.@@N@@Code
set_option linter.unusedVariables false
set_option linter.unusedSimpArgs false
namespace Jvm.Pilot.@@N@@
open Jvm Jvm.ClassFile Sem Op Lib Jvm.Free Jvm.Stand Jvm.LawKit Jvm.RoadKit Bundle Jvm.Pilot.@@N@@.Jvm.D
/-- the run from A comes to a return that Q speaks of -/
def own_Fin (p : Program) (e : Env) (below : List Frame) (s : State) (kc ks : Nat) (Q : Option Value → Heap → List Loc → Prop) (A : State) : Prop :=
  ∃ s₂ o, Steps p.tables e below A s₂ ∧ s₂.status = .running ∧ Ended s₂ below o ∧ ∃ v L, o = .returned v ∧ Q v s₂.heap L ∧ FrameEnd s o s₂ L kc ks
section Own
variable {p : Program} {l : Launch} {e : Env} {R : Room} {s : State} {m : MethodId} {args : Array Value} {below : List Frame} {meth : Method} {c : Code} {T : State} {locs : List Loc} {cells slots kc ks : Nat} {Q : Option Value → Heap → List Loc → Prop}
theorem own_back {A B : State} (h : ∀ t, Steps p.tables e below B t → Steps p.tables e below A t) (k : own_Fin p e below s kc ks Q B) : own_Fin p e below s kc ks Q A := by
  obtain ⟨s2, o, h1, r⟩ := k
  exact ⟨s2, o, h _ h1, r⟩
theorem own_retN (X : Stand p l e R s m args below meth c T locs cells slots) (hx : p.tables.exec = Jvm.exec) (hlk : meth.locks = false) {t : FieldType} (ht : t = .boolean ∨ t = .byte ∨ t = .char ∨ t = .short) {pc : Nat} {Ls : Array Slot} {z : Int32} {rest : List Value} (hret : meth.sig.returnType = some t) (hd : decode c.code pc = .ok (.ireturn, 1)) (hc : cells ≤ kc) (hs : slots ≤ ks)
    (hQ : Q (some (.int (nar t z))) T.heap locs) : own_Fin p e below s kc ks Q (T.setTop (mkF m pc Ls (.int z :: rest))) := by
  obtain ⟨fs, hr, hrun, hended, hW, hsame⟩ := X.leave (v := some (.int (nar t z))) (fun h => by rw [hret] at h; cases h) hlk
  exact ⟨_, _, retN X hx hret ht hd hr, hrun, hended, _, _, rfl, hQ, ⟨_, rfl⟩, hW, hsame.mono hc hs⟩
theorem own_retZ (X : Stand p l e R s m args below meth c T locs cells slots) (hx : p.tables.exec = Jvm.exec) (hlk : meth.locks = false) {pc : Nat} {Ls : Array Slot} {z : Int32} {rest : List Value} (hret : meth.sig.returnType = some .boolean) (hd : decode c.code pc = .ok (.ireturn, 1)) (hc : cells ≤ kc) (hs : slots ≤ ks)
    (hQ : Q (some (.int (z &&& 1))) T.heap locs) : own_Fin p e below s kc ks Q (T.setTop (mkF m pc Ls (.int z :: rest))) := own_retN X hx hlk (Or.inl rfl) hret hd hc hs hQ
theorem own_retB (X : Stand p l e R s m args below meth c T locs cells slots) (hx : p.tables.exec = Jvm.exec) (hlk : meth.locks = false) {pc : Nat} {Ls : Array Slot} {z : Int32} {rest : List Value} (hret : meth.sig.returnType = some .byte) (hd : decode c.code pc = .ok (.ireturn, 1)) (hc : cells ≤ kc) (hs : slots ≤ ks)
    (hQ : Q (some (.int (nar .byte z))) T.heap locs) : own_Fin p e below s kc ks Q (T.setTop (mkF m pc Ls (.int z :: rest))) := own_retN X hx hlk (Or.inr (Or.inl rfl)) hret hd hc hs hQ
theorem own_retI (X : Stand p l e R s m args below meth c T locs cells slots) (hx : p.tables.exec = Jvm.exec) (hlk : meth.locks = false) {pc : Nat} {Ls : Array Slot} {z : Int32} {rest : List Value} (hret : meth.sig.returnType = some .int) (hd : decode c.code pc = .ok (.ireturn, 1)) (hc : cells ≤ kc) (hs : slots ≤ ks)
    (hQ : Q (some (.int z)) T.heap locs) : own_Fin p e below s kc ks Q (T.setTop (mkF m pc Ls (.int z :: rest))) := by
  obtain ⟨fs, hr, hrun, hended, hW, hsame⟩ := X.leave (v := some (.int z)) (fun h => by rw [hret] at h; cases h) hlk
  exact ⟨_, _, retOut X hx hret rfl (Or.inl ⟨rfl, Or.inl rfl, z, rfl⟩) hd hr, hrun, hended, _, _, rfl, hQ, ⟨_, rfl⟩, hW, hsame.mono hc hs⟩
theorem own_retJ (X : Stand p l e R s m args below meth c T locs cells slots) (hx : p.tables.exec = Jvm.exec) (hlk : meth.locks = false) {pc : Nat} {Ls : Array Slot} {z : Int64} {rest : List Value} (hret : meth.sig.returnType = some .long) (hd : decode c.code pc = .ok (.lreturn, 1)) (hc : cells ≤ kc) (hs : slots ≤ ks)
    (hQ : Q (some (.long z)) T.heap locs) : own_Fin p e below s kc ks Q (T.setTop (mkF m pc Ls (.long z :: rest))) := by
  obtain ⟨fs, hr, hrun, hended, hW, hsame⟩ := X.leave (v := some (.long z)) (fun h => by rw [hret] at h; cases h) hlk
  exact ⟨_, _, retOut X hx hret rfl (Or.inr (Or.inl ⟨rfl, rfl, z, rfl⟩)) hd hr, hrun, hended, _, _, rfl, hQ, ⟨_, rfl⟩, hW, hsame.mono hc hs⟩
theorem own_retA (X : Stand p l e R s m args below meth c T locs cells slots) (hx : p.tables.exec = Jvm.exec) (hlk : meth.locks = false) {pc : Nat} {Ls : Array Slot} {w : Value} {rest : List Value} {t : FieldType} (hret : meth.sig.returnType = some t) (ht : t.isReference = true) (hw : w.isRef = true) (hd : decode c.code pc = .ok (.areturn, 1)) (hc : cells ≤ kc) (hs : slots ≤ ks)
    (hQ : Q (some w) T.heap locs) : own_Fin p e below s kc ks Q (T.setTop (mkF m pc Ls (w :: rest))) := by
  obtain ⟨fs, hr, hrun, hended, hW, hsame⟩ := X.leave (v := some w) (fun h => by rw [hret] at h; cases h) hlk
  have hn : narrow t w = w := by cases t <;> first | rfl | cases ht
  exact ⟨_, _, retOut X hx hret hn (Or.inr (Or.inr (Or.inr (Or.inr ⟨rfl, ht, hw⟩)))) hd hr, hrun, hended, _, _, rfl, hQ, ⟨_, rfl⟩, hW, hsame.mono hc hs⟩
theorem own_ret0 (X : Stand p l e R s m args below meth c T locs cells slots) (hx : p.tables.exec = Jvm.exec) (hlk : meth.locks = false) {pc : Nat} {Ls : Array Slot} (hret : meth.sig.returnType = none) (hd : decode c.code pc = .ok (.return_, 1)) (hc : cells ≤ kc) (hs : slots ≤ ks)
    (hQ : Q none T.heap locs) : own_Fin p e below s kc ks Q (T.setTop (mkF m pc Ls [])) := by
  obtain ⟨fs, hr, hrun, hended, hW, hsame⟩ := X.leave (v := none) (fun _ => rfl) hlk
  exact ⟨_, _, X.returnOut hx hret hd hr, hrun, hended, _, _, rfl, hQ, ⟨_, rfl⟩, hW, hsame.mono hc hs⟩
end Own
def own_pick (k : Int32) : Int32 := if k = 0 then 0 else if k = 1 then 9 else if k = 2 then 10 else if k = 3 then 12 else if k = 4 then 13 else 32
def own_sp (c : Int32) : Int32 := if c = 0 then 1 else if c = 9 then 1 else if c = 10 then 1 else if c = 12 then 1 else if c = 13 then 1 else if c = 32 then 1 else 0
def own_exp (c : Int32) : Int32 := if c < 0 then 0 else if c < 64 then (if ((((4294981121 : Int64).toUInt64 >>> (c &&& 0x3f).toInt64.toUInt64).toInt64) &&& (1 : Int64)) = (0 : Int64) then 0 else 1) else 0
theorem own_small : ∀ n : Fin 64, own_sp (Int32.ofNat n.val) = own_exp (Int32.ofNat n.val) := by decide
theorem own_not {c : Int32} (h : c < 0 ∨ ¬ c < 64) : own_sp c = 0 := by
  unfold own_sp
  rw [if_neg, if_neg, if_neg, if_neg, if_neg, if_neg] <;> (rintro rfl; revert h; decide)
theorem own_same (c : Int32) : own_sp c = own_exp c := by
  by_cases h1 : c < 0
  · rw [own_not (Or.inl h1), own_exp, if_pos h1]
  · by_cases h2 : c < 64
    · have e0 : (0 : Int32).toInt = 0 := rfl
      have e64 : (64 : Int32).toInt = 64 := rfl
      have g1 := h1
      have g2 := h2
      rw [Int32.lt_iff_toInt_lt] at g1 g2
      have hs : c.toInt.toNat < 64 := by omega
      have e : Int32.ofNat c.toInt.toNat = c := by
        apply Int32.toInt_inj.mp
        rw [Int32.toInt_ofNat_of_lt (by omega)]
        omega
      have h := own_small ⟨c.toInt.toNat, hs⟩
      simpa only [e] using h
    · rw [own_not (Or.inr h2), own_exp, if_neg h1, if_neg h2]
theorem d1_0 : decode method_2_code 0 = .ok (.iload_n 0, 1) := by decide +kernel
theorem d1_1 : decode method_2_code 1 = .ok (.ifCond .ne 5, 3) := by decide +kernel
theorem d1_4 : decode method_2_code 4 = .ok (.iconst 0, 1) := by decide +kernel
theorem d1_5 : decode method_2_code 5 = .ok (.ireturn, 1) := by decide +kernel
theorem d1_6 : decode method_2_code 6 = .ok (.iload_n 0, 1) := by decide +kernel
theorem d1_7 : decode method_2_code 7 = .ok (.iconst 1, 1) := by decide +kernel
theorem d1_8 : decode method_2_code 8 = .ok (.if_icmp .ne 6, 3) := by decide +kernel
theorem d1_11 : decode method_2_code 11 = .ok (.bipush 9, 2) := by decide +kernel
theorem d1_13 : decode method_2_code 13 = .ok (.ireturn, 1) := by decide +kernel
theorem d1_14 : decode method_2_code 14 = .ok (.iload_n 0, 1) := by decide +kernel
theorem d1_15 : decode method_2_code 15 = .ok (.iconst 2, 1) := by decide +kernel
theorem d1_16 : decode method_2_code 16 = .ok (.if_icmp .ne 6, 3) := by decide +kernel
theorem d1_19 : decode method_2_code 19 = .ok (.bipush 10, 2) := by decide +kernel
theorem d1_21 : decode method_2_code 21 = .ok (.ireturn, 1) := by decide +kernel
theorem d1_22 : decode method_2_code 22 = .ok (.iload_n 0, 1) := by decide +kernel
theorem d1_23 : decode method_2_code 23 = .ok (.iconst 3, 1) := by decide +kernel
theorem d1_24 : decode method_2_code 24 = .ok (.if_icmp .ne 6, 3) := by decide +kernel
theorem d1_27 : decode method_2_code 27 = .ok (.bipush 12, 2) := by decide +kernel
theorem d1_29 : decode method_2_code 29 = .ok (.ireturn, 1) := by decide +kernel
theorem d1_30 : decode method_2_code 30 = .ok (.iload_n 0, 1) := by decide +kernel
theorem d1_31 : decode method_2_code 31 = .ok (.iconst 4, 1) := by decide +kernel
theorem d1_32 : decode method_2_code 32 = .ok (.if_icmp .ne 6, 3) := by decide +kernel
theorem d1_35 : decode method_2_code 35 = .ok (.bipush 13, 2) := by decide +kernel
theorem d1_37 : decode method_2_code 37 = .ok (.ireturn, 1) := by decide +kernel
theorem d1_38 : decode method_2_code 38 = .ok (.bipush 32, 2) := by decide +kernel
theorem d1_40 : decode method_2_code 40 = .ok (.ireturn, 1) := by decide +kernel
theorem pn_1 : plainName "com/example/quire/quire/formats/PdfParserIsSpacePinLaw" = true := by first | (simp [plainName, overriddenIn]; done) | decide +kernel
theorem ef_1 (m : MethodId) (x0 : Int32) : entryFrame m #[(.int x0)] 1 = mkF m 0 #[.val (.int x0)] [] := by first | (simp [entryFrame, mkF, argsToLocals, Value.category]; done) | rfl
def Q1 (Z : State) (p0 : Int32) (h0 : Heap) (n0 : Nat) (v : Option Value) (h : Heap) (L : List Loc) : Prop := v = some (.int (own_pick p0)) ∧ Fr n0 L ∧ h = h0
set_option maxRecDepth 65536 in
set_option maxHeartbeats 40000000 in
theorem rm1 (l : Launch) (Z : State) (a0 : Array Value) (hw : ∀ d ∈ tables_1, d.before a0 Z = true) (ws : List Jvm.Cond) (p0 : Int32) (h0 : Heap) (n0 : Nat) (Z0 : n0 ≤ h0.size) :
    MetFree l (⟨"com/example/quire/quire/formats/PdfParserIsSpacePinLaw", "pick", "(I)I"⟩ : MethodName) (head1 (Jvm.Cond.code (⟨"com/example/quire/quire/formats/PdfParserIsSpacePinLaw", "pick", "(I)I"⟩ : MethodName) method_2_code 1 (some .int) :: ws) ({ frames := 0, cells := 0, slots := 0, locals := 0 } : Room)) (fun a U => a = #[(.int p0)] ∧ Z.Warmed39 U.vm ∧ U.heap = h0) (fun _ _ _ _ _ => True) (fun _ U o U' => ∃ v L, o = .returned v ∧ Q1 Z p0 h0 n0 v U'.heap L ∧ FrameEnd U o U' L ({ frames := 0, cells := 0, slots := 0, locals := 0 } : Room).cells ({ frames := 0, cells := 0, slots := 0, locals := 0 } : Room).slots) := by
  refine MetFree.of_bodySF (plainFor_of_name pn_1) hisR ?_
  intro p e s m args below meth c s₁ Bd hml0 hP hK
  obtain ⟨rfl, hZ, hh⟩ := hP
  have hx := Bd.exec
  have hby := Bd.bytes
  have hml : c.maxLocals = 1 := hml0
  have hown : s.vm.findClass "com/example/quire/quire/formats/PdfParserIsSpacePinLaw" = some m.cls := findClass_of_methodNamed Bd.named
  have hnm := (name_of_methodNamed Bd.named Bd.method).1
  have X0 : Stand p l e ({ frames := 0, cells := 0, slots := 0, locals := 0 } : Room) s m #[(.int p0)] below meth c s₁ [] 0 0 := Stand.of_body Bd
  have e0 : s₁.heap = h0 := by rw [← hh, Bd.state]; rfl
  have N0 := Fr.nil n0
  obtain ⟨F, hF⟩ : ∃ F : State → Prop, F = own_Fin p e below s ({ frames := 0, cells := 0, slots := 0, locals := 0 } : Room).cells ({ frames := 0, cells := 0, slots := 0, locals := 0 } : Room).slots (fun v h L => Q1 Z p0 h0 n0 v h L) := ⟨_, rfl⟩
  have bk : ∀ {A B : State}, (∀ t, Steps p.tables e below B t → Steps p.tables e below A t) → F B → F A := by
    intro A B h k
    rw [hF] at k ⊢
    exact own_back h k
  suffices hgo : F (s₁.setTop (mkF m 0 #[.val (.int p0)] [])) by
    have hgo' := bk (fun t k => castTop (T := s₁) (ef_1 m p0) k) hgo
    rw [hF] at hgo'
    exact hgo'
  show F (s₁.setTop (mkF m 0 #[.val (.int p0)] []))
  refine bk (fun t k => XS.iloadN X0.here hx rfl (hb hby d1_0) rfl k) ?_
  show F (s₁.setTop (mkF m 1 #[.val (.int p0)] [(.int p0)]))
  by_cases hc1_1 : p0 = (0 : Int32)
  · refine bk (fun t k => XS.ifNo X0.here hx rfl (hb hby d1_1) rfl ((if0 _ _).trans (teq hc1_1).2) k) ?_
    show F (s₁.setTop (mkF m 4 #[.val (.int p0)] []))
    refine bk (fun t k => XS.iconst X0.here hx rfl (hb hby d1_4) k) ?_
    show F (s₁.setTop (mkF m 5 #[.val (.int p0)] [(.int (0 : Int32))]))
    rw [hF]
    refine own_retI X0 hx Bd.notSynchronized Bd.returns (hb hby d1_5) (by decide) (by decide) ?_
    rw [e0]
    refine ⟨?_, N0, rfl⟩
    show some (Value.int (0 : Int32)) = some (Value.int (own_pick p0))
    simp [own_pick, hc1_1]
  · refine bk (fun t k => XS.ifYes X0.here hx rfl (pc0 := 1) (pc' := 6) rfl (hb hby d1_1) rfl ((if0 _ _).trans (feq hc1_1).2) (by decide) (by decide) k) ?_
    show F (s₁.setTop (mkF m 6 #[.val (.int p0)] []))
    refine bk (fun t k => XS.iloadN X0.here hx rfl (hb hby d1_6) rfl k) ?_
    show F (s₁.setTop (mkF m 7 #[.val (.int p0)] [(.int p0)]))
    refine bk (fun t k => XS.iconst X0.here hx rfl (hb hby d1_7) k) ?_
    show F (s₁.setTop (mkF m 8 #[.val (.int p0)] [(.int (1 : Int32)), (.int p0)]))
    by_cases hc8_2 : p0 = (1 : Int32)
    · refine bk (fun t k => XS.icmpNo X0.here hx rfl (hb hby d1_8) rfl (teq hc8_2).2 k) ?_
      show F (s₁.setTop (mkF m 11 #[.val (.int p0)] []))
      refine bk (fun t k => XS.bipush X0.here hx rfl (hb hby d1_11) k) ?_
      show F (s₁.setTop (mkF m 13 #[.val (.int p0)] [(.int (9 : Int32))]))
      rw [hF]
      refine own_retI X0 hx Bd.notSynchronized Bd.returns (hb hby d1_13) (by decide) (by decide) ?_
      rw [e0]
      refine ⟨?_, N0, rfl⟩
      show some (Value.int (9 : Int32)) = some (Value.int (own_pick p0))
      simp [own_pick, hc1_1, hc8_2]
    · refine bk (fun t k => XS.icmpYes X0.here hx rfl (pc0 := 8) (pc' := 14) rfl (hb hby d1_8) rfl (feq hc8_2).2 (by decide) (by decide) k) ?_
      show F (s₁.setTop (mkF m 14 #[.val (.int p0)] []))
      refine bk (fun t k => XS.iloadN X0.here hx rfl (hb hby d1_14) rfl k) ?_
      show F (s₁.setTop (mkF m 15 #[.val (.int p0)] [(.int p0)]))
      refine bk (fun t k => XS.iconst X0.here hx rfl (hb hby d1_15) k) ?_
      show F (s₁.setTop (mkF m 16 #[.val (.int p0)] [(.int (2 : Int32)), (.int p0)]))
      by_cases hc16_3 : p0 = (2 : Int32)
      · refine bk (fun t k => XS.icmpNo X0.here hx rfl (hb hby d1_16) rfl (teq hc16_3).2 k) ?_
        show F (s₁.setTop (mkF m 19 #[.val (.int p0)] []))
        refine bk (fun t k => XS.bipush X0.here hx rfl (hb hby d1_19) k) ?_
        show F (s₁.setTop (mkF m 21 #[.val (.int p0)] [(.int (10 : Int32))]))
        rw [hF]
        refine own_retI X0 hx Bd.notSynchronized Bd.returns (hb hby d1_21) (by decide) (by decide) ?_
        rw [e0]
        refine ⟨?_, N0, rfl⟩
        show some (Value.int (10 : Int32)) = some (Value.int (own_pick p0))
        simp [own_pick, hc1_1, hc8_2, hc16_3]
      · refine bk (fun t k => XS.icmpYes X0.here hx rfl (pc0 := 16) (pc' := 22) rfl (hb hby d1_16) rfl (feq hc16_3).2 (by decide) (by decide) k) ?_
        show F (s₁.setTop (mkF m 22 #[.val (.int p0)] []))
        refine bk (fun t k => XS.iloadN X0.here hx rfl (hb hby d1_22) rfl k) ?_
        show F (s₁.setTop (mkF m 23 #[.val (.int p0)] [(.int p0)]))
        refine bk (fun t k => XS.iconst X0.here hx rfl (hb hby d1_23) k) ?_
        show F (s₁.setTop (mkF m 24 #[.val (.int p0)] [(.int (3 : Int32)), (.int p0)]))
        by_cases hc24_4 : p0 = (3 : Int32)
        · refine bk (fun t k => XS.icmpNo X0.here hx rfl (hb hby d1_24) rfl (teq hc24_4).2 k) ?_
          show F (s₁.setTop (mkF m 27 #[.val (.int p0)] []))
          refine bk (fun t k => XS.bipush X0.here hx rfl (hb hby d1_27) k) ?_
          show F (s₁.setTop (mkF m 29 #[.val (.int p0)] [(.int (12 : Int32))]))
          rw [hF]
          refine own_retI X0 hx Bd.notSynchronized Bd.returns (hb hby d1_29) (by decide) (by decide) ?_
          rw [e0]
          refine ⟨?_, N0, rfl⟩
          show some (Value.int (12 : Int32)) = some (Value.int (own_pick p0))
          simp [own_pick, hc1_1, hc8_2, hc16_3, hc24_4]
        · refine bk (fun t k => XS.icmpYes X0.here hx rfl (pc0 := 24) (pc' := 30) rfl (hb hby d1_24) rfl (feq hc24_4).2 (by decide) (by decide) k) ?_
          show F (s₁.setTop (mkF m 30 #[.val (.int p0)] []))
          refine bk (fun t k => XS.iloadN X0.here hx rfl (hb hby d1_30) rfl k) ?_
          show F (s₁.setTop (mkF m 31 #[.val (.int p0)] [(.int p0)]))
          refine bk (fun t k => XS.iconst X0.here hx rfl (hb hby d1_31) k) ?_
          show F (s₁.setTop (mkF m 32 #[.val (.int p0)] [(.int (4 : Int32)), (.int p0)]))
          by_cases hc32_5 : p0 = (4 : Int32)
          · refine bk (fun t k => XS.icmpNo X0.here hx rfl (hb hby d1_32) rfl (teq hc32_5).2 k) ?_
            show F (s₁.setTop (mkF m 35 #[.val (.int p0)] []))
            refine bk (fun t k => XS.bipush X0.here hx rfl (hb hby d1_35) k) ?_
            show F (s₁.setTop (mkF m 37 #[.val (.int p0)] [(.int (13 : Int32))]))
            rw [hF]
            refine own_retI X0 hx Bd.notSynchronized Bd.returns (hb hby d1_37) (by decide) (by decide) ?_
            rw [e0]
            refine ⟨?_, N0, rfl⟩
            show some (Value.int (13 : Int32)) = some (Value.int (own_pick p0))
            simp [own_pick, hc1_1, hc8_2, hc16_3, hc24_4, hc32_5]
          · refine bk (fun t k => XS.icmpYes X0.here hx rfl (pc0 := 32) (pc' := 38) rfl (hb hby d1_32) rfl (feq hc32_5).2 (by decide) (by decide) k) ?_
            show F (s₁.setTop (mkF m 38 #[.val (.int p0)] []))
            refine bk (fun t k => XS.bipush X0.here hx rfl (hb hby d1_38) k) ?_
            show F (s₁.setTop (mkF m 40 #[.val (.int p0)] [(.int (32 : Int32))]))
            rw [hF]
            refine own_retI X0 hx Bd.notSynchronized Bd.returns (hb hby d1_40) (by decide) (by decide) ?_
            rw [e0]
            refine ⟨?_, N0, rfl⟩
            show some (Value.int (32 : Int32)) = some (Value.int (own_pick p0))
            simp [own_pick, hc1_1, hc8_2, hc16_3, hc24_4, hc32_5]
theorem d2_0 : decode prog_34_method_21_code 0 = .ok (.iload_n 0, 1) := by decide +kernel
theorem d2_1 : decode prog_34_method_21_code 1 = .ok (.ifCond .eq 33, 3) := by decide +kernel
theorem d2_4 : decode prog_34_method_21_code 4 = .ok (.iload_n 0, 1) := by decide +kernel
theorem d2_5 : decode prog_34_method_21_code 5 = .ok (.bipush 9, 2) := by decide +kernel
theorem d2_7 : decode prog_34_method_21_code 7 = .ok (.if_icmp .eq 27, 3) := by decide +kernel
theorem d2_10 : decode prog_34_method_21_code 10 = .ok (.iload_n 0, 1) := by decide +kernel
theorem d2_11 : decode prog_34_method_21_code 11 = .ok (.bipush 10, 2) := by decide +kernel
theorem d2_13 : decode prog_34_method_21_code 13 = .ok (.if_icmp .eq 21, 3) := by decide +kernel
theorem d2_16 : decode prog_34_method_21_code 16 = .ok (.iload_n 0, 1) := by decide +kernel
theorem d2_17 : decode prog_34_method_21_code 17 = .ok (.bipush 12, 2) := by decide +kernel
theorem d2_19 : decode prog_34_method_21_code 19 = .ok (.if_icmp .eq 15, 3) := by decide +kernel
theorem d2_22 : decode prog_34_method_21_code 22 = .ok (.iload_n 0, 1) := by decide +kernel
theorem d2_23 : decode prog_34_method_21_code 23 = .ok (.bipush 13, 2) := by decide +kernel
theorem d2_25 : decode prog_34_method_21_code 25 = .ok (.if_icmp .eq 9, 3) := by decide +kernel
theorem d2_28 : decode prog_34_method_21_code 28 = .ok (.iload_n 0, 1) := by decide +kernel
theorem d2_29 : decode prog_34_method_21_code 29 = .ok (.bipush 32, 2) := by decide +kernel
theorem d2_31 : decode prog_34_method_21_code 31 = .ok (.if_icmp .ne 7, 3) := by decide +kernel
theorem d2_34 : decode prog_34_method_21_code 34 = .ok (.iconst 1, 1) := by decide +kernel
theorem d2_35 : decode prog_34_method_21_code 35 = .ok (.goto 4, 3) := by decide +kernel
theorem d2_38 : decode prog_34_method_21_code 38 = .ok (.iconst 0, 1) := by decide +kernel
theorem d2_39 : decode prog_34_method_21_code 39 = .ok (.ireturn, 1) := by decide +kernel
theorem pn_2 : plainName "com/example/quire/quire/formats/PdfParser" = true := by first | (simp [plainName, overriddenIn]; done) | decide +kernel
theorem ef_2 (m : MethodId) (x0 : Int32) : entryFrame m #[(.int x0)] 1 = mkF m 0 #[.val (.int x0)] [] := by first | (simp [entryFrame, mkF, argsToLocals, Value.category]; done) | rfl
def Q2 (Z : State) (p0 : Int32) (h0 : Heap) (n0 : Nat) (v : Option Value) (h : Heap) (L : List Loc) : Prop := v = some (.int (own_sp p0)) ∧ Fr n0 L ∧ h = h0
set_option maxRecDepth 65536 in
set_option maxHeartbeats 40000000 in
theorem rm2 (l : Launch) (Z : State) (a0 : Array Value) (hw : ∀ d ∈ tables_1, d.before a0 Z = true) (ws : List Jvm.Cond) (p0 : Int32) (h0 : Heap) (n0 : Nat) (Z0 : n0 ≤ h0.size) :
    MetFree l (⟨"com/example/quire/quire/formats/PdfParser", "isSpace", "(I)Z"⟩ : MethodName) (head1 (Jvm.Cond.code (⟨"com/example/quire/quire/formats/PdfParser", "isSpace", "(I)Z"⟩ : MethodName) prog_34_method_21_code 1 (some .boolean) :: ws) ({ frames := 0, cells := 0, slots := 0, locals := 0 } : Room)) (fun a U => a = #[(.int p0)] ∧ Z.Warmed39 U.vm ∧ U.heap = h0) (fun _ _ _ _ _ => True) (fun _ U o U' => ∃ v L, o = .returned v ∧ Q2 Z p0 h0 n0 v U'.heap L ∧ FrameEnd U o U' L ({ frames := 0, cells := 0, slots := 0, locals := 0 } : Room).cells ({ frames := 0, cells := 0, slots := 0, locals := 0 } : Room).slots) := by
  refine MetFree.of_bodySF (plainFor_of_name pn_2) hisR ?_
  intro p e s m args below meth c s₁ Bd hml0 hP hK
  obtain ⟨rfl, hZ, hh⟩ := hP
  have hx := Bd.exec
  have hby := Bd.bytes
  have hml : c.maxLocals = 1 := hml0
  have hown : s.vm.findClass "com/example/quire/quire/formats/PdfParser" = some m.cls := findClass_of_methodNamed Bd.named
  have hnm := (name_of_methodNamed Bd.named Bd.method).1
  have X0 : Stand p l e ({ frames := 0, cells := 0, slots := 0, locals := 0 } : Room) s m #[(.int p0)] below meth c s₁ [] 0 0 := Stand.of_body Bd
  have e0 : s₁.heap = h0 := by rw [← hh, Bd.state]; rfl
  have N0 := Fr.nil n0
  obtain ⟨F, hF⟩ : ∃ F : State → Prop, F = own_Fin p e below s ({ frames := 0, cells := 0, slots := 0, locals := 0 } : Room).cells ({ frames := 0, cells := 0, slots := 0, locals := 0 } : Room).slots (fun v h L => Q2 Z p0 h0 n0 v h L) := ⟨_, rfl⟩
  have bk : ∀ {A B : State}, (∀ t, Steps p.tables e below B t → Steps p.tables e below A t) → F B → F A := by
    intro A B h k
    rw [hF] at k ⊢
    exact own_back h k
  suffices hgo : F (s₁.setTop (mkF m 0 #[.val (.int p0)] [])) by
    have hgo' := bk (fun t k => castTop (T := s₁) (ef_2 m p0) k) hgo
    rw [hF] at hgo'
    exact hgo'
  show F (s₁.setTop (mkF m 0 #[.val (.int p0)] []))
  refine bk (fun t k => XS.iloadN X0.here hx rfl (hb hby d2_0) rfl k) ?_
  show F (s₁.setTop (mkF m 1 #[.val (.int p0)] [(.int p0)]))
  by_cases hc1_1 : p0 = (0 : Int32)
  · refine bk (fun t k => XS.ifYes X0.here hx rfl (pc0 := 1) (pc' := 34) rfl (hb hby d2_1) rfl ((if0 _ _).trans (teq hc1_1).1) (by decide) (by decide) k) ?_
    show F (s₁.setTop (mkF m 34 #[.val (.int p0)] []))
    refine bk (fun t k => XS.iconst X0.here hx rfl (hb hby d2_34) k) ?_
    show F (s₁.setTop (mkF m 35 #[.val (.int p0)] [(.int (1 : Int32))]))
    refine bk (fun t k => XS.goto X0.here hx rfl (pc0 := 35) (pc' := 39) rfl (hb hby d2_35) (by decide) (by decide) k) ?_
    show F (s₁.setTop (mkF m 39 #[.val (.int p0)] [(.int (1 : Int32))]))
    rw [hF]
    refine own_retZ X0 hx Bd.notSynchronized Bd.returns (hb hby d2_39) (by decide) (by decide) ?_
    rw [e0]
    refine ⟨?_, N0, rfl⟩
    show some (Value.int (1 : Int32)) = some (Value.int (own_sp p0))
    simp [own_sp, hc1_1]
  · refine bk (fun t k => XS.ifNo X0.here hx rfl (hb hby d2_1) rfl ((if0 _ _).trans (feq hc1_1).1) k) ?_
    show F (s₁.setTop (mkF m 4 #[.val (.int p0)] []))
    refine bk (fun t k => XS.iloadN X0.here hx rfl (hb hby d2_4) rfl k) ?_
    show F (s₁.setTop (mkF m 5 #[.val (.int p0)] [(.int p0)]))
    refine bk (fun t k => XS.bipush X0.here hx rfl (hb hby d2_5) k) ?_
    show F (s₁.setTop (mkF m 7 #[.val (.int p0)] [(.int (9 : Int32)), (.int p0)]))
    by_cases hc7_2 : p0 = (9 : Int32)
    · refine bk (fun t k => XS.icmpYes X0.here hx rfl (pc0 := 7) (pc' := 34) rfl (hb hby d2_7) rfl (teq hc7_2).1 (by decide) (by decide) k) ?_
      show F (s₁.setTop (mkF m 34 #[.val (.int p0)] []))
      refine bk (fun t k => XS.iconst X0.here hx rfl (hb hby d2_34) k) ?_
      show F (s₁.setTop (mkF m 35 #[.val (.int p0)] [(.int (1 : Int32))]))
      refine bk (fun t k => XS.goto X0.here hx rfl (pc0 := 35) (pc' := 39) rfl (hb hby d2_35) (by decide) (by decide) k) ?_
      show F (s₁.setTop (mkF m 39 #[.val (.int p0)] [(.int (1 : Int32))]))
      rw [hF]
      refine own_retZ X0 hx Bd.notSynchronized Bd.returns (hb hby d2_39) (by decide) (by decide) ?_
      rw [e0]
      refine ⟨?_, N0, rfl⟩
      show some (Value.int (1 : Int32)) = some (Value.int (own_sp p0))
      simp [own_sp, hc1_1, hc7_2]
    · refine bk (fun t k => XS.icmpNo X0.here hx rfl (hb hby d2_7) rfl (feq hc7_2).1 k) ?_
      show F (s₁.setTop (mkF m 10 #[.val (.int p0)] []))
      refine bk (fun t k => XS.iloadN X0.here hx rfl (hb hby d2_10) rfl k) ?_
      show F (s₁.setTop (mkF m 11 #[.val (.int p0)] [(.int p0)]))
      refine bk (fun t k => XS.bipush X0.here hx rfl (hb hby d2_11) k) ?_
      show F (s₁.setTop (mkF m 13 #[.val (.int p0)] [(.int (10 : Int32)), (.int p0)]))
      by_cases hc13_3 : p0 = (10 : Int32)
      · refine bk (fun t k => XS.icmpYes X0.here hx rfl (pc0 := 13) (pc' := 34) rfl (hb hby d2_13) rfl (teq hc13_3).1 (by decide) (by decide) k) ?_
        show F (s₁.setTop (mkF m 34 #[.val (.int p0)] []))
        refine bk (fun t k => XS.iconst X0.here hx rfl (hb hby d2_34) k) ?_
        show F (s₁.setTop (mkF m 35 #[.val (.int p0)] [(.int (1 : Int32))]))
        refine bk (fun t k => XS.goto X0.here hx rfl (pc0 := 35) (pc' := 39) rfl (hb hby d2_35) (by decide) (by decide) k) ?_
        show F (s₁.setTop (mkF m 39 #[.val (.int p0)] [(.int (1 : Int32))]))
        rw [hF]
        refine own_retZ X0 hx Bd.notSynchronized Bd.returns (hb hby d2_39) (by decide) (by decide) ?_
        rw [e0]
        refine ⟨?_, N0, rfl⟩
        show some (Value.int (1 : Int32)) = some (Value.int (own_sp p0))
        simp [own_sp, hc1_1, hc7_2, hc13_3]
      · refine bk (fun t k => XS.icmpNo X0.here hx rfl (hb hby d2_13) rfl (feq hc13_3).1 k) ?_
        show F (s₁.setTop (mkF m 16 #[.val (.int p0)] []))
        refine bk (fun t k => XS.iloadN X0.here hx rfl (hb hby d2_16) rfl k) ?_
        show F (s₁.setTop (mkF m 17 #[.val (.int p0)] [(.int p0)]))
        refine bk (fun t k => XS.bipush X0.here hx rfl (hb hby d2_17) k) ?_
        show F (s₁.setTop (mkF m 19 #[.val (.int p0)] [(.int (12 : Int32)), (.int p0)]))
        by_cases hc19_4 : p0 = (12 : Int32)
        · refine bk (fun t k => XS.icmpYes X0.here hx rfl (pc0 := 19) (pc' := 34) rfl (hb hby d2_19) rfl (teq hc19_4).1 (by decide) (by decide) k) ?_
          show F (s₁.setTop (mkF m 34 #[.val (.int p0)] []))
          refine bk (fun t k => XS.iconst X0.here hx rfl (hb hby d2_34) k) ?_
          show F (s₁.setTop (mkF m 35 #[.val (.int p0)] [(.int (1 : Int32))]))
          refine bk (fun t k => XS.goto X0.here hx rfl (pc0 := 35) (pc' := 39) rfl (hb hby d2_35) (by decide) (by decide) k) ?_
          show F (s₁.setTop (mkF m 39 #[.val (.int p0)] [(.int (1 : Int32))]))
          rw [hF]
          refine own_retZ X0 hx Bd.notSynchronized Bd.returns (hb hby d2_39) (by decide) (by decide) ?_
          rw [e0]
          refine ⟨?_, N0, rfl⟩
          show some (Value.int (1 : Int32)) = some (Value.int (own_sp p0))
          simp [own_sp, hc1_1, hc7_2, hc13_3, hc19_4]
        · refine bk (fun t k => XS.icmpNo X0.here hx rfl (hb hby d2_19) rfl (feq hc19_4).1 k) ?_
          show F (s₁.setTop (mkF m 22 #[.val (.int p0)] []))
          refine bk (fun t k => XS.iloadN X0.here hx rfl (hb hby d2_22) rfl k) ?_
          show F (s₁.setTop (mkF m 23 #[.val (.int p0)] [(.int p0)]))
          refine bk (fun t k => XS.bipush X0.here hx rfl (hb hby d2_23) k) ?_
          show F (s₁.setTop (mkF m 25 #[.val (.int p0)] [(.int (13 : Int32)), (.int p0)]))
          by_cases hc25_5 : p0 = (13 : Int32)
          · refine bk (fun t k => XS.icmpYes X0.here hx rfl (pc0 := 25) (pc' := 34) rfl (hb hby d2_25) rfl (teq hc25_5).1 (by decide) (by decide) k) ?_
            show F (s₁.setTop (mkF m 34 #[.val (.int p0)] []))
            refine bk (fun t k => XS.iconst X0.here hx rfl (hb hby d2_34) k) ?_
            show F (s₁.setTop (mkF m 35 #[.val (.int p0)] [(.int (1 : Int32))]))
            refine bk (fun t k => XS.goto X0.here hx rfl (pc0 := 35) (pc' := 39) rfl (hb hby d2_35) (by decide) (by decide) k) ?_
            show F (s₁.setTop (mkF m 39 #[.val (.int p0)] [(.int (1 : Int32))]))
            rw [hF]
            refine own_retZ X0 hx Bd.notSynchronized Bd.returns (hb hby d2_39) (by decide) (by decide) ?_
            rw [e0]
            refine ⟨?_, N0, rfl⟩
            show some (Value.int (1 : Int32)) = some (Value.int (own_sp p0))
            simp [own_sp, hc1_1, hc7_2, hc13_3, hc19_4, hc25_5]
          · refine bk (fun t k => XS.icmpNo X0.here hx rfl (hb hby d2_25) rfl (feq hc25_5).1 k) ?_
            show F (s₁.setTop (mkF m 28 #[.val (.int p0)] []))
            refine bk (fun t k => XS.iloadN X0.here hx rfl (hb hby d2_28) rfl k) ?_
            show F (s₁.setTop (mkF m 29 #[.val (.int p0)] [(.int p0)]))
            refine bk (fun t k => XS.bipush X0.here hx rfl (hb hby d2_29) k) ?_
            show F (s₁.setTop (mkF m 31 #[.val (.int p0)] [(.int (32 : Int32)), (.int p0)]))
            by_cases hc31_6 : p0 = (32 : Int32)
            · refine bk (fun t k => XS.icmpNo X0.here hx rfl (hb hby d2_31) rfl (teq hc31_6).2 k) ?_
              show F (s₁.setTop (mkF m 34 #[.val (.int p0)] []))
              refine bk (fun t k => XS.iconst X0.here hx rfl (hb hby d2_34) k) ?_
              show F (s₁.setTop (mkF m 35 #[.val (.int p0)] [(.int (1 : Int32))]))
              refine bk (fun t k => XS.goto X0.here hx rfl (pc0 := 35) (pc' := 39) rfl (hb hby d2_35) (by decide) (by decide) k) ?_
              show F (s₁.setTop (mkF m 39 #[.val (.int p0)] [(.int (1 : Int32))]))
              rw [hF]
              refine own_retZ X0 hx Bd.notSynchronized Bd.returns (hb hby d2_39) (by decide) (by decide) ?_
              rw [e0]
              refine ⟨?_, N0, rfl⟩
              show some (Value.int (1 : Int32)) = some (Value.int (own_sp p0))
              simp [own_sp, hc1_1, hc7_2, hc13_3, hc19_4, hc25_5, hc31_6]
            · refine bk (fun t k => XS.icmpYes X0.here hx rfl (pc0 := 31) (pc' := 38) rfl (hb hby d2_31) rfl (feq hc31_6).2 (by decide) (by decide) k) ?_
              show F (s₁.setTop (mkF m 38 #[.val (.int p0)] []))
              refine bk (fun t k => XS.iconst X0.here hx rfl (hb hby d2_38) k) ?_
              show F (s₁.setTop (mkF m 39 #[.val (.int p0)] [(.int (0 : Int32))]))
              rw [hF]
              refine own_retZ X0 hx Bd.notSynchronized Bd.returns (hb hby d2_39) (by decide) (by decide) ?_
              rw [e0]
              refine ⟨?_, N0, rfl⟩
              show some (Value.int (0 : Int32)) = some (Value.int (own_sp p0))
              simp [own_sp, hc1_1, hc7_2, hc13_3, hc19_4, hc25_5, hc31_6]
theorem pd0__I_Z : parseMethodDescriptor "(I)Z" = some ⟨[.int], some .boolean⟩ := by decide +kernel
theorem pd0__I_I : parseMethodDescriptor "(I)I" = some ⟨[.int], some .int⟩ := by decide +kernel
theorem pn_0 : plainName "com/example/quire/quire/formats/PdfParserIsSpacePinLaw" = true := by first | (simp [plainName, overriddenIn]; done) | decide +kernel
theorem ef_0 (m : MethodId) (x0 : Int32) (x1 : Int32) : entryFrame m #[(.int x0), (.int x1)] maxLocals = mkF m 0 #[.val (.int x0), .val (.int x1), .unset, .unset, .unset, .unset, .unset, .unset] [] := by first | (simp [entryFrame, mkF, argsToLocals, Value.category, maxLocals]; done) | rfl
def Q0 (Z : State) (p0 : Int32) (p1 : Int32) (h0 : Heap) (n0 : Nat) (v : Option Value) (h : Heap) (L : List Loc) : Prop := v = some (.int (1 : Int32)) ∧ Fr n0 L
set_option maxRecDepth 65536 in
set_option maxHeartbeats 40000000 in
theorem rm0 (l : Launch) (Z : State) (a0 : Array Value) (hw : ∀ d ∈ tables_1, d.before a0 Z = true) (ws : List Jvm.Cond) (p0 : Int32) (p1 : Int32) (h0 : Heap) (n0 : Nat) (Z0 : n0 ≤ h0.size) :
    MetFree l x (head1 (Jvm.Cond.code x code maxLocals ret :: ws) room_1) (fun a U => a = #[(.int p0), (.int p1)] ∧ Z.Warmed39 U.vm ∧ U.heap = h0) (fun _ _ _ _ _ => True) (fun _ U o U' => ∃ v L, o = .returned v ∧ Q0 Z p0 p1 h0 n0 v U'.heap L ∧ FrameEnd U o U' L room_1.cells room_1.slots) := by
  refine MetFree.of_bodySF (plainFor_of_name pn_0) hisR ?_
  intro p e s m args below meth c s₁ Bd hml0 hP hK
  obtain ⟨rfl, hZ, hh⟩ := hP
  have hx := Bd.exec
  have hby := Bd.bytes
  have hml : c.maxLocals = 8 := hml0
  have hown : s.vm.findClass "com/example/quire/quire/formats/PdfParserIsSpacePinLaw" = some m.cls := findClass_of_methodNamed Bd.named
  have hnm := (name_of_methodNamed Bd.named Bd.method).1
  have X0 : Stand p l e room_1 s m #[(.int p0), (.int p1)] below meth c s₁ [] 0 0 := Stand.of_body Bd
  have e0 : s₁.heap = h0 := by rw [← hh, Bd.state]; rfl
  have N0 := Fr.nil n0
  obtain ⟨F, hF⟩ : ∃ F : State → Prop, F = own_Fin p e below s room_1.cells room_1.slots (fun v h L => Q0 Z p0 p1 h0 n0 v h L) := ⟨_, rfl⟩
  have bk : ∀ {A B : State}, (∀ t, Steps p.tables e below B t → Steps p.tables e below A t) → F B → F A := by
    intro A B h k
    rw [hF] at k ⊢
    exact own_back h k
  suffices hgo : F (s₁.setTop (mkF m 0 #[.val (.int p0), .val (.int p1), .unset, .unset, .unset, .unset, .unset, .unset] [])) by
    have hgo' := bk (fun t k => castTop (T := s₁) (ef_0 m p0 p1) k) hgo
    rw [hF] at hgo'
    exact hgo'
  have w_0 := hw _ (List.mem_of_getElem? (i := 0) rfl)
  have w_1 := hw _ (List.mem_of_getElem? (i := 1) rfl)
  have w_2 := hw _ (List.mem_of_getElem? (i := 2) rfl)
  have w_3 := hw _ (List.mem_of_getElem? (i := 3) rfl)
  have w_4 := hw _ (List.mem_of_getElem? (i := 4) rfl)
  have w_5 := hw _ (List.mem_of_getElem? (i := 5) rfl)
  have w_6 := hw _ (List.mem_of_getElem? (i := 6) rfl)
  have w_7 := hw _ (List.mem_of_getElem? (i := 7) rfl)
  have w_8 := hw _ (List.mem_of_getElem? (i := 8) rfl)
  have w_9 := hw _ (List.mem_of_getElem? (i := 9) rfl)
  have J102 : ∀ (TJ : State) (LJ : List Loc)  (XJ : Stand p l e room_1 s m #[(.int p0), (.int p1)] below meth c TJ LJ 0 0) (eJ : TJ.heap = h0) (NJ : Fr n0 LJ) (c4 : Int32) (b : Int32) (hbb : b = own_exp c4), F (TJ.setTop (mkF m 102 #[.val (.int p0), .val (.int p1), .val (.int (p1 &&& (3 : Int32))), .val (.int ((p0 &&& (2147483647 : Int32)) % (6 : Int32))), .val (.int c4), .val (.long (4294981121 : Int64)), .second, .unset] [(.int b)])) := by
    intro TJ LJ XJ eJ NJ c4 b hbb
    show F (TJ.setTop (mkF m 102 #[.val (.int p0), .val (.int p1), .val (.int (p1 &&& (3 : Int32))), .val (.int ((p0 &&& (2147483647 : Int32)) % (6 : Int32))), .val (.int c4), .val (.long (4294981121 : Int64)), .second, .unset] [(.int b)]))
    refine bk (fun t k => XS.istore XJ.here hx rfl (hb hby at_102) rfl (l' := #[.val (.int p0), .val (.int p1), .val (.int (p1 &&& (3 : Int32))), .val (.int ((p0 &&& (2147483647 : Int32)) % (6 : Int32))), .val (.int c4), .val (.long (4294981121 : Int64)), .second, .val (.int b)]) rfl k) ?_
    show F (TJ.setTop (mkF m 104 #[.val (.int p0), .val (.int p1), .val (.int (p1 &&& (3 : Int32))), .val (.int ((p0 &&& (2147483647 : Int32)) % (6 : Int32))), .val (.int c4), .val (.long (4294981121 : Int64)), .second, .val (.int b)] []))
    refine bk (fun t k => XS.iload XJ.here hx rfl (hb hby at_104) rfl k) ?_
    show F (TJ.setTop (mkF m 106 #[.val (.int p0), .val (.int p1), .val (.int (p1 &&& (3 : Int32))), .val (.int ((p0 &&& (2147483647 : Int32)) % (6 : Int32))), .val (.int c4), .val (.long (4294981121 : Int64)), .second, .val (.int b)] [(.int c4)]))
    obtain ⟨_, _, ⟨T1, L1, k1, n1⟩, -, X1, ⟨Lc1, hQ1, l1, y1, z1⟩, st1⟩ := Jvm.LawKit.callS XJ hx (y := (⟨"com/example/quire/quire/formats/PdfParser", "isSpace", "(I)Z"⟩ : MethodName)) hown (mvT hZ w_6) (mvT hZ w_7) (mvT hZ w_8) (mvT hZ w_9) (by decide) (backOf (W := 0) (rm2 l Z a0 hw [] c4 h0 n0 Z0) hZ w_9 w_8 (by decide) (by decide)) (g := (mkF m 106 #[.val (.int p0), .val (.int p1), .val (.int (p1 &&& (3 : Int32))), .val (.int ((p0 &&& (2147483647 : Int32)) % (6 : Int32))), .val (.int c4), .val (.long (4294981121 : Int64)), .second, .val (.int b)] [(.int c4)])) rfl (by rw [hml]; rfl) (argsL := [(.int c4)]) (rest := []) (lenOf pd0__I_Z rfl) rfl (by show 2 * 0 + _ ≤ _; exact Nat.le_of_eq rfl) (hb hby at_106) (fun _ _ => ⟨rfl, eJ, (by decide : 0 + 0 ≤ _), (by decide : 0 + 0 ≤ _)⟩)
    dsimp only [Pt.U, Pt.locs, Pt.cells, Pt.slots] at X1 l1 y1 z1 st1 hQ1
    subst l1 y1 z1
    obtain ⟨rfl, N1q, e1⟩ := hQ1
    have N1 := Fr.app NJ N1q
    refine bk (fun t k => st1 t k) ?_
    show F (T1.setTop (mkF m 109 #[.val (.int p0), .val (.int p1), .val (.int (p1 &&& (3 : Int32))), .val (.int ((p0 &&& (2147483647 : Int32)) % (6 : Int32))), .val (.int c4), .val (.long (4294981121 : Int64)), .second, .val (.int b)] [(.int (own_sp c4))]))
    refine bk (fun t k => XS.iload X1.here hx rfl (hb hby at_109) rfl k) ?_
    show F (T1.setTop (mkF m 111 #[.val (.int p0), .val (.int p1), .val (.int (p1 &&& (3 : Int32))), .val (.int ((p0 &&& (2147483647 : Int32)) % (6 : Int32))), .val (.int c4), .val (.long (4294981121 : Int64)), .second, .val (.int b)] [(.int b), (.int (own_sp c4))]))
    refine bk (fun t k => XS.icmpNo X1.here hx rfl (hb hby at_111) rfl (teq ((own_same c4).trans hbb.symm)).2 k) ?_
    show F (T1.setTop (mkF m 114 #[.val (.int p0), .val (.int p1), .val (.int (p1 &&& (3 : Int32))), .val (.int ((p0 &&& (2147483647 : Int32)) % (6 : Int32))), .val (.int c4), .val (.long (4294981121 : Int64)), .second, .val (.int b)] []))
    refine bk (fun t k => XS.iconst X1.here hx rfl (hb hby at_114) k) ?_
    show F (T1.setTop (mkF m 115 #[.val (.int p0), .val (.int p1), .val (.int (p1 &&& (3 : Int32))), .val (.int ((p0 &&& (2147483647 : Int32)) % (6 : Int32))), .val (.int c4), .val (.long (4294981121 : Int64)), .second, .val (.int b)] [(.int (1 : Int32))]))
    refine bk (fun t k => XS.goto X1.here hx rfl (pc0 := 115) (pc' := 119) rfl (hb hby at_115) (by decide) (by decide) k) ?_
    show F (T1.setTop (mkF m 119 #[.val (.int p0), .val (.int p1), .val (.int (p1 &&& (3 : Int32))), .val (.int ((p0 &&& (2147483647 : Int32)) % (6 : Int32))), .val (.int c4), .val (.long (4294981121 : Int64)), .second, .val (.int b)] [(.int (1 : Int32))]))
    rw [hF]
    refine own_retZ X1 hx Bd.notSynchronized Bd.returns (hb hby at_119) (by decide) (by decide) ?_
    rw [e1]
    exact ⟨rfl, N1⟩
  have J68 : ∀ (TJ : State) (LJ : List Loc)  (XJ : Stand p l e room_1 s m #[(.int p0), (.int p1)] below meth c TJ LJ 0 0) (eJ : TJ.heap = h0) (NJ : Fr n0 LJ) (c4 : Int32), F (TJ.setTop (mkF m 68 #[.val (.int p0), .val (.int p1), .val (.int (p1 &&& (3 : Int32))), .val (.int ((p0 &&& (2147483647 : Int32)) % (6 : Int32))), .val (.int c4), .unset, .unset, .unset] [])) := by
    intro TJ LJ XJ eJ NJ c4
    show F (TJ.setTop (mkF m 68 #[.val (.int p0), .val (.int p1), .val (.int (p1 &&& (3 : Int32))), .val (.int ((p0 &&& (2147483647 : Int32)) % (6 : Int32))), .val (.int c4), .unset, .unset, .unset] []))
    refine bk (fun t k => XJ.ldc2Long hx hown (mvT hZ w_5) (g := (mkF m 68 #[.val (.int p0), .val (.int p1), .val (.int (p1 &&& (3 : Int32))), .val (.int ((p0 &&& (2147483647 : Int32)) % (6 : Int32))), .val (.int c4), .unset, .unset, .unset] [])) rfl (hb hby at_68) t k) ?_
    show F (TJ.setTop (mkF m 71 #[.val (.int p0), .val (.int p1), .val (.int (p1 &&& (3 : Int32))), .val (.int ((p0 &&& (2147483647 : Int32)) % (6 : Int32))), .val (.int c4), .unset, .unset, .unset] [(.long (4294981121 : Int64))]))
    refine bk (fun t k => XS.lstore XJ.here hx rfl (hb hby at_71) rfl (l' := #[.val (.int p0), .val (.int p1), .val (.int (p1 &&& (3 : Int32))), .val (.int ((p0 &&& (2147483647 : Int32)) % (6 : Int32))), .val (.int c4), .val (.long (4294981121 : Int64)), .second, .unset]) rfl k) ?_
    show F (TJ.setTop (mkF m 73 #[.val (.int p0), .val (.int p1), .val (.int (p1 &&& (3 : Int32))), .val (.int ((p0 &&& (2147483647 : Int32)) % (6 : Int32))), .val (.int c4), .val (.long (4294981121 : Int64)), .second, .unset] []))
    refine bk (fun t k => XS.iload XJ.here hx rfl (hb hby at_73) rfl k) ?_
    show F (TJ.setTop (mkF m 75 #[.val (.int p0), .val (.int p1), .val (.int (p1 &&& (3 : Int32))), .val (.int ((p0 &&& (2147483647 : Int32)) % (6 : Int32))), .val (.int c4), .val (.long (4294981121 : Int64)), .second, .unset] [(.int c4)]))
    by_cases hc75_2 : c4 < (0 : Int32)
    · refine bk (fun t k => XS.ifYes XJ.here hx rfl (pc0 := 75) (pc' := 101) rfl (hb hby at_75) rfl ((if0 _ _).trans (tlt hc75_2).1) (by decide) (by decide) k) ?_
      show F (TJ.setTop (mkF m 101 #[.val (.int p0), .val (.int p1), .val (.int (p1 &&& (3 : Int32))), .val (.int ((p0 &&& (2147483647 : Int32)) % (6 : Int32))), .val (.int c4), .val (.long (4294981121 : Int64)), .second, .unset] []))
      refine bk (fun t k => XS.iconst XJ.here hx rfl (hb hby at_101) k) ?_
      show F (TJ.setTop (mkF m 102 #[.val (.int p0), .val (.int p1), .val (.int (p1 &&& (3 : Int32))), .val (.int ((p0 &&& (2147483647 : Int32)) % (6 : Int32))), .val (.int c4), .val (.long (4294981121 : Int64)), .second, .unset] [(.int (0 : Int32))]))
      exact J102 _ _ XJ eJ NJ _ _ (by rw [own_exp, if_pos hc75_2])
    · refine bk (fun t k => XS.ifNo XJ.here hx rfl (hb hby at_75) rfl ((if0 _ _).trans (flt hc75_2).1) k) ?_
      show F (TJ.setTop (mkF m 78 #[.val (.int p0), .val (.int p1), .val (.int (p1 &&& (3 : Int32))), .val (.int ((p0 &&& (2147483647 : Int32)) % (6 : Int32))), .val (.int c4), .val (.long (4294981121 : Int64)), .second, .unset] []))
      refine bk (fun t k => XS.iload XJ.here hx rfl (hb hby at_78) rfl k) ?_
      show F (TJ.setTop (mkF m 80 #[.val (.int p0), .val (.int p1), .val (.int (p1 &&& (3 : Int32))), .val (.int ((p0 &&& (2147483647 : Int32)) % (6 : Int32))), .val (.int c4), .val (.long (4294981121 : Int64)), .second, .unset] [(.int c4)]))
      refine bk (fun t k => XS.bipush XJ.here hx rfl (hb hby at_80) k) ?_
      show F (TJ.setTop (mkF m 82 #[.val (.int p0), .val (.int p1), .val (.int (p1 &&& (3 : Int32))), .val (.int ((p0 &&& (2147483647 : Int32)) % (6 : Int32))), .val (.int c4), .val (.long (4294981121 : Int64)), .second, .unset] [(.int (64 : Int32)), (.int c4)]))
      by_cases hc82_3 : c4 < (64 : Int32)
      · refine bk (fun t k => XS.icmpNo XJ.here hx rfl (hb hby at_82) rfl (tlt hc82_3).2.1 k) ?_
        show F (TJ.setTop (mkF m 85 #[.val (.int p0), .val (.int p1), .val (.int (p1 &&& (3 : Int32))), .val (.int ((p0 &&& (2147483647 : Int32)) % (6 : Int32))), .val (.int c4), .val (.long (4294981121 : Int64)), .second, .unset] []))
        refine bk (fun t k => XS.lload XJ.here hx rfl (hb hby at_85) rfl k) ?_
        show F (TJ.setTop (mkF m 87 #[.val (.int p0), .val (.int p1), .val (.int (p1 &&& (3 : Int32))), .val (.int ((p0 &&& (2147483647 : Int32)) % (6 : Int32))), .val (.int c4), .val (.long (4294981121 : Int64)), .second, .unset] [(.long (4294981121 : Int64))]))
        refine bk (fun t k => XS.iload XJ.here hx rfl (hb hby at_87) rfl k) ?_
        show F (TJ.setTop (mkF m 89 #[.val (.int p0), .val (.int p1), .val (.int (p1 &&& (3 : Int32))), .val (.int ((p0 &&& (2147483647 : Int32)) % (6 : Int32))), .val (.int c4), .val (.long (4294981121 : Int64)), .second, .unset] [(.int c4), (.long (4294981121 : Int64))]))
        refine bk (fun t k => XS.lushr XJ.here hx rfl (hb hby at_89) rfl k) ?_
        show F (TJ.setTop (mkF m 90 #[.val (.int p0), .val (.int p1), .val (.int (p1 &&& (3 : Int32))), .val (.int ((p0 &&& (2147483647 : Int32)) % (6 : Int32))), .val (.int c4), .val (.long (4294981121 : Int64)), .second, .unset] [(.long (((4294981121 : Int64).toUInt64 >>> (c4 &&& 0x3f).toInt64.toUInt64).toInt64))]))
        refine bk (fun t k => XS.lconst XJ.here hx rfl (hb hby at_90) k) ?_
        show F (TJ.setTop (mkF m 91 #[.val (.int p0), .val (.int p1), .val (.int (p1 &&& (3 : Int32))), .val (.int ((p0 &&& (2147483647 : Int32)) % (6 : Int32))), .val (.int c4), .val (.long (4294981121 : Int64)), .second, .unset] [(.long (1 : Int64)), (.long (((4294981121 : Int64).toUInt64 >>> (c4 &&& 0x3f).toInt64.toUInt64).toInt64))]))
        refine bk (fun t k => XS.land XJ.here hx rfl (hb hby at_91) rfl k) ?_
        show F (TJ.setTop (mkF m 92 #[.val (.int p0), .val (.int p1), .val (.int (p1 &&& (3 : Int32))), .val (.int ((p0 &&& (2147483647 : Int32)) % (6 : Int32))), .val (.int c4), .val (.long (4294981121 : Int64)), .second, .unset] [(.long ((((4294981121 : Int64).toUInt64 >>> (c4 &&& 0x3f).toInt64.toUInt64).toInt64) &&& (1 : Int64)))]))
        refine bk (fun t k => XS.lconst XJ.here hx rfl (hb hby at_92) k) ?_
        show F (TJ.setTop (mkF m 93 #[.val (.int p0), .val (.int p1), .val (.int (p1 &&& (3 : Int32))), .val (.int ((p0 &&& (2147483647 : Int32)) % (6 : Int32))), .val (.int c4), .val (.long (4294981121 : Int64)), .second, .unset] [(.long (0 : Int64)), (.long ((((4294981121 : Int64).toUInt64 >>> (c4 &&& 0x3f).toInt64.toUInt64).toInt64) &&& (1 : Int64)))]))
        refine bk (fun t k => XS.lcmp XJ.here hx rfl (hb hby at_93) rfl k) ?_
        show F (TJ.setTop (mkF m 94 #[.val (.int p0), .val (.int p1), .val (.int (p1 &&& (3 : Int32))), .val (.int ((p0 &&& (2147483647 : Int32)) % (6 : Int32))), .val (.int c4), .val (.long (4294981121 : Int64)), .second, .unset] [(.int (lcmpW ((((4294981121 : Int64).toUInt64 >>> (c4 &&& 0x3f).toInt64.toUInt64).toInt64) &&& (1 : Int64)) (0 : Int64)))]))
        by_cases hc94_4 : ((((4294981121 : Int64).toUInt64 >>> (c4 &&& 0x3f).toInt64.toUInt64).toInt64) &&& (1 : Int64)) = (0 : Int64)
        · refine bk (fun t k => XS.ifYes XJ.here hx rfl (pc0 := 94) (pc' := 101) rfl (hb hby at_94) rfl ((if0 _ _).trans (teq ((lw_eq _ _).mpr hc94_4)).1) (by decide) (by decide) k) ?_
          show F (TJ.setTop (mkF m 101 #[.val (.int p0), .val (.int p1), .val (.int (p1 &&& (3 : Int32))), .val (.int ((p0 &&& (2147483647 : Int32)) % (6 : Int32))), .val (.int c4), .val (.long (4294981121 : Int64)), .second, .unset] []))
          refine bk (fun t k => XS.iconst XJ.here hx rfl (hb hby at_101) k) ?_
          show F (TJ.setTop (mkF m 102 #[.val (.int p0), .val (.int p1), .val (.int (p1 &&& (3 : Int32))), .val (.int ((p0 &&& (2147483647 : Int32)) % (6 : Int32))), .val (.int c4), .val (.long (4294981121 : Int64)), .second, .unset] [(.int (0 : Int32))]))
          exact J102 _ _ XJ eJ NJ _ _ (by rw [own_exp, if_neg hc75_2, if_pos hc82_3, if_pos hc94_4])
        · refine bk (fun t k => XS.ifNo XJ.here hx rfl (hb hby at_94) rfl ((if0 _ _).trans (feq (fun q => hc94_4 ((lw_eq _ _).mp q))).1) k) ?_
          show F (TJ.setTop (mkF m 97 #[.val (.int p0), .val (.int p1), .val (.int (p1 &&& (3 : Int32))), .val (.int ((p0 &&& (2147483647 : Int32)) % (6 : Int32))), .val (.int c4), .val (.long (4294981121 : Int64)), .second, .unset] []))
          refine bk (fun t k => XS.iconst XJ.here hx rfl (hb hby at_97) k) ?_
          show F (TJ.setTop (mkF m 98 #[.val (.int p0), .val (.int p1), .val (.int (p1 &&& (3 : Int32))), .val (.int ((p0 &&& (2147483647 : Int32)) % (6 : Int32))), .val (.int c4), .val (.long (4294981121 : Int64)), .second, .unset] [(.int (1 : Int32))]))
          refine bk (fun t k => XS.goto XJ.here hx rfl (pc0 := 98) (pc' := 102) rfl (hb hby at_98) (by decide) (by decide) k) ?_
          show F (TJ.setTop (mkF m 102 #[.val (.int p0), .val (.int p1), .val (.int (p1 &&& (3 : Int32))), .val (.int ((p0 &&& (2147483647 : Int32)) % (6 : Int32))), .val (.int c4), .val (.long (4294981121 : Int64)), .second, .unset] [(.int (1 : Int32))]))
          exact J102 _ _ XJ eJ NJ _ _ (by rw [own_exp, if_neg hc75_2, if_pos hc82_3, if_neg hc94_4])
      · refine bk (fun t k => XS.icmpYes XJ.here hx rfl (pc0 := 82) (pc' := 101) rfl (hb hby at_82) rfl (flt hc82_3).2.1 (by decide) (by decide) k) ?_
        show F (TJ.setTop (mkF m 101 #[.val (.int p0), .val (.int p1), .val (.int (p1 &&& (3 : Int32))), .val (.int ((p0 &&& (2147483647 : Int32)) % (6 : Int32))), .val (.int c4), .val (.long (4294981121 : Int64)), .second, .unset] []))
        refine bk (fun t k => XS.iconst XJ.here hx rfl (hb hby at_101) k) ?_
        show F (TJ.setTop (mkF m 102 #[.val (.int p0), .val (.int p1), .val (.int (p1 &&& (3 : Int32))), .val (.int ((p0 &&& (2147483647 : Int32)) % (6 : Int32))), .val (.int c4), .val (.long (4294981121 : Int64)), .second, .unset] [(.int (0 : Int32))]))
        exact J102 _ _ XJ eJ NJ _ _ (by rw [own_exp, if_neg hc75_2, if_neg hc82_3])
  show F (s₁.setTop (mkF m 0 #[.val (.int p0), .val (.int p1), .unset, .unset, .unset, .unset, .unset, .unset] []))
  refine bk (fun t k => XS.iloadN X0.here hx rfl (hb hby at_0) rfl k) ?_
  show F (s₁.setTop (mkF m 1 #[.val (.int p0), .val (.int p1), .unset, .unset, .unset, .unset, .unset, .unset] [(.int p1)]))
  refine bk (fun t k => XS.iconst X0.here hx rfl (hb hby at_1) k) ?_
  show F (s₁.setTop (mkF m 2 #[.val (.int p0), .val (.int p1), .unset, .unset, .unset, .unset, .unset, .unset] [(.int (3 : Int32)), (.int p1)]))
  refine bk (fun t k => XS.iand X0.here hx rfl (hb hby at_2) rfl k) ?_
  show F (s₁.setTop (mkF m 3 #[.val (.int p0), .val (.int p1), .unset, .unset, .unset, .unset, .unset, .unset] [(.int (p1 &&& (3 : Int32)))]))
  refine bk (fun t k => XS.istoreN X0.here hx rfl (hb hby at_3) rfl (l' := #[.val (.int p0), .val (.int p1), .val (.int (p1 &&& (3 : Int32))), .unset, .unset, .unset, .unset, .unset]) rfl k) ?_
  show F (s₁.setTop (mkF m 4 #[.val (.int p0), .val (.int p1), .val (.int (p1 &&& (3 : Int32))), .unset, .unset, .unset, .unset, .unset] []))
  refine bk (fun t k => XS.iloadN X0.here hx rfl (hb hby at_4) rfl k) ?_
  show F (s₁.setTop (mkF m 5 #[.val (.int p0), .val (.int p1), .val (.int (p1 &&& (3 : Int32))), .unset, .unset, .unset, .unset, .unset] [(.int p0)]))
  refine bk (fun t k => X0.ldcInt hx hown (mvT hZ w_0) (g := (mkF m 5 #[.val (.int p0), .val (.int p1), .val (.int (p1 &&& (3 : Int32))), .unset, .unset, .unset, .unset, .unset] [(.int p0)])) rfl (hb hby at_5) t k) ?_
  show F (s₁.setTop (mkF m 7 #[.val (.int p0), .val (.int p1), .val (.int (p1 &&& (3 : Int32))), .unset, .unset, .unset, .unset, .unset] [(.int (2147483647 : Int32)), (.int p0)]))
  refine bk (fun t k => XS.iand X0.here hx rfl (hb hby at_7) rfl k) ?_
  show F (s₁.setTop (mkF m 8 #[.val (.int p0), .val (.int p1), .val (.int (p1 &&& (3 : Int32))), .unset, .unset, .unset, .unset, .unset] [(.int (p0 &&& (2147483647 : Int32)))]))
  refine bk (fun t k => XS.bipush X0.here hx rfl (hb hby at_8) k) ?_
  show F (s₁.setTop (mkF m 10 #[.val (.int p0), .val (.int p1), .val (.int (p1 &&& (3 : Int32))), .unset, .unset, .unset, .unset, .unset] [(.int (6 : Int32)), (.int (p0 &&& (2147483647 : Int32)))]))
  refine bk (fun t k => iremM X0 hx rfl (hb hby at_10) rfl (by decide) k) ?_
  show F (s₁.setTop (mkF m 11 #[.val (.int p0), .val (.int p1), .val (.int (p1 &&& (3 : Int32))), .unset, .unset, .unset, .unset, .unset] [(.int ((p0 &&& (2147483647 : Int32)) % (6 : Int32)))]))
  refine bk (fun t k => XS.istoreN X0.here hx rfl (hb hby at_11) rfl (l' := #[.val (.int p0), .val (.int p1), .val (.int (p1 &&& (3 : Int32))), .val (.int ((p0 &&& (2147483647 : Int32)) % (6 : Int32))), .unset, .unset, .unset, .unset]) rfl k) ?_
  show F (s₁.setTop (mkF m 12 #[.val (.int p0), .val (.int p1), .val (.int (p1 &&& (3 : Int32))), .val (.int ((p0 &&& (2147483647 : Int32)) % (6 : Int32))), .unset, .unset, .unset, .unset] []))
  refine bk (fun t k => XS.iloadN X0.here hx rfl (hb hby at_12) rfl k) ?_
  show F (s₁.setTop (mkF m 13 #[.val (.int p0), .val (.int p1), .val (.int (p1 &&& (3 : Int32))), .val (.int ((p0 &&& (2147483647 : Int32)) % (6 : Int32))), .unset, .unset, .unset, .unset] [(.int (p1 &&& (3 : Int32)))]))
  by_cases hc13_5 : (p1 &&& (3 : Int32)) = (0 : Int32)
  · refine bk (fun t k => XS.ifNo X0.here hx rfl (hb hby at_13) rfl ((if0 _ _).trans (teq hc13_5).2) k) ?_
    show F (s₁.setTop (mkF m 16 #[.val (.int p0), .val (.int p1), .val (.int (p1 &&& (3 : Int32))), .val (.int ((p0 &&& (2147483647 : Int32)) % (6 : Int32))), .unset, .unset, .unset, .unset] []))
    refine bk (fun t k => XS.iloadN X0.here hx rfl (hb hby at_16) rfl k) ?_
    show F (s₁.setTop (mkF m 17 #[.val (.int p0), .val (.int p1), .val (.int (p1 &&& (3 : Int32))), .val (.int ((p0 &&& (2147483647 : Int32)) % (6 : Int32))), .unset, .unset, .unset, .unset] [(.int p0)]))
    refine bk (fun t k => XS.istore X0.here hx rfl (hb hby at_17) rfl (l' := #[.val (.int p0), .val (.int p1), .val (.int (p1 &&& (3 : Int32))), .val (.int ((p0 &&& (2147483647 : Int32)) % (6 : Int32))), .val (.int p0), .unset, .unset, .unset]) rfl k) ?_
    show F (s₁.setTop (mkF m 19 #[.val (.int p0), .val (.int p1), .val (.int (p1 &&& (3 : Int32))), .val (.int ((p0 &&& (2147483647 : Int32)) % (6 : Int32))), .val (.int p0), .unset, .unset, .unset] []))
    refine bk (fun t k => XS.goto X0.here hx rfl (pc0 := 19) (pc' := 68) rfl (hb hby at_19) (by decide) (by decide) k) ?_
    show F (s₁.setTop (mkF m 68 #[.val (.int p0), .val (.int p1), .val (.int (p1 &&& (3 : Int32))), .val (.int ((p0 &&& (2147483647 : Int32)) % (6 : Int32))), .val (.int p0), .unset, .unset, .unset] []))
    exact J68 _ _ X0 e0 N0 _
  · refine bk (fun t k => XS.ifYes X0.here hx rfl (pc0 := 13) (pc' := 22) rfl (hb hby at_13) rfl ((if0 _ _).trans (feq hc13_5).2) (by decide) (by decide) k) ?_
    show F (s₁.setTop (mkF m 22 #[.val (.int p0), .val (.int p1), .val (.int (p1 &&& (3 : Int32))), .val (.int ((p0 &&& (2147483647 : Int32)) % (6 : Int32))), .unset, .unset, .unset, .unset] []))
    refine bk (fun t k => XS.iloadN X0.here hx rfl (hb hby at_22) rfl k) ?_
    show F (s₁.setTop (mkF m 23 #[.val (.int p0), .val (.int p1), .val (.int (p1 &&& (3 : Int32))), .val (.int ((p0 &&& (2147483647 : Int32)) % (6 : Int32))), .unset, .unset, .unset, .unset] [(.int (p1 &&& (3 : Int32)))]))
    refine bk (fun t k => XS.iconst X0.here hx rfl (hb hby at_23) k) ?_
    show F (s₁.setTop (mkF m 24 #[.val (.int p0), .val (.int p1), .val (.int (p1 &&& (3 : Int32))), .val (.int ((p0 &&& (2147483647 : Int32)) % (6 : Int32))), .unset, .unset, .unset, .unset] [(.int (1 : Int32)), (.int (p1 &&& (3 : Int32)))]))
    by_cases hc24_6 : (p1 &&& (3 : Int32)) = (1 : Int32)
    · refine bk (fun t k => XS.icmpNo X0.here hx rfl (hb hby at_24) rfl (teq hc24_6).2 k) ?_
      show F (s₁.setTop (mkF m 27 #[.val (.int p0), .val (.int p1), .val (.int (p1 &&& (3 : Int32))), .val (.int ((p0 &&& (2147483647 : Int32)) % (6 : Int32))), .unset, .unset, .unset, .unset] []))
      refine bk (fun t k => XS.iloadN X0.here hx rfl (hb hby at_27) rfl k) ?_
      show F (s₁.setTop (mkF m 28 #[.val (.int p0), .val (.int p1), .val (.int (p1 &&& (3 : Int32))), .val (.int ((p0 &&& (2147483647 : Int32)) % (6 : Int32))), .unset, .unset, .unset, .unset] [(.int p0)]))
      refine bk (fun t k => XS.sipush X0.here hx rfl (hb hby at_28) k) ?_
      show F (s₁.setTop (mkF m 31 #[.val (.int p0), .val (.int p1), .val (.int (p1 &&& (3 : Int32))), .val (.int ((p0 &&& (2147483647 : Int32)) % (6 : Int32))), .unset, .unset, .unset, .unset] [(.int (255 : Int32)), (.int p0)]))
      refine bk (fun t k => XS.iand X0.here hx rfl (hb hby at_31) rfl k) ?_
      show F (s₁.setTop (mkF m 32 #[.val (.int p0), .val (.int p1), .val (.int (p1 &&& (3 : Int32))), .val (.int ((p0 &&& (2147483647 : Int32)) % (6 : Int32))), .unset, .unset, .unset, .unset] [(.int (p0 &&& (255 : Int32)))]))
      refine bk (fun t k => XS.istore X0.here hx rfl (hb hby at_32) rfl (l' := #[.val (.int p0), .val (.int p1), .val (.int (p1 &&& (3 : Int32))), .val (.int ((p0 &&& (2147483647 : Int32)) % (6 : Int32))), .val (.int (p0 &&& (255 : Int32))), .unset, .unset, .unset]) rfl k) ?_
      show F (s₁.setTop (mkF m 34 #[.val (.int p0), .val (.int p1), .val (.int (p1 &&& (3 : Int32))), .val (.int ((p0 &&& (2147483647 : Int32)) % (6 : Int32))), .val (.int (p0 &&& (255 : Int32))), .unset, .unset, .unset] []))
      refine bk (fun t k => XS.goto X0.here hx rfl (pc0 := 34) (pc' := 68) rfl (hb hby at_34) (by decide) (by decide) k) ?_
      show F (s₁.setTop (mkF m 68 #[.val (.int p0), .val (.int p1), .val (.int (p1 &&& (3 : Int32))), .val (.int ((p0 &&& (2147483647 : Int32)) % (6 : Int32))), .val (.int (p0 &&& (255 : Int32))), .unset, .unset, .unset] []))
      exact J68 _ _ X0 e0 N0 _
    · refine bk (fun t k => XS.icmpYes X0.here hx rfl (pc0 := 24) (pc' := 37) rfl (hb hby at_24) rfl (feq hc24_6).2 (by decide) (by decide) k) ?_
      show F (s₁.setTop (mkF m 37 #[.val (.int p0), .val (.int p1), .val (.int (p1 &&& (3 : Int32))), .val (.int ((p0 &&& (2147483647 : Int32)) % (6 : Int32))), .unset, .unset, .unset, .unset] []))
      refine bk (fun t k => XS.iloadN X0.here hx rfl (hb hby at_37) rfl k) ?_
      show F (s₁.setTop (mkF m 38 #[.val (.int p0), .val (.int p1), .val (.int (p1 &&& (3 : Int32))), .val (.int ((p0 &&& (2147483647 : Int32)) % (6 : Int32))), .unset, .unset, .unset, .unset] [(.int (p1 &&& (3 : Int32)))]))
      refine bk (fun t k => XS.iconst X0.here hx rfl (hb hby at_38) k) ?_
      show F (s₁.setTop (mkF m 39 #[.val (.int p0), .val (.int p1), .val (.int (p1 &&& (3 : Int32))), .val (.int ((p0 &&& (2147483647 : Int32)) % (6 : Int32))), .unset, .unset, .unset, .unset] [(.int (2 : Int32)), (.int (p1 &&& (3 : Int32)))]))
      by_cases hc39_7 : (p1 &&& (3 : Int32)) = (2 : Int32)
      · refine bk (fun t k => XS.icmpNo X0.here hx rfl (hb hby at_39) rfl (teq hc39_7).2 k) ?_
        show F (s₁.setTop (mkF m 42 #[.val (.int p0), .val (.int p1), .val (.int (p1 &&& (3 : Int32))), .val (.int ((p0 &&& (2147483647 : Int32)) % (6 : Int32))), .unset, .unset, .unset, .unset] []))
        refine bk (fun t k => XS.iloadN X0.here hx rfl (hb hby at_42) rfl k) ?_
        show F (s₁.setTop (mkF m 43 #[.val (.int p0), .val (.int p1), .val (.int (p1 &&& (3 : Int32))), .val (.int ((p0 &&& (2147483647 : Int32)) % (6 : Int32))), .unset, .unset, .unset, .unset] [(.int ((p0 &&& (2147483647 : Int32)) % (6 : Int32)))]))
        obtain ⟨_, _, ⟨T8, L8, k8, n8⟩, -, X8, ⟨Lc8, hQ8, l8, y8, z8⟩, st8⟩ := Jvm.LawKit.callS X0 hx (y := (⟨"com/example/quire/quire/formats/PdfParserIsSpacePinLaw", "pick", "(I)I"⟩ : MethodName)) hown (mvT hZ w_1) (mvT hZ w_2) (mvT hZ w_3) (mvT hZ w_4) (by decide) (backOf (W := 0) (rm1 l Z a0 hw [] ((p0 &&& (2147483647 : Int32)) % (6 : Int32)) h0 n0 Z0) hZ w_4 w_3 (by decide) (by decide)) (g := (mkF m 43 #[.val (.int p0), .val (.int p1), .val (.int (p1 &&& (3 : Int32))), .val (.int ((p0 &&& (2147483647 : Int32)) % (6 : Int32))), .unset, .unset, .unset, .unset] [(.int ((p0 &&& (2147483647 : Int32)) % (6 : Int32)))])) rfl (by rw [hml]; rfl) (argsL := [(.int ((p0 &&& (2147483647 : Int32)) % (6 : Int32)))]) (rest := []) (lenOf pd0__I_I rfl) rfl (by show 2 * 0 + _ ≤ _; exact Nat.le_of_eq rfl) (hb hby at_43) (fun _ _ => ⟨rfl, e0, (by decide : 0 + 0 ≤ _), (by decide : 0 + 0 ≤ _)⟩)
        dsimp only [Pt.U, Pt.locs, Pt.cells, Pt.slots] at X8 l8 y8 z8 st8 hQ8
        subst l8 y8 z8
        obtain ⟨rfl, N8q, e8⟩ := hQ8
        have N8 := Fr.app N0 N8q
        refine bk (fun t k => st8 t k) ?_
        show F (T8.setTop (mkF m 46 #[.val (.int p0), .val (.int p1), .val (.int (p1 &&& (3 : Int32))), .val (.int ((p0 &&& (2147483647 : Int32)) % (6 : Int32))), .unset, .unset, .unset, .unset] [(.int (own_pick ((p0 &&& (2147483647 : Int32)) % (6 : Int32))))]))
        refine bk (fun t k => XS.istore X8.here hx rfl (hb hby at_46) rfl (l' := #[.val (.int p0), .val (.int p1), .val (.int (p1 &&& (3 : Int32))), .val (.int ((p0 &&& (2147483647 : Int32)) % (6 : Int32))), .val (.int (own_pick ((p0 &&& (2147483647 : Int32)) % (6 : Int32)))), .unset, .unset, .unset]) rfl k) ?_
        show F (T8.setTop (mkF m 48 #[.val (.int p0), .val (.int p1), .val (.int (p1 &&& (3 : Int32))), .val (.int ((p0 &&& (2147483647 : Int32)) % (6 : Int32))), .val (.int (own_pick ((p0 &&& (2147483647 : Int32)) % (6 : Int32)))), .unset, .unset, .unset] []))
        refine bk (fun t k => XS.goto X8.here hx rfl (pc0 := 48) (pc' := 68) rfl (hb hby at_48) (by decide) (by decide) k) ?_
        show F (T8.setTop (mkF m 68 #[.val (.int p0), .val (.int p1), .val (.int (p1 &&& (3 : Int32))), .val (.int ((p0 &&& (2147483647 : Int32)) % (6 : Int32))), .val (.int (own_pick ((p0 &&& (2147483647 : Int32)) % (6 : Int32)))), .unset, .unset, .unset] []))
        exact J68 _ _ X8 e8 N8 _
      · refine bk (fun t k => XS.icmpYes X0.here hx rfl (pc0 := 39) (pc' := 51) rfl (hb hby at_39) rfl (feq hc39_7).2 (by decide) (by decide) k) ?_
        show F (s₁.setTop (mkF m 51 #[.val (.int p0), .val (.int p1), .val (.int (p1 &&& (3 : Int32))), .val (.int ((p0 &&& (2147483647 : Int32)) % (6 : Int32))), .unset, .unset, .unset, .unset] []))
        refine bk (fun t k => XS.iloadN X0.here hx rfl (hb hby at_51) rfl k) ?_
        show F (s₁.setTop (mkF m 52 #[.val (.int p0), .val (.int p1), .val (.int (p1 &&& (3 : Int32))), .val (.int ((p0 &&& (2147483647 : Int32)) % (6 : Int32))), .unset, .unset, .unset, .unset] [(.int ((p0 &&& (2147483647 : Int32)) % (6 : Int32)))]))
        obtain ⟨_, _, ⟨T9, L9, k9, n9⟩, -, X9, ⟨Lc9, hQ9, l9, y9, z9⟩, st9⟩ := Jvm.LawKit.callS X0 hx (y := (⟨"com/example/quire/quire/formats/PdfParserIsSpacePinLaw", "pick", "(I)I"⟩ : MethodName)) hown (mvT hZ w_1) (mvT hZ w_2) (mvT hZ w_3) (mvT hZ w_4) (by decide) (backOf (W := 0) (rm1 l Z a0 hw [] ((p0 &&& (2147483647 : Int32)) % (6 : Int32)) h0 n0 Z0) hZ w_4 w_3 (by decide) (by decide)) (g := (mkF m 52 #[.val (.int p0), .val (.int p1), .val (.int (p1 &&& (3 : Int32))), .val (.int ((p0 &&& (2147483647 : Int32)) % (6 : Int32))), .unset, .unset, .unset, .unset] [(.int ((p0 &&& (2147483647 : Int32)) % (6 : Int32)))])) rfl (by rw [hml]; rfl) (argsL := [(.int ((p0 &&& (2147483647 : Int32)) % (6 : Int32)))]) (rest := []) (lenOf pd0__I_I rfl) rfl (by show 2 * 0 + _ ≤ _; exact Nat.le_of_eq rfl) (hb hby at_52) (fun _ _ => ⟨rfl, e0, (by decide : 0 + 0 ≤ _), (by decide : 0 + 0 ≤ _)⟩)
        dsimp only [Pt.U, Pt.locs, Pt.cells, Pt.slots] at X9 l9 y9 z9 st9 hQ9
        subst l9 y9 z9
        obtain ⟨rfl, N9q, e9⟩ := hQ9
        have N9 := Fr.app N0 N9q
        refine bk (fun t k => st9 t k) ?_
        show F (T9.setTop (mkF m 55 #[.val (.int p0), .val (.int p1), .val (.int (p1 &&& (3 : Int32))), .val (.int ((p0 &&& (2147483647 : Int32)) % (6 : Int32))), .unset, .unset, .unset, .unset] [(.int (own_pick ((p0 &&& (2147483647 : Int32)) % (6 : Int32))))]))
        refine bk (fun t k => XS.iconst X9.here hx rfl (hb hby at_55) k) ?_
        show F (T9.setTop (mkF m 56 #[.val (.int p0), .val (.int p1), .val (.int (p1 &&& (3 : Int32))), .val (.int ((p0 &&& (2147483647 : Int32)) % (6 : Int32))), .unset, .unset, .unset, .unset] [(.int (1 : Int32)), (.int (own_pick ((p0 &&& (2147483647 : Int32)) % (6 : Int32))))]))
        refine bk (fun t k => XS.iadd X9.here hx rfl (hb hby at_56) rfl k) ?_
        show F (T9.setTop (mkF m 57 #[.val (.int p0), .val (.int p1), .val (.int (p1 &&& (3 : Int32))), .val (.int ((p0 &&& (2147483647 : Int32)) % (6 : Int32))), .unset, .unset, .unset, .unset] [(.int ((own_pick ((p0 &&& (2147483647 : Int32)) % (6 : Int32))) + (1 : Int32)))]))
        refine bk (fun t k => XS.iconst X9.here hx rfl (hb hby at_57) k) ?_
        show F (T9.setTop (mkF m 58 #[.val (.int p0), .val (.int p1), .val (.int (p1 &&& (3 : Int32))), .val (.int ((p0 &&& (2147483647 : Int32)) % (6 : Int32))), .unset, .unset, .unset, .unset] [(.int (2 : Int32)), (.int ((own_pick ((p0 &&& (2147483647 : Int32)) % (6 : Int32))) + (1 : Int32)))]))
        refine bk (fun t k => XS.iloadN X9.here hx rfl (hb hby at_58) rfl k) ?_
        show F (T9.setTop (mkF m 59 #[.val (.int p0), .val (.int p1), .val (.int (p1 &&& (3 : Int32))), .val (.int ((p0 &&& (2147483647 : Int32)) % (6 : Int32))), .unset, .unset, .unset, .unset] [(.int p0), (.int (2 : Int32)), (.int ((own_pick ((p0 &&& (2147483647 : Int32)) % (6 : Int32))) + (1 : Int32)))]))
        refine bk (fun t k => XS.bipush X9.here hx rfl (hb hby at_59) k) ?_
        show F (T9.setTop (mkF m 61 #[.val (.int p0), .val (.int p1), .val (.int (p1 &&& (3 : Int32))), .val (.int ((p0 &&& (2147483647 : Int32)) % (6 : Int32))), .unset, .unset, .unset, .unset] [(.int (16 : Int32)), (.int p0), (.int (2 : Int32)), (.int ((own_pick ((p0 &&& (2147483647 : Int32)) % (6 : Int32))) + (1 : Int32)))]))
        refine bk (fun t k => XS.iushr X9.here hx rfl (hb hby at_61) rfl k) ?_
        show F (T9.setTop (mkF m 62 #[.val (.int p0), .val (.int p1), .val (.int (p1 &&& (3 : Int32))), .val (.int ((p0 &&& (2147483647 : Int32)) % (6 : Int32))), .unset, .unset, .unset, .unset] [(.int ((p0.toUInt32 >>> ((16 : Int32) &&& 31).toUInt32).toInt32)), (.int (2 : Int32)), (.int ((own_pick ((p0 &&& (2147483647 : Int32)) % (6 : Int32))) + (1 : Int32)))]))
        refine bk (fun t k => XS.iconst X9.here hx rfl (hb hby at_62) k) ?_
        show F (T9.setTop (mkF m 63 #[.val (.int p0), .val (.int p1), .val (.int (p1 &&& (3 : Int32))), .val (.int ((p0 &&& (2147483647 : Int32)) % (6 : Int32))), .unset, .unset, .unset, .unset] [(.int (1 : Int32)), (.int ((p0.toUInt32 >>> ((16 : Int32) &&& 31).toUInt32).toInt32)), (.int (2 : Int32)), (.int ((own_pick ((p0 &&& (2147483647 : Int32)) % (6 : Int32))) + (1 : Int32)))]))
        refine bk (fun t k => XS.iand X9.here hx rfl (hb hby at_63) rfl k) ?_
        show F (T9.setTop (mkF m 64 #[.val (.int p0), .val (.int p1), .val (.int (p1 &&& (3 : Int32))), .val (.int ((p0 &&& (2147483647 : Int32)) % (6 : Int32))), .unset, .unset, .unset, .unset] [(.int (((p0.toUInt32 >>> ((16 : Int32) &&& 31).toUInt32).toInt32) &&& (1 : Int32))), (.int (2 : Int32)), (.int ((own_pick ((p0 &&& (2147483647 : Int32)) % (6 : Int32))) + (1 : Int32)))]))
        refine bk (fun t k => XS.imul X9.here hx rfl (hb hby at_64) rfl k) ?_
        show F (T9.setTop (mkF m 65 #[.val (.int p0), .val (.int p1), .val (.int (p1 &&& (3 : Int32))), .val (.int ((p0 &&& (2147483647 : Int32)) % (6 : Int32))), .unset, .unset, .unset, .unset] [(.int ((2 : Int32) * (((p0.toUInt32 >>> ((16 : Int32) &&& 31).toUInt32).toInt32) &&& (1 : Int32)))), (.int ((own_pick ((p0 &&& (2147483647 : Int32)) % (6 : Int32))) + (1 : Int32)))]))
        refine bk (fun t k => XS.isub X9.here hx rfl (hb hby at_65) rfl k) ?_
        show F (T9.setTop (mkF m 66 #[.val (.int p0), .val (.int p1), .val (.int (p1 &&& (3 : Int32))), .val (.int ((p0 &&& (2147483647 : Int32)) % (6 : Int32))), .unset, .unset, .unset, .unset] [(.int (((own_pick ((p0 &&& (2147483647 : Int32)) % (6 : Int32))) + (1 : Int32)) - ((2 : Int32) * (((p0.toUInt32 >>> ((16 : Int32) &&& 31).toUInt32).toInt32) &&& (1 : Int32)))))]))
        refine bk (fun t k => XS.istore X9.here hx rfl (hb hby at_66) rfl (l' := #[.val (.int p0), .val (.int p1), .val (.int (p1 &&& (3 : Int32))), .val (.int ((p0 &&& (2147483647 : Int32)) % (6 : Int32))), .val (.int (((own_pick ((p0 &&& (2147483647 : Int32)) % (6 : Int32))) + (1 : Int32)) - ((2 : Int32) * (((p0.toUInt32 >>> ((16 : Int32) &&& 31).toUInt32).toInt32) &&& (1 : Int32))))), .unset, .unset, .unset]) rfl k) ?_
        show F (T9.setTop (mkF m 68 #[.val (.int p0), .val (.int p1), .val (.int (p1 &&& (3 : Int32))), .val (.int ((p0 &&& (2147483647 : Int32)) % (6 : Int32))), .val (.int (((own_pick ((p0 &&& (2147483647 : Int32)) % (6 : Int32))) + (1 : Int32)) - ((2 : Int32) * (((p0.toUInt32 >>> ((16 : Int32) &&& 31).toUInt32).toInt32) &&& (1 : Int32))))), .unset, .unset, .unset] []))
        exact J68 _ _ X9 e9 N9 _
set_option maxRecDepth 65536 in
set_option maxHeartbeats 40000000 in
theorem comes_1 {Post : Tables → Env → Array Value → State → Outcome → State → Prop} (hpost : ∀ tb e args s v u, (limb_1_1.after args s (.returned v) u = true ∧ limb_1_2.after args s (.returned v) u = true ∧ True) → FrameEnd s (.returned v) u (Jvm.fieldLocs frame_1_writes args s ++ Jvm.arrayLocs frame_1_arrays args s ++ Jvm.staticLocs frame_1_statics s) 0 0 → Post tb e args s (.returned v) u) :
    ArmFor flags0 classFile x code maxLocals ret World_1 tables_1 room_1 Calls_1 rest_1 Pre_1 Post := by
  intro l hfl _ _ p e ha hc hk s m args below hf hA hF happ hP
  obtain ⟨hcalls, hrest, hpre⟩ := hP
  obtain ⟨-, -, -, hnamed, -, -, -, hat⟩ := (Spec.applies_iff hf).mp happ
  obtain ⟨hg, hn⟩ := and_e (Cond.before_iff.mp (show (Jvm.Cond.and given_1 narrow_1).before args s = true from hpre))
  obtain ⟨hcount, hk0⟩ := and_e hg
  obtain ⟨hi0, hk1⟩ := and_e hk0
  have hi1 := hk1
  obtain ⟨w0, w1, rfl⟩ : ∃ w0 w1 : Value, args = #[w0, w1] := by
    have hs : args.size = 2 := by simpa [Cond.value, given_1] using hcount
    obtain ⟨L⟩ := args
    match L, hs with
    | [w0, w1], _ => exact ⟨w0, w1, rfl⟩
  have hw := fun d (hd : d ∈ tables_1) => atoms_spec (ws := Jvm.Cond.code x code maxLocals ret :: tables_1) hat d (List.mem_cons_of_mem _ hd)
  obtain ⟨i0, ei0⟩ := is_v hi0
  obtain rfl : w0 = (.int i0) := Option.some.inj ei0
  obtain ⟨i1, ei1⟩ := is_v hi1
  obtain rfl : w1 = (.int i1) := Option.some.inj ei1
  obtain ⟨n, o, h1, h2, h3, _, L, rfl, ⟨rfl, N⟩, hq⟩ := rm0 l s _ hw tables_1 i0 i1  s.heap s.heap.size (Nat.le_refl _)  p e ha hc hk s m _ below hf ((Spec.applies_iff_loose hf).mp happ).1 ⟨rfl, State.Warmed39.refl s, rfl⟩ trivial
  refine ⟨n, _, h1, h2, h3, hpost _ _ _ _ _ _ ⟨Cond.after_iff.mpr rfl, Cond.after_iff.mpr (eq_i res_at (Term.int_eval (1)) rfl), trivial⟩ ⟨hq.1, hq.2.1, (hq.2.2.sift fun y hy => Or.inr (N y hy)).mono (by decide) (by decide)⟩⟩
theorem main_1_1 : Claimed_1_1 := comes_1 fun _ _ _ _ _ _ h hF => ⟨h.1, hF⟩
theorem main_1_2 : Claimed_1_2 := comes_1 fun _ _ _ _ _ _ h hF => ⟨h.2.1, hF⟩
end Jvm.Pilot.@@N@@
namespace Jvm.Pilot.@@N@@
open Jvm Jvm.ClassFile Sem Op Lib Jvm.Free Jvm.Stand Jvm.Pilot.@@N@@.Jvm.D
/-! MADE BY PROGRAM (witnessworld.py) out of the Statement's table words and the real class files: 9 classes; the members and pool entries that the words name. The judged class is class 1, her method 2. -/
namespace start1
open Jvm.ClassFile
def u (s : String) : CpInfo := .utf8 (stringToUtf16 s)
/-- a pool by its gaps: so many unusable entries, then the entry; so many at the end -/
def gap : Nat → List CpInfo → List CpInfo
  | 0, r => r
  | n + 1, r => .unusable :: gap n r
def poolList (es : List (Nat × CpInfo)) (last : Nat) : List CpInfo := es.foldr (fun e r => gap e.1 (e.2 :: r)) (gap last [])
def pool (es : List (Nat × CpInfo)) (last : Nat) : Array CpInfo := ⟨poolList es last⟩
def fileOf (pool : Array CpInfo) (this : Nat) (attrs : Array Attribute := #[]) (ms : Array MethodInfo := #[]) (fl : Nat := 33) (sup : Nat := 0) (ifs : Array Nat := #[]) (fds : Array FieldInfo := #[]) : ClassFile where
  minorVersion := 0
  majorVersion := 65
  constantPool := pool
  accessFlags := fl
  thisClass := this
  superClass := sup
  interfaces := ifs
  fields := fds
  methods := ms
  attributes := attrs
def plain (name : String) (sup : Option ClassId) : Class where
  name := name
  kind := .ordinary
  loader := none
  accessFlags := 33
  super := sup
  interfaces := #[]
  cf := none
  fields := #[]
  methods := #[]
  instanceTypes := #[]
  staticTypes := #[]
  resolved := #[]
  callSites := []
  init := .initialized
  statics := none
  mirror := none

def pool0 : Array CpInfo := pool [(5, u "<init>"), (0, u "()V"), (1, .class_ 10), (1, u "java/lang/Object")] 113

def k0m0 : Method := { name := "<init>", desc := "()V", sig := { parameters := [], returnType := none }, accessFlags := 1, code := none }
/-- java/lang/Object -/
def k0 : Class := { plain "java/lang/Object" none with
  accessFlags := 33
  interfaces := #[]
  cf := some (fileOf pool0 8 #[] #[{ accessFlags := 1, nameIndex := 5, descriptorIndex := 6, attributes := #[] }] 33 0 #[] #[])
  fields := #[]
  methods := #[k0m0]
  instanceTypes := #[]
  staticTypes := #[]
  resolved := Array.replicate 124 none
  statics := none }

def pool1 : Array CpInfo := pool [(2, .class_ 4), (1, u "java/lang/Object"), (0, u "<init>"), (0, u "()V"), (0, .integer 2147483647), (0, .methodref 9 10), (0, .class_ 11), (0, .nameAndType 12 13), (0, u "com/example/quire/quire/formats/PdfParserIsSpacePinLaw"), (0, u "pick"), (0, u "(I)I"), (0, .long 4294981121), (1, .methodref 17 18), (0, .class_ 19), (0, .nameAndType 20 21), (0, u "com/example/quire/quire/formats/PdfParser"), (0, u "isSpace"), (0, u "(I)Z"), (3, u "law"), (0, u "(II)Z")] 2

def k1m0 : Method := { name := "<init>", desc := "()V", sig := { parameters := [], returnType := none }, accessFlags := 2, code := none }
def k1c1 : Code := { maxStack := 2, maxLocals := 1, code := method_2_code, exceptionTable := #[], attributes := #[] }
def k1m1 : Method := { name := "pick", desc := "(I)I", sig := { parameters := [.int], returnType := some .int }, accessFlags := 10, code := some k1c1 }
def k1c2 : Code := { maxStack := 4, maxLocals := 8, code := code, exceptionTable := #[], attributes := #[] }
def k1m2 : Method := { name := "law", desc := "(II)Z", sig := { parameters := [.int, .int], returnType := some .boolean }, accessFlags := 9, code := some k1c2 }
/-- com/example/quire/quire/formats/PdfParserIsSpacePinLaw -/
def k1 : Class := { plain "com/example/quire/quire/formats/PdfParserIsSpacePinLaw" (some 0) with
  accessFlags := 49
  interfaces := #[]
  cf := some (fileOf pool1 9 #[] #[{ accessFlags := 2, nameIndex := 5, descriptorIndex := 6, attributes := #[] }, { accessFlags := 10, nameIndex := 12, descriptorIndex := 13, attributes := #[] }, { accessFlags := 9, nameIndex := 25, descriptorIndex := 26, attributes := #[] }] 49 2 #[] #[])
  fields := #[]
  methods := #[k1m0, k1m1, k1m2]
  instanceTypes := #[]
  staticTypes := #[]
  resolved := Array.replicate 29 none
  statics := none }

def pool2 : Array CpInfo := pool [(2, .class_ 4), (1, u "java/lang/Object"), (3, .class_ 10), (1, u "com/example/quire/quire/formats/PdfParser"), (0, u "in"), (0, u "Lcom/example/quire/quire/formats/PdfParser$Source;"), (2, u "position"), (0, u "J"), (6, u "ARRAY_END"), (0, u "Ljava/lang/Object;"), (2, u "DICTIONARY_END"), (18, .class_ 47), (0, u "com/example/quire/quire/formats/PdfParser$Keyword"), (11, .class_ 61), (1, u "com/example/quire/quire/formats/PdfParser$Source"), (4, u "isSpace"), (0, u "(I)Z"), (61, u "NUMBER"), (0, u "Ljava/util/regex/Pattern;"), (15, u "WHOLE_NUMBER"), (34, .class_ 182), (0, u "com/example/quire/quire/formats/PdfParser$Reference"), (21, .class_ 205), (0, u "com/example/quire/quire/formats/PdfParser$Name"), (17, .class_ 224), (0, u "com/example/quire/quire/formats/PdfParser$Text"), (26, u "depth"), (0, u "I"), (39, u "MAX_DEPTH"), (2, u "MAX_NAME"), (1, u "MAX_STRING")] 43

def k2c0 : Code := { maxStack := 2, maxLocals := 1, code := prog_34_method_21_code, exceptionTable := #[], attributes := #[] }
def k2m0 : Method := { name := "isSpace", desc := "(I)Z", sig := { parameters := [.int], returnType := some .boolean }, accessFlags := 8, code := some k2c0 }
/-- com/example/quire/quire/formats/PdfParser -/
def k2 : Class := { plain "com/example/quire/quire/formats/PdfParser" (some 0) with
  accessFlags := 48
  interfaces := #[]
  cf := some (fileOf pool2 8 #[.nestMembers #[59, 223, 46, 181, 204]] #[{ accessFlags := 8, nameIndex := 66, descriptorIndex := 67, attributes := #[] }] 48 2 #[] #[{ accessFlags := 26, nameIndex := 292, descriptorIndex := 252, attributes := #[] }, { accessFlags := 26, nameIndex := 295, descriptorIndex := 252, attributes := #[] }, { accessFlags := 26, nameIndex := 297, descriptorIndex := 252, attributes := #[] }, { accessFlags := 26, nameIndex := 23, descriptorIndex := 24, attributes := #[] }, { accessFlags := 26, nameIndex := 27, descriptorIndex := 24, attributes := #[] }, { accessFlags := 26, nameIndex := 129, descriptorIndex := 130, attributes := #[] }, { accessFlags := 26, nameIndex := 146, descriptorIndex := 130, attributes := #[] }, { accessFlags := 18, nameIndex := 11, descriptorIndex := 12, attributes := #[] }, { accessFlags := 2, nameIndex := 15, descriptorIndex := 16, attributes := #[] }, { accessFlags := 2, nameIndex := 251, descriptorIndex := 252, attributes := #[] }])
  fields := #[{ name := "MAX_DEPTH", type := .int, accessFlags := 26, slot := 0, constantValue := 0 }, { name := "MAX_NAME", type := .int, accessFlags := 26, slot := 1, constantValue := 0 }, { name := "MAX_STRING", type := .int, accessFlags := 26, slot := 2, constantValue := 0 }, { name := "ARRAY_END", type := (.object "java/lang/Object"), accessFlags := 26, slot := 3, constantValue := 0 }, { name := "DICTIONARY_END", type := (.object "java/lang/Object"), accessFlags := 26, slot := 4, constantValue := 0 }, { name := "NUMBER", type := (.object "java/util/regex/Pattern"), accessFlags := 26, slot := 5, constantValue := 0 }, { name := "WHOLE_NUMBER", type := (.object "java/util/regex/Pattern"), accessFlags := 26, slot := 6, constantValue := 0 }, { name := "in", type := (.object "com/example/quire/quire/formats/PdfParser$Source"), accessFlags := 18, slot := 0, constantValue := 0 }, { name := "position", type := .long, accessFlags := 2, slot := 1, constantValue := 0 }, { name := "depth", type := .int, accessFlags := 2, slot := 2, constantValue := 0 }]
  methods := #[k2m0]
  instanceTypes := #[(.object "com/example/quire/quire/formats/PdfParser$Source"), .long, .int]
  staticTypes := #[.int, .int, .int, (.object "java/lang/Object"), (.object "java/lang/Object"), (.object "java/util/regex/Pattern"), (.object "java/util/regex/Pattern")]
  resolved := Array.replicate 341 none
  statics := none }

def pool3 : Array CpInfo := pool [(1, u "java/lang/Cloneable"), (0, .class_ 1), (0, u "java/lang/Object"), (0, .class_ 3)] 3

/-- java/lang/Cloneable -/
def k3 : Class := { plain "java/lang/Cloneable" (some 0) with
  accessFlags := 1537
  interfaces := #[]
  cf := some (fileOf pool3 2 #[] #[] 1537 4 #[] #[])
  fields := #[]
  methods := #[]
  instanceTypes := #[]
  staticTypes := #[]
  resolved := Array.replicate 8 none
  statics := none }

def pool4 : Array CpInfo := pool [(1, u "java/io/Serializable"), (0, .class_ 1), (0, u "java/lang/Object"), (0, .class_ 3)] 3

/-- java/io/Serializable -/
def k4 : Class := { plain "java/io/Serializable" (some 0) with
  accessFlags := 1537
  interfaces := #[]
  cf := some (fileOf pool4 2 #[] #[] 1537 4 #[] #[])
  fields := #[]
  methods := #[]
  instanceTypes := #[]
  staticTypes := #[]
  resolved := Array.replicate 8 none
  statics := none }

/-- the primitive byte -/
def k5 : Class := { plain "byte" none with kind := .primitive 'B', accessFlags := 0x411 }
/-- [B -/
def k6 : Class := { plain "[B" (some 0) with kind := .array 5 .byte, interfaces := #[3, 4], accessFlags := 1041 }

/-- the primitive int -/
def k7 : Class := { plain "int" none with kind := .primitive 'I', accessFlags := 0x411 }
/-- [I -/
def k8 : Class := { plain "[I" (some 0) with kind := .array 7 .int, interfaces := #[3, 4], accessFlags := 1041 }

def heap : Heap := #[]
def classes : Array Class := #[k0, k1, k2, k3, k4, k5, k6, k7, k8]
def interned : List (Array UInt16 × Addr) := []
def slotsUsed : Nat := 0
def theMethod : MethodId := ⟨1, 2⟩
def args0 : Array Value := #[.int 5, .int 2]
def aboutOver (below : List Frame) : State where
  vm := { classes := classes, interned := interned.toArray }
  heap := heap
  slotsUsed := slotsUsed
  threads := #[{ frames := .invoking theMethod args0 :: below }]
def below0 : List Frame := [.native { method := ⟨0, 0⟩, args := #[] }]
def about1 : State := aboutOver below0
def p0 : Program := .bare "" "" ""
def e0 : Env := launch0.env 0 0 0
theorem w_frames : about1.frames = Frame.invoking theMethod args0 :: below0 := rfl
set_option maxRecDepth 65536 in
theorem w_args : argsFit about1.vm theMethod args0 = true := by decide +kernel
set_option maxRecDepth 65536 in
theorem w_heap : heapFits about1 = true := by decide +kernel
set_option maxRecDepth 65536 in
theorem w_runnable : about1.curStatus? = some .runnable := by decide +kernel
set_option maxRecDepth 65536 in
theorem w_alone : about1.alone = true := by decide +kernel
set_option maxRecDepth 65536 in
theorem w_named : about1.methodNamed? x = some theMethod := by decide +kernel
set_option maxRecDepth 65536 in
theorem w_hears : about1.hears theMethod below0 = true := by decide +kernel
set_option maxRecDepth 65536 in
theorem w_ripe : about1.ripe theMethod args0 below0 = true := by decide +kernel
theorem w_running : about1.status = .running := rfl
set_option maxRecDepth 65536 in
theorem w_room : about1.hasRoom e0.platform room_1 = true :=
  launch0.hasRoom_least _ room_1 (by decide +kernel) (by decide +kernel) (by decide +kernel) (by decide +kernel) (by decide +kernel) (by decide +kernel)
theorem allAtoms_all (ts : List Jvm.Cond) (a : Array Jvm.Value) (st : Jvm.State) : (allAtoms ts).before a st = ts.all (fun c => c.before a st) := by
  induction ts with
  | nil => rfl
  | cons c t ih =>
    show (Jvm.Cond.and c (allAtoms t)).before a st = _
    rw [Jvm.Cond.before_and, ih, List.all_cons]
def words1 : List Jvm.Cond := Jvm.Cond.code x code maxLocals ret :: tables_1
/-- a 'code' word, met by the world's own term for the bytes: nothing is compared byte by byte -/
theorem code_word {y : MethodName} {bytes : ByteArray} {mx : Nat} {rt : Option FieldType} {a : Array Value} {s : State} {m : MethodId} {meth : Method} {c : Code} (h1 : s.methodNamed? y = some m) (h2 : s.vm.method? m = some meth) (h3 : meth.code = some c) (h4 : c.code = bytes)
    (h5 : (c.maxLocals == mx && c.exceptionTable.isEmpty && decide (c.maxStack ≤ mostOperands) && decide (meth.sig.returnType = rt) && !meth.locks && decide (parseMethodDescriptor y.desc = some meth.sig)) = true) : (Jvm.Cond.code y bytes mx rt).before a s = true := by
  simp only [Bool.and_eq_true, beq_iff_eq, Bool.not_eq_true', decide_eq_true_eq] at h5
  obtain ⟨⟨⟨⟨⟨g1, g2⟩, g3⟩, g4⟩, g5⟩, g6⟩ := h5
  simp [Cond.before, Cond.holds, Cond.value, h1, h2, h3, h4, g1, g2, g3, g4, g5, g6]
def isCode : Jvm.Cond → Bool
  | .code _ _ _ _ => true
  | _ => false
theorem all_split {L : List Jvm.Cond} {P : Jvm.Cond → Bool} (h1 : L.all (fun c => isCode c || P c) = true) (h2 : ∀ c ∈ L.filter isCode, P c = true) : L.all P = true := by
  refine List.all_eq_true.mpr fun c hc => ?_
  have h := List.all_eq_true.mp h1 c hc
  rcases Bool.eq_false_or_eq_true (isCode c) with hi | hi
  · exact h2 c (List.mem_filter.mpr ⟨hc, hi⟩)
  · simpa [hi] using h
set_option maxRecDepth 65536 in
theorem w_c0 : (Jvm.Cond.code x code maxLocals ret).before args0 about1 = true := code_word (m := ⟨1, 2⟩) (meth := k1m2) (c := k1c2) (by decide +kernel) rfl rfl rfl (by decide +kernel)
set_option maxRecDepth 65536 in
theorem w_c1 : (Jvm.Cond.code ({ cls := "com/example/quire/quire/formats/PdfParserIsSpacePinLaw", name := "pick", desc := "(I)I" } : Jvm.MethodName) method_2_code (1 : Nat) (Option.some Jvm.ClassFile.FieldType.int)).before args0 about1 = true := code_word (m := ⟨1, 1⟩) (meth := k1m1) (c := k1c1) (by decide +kernel) rfl rfl rfl (by decide +kernel)
set_option maxRecDepth 65536 in
theorem w_c2 : (Jvm.Cond.code ({ cls := "com/example/quire/quire/formats/PdfParser", name := "isSpace", desc := "(I)Z" } : Jvm.MethodName) prog_34_method_21_code (1 : Nat) (Option.some Jvm.ClassFile.FieldType.boolean)).before args0 about1 = true := code_word (m := ⟨2, 0⟩) (meth := k2m0) (c := k2c0) (by decide +kernel) rfl rfl rfl (by decide +kernel)
def codes1 : List Jvm.Cond := [Jvm.Cond.code x code maxLocals ret, Jvm.Cond.code ({ cls := "com/example/quire/quire/formats/PdfParserIsSpacePinLaw", name := "pick", desc := "(I)I" } : Jvm.MethodName) method_2_code (1 : Nat) (Option.some Jvm.ClassFile.FieldType.int), Jvm.Cond.code ({ cls := "com/example/quire/quire/formats/PdfParser", name := "isSpace", desc := "(I)Z" } : Jvm.MethodName) prog_34_method_21_code (1 : Nat) (Option.some Jvm.ClassFile.FieldType.boolean)]
set_option maxRecDepth 65536 in
theorem codes_eq : words1.filter isCode = codes1 := rfl
theorem w_codes : ∀ c ∈ words1.filter isCode, c.before args0 about1 = true := by
  rw [codes_eq]
  intro c hc
  simp only [codes1, List.mem_cons, List.not_mem_nil, or_false] at hc
  rcases hc with rfl | rfl | rfl
  · exact w_c0
  · exact w_c1
  · exact w_c2
set_option maxRecDepth 65536 in
theorem w_t1 : words1.all (fun c => isCode c || c.before args0 about1) = true := by decide +kernel
theorem w_tables : (allAtoms (Jvm.Cond.code x code maxLocals ret :: tables_1)).before args0 about1 = true := by
  rw [allAtoms_all]
  show words1.all (fun c => c.before args0 about1) = true
  refine all_split ?_ w_codes
  rw [w_t1]
set_option maxRecDepth 65536 in
theorem w_case : (Jvm.Cond.and given_1 narrow_1).before args0 about1 = true := by decide +kernel
theorem w_applies : (headSpec (Jvm.Cond.code x code maxLocals ret :: tables_1) room_1).applies x e0.platform about1 = true :=
  (Spec.applies_iff w_frames).mpr ⟨w_running, w_runnable, w_alone, w_named, w_hears, w_ripe, w_room, w_tables⟩
theorem atStart : AtStart classFile x code maxLocals ret World_1 tables_1 room_1 Calls_1 rest_1 Pre_1 launch0 p0 e0 about1 theMethod args0 below0 :=
  ⟨lists_1, trivial, launch0.admits_env _ _ _, launch0.least_env, fairChoices_fair.cas, fairChoices_fair.clock, w_frames, w_args, w_heap, w_applies, trivial, trivial, w_case⟩
end start1
theorem witness_1 : WitnessClaimed_1 := ⟨start1.p0, start1.e0, start1.about1, start1.theMethod, start1.args0, start1.below0, start1.atStart⟩
end Jvm.Pilot.@@N@@
