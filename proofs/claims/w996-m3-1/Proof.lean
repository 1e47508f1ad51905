import JvmDerived
import JvmDerived.Pilot.@@N@@Statement
import JvmDerived.Pilot.@@N@@Code
set_option linter.unusedVariables false
set_option linter.unusedSimpArgs false
namespace Jvm.Pilot.@@N@@
open Jvm Jvm.ClassFile Sem Op Lib Jvm.Free Jvm.Stand Jvm.LawKit Jvm.RoadKit Bundle Jvm.Pilot.@@N@@.Jvm.D
/-- the run from A comes to a return that Q speaks of -/
def own_Fin (p : Program) (e : Env) (below : List Frame) (s : State) (kc ks : Nat) (Q : Option Value → Heap → List Loc → Prop) (A : State) : Prop :=
  ∃ s₂ o, Steps p.tables e below A s₂ ∧ s₂.status = .running ∧ Ended s₂ below o ∧ ∃ v L, o = .returned v ∧ Q v s₂.heap L ∧ FrameEnd s o s₂ L kc ks
section Own
variable {p : Program} {l : Launch} {e : Env} {R : Room} {s : State} {m : MethodId} {args : Array Value} {below : List Frame} {meth : Method} {c : Code} {T : State} {locs : List Loc} {cells slots kc ks : Nat} {Q : Option Value → Heap → List Loc → Prop}
theorem own_back {A B : State} (h : ∀ t, Steps p.tables e below B t → Steps p.tables e below A t) (k : own_Fin p e below s kc ks Q B) : own_Fin p e below s kc ks Q A := by
  obtain ⟨s2, o, h1, r⟩ := k
  exact ⟨s2, o, h _ h1, r⟩
theorem own_retN (X : Stand p l e R s m args below meth c T locs cells slots) (hx : p.tables.exec = Jvm.exec) (hlk : meth.locks = false) {t : FieldType} (ht : t = .boolean ∨ t = .byte ∨ t = .char ∨ t = .short) {pc : Nat} {Ls : Array Slot} {z : Int32} {rest : List Value} (hret : meth.sig.returnType = some t) (hd : decode c.code pc = .ok (.ireturn, 1)) (hc : cells ≤ kc) (hs : slots ≤ ks)
    (hQ : Q (some (.int (nar t z))) T.heap locs) : own_Fin p e below s kc ks Q (T.setTop (mkF m pc Ls (.int z :: rest))) := by
  obtain ⟨fs, hr, hrun, hended, hW, hsame⟩ := X.leave (v := some (.int (nar t z))) (fun h => by rw [hret] at h; cases h) hlk
  exact ⟨_, _, retN X hx hret ht hd hr, hrun, hended, _, _, rfl, hQ, ⟨_, rfl⟩, hW, hsame.mono hc hs⟩
theorem own_retZ (X : Stand p l e R s m args below meth c T locs cells slots) (hx : p.tables.exec = Jvm.exec) (hlk : meth.locks = false) {pc : Nat} {Ls : Array Slot} {z : Int32} {rest : List Value} (hret : meth.sig.returnType = some .boolean) (hd : decode c.code pc = .ok (.ireturn, 1)) (hc : cells ≤ kc) (hs : slots ≤ ks)
    (hQ : Q (some (.int (z &&& 1))) T.heap locs) : own_Fin p e below s kc ks Q (T.setTop (mkF m pc Ls (.int z :: rest))) := own_retN X hx hlk (Or.inl rfl) hret hd hc hs hQ
theorem own_retB (X : Stand p l e R s m args below meth c T locs cells slots) (hx : p.tables.exec = Jvm.exec) (hlk : meth.locks = false) {pc : Nat} {Ls : Array Slot} {z : Int32} {rest : List Value} (hret : meth.sig.returnType = some .byte) (hd : decode c.code pc = .ok (.ireturn, 1)) (hc : cells ≤ kc) (hs : slots ≤ ks)
    (hQ : Q (some (.int (nar .byte z))) T.heap locs) : own_Fin p e below s kc ks Q (T.setTop (mkF m pc Ls (.int z :: rest))) := own_retN X hx hlk (Or.inr (Or.inl rfl)) hret hd hc hs hQ
theorem own_retI (X : Stand p l e R s m args below meth c T locs cells slots) (hx : p.tables.exec = Jvm.exec) (hlk : meth.locks = false) {pc : Nat} {Ls : Array Slot} {z : Int32} {rest : List Value} (hret : meth.sig.returnType = some .int) (hd : decode c.code pc = .ok (.ireturn, 1)) (hc : cells ≤ kc) (hs : slots ≤ ks)
    (hQ : Q (some (.int z)) T.heap locs) : own_Fin p e below s kc ks Q (T.setTop (mkF m pc Ls (.int z :: rest))) := by
  obtain ⟨fs, hr, hrun, hended, hW, hsame⟩ := X.leave (v := some (.int z)) (fun h => by rw [hret] at h; cases h) hlk
  exact ⟨_, _, retOut X hx hret rfl (Or.inl ⟨rfl, Or.inl rfl, z, rfl⟩) hd hr, hrun, hended, _, _, rfl, hQ, ⟨_, rfl⟩, hW, hsame.mono hc hs⟩
theorem own_retJ (X : Stand p l e R s m args below meth c T locs cells slots) (hx : p.tables.exec = Jvm.exec) (hlk : meth.locks = false) {pc : Nat} {Ls : Array Slot} {z : Int64} {rest : List Value} (hret : meth.sig.returnType = some .long) (hd : decode c.code pc = .ok (.lreturn, 1)) (hc : cells ≤ kc) (hs : slots ≤ ks)
    (hQ : Q (some (.long z)) T.heap locs) : own_Fin p e below s kc ks Q (T.setTop (mkF m pc Ls (.long z :: rest))) := by
  obtain ⟨fs, hr, hrun, hended, hW, hsame⟩ := X.leave (v := some (.long z)) (fun h => by rw [hret] at h; cases h) hlk
  exact ⟨_, _, retOut X hx hret rfl (Or.inr (Or.inl ⟨rfl, rfl, z, rfl⟩)) hd hr, hrun, hended, _, _, rfl, hQ, ⟨_, rfl⟩, hW, hsame.mono hc hs⟩
theorem own_retA (X : Stand p l e R s m args below meth c T locs cells slots) (hx : p.tables.exec = Jvm.exec) (hlk : meth.locks = false) {pc : Nat} {Ls : Array Slot} {w : Value} {rest : List Value} {t : FieldType} (hret : meth.sig.returnType = some t) (ht : t.isReference = true) (hw : w.isRef = true) (hd : decode c.code pc = .ok (.areturn, 1)) (hc : cells ≤ kc) (hs : slots ≤ ks)
    (hQ : Q (some w) T.heap locs) : own_Fin p e below s kc ks Q (T.setTop (mkF m pc Ls (w :: rest))) := by
  obtain ⟨fs, hr, hrun, hended, hW, hsame⟩ := X.leave (v := some w) (fun h => by rw [hret] at h; cases h) hlk
  have hn : narrow t w = w := by cases t <;> first | rfl | cases ht
  exact ⟨_, _, retOut X hx hret hn (Or.inr (Or.inr (Or.inr (Or.inr ⟨rfl, ht, hw⟩)))) hd hr, hrun, hended, _, _, rfl, hQ, ⟨_, rfl⟩, hW, hsame.mono hc hs⟩
theorem own_ret0 (X : Stand p l e R s m args below meth c T locs cells slots) (hx : p.tables.exec = Jvm.exec) (hlk : meth.locks = false) {pc : Nat} {Ls : Array Slot} (hret : meth.sig.returnType = none) (hd : decode c.code pc = .ok (.return_, 1)) (hc : cells ≤ kc) (hs : slots ≤ ks)
    (hQ : Q none T.heap locs) : own_Fin p e below s kc ks Q (T.setTop (mkF m pc Ls [])) := by
  obtain ⟨fs, hr, hrun, hended, hW, hsame⟩ := X.leave (v := none) (fun _ => rfl) hlk
  exact ⟨_, _, X.returnOut hx hret hd hr, hrun, hended, _, _, rfl, hQ, ⟨_, rfl⟩, hW, hsame.mono hc hs⟩
end Own
def own_end (k : Int32) : Int32 := if k = 1 then 1 else if k = 2 then 5 else if k = 3 then 13 else if k = 4 then 21 else 0
theorem own_out {i : Int32} (h1 : ¬ i = (1 : Int32)) (h2 : ¬ i = (2 : Int32)) (h3 : ¬ i = (3 : Int32)) (h4 : ¬ i = (4 : Int32)) : i.toInt < 1 ∨ i.toInt > 4 := by
  rw [← Int32.toInt_inj] at h1 h2 h3 h4
  have e1 : (1 : Int32).toInt = 1 := rfl
  have e2 : (2 : Int32).toInt = 2 := rfl
  have e3 : (3 : Int32).toInt = 3 := rfl
  have e4 : (4 : Int32).toInt = 4 := rfl
  omega
theorem d1_0 : decode method_2_code 0 = .ok (.iload_n 0, 1) := by decide +kernel
theorem d1_1 : decode method_2_code 1 = .ok (.iconst 1, 1) := by decide +kernel
theorem d1_2 : decode method_2_code 2 = .ok (.if_icmp .ne 5, 3) := by decide +kernel
theorem d1_5 : decode method_2_code 5 = .ok (.iconst 1, 1) := by decide +kernel
theorem d1_6 : decode method_2_code 6 = .ok (.ireturn, 1) := by decide +kernel
theorem d1_7 : decode method_2_code 7 = .ok (.iload_n 0, 1) := by decide +kernel
theorem d1_8 : decode method_2_code 8 = .ok (.iconst 2, 1) := by decide +kernel
theorem d1_9 : decode method_2_code 9 = .ok (.if_icmp .ne 5, 3) := by decide +kernel
theorem d1_12 : decode method_2_code 12 = .ok (.iconst 5, 1) := by decide +kernel
theorem d1_13 : decode method_2_code 13 = .ok (.ireturn, 1) := by decide +kernel
theorem d1_14 : decode method_2_code 14 = .ok (.iload_n 0, 1) := by decide +kernel
theorem d1_15 : decode method_2_code 15 = .ok (.iconst 3, 1) := by decide +kernel
theorem d1_16 : decode method_2_code 16 = .ok (.if_icmp .ne 6, 3) := by decide +kernel
theorem d1_19 : decode method_2_code 19 = .ok (.bipush 13, 2) := by decide +kernel
theorem d1_21 : decode method_2_code 21 = .ok (.ireturn, 1) := by decide +kernel
theorem d1_22 : decode method_2_code 22 = .ok (.iload_n 0, 1) := by decide +kernel
theorem d1_23 : decode method_2_code 23 = .ok (.iconst 4, 1) := by decide +kernel
theorem d1_24 : decode method_2_code 24 = .ok (.if_icmp .ne 6, 3) := by decide +kernel
theorem d1_27 : decode method_2_code 27 = .ok (.bipush 21, 2) := by decide +kernel
theorem d1_29 : decode method_2_code 29 = .ok (.ireturn, 1) := by decide +kernel
theorem d1_30 : decode method_2_code 30 = .ok (.iconst 0, 1) := by decide +kernel
theorem d1_31 : decode method_2_code 31 = .ok (.ireturn, 1) := by decide +kernel
theorem pn_1 : plainName "com/example/onceward/onceward/log/LogFormatFieldsEndPinLaw" = true := by first | (simp [plainName, overriddenIn]; done) | decide +kernel
theorem ef_1 (m : MethodId) (x0 : Int32) : entryFrame m #[(.int x0)] 1 = mkF m 0 #[.val (.int x0)] [] := by first | (simp [entryFrame, mkF, argsToLocals, Value.category]; done) | rfl
def Q1 (Z : State) (p0 : Int32) (h0 : Heap) (n0 : Nat) (v : Option Value) (h : Heap) (L : List Loc) : Prop := v = some (.int (own_end p0)) ∧ Fr n0 L ∧ h = h0
set_option maxRecDepth 65536 in
set_option maxHeartbeats 40000000 in
theorem rm1 (l : Launch) (Z : State) (a0 : Array Value) (hw : ∀ d ∈ tables_1, d.before a0 Z = true) (ws : List Jvm.Cond) (p0 : Int32) (h0 : Heap) (n0 : Nat) (Z0 : n0 ≤ h0.size) :
    MetFree l (⟨"com/example/onceward/onceward/log/LogFormatFieldsEndPinLaw", "expectedEnd", "(B)I"⟩ : MethodName) (head1 (Jvm.Cond.code (⟨"com/example/onceward/onceward/log/LogFormatFieldsEndPinLaw", "expectedEnd", "(B)I"⟩ : MethodName) method_2_code 1 (some .int) :: ws) ({ frames := 0, cells := 0, slots := 0, locals := 0 } : Room)) (fun a U => a = #[(.int p0)] ∧ Z.Warmed39 U.vm ∧ U.heap = h0) (fun _ _ _ _ _ => True) (fun _ U o U' => ∃ v L, o = .returned v ∧ Q1 Z p0 h0 n0 v U'.heap L ∧ FrameEnd U o U' L ({ frames := 0, cells := 0, slots := 0, locals := 0 } : Room).cells ({ frames := 0, cells := 0, slots := 0, locals := 0 } : Room).slots) := by
  refine MetFree.of_bodySF (plainFor_of_name pn_1) hisR ?_
  intro p e s m args below meth c s₁ Bd hml0 hP hK
  obtain ⟨rfl, hZ, hh⟩ := hP
  have hx := Bd.exec
  have hby := Bd.bytes
  have hml : c.maxLocals = 1 := hml0
  have hown : s.vm.findClass "com/example/onceward/onceward/log/LogFormatFieldsEndPinLaw" = some m.cls := findClass_of_methodNamed Bd.named
  have hnm := (name_of_methodNamed Bd.named Bd.method).1
  have X0 : Stand p l e ({ frames := 0, cells := 0, slots := 0, locals := 0 } : Room) s m #[(.int p0)] below meth c s₁ [] 0 0 := Stand.of_body Bd
  have e0 : s₁.heap = h0 := by rw [← hh, Bd.state]; rfl
  have N0 := Fr.nil n0
  obtain ⟨F, hF⟩ : ∃ F : State → Prop, F = own_Fin p e below s ({ frames := 0, cells := 0, slots := 0, locals := 0 } : Room).cells ({ frames := 0, cells := 0, slots := 0, locals := 0 } : Room).slots (fun v h L => Q1 Z p0 h0 n0 v h L) := ⟨_, rfl⟩
  have bk : ∀ {A B : State}, (∀ t, Steps p.tables e below B t → Steps p.tables e below A t) → F B → F A := by
    intro A B h k
    rw [hF] at k ⊢
    exact own_back h k
  suffices hgo : F (s₁.setTop (mkF m 0 #[.val (.int p0)] [])) by
    have hgo' := bk (fun t k => castTop (T := s₁) (ef_1 m p0) k) hgo
    rw [hF] at hgo'
    exact hgo'
  show F (s₁.setTop (mkF m 0 #[.val (.int p0)] []))
  refine bk (fun t k => XS.iloadN X0.here hx rfl (hb hby d1_0) rfl k) ?_
  show F (s₁.setTop (mkF m 1 #[.val (.int p0)] [(.int p0)]))
  refine bk (fun t k => XS.iconst X0.here hx rfl (hb hby d1_1) k) ?_
  show F (s₁.setTop (mkF m 2 #[.val (.int p0)] [(.int (1 : Int32)), (.int p0)]))
  by_cases hc2_1 : p0 = (1 : Int32)
  · refine bk (fun t k => XS.icmpNo X0.here hx rfl (hb hby d1_2) rfl (teq hc2_1).2 k) ?_
    show F (s₁.setTop (mkF m 5 #[.val (.int p0)] []))
    refine bk (fun t k => XS.iconst X0.here hx rfl (hb hby d1_5) k) ?_
    show F (s₁.setTop (mkF m 6 #[.val (.int p0)] [(.int (1 : Int32))]))
    rw [hF]
    refine own_retI X0 hx Bd.notSynchronized Bd.returns (hb hby d1_6) (by decide) (by decide) ?_
    rw [e0]
    refine ⟨?_, N0, rfl⟩
    show some (Value.int (1 : Int32)) = some (Value.int (own_end p0))
    simp [own_end, hc2_1]
  · refine bk (fun t k => XS.icmpYes X0.here hx rfl (pc0 := 2) (pc' := 7) rfl (hb hby d1_2) rfl (feq hc2_1).2 (by decide) (by decide) k) ?_
    show F (s₁.setTop (mkF m 7 #[.val (.int p0)] []))
    refine bk (fun t k => XS.iloadN X0.here hx rfl (hb hby d1_7) rfl k) ?_
    show F (s₁.setTop (mkF m 8 #[.val (.int p0)] [(.int p0)]))
    refine bk (fun t k => XS.iconst X0.here hx rfl (hb hby d1_8) k) ?_
    show F (s₁.setTop (mkF m 9 #[.val (.int p0)] [(.int (2 : Int32)), (.int p0)]))
    by_cases hc9_2 : p0 = (2 : Int32)
    · refine bk (fun t k => XS.icmpNo X0.here hx rfl (hb hby d1_9) rfl (teq hc9_2).2 k) ?_
      show F (s₁.setTop (mkF m 12 #[.val (.int p0)] []))
      refine bk (fun t k => XS.iconst X0.here hx rfl (hb hby d1_12) k) ?_
      show F (s₁.setTop (mkF m 13 #[.val (.int p0)] [(.int (5 : Int32))]))
      rw [hF]
      refine own_retI X0 hx Bd.notSynchronized Bd.returns (hb hby d1_13) (by decide) (by decide) ?_
      rw [e0]
      refine ⟨?_, N0, rfl⟩
      show some (Value.int (5 : Int32)) = some (Value.int (own_end p0))
      simp [own_end, hc2_1, hc9_2]
    · refine bk (fun t k => XS.icmpYes X0.here hx rfl (pc0 := 9) (pc' := 14) rfl (hb hby d1_9) rfl (feq hc9_2).2 (by decide) (by decide) k) ?_
      show F (s₁.setTop (mkF m 14 #[.val (.int p0)] []))
      refine bk (fun t k => XS.iloadN X0.here hx rfl (hb hby d1_14) rfl k) ?_
      show F (s₁.setTop (mkF m 15 #[.val (.int p0)] [(.int p0)]))
      refine bk (fun t k => XS.iconst X0.here hx rfl (hb hby d1_15) k) ?_
      show F (s₁.setTop (mkF m 16 #[.val (.int p0)] [(.int (3 : Int32)), (.int p0)]))
      by_cases hc16_3 : p0 = (3 : Int32)
      · refine bk (fun t k => XS.icmpNo X0.here hx rfl (hb hby d1_16) rfl (teq hc16_3).2 k) ?_
        show F (s₁.setTop (mkF m 19 #[.val (.int p0)] []))
        refine bk (fun t k => XS.bipush X0.here hx rfl (hb hby d1_19) k) ?_
        show F (s₁.setTop (mkF m 21 #[.val (.int p0)] [(.int (13 : Int32))]))
        rw [hF]
        refine own_retI X0 hx Bd.notSynchronized Bd.returns (hb hby d1_21) (by decide) (by decide) ?_
        rw [e0]
        refine ⟨?_, N0, rfl⟩
        show some (Value.int (13 : Int32)) = some (Value.int (own_end p0))
        simp [own_end, hc2_1, hc9_2, hc16_3]
      · refine bk (fun t k => XS.icmpYes X0.here hx rfl (pc0 := 16) (pc' := 22) rfl (hb hby d1_16) rfl (feq hc16_3).2 (by decide) (by decide) k) ?_
        show F (s₁.setTop (mkF m 22 #[.val (.int p0)] []))
        refine bk (fun t k => XS.iloadN X0.here hx rfl (hb hby d1_22) rfl k) ?_
        show F (s₁.setTop (mkF m 23 #[.val (.int p0)] [(.int p0)]))
        refine bk (fun t k => XS.iconst X0.here hx rfl (hb hby d1_23) k) ?_
        show F (s₁.setTop (mkF m 24 #[.val (.int p0)] [(.int (4 : Int32)), (.int p0)]))
        by_cases hc24_4 : p0 = (4 : Int32)
        · refine bk (fun t k => XS.icmpNo X0.here hx rfl (hb hby d1_24) rfl (teq hc24_4).2 k) ?_
          show F (s₁.setTop (mkF m 27 #[.val (.int p0)] []))
          refine bk (fun t k => XS.bipush X0.here hx rfl (hb hby d1_27) k) ?_
          show F (s₁.setTop (mkF m 29 #[.val (.int p0)] [(.int (21 : Int32))]))
          rw [hF]
          refine own_retI X0 hx Bd.notSynchronized Bd.returns (hb hby d1_29) (by decide) (by decide) ?_
          rw [e0]
          refine ⟨?_, N0, rfl⟩
          show some (Value.int (21 : Int32)) = some (Value.int (own_end p0))
          simp [own_end, hc2_1, hc9_2, hc16_3, hc24_4]
        · refine bk (fun t k => XS.icmpYes X0.here hx rfl (pc0 := 24) (pc' := 30) rfl (hb hby d1_24) rfl (feq hc24_4).2 (by decide) (by decide) k) ?_
          show F (s₁.setTop (mkF m 30 #[.val (.int p0)] []))
          refine bk (fun t k => XS.iconst X0.here hx rfl (hb hby d1_30) k) ?_
          show F (s₁.setTop (mkF m 31 #[.val (.int p0)] [(.int (0 : Int32))]))
          rw [hF]
          refine own_retI X0 hx Bd.notSynchronized Bd.returns (hb hby d1_31) (by decide) (by decide) ?_
          rw [e0]
          refine ⟨?_, N0, rfl⟩
          show some (Value.int (0 : Int32)) = some (Value.int (own_end p0))
          simp [own_end, hc2_1, hc9_2, hc16_3, hc24_4]
theorem d2_0 : decode prog_67_method_14_code 0 = .ok (.iload_n 0, 1) := by decide +kernel
theorem d2_1 : decode prog_67_method_14_code 1 = .ok (.tableswitch 49 1 4 #[31, 35, 39, 44], 31) := by decide +kernel
theorem d2_32 : decode prog_67_method_14_code 32 = .ok (.iconst 1, 1) := by decide +kernel
theorem d2_33 : decode prog_67_method_14_code 33 = .ok (.goto 18, 3) := by decide +kernel
theorem d2_36 : decode prog_67_method_14_code 36 = .ok (.iconst 5, 1) := by decide +kernel
theorem d2_37 : decode prog_67_method_14_code 37 = .ok (.goto 14, 3) := by decide +kernel
theorem d2_40 : decode prog_67_method_14_code 40 = .ok (.bipush 13, 2) := by decide +kernel
theorem d2_42 : decode prog_67_method_14_code 42 = .ok (.goto 9, 3) := by decide +kernel
theorem d2_45 : decode prog_67_method_14_code 45 = .ok (.bipush 21, 2) := by decide +kernel
theorem d2_47 : decode prog_67_method_14_code 47 = .ok (.goto 4, 3) := by decide +kernel
theorem d2_50 : decode prog_67_method_14_code 50 = .ok (.iconst 0, 1) := by decide +kernel
theorem d2_51 : decode prog_67_method_14_code 51 = .ok (.ireturn, 1) := by decide +kernel
theorem pn_2 : plainName "com/example/onceward/onceward/log/LogFormat" = true := by first | (simp [plainName, overriddenIn]; done) | decide +kernel
theorem ef_2 (m : MethodId) (x0 : Int32) : entryFrame m #[(.int x0)] 1 = mkF m 0 #[.val (.int x0)] [] := by first | (simp [entryFrame, mkF, argsToLocals, Value.category]; done) | rfl
def Q2 (Z : State) (p0 : Int32) (h0 : Heap) (n0 : Nat) (v : Option Value) (h : Heap) (L : List Loc) : Prop := v = some (.int (own_end p0)) ∧ Fr n0 L ∧ h = h0
set_option maxRecDepth 65536 in
set_option maxHeartbeats 40000000 in
theorem rm2 (l : Launch) (Z : State) (a0 : Array Value) (hw : ∀ d ∈ tables_1, d.before a0 Z = true) (ws : List Jvm.Cond) (p0 : Int32) (h0 : Heap) (n0 : Nat) (Z0 : n0 ≤ h0.size) :
    MetFree l (⟨"com/example/onceward/onceward/log/LogFormat", "fieldsEnd", "(B)I"⟩ : MethodName) (head1 (Jvm.Cond.code (⟨"com/example/onceward/onceward/log/LogFormat", "fieldsEnd", "(B)I"⟩ : MethodName) prog_67_method_14_code 1 (some .int) :: ws) ({ frames := 0, cells := 0, slots := 0, locals := 0 } : Room)) (fun a U => a = #[(.int p0)] ∧ Z.Warmed39 U.vm ∧ U.heap = h0) (fun _ _ _ _ _ => True) (fun _ U o U' => ∃ v L, o = .returned v ∧ Q2 Z p0 h0 n0 v U'.heap L ∧ FrameEnd U o U' L ({ frames := 0, cells := 0, slots := 0, locals := 0 } : Room).cells ({ frames := 0, cells := 0, slots := 0, locals := 0 } : Room).slots) := by
  refine MetFree.of_bodySF (plainFor_of_name pn_2) hisR ?_
  intro p e s m args below meth c s₁ Bd hml0 hP hK
  obtain ⟨rfl, hZ, hh⟩ := hP
  have hx := Bd.exec
  have hby := Bd.bytes
  have hml : c.maxLocals = 1 := hml0
  have hown : s.vm.findClass "com/example/onceward/onceward/log/LogFormat" = some m.cls := findClass_of_methodNamed Bd.named
  have hnm := (name_of_methodNamed Bd.named Bd.method).1
  have X0 : Stand p l e ({ frames := 0, cells := 0, slots := 0, locals := 0 } : Room) s m #[(.int p0)] below meth c s₁ [] 0 0 := Stand.of_body Bd
  have e0 : s₁.heap = h0 := by rw [← hh, Bd.state]; rfl
  have N0 := Fr.nil n0
  obtain ⟨F, hF⟩ : ∃ F : State → Prop, F = own_Fin p e below s ({ frames := 0, cells := 0, slots := 0, locals := 0 } : Room).cells ({ frames := 0, cells := 0, slots := 0, locals := 0 } : Room).slots (fun v h L => Q2 Z p0 h0 n0 v h L) := ⟨_, rfl⟩
  have bk : ∀ {A B : State}, (∀ t, Steps p.tables e below B t → Steps p.tables e below A t) → F B → F A := by
    intro A B h k
    rw [hF] at k ⊢
    exact own_back h k
  suffices hgo : F (s₁.setTop (mkF m 0 #[.val (.int p0)] [])) by
    have hgo' := bk (fun t k => castTop (T := s₁) (ef_2 m p0) k) hgo
    rw [hF] at hgo'
    exact hgo'
  show F (s₁.setTop (mkF m 0 #[.val (.int p0)] []))
  refine bk (fun t k => XS.iloadN X0.here hx rfl (hb hby d2_0) rfl k) ?_
  show F (s₁.setTop (mkF m 1 #[.val (.int p0)] [(.int p0)]))
  by_cases hs1_1 : p0 = (1 : Int32)
  · refine bk (fun t k => XS.tswIn X0.here hx rfl (pc0 := 1) (pc' := 32) rfl (hb hby d2_1) rfl (by rw [hs1_1]; decide) (o := 31) (by rw [hs1_1]; rfl) (by decide) (by decide) k) ?_
    show F (s₁.setTop (mkF m 32 #[.val (.int p0)] []))
    refine bk (fun t k => XS.iconst X0.here hx rfl (hb hby d2_32) k) ?_
    show F (s₁.setTop (mkF m 33 #[.val (.int p0)] [(.int (1 : Int32))]))
    refine bk (fun t k => XS.goto X0.here hx rfl (pc0 := 33) (pc' := 51) rfl (hb hby d2_33) (by decide) (by decide) k) ?_
    show F (s₁.setTop (mkF m 51 #[.val (.int p0)] [(.int (1 : Int32))]))
    rw [hF]
    refine own_retI X0 hx Bd.notSynchronized Bd.returns (hb hby d2_51) (by decide) (by decide) ?_
    rw [e0]
    refine ⟨?_, N0, rfl⟩
    show some (Value.int (1 : Int32)) = some (Value.int (own_end p0))
    simp [own_end, hs1_1]
  by_cases hs1_2 : p0 = (2 : Int32)
  · refine bk (fun t k => XS.tswIn X0.here hx rfl (pc0 := 1) (pc' := 36) rfl (hb hby d2_1) rfl (by rw [hs1_2]; decide) (o := 35) (by rw [hs1_2]; rfl) (by decide) (by decide) k) ?_
    show F (s₁.setTop (mkF m 36 #[.val (.int p0)] []))
    refine bk (fun t k => XS.iconst X0.here hx rfl (hb hby d2_36) k) ?_
    show F (s₁.setTop (mkF m 37 #[.val (.int p0)] [(.int (5 : Int32))]))
    refine bk (fun t k => XS.goto X0.here hx rfl (pc0 := 37) (pc' := 51) rfl (hb hby d2_37) (by decide) (by decide) k) ?_
    show F (s₁.setTop (mkF m 51 #[.val (.int p0)] [(.int (5 : Int32))]))
    rw [hF]
    refine own_retI X0 hx Bd.notSynchronized Bd.returns (hb hby d2_51) (by decide) (by decide) ?_
    rw [e0]
    refine ⟨?_, N0, rfl⟩
    show some (Value.int (5 : Int32)) = some (Value.int (own_end p0))
    simp [own_end, hs1_1, hs1_2]
  by_cases hs1_3 : p0 = (3 : Int32)
  · refine bk (fun t k => XS.tswIn X0.here hx rfl (pc0 := 1) (pc' := 40) rfl (hb hby d2_1) rfl (by rw [hs1_3]; decide) (o := 39) (by rw [hs1_3]; rfl) (by decide) (by decide) k) ?_
    show F (s₁.setTop (mkF m 40 #[.val (.int p0)] []))
    refine bk (fun t k => XS.bipush X0.here hx rfl (hb hby d2_40) k) ?_
    show F (s₁.setTop (mkF m 42 #[.val (.int p0)] [(.int (13 : Int32))]))
    refine bk (fun t k => XS.goto X0.here hx rfl (pc0 := 42) (pc' := 51) rfl (hb hby d2_42) (by decide) (by decide) k) ?_
    show F (s₁.setTop (mkF m 51 #[.val (.int p0)] [(.int (13 : Int32))]))
    rw [hF]
    refine own_retI X0 hx Bd.notSynchronized Bd.returns (hb hby d2_51) (by decide) (by decide) ?_
    rw [e0]
    refine ⟨?_, N0, rfl⟩
    show some (Value.int (13 : Int32)) = some (Value.int (own_end p0))
    simp [own_end, hs1_1, hs1_2, hs1_3]
  by_cases hs1_4 : p0 = (4 : Int32)
  · refine bk (fun t k => XS.tswIn X0.here hx rfl (pc0 := 1) (pc' := 45) rfl (hb hby d2_1) rfl (by rw [hs1_4]; decide) (o := 44) (by rw [hs1_4]; rfl) (by decide) (by decide) k) ?_
    show F (s₁.setTop (mkF m 45 #[.val (.int p0)] []))
    refine bk (fun t k => XS.bipush X0.here hx rfl (hb hby d2_45) k) ?_
    show F (s₁.setTop (mkF m 47 #[.val (.int p0)] [(.int (21 : Int32))]))
    refine bk (fun t k => XS.goto X0.here hx rfl (pc0 := 47) (pc' := 51) rfl (hb hby d2_47) (by decide) (by decide) k) ?_
    show F (s₁.setTop (mkF m 51 #[.val (.int p0)] [(.int (21 : Int32))]))
    rw [hF]
    refine own_retI X0 hx Bd.notSynchronized Bd.returns (hb hby d2_51) (by decide) (by decide) ?_
    rw [e0]
    refine ⟨?_, N0, rfl⟩
    show some (Value.int (21 : Int32)) = some (Value.int (own_end p0))
    simp [own_end, hs1_1, hs1_2, hs1_3, hs1_4]
  have hout : p0.toInt < 1 ∨ p0.toInt > 4 := own_out hs1_1 hs1_2 hs1_3 hs1_4
  refine bk (fun t k => XS.tswOut X0.here hx rfl (pc0 := 1) (pc' := 50) rfl (hb hby d2_1) rfl hout (by decide) (by decide) k) ?_
  show F (s₁.setTop (mkF m 50 #[.val (.int p0)] []))
  refine bk (fun t k => XS.iconst X0.here hx rfl (hb hby d2_50) k) ?_
  show F (s₁.setTop (mkF m 51 #[.val (.int p0)] [(.int (0 : Int32))]))
  rw [hF]
  refine own_retI X0 hx Bd.notSynchronized Bd.returns (hb hby d2_51) (by decide) (by decide) ?_
  rw [e0]
  refine ⟨?_, N0, rfl⟩
  show some (Value.int (0 : Int32)) = some (Value.int (own_end p0))
  simp [own_end, hs1_1, hs1_2, hs1_3, hs1_4]
theorem pd0__B_I : parseMethodDescriptor "(B)I" = some ⟨[.byte], some .int⟩ := by decide +kernel
theorem pn_0 : plainName "com/example/onceward/onceward/log/LogFormatFieldsEndPinLaw" = true := by first | (simp [plainName, overriddenIn]; done) | decide +kernel
theorem ef_0 (m : MethodId) (x0 : Int32) : entryFrame m #[(.int x0)] maxLocals = mkF m 0 #[.val (.int x0), .unset, .unset] [] := by first | (simp [entryFrame, mkF, argsToLocals, Value.category, maxLocals]; done) | rfl
def Q0 (Z : State) (p0 : Int32) (h0 : Heap) (n0 : Nat) (v : Option Value) (h : Heap) (L : List Loc) : Prop := v = some (.int (1 : Int32)) ∧ Fr n0 L
set_option maxRecDepth 65536 in
set_option maxHeartbeats 40000000 in
theorem rm0 (l : Launch) (Z : State) (a0 : Array Value) (hw : ∀ d ∈ tables_1, d.before a0 Z = true) (ws : List Jvm.Cond) (p0 : Int32) (h0 : Heap) (n0 : Nat) (Z0 : n0 ≤ h0.size) :
    MetFree l x (head1 (Jvm.Cond.code x code maxLocals ret :: ws) room_1) (fun a U => a = #[(.int p0)] ∧ Z.Warmed39 U.vm ∧ U.heap = h0) (fun _ _ _ _ _ => True) (fun _ U o U' => ∃ v L, o = .returned v ∧ Q0 Z p0 h0 n0 v U'.heap L ∧ FrameEnd U o U' L room_1.cells room_1.slots) := by
  refine MetFree.of_bodySF (plainFor_of_name pn_0) hisR ?_
  intro p e s m args below meth c s₁ Bd hml0 hP hK
  obtain ⟨rfl, hZ, hh⟩ := hP
  have hx := Bd.exec
  have hby := Bd.bytes
  have hml : c.maxLocals = 3 := hml0
  have hown : s.vm.findClass "com/example/onceward/onceward/log/LogFormatFieldsEndPinLaw" = some m.cls := findClass_of_methodNamed Bd.named
  have hnm := (name_of_methodNamed Bd.named Bd.method).1
  have X0 : Stand p l e room_1 s m #[(.int p0)] below meth c s₁ [] 0 0 := Stand.of_body Bd
  have e0 : s₁.heap = h0 := by rw [← hh, Bd.state]; rfl
  have N0 := Fr.nil n0
  obtain ⟨F, hF⟩ : ∃ F : State → Prop, F = own_Fin p e below s room_1.cells room_1.slots (fun v h L => Q0 Z p0 h0 n0 v h L) := ⟨_, rfl⟩
  have bk : ∀ {A B : State}, (∀ t, Steps p.tables e below B t → Steps p.tables e below A t) → F B → F A := by
    intro A B h k
    rw [hF] at k ⊢
    exact own_back h k
  suffices hgo : F (s₁.setTop (mkF m 0 #[.val (.int p0), .unset, .unset] [])) by
    have hgo' := bk (fun t k => castTop (T := s₁) (ef_0 m p0) k) hgo
    rw [hF] at hgo'
    exact hgo'
  show F (s₁.setTop (mkF m 0 #[.val (.int p0), .unset, .unset] []))
  refine bk (fun t k => XS.iloadN X0.here hx rfl (hb hby at_0) rfl k) ?_
  show F (s₁.setTop (mkF m 1 #[.val (.int p0), .unset, .unset] [(.int p0)]))
  refine bk (fun t k => XS.i2b X0.here hx rfl (hb hby at_1) rfl k) ?_
  show F (s₁.setTop (mkF m 2 #[.val (.int p0), .unset, .unset] [(.int (p0.toInt8.toInt32))]))
  refine bk (fun t k => XS.istoreN X0.here hx rfl (hb hby at_2) rfl (l' := #[.val (.int p0), .val (.int (p0.toInt8.toInt32)), .unset]) rfl k) ?_
  show F (s₁.setTop (mkF m 3 #[.val (.int p0), .val (.int (p0.toInt8.toInt32)), .unset] []))
  refine bk (fun t k => XS.iloadN X0.here hx rfl (hb hby at_3) rfl k) ?_
  show F (s₁.setTop (mkF m 4 #[.val (.int p0), .val (.int (p0.toInt8.toInt32)), .unset] [(.int (p0.toInt8.toInt32))]))
  obtain ⟨_, _, ⟨T1, L1, k1, n1⟩, -, X1, ⟨Lc1, hQ1, l1, y1, z1⟩, st1⟩ := Jvm.LawKit.callS X0 hx (y := (⟨"com/example/onceward/onceward/log/LogFormatFieldsEndPinLaw", "expectedEnd", "(B)I"⟩ : MethodName)) hown (mvT hZ (hw _ (List.mem_of_getElem? (i := 0) rfl))) (mvT hZ (hw _ (List.mem_of_getElem? (i := 1) rfl))) (mvT hZ (hw _ (List.mem_of_getElem? (i := 2) rfl))) (mvT hZ (hw _ (List.mem_of_getElem? (i := 3) rfl))) (by decide) (backOf (W := 0) (rm1 l Z a0 hw [] (p0.toInt8.toInt32) h0 n0 Z0) hZ (hw _ (List.mem_of_getElem? (i := 3) rfl)) (hw _ (List.mem_of_getElem? (i := 2) rfl)) (by decide) (by decide)) (g := (mkF m 4 #[.val (.int p0), .val (.int (p0.toInt8.toInt32)), .unset] [(.int (p0.toInt8.toInt32))])) rfl (by rw [hml]; rfl) (argsL := [(.int (p0.toInt8.toInt32))]) (rest := []) (lenOf pd0__B_I rfl) rfl (by show 2 * 0 + _ ≤ _; exact Nat.le_of_eq rfl) (hb hby at_4) (fun _ _ => ⟨rfl, e0, (by decide : 0 + 0 ≤ _), (by decide : 0 + 0 ≤ _)⟩)
  dsimp only [Pt.U, Pt.locs, Pt.cells, Pt.slots] at X1 l1 y1 z1 st1 hQ1
  subst l1 y1 z1
  obtain ⟨rfl, N1q, e1⟩ := hQ1
  have N1 := Fr.app N0 N1q
  refine bk (fun t k => st1 t k) ?_
  show F (T1.setTop (mkF m 7 #[.val (.int p0), .val (.int (p0.toInt8.toInt32)), .unset] [(.int (own_end (p0.toInt8.toInt32)))]))
  refine bk (fun t k => XS.istoreN X1.here hx rfl (hb hby at_7) rfl (l' := #[.val (.int p0), .val (.int (p0.toInt8.toInt32)), .val (.int (own_end (p0.toInt8.toInt32)))]) rfl k) ?_
  show F (T1.setTop (mkF m 8 #[.val (.int p0), .val (.int (p0.toInt8.toInt32)), .val (.int (own_end (p0.toInt8.toInt32)))] []))
  refine bk (fun t k => XS.iloadN X1.here hx rfl (hb hby at_8) rfl k) ?_
  show F (T1.setTop (mkF m 9 #[.val (.int p0), .val (.int (p0.toInt8.toInt32)), .val (.int (own_end (p0.toInt8.toInt32)))] [(.int (p0.toInt8.toInt32))]))
  obtain ⟨_, _, ⟨T2, L2, k2, n2⟩, -, X2, ⟨Lc2, hQ2, l2, y2, z2⟩, st2⟩ := Jvm.LawKit.callS X1 hx (y := (⟨"com/example/onceward/onceward/log/LogFormat", "fieldsEnd", "(B)I"⟩ : MethodName)) hown (mvT hZ (hw _ (List.mem_of_getElem? (i := 4) rfl))) (mvT hZ (hw _ (List.mem_of_getElem? (i := 5) rfl))) (mvT hZ (hw _ (List.mem_of_getElem? (i := 6) rfl))) (mvT hZ (hw _ (List.mem_of_getElem? (i := 7) rfl))) (by decide) (backOf (W := 0) (rm2 l Z a0 hw [] (p0.toInt8.toInt32) h0 n0 Z0) hZ (hw _ (List.mem_of_getElem? (i := 7) rfl)) (hw _ (List.mem_of_getElem? (i := 6) rfl)) (by decide) (by decide)) (g := (mkF m 9 #[.val (.int p0), .val (.int (p0.toInt8.toInt32)), .val (.int (own_end (p0.toInt8.toInt32)))] [(.int (p0.toInt8.toInt32))])) rfl (by rw [hml]; rfl) (argsL := [(.int (p0.toInt8.toInt32))]) (rest := []) (lenOf pd0__B_I rfl) rfl (by show 2 * 0 + _ ≤ _; exact Nat.le_of_eq rfl) (hb hby at_9) (fun _ _ => ⟨rfl, e1, (by decide : 0 + 0 ≤ _), (by decide : 0 + 0 ≤ _)⟩)
  dsimp only [Pt.U, Pt.locs, Pt.cells, Pt.slots] at X2 l2 y2 z2 st2 hQ2
  subst l2 y2 z2
  obtain ⟨rfl, N2q, e2⟩ := hQ2
  have N2 := Fr.app N1 N2q
  refine bk (fun t k => st2 t k) ?_
  show F (T2.setTop (mkF m 12 #[.val (.int p0), .val (.int (p0.toInt8.toInt32)), .val (.int (own_end (p0.toInt8.toInt32)))] [(.int (own_end (p0.toInt8.toInt32)))]))
  refine bk (fun t k => XS.iloadN X2.here hx rfl (hb hby at_12) rfl k) ?_
  show F (T2.setTop (mkF m 13 #[.val (.int p0), .val (.int (p0.toInt8.toInt32)), .val (.int (own_end (p0.toInt8.toInt32)))] [(.int (own_end (p0.toInt8.toInt32))), (.int (own_end (p0.toInt8.toInt32)))]))
  refine bk (fun t k => XS.icmpNo X2.here hx rfl (hb hby at_13) rfl (teq (rfl : (own_end (p0.toInt8.toInt32)) = (own_end (p0.toInt8.toInt32)))).2 k) ?_
  show F (T2.setTop (mkF m 16 #[.val (.int p0), .val (.int (p0.toInt8.toInt32)), .val (.int (own_end (p0.toInt8.toInt32)))] []))
  refine bk (fun t k => XS.iconst X2.here hx rfl (hb hby at_16) k) ?_
  show F (T2.setTop (mkF m 17 #[.val (.int p0), .val (.int (p0.toInt8.toInt32)), .val (.int (own_end (p0.toInt8.toInt32)))] [(.int (1 : Int32))]))
  refine bk (fun t k => XS.goto X2.here hx rfl (pc0 := 17) (pc' := 21) rfl (hb hby at_17) (by decide) (by decide) k) ?_
  show F (T2.setTop (mkF m 21 #[.val (.int p0), .val (.int (p0.toInt8.toInt32)), .val (.int (own_end (p0.toInt8.toInt32)))] [(.int (1 : Int32))]))
  rw [hF]
  refine own_retZ X2 hx Bd.notSynchronized Bd.returns (hb hby at_21) (by decide) (by decide) ?_
  rw [e2]
  exact ⟨rfl, N2⟩
set_option maxRecDepth 65536 in
set_option maxHeartbeats 40000000 in
theorem comes_1 {Post : Tables → Env → Array Value → State → Outcome → State → Prop} (hpost : ∀ tb e args s v u, (limb_1_1.after args s (.returned v) u = true ∧ limb_1_2.after args s (.returned v) u = true ∧ True) → FrameEnd s (.returned v) u (Jvm.fieldLocs frame_1_writes args s ++ Jvm.arrayLocs frame_1_arrays args s ++ Jvm.staticLocs frame_1_statics s) 0 0 → Post tb e args s (.returned v) u) :
    ArmFor flags0 classFile x code maxLocals ret World_1 tables_1 room_1 Calls_1 rest_1 Pre_1 Post := by
  intro l hfl _ _ p e ha hc hk s m args below hf hA hF happ hP
  obtain ⟨hcalls, hrest, hpre⟩ := hP
  obtain ⟨-, -, -, hnamed, -, -, -, hat⟩ := (Spec.applies_iff hf).mp happ
  obtain ⟨hg, hn⟩ := and_e (Cond.before_iff.mp (show (Jvm.Cond.and given_1 narrow_1).before args s = true from hpre))
  obtain ⟨hcount, hk0⟩ := and_e hg
  have hi0 := hk0
  obtain ⟨w0, rfl⟩ : ∃ w0 : Value, args = #[w0] := by
    have hs : args.size = 1 := by simpa [Cond.value, given_1] using hcount
    obtain ⟨L⟩ := args
    match L, hs with
    | [w0], _ => exact ⟨w0, rfl⟩
  have hw := fun d (hd : d ∈ tables_1) => atoms_spec (ws := Jvm.Cond.code x code maxLocals ret :: tables_1) hat d (List.mem_cons_of_mem _ hd)
  obtain ⟨i0, ei0⟩ := is_v hi0
  obtain rfl : w0 = (.int i0) := Option.some.inj ei0
  obtain ⟨n, o, h1, h2, h3, _, L, rfl, ⟨rfl, N⟩, hq⟩ := rm0 l s _ hw tables_1 i0  s.heap s.heap.size (Nat.le_refl _)  p e ha hc hk s m _ below hf ((Spec.applies_iff_loose hf).mp happ).1 ⟨rfl, State.Warmed39.refl s, rfl⟩ trivial
  refine ⟨n, _, h1, h2, h3, hpost _ _ _ _ _ _ ⟨Cond.after_iff.mpr rfl, Cond.after_iff.mpr (eq_i res_at (Term.int_eval (1)) rfl), trivial⟩ ⟨hq.1, hq.2.1, (hq.2.2.sift fun y hy => Or.inr (N y hy)).mono (by decide) (by decide)⟩⟩
theorem main_1_1 : Claimed_1_1 := comes_1 fun _ _ _ _ _ _ h hF => ⟨h.1, hF⟩
theorem main_1_2 : Claimed_1_2 := comes_1 fun _ _ _ _ _ _ h hF => ⟨h.2.1, hF⟩
end Jvm.Pilot.@@N@@
namespace Jvm.Pilot.@@N@@
open Jvm Jvm.ClassFile Sem Op Lib Jvm.Free Jvm.Stand Jvm.Pilot.@@N@@.Jvm.D
/-! MADE BY PROGRAM (witnessworld.py) out of the Statement's table words and the real class files: 12 classes; the members and pool entries that the words name. The judged class is class 1, her method 0. -/
namespace start1
open Jvm.ClassFile
def u (s : String) : CpInfo := .utf8 (stringToUtf16 s)
/-- a pool by its gaps: so many unusable entries, then the entry; so many at the end -/
def gap : Nat → List CpInfo → List CpInfo
  | 0, r => r
  | n + 1, r => .unusable :: gap n r
def poolList (es : List (Nat × CpInfo)) (last : Nat) : List CpInfo := es.foldr (fun e r => gap e.1 (e.2 :: r)) (gap last [])
def pool (es : List (Nat × CpInfo)) (last : Nat) : Array CpInfo := ⟨poolList es last⟩
def fileOf (pool : Array CpInfo) (this : Nat) (attrs : Array Attribute := #[]) (ms : Array MethodInfo := #[]) (fl : Nat := 33) (sup : Nat := 0) (ifs : Array Nat := #[]) (fds : Array FieldInfo := #[]) : ClassFile where
  minorVersion := 0
  majorVersion := 65
  constantPool := pool
  accessFlags := fl
  thisClass := this
  superClass := sup
  interfaces := ifs
  fields := fds
  methods := ms
  attributes := attrs
def plain (name : String) (sup : Option ClassId) : Class where
  name := name
  kind := .ordinary
  loader := none
  accessFlags := 33
  super := sup
  interfaces := #[]
  cf := none
  fields := #[]
  methods := #[]
  instanceTypes := #[]
  staticTypes := #[]
  resolved := #[]
  callSites := []
  init := .initialized
  statics := none
  mirror := none

def pool0 : Array CpInfo := pool [(5, u "<init>"), (0, u "()V"), (1, .class_ 10), (1, u "java/lang/Object")] 113

def k0m0 : Method := { name := "<init>", desc := "()V", sig := { parameters := [], returnType := none }, accessFlags := 1, code := none }
/-- java/lang/Object -/
def k0 : Class := { plain "java/lang/Object" none with
  accessFlags := 33
  interfaces := #[]
  cf := some (fileOf pool0 8 #[] #[{ accessFlags := 1, nameIndex := 5, descriptorIndex := 6, attributes := #[] }] 33 0 #[] #[])
  fields := #[]
  methods := #[k0m0]
  instanceTypes := #[]
  staticTypes := #[]
  resolved := Array.replicate 124 none
  statics := none }

def pool1 : Array CpInfo := pool [(1, .methodref 2 3), (0, .class_ 4), (0, .nameAndType 5 6), (0, u "com/example/onceward/onceward/log/LogFormatFieldsEndPinLaw"), (0, u "expectedEnd"), (0, u "(B)I"), (0, .methodref 8 9), (0, .class_ 10), (0, .nameAndType 11 6), (0, u "com/example/onceward/onceward/log/LogFormat"), (0, u "fieldsEnd"), (1, .class_ 15), (1, u "java/lang/Object"), (0, u "<init>"), (0, u "()V"), (0, u "law"), (0, u "(I)Z")] 5

def k1c0 : Code := { maxStack := 2, maxLocals := 3, code := code, exceptionTable := #[], attributes := #[] }
def k1m0 : Method := { name := "law", desc := "(I)Z", sig := { parameters := [.int], returnType := some .boolean }, accessFlags := 9, code := some k1c0 }
def k1c1 : Code := { maxStack := 2, maxLocals := 1, code := method_2_code, exceptionTable := #[], attributes := #[] }
def k1m1 : Method := { name := "expectedEnd", desc := "(B)I", sig := { parameters := [.byte], returnType := some .int }, accessFlags := 10, code := some k1c1 }
def k1m2 : Method := { name := "<init>", desc := "()V", sig := { parameters := [], returnType := none }, accessFlags := 2, code := none }
/-- com/example/onceward/onceward/log/LogFormatFieldsEndPinLaw -/
def k1 : Class := { plain "com/example/onceward/onceward/log/LogFormatFieldsEndPinLaw" (some 0) with
  accessFlags := 49
  interfaces := #[]
  cf := some (fileOf pool1 2 #[] #[{ accessFlags := 9, nameIndex := 18, descriptorIndex := 19, attributes := #[] }, { accessFlags := 10, nameIndex := 5, descriptorIndex := 6, attributes := #[] }, { accessFlags := 2, nameIndex := 16, descriptorIndex := 17, attributes := #[] }] 49 13 #[] #[])
  fields := #[]
  methods := #[k1m0, k1m1, k1m2]
  instanceTypes := #[]
  staticTypes := #[]
  resolved := Array.replicate 25 none
  statics := none }

def pool2 : Array CpInfo := pool [(1, .class_ 2), (0, u "java/lang/constant/Constable"), (0, .class_ 4), (0, u "java/lang/Object")] 6

/-- java/lang/constant/Constable -/
def k2 : Class := { plain "java/lang/constant/Constable" (some 0) with
  accessFlags := 1537
  interfaces := #[]
  cf := some (fileOf pool2 1 #[] #[] 1537 3 #[] #[])
  fields := #[]
  methods := #[]
  instanceTypes := #[]
  staticTypes := #[]
  resolved := Array.replicate 11 none
  statics := none }

def pool3 : Array CpInfo := pool [(1, .class_ 2), (0, u "java/lang/Comparable"), (0, .class_ 4), (0, u "java/lang/Object")] 7

/-- java/lang/Comparable -/
def k3 : Class := { plain "java/lang/Comparable" (some 0) with
  accessFlags := 1537
  interfaces := #[]
  cf := some (fileOf pool3 1 #[] #[] 1537 3 #[] #[])
  fields := #[]
  methods := #[]
  instanceTypes := #[]
  staticTypes := #[]
  resolved := Array.replicate 12 none
  statics := none }

def pool4 : Array CpInfo := pool [(1, .class_ 2), (0, u "java/io/Serializable"), (0, .class_ 4), (0, u "java/lang/Object")] 2

/-- java/io/Serializable -/
def k4 : Class := { plain "java/io/Serializable" (some 0) with
  accessFlags := 1537
  interfaces := #[]
  cf := some (fileOf pool4 1 #[] #[] 1537 3 #[] #[])
  fields := #[]
  methods := #[]
  instanceTypes := #[]
  staticTypes := #[]
  resolved := Array.replicate 7 none
  statics := none }

def pool5 : Array CpInfo := pool [(2, .class_ 4), (1, u "java/lang/Enum"), (0, u "name"), (0, u "Ljava/lang/String;"), (2, u "ordinal"), (0, u "I"), (1, .class_ 14), (1, u "java/lang/Object"), (4, u "hash"), (86, .class_ 108), (1, u "java/lang/Enum$EnumDesc"), (2, .class_ 112), (0, u "java/lang/constant/Constable"), (0, .class_ 114), (0, u "java/lang/Comparable"), (0, .class_ 116), (0, u "java/io/Serializable")] 87

/-- java/lang/Enum -/
def k5 : Class := { plain "java/lang/Enum" (some 0) with
  accessFlags := 1057
  interfaces := #[2, 3, 4]
  cf := some (fileOf pool5 2 #[.nestMembers #[106]] #[] 1057 12 #[111, 113, 115] #[{ accessFlags := 18, nameIndex := 5, descriptorIndex := 6, attributes := #[] }, { accessFlags := 18, nameIndex := 9, descriptorIndex := 10, attributes := #[] }, { accessFlags := 2, nameIndex := 19, descriptorIndex := 10, attributes := #[] }])
  fields := #[{ name := "name", type := (.object "java/lang/String"), accessFlags := 18, slot := 0, constantValue := 0 }, { name := "ordinal", type := .int, accessFlags := 18, slot := 1, constantValue := 0 }, { name := "hash", type := .int, accessFlags := 2, slot := 2, constantValue := 0 }]
  methods := #[]
  instanceTypes := #[(.object "java/lang/String"), .int, .int]
  staticTypes := #[]
  resolved := Array.replicate 204 none
  statics := none }

def pool6 : Array CpInfo := pool [(5, .class_ 6), (0, u "com/example/onceward/onceward/log/LogFormat"), (4, u "V3"), (0, u "Lcom/example/onceward/onceward/log/LogFormat;"), (2, u "V4"), (2, u "$VALUES"), (0, u "[Lcom/example/onceward/onceward/log/LogFormat;"), (6, .class_ 28), (1, u "java/lang/Enum"), (4, u "MAGIC"), (0, u "[B"), (37, u "_version"), (0, u "I"), (19, u "_recordHeaderBytes"), (2, u "fieldsEnd"), (0, u "(B)I"), (12, u "_checksHeader"), (0, u "Z"), (16, u "INTS"), (0, u "Ljava/lang/invoke/VarHandle;"), (11, u "LONGS"), (33, u "NEWEST"), (16, u "FILE_HEADER_BYTES"), (2, u "OPENING_BYTES"), (0, u "MESSAGE"), (0, u "B"), (1, u "PRODUCER"), (1, u "SEQUENCED"), (1, u "SESSION"), (1, u "PRODUCER_FIELDS"), (0, u "SEQUENCED_FIELDS"), (1, u "SESSION_FIELDS"), (1, u "MAX_BODY_BYTES")] 56

def k6c0 : Code := { maxStack := 1, maxLocals := 1, code := prog_67_method_14_code, exceptionTable := #[], attributes := #[] }
def k6m0 : Method := { name := "fieldsEnd", desc := "(B)I", sig := { parameters := [.byte], returnType := some .int }, accessFlags := 8, code := some k6c0 }
/-- com/example/onceward/onceward/log/LogFormat -/
def k6 : Class := { plain "com/example/onceward/onceward/log/LogFormat" (some 5) with
  accessFlags := 16432
  interfaces := #[]
  cf := some (fileOf pool6 5 #[] #[{ accessFlags := 8, nameIndex := 96, descriptorIndex := 97, attributes := #[] }] 16432 26 #[] #[{ accessFlags := 16409, nameIndex := 11, descriptorIndex := 12, attributes := #[] }, { accessFlags := 16409, nameIndex := 15, descriptorIndex := 12, attributes := #[] }, { accessFlags := 24, nameIndex := 175, descriptorIndex := 12, attributes := #[] }, { accessFlags := 24, nameIndex := 192, descriptorIndex := 73, attributes := #[] }, { accessFlags := 24, nameIndex := 195, descriptorIndex := 73, attributes := #[] }, { accessFlags := 24, nameIndex := 196, descriptorIndex := 197, attributes := #[] }, { accessFlags := 24, nameIndex := 199, descriptorIndex := 197, attributes := #[] }, { accessFlags := 24, nameIndex := 201, descriptorIndex := 197, attributes := #[] }, { accessFlags := 24, nameIndex := 203, descriptorIndex := 197, attributes := #[] }, { accessFlags := 26, nameIndex := 205, descriptorIndex := 73, attributes := #[] }, { accessFlags := 26, nameIndex := 206, descriptorIndex := 73, attributes := #[] }, { accessFlags := 26, nameIndex := 208, descriptorIndex := 73, attributes := #[] }, { accessFlags := 24, nameIndex := 210, descriptorIndex := 73, attributes := #[] }, { accessFlags := 26, nameIndex := 33, descriptorIndex := 34, attributes := #[] }, { accessFlags := 18, nameIndex := 72, descriptorIndex := 73, attributes := #[] }, { accessFlags := 18, nameIndex := 93, descriptorIndex := 73, attributes := #[] }, { accessFlags := 18, nameIndex := 110, descriptorIndex := 111, attributes := #[] }, { accessFlags := 26, nameIndex := 128, descriptorIndex := 129, attributes := #[] }, { accessFlags := 26, nameIndex := 141, descriptorIndex := 129, attributes := #[] }, { accessFlags := 4122, nameIndex := 18, descriptorIndex := 19, attributes := #[] }])
  fields := #[{ name := "V3", type := (.object "com/example/onceward/onceward/log/LogFormat"), accessFlags := 16409, slot := 0, constantValue := 0 }, { name := "V4", type := (.object "com/example/onceward/onceward/log/LogFormat"), accessFlags := 16409, slot := 1, constantValue := 0 }, { name := "NEWEST", type := (.object "com/example/onceward/onceward/log/LogFormat"), accessFlags := 24, slot := 2, constantValue := 0 }, { name := "FILE_HEADER_BYTES", type := .int, accessFlags := 24, slot := 3, constantValue := 0 }, { name := "OPENING_BYTES", type := .int, accessFlags := 24, slot := 4, constantValue := 0 }, { name := "MESSAGE", type := .byte, accessFlags := 24, slot := 5, constantValue := 0 }, { name := "PRODUCER", type := .byte, accessFlags := 24, slot := 6, constantValue := 0 }, { name := "SEQUENCED", type := .byte, accessFlags := 24, slot := 7, constantValue := 0 }, { name := "SESSION", type := .byte, accessFlags := 24, slot := 8, constantValue := 0 }, { name := "PRODUCER_FIELDS", type := .int, accessFlags := 26, slot := 9, constantValue := 0 }, { name := "SEQUENCED_FIELDS", type := .int, accessFlags := 26, slot := 10, constantValue := 0 }, { name := "SESSION_FIELDS", type := .int, accessFlags := 26, slot := 11, constantValue := 0 }, { name := "MAX_BODY_BYTES", type := .int, accessFlags := 24, slot := 12, constantValue := 0 }, { name := "MAGIC", type := (.array .byte), accessFlags := 26, slot := 13, constantValue := 0 }, { name := "_version", type := .int, accessFlags := 18, slot := 3, constantValue := 0 }, { name := "_recordHeaderBytes", type := .int, accessFlags := 18, slot := 4, constantValue := 0 }, { name := "_checksHeader", type := .boolean, accessFlags := 18, slot := 5, constantValue := 0 }, { name := "INTS", type := (.object "java/lang/invoke/VarHandle"), accessFlags := 26, slot := 14, constantValue := 0 }, { name := "LONGS", type := (.object "java/lang/invoke/VarHandle"), accessFlags := 26, slot := 15, constantValue := 0 }, { name := "$VALUES", type := (.array (.object "com/example/onceward/onceward/log/LogFormat")), accessFlags := 4122, slot := 16, constantValue := 0 }]
  methods := #[k6m0]
  instanceTypes := #[(.object "java/lang/String"), .int, .int, .int, .int, .boolean]
  staticTypes := #[(.object "com/example/onceward/onceward/log/LogFormat"), (.object "com/example/onceward/onceward/log/LogFormat"), (.object "com/example/onceward/onceward/log/LogFormat"), .int, .int, .byte, .byte, .byte, .byte, .int, .int, .int, .int, (.array .byte), (.object "java/lang/invoke/VarHandle"), (.object "java/lang/invoke/VarHandle"), (.array (.object "com/example/onceward/onceward/log/LogFormat"))]
  resolved := Array.replicate 267 none
  statics := none }

def pool7 : Array CpInfo := pool [(1, u "java/lang/Cloneable"), (0, .class_ 1), (0, u "java/lang/Object"), (0, .class_ 3)] 3

/-- java/lang/Cloneable -/
def k7 : Class := { plain "java/lang/Cloneable" (some 0) with
  accessFlags := 1537
  interfaces := #[]
  cf := some (fileOf pool7 2 #[] #[] 1537 4 #[] #[])
  fields := #[]
  methods := #[]
  instanceTypes := #[]
  staticTypes := #[]
  resolved := Array.replicate 8 none
  statics := none }

/-- the primitive byte -/
def k8 : Class := { plain "byte" none with kind := .primitive 'B', accessFlags := 0x411 }
/-- [B -/
def k9 : Class := { plain "[B" (some 0) with kind := .array 8 .byte, interfaces := #[7, 4], accessFlags := 1041 }

/-- the primitive int -/
def k10 : Class := { plain "int" none with kind := .primitive 'I', accessFlags := 0x411 }
/-- [I -/
def k11 : Class := { plain "[I" (some 0) with kind := .array 10 .int, interfaces := #[7, 4], accessFlags := 1041 }

def heap : Heap := #[]
def classes : Array Class := #[k0, k1, k2, k3, k4, k5, k6, k7, k8, k9, k10, k11]
def interned : List (Array UInt16 × Addr) := []
def slotsUsed : Nat := 0
def theMethod : MethodId := ⟨1, 0⟩
def args0 : Array Value := #[.int 3]
def aboutOver (below : List Frame) : State where
  vm := { classes := classes, interned := interned.toArray }
  heap := heap
  slotsUsed := slotsUsed
  threads := #[{ frames := .invoking theMethod args0 :: below }]
def below0 : List Frame := [.native { method := ⟨0, 0⟩, args := #[] }]
def about1 : State := aboutOver below0
def p0 : Program := .bare "" "" ""
def e0 : Env := launch0.env 0 0 0
theorem w_frames : about1.frames = Frame.invoking theMethod args0 :: below0 := rfl
set_option maxRecDepth 65536 in
theorem w_args : argsFit about1.vm theMethod args0 = true := by decide +kernel
set_option maxRecDepth 65536 in
theorem w_heap : heapFits about1 = true := by decide +kernel
set_option maxRecDepth 65536 in
theorem w_runnable : about1.curStatus? = some .runnable := by decide +kernel
set_option maxRecDepth 65536 in
theorem w_alone : about1.alone = true := by decide +kernel
set_option maxRecDepth 65536 in
theorem w_named : about1.methodNamed? x = some theMethod := by decide +kernel
set_option maxRecDepth 65536 in
theorem w_hears : about1.hears theMethod below0 = true := by decide +kernel
set_option maxRecDepth 65536 in
theorem w_ripe : about1.ripe theMethod args0 below0 = true := by decide +kernel
theorem w_running : about1.status = .running := rfl
set_option maxRecDepth 65536 in
theorem w_room : about1.hasRoom e0.platform room_1 = true :=
  launch0.hasRoom_least _ room_1 (by decide +kernel) (by decide +kernel) (by decide +kernel) (by decide +kernel) (by decide +kernel) (by decide +kernel)
theorem allAtoms_all (ts : List Jvm.Cond) (a : Array Jvm.Value) (st : Jvm.State) : (allAtoms ts).before a st = ts.all (fun c => c.before a st) := by
  induction ts with
  | nil => rfl
  | cons c t ih =>
    show (Jvm.Cond.and c (allAtoms t)).before a st = _
    rw [Jvm.Cond.before_and, ih, List.all_cons]
def words1 : List Jvm.Cond := Jvm.Cond.code x code maxLocals ret :: tables_1
/-- a 'code' word, met by the world's own term for the bytes: nothing is compared byte by byte -/
theorem code_word {y : MethodName} {bytes : ByteArray} {mx : Nat} {rt : Option FieldType} {a : Array Value} {s : State} {m : MethodId} {meth : Method} {c : Code} (h1 : s.methodNamed? y = some m) (h2 : s.vm.method? m = some meth) (h3 : meth.code = some c) (h4 : c.code = bytes)
    (h5 : (c.maxLocals == mx && c.exceptionTable.isEmpty && decide (c.maxStack ≤ mostOperands) && decide (meth.sig.returnType = rt) && !meth.locks && decide (parseMethodDescriptor y.desc = some meth.sig)) = true) : (Jvm.Cond.code y bytes mx rt).before a s = true := by
  simp only [Bool.and_eq_true, beq_iff_eq, Bool.not_eq_true', decide_eq_true_eq] at h5
  obtain ⟨⟨⟨⟨⟨g1, g2⟩, g3⟩, g4⟩, g5⟩, g6⟩ := h5
  simp [Cond.before, Cond.holds, Cond.value, h1, h2, h3, h4, g1, g2, g3, g4, g5, g6]
def isCode : Jvm.Cond → Bool
  | .code _ _ _ _ => true
  | _ => false
theorem all_split {L : List Jvm.Cond} {P : Jvm.Cond → Bool} (h1 : L.all (fun c => isCode c || P c) = true) (h2 : ∀ c ∈ L.filter isCode, P c = true) : L.all P = true := by
  refine List.all_eq_true.mpr fun c hc => ?_
  have h := List.all_eq_true.mp h1 c hc
  rcases Bool.eq_false_or_eq_true (isCode c) with hi | hi
  · exact h2 c (List.mem_filter.mpr ⟨hc, hi⟩)
  · simpa [hi] using h
set_option maxRecDepth 65536 in
theorem w_c0 : (Jvm.Cond.code x code maxLocals ret).before args0 about1 = true := code_word (m := ⟨1, 0⟩) (meth := k1m0) (c := k1c0) (by decide +kernel) rfl rfl rfl (by decide +kernel)
set_option maxRecDepth 65536 in
theorem w_c1 : (Jvm.Cond.code ({ cls := "com/example/onceward/onceward/log/LogFormatFieldsEndPinLaw", name := "expectedEnd", desc := "(B)I" } : Jvm.MethodName) method_2_code (1 : Nat) (Option.some Jvm.ClassFile.FieldType.int)).before args0 about1 = true := code_word (m := ⟨1, 1⟩) (meth := k1m1) (c := k1c1) (by decide +kernel) rfl rfl rfl (by decide +kernel)
set_option maxRecDepth 65536 in
theorem w_c2 : (Jvm.Cond.code ({ cls := "com/example/onceward/onceward/log/LogFormat", name := "fieldsEnd", desc := "(B)I" } : Jvm.MethodName) prog_67_method_14_code (1 : Nat) (Option.some Jvm.ClassFile.FieldType.int)).before args0 about1 = true := code_word (m := ⟨6, 0⟩) (meth := k6m0) (c := k6c0) (by decide +kernel) rfl rfl rfl (by decide +kernel)
def codes1 : List Jvm.Cond := [Jvm.Cond.code x code maxLocals ret, Jvm.Cond.code ({ cls := "com/example/onceward/onceward/log/LogFormatFieldsEndPinLaw", name := "expectedEnd", desc := "(B)I" } : Jvm.MethodName) method_2_code (1 : Nat) (Option.some Jvm.ClassFile.FieldType.int), Jvm.Cond.code ({ cls := "com/example/onceward/onceward/log/LogFormat", name := "fieldsEnd", desc := "(B)I" } : Jvm.MethodName) prog_67_method_14_code (1 : Nat) (Option.some Jvm.ClassFile.FieldType.int)]
set_option maxRecDepth 65536 in
theorem codes_eq : words1.filter isCode = codes1 := rfl
theorem w_codes : ∀ c ∈ words1.filter isCode, c.before args0 about1 = true := by
  rw [codes_eq]
  intro c hc
  simp only [codes1, List.mem_cons, List.not_mem_nil, or_false] at hc
  rcases hc with rfl | rfl | rfl
  · exact w_c0
  · exact w_c1
  · exact w_c2
set_option maxRecDepth 65536 in
theorem w_t1 : words1.all (fun c => isCode c || c.before args0 about1) = true := by decide +kernel
theorem w_tables : (allAtoms (Jvm.Cond.code x code maxLocals ret :: tables_1)).before args0 about1 = true := by
  rw [allAtoms_all]
  show words1.all (fun c => c.before args0 about1) = true
  refine all_split ?_ w_codes
  rw [w_t1]
set_option maxRecDepth 65536 in
theorem w_case : (Jvm.Cond.and given_1 narrow_1).before args0 about1 = true := by decide +kernel
theorem w_applies : (headSpec (Jvm.Cond.code x code maxLocals ret :: tables_1) room_1).applies x e0.platform about1 = true :=
  (Spec.applies_iff w_frames).mpr ⟨w_running, w_runnable, w_alone, w_named, w_hears, w_ripe, w_room, w_tables⟩
theorem atStart : AtStart classFile x code maxLocals ret World_1 tables_1 room_1 Calls_1 rest_1 Pre_1 launch0 p0 e0 about1 theMethod args0 below0 :=
  ⟨lists_1, trivial, launch0.admits_env _ _ _, launch0.least_env, fairChoices_fair.cas, fairChoices_fair.clock, w_frames, w_args, w_heap, w_applies, trivial, trivial, w_case⟩
end start1
theorem witness_1 : WitnessClaimed_1 := ⟨start1.p0, start1.e0, start1.about1, start1.theMethod, start1.args0, start1.below0, start1.atStart⟩
end Jvm.Pilot.@@N@@
