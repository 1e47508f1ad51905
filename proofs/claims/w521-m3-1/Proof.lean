import JvmDerived
import JvmDerived.Pilot.@@N@@Statement
import JvmDerived.Pilot.@@N@@Code
set_option linter.unusedVariables false
set_option linter.unusedSimpArgs false
namespace Jvm.Pilot.@@N@@
open Jvm Jvm.ClassFile Sem Op Lib Jvm.Free Jvm.Stand Jvm.LawKit Jvm.RoadKit Bundle Jvm.Pilot.@@N@@.Jvm.D
/-- the run from A comes to a return that Q speaks of -/
def own_Fin (p : Program) (e : Env) (below : List Frame) (s : State) (kc ks : Nat) (Q : Option Value → Heap → List Loc → Prop) (A : State) : Prop :=
  ∃ s₂ o, Steps p.tables e below A s₂ ∧ s₂.status = .running ∧ Ended s₂ below o ∧ ∃ v L, o = .returned v ∧ Q v s₂.heap L ∧ FrameEnd s o s₂ L kc ks
section Own
variable {p : Program} {l : Launch} {e : Env} {R : Room} {s : State} {m : MethodId} {args : Array Value} {below : List Frame} {meth : Method} {c : Code} {T : State} {locs : List Loc} {cells slots kc ks : Nat} {Q : Option Value → Heap → List Loc → Prop}
theorem own_back {A B : State} (h : ∀ t, Steps p.tables e below B t → Steps p.tables e below A t) (k : own_Fin p e below s kc ks Q B) : own_Fin p e below s kc ks Q A := by
  obtain ⟨s2, o, h1, r⟩ := k
  exact ⟨s2, o, h _ h1, r⟩
theorem own_retN (X : Stand p l e R s m args below meth c T locs cells slots) (hx : p.tables.exec = Jvm.exec) (hlk : meth.locks = false) {t : FieldType} (ht : t = .boolean ∨ t = .byte ∨ t = .char ∨ t = .short) {pc : Nat} {Ls : Array Slot} {z : Int32} {rest : List Value} (hret : meth.sig.returnType = some t) (hd : decode c.code pc = .ok (.ireturn, 1)) (hc : cells ≤ kc) (hs : slots ≤ ks)
    (hQ : Q (some (.int (nar t z))) T.heap locs) : own_Fin p e below s kc ks Q (T.setTop (mkF m pc Ls (.int z :: rest))) := by
  obtain ⟨fs, hr, hrun, hended, hW, hsame⟩ := X.leave (v := some (.int (nar t z))) (fun h => by rw [hret] at h; cases h) hlk
  exact ⟨_, _, retN X hx hret ht hd hr, hrun, hended, _, _, rfl, hQ, ⟨_, rfl⟩, hW, hsame.mono hc hs⟩
theorem own_retZ (X : Stand p l e R s m args below meth c T locs cells slots) (hx : p.tables.exec = Jvm.exec) (hlk : meth.locks = false) {pc : Nat} {Ls : Array Slot} {z : Int32} {rest : List Value} (hret : meth.sig.returnType = some .boolean) (hd : decode c.code pc = .ok (.ireturn, 1)) (hc : cells ≤ kc) (hs : slots ≤ ks)
    (hQ : Q (some (.int (z &&& 1))) T.heap locs) : own_Fin p e below s kc ks Q (T.setTop (mkF m pc Ls (.int z :: rest))) := own_retN X hx hlk (Or.inl rfl) hret hd hc hs hQ
theorem own_retB (X : Stand p l e R s m args below meth c T locs cells slots) (hx : p.tables.exec = Jvm.exec) (hlk : meth.locks = false) {pc : Nat} {Ls : Array Slot} {z : Int32} {rest : List Value} (hret : meth.sig.returnType = some .byte) (hd : decode c.code pc = .ok (.ireturn, 1)) (hc : cells ≤ kc) (hs : slots ≤ ks)
    (hQ : Q (some (.int (nar .byte z))) T.heap locs) : own_Fin p e below s kc ks Q (T.setTop (mkF m pc Ls (.int z :: rest))) := own_retN X hx hlk (Or.inr (Or.inl rfl)) hret hd hc hs hQ
theorem own_retI (X : Stand p l e R s m args below meth c T locs cells slots) (hx : p.tables.exec = Jvm.exec) (hlk : meth.locks = false) {pc : Nat} {Ls : Array Slot} {z : Int32} {rest : List Value} (hret : meth.sig.returnType = some .int) (hd : decode c.code pc = .ok (.ireturn, 1)) (hc : cells ≤ kc) (hs : slots ≤ ks)
    (hQ : Q (some (.int z)) T.heap locs) : own_Fin p e below s kc ks Q (T.setTop (mkF m pc Ls (.int z :: rest))) := by
  obtain ⟨fs, hr, hrun, hended, hW, hsame⟩ := X.leave (v := some (.int z)) (fun h => by rw [hret] at h; cases h) hlk
  exact ⟨_, _, retOut X hx hret rfl (Or.inl ⟨rfl, Or.inl rfl, z, rfl⟩) hd hr, hrun, hended, _, _, rfl, hQ, ⟨_, rfl⟩, hW, hsame.mono hc hs⟩
theorem own_retJ (X : Stand p l e R s m args below meth c T locs cells slots) (hx : p.tables.exec = Jvm.exec) (hlk : meth.locks = false) {pc : Nat} {Ls : Array Slot} {z : Int64} {rest : List Value} (hret : meth.sig.returnType = some .long) (hd : decode c.code pc = .ok (.lreturn, 1)) (hc : cells ≤ kc) (hs : slots ≤ ks)
    (hQ : Q (some (.long z)) T.heap locs) : own_Fin p e below s kc ks Q (T.setTop (mkF m pc Ls (.long z :: rest))) := by
  obtain ⟨fs, hr, hrun, hended, hW, hsame⟩ := X.leave (v := some (.long z)) (fun h => by rw [hret] at h; cases h) hlk
  exact ⟨_, _, retOut X hx hret rfl (Or.inr (Or.inl ⟨rfl, rfl, z, rfl⟩)) hd hr, hrun, hended, _, _, rfl, hQ, ⟨_, rfl⟩, hW, hsame.mono hc hs⟩
theorem own_retA (X : Stand p l e R s m args below meth c T locs cells slots) (hx : p.tables.exec = Jvm.exec) (hlk : meth.locks = false) {pc : Nat} {Ls : Array Slot} {w : Value} {rest : List Value} {t : FieldType} (hret : meth.sig.returnType = some t) (ht : t.isReference = true) (hw : w.isRef = true) (hd : decode c.code pc = .ok (.areturn, 1)) (hc : cells ≤ kc) (hs : slots ≤ ks)
    (hQ : Q (some w) T.heap locs) : own_Fin p e below s kc ks Q (T.setTop (mkF m pc Ls (w :: rest))) := by
  obtain ⟨fs, hr, hrun, hended, hW, hsame⟩ := X.leave (v := some w) (fun h => by rw [hret] at h; cases h) hlk
  have hn : narrow t w = w := by cases t <;> first | rfl | cases ht
  exact ⟨_, _, retOut X hx hret hn (Or.inr (Or.inr (Or.inr (Or.inr ⟨rfl, ht, hw⟩)))) hd hr, hrun, hended, _, _, rfl, hQ, ⟨_, rfl⟩, hW, hsame.mono hc hs⟩
theorem own_ret0 (X : Stand p l e R s m args below meth c T locs cells slots) (hx : p.tables.exec = Jvm.exec) (hlk : meth.locks = false) {pc : Nat} {Ls : Array Slot} (hret : meth.sig.returnType = none) (hd : decode c.code pc = .ok (.return_, 1)) (hc : cells ≤ kc) (hs : slots ≤ ks)
    (hQ : Q none T.heap locs) : own_Fin p e below s kc ks Q (T.setTop (mkF m pc Ls [])) := by
  obtain ⟨fs, hr, hrun, hended, hW, hsame⟩ := X.leave (v := none) (fun _ => rfl) hlk
  exact ⟨_, _, X.returnOut hx hret hd hr, hrun, hended, _, _, rfl, hQ, ⟨_, rfl⟩, hW, hsame.mono hc hs⟩
end Own
theorem own_fldAt {args : Array Value} {s : State} {t : Term} {a : Addr} {C n d : String} {k : Int32} (ev : t.eval args s none [] s = some (.ref a)) (h : (Cond.eq (Term.field t C n d) (Term.int k)).value args s none s [] = some true) : Fld s s.heap a C n d (.int k) := by
  obtain ⟨x, y, h1, h2, k1, k2⟩ := cmp_v (Or.inl h)
  have h2' : y = .int k := by simpa [Term.eval] using h2.symm
  subst h2'
  obtain ⟨z, rfl⟩ := k2
  have e : (Cond.eq (Term.field t C n d) (Term.int k)).value args s none s [] = some (decide (z = k)) := by simp [Cond.value, h1, h2]
  have hz : z = k := gotT e h
  subst hz
  rw [fld_at ev] at h1
  exact Fld.start h1
def own_links (a u : Addr) (n : Int32) : Int32 := if a = u then 1 else if n = 1 then 1 else 0
theorem d1_0 : decode prog_56_method_4_code 0 = .ok (.aload_n 0, 1) := by decide +kernel
theorem d1_1 : decode prog_56_method_4_code 1 = .ok (.getstatic 3, 3) := by decide +kernel
theorem d1_4 : decode prog_56_method_4_code 4 = .ok (.if_acmp .eq 8, 3) := by decide +kernel
theorem d1_7 : decode prog_56_method_4_code 7 = .ok (.iload_n 1, 1) := by decide +kernel
theorem d1_8 : decode prog_56_method_4_code 8 = .ok (.iconst 1, 1) := by decide +kernel
theorem d1_9 : decode prog_56_method_4_code 9 = .ok (.if_icmp .ne 7, 3) := by decide +kernel
theorem d1_12 : decode prog_56_method_4_code 12 = .ok (.iconst 1, 1) := by decide +kernel
theorem d1_13 : decode prog_56_method_4_code 13 = .ok (.goto 4, 3) := by decide +kernel
theorem d1_16 : decode prog_56_method_4_code 16 = .ok (.iconst 0, 1) := by decide +kernel
theorem d1_17 : decode prog_56_method_4_code 17 = .ok (.ireturn, 1) := by decide +kernel
theorem pn_1 : plainName "com/example/stationary/stationary/SinkRule" = true := by first | (simp [plainName, overriddenIn]; done) | decide +kernel
theorem ef_1 (m : MethodId) (x0 : Addr) (x1 : Int32) : entryFrame m #[(.ref x0), (.int x1)] 2 = mkF m 0 #[.val (.ref x0), .val (.int x1)] [] := by first | (simp [entryFrame, mkF, argsToLocals, Value.category]; done) | rfl
def Q1 (Z : State) (o0 : Addr) (p1 : Int32) (w_UNIFORM : Addr) (h0 : Heap) (n0 : Nat) (v : Option Value) (h : Heap) (L : List Loc) : Prop := v = some (.int (own_links o0 w_UNIFORM p1)) ∧ Fr n0 L ∧ h = h0
set_option maxRecDepth 65536 in
set_option maxHeartbeats 40000000 in
theorem rm1 (l : Launch) (Z : State) (a0 : Array Value) (hw : ∀ d ∈ tables_1, d.before a0 Z = true) (ws : List Jvm.Cond) (o0 : Addr) (p1 : Int32) (w_UNIFORM : Addr) (h0 : Heap) (n0 : Nat) (Z0 : n0 ≤ h0.size) (S_UNIFORM : Sta Z h0 "com/example/stationary/stationary/SinkRule" "UNIFORM" "Lcom/example/stationary/stationary/SinkRule;" (.ref w_UNIFORM)) :
    MetFree l (⟨"com/example/stationary/stationary/SinkRule", "linksSinkToItself", "(I)Z"⟩ : MethodName) (head1 (Jvm.Cond.code (⟨"com/example/stationary/stationary/SinkRule", "linksSinkToItself", "(I)Z"⟩ : MethodName) prog_56_method_4_code 2 (some .boolean) :: ws) ({ frames := 0, cells := 0, slots := 0, locals := 0 } : Room)) (fun a U => a = #[(.ref o0), (.int p1)] ∧ Z.Warmed39 U.vm ∧ U.heap = h0) (fun _ _ _ _ _ => True) (fun _ U o U' => ∃ v L, o = .returned v ∧ Q1 Z o0 p1 w_UNIFORM h0 n0 v U'.heap L ∧ FrameEnd U o U' L ({ frames := 0, cells := 0, slots := 0, locals := 0 } : Room).cells ({ frames := 0, cells := 0, slots := 0, locals := 0 } : Room).slots) := by
  refine MetFree.of_bodySF (plainFor_of_name pn_1) hisR ?_
  intro p e s m args below meth c s₁ Bd hml0 hP hK
  obtain ⟨rfl, hZ, hh⟩ := hP
  have hx := Bd.exec
  have hby := Bd.bytes
  have hml : c.maxLocals = 2 := hml0
  have hown : s.vm.findClass "com/example/stationary/stationary/SinkRule" = some m.cls := findClass_of_methodNamed Bd.named
  have hnm := (name_of_methodNamed Bd.named Bd.method).1
  have X0 : Stand p l e ({ frames := 0, cells := 0, slots := 0, locals := 0 } : Room) s m #[(.ref o0), (.int p1)] below meth c s₁ [] 0 0 := Stand.of_body Bd
  have e0 : s₁.heap = h0 := by rw [← hh, Bd.state]; rfl
  have N0 := Fr.nil n0
  obtain ⟨F, hF⟩ : ∃ F : State → Prop, F = own_Fin p e below s ({ frames := 0, cells := 0, slots := 0, locals := 0 } : Room).cells ({ frames := 0, cells := 0, slots := 0, locals := 0 } : Room).slots (fun v h L => Q1 Z o0 p1 w_UNIFORM h0 n0 v h L) := ⟨_, rfl⟩
  have bk : ∀ {A B : State}, (∀ t, Steps p.tables e below B t → Steps p.tables e below A t) → F B → F A := by
    intro A B h k
    rw [hF] at k ⊢
    exact own_back h k
  suffices hgo : F (s₁.setTop (mkF m 0 #[.val (.ref o0), .val (.int p1)] [])) by
    have hgo' := bk (fun t k => castTop (T := s₁) (ef_1 m o0 p1) k) hgo
    rw [hF] at hgo'
    exact hgo'
  show F (s₁.setTop (mkF m 0 #[.val (.ref o0), .val (.int p1)] []))
  refine bk (fun t k => XS.aloadN X0.here hx rfl (hb hby d1_0) rfl rfl k) ?_
  show F (s₁.setTop (mkF m 1 #[.val (.ref o0), .val (.int p1)] [(.ref o0)]))
  obtain ⟨T1, X1, e1, st1⟩ := getS2 X0 hx hZ hown (host := "") (Or.inl (hw _ (List.mem_of_getElem? (i := 8) rfl))) Via.refl e0 S_UNIFORM (g := (mkF m 1 #[.val (.ref o0), .val (.int p1)] [(.ref o0)])) rfl (hb hby d1_1)
  refine bk (fun t k => st1 t k) ?_
  show F (T1.setTop (mkF m 4 #[.val (.ref o0), .val (.int p1)] [(.ref w_UNIFORM), (.ref o0)]))
  by_cases hc4_2 : o0 = w_UNIFORM
  · refine bk (fun t k => Jvm.RoadKit.acmp (g := (mkF m 4 #[.val (.ref o0), .val (.int p1)] [(.ref w_UNIFORM), (.ref o0)])) X1 hx rfl rfl rfl (pc0 := 4) (pc' := 12) (same := true) rfl (hb hby d1_4) rfl (decide_eq_true (congrArg Value.ref hc4_2)) (by decide) (by decide) k) ?_
    show F (T1.setTop (mkF m 12 #[.val (.ref o0), .val (.int p1)] []))
    refine bk (fun t k => XS.iconst X1.here hx rfl (hb hby d1_12) k) ?_
    show F (T1.setTop (mkF m 13 #[.val (.ref o0), .val (.int p1)] [(.int (1 : Int32))]))
    refine bk (fun t k => XS.goto X1.here hx rfl (pc0 := 13) (pc' := 17) rfl (hb hby d1_13) (by decide) (by decide) k) ?_
    show F (T1.setTop (mkF m 17 #[.val (.ref o0), .val (.int p1)] [(.int (1 : Int32))]))
    rw [hF]
    refine own_retZ X1 hx Bd.notSynchronized Bd.returns (hb hby d1_17) (by decide) (by decide) ?_
    rw [e1]
    refine ⟨?_, N0, rfl⟩
    show some (Value.int (1 : Int32)) = some (Value.int (own_links o0 w_UNIFORM p1))
    simp [own_links, hc4_2]
  · refine bk (fun t k => Jvm.RoadKit.acmp (g := (mkF m 4 #[.val (.ref o0), .val (.int p1)] [(.ref w_UNIFORM), (.ref o0)])) X1 hx rfl rfl rfl (pc0 := 4) (pc' := 7) (same := false) rfl (hb hby d1_4) rfl (decide_eq_false fun q => hc4_2 (Value.ref.inj q)) (by decide) (by decide) k) ?_
    show F (T1.setTop (mkF m 7 #[.val (.ref o0), .val (.int p1)] []))
    refine bk (fun t k => XS.iloadN X1.here hx rfl (hb hby d1_7) rfl k) ?_
    show F (T1.setTop (mkF m 8 #[.val (.ref o0), .val (.int p1)] [(.int p1)]))
    refine bk (fun t k => XS.iconst X1.here hx rfl (hb hby d1_8) k) ?_
    show F (T1.setTop (mkF m 9 #[.val (.ref o0), .val (.int p1)] [(.int (1 : Int32)), (.int p1)]))
    by_cases hc9_3 : p1 = (1 : Int32)
    · refine bk (fun t k => XS.icmpNo X1.here hx rfl (hb hby d1_9) rfl (teq hc9_3).2 k) ?_
      show F (T1.setTop (mkF m 12 #[.val (.ref o0), .val (.int p1)] []))
      refine bk (fun t k => XS.iconst X1.here hx rfl (hb hby d1_12) k) ?_
      show F (T1.setTop (mkF m 13 #[.val (.ref o0), .val (.int p1)] [(.int (1 : Int32))]))
      refine bk (fun t k => XS.goto X1.here hx rfl (pc0 := 13) (pc' := 17) rfl (hb hby d1_13) (by decide) (by decide) k) ?_
      show F (T1.setTop (mkF m 17 #[.val (.ref o0), .val (.int p1)] [(.int (1 : Int32))]))
      rw [hF]
      refine own_retZ X1 hx Bd.notSynchronized Bd.returns (hb hby d1_17) (by decide) (by decide) ?_
      rw [e1]
      refine ⟨?_, N0, rfl⟩
      show some (Value.int (1 : Int32)) = some (Value.int (own_links o0 w_UNIFORM p1))
      simp [own_links, hc4_2, hc9_3]
    · refine bk (fun t k => XS.icmpYes X1.here hx rfl (pc0 := 9) (pc' := 16) rfl (hb hby d1_9) rfl (feq hc9_3).2 (by decide) (by decide) k) ?_
      show F (T1.setTop (mkF m 16 #[.val (.ref o0), .val (.int p1)] []))
      refine bk (fun t k => XS.iconst X1.here hx rfl (hb hby d1_16) k) ?_
      show F (T1.setTop (mkF m 17 #[.val (.ref o0), .val (.int p1)] [(.int (0 : Int32))]))
      rw [hF]
      refine own_retZ X1 hx Bd.notSynchronized Bd.returns (hb hby d1_17) (by decide) (by decide) ?_
      rw [e1]
      refine ⟨?_, N0, rfl⟩
      show some (Value.int (0 : Int32)) = some (Value.int (own_links o0 w_UNIFORM p1))
      simp [own_links, hc4_2, hc9_3]
theorem pd0__I_Z : parseMethodDescriptor "(I)Z" = some ⟨[.int], some .boolean⟩ := by decide +kernel
theorem pn_0 : plainName "com/example/stationary/stationary/SinkRuleLinksSinkToItselfPinLaw" = true := by first | (simp [plainName, overriddenIn]; done) | decide +kernel
theorem ef_0 (m : MethodId) (x0 : Int32) (x1 : Int32) : entryFrame m #[(.int x0), (.int x1)] maxLocals = mkF m 0 #[.val (.int x0), .val (.int x1), .unset, .unset, .unset, .unset, .unset] [] := by first | (simp [entryFrame, mkF, argsToLocals, Value.category, maxLocals]; done) | rfl
def Q0 (Z : State) (p0 : Int32) (p1 : Int32) (w_UNIFORM : Addr) (w_OTHERS : Addr) (h0 : Heap) (n0 : Nat) (v : Option Value) (h : Heap) (L : List Loc) : Prop := v = some (.int (1 : Int32)) ∧ Fr n0 L
set_option maxRecDepth 65536 in
set_option maxHeartbeats 40000000 in
theorem rm0 (l : Launch) (Z : State) (a0 : Array Value) (hw : ∀ d ∈ tables_1, d.before a0 Z = true) (ws : List Jvm.Cond) (p0 : Int32) (p1 : Int32) (w_UNIFORM : Addr) (w_OTHERS : Addr) (h0 : Heap) (n0 : Nat) (Z0 : n0 ≤ h0.size) (S_UNIFORM : Sta Z h0 "com/example/stationary/stationary/SinkRule" "UNIFORM" "Lcom/example/stationary/stationary/SinkRule;" (.ref w_UNIFORM)) (S_OTHERS : Sta Z h0 "com/example/stationary/stationary/SinkRule" "OTHERS" "Lcom/example/stationary/stationary/SinkRule;" (.ref w_OTHERS)) (E_UNIFORM : Exa Z h0 w_UNIFORM "com/example/stationary/stationary/SinkRule") (E_OTHERS : Exa Z h0 w_OTHERS "com/example/stationary/stationary/SinkRule") (hne : ¬ (w_OTHERS = w_UNIFORM)) :
    MetFree l x (head1 (Jvm.Cond.code x code maxLocals ret :: ws) room_1) (fun a U => a = #[(.int p0), (.int p1)] ∧ Z.Warmed39 U.vm ∧ U.heap = h0) (fun _ _ _ _ _ => True) (fun _ U o U' => ∃ v L, o = .returned v ∧ Q0 Z p0 p1 w_UNIFORM w_OTHERS h0 n0 v U'.heap L ∧ FrameEnd U o U' L room_1.cells room_1.slots) := by
  refine MetFree.of_bodySF (plainFor_of_name pn_0) hisR ?_
  intro p e s m args below meth c s₁ Bd hml0 hP hK
  obtain ⟨rfl, hZ, hh⟩ := hP
  have hx := Bd.exec
  have hby := Bd.bytes
  have hml : c.maxLocals = 7 := hml0
  have hown : s.vm.findClass "com/example/stationary/stationary/SinkRuleLinksSinkToItselfPinLaw" = some m.cls := findClass_of_methodNamed Bd.named
  have hnm := (name_of_methodNamed Bd.named Bd.method).1
  have X0 : Stand p l e room_1 s m #[(.int p0), (.int p1)] below meth c s₁ [] 0 0 := Stand.of_body Bd
  have e0 : s₁.heap = h0 := by rw [← hh, Bd.state]; rfl
  have N0 := Fr.nil n0
  obtain ⟨F, hF⟩ : ∃ F : State → Prop, F = own_Fin p e below s room_1.cells room_1.slots (fun v h L => Q0 Z p0 p1 w_UNIFORM w_OTHERS h0 n0 v h L) := ⟨_, rfl⟩
  have bk : ∀ {A B : State}, (∀ t, Steps p.tables e below B t → Steps p.tables e below A t) → F B → F A := by
    intro A B h k
    rw [hF] at k ⊢
    exact own_back h k
  suffices hgo : F (s₁.setTop (mkF m 0 #[.val (.int p0), .val (.int p1), .unset, .unset, .unset, .unset, .unset] [])) by
    have hgo' := bk (fun t k => castTop (T := s₁) (ef_0 m p0 p1) k) hgo
    rw [hF] at hgo'
    exact hgo'
  have w_0 := hw _ (List.mem_of_getElem? (i := 0) rfl)
  have w_1 := hw _ (List.mem_of_getElem? (i := 1) rfl)
  have w_3 := hw _ (List.mem_of_getElem? (i := 3) rfl)
  have w_4 := hw _ (List.mem_of_getElem? (i := 4) rfl)
  have w_5 := hw _ (List.mem_of_getElem? (i := 5) rfl)
  have w_6 := hw _ (List.mem_of_getElem? (i := 6) rfl)
  have w_7 := hw _ (List.mem_of_getElem? (i := 7) rfl)
  have w_9 := hw _ (List.mem_of_getElem? (i := 9) rfl)
  show F (s₁.setTop (mkF m 0 #[.val (.int p0), .val (.int p1), .unset, .unset, .unset, .unset, .unset] []))
  refine bk (fun t k => XS.iloadN X0.here hx rfl (hb hby at_0) rfl k) ?_
  show F (s₁.setTop (mkF m 1 #[.val (.int p0), .val (.int p1), .unset, .unset, .unset, .unset, .unset] [(.int p0)]))
  refine bk (fun t k => XS.iconst X0.here hx rfl (hb hby at_1) k) ?_
  show F (s₁.setTop (mkF m 2 #[.val (.int p0), .val (.int p1), .unset, .unset, .unset, .unset, .unset] [(.int (1 : Int32)), (.int p0)]))
  refine bk (fun t k => XS.iand X0.here hx rfl (hb hby at_2) rfl k) ?_
  show F (s₁.setTop (mkF m 3 #[.val (.int p0), .val (.int p1), .unset, .unset, .unset, .unset, .unset] [(.int (p0 &&& (1 : Int32)))]))
  by_cases hc3_1 : (p0 &&& (1 : Int32)) = (0 : Int32)
  · refine bk (fun t k => XS.ifYes X0.here hx rfl (pc0 := 3) (pc' := 10) rfl (hb hby at_3) rfl ((if0 _ _).trans (teq hc3_1).1) (by decide) (by decide) k) ?_
    show F (s₁.setTop (mkF m 10 #[.val (.int p0), .val (.int p1), .unset, .unset, .unset, .unset, .unset] []))
    refine bk (fun t k => XS.iconst X0.here hx rfl (hb hby at_10) k) ?_
    show F (s₁.setTop (mkF m 11 #[.val (.int p0), .val (.int p1), .unset, .unset, .unset, .unset, .unset] [(.int (0 : Int32))]))
    refine bk (fun t k => XS.istoreN X0.here hx rfl (hb hby at_11) rfl (l' := #[.val (.int p0), .val (.int p1), .val (.int (0 : Int32)), .unset, .unset, .unset, .unset]) rfl k) ?_
    show F (s₁.setTop (mkF m 12 #[.val (.int p0), .val (.int p1), .val (.int (0 : Int32)), .unset, .unset, .unset, .unset] []))
    refine bk (fun t k => XS.iloadN X0.here hx rfl (hb hby at_12) rfl k) ?_
    show F (s₁.setTop (mkF m 13 #[.val (.int p0), .val (.int p1), .val (.int (0 : Int32)), .unset, .unset, .unset, .unset] [(.int (0 : Int32))]))
    refine bk (fun t k => XS.ifYes X0.here hx rfl (pc0 := 13) (pc' := 22) rfl (hb hby at_13) rfl ((if0 _ _).trans (teq (by decide : (0 : Int32) = (0 : Int32))).1) (by decide) (by decide) k) ?_
    show F (s₁.setTop (mkF m 22 #[.val (.int p0), .val (.int p1), .val (.int (0 : Int32)), .unset, .unset, .unset, .unset] []))
    obtain ⟨T2, X2, e2, st2⟩ := getS2 X0 hx hZ hown (host := "") (Or.inl w_0) Via.refl e0 S_UNIFORM (g := (mkF m 22 #[.val (.int p0), .val (.int p1), .val (.int (0 : Int32)), .unset, .unset, .unset, .unset] [])) rfl (hb hby at_22)
    refine bk (fun t k => st2 t k) ?_
    show F (T2.setTop (mkF m 25 #[.val (.int p0), .val (.int p1), .val (.int (0 : Int32)), .unset, .unset, .unset, .unset] [(.ref w_UNIFORM)]))
    refine bk (fun t k => XS.astoreN X2.here hx rfl (hb hby at_25) rfl rfl (l' := #[.val (.int p0), .val (.int p1), .val (.int (0 : Int32)), .val (.ref w_UNIFORM), .unset, .unset, .unset]) rfl k) ?_
    show F (T2.setTop (mkF m 26 #[.val (.int p0), .val (.int p1), .val (.int (0 : Int32)), .val (.ref w_UNIFORM), .unset, .unset, .unset] []))
    refine bk (fun t k => XS.iloadN X2.here hx rfl (hb hby at_26) rfl k) ?_
    show F (T2.setTop (mkF m 27 #[.val (.int p0), .val (.int p1), .val (.int (0 : Int32)), .val (.ref w_UNIFORM), .unset, .unset, .unset] [(.int p0)]))
    refine bk (fun t k => XS.iconst X2.here hx rfl (hb hby at_27) k) ?_
    show F (T2.setTop (mkF m 28 #[.val (.int p0), .val (.int p1), .val (.int (0 : Int32)), .val (.ref w_UNIFORM), .unset, .unset, .unset] [(.int (2 : Int32)), (.int p0)]))
    refine bk (fun t k => XS.iand X2.here hx rfl (hb hby at_28) rfl k) ?_
    show F (T2.setTop (mkF m 29 #[.val (.int p0), .val (.int p1), .val (.int (0 : Int32)), .val (.ref w_UNIFORM), .unset, .unset, .unset] [(.int (p0 &&& (2 : Int32)))]))
    by_cases hc29_3 : (p0 &&& (2 : Int32)) = (0 : Int32)
    · refine bk (fun t k => XS.ifYes X2.here hx rfl (pc0 := 29) (pc' := 36) rfl (hb hby at_29) rfl ((if0 _ _).trans (teq hc29_3).1) (by decide) (by decide) k) ?_
      show F (T2.setTop (mkF m 36 #[.val (.int p0), .val (.int p1), .val (.int (0 : Int32)), .val (.ref w_UNIFORM), .unset, .unset, .unset] []))
      refine bk (fun t k => XS.iloadN X2.here hx rfl (hb hby at_36) rfl k) ?_
      show F (T2.setTop (mkF m 37 #[.val (.int p0), .val (.int p1), .val (.int (0 : Int32)), .val (.ref w_UNIFORM), .unset, .unset, .unset] [(.int p1)]))
      refine bk (fun t k => XS.istore X2.here hx rfl (hb hby at_37) rfl (l' := #[.val (.int p0), .val (.int p1), .val (.int (0 : Int32)), .val (.ref w_UNIFORM), .val (.int p1), .unset, .unset]) rfl k) ?_
      show F (T2.setTop (mkF m 39 #[.val (.int p0), .val (.int p1), .val (.int (0 : Int32)), .val (.ref w_UNIFORM), .val (.int p1), .unset, .unset] []))
      refine bk (fun t k => XS.aloadN X2.here hx rfl (hb hby at_39) rfl rfl k) ?_
      show F (T2.setTop (mkF m 40 #[.val (.int p0), .val (.int p1), .val (.int (0 : Int32)), .val (.ref w_UNIFORM), .val (.int p1), .unset, .unset] [(.ref w_UNIFORM)]))
      refine bk (fun t k => XS.iload X2.here hx rfl (hb hby at_40) rfl k) ?_
      show F (T2.setTop (mkF m 42 #[.val (.int p0), .val (.int p1), .val (.int (0 : Int32)), .val (.ref w_UNIFORM), .val (.int p1), .unset, .unset] [(.int p1), (.ref w_UNIFORM)]))
      obtain ⟨cq4, kq4, q4a, q4b, q4c⟩ := isOf hZ e2 (E_UNIFORM)
      obtain ⟨_, _, ⟨T4, L4, k4, n4⟩, -, X4, ⟨Lc4, hQ4, l4, y4, z4⟩, st4⟩ := X2.virtualBack hx (y := (⟨"com/example/stationary/stationary/SinkRule", "linksSinkToItself", "(I)Z"⟩ : MethodName)) (z := (⟨"com/example/stationary/stationary/SinkRule", "linksSinkToItself", "(I)Z"⟩ : MethodName)) hown (mvT hZ w_3) (mvT hZ w_4) (notFace_of_selects (args := #[]) (mvT hZ w_6)) (mvT hZ w_6) (mvT hZ w_5) (by decide) (backOf (W := 0) (rm1 l Z a0 hw [] w_UNIFORM p1 w_UNIFORM h0 n0 Z0 S_UNIFORM) hZ w_7 w_1 (by decide) (by decide)) q4a q4c (g := (mkF m 42 #[.val (.int p0), .val (.int p1), .val (.int (0 : Int32)), .val (.ref w_UNIFORM), .val (.int p1), .unset, .unset] [(.int p1), (.ref w_UNIFORM)])) rfl (by rw [hml]; rfl) (Steps.refl _) (argsL := [(.int p1)]) (rest := []) (lenOf pd0__I_Z rfl) rfl (by show 2 * 0 + _ ≤ _; exact Nat.le_of_eq rfl) (hb hby at_42) (fun _ _ => ⟨rfl, e2, (by decide : 0 + 0 ≤ _), (by decide : 0 + 0 ≤ _)⟩)
      dsimp only [Pt.U, Pt.locs, Pt.cells, Pt.slots] at X4 l4 y4 z4 st4 hQ4
      subst l4 y4 z4
      obtain ⟨rfl, N4q, e4⟩ := hQ4
      have N4 := Fr.app N0 N4q
      refine bk (fun t k => st4.trans k) ?_
      show F (T4.setTop (mkF m 45 #[.val (.int p0), .val (.int p1), .val (.int (0 : Int32)), .val (.ref w_UNIFORM), .val (.int p1), .unset, .unset] [(.int (own_links w_UNIFORM w_UNIFORM p1))]))
      refine bk (fun t k => XS.istore X4.here hx rfl (hb hby at_45) rfl (l' := #[.val (.int p0), .val (.int p1), .val (.int (0 : Int32)), .val (.ref w_UNIFORM), .val (.int p1), .val (.int (own_links w_UNIFORM w_UNIFORM p1)), .unset]) rfl k) ?_
      show F (T4.setTop (mkF m 47 #[.val (.int p0), .val (.int p1), .val (.int (0 : Int32)), .val (.ref w_UNIFORM), .val (.int p1), .val (.int (own_links w_UNIFORM w_UNIFORM p1)), .unset] []))
      refine bk (fun t k => XS.iloadN X4.here hx rfl (hb hby at_47) rfl k) ?_
      show F (T4.setTop (mkF m 48 #[.val (.int p0), .val (.int p1), .val (.int (0 : Int32)), .val (.ref w_UNIFORM), .val (.int p1), .val (.int (own_links w_UNIFORM w_UNIFORM p1)), .unset] [(.int (0 : Int32))]))
      refine bk (fun t k => XS.ifNo X4.here hx rfl (hb hby at_48) rfl ((if0 _ _).trans (teq (by decide : (0 : Int32) = (0 : Int32))).2) k) ?_
      show F (T4.setTop (mkF m 51 #[.val (.int p0), .val (.int p1), .val (.int (0 : Int32)), .val (.ref w_UNIFORM), .val (.int p1), .val (.int (own_links w_UNIFORM w_UNIFORM p1)), .unset] []))
      refine bk (fun t k => XS.iconst X4.here hx rfl (hb hby at_51) k) ?_
      show F (T4.setTop (mkF m 52 #[.val (.int p0), .val (.int p1), .val (.int (0 : Int32)), .val (.ref w_UNIFORM), .val (.int p1), .val (.int (own_links w_UNIFORM w_UNIFORM p1)), .unset] [(.int (1 : Int32))]))
      refine bk (fun t k => XS.istore X4.here hx rfl (hb hby at_52) rfl (l' := #[.val (.int p0), .val (.int p1), .val (.int (0 : Int32)), .val (.ref w_UNIFORM), .val (.int p1), .val (.int (own_links w_UNIFORM w_UNIFORM p1)), .val (.int (1 : Int32))]) rfl k) ?_
      show F (T4.setTop (mkF m 54 #[.val (.int p0), .val (.int p1), .val (.int (0 : Int32)), .val (.ref w_UNIFORM), .val (.int p1), .val (.int (own_links w_UNIFORM w_UNIFORM p1)), .val (.int (1 : Int32))] []))
      refine bk (fun t k => XS.goto X4.here hx rfl (pc0 := 54) (pc' := 72) rfl (hb hby at_54) (by decide) (by decide) k) ?_
      show F (T4.setTop (mkF m 72 #[.val (.int p0), .val (.int p1), .val (.int (0 : Int32)), .val (.ref w_UNIFORM), .val (.int p1), .val (.int (own_links w_UNIFORM w_UNIFORM p1)), .val (.int (1 : Int32))] []))
      refine bk (fun t k => XS.iload X4.here hx rfl (hb hby at_72) rfl k) ?_
      show F (T4.setTop (mkF m 74 #[.val (.int p0), .val (.int p1), .val (.int (0 : Int32)), .val (.ref w_UNIFORM), .val (.int p1), .val (.int (own_links w_UNIFORM w_UNIFORM p1)), .val (.int (1 : Int32))] [(.int (own_links w_UNIFORM w_UNIFORM p1))]))
      refine bk (fun t k => XS.iload X4.here hx rfl (hb hby at_74) rfl k) ?_
      show F (T4.setTop (mkF m 76 #[.val (.int p0), .val (.int p1), .val (.int (0 : Int32)), .val (.ref w_UNIFORM), .val (.int p1), .val (.int (own_links w_UNIFORM w_UNIFORM p1)), .val (.int (1 : Int32))] [(.int (1 : Int32)), (.int (own_links w_UNIFORM w_UNIFORM p1))]))
      refine bk (fun t k => XS.icmpNo X4.here hx rfl (hb hby at_76) rfl (teq (by simp [own_links, hne, hc3_1, hc29_3] : (own_links w_UNIFORM w_UNIFORM p1) = (1 : Int32))).2 k) ?_
      show F (T4.setTop (mkF m 79 #[.val (.int p0), .val (.int p1), .val (.int (0 : Int32)), .val (.ref w_UNIFORM), .val (.int p1), .val (.int (own_links w_UNIFORM w_UNIFORM p1)), .val (.int (1 : Int32))] []))
      refine bk (fun t k => XS.iconst X4.here hx rfl (hb hby at_79) k) ?_
      show F (T4.setTop (mkF m 80 #[.val (.int p0), .val (.int p1), .val (.int (0 : Int32)), .val (.ref w_UNIFORM), .val (.int p1), .val (.int (own_links w_UNIFORM w_UNIFORM p1)), .val (.int (1 : Int32))] [(.int (1 : Int32))]))
      refine bk (fun t k => XS.goto X4.here hx rfl (pc0 := 80) (pc' := 84) rfl (hb hby at_80) (by decide) (by decide) k) ?_
      show F (T4.setTop (mkF m 84 #[.val (.int p0), .val (.int p1), .val (.int (0 : Int32)), .val (.ref w_UNIFORM), .val (.int p1), .val (.int (own_links w_UNIFORM w_UNIFORM p1)), .val (.int (1 : Int32))] [(.int (1 : Int32))]))
      rw [hF]
      refine own_retZ X4 hx Bd.notSynchronized Bd.returns (hb hby at_84) (by decide) (by decide) ?_
      rw [e4]
      exact ⟨rfl, N4⟩
    · refine bk (fun t k => XS.ifNo X2.here hx rfl (hb hby at_29) rfl ((if0 _ _).trans (feq hc29_3).1) k) ?_
      show F (T2.setTop (mkF m 32 #[.val (.int p0), .val (.int p1), .val (.int (0 : Int32)), .val (.ref w_UNIFORM), .unset, .unset, .unset] []))
      refine bk (fun t k => XS.iconst X2.here hx rfl (hb hby at_32) k) ?_
      show F (T2.setTop (mkF m 33 #[.val (.int p0), .val (.int p1), .val (.int (0 : Int32)), .val (.ref w_UNIFORM), .unset, .unset, .unset] [(.int (1 : Int32))]))
      refine bk (fun t k => XS.goto X2.here hx rfl (pc0 := 33) (pc' := 37) rfl (hb hby at_33) (by decide) (by decide) k) ?_
      show F (T2.setTop (mkF m 37 #[.val (.int p0), .val (.int p1), .val (.int (0 : Int32)), .val (.ref w_UNIFORM), .unset, .unset, .unset] [(.int (1 : Int32))]))
      refine bk (fun t k => XS.istore X2.here hx rfl (hb hby at_37) rfl (l' := #[.val (.int p0), .val (.int p1), .val (.int (0 : Int32)), .val (.ref w_UNIFORM), .val (.int (1 : Int32)), .unset, .unset]) rfl k) ?_
      show F (T2.setTop (mkF m 39 #[.val (.int p0), .val (.int p1), .val (.int (0 : Int32)), .val (.ref w_UNIFORM), .val (.int (1 : Int32)), .unset, .unset] []))
      refine bk (fun t k => XS.aloadN X2.here hx rfl (hb hby at_39) rfl rfl k) ?_
      show F (T2.setTop (mkF m 40 #[.val (.int p0), .val (.int p1), .val (.int (0 : Int32)), .val (.ref w_UNIFORM), .val (.int (1 : Int32)), .unset, .unset] [(.ref w_UNIFORM)]))
      refine bk (fun t k => XS.iload X2.here hx rfl (hb hby at_40) rfl k) ?_
      show F (T2.setTop (mkF m 42 #[.val (.int p0), .val (.int p1), .val (.int (0 : Int32)), .val (.ref w_UNIFORM), .val (.int (1 : Int32)), .unset, .unset] [(.int (1 : Int32)), (.ref w_UNIFORM)]))
      obtain ⟨cq5, kq5, q5a, q5b, q5c⟩ := isOf hZ e2 (E_UNIFORM)
      obtain ⟨_, _, ⟨T5, L5, k5, n5⟩, -, X5, ⟨Lc5, hQ5, l5, y5, z5⟩, st5⟩ := X2.virtualBack hx (y := (⟨"com/example/stationary/stationary/SinkRule", "linksSinkToItself", "(I)Z"⟩ : MethodName)) (z := (⟨"com/example/stationary/stationary/SinkRule", "linksSinkToItself", "(I)Z"⟩ : MethodName)) hown (mvT hZ w_3) (mvT hZ w_4) (notFace_of_selects (args := #[]) (mvT hZ w_6)) (mvT hZ w_6) (mvT hZ w_5) (by decide) (backOf (W := 0) (rm1 l Z a0 hw [] w_UNIFORM (1 : Int32) w_UNIFORM h0 n0 Z0 S_UNIFORM) hZ w_7 w_1 (by decide) (by decide)) q5a q5c (g := (mkF m 42 #[.val (.int p0), .val (.int p1), .val (.int (0 : Int32)), .val (.ref w_UNIFORM), .val (.int (1 : Int32)), .unset, .unset] [(.int (1 : Int32)), (.ref w_UNIFORM)])) rfl (by rw [hml]; rfl) (Steps.refl _) (argsL := [(.int (1 : Int32))]) (rest := []) (lenOf pd0__I_Z rfl) rfl (by show 2 * 0 + _ ≤ _; exact Nat.le_of_eq rfl) (hb hby at_42) (fun _ _ => ⟨rfl, e2, (by decide : 0 + 0 ≤ _), (by decide : 0 + 0 ≤ _)⟩)
      dsimp only [Pt.U, Pt.locs, Pt.cells, Pt.slots] at X5 l5 y5 z5 st5 hQ5
      subst l5 y5 z5
      obtain ⟨rfl, N5q, e5⟩ := hQ5
      have N5 := Fr.app N0 N5q
      refine bk (fun t k => st5.trans k) ?_
      show F (T5.setTop (mkF m 45 #[.val (.int p0), .val (.int p1), .val (.int (0 : Int32)), .val (.ref w_UNIFORM), .val (.int (1 : Int32)), .unset, .unset] [(.int (own_links w_UNIFORM w_UNIFORM (1 : Int32)))]))
      refine bk (fun t k => XS.istore X5.here hx rfl (hb hby at_45) rfl (l' := #[.val (.int p0), .val (.int p1), .val (.int (0 : Int32)), .val (.ref w_UNIFORM), .val (.int (1 : Int32)), .val (.int (own_links w_UNIFORM w_UNIFORM (1 : Int32))), .unset]) rfl k) ?_
      show F (T5.setTop (mkF m 47 #[.val (.int p0), .val (.int p1), .val (.int (0 : Int32)), .val (.ref w_UNIFORM), .val (.int (1 : Int32)), .val (.int (own_links w_UNIFORM w_UNIFORM (1 : Int32))), .unset] []))
      refine bk (fun t k => XS.iloadN X5.here hx rfl (hb hby at_47) rfl k) ?_
      show F (T5.setTop (mkF m 48 #[.val (.int p0), .val (.int p1), .val (.int (0 : Int32)), .val (.ref w_UNIFORM), .val (.int (1 : Int32)), .val (.int (own_links w_UNIFORM w_UNIFORM (1 : Int32))), .unset] [(.int (0 : Int32))]))
      refine bk (fun t k => XS.ifNo X5.here hx rfl (hb hby at_48) rfl ((if0 _ _).trans (teq (by decide : (0 : Int32) = (0 : Int32))).2) k) ?_
      show F (T5.setTop (mkF m 51 #[.val (.int p0), .val (.int p1), .val (.int (0 : Int32)), .val (.ref w_UNIFORM), .val (.int (1 : Int32)), .val (.int (own_links w_UNIFORM w_UNIFORM (1 : Int32))), .unset] []))
      refine bk (fun t k => XS.iconst X5.here hx rfl (hb hby at_51) k) ?_
      show F (T5.setTop (mkF m 52 #[.val (.int p0), .val (.int p1), .val (.int (0 : Int32)), .val (.ref w_UNIFORM), .val (.int (1 : Int32)), .val (.int (own_links w_UNIFORM w_UNIFORM (1 : Int32))), .unset] [(.int (1 : Int32))]))
      refine bk (fun t k => XS.istore X5.here hx rfl (hb hby at_52) rfl (l' := #[.val (.int p0), .val (.int p1), .val (.int (0 : Int32)), .val (.ref w_UNIFORM), .val (.int (1 : Int32)), .val (.int (own_links w_UNIFORM w_UNIFORM (1 : Int32))), .val (.int (1 : Int32))]) rfl k) ?_
      show F (T5.setTop (mkF m 54 #[.val (.int p0), .val (.int p1), .val (.int (0 : Int32)), .val (.ref w_UNIFORM), .val (.int (1 : Int32)), .val (.int (own_links w_UNIFORM w_UNIFORM (1 : Int32))), .val (.int (1 : Int32))] []))
      refine bk (fun t k => XS.goto X5.here hx rfl (pc0 := 54) (pc' := 72) rfl (hb hby at_54) (by decide) (by decide) k) ?_
      show F (T5.setTop (mkF m 72 #[.val (.int p0), .val (.int p1), .val (.int (0 : Int32)), .val (.ref w_UNIFORM), .val (.int (1 : Int32)), .val (.int (own_links w_UNIFORM w_UNIFORM (1 : Int32))), .val (.int (1 : Int32))] []))
      refine bk (fun t k => XS.iload X5.here hx rfl (hb hby at_72) rfl k) ?_
      show F (T5.setTop (mkF m 74 #[.val (.int p0), .val (.int p1), .val (.int (0 : Int32)), .val (.ref w_UNIFORM), .val (.int (1 : Int32)), .val (.int (own_links w_UNIFORM w_UNIFORM (1 : Int32))), .val (.int (1 : Int32))] [(.int (own_links w_UNIFORM w_UNIFORM (1 : Int32)))]))
      refine bk (fun t k => XS.iload X5.here hx rfl (hb hby at_74) rfl k) ?_
      show F (T5.setTop (mkF m 76 #[.val (.int p0), .val (.int p1), .val (.int (0 : Int32)), .val (.ref w_UNIFORM), .val (.int (1 : Int32)), .val (.int (own_links w_UNIFORM w_UNIFORM (1 : Int32))), .val (.int (1 : Int32))] [(.int (1 : Int32)), (.int (own_links w_UNIFORM w_UNIFORM (1 : Int32)))]))
      refine bk (fun t k => XS.icmpNo X5.here hx rfl (hb hby at_76) rfl (teq (by simp [own_links, hne, hc3_1, hc29_3] : (own_links w_UNIFORM w_UNIFORM (1 : Int32)) = (1 : Int32))).2 k) ?_
      show F (T5.setTop (mkF m 79 #[.val (.int p0), .val (.int p1), .val (.int (0 : Int32)), .val (.ref w_UNIFORM), .val (.int (1 : Int32)), .val (.int (own_links w_UNIFORM w_UNIFORM (1 : Int32))), .val (.int (1 : Int32))] []))
      refine bk (fun t k => XS.iconst X5.here hx rfl (hb hby at_79) k) ?_
      show F (T5.setTop (mkF m 80 #[.val (.int p0), .val (.int p1), .val (.int (0 : Int32)), .val (.ref w_UNIFORM), .val (.int (1 : Int32)), .val (.int (own_links w_UNIFORM w_UNIFORM (1 : Int32))), .val (.int (1 : Int32))] [(.int (1 : Int32))]))
      refine bk (fun t k => XS.goto X5.here hx rfl (pc0 := 80) (pc' := 84) rfl (hb hby at_80) (by decide) (by decide) k) ?_
      show F (T5.setTop (mkF m 84 #[.val (.int p0), .val (.int p1), .val (.int (0 : Int32)), .val (.ref w_UNIFORM), .val (.int (1 : Int32)), .val (.int (own_links w_UNIFORM w_UNIFORM (1 : Int32))), .val (.int (1 : Int32))] [(.int (1 : Int32))]))
      rw [hF]
      refine own_retZ X5 hx Bd.notSynchronized Bd.returns (hb hby at_84) (by decide) (by decide) ?_
      rw [e5]
      exact ⟨rfl, N5⟩
  · refine bk (fun t k => XS.ifNo X0.here hx rfl (hb hby at_3) rfl ((if0 _ _).trans (feq hc3_1).1) k) ?_
    show F (s₁.setTop (mkF m 6 #[.val (.int p0), .val (.int p1), .unset, .unset, .unset, .unset, .unset] []))
    refine bk (fun t k => XS.iconst X0.here hx rfl (hb hby at_6) k) ?_
    show F (s₁.setTop (mkF m 7 #[.val (.int p0), .val (.int p1), .unset, .unset, .unset, .unset, .unset] [(.int (1 : Int32))]))
    refine bk (fun t k => XS.goto X0.here hx rfl (pc0 := 7) (pc' := 11) rfl (hb hby at_7) (by decide) (by decide) k) ?_
    show F (s₁.setTop (mkF m 11 #[.val (.int p0), .val (.int p1), .unset, .unset, .unset, .unset, .unset] [(.int (1 : Int32))]))
    refine bk (fun t k => XS.istoreN X0.here hx rfl (hb hby at_11) rfl (l' := #[.val (.int p0), .val (.int p1), .val (.int (1 : Int32)), .unset, .unset, .unset, .unset]) rfl k) ?_
    show F (s₁.setTop (mkF m 12 #[.val (.int p0), .val (.int p1), .val (.int (1 : Int32)), .unset, .unset, .unset, .unset] []))
    refine bk (fun t k => XS.iloadN X0.here hx rfl (hb hby at_12) rfl k) ?_
    show F (s₁.setTop (mkF m 13 #[.val (.int p0), .val (.int p1), .val (.int (1 : Int32)), .unset, .unset, .unset, .unset] [(.int (1 : Int32))]))
    refine bk (fun t k => XS.ifNo X0.here hx rfl (hb hby at_13) rfl ((if0 _ _).trans (feq (by decide : ¬ ((1 : Int32) = (0 : Int32)))).1) k) ?_
    show F (s₁.setTop (mkF m 16 #[.val (.int p0), .val (.int p1), .val (.int (1 : Int32)), .unset, .unset, .unset, .unset] []))
    obtain ⟨T6, X6, e6, st6⟩ := getS2 X0 hx hZ hown (host := "") (Or.inl w_9) Via.refl e0 S_OTHERS (g := (mkF m 16 #[.val (.int p0), .val (.int p1), .val (.int (1 : Int32)), .unset, .unset, .unset, .unset] [])) rfl (hb hby at_16)
    refine bk (fun t k => st6 t k) ?_
    show F (T6.setTop (mkF m 19 #[.val (.int p0), .val (.int p1), .val (.int (1 : Int32)), .unset, .unset, .unset, .unset] [(.ref w_OTHERS)]))
    refine bk (fun t k => XS.goto X6.here hx rfl (pc0 := 19) (pc' := 25) rfl (hb hby at_19) (by decide) (by decide) k) ?_
    show F (T6.setTop (mkF m 25 #[.val (.int p0), .val (.int p1), .val (.int (1 : Int32)), .unset, .unset, .unset, .unset] [(.ref w_OTHERS)]))
    refine bk (fun t k => XS.astoreN X6.here hx rfl (hb hby at_25) rfl rfl (l' := #[.val (.int p0), .val (.int p1), .val (.int (1 : Int32)), .val (.ref w_OTHERS), .unset, .unset, .unset]) rfl k) ?_
    show F (T6.setTop (mkF m 26 #[.val (.int p0), .val (.int p1), .val (.int (1 : Int32)), .val (.ref w_OTHERS), .unset, .unset, .unset] []))
    refine bk (fun t k => XS.iloadN X6.here hx rfl (hb hby at_26) rfl k) ?_
    show F (T6.setTop (mkF m 27 #[.val (.int p0), .val (.int p1), .val (.int (1 : Int32)), .val (.ref w_OTHERS), .unset, .unset, .unset] [(.int p0)]))
    refine bk (fun t k => XS.iconst X6.here hx rfl (hb hby at_27) k) ?_
    show F (T6.setTop (mkF m 28 #[.val (.int p0), .val (.int p1), .val (.int (1 : Int32)), .val (.ref w_OTHERS), .unset, .unset, .unset] [(.int (2 : Int32)), (.int p0)]))
    refine bk (fun t k => XS.iand X6.here hx rfl (hb hby at_28) rfl k) ?_
    show F (T6.setTop (mkF m 29 #[.val (.int p0), .val (.int p1), .val (.int (1 : Int32)), .val (.ref w_OTHERS), .unset, .unset, .unset] [(.int (p0 &&& (2 : Int32)))]))
    by_cases hc29_7 : (p0 &&& (2 : Int32)) = (0 : Int32)
    · refine bk (fun t k => XS.ifYes X6.here hx rfl (pc0 := 29) (pc' := 36) rfl (hb hby at_29) rfl ((if0 _ _).trans (teq hc29_7).1) (by decide) (by decide) k) ?_
      show F (T6.setTop (mkF m 36 #[.val (.int p0), .val (.int p1), .val (.int (1 : Int32)), .val (.ref w_OTHERS), .unset, .unset, .unset] []))
      refine bk (fun t k => XS.iloadN X6.here hx rfl (hb hby at_36) rfl k) ?_
      show F (T6.setTop (mkF m 37 #[.val (.int p0), .val (.int p1), .val (.int (1 : Int32)), .val (.ref w_OTHERS), .unset, .unset, .unset] [(.int p1)]))
      refine bk (fun t k => XS.istore X6.here hx rfl (hb hby at_37) rfl (l' := #[.val (.int p0), .val (.int p1), .val (.int (1 : Int32)), .val (.ref w_OTHERS), .val (.int p1), .unset, .unset]) rfl k) ?_
      show F (T6.setTop (mkF m 39 #[.val (.int p0), .val (.int p1), .val (.int (1 : Int32)), .val (.ref w_OTHERS), .val (.int p1), .unset, .unset] []))
      refine bk (fun t k => XS.aloadN X6.here hx rfl (hb hby at_39) rfl rfl k) ?_
      show F (T6.setTop (mkF m 40 #[.val (.int p0), .val (.int p1), .val (.int (1 : Int32)), .val (.ref w_OTHERS), .val (.int p1), .unset, .unset] [(.ref w_OTHERS)]))
      refine bk (fun t k => XS.iload X6.here hx rfl (hb hby at_40) rfl k) ?_
      show F (T6.setTop (mkF m 42 #[.val (.int p0), .val (.int p1), .val (.int (1 : Int32)), .val (.ref w_OTHERS), .val (.int p1), .unset, .unset] [(.int p1), (.ref w_OTHERS)]))
      obtain ⟨cq8, kq8, q8a, q8b, q8c⟩ := isOf hZ e6 (E_OTHERS)
      obtain ⟨_, _, ⟨T8, L8, k8, n8⟩, -, X8, ⟨Lc8, hQ8, l8, y8, z8⟩, st8⟩ := X6.virtualBack hx (y := (⟨"com/example/stationary/stationary/SinkRule", "linksSinkToItself", "(I)Z"⟩ : MethodName)) (z := (⟨"com/example/stationary/stationary/SinkRule", "linksSinkToItself", "(I)Z"⟩ : MethodName)) hown (mvT hZ w_3) (mvT hZ w_4) (notFace_of_selects (args := #[]) (mvT hZ w_6)) (mvT hZ w_6) (mvT hZ w_5) (by decide) (backOf (W := 0) (rm1 l Z a0 hw [] w_OTHERS p1 w_UNIFORM h0 n0 Z0 S_UNIFORM) hZ w_7 w_1 (by decide) (by decide)) q8a q8c (g := (mkF m 42 #[.val (.int p0), .val (.int p1), .val (.int (1 : Int32)), .val (.ref w_OTHERS), .val (.int p1), .unset, .unset] [(.int p1), (.ref w_OTHERS)])) rfl (by rw [hml]; rfl) (Steps.refl _) (argsL := [(.int p1)]) (rest := []) (lenOf pd0__I_Z rfl) rfl (by show 2 * 0 + _ ≤ _; exact Nat.le_of_eq rfl) (hb hby at_42) (fun _ _ => ⟨rfl, e6, (by decide : 0 + 0 ≤ _), (by decide : 0 + 0 ≤ _)⟩)
      dsimp only [Pt.U, Pt.locs, Pt.cells, Pt.slots] at X8 l8 y8 z8 st8 hQ8
      subst l8 y8 z8
      obtain ⟨rfl, N8q, e8⟩ := hQ8
      have N8 := Fr.app N0 N8q
      refine bk (fun t k => st8.trans k) ?_
      show F (T8.setTop (mkF m 45 #[.val (.int p0), .val (.int p1), .val (.int (1 : Int32)), .val (.ref w_OTHERS), .val (.int p1), .unset, .unset] [(.int (own_links w_OTHERS w_UNIFORM p1))]))
      refine bk (fun t k => XS.istore X8.here hx rfl (hb hby at_45) rfl (l' := #[.val (.int p0), .val (.int p1), .val (.int (1 : Int32)), .val (.ref w_OTHERS), .val (.int p1), .val (.int (own_links w_OTHERS w_UNIFORM p1)), .unset]) rfl k) ?_
      show F (T8.setTop (mkF m 47 #[.val (.int p0), .val (.int p1), .val (.int (1 : Int32)), .val (.ref w_OTHERS), .val (.int p1), .val (.int (own_links w_OTHERS w_UNIFORM p1)), .unset] []))
      refine bk (fun t k => XS.iloadN X8.here hx rfl (hb hby at_47) rfl k) ?_
      show F (T8.setTop (mkF m 48 #[.val (.int p0), .val (.int p1), .val (.int (1 : Int32)), .val (.ref w_OTHERS), .val (.int p1), .val (.int (own_links w_OTHERS w_UNIFORM p1)), .unset] [(.int (1 : Int32))]))
      refine bk (fun t k => XS.ifYes X8.here hx rfl (pc0 := 48) (pc' := 57) rfl (hb hby at_48) rfl ((if0 _ _).trans (feq (by decide : ¬ ((1 : Int32) = (0 : Int32)))).2) (by decide) (by decide) k) ?_
      show F (T8.setTop (mkF m 57 #[.val (.int p0), .val (.int p1), .val (.int (1 : Int32)), .val (.ref w_OTHERS), .val (.int p1), .val (.int (own_links w_OTHERS w_UNIFORM p1)), .unset] []))
      refine bk (fun t k => XS.iload X8.here hx rfl (hb hby at_57) rfl k) ?_
      show F (T8.setTop (mkF m 59 #[.val (.int p0), .val (.int p1), .val (.int (1 : Int32)), .val (.ref w_OTHERS), .val (.int p1), .val (.int (own_links w_OTHERS w_UNIFORM p1)), .unset] [(.int p1)]))
      refine bk (fun t k => XS.iconst X8.here hx rfl (hb hby at_59) k) ?_
      show F (T8.setTop (mkF m 60 #[.val (.int p0), .val (.int p1), .val (.int (1 : Int32)), .val (.ref w_OTHERS), .val (.int p1), .val (.int (own_links w_OTHERS w_UNIFORM p1)), .unset] [(.int (1 : Int32)), (.int p1)]))
      by_cases hc60_9 : p1 = (1 : Int32)
      · refine bk (fun t k => XS.icmpNo X8.here hx rfl (hb hby at_60) rfl (teq hc60_9).2 k) ?_
        show F (T8.setTop (mkF m 63 #[.val (.int p0), .val (.int p1), .val (.int (1 : Int32)), .val (.ref w_OTHERS), .val (.int p1), .val (.int (own_links w_OTHERS w_UNIFORM p1)), .unset] []))
        refine bk (fun t k => XS.iconst X8.here hx rfl (hb hby at_63) k) ?_
        show F (T8.setTop (mkF m 64 #[.val (.int p0), .val (.int p1), .val (.int (1 : Int32)), .val (.ref w_OTHERS), .val (.int p1), .val (.int (own_links w_OTHERS w_UNIFORM p1)), .unset] [(.int (1 : Int32))]))
        refine bk (fun t k => XS.istore X8.here hx rfl (hb hby at_64) rfl (l' := #[.val (.int p0), .val (.int p1), .val (.int (1 : Int32)), .val (.ref w_OTHERS), .val (.int p1), .val (.int (own_links w_OTHERS w_UNIFORM p1)), .val (.int (1 : Int32))]) rfl k) ?_
        show F (T8.setTop (mkF m 66 #[.val (.int p0), .val (.int p1), .val (.int (1 : Int32)), .val (.ref w_OTHERS), .val (.int p1), .val (.int (own_links w_OTHERS w_UNIFORM p1)), .val (.int (1 : Int32))] []))
        refine bk (fun t k => XS.goto X8.here hx rfl (pc0 := 66) (pc' := 72) rfl (hb hby at_66) (by decide) (by decide) k) ?_
        show F (T8.setTop (mkF m 72 #[.val (.int p0), .val (.int p1), .val (.int (1 : Int32)), .val (.ref w_OTHERS), .val (.int p1), .val (.int (own_links w_OTHERS w_UNIFORM p1)), .val (.int (1 : Int32))] []))
        refine bk (fun t k => XS.iload X8.here hx rfl (hb hby at_72) rfl k) ?_
        show F (T8.setTop (mkF m 74 #[.val (.int p0), .val (.int p1), .val (.int (1 : Int32)), .val (.ref w_OTHERS), .val (.int p1), .val (.int (own_links w_OTHERS w_UNIFORM p1)), .val (.int (1 : Int32))] [(.int (own_links w_OTHERS w_UNIFORM p1))]))
        refine bk (fun t k => XS.iload X8.here hx rfl (hb hby at_74) rfl k) ?_
        show F (T8.setTop (mkF m 76 #[.val (.int p0), .val (.int p1), .val (.int (1 : Int32)), .val (.ref w_OTHERS), .val (.int p1), .val (.int (own_links w_OTHERS w_UNIFORM p1)), .val (.int (1 : Int32))] [(.int (1 : Int32)), (.int (own_links w_OTHERS w_UNIFORM p1))]))
        refine bk (fun t k => XS.icmpNo X8.here hx rfl (hb hby at_76) rfl (teq (by simp [own_links, hne, hc3_1, hc29_7, hc60_9] : (own_links w_OTHERS w_UNIFORM p1) = (1 : Int32))).2 k) ?_
        show F (T8.setTop (mkF m 79 #[.val (.int p0), .val (.int p1), .val (.int (1 : Int32)), .val (.ref w_OTHERS), .val (.int p1), .val (.int (own_links w_OTHERS w_UNIFORM p1)), .val (.int (1 : Int32))] []))
        refine bk (fun t k => XS.iconst X8.here hx rfl (hb hby at_79) k) ?_
        show F (T8.setTop (mkF m 80 #[.val (.int p0), .val (.int p1), .val (.int (1 : Int32)), .val (.ref w_OTHERS), .val (.int p1), .val (.int (own_links w_OTHERS w_UNIFORM p1)), .val (.int (1 : Int32))] [(.int (1 : Int32))]))
        refine bk (fun t k => XS.goto X8.here hx rfl (pc0 := 80) (pc' := 84) rfl (hb hby at_80) (by decide) (by decide) k) ?_
        show F (T8.setTop (mkF m 84 #[.val (.int p0), .val (.int p1), .val (.int (1 : Int32)), .val (.ref w_OTHERS), .val (.int p1), .val (.int (own_links w_OTHERS w_UNIFORM p1)), .val (.int (1 : Int32))] [(.int (1 : Int32))]))
        rw [hF]
        refine own_retZ X8 hx Bd.notSynchronized Bd.returns (hb hby at_84) (by decide) (by decide) ?_
        rw [e8]
        exact ⟨rfl, N8⟩
      · refine bk (fun t k => XS.icmpYes X8.here hx rfl (pc0 := 60) (pc' := 69) rfl (hb hby at_60) rfl (feq hc60_9).2 (by decide) (by decide) k) ?_
        show F (T8.setTop (mkF m 69 #[.val (.int p0), .val (.int p1), .val (.int (1 : Int32)), .val (.ref w_OTHERS), .val (.int p1), .val (.int (own_links w_OTHERS w_UNIFORM p1)), .unset] []))
        refine bk (fun t k => XS.iconst X8.here hx rfl (hb hby at_69) k) ?_
        show F (T8.setTop (mkF m 70 #[.val (.int p0), .val (.int p1), .val (.int (1 : Int32)), .val (.ref w_OTHERS), .val (.int p1), .val (.int (own_links w_OTHERS w_UNIFORM p1)), .unset] [(.int (0 : Int32))]))
        refine bk (fun t k => XS.istore X8.here hx rfl (hb hby at_70) rfl (l' := #[.val (.int p0), .val (.int p1), .val (.int (1 : Int32)), .val (.ref w_OTHERS), .val (.int p1), .val (.int (own_links w_OTHERS w_UNIFORM p1)), .val (.int (0 : Int32))]) rfl k) ?_
        show F (T8.setTop (mkF m 72 #[.val (.int p0), .val (.int p1), .val (.int (1 : Int32)), .val (.ref w_OTHERS), .val (.int p1), .val (.int (own_links w_OTHERS w_UNIFORM p1)), .val (.int (0 : Int32))] []))
        refine bk (fun t k => XS.iload X8.here hx rfl (hb hby at_72) rfl k) ?_
        show F (T8.setTop (mkF m 74 #[.val (.int p0), .val (.int p1), .val (.int (1 : Int32)), .val (.ref w_OTHERS), .val (.int p1), .val (.int (own_links w_OTHERS w_UNIFORM p1)), .val (.int (0 : Int32))] [(.int (own_links w_OTHERS w_UNIFORM p1))]))
        refine bk (fun t k => XS.iload X8.here hx rfl (hb hby at_74) rfl k) ?_
        show F (T8.setTop (mkF m 76 #[.val (.int p0), .val (.int p1), .val (.int (1 : Int32)), .val (.ref w_OTHERS), .val (.int p1), .val (.int (own_links w_OTHERS w_UNIFORM p1)), .val (.int (0 : Int32))] [(.int (0 : Int32)), (.int (own_links w_OTHERS w_UNIFORM p1))]))
        refine bk (fun t k => XS.icmpNo X8.here hx rfl (hb hby at_76) rfl (teq (by simp [own_links, hne, hc3_1, hc29_7, hc60_9] : (own_links w_OTHERS w_UNIFORM p1) = (0 : Int32))).2 k) ?_
        show F (T8.setTop (mkF m 79 #[.val (.int p0), .val (.int p1), .val (.int (1 : Int32)), .val (.ref w_OTHERS), .val (.int p1), .val (.int (own_links w_OTHERS w_UNIFORM p1)), .val (.int (0 : Int32))] []))
        refine bk (fun t k => XS.iconst X8.here hx rfl (hb hby at_79) k) ?_
        show F (T8.setTop (mkF m 80 #[.val (.int p0), .val (.int p1), .val (.int (1 : Int32)), .val (.ref w_OTHERS), .val (.int p1), .val (.int (own_links w_OTHERS w_UNIFORM p1)), .val (.int (0 : Int32))] [(.int (1 : Int32))]))
        refine bk (fun t k => XS.goto X8.here hx rfl (pc0 := 80) (pc' := 84) rfl (hb hby at_80) (by decide) (by decide) k) ?_
        show F (T8.setTop (mkF m 84 #[.val (.int p0), .val (.int p1), .val (.int (1 : Int32)), .val (.ref w_OTHERS), .val (.int p1), .val (.int (own_links w_OTHERS w_UNIFORM p1)), .val (.int (0 : Int32))] [(.int (1 : Int32))]))
        rw [hF]
        refine own_retZ X8 hx Bd.notSynchronized Bd.returns (hb hby at_84) (by decide) (by decide) ?_
        rw [e8]
        exact ⟨rfl, N8⟩
    · refine bk (fun t k => XS.ifNo X6.here hx rfl (hb hby at_29) rfl ((if0 _ _).trans (feq hc29_7).1) k) ?_
      show F (T6.setTop (mkF m 32 #[.val (.int p0), .val (.int p1), .val (.int (1 : Int32)), .val (.ref w_OTHERS), .unset, .unset, .unset] []))
      refine bk (fun t k => XS.iconst X6.here hx rfl (hb hby at_32) k) ?_
      show F (T6.setTop (mkF m 33 #[.val (.int p0), .val (.int p1), .val (.int (1 : Int32)), .val (.ref w_OTHERS), .unset, .unset, .unset] [(.int (1 : Int32))]))
      refine bk (fun t k => XS.goto X6.here hx rfl (pc0 := 33) (pc' := 37) rfl (hb hby at_33) (by decide) (by decide) k) ?_
      show F (T6.setTop (mkF m 37 #[.val (.int p0), .val (.int p1), .val (.int (1 : Int32)), .val (.ref w_OTHERS), .unset, .unset, .unset] [(.int (1 : Int32))]))
      refine bk (fun t k => XS.istore X6.here hx rfl (hb hby at_37) rfl (l' := #[.val (.int p0), .val (.int p1), .val (.int (1 : Int32)), .val (.ref w_OTHERS), .val (.int (1 : Int32)), .unset, .unset]) rfl k) ?_
      show F (T6.setTop (mkF m 39 #[.val (.int p0), .val (.int p1), .val (.int (1 : Int32)), .val (.ref w_OTHERS), .val (.int (1 : Int32)), .unset, .unset] []))
      refine bk (fun t k => XS.aloadN X6.here hx rfl (hb hby at_39) rfl rfl k) ?_
      show F (T6.setTop (mkF m 40 #[.val (.int p0), .val (.int p1), .val (.int (1 : Int32)), .val (.ref w_OTHERS), .val (.int (1 : Int32)), .unset, .unset] [(.ref w_OTHERS)]))
      refine bk (fun t k => XS.iload X6.here hx rfl (hb hby at_40) rfl k) ?_
      show F (T6.setTop (mkF m 42 #[.val (.int p0), .val (.int p1), .val (.int (1 : Int32)), .val (.ref w_OTHERS), .val (.int (1 : Int32)), .unset, .unset] [(.int (1 : Int32)), (.ref w_OTHERS)]))
      obtain ⟨cq10, kq10, q10a, q10b, q10c⟩ := isOf hZ e6 (E_OTHERS)
      obtain ⟨_, _, ⟨T10, L10, k10, n10⟩, -, X10, ⟨Lc10, hQ10, l10, y10, z10⟩, st10⟩ := X6.virtualBack hx (y := (⟨"com/example/stationary/stationary/SinkRule", "linksSinkToItself", "(I)Z"⟩ : MethodName)) (z := (⟨"com/example/stationary/stationary/SinkRule", "linksSinkToItself", "(I)Z"⟩ : MethodName)) hown (mvT hZ w_3) (mvT hZ w_4) (notFace_of_selects (args := #[]) (mvT hZ w_6)) (mvT hZ w_6) (mvT hZ w_5) (by decide) (backOf (W := 0) (rm1 l Z a0 hw [] w_OTHERS (1 : Int32) w_UNIFORM h0 n0 Z0 S_UNIFORM) hZ w_7 w_1 (by decide) (by decide)) q10a q10c (g := (mkF m 42 #[.val (.int p0), .val (.int p1), .val (.int (1 : Int32)), .val (.ref w_OTHERS), .val (.int (1 : Int32)), .unset, .unset] [(.int (1 : Int32)), (.ref w_OTHERS)])) rfl (by rw [hml]; rfl) (Steps.refl _) (argsL := [(.int (1 : Int32))]) (rest := []) (lenOf pd0__I_Z rfl) rfl (by show 2 * 0 + _ ≤ _; exact Nat.le_of_eq rfl) (hb hby at_42) (fun _ _ => ⟨rfl, e6, (by decide : 0 + 0 ≤ _), (by decide : 0 + 0 ≤ _)⟩)
      dsimp only [Pt.U, Pt.locs, Pt.cells, Pt.slots] at X10 l10 y10 z10 st10 hQ10
      subst l10 y10 z10
      obtain ⟨rfl, N10q, e10⟩ := hQ10
      have N10 := Fr.app N0 N10q
      refine bk (fun t k => st10.trans k) ?_
      show F (T10.setTop (mkF m 45 #[.val (.int p0), .val (.int p1), .val (.int (1 : Int32)), .val (.ref w_OTHERS), .val (.int (1 : Int32)), .unset, .unset] [(.int (own_links w_OTHERS w_UNIFORM (1 : Int32)))]))
      refine bk (fun t k => XS.istore X10.here hx rfl (hb hby at_45) rfl (l' := #[.val (.int p0), .val (.int p1), .val (.int (1 : Int32)), .val (.ref w_OTHERS), .val (.int (1 : Int32)), .val (.int (own_links w_OTHERS w_UNIFORM (1 : Int32))), .unset]) rfl k) ?_
      show F (T10.setTop (mkF m 47 #[.val (.int p0), .val (.int p1), .val (.int (1 : Int32)), .val (.ref w_OTHERS), .val (.int (1 : Int32)), .val (.int (own_links w_OTHERS w_UNIFORM (1 : Int32))), .unset] []))
      refine bk (fun t k => XS.iloadN X10.here hx rfl (hb hby at_47) rfl k) ?_
      show F (T10.setTop (mkF m 48 #[.val (.int p0), .val (.int p1), .val (.int (1 : Int32)), .val (.ref w_OTHERS), .val (.int (1 : Int32)), .val (.int (own_links w_OTHERS w_UNIFORM (1 : Int32))), .unset] [(.int (1 : Int32))]))
      refine bk (fun t k => XS.ifYes X10.here hx rfl (pc0 := 48) (pc' := 57) rfl (hb hby at_48) rfl ((if0 _ _).trans (feq (by decide : ¬ ((1 : Int32) = (0 : Int32)))).2) (by decide) (by decide) k) ?_
      show F (T10.setTop (mkF m 57 #[.val (.int p0), .val (.int p1), .val (.int (1 : Int32)), .val (.ref w_OTHERS), .val (.int (1 : Int32)), .val (.int (own_links w_OTHERS w_UNIFORM (1 : Int32))), .unset] []))
      refine bk (fun t k => XS.iload X10.here hx rfl (hb hby at_57) rfl k) ?_
      show F (T10.setTop (mkF m 59 #[.val (.int p0), .val (.int p1), .val (.int (1 : Int32)), .val (.ref w_OTHERS), .val (.int (1 : Int32)), .val (.int (own_links w_OTHERS w_UNIFORM (1 : Int32))), .unset] [(.int (1 : Int32))]))
      refine bk (fun t k => XS.iconst X10.here hx rfl (hb hby at_59) k) ?_
      show F (T10.setTop (mkF m 60 #[.val (.int p0), .val (.int p1), .val (.int (1 : Int32)), .val (.ref w_OTHERS), .val (.int (1 : Int32)), .val (.int (own_links w_OTHERS w_UNIFORM (1 : Int32))), .unset] [(.int (1 : Int32)), (.int (1 : Int32))]))
      refine bk (fun t k => XS.icmpNo X10.here hx rfl (hb hby at_60) rfl (teq (by decide : (1 : Int32) = (1 : Int32))).2 k) ?_
      show F (T10.setTop (mkF m 63 #[.val (.int p0), .val (.int p1), .val (.int (1 : Int32)), .val (.ref w_OTHERS), .val (.int (1 : Int32)), .val (.int (own_links w_OTHERS w_UNIFORM (1 : Int32))), .unset] []))
      refine bk (fun t k => XS.iconst X10.here hx rfl (hb hby at_63) k) ?_
      show F (T10.setTop (mkF m 64 #[.val (.int p0), .val (.int p1), .val (.int (1 : Int32)), .val (.ref w_OTHERS), .val (.int (1 : Int32)), .val (.int (own_links w_OTHERS w_UNIFORM (1 : Int32))), .unset] [(.int (1 : Int32))]))
      refine bk (fun t k => XS.istore X10.here hx rfl (hb hby at_64) rfl (l' := #[.val (.int p0), .val (.int p1), .val (.int (1 : Int32)), .val (.ref w_OTHERS), .val (.int (1 : Int32)), .val (.int (own_links w_OTHERS w_UNIFORM (1 : Int32))), .val (.int (1 : Int32))]) rfl k) ?_
      show F (T10.setTop (mkF m 66 #[.val (.int p0), .val (.int p1), .val (.int (1 : Int32)), .val (.ref w_OTHERS), .val (.int (1 : Int32)), .val (.int (own_links w_OTHERS w_UNIFORM (1 : Int32))), .val (.int (1 : Int32))] []))
      refine bk (fun t k => XS.goto X10.here hx rfl (pc0 := 66) (pc' := 72) rfl (hb hby at_66) (by decide) (by decide) k) ?_
      show F (T10.setTop (mkF m 72 #[.val (.int p0), .val (.int p1), .val (.int (1 : Int32)), .val (.ref w_OTHERS), .val (.int (1 : Int32)), .val (.int (own_links w_OTHERS w_UNIFORM (1 : Int32))), .val (.int (1 : Int32))] []))
      refine bk (fun t k => XS.iload X10.here hx rfl (hb hby at_72) rfl k) ?_
      show F (T10.setTop (mkF m 74 #[.val (.int p0), .val (.int p1), .val (.int (1 : Int32)), .val (.ref w_OTHERS), .val (.int (1 : Int32)), .val (.int (own_links w_OTHERS w_UNIFORM (1 : Int32))), .val (.int (1 : Int32))] [(.int (own_links w_OTHERS w_UNIFORM (1 : Int32)))]))
      refine bk (fun t k => XS.iload X10.here hx rfl (hb hby at_74) rfl k) ?_
      show F (T10.setTop (mkF m 76 #[.val (.int p0), .val (.int p1), .val (.int (1 : Int32)), .val (.ref w_OTHERS), .val (.int (1 : Int32)), .val (.int (own_links w_OTHERS w_UNIFORM (1 : Int32))), .val (.int (1 : Int32))] [(.int (1 : Int32)), (.int (own_links w_OTHERS w_UNIFORM (1 : Int32)))]))
      refine bk (fun t k => XS.icmpNo X10.here hx rfl (hb hby at_76) rfl (teq (by simp [own_links, hne, hc3_1, hc29_7] : (own_links w_OTHERS w_UNIFORM (1 : Int32)) = (1 : Int32))).2 k) ?_
      show F (T10.setTop (mkF m 79 #[.val (.int p0), .val (.int p1), .val (.int (1 : Int32)), .val (.ref w_OTHERS), .val (.int (1 : Int32)), .val (.int (own_links w_OTHERS w_UNIFORM (1 : Int32))), .val (.int (1 : Int32))] []))
      refine bk (fun t k => XS.iconst X10.here hx rfl (hb hby at_79) k) ?_
      show F (T10.setTop (mkF m 80 #[.val (.int p0), .val (.int p1), .val (.int (1 : Int32)), .val (.ref w_OTHERS), .val (.int (1 : Int32)), .val (.int (own_links w_OTHERS w_UNIFORM (1 : Int32))), .val (.int (1 : Int32))] [(.int (1 : Int32))]))
      refine bk (fun t k => XS.goto X10.here hx rfl (pc0 := 80) (pc' := 84) rfl (hb hby at_80) (by decide) (by decide) k) ?_
      show F (T10.setTop (mkF m 84 #[.val (.int p0), .val (.int p1), .val (.int (1 : Int32)), .val (.ref w_OTHERS), .val (.int (1 : Int32)), .val (.int (own_links w_OTHERS w_UNIFORM (1 : Int32))), .val (.int (1 : Int32))] [(.int (1 : Int32))]))
      rw [hF]
      refine own_retZ X10 hx Bd.notSynchronized Bd.returns (hb hby at_84) (by decide) (by decide) ?_
      rw [e10]
      exact ⟨rfl, N10⟩
set_option maxRecDepth 65536 in
set_option maxHeartbeats 40000000 in
theorem comes_1 {Post : Tables → Env → Array Value → State → Outcome → State → Prop} (hpost : ∀ tb e args s v u, (limb_1_1.after args s (.returned v) u = true ∧ limb_1_2.after args s (.returned v) u = true ∧ True) → FrameEnd s (.returned v) u (Jvm.fieldLocs frame_1_writes args s ++ Jvm.arrayLocs frame_1_arrays args s ++ Jvm.staticLocs frame_1_statics s) 0 0 → Post tb e args s (.returned v) u) :
    ArmFor flags0 classFile x code maxLocals ret World_1 tables_1 room_1 Calls_1 rest_1 Pre_1 Post := by
  intro l hfl _ _ p e ha hc hk s m args below hf hA hF happ hP
  obtain ⟨hcalls, hrest, hpre⟩ := hP
  obtain ⟨-, -, -, hnamed, -, -, -, hat⟩ := (Spec.applies_iff hf).mp happ
  obtain ⟨hg, hn⟩ := and_e (Cond.before_iff.mp (show (Jvm.Cond.and given_1 narrow_1).before args s = true from hpre))
  obtain ⟨hcount, hk0⟩ := and_e hg
  obtain ⟨hi0, hk1⟩ := and_e hk0
  have hi1 := hk1
  obtain ⟨w0, w1, rfl⟩ : ∃ w0 w1 : Value, args = #[w0, w1] := by
    have hs : args.size = 2 := by simpa [Cond.value, given_1] using hcount
    obtain ⟨L⟩ := args
    match L, hs with
    | [w0, w1], _ => exact ⟨w0, w1, rfl⟩
  have hw := fun d (hd : d ∈ tables_1) => atoms_spec (ws := Jvm.Cond.code x code maxLocals ret :: tables_1) hat d (List.mem_cons_of_mem _ hd)
  obtain ⟨i0, ei0⟩ := is_v hi0
  obtain rfl : w0 = (.int i0) := Option.some.inj ei0
  obtain ⟨i1, ei1⟩ := is_v hi1
  obtain rfl : w1 = (.int i1) := Option.some.inj ei1
  obtain ⟨na1, nb1⟩ := and_e hn
  obtain ⟨na2, nb2⟩ := and_e nb1
  obtain ⟨na3, nb3⟩ := and_e nb2
  obtain ⟨w_UNIFORM, ev_UNIFORM⟩ := exa_v na1
  have S_UNIFORM : Sta s s.heap "com/example/stationary/stationary/SinkRule" "UNIFORM" "Lcom/example/stationary/stationary/SinkRule;" (.ref w_UNIFORM) := Sta.start ev_UNIFORM (Or.inr ⟨(hw _ (List.mem_of_getElem? (i := 1) rfl)), (hw _ (List.mem_of_getElem? (i := 2) rfl))⟩)
  have E_UNIFORM : Exa s s.heap w_UNIFORM "com/example/stationary/stationary/SinkRule" := Exa.start ev_UNIFORM na1
  have O0_UNIFORM : Fld s s.heap w_UNIFORM "java/lang/Enum" "ordinal" "I" (.int (0 : Int32)) := own_fldAt ev_UNIFORM nb3
  obtain ⟨w_OTHERS, ev_OTHERS⟩ := exa_v na2
  have S_OTHERS : Sta s s.heap "com/example/stationary/stationary/SinkRule" "OTHERS" "Lcom/example/stationary/stationary/SinkRule;" (.ref w_OTHERS) := Sta.start ev_OTHERS (Or.inr ⟨(hw _ (List.mem_of_getElem? (i := 1) rfl)), (hw _ (List.mem_of_getElem? (i := 10) rfl))⟩)
  have E_OTHERS : Exa s s.heap w_OTHERS "com/example/stationary/stationary/SinkRule" := Exa.start ev_OTHERS na2
  have O0_OTHERS : Fld s s.heap w_OTHERS "java/lang/Enum" "ordinal" "I" (.int (1 : Int32)) := own_fldAt ev_OTHERS na3
  obtain ⟨n, o, h1, h2, h3, _, L, rfl, ⟨rfl, N⟩, hq⟩ := rm0 l s _ hw tables_1 i0 i1 w_UNIFORM w_OTHERS s.heap s.heap.size (Nat.le_refl _) S_UNIFORM S_OTHERS E_UNIFORM E_OTHERS (O0_OTHERS.ne O0_UNIFORM (by simp)) p e ha hc hk s m _ below hf ((Spec.applies_iff_loose hf).mp happ).1 ⟨rfl, State.Warmed39.refl s, rfl⟩ trivial
  refine ⟨n, _, h1, h2, h3, hpost _ _ _ _ _ _ ⟨Cond.after_iff.mpr rfl, Cond.after_iff.mpr (eq_i res_at (Term.int_eval (1)) rfl), trivial⟩ ⟨hq.1, hq.2.1, (hq.2.2.sift fun y hy => Or.inr (N y hy)).mono (by decide) (by decide)⟩⟩
theorem main_1_1 : Claimed_1_1 := comes_1 fun _ _ _ _ _ _ h hF => ⟨h.1, hF⟩
theorem main_1_2 : Claimed_1_2 := comes_1 fun _ _ _ _ _ _ h hF => ⟨h.2.1, hF⟩
end Jvm.Pilot.@@N@@
namespace Jvm.Pilot.@@N@@
open Jvm Jvm.ClassFile Sem Op Lib Jvm.Free Jvm.Stand Jvm.Pilot.@@N@@.Jvm.D
/-! MADE BY PROGRAM (witnessworld.py) out of the Statement's table words and the real class files: 12 classes; the members and pool entries that the words name. The judged class is class 1, her method 1. -/
namespace start1
open Jvm.ClassFile
def u (s : String) : CpInfo := .utf8 (stringToUtf16 s)
/-- a pool by its gaps: so many unusable entries, then the entry; so many at the end -/
def gap : Nat → List CpInfo → List CpInfo
  | 0, r => r
  | n + 1, r => .unusable :: gap n r
def poolList (es : List (Nat × CpInfo)) (last : Nat) : List CpInfo := es.foldr (fun e r => gap e.1 (e.2 :: r)) (gap last [])
def pool (es : List (Nat × CpInfo)) (last : Nat) : Array CpInfo := ⟨poolList es last⟩
def fileOf (pool : Array CpInfo) (this : Nat) (attrs : Array Attribute := #[]) (ms : Array MethodInfo := #[]) (fl : Nat := 33) (sup : Nat := 0) (ifs : Array Nat := #[]) (fds : Array FieldInfo := #[]) : ClassFile where
  minorVersion := 0
  majorVersion := 65
  constantPool := pool
  accessFlags := fl
  thisClass := this
  superClass := sup
  interfaces := ifs
  fields := fds
  methods := ms
  attributes := attrs
def plain (name : String) (sup : Option ClassId) : Class where
  name := name
  kind := .ordinary
  loader := none
  accessFlags := 33
  super := sup
  interfaces := #[]
  cf := none
  fields := #[]
  methods := #[]
  instanceTypes := #[]
  staticTypes := #[]
  resolved := #[]
  callSites := []
  init := .initialized
  statics := none
  mirror := none

def pool0 : Array CpInfo := pool [(5, u "<init>"), (0, u "()V"), (1, .class_ 10), (1, u "java/lang/Object")] 113

def k0m0 : Method := { name := "<init>", desc := "()V", sig := { parameters := [], returnType := none }, accessFlags := 1, code := none }
/-- java/lang/Object -/
def k0 : Class := { plain "java/lang/Object" none with
  accessFlags := 33
  interfaces := #[]
  cf := some (fileOf pool0 8 #[] #[{ accessFlags := 1, nameIndex := 5, descriptorIndex := 6, attributes := #[] }] 33 0 #[] #[])
  fields := #[]
  methods := #[k0m0]
  instanceTypes := #[]
  staticTypes := #[]
  resolved := Array.replicate 124 none
  statics := none }

def pool1 : Array CpInfo := pool [(2, .class_ 4), (1, u "java/lang/Object"), (0, u "<init>"), (0, u "()V"), (0, .fieldref 8 9), (0, .class_ 10), (0, .nameAndType 11 12), (0, u "com/example/stationary/stationary/SinkRule"), (0, u "OTHERS"), (0, u "Lcom/example/stationary/stationary/SinkRule;"), (0, .fieldref 8 14), (0, .nameAndType 15 12), (0, u "UNIFORM"), (0, .methodref 8 17), (0, .nameAndType 18 19), (0, u "linksSinkToItself"), (0, u "(I)Z"), (0, .class_ 21), (0, u "com/example/stationary/stationary/SinkRuleLinksSinkToItselfPinLaw"), (2, u "law"), (0, u "(II)Z")] 3

def k1m0 : Method := { name := "<init>", desc := "()V", sig := { parameters := [], returnType := none }, accessFlags := 1, code := none }
def k1c1 : Code := { maxStack := 2, maxLocals := 7, code := code, exceptionTable := #[], attributes := #[] }
def k1m1 : Method := { name := "law", desc := "(II)Z", sig := { parameters := [.int, .int], returnType := some .boolean }, accessFlags := 9, code := some k1c1 }
/-- com/example/stationary/stationary/SinkRuleLinksSinkToItselfPinLaw -/
def k1 : Class := { plain "com/example/stationary/stationary/SinkRuleLinksSinkToItselfPinLaw" (some 0) with
  accessFlags := 49
  interfaces := #[]
  cf := some (fileOf pool1 20 #[] #[{ accessFlags := 1, nameIndex := 5, descriptorIndex := 6, attributes := #[] }, { accessFlags := 9, nameIndex := 24, descriptorIndex := 25, attributes := #[] }] 49 2 #[] #[])
  fields := #[]
  methods := #[k1m0, k1m1]
  instanceTypes := #[]
  staticTypes := #[]
  resolved := Array.replicate 29 none
  statics := none }

def pool2 : Array CpInfo := pool [(1, .class_ 2), (0, u "java/lang/constant/Constable"), (0, .class_ 4), (0, u "java/lang/Object")] 6

/-- java/lang/constant/Constable -/
def k2 : Class := { plain "java/lang/constant/Constable" (some 0) with
  accessFlags := 1537
  interfaces := #[]
  cf := some (fileOf pool2 1 #[] #[] 1537 3 #[] #[])
  fields := #[]
  methods := #[]
  instanceTypes := #[]
  staticTypes := #[]
  resolved := Array.replicate 11 none
  statics := none }

def pool3 : Array CpInfo := pool [(1, .class_ 2), (0, u "java/lang/Comparable"), (0, .class_ 4), (0, u "java/lang/Object")] 7

/-- java/lang/Comparable -/
def k3 : Class := { plain "java/lang/Comparable" (some 0) with
  accessFlags := 1537
  interfaces := #[]
  cf := some (fileOf pool3 1 #[] #[] 1537 3 #[] #[])
  fields := #[]
  methods := #[]
  instanceTypes := #[]
  staticTypes := #[]
  resolved := Array.replicate 12 none
  statics := none }

def pool4 : Array CpInfo := pool [(1, .class_ 2), (0, u "java/io/Serializable"), (0, .class_ 4), (0, u "java/lang/Object")] 2

/-- java/io/Serializable -/
def k4 : Class := { plain "java/io/Serializable" (some 0) with
  accessFlags := 1537
  interfaces := #[]
  cf := some (fileOf pool4 1 #[] #[] 1537 3 #[] #[])
  fields := #[]
  methods := #[]
  instanceTypes := #[]
  staticTypes := #[]
  resolved := Array.replicate 7 none
  statics := none }

def pool5 : Array CpInfo := pool [(2, .class_ 4), (1, u "java/lang/Enum"), (0, u "name"), (0, u "Ljava/lang/String;"), (2, u "ordinal"), (0, u "I"), (1, .class_ 14), (1, u "java/lang/Object"), (4, u "hash"), (86, .class_ 108), (1, u "java/lang/Enum$EnumDesc"), (2, .class_ 112), (0, u "java/lang/constant/Constable"), (0, .class_ 114), (0, u "java/lang/Comparable"), (0, .class_ 116), (0, u "java/io/Serializable")] 87

/-- java/lang/Enum -/
def k5 : Class := { plain "java/lang/Enum" (some 0) with
  accessFlags := 1057
  interfaces := #[2, 3, 4]
  cf := some (fileOf pool5 2 #[.nestMembers #[106]] #[] 1057 12 #[111, 113, 115] #[{ accessFlags := 18, nameIndex := 5, descriptorIndex := 6, attributes := #[] }, { accessFlags := 18, nameIndex := 9, descriptorIndex := 10, attributes := #[] }, { accessFlags := 2, nameIndex := 19, descriptorIndex := 10, attributes := #[] }])
  fields := #[{ name := "name", type := (.object "java/lang/String"), accessFlags := 18, slot := 0, constantValue := 0 }, { name := "ordinal", type := .int, accessFlags := 18, slot := 1, constantValue := 0 }, { name := "hash", type := .int, accessFlags := 2, slot := 2, constantValue := 0 }]
  methods := #[]
  instanceTypes := #[(.object "java/lang/String"), .int, .int]
  staticTypes := #[]
  resolved := Array.replicate 204 none
  statics := none }

def pool6 : Array CpInfo := pool [(1, .class_ 2), (0, u "com/example/stationary/stationary/SinkRule"), (0, .fieldref 1 4), (0, .nameAndType 5 6), (0, u "UNIFORM"), (0, u "Lcom/example/stationary/stationary/SinkRule;"), (2, u "OTHERS"), (2, u "$VALUES"), (0, u "[Lcom/example/stationary/stationary/SinkRule;"), (6, .class_ 22), (1, u "java/lang/Enum"), (20, u "linksSinkToItself"), (0, u "(I)Z")] 5

def k6c0 : Code := { maxStack := 2, maxLocals := 2, code := prog_56_method_4_code, exceptionTable := #[], attributes := #[] }
def k6m0 : Method := { name := "linksSinkToItself", desc := "(I)Z", sig := { parameters := [.int], returnType := some .boolean }, accessFlags := 0, code := some k6c0 }
/-- com/example/stationary/stationary/SinkRule -/
def k6 : Class := { plain "com/example/stationary/stationary/SinkRule" (some 5) with
  accessFlags := 16433
  interfaces := #[]
  cf := some (fileOf pool6 1 #[] #[{ accessFlags := 0, nameIndex := 43, descriptorIndex := 44, attributes := #[] }] 16433 20 #[] #[{ accessFlags := 16409, nameIndex := 5, descriptorIndex := 6, attributes := #[] }, { accessFlags := 16409, nameIndex := 9, descriptorIndex := 6, attributes := #[] }, { accessFlags := 4122, nameIndex := 12, descriptorIndex := 13, attributes := #[] }])
  fields := #[{ name := "UNIFORM", type := (.object "com/example/stationary/stationary/SinkRule"), accessFlags := 16409, slot := 0, constantValue := 0 }, { name := "OTHERS", type := (.object "com/example/stationary/stationary/SinkRule"), accessFlags := 16409, slot := 1, constantValue := 0 }, { name := "$VALUES", type := (.array (.object "com/example/stationary/stationary/SinkRule")), accessFlags := 4122, slot := 2, constantValue := 0 }]
  methods := #[k6m0]
  instanceTypes := #[(.object "java/lang/String"), .int, .int]
  staticTypes := #[(.object "com/example/stationary/stationary/SinkRule"), (.object "com/example/stationary/stationary/SinkRule"), (.array (.object "com/example/stationary/stationary/SinkRule"))]
  resolved := Array.replicate 50 none
  statics := some 0 }

def pool7 : Array CpInfo := pool [(1, u "java/lang/Cloneable"), (0, .class_ 1), (0, u "java/lang/Object"), (0, .class_ 3)] 3

/-- java/lang/Cloneable -/
def k7 : Class := { plain "java/lang/Cloneable" (some 0) with
  accessFlags := 1537
  interfaces := #[]
  cf := some (fileOf pool7 2 #[] #[] 1537 4 #[] #[])
  fields := #[]
  methods := #[]
  instanceTypes := #[]
  staticTypes := #[]
  resolved := Array.replicate 8 none
  statics := none }

/-- the primitive byte -/
def k8 : Class := { plain "byte" none with kind := .primitive 'B', accessFlags := 0x411 }
/-- [B -/
def k9 : Class := { plain "[B" (some 0) with kind := .array 8 .byte, interfaces := #[7, 4], accessFlags := 1041 }

/-- the primitive int -/
def k10 : Class := { plain "int" none with kind := .primitive 'I', accessFlags := 0x411 }
/-- [I -/
def k11 : Class := { plain "[I" (some 0) with kind := .array 10 .int, interfaces := #[7, 4], accessFlags := 1041 }

def heap : Heap := #[{ cls := 6, slots := #[.ref 1, .ref 2, .null], vm := .statics 6 },
  { cls := 6, slots := #[.null, .int 0, .int 0], vm := .none },
  { cls := 6, slots := #[.null, .int 1, .int 0], vm := .none }]
def classes : Array Class := #[k0, k1, k2, k3, k4, k5, k6, k7, k8, k9, k10, k11]
def interned : List (Array UInt16 × Addr) := []
def slotsUsed : Nat := 9
def theMethod : MethodId := ⟨1, 1⟩
def args0 : Array Value := #[.int 5, .int 3]
def aboutOver (below : List Frame) : State where
  vm := { classes := classes, interned := interned.toArray }
  heap := heap
  slotsUsed := slotsUsed
  threads := #[{ frames := .invoking theMethod args0 :: below }]
def below0 : List Frame := [.native { method := ⟨0, 0⟩, args := #[] }]
def about1 : State := aboutOver below0
def p0 : Program := .bare "" "" ""
def e0 : Env := launch0.env 0 0 0
theorem w_frames : about1.frames = Frame.invoking theMethod args0 :: below0 := rfl
set_option maxRecDepth 65536 in
theorem w_args : argsFit about1.vm theMethod args0 = true := by decide +kernel
set_option maxRecDepth 65536 in
theorem w_heap : heapFits about1 = true := by decide +kernel
set_option maxRecDepth 65536 in
theorem w_runnable : about1.curStatus? = some .runnable := by decide +kernel
set_option maxRecDepth 65536 in
theorem w_alone : about1.alone = true := by decide +kernel
set_option maxRecDepth 65536 in
theorem w_named : about1.methodNamed? x = some theMethod := by decide +kernel
set_option maxRecDepth 65536 in
theorem w_hears : about1.hears theMethod below0 = true := by decide +kernel
set_option maxRecDepth 65536 in
theorem w_ripe : about1.ripe theMethod args0 below0 = true := by decide +kernel
theorem w_running : about1.status = .running := rfl
set_option maxRecDepth 65536 in
theorem w_room : about1.hasRoom e0.platform room_1 = true :=
  launch0.hasRoom_least _ room_1 (by decide +kernel) (by decide +kernel) (by decide +kernel) (by decide +kernel) (by decide +kernel) (by decide +kernel)
theorem allAtoms_all (ts : List Jvm.Cond) (a : Array Jvm.Value) (st : Jvm.State) : (allAtoms ts).before a st = ts.all (fun c => c.before a st) := by
  induction ts with
  | nil => rfl
  | cons c t ih =>
    show (Jvm.Cond.and c (allAtoms t)).before a st = _
    rw [Jvm.Cond.before_and, ih, List.all_cons]
def words1 : List Jvm.Cond := Jvm.Cond.code x code maxLocals ret :: tables_1
/-- a 'code' word, met by the world's own term for the bytes: nothing is compared byte by byte -/
theorem code_word {y : MethodName} {bytes : ByteArray} {mx : Nat} {rt : Option FieldType} {a : Array Value} {s : State} {m : MethodId} {meth : Method} {c : Code} (h1 : s.methodNamed? y = some m) (h2 : s.vm.method? m = some meth) (h3 : meth.code = some c) (h4 : c.code = bytes)
    (h5 : (c.maxLocals == mx && c.exceptionTable.isEmpty && decide (c.maxStack ≤ mostOperands) && decide (meth.sig.returnType = rt) && !meth.locks && decide (parseMethodDescriptor y.desc = some meth.sig)) = true) : (Jvm.Cond.code y bytes mx rt).before a s = true := by
  simp only [Bool.and_eq_true, beq_iff_eq, Bool.not_eq_true', decide_eq_true_eq] at h5
  obtain ⟨⟨⟨⟨⟨g1, g2⟩, g3⟩, g4⟩, g5⟩, g6⟩ := h5
  simp [Cond.before, Cond.holds, Cond.value, h1, h2, h3, h4, g1, g2, g3, g4, g5, g6]
def isCode : Jvm.Cond → Bool
  | .code _ _ _ _ => true
  | _ => false
theorem all_split {L : List Jvm.Cond} {P : Jvm.Cond → Bool} (h1 : L.all (fun c => isCode c || P c) = true) (h2 : ∀ c ∈ L.filter isCode, P c = true) : L.all P = true := by
  refine List.all_eq_true.mpr fun c hc => ?_
  have h := List.all_eq_true.mp h1 c hc
  rcases Bool.eq_false_or_eq_true (isCode c) with hi | hi
  · exact h2 c (List.mem_filter.mpr ⟨hc, hi⟩)
  · simpa [hi] using h
set_option maxRecDepth 65536 in
theorem w_c0 : (Jvm.Cond.code x code maxLocals ret).before args0 about1 = true := code_word (m := ⟨1, 1⟩) (meth := k1m1) (c := k1c1) (by decide +kernel) rfl rfl rfl (by decide +kernel)
set_option maxRecDepth 65536 in
theorem w_c1 : (Jvm.Cond.code ({ cls := "com/example/stationary/stationary/SinkRule", name := "linksSinkToItself", desc := "(I)Z" } : Jvm.MethodName) prog_56_method_4_code (2 : Nat) (Option.some Jvm.ClassFile.FieldType.boolean)).before args0 about1 = true := code_word (m := ⟨6, 0⟩) (meth := k6m0) (c := k6c0) (by decide +kernel) rfl rfl rfl (by decide +kernel)
def codes1 : List Jvm.Cond := [Jvm.Cond.code x code maxLocals ret, Jvm.Cond.code ({ cls := "com/example/stationary/stationary/SinkRule", name := "linksSinkToItself", desc := "(I)Z" } : Jvm.MethodName) prog_56_method_4_code (2 : Nat) (Option.some Jvm.ClassFile.FieldType.boolean)]
set_option maxRecDepth 65536 in
theorem codes_eq : words1.filter isCode = codes1 := rfl
theorem w_codes : ∀ c ∈ words1.filter isCode, c.before args0 about1 = true := by
  rw [codes_eq]
  intro c hc
  simp only [codes1, List.mem_cons, List.not_mem_nil, or_false] at hc
  rcases hc with rfl | rfl
  · exact w_c0
  · exact w_c1
set_option maxRecDepth 65536 in
theorem w_t1 : words1.all (fun c => isCode c || c.before args0 about1) = true := by decide +kernel
theorem w_tables : (allAtoms (Jvm.Cond.code x code maxLocals ret :: tables_1)).before args0 about1 = true := by
  rw [allAtoms_all]
  show words1.all (fun c => c.before args0 about1) = true
  refine all_split ?_ w_codes
  rw [w_t1]
set_option maxRecDepth 65536 in
theorem w_case : (Jvm.Cond.and given_1 narrow_1).before args0 about1 = true := by decide +kernel
theorem w_applies : (headSpec (Jvm.Cond.code x code maxLocals ret :: tables_1) room_1).applies x e0.platform about1 = true :=
  (Spec.applies_iff w_frames).mpr ⟨w_running, w_runnable, w_alone, w_named, w_hears, w_ripe, w_room, w_tables⟩
theorem atStart : AtStart classFile x code maxLocals ret World_1 tables_1 room_1 Calls_1 rest_1 Pre_1 launch0 p0 e0 about1 theMethod args0 below0 :=
  ⟨lists_1, trivial, launch0.admits_env _ _ _, launch0.least_env, fairChoices_fair.cas, fairChoices_fair.clock, w_frames, w_args, w_heap, w_applies, trivial, trivial, w_case⟩
end start1
theorem witness_1 : WitnessClaimed_1 := ⟨start1.p0, start1.e0, start1.about1, start1.theMethod, start1.args0, start1.below0, start1.atStart⟩
end Jvm.Pilot.@@N@@
