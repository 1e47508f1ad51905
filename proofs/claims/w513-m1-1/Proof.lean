import JvmDerived
import JvmDerived.Pilot.@@N@@Statement
import JvmDerived.Pilot.@@N@@Code
set_option linter.unusedVariables false
set_option linter.unusedSimpArgs false
namespace Jvm.Pilot.@@N@@
open Jvm Jvm.ClassFile Sem Op Lib Jvm.Free Jvm.Stand Jvm.LawKit Jvm.RoadKit Bundle Jvm.Pilot.@@N@@.Jvm.D
/-- the run from A comes to a return that Q speaks of -/
def own_Fin (p : Program) (e : Env) (below : List Frame) (s : State) (kc ks : Nat) (Q : Option Value → Heap → List Loc → Prop) (A : State) : Prop :=
  ∃ s₂ o, Steps p.tables e below A s₂ ∧ s₂.status = .running ∧ Ended s₂ below o ∧ ∃ v L, o = .returned v ∧ Q v s₂.heap L ∧ FrameEnd s o s₂ L kc ks
section Own
variable {p : Program} {l : Launch} {e : Env} {R : Room} {s : State} {m : MethodId} {args : Array Value} {below : List Frame} {meth : Method} {c : Code} {T : State} {locs : List Loc} {cells slots kc ks : Nat} {Q : Option Value → Heap → List Loc → Prop}
theorem own_back {A B : State} (h : ∀ t, Steps p.tables e below B t → Steps p.tables e below A t) (k : own_Fin p e below s kc ks Q B) : own_Fin p e below s kc ks Q A := by
  obtain ⟨s2, o, h1, r⟩ := k
  exact ⟨s2, o, h _ h1, r⟩
theorem own_retN (X : Stand p l e R s m args below meth c T locs cells slots) (hx : p.tables.exec = Jvm.exec) (hlk : meth.locks = false) {t : FieldType} (ht : t = .boolean ∨ t = .byte ∨ t = .char ∨ t = .short) {pc : Nat} {Ls : Array Slot} {z : Int32} {rest : List Value} (hret : meth.sig.returnType = some t) (hd : decode c.code pc = .ok (.ireturn, 1)) (hc : cells ≤ kc) (hs : slots ≤ ks)
    (hQ : Q (some (.int (nar t z))) T.heap locs) : own_Fin p e below s kc ks Q (T.setTop (mkF m pc Ls (.int z :: rest))) := by
  obtain ⟨fs, hr, hrun, hended, hW, hsame⟩ := X.leave (v := some (.int (nar t z))) (fun h => by rw [hret] at h; cases h) hlk
  exact ⟨_, _, retN X hx hret ht hd hr, hrun, hended, _, _, rfl, hQ, ⟨_, rfl⟩, hW, hsame.mono hc hs⟩
theorem own_retZ (X : Stand p l e R s m args below meth c T locs cells slots) (hx : p.tables.exec = Jvm.exec) (hlk : meth.locks = false) {pc : Nat} {Ls : Array Slot} {z : Int32} {rest : List Value} (hret : meth.sig.returnType = some .boolean) (hd : decode c.code pc = .ok (.ireturn, 1)) (hc : cells ≤ kc) (hs : slots ≤ ks)
    (hQ : Q (some (.int (z &&& 1))) T.heap locs) : own_Fin p e below s kc ks Q (T.setTop (mkF m pc Ls (.int z :: rest))) := own_retN X hx hlk (Or.inl rfl) hret hd hc hs hQ
theorem own_retB (X : Stand p l e R s m args below meth c T locs cells slots) (hx : p.tables.exec = Jvm.exec) (hlk : meth.locks = false) {pc : Nat} {Ls : Array Slot} {z : Int32} {rest : List Value} (hret : meth.sig.returnType = some .byte) (hd : decode c.code pc = .ok (.ireturn, 1)) (hc : cells ≤ kc) (hs : slots ≤ ks)
    (hQ : Q (some (.int (nar .byte z))) T.heap locs) : own_Fin p e below s kc ks Q (T.setTop (mkF m pc Ls (.int z :: rest))) := own_retN X hx hlk (Or.inr (Or.inl rfl)) hret hd hc hs hQ
theorem own_retI (X : Stand p l e R s m args below meth c T locs cells slots) (hx : p.tables.exec = Jvm.exec) (hlk : meth.locks = false) {pc : Nat} {Ls : Array Slot} {z : Int32} {rest : List Value} (hret : meth.sig.returnType = some .int) (hd : decode c.code pc = .ok (.ireturn, 1)) (hc : cells ≤ kc) (hs : slots ≤ ks)
    (hQ : Q (some (.int z)) T.heap locs) : own_Fin p e below s kc ks Q (T.setTop (mkF m pc Ls (.int z :: rest))) := by
  obtain ⟨fs, hr, hrun, hended, hW, hsame⟩ := X.leave (v := some (.int z)) (fun h => by rw [hret] at h; cases h) hlk
  exact ⟨_, _, retOut X hx hret rfl (Or.inl ⟨rfl, Or.inl rfl, z, rfl⟩) hd hr, hrun, hended, _, _, rfl, hQ, ⟨_, rfl⟩, hW, hsame.mono hc hs⟩
theorem own_retJ (X : Stand p l e R s m args below meth c T locs cells slots) (hx : p.tables.exec = Jvm.exec) (hlk : meth.locks = false) {pc : Nat} {Ls : Array Slot} {z : Int64} {rest : List Value} (hret : meth.sig.returnType = some .long) (hd : decode c.code pc = .ok (.lreturn, 1)) (hc : cells ≤ kc) (hs : slots ≤ ks)
    (hQ : Q (some (.long z)) T.heap locs) : own_Fin p e below s kc ks Q (T.setTop (mkF m pc Ls (.long z :: rest))) := by
  obtain ⟨fs, hr, hrun, hended, hW, hsame⟩ := X.leave (v := some (.long z)) (fun h => by rw [hret] at h; cases h) hlk
  exact ⟨_, _, retOut X hx hret rfl (Or.inr (Or.inl ⟨rfl, rfl, z, rfl⟩)) hd hr, hrun, hended, _, _, rfl, hQ, ⟨_, rfl⟩, hW, hsame.mono hc hs⟩
theorem own_retA (X : Stand p l e R s m args below meth c T locs cells slots) (hx : p.tables.exec = Jvm.exec) (hlk : meth.locks = false) {pc : Nat} {Ls : Array Slot} {w : Value} {rest : List Value} {t : FieldType} (hret : meth.sig.returnType = some t) (ht : t.isReference = true) (hw : w.isRef = true) (hd : decode c.code pc = .ok (.areturn, 1)) (hc : cells ≤ kc) (hs : slots ≤ ks)
    (hQ : Q (some w) T.heap locs) : own_Fin p e below s kc ks Q (T.setTop (mkF m pc Ls (w :: rest))) := by
  obtain ⟨fs, hr, hrun, hended, hW, hsame⟩ := X.leave (v := some w) (fun h => by rw [hret] at h; cases h) hlk
  have hn : narrow t w = w := by cases t <;> first | rfl | cases ht
  exact ⟨_, _, retOut X hx hret hn (Or.inr (Or.inr (Or.inr (Or.inr ⟨rfl, ht, hw⟩)))) hd hr, hrun, hended, _, _, rfl, hQ, ⟨_, rfl⟩, hW, hsame.mono hc hs⟩
theorem own_ret0 (X : Stand p l e R s m args below meth c T locs cells slots) (hx : p.tables.exec = Jvm.exec) (hlk : meth.locks = false) {pc : Nat} {Ls : Array Slot} (hret : meth.sig.returnType = none) (hd : decode c.code pc = .ok (.return_, 1)) (hc : cells ≤ kc) (hs : slots ≤ ks)
    (hQ : Q none T.heap locs) : own_Fin p e below s kc ks Q (T.setTop (mkF m pc Ls [])) := by
  obtain ⟨fs, hr, hrun, hended, hW, hsame⟩ := X.leave (v := none) (fun _ => rfl) hlk
  exact ⟨_, _, X.returnOut hx hret hd hr, hrun, hended, _, _, rfl, hQ, ⟨_, rfl⟩, hW, hsame.mono hc hs⟩
end Own
theorem own_fldAt {args : Array Value} {s : State} {t : Term} {a : Addr} {C n d : String} {k : Int32} (ev : t.eval args s none [] s = some (.ref a)) (h : (Cond.eq (Term.field t C n d) (Term.int k)).value args s none s [] = some true) : Fld s s.heap a C n d (.int k) := by
  obtain ⟨x, y, h1, h2, k1, k2⟩ := cmp_v (Or.inl h)
  have h2' : y = .int k := by simpa [Term.eval] using h2.symm
  subst h2'
  obtain ⟨z, rfl⟩ := k2
  have e : (Cond.eq (Term.field t C n d) (Term.int k)).value args s none s [] = some (decide (z = k)) := by simp [Cond.value, h1, h2]
  have hz : z = k := gotT e h
  subst hz
  rw [fld_at ev] at h1
  exact Fld.start h1
def own_num (a i r n : Addr) : Int32 := if a = i then 1 else if a = r then 1 else if a = n then 1 else 0
theorem d1_0 : decode prog_3_method_5_code 0 = .ok (.aload_n 0, 1) := by decide +kernel
theorem d1_1 : decode prog_3_method_5_code 1 = .ok (.getstatic 3, 3) := by decide +kernel
theorem d1_4 : decode prog_3_method_5_code 4 = .ok (.if_acmp .eq 17, 3) := by decide +kernel
theorem d1_7 : decode prog_3_method_5_code 7 = .ok (.aload_n 0, 1) := by decide +kernel
theorem d1_8 : decode prog_3_method_5_code 8 = .ok (.getstatic 13, 3) := by decide +kernel
theorem d1_11 : decode prog_3_method_5_code 11 = .ok (.if_acmp .eq 10, 3) := by decide +kernel
theorem d1_14 : decode prog_3_method_5_code 14 = .ok (.aload_n 0, 1) := by decide +kernel
theorem d1_15 : decode prog_3_method_5_code 15 = .ok (.getstatic 16, 3) := by decide +kernel
theorem d1_18 : decode prog_3_method_5_code 18 = .ok (.if_acmp .ne 7, 3) := by decide +kernel
theorem d1_21 : decode prog_3_method_5_code 21 = .ok (.iconst 1, 1) := by decide +kernel
theorem d1_22 : decode prog_3_method_5_code 22 = .ok (.goto 4, 3) := by decide +kernel
theorem d1_25 : decode prog_3_method_5_code 25 = .ok (.iconst 0, 1) := by decide +kernel
theorem d1_26 : decode prog_3_method_5_code 26 = .ok (.ireturn, 1) := by decide +kernel
theorem pn_1 : plainName "com/example/culljoin/culljoin/model/Affinity" = true := by first | (simp [plainName, overriddenIn]; done) | decide +kernel
theorem ef_1 (m : MethodId) (x0 : Addr) : entryFrame m #[(.ref x0)] 1 = mkF m 0 #[.val (.ref x0)] [] := by first | (simp [entryFrame, mkF, argsToLocals, Value.category]; done) | rfl
def Q1 (Z : State) (o0 : Addr) (w_INTEGER : Addr) (w_REAL : Addr) (w_NUMERIC : Addr) (h0 : Heap) (n0 : Nat) (v : Option Value) (h : Heap) (L : List Loc) : Prop := v = some (.int (own_num o0 w_INTEGER w_REAL w_NUMERIC)) ∧ Fr n0 L ∧ h = h0
set_option maxRecDepth 65536 in
set_option maxHeartbeats 40000000 in
theorem rm1 (l : Launch) (Z : State) (a0 : Array Value) (hw : ∀ d ∈ tables_1, d.before a0 Z = true) (ws : List Jvm.Cond) (o0 : Addr) (w_INTEGER : Addr) (w_REAL : Addr) (w_NUMERIC : Addr) (h0 : Heap) (n0 : Nat) (Z0 : n0 ≤ h0.size) (S_INTEGER : Sta Z h0 "com/example/culljoin/culljoin/model/Affinity" "INTEGER" "Lcom/example/culljoin/culljoin/model/Affinity;" (.ref w_INTEGER)) (S_REAL : Sta Z h0 "com/example/culljoin/culljoin/model/Affinity" "REAL" "Lcom/example/culljoin/culljoin/model/Affinity;" (.ref w_REAL)) (S_NUMERIC : Sta Z h0 "com/example/culljoin/culljoin/model/Affinity" "NUMERIC" "Lcom/example/culljoin/culljoin/model/Affinity;" (.ref w_NUMERIC)) :
    MetFree l (⟨"com/example/culljoin/culljoin/model/Affinity", "numeric", "()Z"⟩ : MethodName) (head1 (Jvm.Cond.code (⟨"com/example/culljoin/culljoin/model/Affinity", "numeric", "()Z"⟩ : MethodName) prog_3_method_5_code 1 (some .boolean) :: ws) ({ frames := 0, cells := 0, slots := 0, locals := 0 } : Room)) (fun a U => a = #[(.ref o0)] ∧ Z.Warmed39 U.vm ∧ U.heap = h0) (fun _ _ _ _ _ => True) (fun _ U o U' => ∃ v L, o = .returned v ∧ Q1 Z o0 w_INTEGER w_REAL w_NUMERIC h0 n0 v U'.heap L ∧ FrameEnd U o U' L ({ frames := 0, cells := 0, slots := 0, locals := 0 } : Room).cells ({ frames := 0, cells := 0, slots := 0, locals := 0 } : Room).slots) := by
  refine MetFree.of_bodySF (plainFor_of_name pn_1) hisR ?_
  intro p e s m args below meth c s₁ Bd hml0 hP hK
  obtain ⟨rfl, hZ, hh⟩ := hP
  have hx := Bd.exec
  have hby := Bd.bytes
  have hml : c.maxLocals = 1 := hml0
  have hown : s.vm.findClass "com/example/culljoin/culljoin/model/Affinity" = some m.cls := findClass_of_methodNamed Bd.named
  have hnm := (name_of_methodNamed Bd.named Bd.method).1
  have X0 : Stand p l e ({ frames := 0, cells := 0, slots := 0, locals := 0 } : Room) s m #[(.ref o0)] below meth c s₁ [] 0 0 := Stand.of_body Bd
  have e0 : s₁.heap = h0 := by rw [← hh, Bd.state]; rfl
  have N0 := Fr.nil n0
  obtain ⟨F, hF⟩ : ∃ F : State → Prop, F = own_Fin p e below s ({ frames := 0, cells := 0, slots := 0, locals := 0 } : Room).cells ({ frames := 0, cells := 0, slots := 0, locals := 0 } : Room).slots (fun v h L => Q1 Z o0 w_INTEGER w_REAL w_NUMERIC h0 n0 v h L) := ⟨_, rfl⟩
  have bk : ∀ {A B : State}, (∀ t, Steps p.tables e below B t → Steps p.tables e below A t) → F B → F A := by
    intro A B h k
    rw [hF] at k ⊢
    exact own_back h k
  suffices hgo : F (s₁.setTop (mkF m 0 #[.val (.ref o0)] [])) by
    have hgo' := bk (fun t k => castTop (T := s₁) (ef_1 m o0) k) hgo
    rw [hF] at hgo'
    exact hgo'
  show F (s₁.setTop (mkF m 0 #[.val (.ref o0)] []))
  refine bk (fun t k => XS.aloadN X0.here hx rfl (hb hby d1_0) rfl rfl k) ?_
  show F (s₁.setTop (mkF m 1 #[.val (.ref o0)] [(.ref o0)]))
  obtain ⟨T1, X1, e1, st1⟩ := getS2 X0 hx hZ hown (host := "") (Or.inl (hw _ (List.mem_of_getElem? (i := 9) rfl))) Via.refl e0 S_INTEGER (g := (mkF m 1 #[.val (.ref o0)] [(.ref o0)])) rfl (hb hby d1_1)
  refine bk (fun t k => st1 t k) ?_
  show F (T1.setTop (mkF m 4 #[.val (.ref o0)] [(.ref w_INTEGER), (.ref o0)]))
  by_cases hc4_2 : o0 = w_INTEGER
  · refine bk (fun t k => Jvm.RoadKit.acmp (g := (mkF m 4 #[.val (.ref o0)] [(.ref w_INTEGER), (.ref o0)])) X1 hx rfl rfl rfl (pc0 := 4) (pc' := 21) (same := true) rfl (hb hby d1_4) rfl (decide_eq_true (congrArg Value.ref hc4_2)) (by decide) (by decide) k) ?_
    show F (T1.setTop (mkF m 21 #[.val (.ref o0)] []))
    refine bk (fun t k => XS.iconst X1.here hx rfl (hb hby d1_21) k) ?_
    show F (T1.setTop (mkF m 22 #[.val (.ref o0)] [(.int (1 : Int32))]))
    refine bk (fun t k => XS.goto X1.here hx rfl (pc0 := 22) (pc' := 26) rfl (hb hby d1_22) (by decide) (by decide) k) ?_
    show F (T1.setTop (mkF m 26 #[.val (.ref o0)] [(.int (1 : Int32))]))
    rw [hF]
    refine own_retZ X1 hx Bd.notSynchronized Bd.returns (hb hby d1_26) (by decide) (by decide) ?_
    rw [e1]
    refine ⟨?_, N0, rfl⟩
    show some (Value.int (1 : Int32)) = some (Value.int (own_num o0 w_INTEGER w_REAL w_NUMERIC))
    simp [own_num, hc4_2]
  · refine bk (fun t k => Jvm.RoadKit.acmp (g := (mkF m 4 #[.val (.ref o0)] [(.ref w_INTEGER), (.ref o0)])) X1 hx rfl rfl rfl (pc0 := 4) (pc' := 7) (same := false) rfl (hb hby d1_4) rfl (decide_eq_false fun q => hc4_2 (Value.ref.inj q)) (by decide) (by decide) k) ?_
    show F (T1.setTop (mkF m 7 #[.val (.ref o0)] []))
    refine bk (fun t k => XS.aloadN X1.here hx rfl (hb hby d1_7) rfl rfl k) ?_
    show F (T1.setTop (mkF m 8 #[.val (.ref o0)] [(.ref o0)]))
    obtain ⟨T3, X3, e3, st3⟩ := getS2 X1 hx hZ hown (host := "") (Or.inl (hw _ (List.mem_of_getElem? (i := 12) rfl))) Via.refl e1 S_REAL (g := (mkF m 8 #[.val (.ref o0)] [(.ref o0)])) rfl (hb hby d1_8)
    refine bk (fun t k => st3 t k) ?_
    show F (T3.setTop (mkF m 11 #[.val (.ref o0)] [(.ref w_REAL), (.ref o0)]))
    by_cases hc11_4 : o0 = w_REAL
    · refine bk (fun t k => Jvm.RoadKit.acmp (g := (mkF m 11 #[.val (.ref o0)] [(.ref w_REAL), (.ref o0)])) X3 hx rfl rfl rfl (pc0 := 11) (pc' := 21) (same := true) rfl (hb hby d1_11) rfl (decide_eq_true (congrArg Value.ref hc11_4)) (by decide) (by decide) k) ?_
      show F (T3.setTop (mkF m 21 #[.val (.ref o0)] []))
      refine bk (fun t k => XS.iconst X3.here hx rfl (hb hby d1_21) k) ?_
      show F (T3.setTop (mkF m 22 #[.val (.ref o0)] [(.int (1 : Int32))]))
      refine bk (fun t k => XS.goto X3.here hx rfl (pc0 := 22) (pc' := 26) rfl (hb hby d1_22) (by decide) (by decide) k) ?_
      show F (T3.setTop (mkF m 26 #[.val (.ref o0)] [(.int (1 : Int32))]))
      rw [hF]
      refine own_retZ X3 hx Bd.notSynchronized Bd.returns (hb hby d1_26) (by decide) (by decide) ?_
      rw [e3]
      refine ⟨?_, N0, rfl⟩
      show some (Value.int (1 : Int32)) = some (Value.int (own_num o0 w_INTEGER w_REAL w_NUMERIC))
      simp [own_num, hc4_2, hc11_4]
    · refine bk (fun t k => Jvm.RoadKit.acmp (g := (mkF m 11 #[.val (.ref o0)] [(.ref w_REAL), (.ref o0)])) X3 hx rfl rfl rfl (pc0 := 11) (pc' := 14) (same := false) rfl (hb hby d1_11) rfl (decide_eq_false fun q => hc11_4 (Value.ref.inj q)) (by decide) (by decide) k) ?_
      show F (T3.setTop (mkF m 14 #[.val (.ref o0)] []))
      refine bk (fun t k => XS.aloadN X3.here hx rfl (hb hby d1_14) rfl rfl k) ?_
      show F (T3.setTop (mkF m 15 #[.val (.ref o0)] [(.ref o0)]))
      obtain ⟨T5, X5, e5, st5⟩ := getS2 X3 hx hZ hown (host := "") (Or.inl (hw _ (List.mem_of_getElem? (i := 15) rfl))) Via.refl e3 S_NUMERIC (g := (mkF m 15 #[.val (.ref o0)] [(.ref o0)])) rfl (hb hby d1_15)
      refine bk (fun t k => st5 t k) ?_
      show F (T5.setTop (mkF m 18 #[.val (.ref o0)] [(.ref w_NUMERIC), (.ref o0)]))
      by_cases hc18_6 : o0 = w_NUMERIC
      · refine bk (fun t k => Jvm.RoadKit.acmp (g := (mkF m 18 #[.val (.ref o0)] [(.ref w_NUMERIC), (.ref o0)])) X5 hx rfl rfl rfl (pc0 := 18) (pc' := 21) (same := true) rfl (hb hby d1_18) rfl (decide_eq_true (congrArg Value.ref hc18_6)) (by decide) (by decide) k) ?_
        show F (T5.setTop (mkF m 21 #[.val (.ref o0)] []))
        refine bk (fun t k => XS.iconst X5.here hx rfl (hb hby d1_21) k) ?_
        show F (T5.setTop (mkF m 22 #[.val (.ref o0)] [(.int (1 : Int32))]))
        refine bk (fun t k => XS.goto X5.here hx rfl (pc0 := 22) (pc' := 26) rfl (hb hby d1_22) (by decide) (by decide) k) ?_
        show F (T5.setTop (mkF m 26 #[.val (.ref o0)] [(.int (1 : Int32))]))
        rw [hF]
        refine own_retZ X5 hx Bd.notSynchronized Bd.returns (hb hby d1_26) (by decide) (by decide) ?_
        rw [e5]
        refine ⟨?_, N0, rfl⟩
        show some (Value.int (1 : Int32)) = some (Value.int (own_num o0 w_INTEGER w_REAL w_NUMERIC))
        simp [own_num, hc4_2, hc11_4, hc18_6]
      · refine bk (fun t k => Jvm.RoadKit.acmp (g := (mkF m 18 #[.val (.ref o0)] [(.ref w_NUMERIC), (.ref o0)])) X5 hx rfl rfl rfl (pc0 := 18) (pc' := 25) (same := false) rfl (hb hby d1_18) rfl (decide_eq_false fun q => hc18_6 (Value.ref.inj q)) (by decide) (by decide) k) ?_
        show F (T5.setTop (mkF m 25 #[.val (.ref o0)] []))
        refine bk (fun t k => XS.iconst X5.here hx rfl (hb hby d1_25) k) ?_
        show F (T5.setTop (mkF m 26 #[.val (.ref o0)] [(.int (0 : Int32))]))
        rw [hF]
        refine own_retZ X5 hx Bd.notSynchronized Bd.returns (hb hby d1_26) (by decide) (by decide) ?_
        rw [e5]
        refine ⟨?_, N0, rfl⟩
        show some (Value.int (0 : Int32)) = some (Value.int (own_num o0 w_INTEGER w_REAL w_NUMERIC))
        simp [own_num, hc4_2, hc11_4, hc18_6]
theorem pd0___Z : parseMethodDescriptor "()Z" = some ⟨[], some .boolean⟩ := by decide +kernel
theorem pn_0 : plainName "com/example/culljoin/culljoin/model/AffinityNumericPinLaw" = true := by first | (simp [plainName, overriddenIn]; done) | decide +kernel
theorem ef_0 (m : MethodId) (x0 : Int32) : entryFrame m #[(.int x0)] maxLocals = mkF m 0 #[.val (.int x0), .unset, .unset, .unset] [] := by first | (simp [entryFrame, mkF, argsToLocals, Value.category, maxLocals]; done) | rfl
def Q0 (Z : State) (p0 : Int32) (w_INTEGER : Addr) (w_TEXT : Addr) (w_BLOB : Addr) (w_REAL : Addr) (w_NUMERIC : Addr) (h0 : Heap) (n0 : Nat) (v : Option Value) (h : Heap) (L : List Loc) : Prop := v = some (.int (1 : Int32)) ∧ Fr n0 L
set_option maxRecDepth 65536 in
set_option maxHeartbeats 40000000 in
theorem rm0 (l : Launch) (Z : State) (a0 : Array Value) (hw : ∀ d ∈ tables_1, d.before a0 Z = true) (ws : List Jvm.Cond) (p0 : Int32) (w_INTEGER : Addr) (w_TEXT : Addr) (w_BLOB : Addr) (w_REAL : Addr) (w_NUMERIC : Addr) (h0 : Heap) (n0 : Nat) (Z0 : n0 ≤ h0.size) (S_INTEGER : Sta Z h0 "com/example/culljoin/culljoin/model/Affinity" "INTEGER" "Lcom/example/culljoin/culljoin/model/Affinity;" (.ref w_INTEGER)) (S_TEXT : Sta Z h0 "com/example/culljoin/culljoin/model/Affinity" "TEXT" "Lcom/example/culljoin/culljoin/model/Affinity;" (.ref w_TEXT)) (S_BLOB : Sta Z h0 "com/example/culljoin/culljoin/model/Affinity" "BLOB" "Lcom/example/culljoin/culljoin/model/Affinity;" (.ref w_BLOB)) (S_REAL : Sta Z h0 "com/example/culljoin/culljoin/model/Affinity" "REAL" "Lcom/example/culljoin/culljoin/model/Affinity;" (.ref w_REAL)) (S_NUMERIC : Sta Z h0 "com/example/culljoin/culljoin/model/Affinity" "NUMERIC" "Lcom/example/culljoin/culljoin/model/Affinity;" (.ref w_NUMERIC)) (E_INTEGER : Exa Z h0 w_INTEGER "com/example/culljoin/culljoin/model/Affinity") (E_TEXT : Exa Z h0 w_TEXT "com/example/culljoin/culljoin/model/Affinity") (E_BLOB : Exa Z h0 w_BLOB "com/example/culljoin/culljoin/model/Affinity") (E_REAL : Exa Z h0 w_REAL "com/example/culljoin/culljoin/model/Affinity") (E_NUMERIC : Exa Z h0 w_NUMERIC "com/example/culljoin/culljoin/model/Affinity") (ne_TEXT_INTEGER : ¬ (w_TEXT = w_INTEGER)) (ne_TEXT_REAL : ¬ (w_TEXT = w_REAL)) (ne_TEXT_NUMERIC : ¬ (w_TEXT = w_NUMERIC)) (ne_BLOB_INTEGER : ¬ (w_BLOB = w_INTEGER)) (ne_BLOB_REAL : ¬ (w_BLOB = w_REAL)) (ne_BLOB_NUMERIC : ¬ (w_BLOB = w_NUMERIC)) :
    MetFree l x (head1 (Jvm.Cond.code x code maxLocals ret :: ws) room_1) (fun a U => a = #[(.int p0)] ∧ Z.Warmed39 U.vm ∧ U.heap = h0) (fun _ _ _ _ _ => True) (fun _ U o U' => ∃ v L, o = .returned v ∧ Q0 Z p0 w_INTEGER w_TEXT w_BLOB w_REAL w_NUMERIC h0 n0 v U'.heap L ∧ FrameEnd U o U' L room_1.cells room_1.slots) := by
  refine MetFree.of_bodySF (plainFor_of_name pn_0) hisR ?_
  intro p e s m args below meth c s₁ Bd hml0 hP hK
  obtain ⟨rfl, hZ, hh⟩ := hP
  have hx := Bd.exec
  have hby := Bd.bytes
  have hml : c.maxLocals = 4 := hml0
  have hown : s.vm.findClass "com/example/culljoin/culljoin/model/AffinityNumericPinLaw" = some m.cls := findClass_of_methodNamed Bd.named
  have hnm := (name_of_methodNamed Bd.named Bd.method).1
  have X0 : Stand p l e room_1 s m #[(.int p0)] below meth c s₁ [] 0 0 := Stand.of_body Bd
  have e0 : s₁.heap = h0 := by rw [← hh, Bd.state]; rfl
  have N0 := Fr.nil n0
  obtain ⟨F, hF⟩ : ∃ F : State → Prop, F = own_Fin p e below s room_1.cells room_1.slots (fun v h L => Q0 Z p0 w_INTEGER w_TEXT w_BLOB w_REAL w_NUMERIC h0 n0 v h L) := ⟨_, rfl⟩
  have bk : ∀ {A B : State}, (∀ t, Steps p.tables e below B t → Steps p.tables e below A t) → F B → F A := by
    intro A B h k
    rw [hF] at k ⊢
    exact own_back h k
  suffices hgo : F (s₁.setTop (mkF m 0 #[.val (.int p0), .unset, .unset, .unset] [])) by
    have hgo' := bk (fun t k => castTop (T := s₁) (ef_0 m p0) k) hgo
    rw [hF] at hgo'
    exact hgo'
  have w_0 := hw _ (List.mem_of_getElem? (i := 0) rfl)
  have w_1 := hw _ (List.mem_of_getElem? (i := 1) rfl)
  have w_2 := hw _ (List.mem_of_getElem? (i := 2) rfl)
  have w_4 := hw _ (List.mem_of_getElem? (i := 4) rfl)
  have w_5 := hw _ (List.mem_of_getElem? (i := 5) rfl)
  have w_6 := hw _ (List.mem_of_getElem? (i := 6) rfl)
  have w_7 := hw _ (List.mem_of_getElem? (i := 7) rfl)
  have w_8 := hw _ (List.mem_of_getElem? (i := 8) rfl)
  have w_10 := hw _ (List.mem_of_getElem? (i := 10) rfl)
  have w_13 := hw _ (List.mem_of_getElem? (i := 13) rfl)
  have w_17 := hw _ (List.mem_of_getElem? (i := 17) rfl)
  have w_18 := hw _ (List.mem_of_getElem? (i := 18) rfl)
  show F (s₁.setTop (mkF m 0 #[.val (.int p0), .unset, .unset, .unset] []))
  refine bk (fun t k => XS.iloadN X0.here hx rfl (hb hby at_0) rfl k) ?_
  show F (s₁.setTop (mkF m 1 #[.val (.int p0), .unset, .unset, .unset] [(.int p0)]))
  refine bk (fun t k => X0.ldcInt hx hown (mvT hZ w_0) (g := (mkF m 1 #[.val (.int p0), .unset, .unset, .unset] [(.int p0)])) rfl (hb hby at_1) t k) ?_
  show F (s₁.setTop (mkF m 3 #[.val (.int p0), .unset, .unset, .unset] [(.int (2147483647 : Int32)), (.int p0)]))
  refine bk (fun t k => XS.iand X0.here hx rfl (hb hby at_3) rfl k) ?_
  show F (s₁.setTop (mkF m 4 #[.val (.int p0), .unset, .unset, .unset] [(.int (p0 &&& (2147483647 : Int32)))]))
  refine bk (fun t k => XS.iconst X0.here hx rfl (hb hby at_4) k) ?_
  show F (s₁.setTop (mkF m 5 #[.val (.int p0), .unset, .unset, .unset] [(.int (5 : Int32)), (.int (p0 &&& (2147483647 : Int32)))]))
  refine bk (fun t k => iremM X0 hx rfl (hb hby at_5) rfl (by decide) k) ?_
  show F (s₁.setTop (mkF m 6 #[.val (.int p0), .unset, .unset, .unset] [(.int ((p0 &&& (2147483647 : Int32)) % (5 : Int32)))]))
  refine bk (fun t k => XS.istoreN X0.here hx rfl (hb hby at_6) rfl (l' := #[.val (.int p0), .val (.int ((p0 &&& (2147483647 : Int32)) % (5 : Int32))), .unset, .unset]) rfl k) ?_
  show F (s₁.setTop (mkF m 7 #[.val (.int p0), .val (.int ((p0 &&& (2147483647 : Int32)) % (5 : Int32))), .unset, .unset] []))
  refine bk (fun t k => XS.iloadN X0.here hx rfl (hb hby at_7) rfl k) ?_
  show F (s₁.setTop (mkF m 8 #[.val (.int p0), .val (.int ((p0 &&& (2147483647 : Int32)) % (5 : Int32))), .unset, .unset] [(.int ((p0 &&& (2147483647 : Int32)) % (5 : Int32)))]))
  by_cases hc8_1 : ((p0 &&& (2147483647 : Int32)) % (5 : Int32)) = (0 : Int32)
  · refine bk (fun t k => XS.ifNo X0.here hx rfl (hb hby at_8) rfl ((if0 _ _).trans (teq hc8_1).2) k) ?_
    show F (s₁.setTop (mkF m 11 #[.val (.int p0), .val (.int ((p0 &&& (2147483647 : Int32)) % (5 : Int32))), .unset, .unset] []))
    obtain ⟨T2, X2, e2, st2⟩ := getS2 X0 hx hZ hown (host := "") (Or.inl w_1) Via.refl e0 S_INTEGER (g := (mkF m 11 #[.val (.int p0), .val (.int ((p0 &&& (2147483647 : Int32)) % (5 : Int32))), .unset, .unset] [])) rfl (hb hby at_11)
    refine bk (fun t k => st2 t k) ?_
    show F (T2.setTop (mkF m 14 #[.val (.int p0), .val (.int ((p0 &&& (2147483647 : Int32)) % (5 : Int32))), .unset, .unset] [(.ref w_INTEGER)]))
    refine bk (fun t k => XS.astoreN X2.here hx rfl (hb hby at_14) rfl rfl (l' := #[.val (.int p0), .val (.int ((p0 &&& (2147483647 : Int32)) % (5 : Int32))), .val (.ref w_INTEGER), .unset]) rfl k) ?_
    show F (T2.setTop (mkF m 15 #[.val (.int p0), .val (.int ((p0 &&& (2147483647 : Int32)) % (5 : Int32))), .val (.ref w_INTEGER), .unset] []))
    refine bk (fun t k => XS.iconst X2.here hx rfl (hb hby at_15) k) ?_
    show F (T2.setTop (mkF m 16 #[.val (.int p0), .val (.int ((p0 &&& (2147483647 : Int32)) % (5 : Int32))), .val (.ref w_INTEGER), .unset] [(.int (1 : Int32))]))
    refine bk (fun t k => XS.istoreN X2.here hx rfl (hb hby at_16) rfl (l' := #[.val (.int p0), .val (.int ((p0 &&& (2147483647 : Int32)) % (5 : Int32))), .val (.ref w_INTEGER), .val (.int (1 : Int32))]) rfl k) ?_
    show F (T2.setTop (mkF m 17 #[.val (.int p0), .val (.int ((p0 &&& (2147483647 : Int32)) % (5 : Int32))), .val (.ref w_INTEGER), .val (.int (1 : Int32))] []))
    refine bk (fun t k => XS.goto X2.here hx rfl (pc0 := 17) (pc' := 68) rfl (hb hby at_17) (by decide) (by decide) k) ?_
    show F (T2.setTop (mkF m 68 #[.val (.int p0), .val (.int ((p0 &&& (2147483647 : Int32)) % (5 : Int32))), .val (.ref w_INTEGER), .val (.int (1 : Int32))] []))
    refine bk (fun t k => XS.aloadN X2.here hx rfl (hb hby at_68) rfl rfl k) ?_
    show F (T2.setTop (mkF m 69 #[.val (.int p0), .val (.int ((p0 &&& (2147483647 : Int32)) % (5 : Int32))), .val (.ref w_INTEGER), .val (.int (1 : Int32))] [(.ref w_INTEGER)]))
    obtain ⟨cq3, kq3, q3a, q3b, q3c⟩ := isOf hZ e2 (E_INTEGER)
    obtain ⟨_, _, ⟨T3, L3, k3, n3⟩, -, X3, ⟨Lc3, hQ3, l3, y3, z3⟩, st3⟩ := X2.virtualBack hx (y := (⟨"com/example/culljoin/culljoin/model/Affinity", "numeric", "()Z"⟩ : MethodName)) (z := (⟨"com/example/culljoin/culljoin/model/Affinity", "numeric", "()Z"⟩ : MethodName)) hown (mvT hZ w_4) (mvT hZ w_5) (notFace_of_selects (args := #[]) (mvT hZ w_7)) (mvT hZ w_7) (mvT hZ w_6) (by decide) (backOf (W := 0) (rm1 l Z a0 hw [] w_INTEGER w_INTEGER w_REAL w_NUMERIC h0 n0 Z0 S_INTEGER S_REAL S_NUMERIC) hZ w_8 w_2 (by decide) (by decide)) q3a q3c (g := (mkF m 69 #[.val (.int p0), .val (.int ((p0 &&& (2147483647 : Int32)) % (5 : Int32))), .val (.ref w_INTEGER), .val (.int (1 : Int32))] [(.ref w_INTEGER)])) rfl (by rw [hml]; rfl) (Steps.refl _) (argsL := []) (rest := []) (lenOf pd0___Z rfl) rfl (by show 2 * 0 + _ ≤ _; exact Nat.le_of_eq rfl) (hb hby at_69) (fun _ _ => ⟨rfl, e2, (by decide : 0 + 0 ≤ _), (by decide : 0 + 0 ≤ _)⟩)
    dsimp only [Pt.U, Pt.locs, Pt.cells, Pt.slots] at X3 l3 y3 z3 st3 hQ3
    subst l3 y3 z3
    obtain ⟨rfl, N3q, e3⟩ := hQ3
    have N3 := Fr.app N0 N3q
    refine bk (fun t k => st3.trans k) ?_
    show F (T3.setTop (mkF m 72 #[.val (.int p0), .val (.int ((p0 &&& (2147483647 : Int32)) % (5 : Int32))), .val (.ref w_INTEGER), .val (.int (1 : Int32))] [(.int (own_num w_INTEGER w_INTEGER w_REAL w_NUMERIC))]))
    refine bk (fun t k => XS.iloadN X3.here hx rfl (hb hby at_72) rfl k) ?_
    show F (T3.setTop (mkF m 73 #[.val (.int p0), .val (.int ((p0 &&& (2147483647 : Int32)) % (5 : Int32))), .val (.ref w_INTEGER), .val (.int (1 : Int32))] [(.int (1 : Int32)), (.int (own_num w_INTEGER w_INTEGER w_REAL w_NUMERIC))]))
    refine bk (fun t k => XS.icmpNo X3.here hx rfl (hb hby at_73) rfl (teq (by simp [own_num, ne_TEXT_INTEGER, ne_TEXT_REAL, ne_TEXT_NUMERIC, ne_BLOB_INTEGER, ne_BLOB_REAL, ne_BLOB_NUMERIC] : (own_num w_INTEGER w_INTEGER w_REAL w_NUMERIC) = (1 : Int32))).2 k) ?_
    show F (T3.setTop (mkF m 76 #[.val (.int p0), .val (.int ((p0 &&& (2147483647 : Int32)) % (5 : Int32))), .val (.ref w_INTEGER), .val (.int (1 : Int32))] []))
    refine bk (fun t k => XS.iconst X3.here hx rfl (hb hby at_76) k) ?_
    show F (T3.setTop (mkF m 77 #[.val (.int p0), .val (.int ((p0 &&& (2147483647 : Int32)) % (5 : Int32))), .val (.ref w_INTEGER), .val (.int (1 : Int32))] [(.int (1 : Int32))]))
    refine bk (fun t k => XS.goto X3.here hx rfl (pc0 := 77) (pc' := 81) rfl (hb hby at_77) (by decide) (by decide) k) ?_
    show F (T3.setTop (mkF m 81 #[.val (.int p0), .val (.int ((p0 &&& (2147483647 : Int32)) % (5 : Int32))), .val (.ref w_INTEGER), .val (.int (1 : Int32))] [(.int (1 : Int32))]))
    rw [hF]
    refine own_retZ X3 hx Bd.notSynchronized Bd.returns (hb hby at_81) (by decide) (by decide) ?_
    rw [e3]
    exact ⟨rfl, N3⟩
  · refine bk (fun t k => XS.ifYes X0.here hx rfl (pc0 := 8) (pc' := 20) rfl (hb hby at_8) rfl ((if0 _ _).trans (feq hc8_1).2) (by decide) (by decide) k) ?_
    show F (s₁.setTop (mkF m 20 #[.val (.int p0), .val (.int ((p0 &&& (2147483647 : Int32)) % (5 : Int32))), .unset, .unset] []))
    refine bk (fun t k => XS.iloadN X0.here hx rfl (hb hby at_20) rfl k) ?_
    show F (s₁.setTop (mkF m 21 #[.val (.int p0), .val (.int ((p0 &&& (2147483647 : Int32)) % (5 : Int32))), .unset, .unset] [(.int ((p0 &&& (2147483647 : Int32)) % (5 : Int32)))]))
    refine bk (fun t k => XS.iconst X0.here hx rfl (hb hby at_21) k) ?_
    show F (s₁.setTop (mkF m 22 #[.val (.int p0), .val (.int ((p0 &&& (2147483647 : Int32)) % (5 : Int32))), .unset, .unset] [(.int (1 : Int32)), (.int ((p0 &&& (2147483647 : Int32)) % (5 : Int32)))]))
    by_cases hc22_4 : ((p0 &&& (2147483647 : Int32)) % (5 : Int32)) = (1 : Int32)
    · refine bk (fun t k => XS.icmpNo X0.here hx rfl (hb hby at_22) rfl (teq hc22_4).2 k) ?_
      show F (s₁.setTop (mkF m 25 #[.val (.int p0), .val (.int ((p0 &&& (2147483647 : Int32)) % (5 : Int32))), .unset, .unset] []))
      obtain ⟨T5, X5, e5, st5⟩ := getS2 X0 hx hZ hown (host := "") (Or.inl w_13) Via.refl e0 S_TEXT (g := (mkF m 25 #[.val (.int p0), .val (.int ((p0 &&& (2147483647 : Int32)) % (5 : Int32))), .unset, .unset] [])) rfl (hb hby at_25)
      refine bk (fun t k => st5 t k) ?_
      show F (T5.setTop (mkF m 28 #[.val (.int p0), .val (.int ((p0 &&& (2147483647 : Int32)) % (5 : Int32))), .unset, .unset] [(.ref w_TEXT)]))
      refine bk (fun t k => XS.astoreN X5.here hx rfl (hb hby at_28) rfl rfl (l' := #[.val (.int p0), .val (.int ((p0 &&& (2147483647 : Int32)) % (5 : Int32))), .val (.ref w_TEXT), .unset]) rfl k) ?_
      show F (T5.setTop (mkF m 29 #[.val (.int p0), .val (.int ((p0 &&& (2147483647 : Int32)) % (5 : Int32))), .val (.ref w_TEXT), .unset] []))
      refine bk (fun t k => XS.iconst X5.here hx rfl (hb hby at_29) k) ?_
      show F (T5.setTop (mkF m 30 #[.val (.int p0), .val (.int ((p0 &&& (2147483647 : Int32)) % (5 : Int32))), .val (.ref w_TEXT), .unset] [(.int (0 : Int32))]))
      refine bk (fun t k => XS.istoreN X5.here hx rfl (hb hby at_30) rfl (l' := #[.val (.int p0), .val (.int ((p0 &&& (2147483647 : Int32)) % (5 : Int32))), .val (.ref w_TEXT), .val (.int (0 : Int32))]) rfl k) ?_
      show F (T5.setTop (mkF m 31 #[.val (.int p0), .val (.int ((p0 &&& (2147483647 : Int32)) % (5 : Int32))), .val (.ref w_TEXT), .val (.int (0 : Int32))] []))
      refine bk (fun t k => XS.goto X5.here hx rfl (pc0 := 31) (pc' := 68) rfl (hb hby at_31) (by decide) (by decide) k) ?_
      show F (T5.setTop (mkF m 68 #[.val (.int p0), .val (.int ((p0 &&& (2147483647 : Int32)) % (5 : Int32))), .val (.ref w_TEXT), .val (.int (0 : Int32))] []))
      refine bk (fun t k => XS.aloadN X5.here hx rfl (hb hby at_68) rfl rfl k) ?_
      show F (T5.setTop (mkF m 69 #[.val (.int p0), .val (.int ((p0 &&& (2147483647 : Int32)) % (5 : Int32))), .val (.ref w_TEXT), .val (.int (0 : Int32))] [(.ref w_TEXT)]))
      obtain ⟨cq6, kq6, q6a, q6b, q6c⟩ := isOf hZ e5 (E_TEXT)
      obtain ⟨_, _, ⟨T6, L6, k6, n6⟩, -, X6, ⟨Lc6, hQ6, l6, y6, z6⟩, st6⟩ := X5.virtualBack hx (y := (⟨"com/example/culljoin/culljoin/model/Affinity", "numeric", "()Z"⟩ : MethodName)) (z := (⟨"com/example/culljoin/culljoin/model/Affinity", "numeric", "()Z"⟩ : MethodName)) hown (mvT hZ w_4) (mvT hZ w_5) (notFace_of_selects (args := #[]) (mvT hZ w_7)) (mvT hZ w_7) (mvT hZ w_6) (by decide) (backOf (W := 0) (rm1 l Z a0 hw [] w_TEXT w_INTEGER w_REAL w_NUMERIC h0 n0 Z0 S_INTEGER S_REAL S_NUMERIC) hZ w_8 w_2 (by decide) (by decide)) q6a q6c (g := (mkF m 69 #[.val (.int p0), .val (.int ((p0 &&& (2147483647 : Int32)) % (5 : Int32))), .val (.ref w_TEXT), .val (.int (0 : Int32))] [(.ref w_TEXT)])) rfl (by rw [hml]; rfl) (Steps.refl _) (argsL := []) (rest := []) (lenOf pd0___Z rfl) rfl (by show 2 * 0 + _ ≤ _; exact Nat.le_of_eq rfl) (hb hby at_69) (fun _ _ => ⟨rfl, e5, (by decide : 0 + 0 ≤ _), (by decide : 0 + 0 ≤ _)⟩)
      dsimp only [Pt.U, Pt.locs, Pt.cells, Pt.slots] at X6 l6 y6 z6 st6 hQ6
      subst l6 y6 z6
      obtain ⟨rfl, N6q, e6⟩ := hQ6
      have N6 := Fr.app N0 N6q
      refine bk (fun t k => st6.trans k) ?_
      show F (T6.setTop (mkF m 72 #[.val (.int p0), .val (.int ((p0 &&& (2147483647 : Int32)) % (5 : Int32))), .val (.ref w_TEXT), .val (.int (0 : Int32))] [(.int (own_num w_TEXT w_INTEGER w_REAL w_NUMERIC))]))
      refine bk (fun t k => XS.iloadN X6.here hx rfl (hb hby at_72) rfl k) ?_
      show F (T6.setTop (mkF m 73 #[.val (.int p0), .val (.int ((p0 &&& (2147483647 : Int32)) % (5 : Int32))), .val (.ref w_TEXT), .val (.int (0 : Int32))] [(.int (0 : Int32)), (.int (own_num w_TEXT w_INTEGER w_REAL w_NUMERIC))]))
      refine bk (fun t k => XS.icmpNo X6.here hx rfl (hb hby at_73) rfl (teq (by simp [own_num, ne_TEXT_INTEGER, ne_TEXT_REAL, ne_TEXT_NUMERIC, ne_BLOB_INTEGER, ne_BLOB_REAL, ne_BLOB_NUMERIC] : (own_num w_TEXT w_INTEGER w_REAL w_NUMERIC) = (0 : Int32))).2 k) ?_
      show F (T6.setTop (mkF m 76 #[.val (.int p0), .val (.int ((p0 &&& (2147483647 : Int32)) % (5 : Int32))), .val (.ref w_TEXT), .val (.int (0 : Int32))] []))
      refine bk (fun t k => XS.iconst X6.here hx rfl (hb hby at_76) k) ?_
      show F (T6.setTop (mkF m 77 #[.val (.int p0), .val (.int ((p0 &&& (2147483647 : Int32)) % (5 : Int32))), .val (.ref w_TEXT), .val (.int (0 : Int32))] [(.int (1 : Int32))]))
      refine bk (fun t k => XS.goto X6.here hx rfl (pc0 := 77) (pc' := 81) rfl (hb hby at_77) (by decide) (by decide) k) ?_
      show F (T6.setTop (mkF m 81 #[.val (.int p0), .val (.int ((p0 &&& (2147483647 : Int32)) % (5 : Int32))), .val (.ref w_TEXT), .val (.int (0 : Int32))] [(.int (1 : Int32))]))
      rw [hF]
      refine own_retZ X6 hx Bd.notSynchronized Bd.returns (hb hby at_81) (by decide) (by decide) ?_
      rw [e6]
      exact ⟨rfl, N6⟩
    · refine bk (fun t k => XS.icmpYes X0.here hx rfl (pc0 := 22) (pc' := 34) rfl (hb hby at_22) rfl (feq hc22_4).2 (by decide) (by decide) k) ?_
      show F (s₁.setTop (mkF m 34 #[.val (.int p0), .val (.int ((p0 &&& (2147483647 : Int32)) % (5 : Int32))), .unset, .unset] []))
      refine bk (fun t k => XS.iloadN X0.here hx rfl (hb hby at_34) rfl k) ?_
      show F (s₁.setTop (mkF m 35 #[.val (.int p0), .val (.int ((p0 &&& (2147483647 : Int32)) % (5 : Int32))), .unset, .unset] [(.int ((p0 &&& (2147483647 : Int32)) % (5 : Int32)))]))
      refine bk (fun t k => XS.iconst X0.here hx rfl (hb hby at_35) k) ?_
      show F (s₁.setTop (mkF m 36 #[.val (.int p0), .val (.int ((p0 &&& (2147483647 : Int32)) % (5 : Int32))), .unset, .unset] [(.int (2 : Int32)), (.int ((p0 &&& (2147483647 : Int32)) % (5 : Int32)))]))
      by_cases hc36_7 : ((p0 &&& (2147483647 : Int32)) % (5 : Int32)) = (2 : Int32)
      · refine bk (fun t k => XS.icmpNo X0.here hx rfl (hb hby at_36) rfl (teq hc36_7).2 k) ?_
        show F (s₁.setTop (mkF m 39 #[.val (.int p0), .val (.int ((p0 &&& (2147483647 : Int32)) % (5 : Int32))), .unset, .unset] []))
        obtain ⟨T8, X8, e8, st8⟩ := getS2 X0 hx hZ hown (host := "") (Or.inl w_18) Via.refl e0 S_BLOB (g := (mkF m 39 #[.val (.int p0), .val (.int ((p0 &&& (2147483647 : Int32)) % (5 : Int32))), .unset, .unset] [])) rfl (hb hby at_39)
        refine bk (fun t k => st8 t k) ?_
        show F (T8.setTop (mkF m 42 #[.val (.int p0), .val (.int ((p0 &&& (2147483647 : Int32)) % (5 : Int32))), .unset, .unset] [(.ref w_BLOB)]))
        refine bk (fun t k => XS.astoreN X8.here hx rfl (hb hby at_42) rfl rfl (l' := #[.val (.int p0), .val (.int ((p0 &&& (2147483647 : Int32)) % (5 : Int32))), .val (.ref w_BLOB), .unset]) rfl k) ?_
        show F (T8.setTop (mkF m 43 #[.val (.int p0), .val (.int ((p0 &&& (2147483647 : Int32)) % (5 : Int32))), .val (.ref w_BLOB), .unset] []))
        refine bk (fun t k => XS.iconst X8.here hx rfl (hb hby at_43) k) ?_
        show F (T8.setTop (mkF m 44 #[.val (.int p0), .val (.int ((p0 &&& (2147483647 : Int32)) % (5 : Int32))), .val (.ref w_BLOB), .unset] [(.int (0 : Int32))]))
        refine bk (fun t k => XS.istoreN X8.here hx rfl (hb hby at_44) rfl (l' := #[.val (.int p0), .val (.int ((p0 &&& (2147483647 : Int32)) % (5 : Int32))), .val (.ref w_BLOB), .val (.int (0 : Int32))]) rfl k) ?_
        show F (T8.setTop (mkF m 45 #[.val (.int p0), .val (.int ((p0 &&& (2147483647 : Int32)) % (5 : Int32))), .val (.ref w_BLOB), .val (.int (0 : Int32))] []))
        refine bk (fun t k => XS.goto X8.here hx rfl (pc0 := 45) (pc' := 68) rfl (hb hby at_45) (by decide) (by decide) k) ?_
        show F (T8.setTop (mkF m 68 #[.val (.int p0), .val (.int ((p0 &&& (2147483647 : Int32)) % (5 : Int32))), .val (.ref w_BLOB), .val (.int (0 : Int32))] []))
        refine bk (fun t k => XS.aloadN X8.here hx rfl (hb hby at_68) rfl rfl k) ?_
        show F (T8.setTop (mkF m 69 #[.val (.int p0), .val (.int ((p0 &&& (2147483647 : Int32)) % (5 : Int32))), .val (.ref w_BLOB), .val (.int (0 : Int32))] [(.ref w_BLOB)]))
        obtain ⟨cq9, kq9, q9a, q9b, q9c⟩ := isOf hZ e8 (E_BLOB)
        obtain ⟨_, _, ⟨T9, L9, k9, n9⟩, -, X9, ⟨Lc9, hQ9, l9, y9, z9⟩, st9⟩ := X8.virtualBack hx (y := (⟨"com/example/culljoin/culljoin/model/Affinity", "numeric", "()Z"⟩ : MethodName)) (z := (⟨"com/example/culljoin/culljoin/model/Affinity", "numeric", "()Z"⟩ : MethodName)) hown (mvT hZ w_4) (mvT hZ w_5) (notFace_of_selects (args := #[]) (mvT hZ w_7)) (mvT hZ w_7) (mvT hZ w_6) (by decide) (backOf (W := 0) (rm1 l Z a0 hw [] w_BLOB w_INTEGER w_REAL w_NUMERIC h0 n0 Z0 S_INTEGER S_REAL S_NUMERIC) hZ w_8 w_2 (by decide) (by decide)) q9a q9c (g := (mkF m 69 #[.val (.int p0), .val (.int ((p0 &&& (2147483647 : Int32)) % (5 : Int32))), .val (.ref w_BLOB), .val (.int (0 : Int32))] [(.ref w_BLOB)])) rfl (by rw [hml]; rfl) (Steps.refl _) (argsL := []) (rest := []) (lenOf pd0___Z rfl) rfl (by show 2 * 0 + _ ≤ _; exact Nat.le_of_eq rfl) (hb hby at_69) (fun _ _ => ⟨rfl, e8, (by decide : 0 + 0 ≤ _), (by decide : 0 + 0 ≤ _)⟩)
        dsimp only [Pt.U, Pt.locs, Pt.cells, Pt.slots] at X9 l9 y9 z9 st9 hQ9
        subst l9 y9 z9
        obtain ⟨rfl, N9q, e9⟩ := hQ9
        have N9 := Fr.app N0 N9q
        refine bk (fun t k => st9.trans k) ?_
        show F (T9.setTop (mkF m 72 #[.val (.int p0), .val (.int ((p0 &&& (2147483647 : Int32)) % (5 : Int32))), .val (.ref w_BLOB), .val (.int (0 : Int32))] [(.int (own_num w_BLOB w_INTEGER w_REAL w_NUMERIC))]))
        refine bk (fun t k => XS.iloadN X9.here hx rfl (hb hby at_72) rfl k) ?_
        show F (T9.setTop (mkF m 73 #[.val (.int p0), .val (.int ((p0 &&& (2147483647 : Int32)) % (5 : Int32))), .val (.ref w_BLOB), .val (.int (0 : Int32))] [(.int (0 : Int32)), (.int (own_num w_BLOB w_INTEGER w_REAL w_NUMERIC))]))
        refine bk (fun t k => XS.icmpNo X9.here hx rfl (hb hby at_73) rfl (teq (by simp [own_num, ne_TEXT_INTEGER, ne_TEXT_REAL, ne_TEXT_NUMERIC, ne_BLOB_INTEGER, ne_BLOB_REAL, ne_BLOB_NUMERIC] : (own_num w_BLOB w_INTEGER w_REAL w_NUMERIC) = (0 : Int32))).2 k) ?_
        show F (T9.setTop (mkF m 76 #[.val (.int p0), .val (.int ((p0 &&& (2147483647 : Int32)) % (5 : Int32))), .val (.ref w_BLOB), .val (.int (0 : Int32))] []))
        refine bk (fun t k => XS.iconst X9.here hx rfl (hb hby at_76) k) ?_
        show F (T9.setTop (mkF m 77 #[.val (.int p0), .val (.int ((p0 &&& (2147483647 : Int32)) % (5 : Int32))), .val (.ref w_BLOB), .val (.int (0 : Int32))] [(.int (1 : Int32))]))
        refine bk (fun t k => XS.goto X9.here hx rfl (pc0 := 77) (pc' := 81) rfl (hb hby at_77) (by decide) (by decide) k) ?_
        show F (T9.setTop (mkF m 81 #[.val (.int p0), .val (.int ((p0 &&& (2147483647 : Int32)) % (5 : Int32))), .val (.ref w_BLOB), .val (.int (0 : Int32))] [(.int (1 : Int32))]))
        rw [hF]
        refine own_retZ X9 hx Bd.notSynchronized Bd.returns (hb hby at_81) (by decide) (by decide) ?_
        rw [e9]
        exact ⟨rfl, N9⟩
      · refine bk (fun t k => XS.icmpYes X0.here hx rfl (pc0 := 36) (pc' := 48) rfl (hb hby at_36) rfl (feq hc36_7).2 (by decide) (by decide) k) ?_
        show F (s₁.setTop (mkF m 48 #[.val (.int p0), .val (.int ((p0 &&& (2147483647 : Int32)) % (5 : Int32))), .unset, .unset] []))
        refine bk (fun t k => XS.iloadN X0.here hx rfl (hb hby at_48) rfl k) ?_
        show F (s₁.setTop (mkF m 49 #[.val (.int p0), .val (.int ((p0 &&& (2147483647 : Int32)) % (5 : Int32))), .unset, .unset] [(.int ((p0 &&& (2147483647 : Int32)) % (5 : Int32)))]))
        refine bk (fun t k => XS.iconst X0.here hx rfl (hb hby at_49) k) ?_
        show F (s₁.setTop (mkF m 50 #[.val (.int p0), .val (.int ((p0 &&& (2147483647 : Int32)) % (5 : Int32))), .unset, .unset] [(.int (3 : Int32)), (.int ((p0 &&& (2147483647 : Int32)) % (5 : Int32)))]))
        by_cases hc50_10 : ((p0 &&& (2147483647 : Int32)) % (5 : Int32)) = (3 : Int32)
        · refine bk (fun t k => XS.icmpNo X0.here hx rfl (hb hby at_50) rfl (teq hc50_10).2 k) ?_
          show F (s₁.setTop (mkF m 53 #[.val (.int p0), .val (.int ((p0 &&& (2147483647 : Int32)) % (5 : Int32))), .unset, .unset] []))
          obtain ⟨T11, X11, e11, st11⟩ := getS2 X0 hx hZ hown (host := "") (Or.inl w_10) Via.refl e0 S_REAL (g := (mkF m 53 #[.val (.int p0), .val (.int ((p0 &&& (2147483647 : Int32)) % (5 : Int32))), .unset, .unset] [])) rfl (hb hby at_53)
          refine bk (fun t k => st11 t k) ?_
          show F (T11.setTop (mkF m 56 #[.val (.int p0), .val (.int ((p0 &&& (2147483647 : Int32)) % (5 : Int32))), .unset, .unset] [(.ref w_REAL)]))
          refine bk (fun t k => XS.astoreN X11.here hx rfl (hb hby at_56) rfl rfl (l' := #[.val (.int p0), .val (.int ((p0 &&& (2147483647 : Int32)) % (5 : Int32))), .val (.ref w_REAL), .unset]) rfl k) ?_
          show F (T11.setTop (mkF m 57 #[.val (.int p0), .val (.int ((p0 &&& (2147483647 : Int32)) % (5 : Int32))), .val (.ref w_REAL), .unset] []))
          refine bk (fun t k => XS.iconst X11.here hx rfl (hb hby at_57) k) ?_
          show F (T11.setTop (mkF m 58 #[.val (.int p0), .val (.int ((p0 &&& (2147483647 : Int32)) % (5 : Int32))), .val (.ref w_REAL), .unset] [(.int (1 : Int32))]))
          refine bk (fun t k => XS.istoreN X11.here hx rfl (hb hby at_58) rfl (l' := #[.val (.int p0), .val (.int ((p0 &&& (2147483647 : Int32)) % (5 : Int32))), .val (.ref w_REAL), .val (.int (1 : Int32))]) rfl k) ?_
          show F (T11.setTop (mkF m 59 #[.val (.int p0), .val (.int ((p0 &&& (2147483647 : Int32)) % (5 : Int32))), .val (.ref w_REAL), .val (.int (1 : Int32))] []))
          refine bk (fun t k => XS.goto X11.here hx rfl (pc0 := 59) (pc' := 68) rfl (hb hby at_59) (by decide) (by decide) k) ?_
          show F (T11.setTop (mkF m 68 #[.val (.int p0), .val (.int ((p0 &&& (2147483647 : Int32)) % (5 : Int32))), .val (.ref w_REAL), .val (.int (1 : Int32))] []))
          refine bk (fun t k => XS.aloadN X11.here hx rfl (hb hby at_68) rfl rfl k) ?_
          show F (T11.setTop (mkF m 69 #[.val (.int p0), .val (.int ((p0 &&& (2147483647 : Int32)) % (5 : Int32))), .val (.ref w_REAL), .val (.int (1 : Int32))] [(.ref w_REAL)]))
          obtain ⟨cq12, kq12, q12a, q12b, q12c⟩ := isOf hZ e11 (E_REAL)
          obtain ⟨_, _, ⟨T12, L12, k12, n12⟩, -, X12, ⟨Lc12, hQ12, l12, y12, z12⟩, st12⟩ := X11.virtualBack hx (y := (⟨"com/example/culljoin/culljoin/model/Affinity", "numeric", "()Z"⟩ : MethodName)) (z := (⟨"com/example/culljoin/culljoin/model/Affinity", "numeric", "()Z"⟩ : MethodName)) hown (mvT hZ w_4) (mvT hZ w_5) (notFace_of_selects (args := #[]) (mvT hZ w_7)) (mvT hZ w_7) (mvT hZ w_6) (by decide) (backOf (W := 0) (rm1 l Z a0 hw [] w_REAL w_INTEGER w_REAL w_NUMERIC h0 n0 Z0 S_INTEGER S_REAL S_NUMERIC) hZ w_8 w_2 (by decide) (by decide)) q12a q12c (g := (mkF m 69 #[.val (.int p0), .val (.int ((p0 &&& (2147483647 : Int32)) % (5 : Int32))), .val (.ref w_REAL), .val (.int (1 : Int32))] [(.ref w_REAL)])) rfl (by rw [hml]; rfl) (Steps.refl _) (argsL := []) (rest := []) (lenOf pd0___Z rfl) rfl (by show 2 * 0 + _ ≤ _; exact Nat.le_of_eq rfl) (hb hby at_69) (fun _ _ => ⟨rfl, e11, (by decide : 0 + 0 ≤ _), (by decide : 0 + 0 ≤ _)⟩)
          dsimp only [Pt.U, Pt.locs, Pt.cells, Pt.slots] at X12 l12 y12 z12 st12 hQ12
          subst l12 y12 z12
          obtain ⟨rfl, N12q, e12⟩ := hQ12
          have N12 := Fr.app N0 N12q
          refine bk (fun t k => st12.trans k) ?_
          show F (T12.setTop (mkF m 72 #[.val (.int p0), .val (.int ((p0 &&& (2147483647 : Int32)) % (5 : Int32))), .val (.ref w_REAL), .val (.int (1 : Int32))] [(.int (own_num w_REAL w_INTEGER w_REAL w_NUMERIC))]))
          refine bk (fun t k => XS.iloadN X12.here hx rfl (hb hby at_72) rfl k) ?_
          show F (T12.setTop (mkF m 73 #[.val (.int p0), .val (.int ((p0 &&& (2147483647 : Int32)) % (5 : Int32))), .val (.ref w_REAL), .val (.int (1 : Int32))] [(.int (1 : Int32)), (.int (own_num w_REAL w_INTEGER w_REAL w_NUMERIC))]))
          refine bk (fun t k => XS.icmpNo X12.here hx rfl (hb hby at_73) rfl (teq (by simp [own_num, ne_TEXT_INTEGER, ne_TEXT_REAL, ne_TEXT_NUMERIC, ne_BLOB_INTEGER, ne_BLOB_REAL, ne_BLOB_NUMERIC] : (own_num w_REAL w_INTEGER w_REAL w_NUMERIC) = (1 : Int32))).2 k) ?_
          show F (T12.setTop (mkF m 76 #[.val (.int p0), .val (.int ((p0 &&& (2147483647 : Int32)) % (5 : Int32))), .val (.ref w_REAL), .val (.int (1 : Int32))] []))
          refine bk (fun t k => XS.iconst X12.here hx rfl (hb hby at_76) k) ?_
          show F (T12.setTop (mkF m 77 #[.val (.int p0), .val (.int ((p0 &&& (2147483647 : Int32)) % (5 : Int32))), .val (.ref w_REAL), .val (.int (1 : Int32))] [(.int (1 : Int32))]))
          refine bk (fun t k => XS.goto X12.here hx rfl (pc0 := 77) (pc' := 81) rfl (hb hby at_77) (by decide) (by decide) k) ?_
          show F (T12.setTop (mkF m 81 #[.val (.int p0), .val (.int ((p0 &&& (2147483647 : Int32)) % (5 : Int32))), .val (.ref w_REAL), .val (.int (1 : Int32))] [(.int (1 : Int32))]))
          rw [hF]
          refine own_retZ X12 hx Bd.notSynchronized Bd.returns (hb hby at_81) (by decide) (by decide) ?_
          rw [e12]
          exact ⟨rfl, N12⟩
        · refine bk (fun t k => XS.icmpYes X0.here hx rfl (pc0 := 50) (pc' := 62) rfl (hb hby at_50) rfl (feq hc50_10).2 (by decide) (by decide) k) ?_
          show F (s₁.setTop (mkF m 62 #[.val (.int p0), .val (.int ((p0 &&& (2147483647 : Int32)) % (5 : Int32))), .unset, .unset] []))
          obtain ⟨T13, X13, e13, st13⟩ := getS2 X0 hx hZ hown (host := "") (Or.inl w_17) Via.refl e0 S_NUMERIC (g := (mkF m 62 #[.val (.int p0), .val (.int ((p0 &&& (2147483647 : Int32)) % (5 : Int32))), .unset, .unset] [])) rfl (hb hby at_62)
          refine bk (fun t k => st13 t k) ?_
          show F (T13.setTop (mkF m 65 #[.val (.int p0), .val (.int ((p0 &&& (2147483647 : Int32)) % (5 : Int32))), .unset, .unset] [(.ref w_NUMERIC)]))
          refine bk (fun t k => XS.astoreN X13.here hx rfl (hb hby at_65) rfl rfl (l' := #[.val (.int p0), .val (.int ((p0 &&& (2147483647 : Int32)) % (5 : Int32))), .val (.ref w_NUMERIC), .unset]) rfl k) ?_
          show F (T13.setTop (mkF m 66 #[.val (.int p0), .val (.int ((p0 &&& (2147483647 : Int32)) % (5 : Int32))), .val (.ref w_NUMERIC), .unset] []))
          refine bk (fun t k => XS.iconst X13.here hx rfl (hb hby at_66) k) ?_
          show F (T13.setTop (mkF m 67 #[.val (.int p0), .val (.int ((p0 &&& (2147483647 : Int32)) % (5 : Int32))), .val (.ref w_NUMERIC), .unset] [(.int (1 : Int32))]))
          refine bk (fun t k => XS.istoreN X13.here hx rfl (hb hby at_67) rfl (l' := #[.val (.int p0), .val (.int ((p0 &&& (2147483647 : Int32)) % (5 : Int32))), .val (.ref w_NUMERIC), .val (.int (1 : Int32))]) rfl k) ?_
          show F (T13.setTop (mkF m 68 #[.val (.int p0), .val (.int ((p0 &&& (2147483647 : Int32)) % (5 : Int32))), .val (.ref w_NUMERIC), .val (.int (1 : Int32))] []))
          refine bk (fun t k => XS.aloadN X13.here hx rfl (hb hby at_68) rfl rfl k) ?_
          show F (T13.setTop (mkF m 69 #[.val (.int p0), .val (.int ((p0 &&& (2147483647 : Int32)) % (5 : Int32))), .val (.ref w_NUMERIC), .val (.int (1 : Int32))] [(.ref w_NUMERIC)]))
          obtain ⟨cq14, kq14, q14a, q14b, q14c⟩ := isOf hZ e13 (E_NUMERIC)
          obtain ⟨_, _, ⟨T14, L14, k14, n14⟩, -, X14, ⟨Lc14, hQ14, l14, y14, z14⟩, st14⟩ := X13.virtualBack hx (y := (⟨"com/example/culljoin/culljoin/model/Affinity", "numeric", "()Z"⟩ : MethodName)) (z := (⟨"com/example/culljoin/culljoin/model/Affinity", "numeric", "()Z"⟩ : MethodName)) hown (mvT hZ w_4) (mvT hZ w_5) (notFace_of_selects (args := #[]) (mvT hZ w_7)) (mvT hZ w_7) (mvT hZ w_6) (by decide) (backOf (W := 0) (rm1 l Z a0 hw [] w_NUMERIC w_INTEGER w_REAL w_NUMERIC h0 n0 Z0 S_INTEGER S_REAL S_NUMERIC) hZ w_8 w_2 (by decide) (by decide)) q14a q14c (g := (mkF m 69 #[.val (.int p0), .val (.int ((p0 &&& (2147483647 : Int32)) % (5 : Int32))), .val (.ref w_NUMERIC), .val (.int (1 : Int32))] [(.ref w_NUMERIC)])) rfl (by rw [hml]; rfl) (Steps.refl _) (argsL := []) (rest := []) (lenOf pd0___Z rfl) rfl (by show 2 * 0 + _ ≤ _; exact Nat.le_of_eq rfl) (hb hby at_69) (fun _ _ => ⟨rfl, e13, (by decide : 0 + 0 ≤ _), (by decide : 0 + 0 ≤ _)⟩)
          dsimp only [Pt.U, Pt.locs, Pt.cells, Pt.slots] at X14 l14 y14 z14 st14 hQ14
          subst l14 y14 z14
          obtain ⟨rfl, N14q, e14⟩ := hQ14
          have N14 := Fr.app N0 N14q
          refine bk (fun t k => st14.trans k) ?_
          show F (T14.setTop (mkF m 72 #[.val (.int p0), .val (.int ((p0 &&& (2147483647 : Int32)) % (5 : Int32))), .val (.ref w_NUMERIC), .val (.int (1 : Int32))] [(.int (own_num w_NUMERIC w_INTEGER w_REAL w_NUMERIC))]))
          refine bk (fun t k => XS.iloadN X14.here hx rfl (hb hby at_72) rfl k) ?_
          show F (T14.setTop (mkF m 73 #[.val (.int p0), .val (.int ((p0 &&& (2147483647 : Int32)) % (5 : Int32))), .val (.ref w_NUMERIC), .val (.int (1 : Int32))] [(.int (1 : Int32)), (.int (own_num w_NUMERIC w_INTEGER w_REAL w_NUMERIC))]))
          refine bk (fun t k => XS.icmpNo X14.here hx rfl (hb hby at_73) rfl (teq (by simp [own_num, ne_TEXT_INTEGER, ne_TEXT_REAL, ne_TEXT_NUMERIC, ne_BLOB_INTEGER, ne_BLOB_REAL, ne_BLOB_NUMERIC] : (own_num w_NUMERIC w_INTEGER w_REAL w_NUMERIC) = (1 : Int32))).2 k) ?_
          show F (T14.setTop (mkF m 76 #[.val (.int p0), .val (.int ((p0 &&& (2147483647 : Int32)) % (5 : Int32))), .val (.ref w_NUMERIC), .val (.int (1 : Int32))] []))
          refine bk (fun t k => XS.iconst X14.here hx rfl (hb hby at_76) k) ?_
          show F (T14.setTop (mkF m 77 #[.val (.int p0), .val (.int ((p0 &&& (2147483647 : Int32)) % (5 : Int32))), .val (.ref w_NUMERIC), .val (.int (1 : Int32))] [(.int (1 : Int32))]))
          refine bk (fun t k => XS.goto X14.here hx rfl (pc0 := 77) (pc' := 81) rfl (hb hby at_77) (by decide) (by decide) k) ?_
          show F (T14.setTop (mkF m 81 #[.val (.int p0), .val (.int ((p0 &&& (2147483647 : Int32)) % (5 : Int32))), .val (.ref w_NUMERIC), .val (.int (1 : Int32))] [(.int (1 : Int32))]))
          rw [hF]
          refine own_retZ X14 hx Bd.notSynchronized Bd.returns (hb hby at_81) (by decide) (by decide) ?_
          rw [e14]
          exact ⟨rfl, N14⟩
set_option maxRecDepth 65536 in
set_option maxHeartbeats 40000000 in
theorem comes_1 {Post : Tables → Env → Array Value → State → Outcome → State → Prop} (hpost : ∀ tb e args s v u, (limb_1_1.after args s (.returned v) u = true ∧ limb_1_2.after args s (.returned v) u = true ∧ True) → FrameEnd s (.returned v) u (Jvm.fieldLocs frame_1_writes args s ++ Jvm.arrayLocs frame_1_arrays args s ++ Jvm.staticLocs frame_1_statics s) 0 0 → Post tb e args s (.returned v) u) :
    ArmFor flags0 classFile x code maxLocals ret World_1 tables_1 room_1 Calls_1 rest_1 Pre_1 Post := by
  intro l hfl _ _ p e ha hc hk s m args below hf hA hF happ hP
  obtain ⟨hcalls, hrest, hpre⟩ := hP
  obtain ⟨-, -, -, hnamed, -, -, -, hat⟩ := (Spec.applies_iff hf).mp happ
  obtain ⟨hg, hn⟩ := and_e (Cond.before_iff.mp (show (Jvm.Cond.and given_1 narrow_1).before args s = true from hpre))
  obtain ⟨hcount, hk0⟩ := and_e hg
  have hi0 := hk0
  obtain ⟨w0, rfl⟩ : ∃ w0 : Value, args = #[w0] := by
    have hs : args.size = 1 := by simpa [Cond.value, given_1] using hcount
    obtain ⟨L⟩ := args
    match L, hs with
    | [w0], _ => exact ⟨w0, rfl⟩
  have hw := fun d (hd : d ∈ tables_1) => atoms_spec (ws := Jvm.Cond.code x code maxLocals ret :: tables_1) hat d (List.mem_cons_of_mem _ hd)
  obtain ⟨i0, ei0⟩ := is_v hi0
  obtain rfl : w0 = (.int i0) := Option.some.inj ei0
  obtain ⟨na1, nb1⟩ := and_e hn
  obtain ⟨na2, nb2⟩ := and_e nb1
  obtain ⟨na3, nb3⟩ := and_e nb2
  obtain ⟨na4, nb4⟩ := and_e nb3
  obtain ⟨na5, nb5⟩ := and_e nb4
  obtain ⟨na6, nb6⟩ := and_e nb5
  obtain ⟨na7, nb7⟩ := and_e nb6
  obtain ⟨na8, nb8⟩ := and_e nb7
  obtain ⟨na9, nb9⟩ := and_e nb8
  obtain ⟨w_INTEGER, ev_INTEGER⟩ := exa_v na1
  have S_INTEGER : Sta s s.heap "com/example/culljoin/culljoin/model/Affinity" "INTEGER" "Lcom/example/culljoin/culljoin/model/Affinity;" (.ref w_INTEGER) := Sta.start ev_INTEGER (Or.inr ⟨(hw _ (List.mem_of_getElem? (i := 2) rfl)), (hw _ (List.mem_of_getElem? (i := 3) rfl))⟩)
  have E_INTEGER : Exa s s.heap w_INTEGER "com/example/culljoin/culljoin/model/Affinity" := Exa.start ev_INTEGER na1
  have O0_INTEGER : Fld s s.heap w_INTEGER "java/lang/Enum" "ordinal" "I" (.int (0 : Int32)) := own_fldAt ev_INTEGER na4
  obtain ⟨w_REAL, ev_REAL⟩ := exa_v na2
  have S_REAL : Sta s s.heap "com/example/culljoin/culljoin/model/Affinity" "REAL" "Lcom/example/culljoin/culljoin/model/Affinity;" (.ref w_REAL) := Sta.start ev_REAL (Or.inr ⟨(hw _ (List.mem_of_getElem? (i := 2) rfl)), (hw _ (List.mem_of_getElem? (i := 11) rfl))⟩)
  have E_REAL : Exa s s.heap w_REAL "com/example/culljoin/culljoin/model/Affinity" := Exa.start ev_REAL na2
  have O0_REAL : Fld s s.heap w_REAL "java/lang/Enum" "ordinal" "I" (.int (3 : Int32)) := own_fldAt ev_REAL na3
  obtain ⟨w_TEXT, ev_TEXT⟩ := exa_v na5
  have S_TEXT : Sta s s.heap "com/example/culljoin/culljoin/model/Affinity" "TEXT" "Lcom/example/culljoin/culljoin/model/Affinity;" (.ref w_TEXT) := Sta.start ev_TEXT (Or.inr ⟨(hw _ (List.mem_of_getElem? (i := 2) rfl)), (hw _ (List.mem_of_getElem? (i := 14) rfl))⟩)
  have E_TEXT : Exa s s.heap w_TEXT "com/example/culljoin/culljoin/model/Affinity" := Exa.start ev_TEXT na5
  have O0_TEXT : Fld s s.heap w_TEXT "java/lang/Enum" "ordinal" "I" (.int (1 : Int32)) := own_fldAt ev_TEXT na6
  obtain ⟨w_NUMERIC, ev_NUMERIC⟩ := exa_v na7
  have S_NUMERIC : Sta s s.heap "com/example/culljoin/culljoin/model/Affinity" "NUMERIC" "Lcom/example/culljoin/culljoin/model/Affinity;" (.ref w_NUMERIC) := Sta.start ev_NUMERIC (Or.inr ⟨(hw _ (List.mem_of_getElem? (i := 2) rfl)), (hw _ (List.mem_of_getElem? (i := 16) rfl))⟩)
  have E_NUMERIC : Exa s s.heap w_NUMERIC "com/example/culljoin/culljoin/model/Affinity" := Exa.start ev_NUMERIC na7
  have O0_NUMERIC : Fld s s.heap w_NUMERIC "java/lang/Enum" "ordinal" "I" (.int (4 : Int32)) := own_fldAt ev_NUMERIC na8
  obtain ⟨w_BLOB, ev_BLOB⟩ := exa_v na9
  have S_BLOB : Sta s s.heap "com/example/culljoin/culljoin/model/Affinity" "BLOB" "Lcom/example/culljoin/culljoin/model/Affinity;" (.ref w_BLOB) := Sta.start ev_BLOB (Or.inr ⟨(hw _ (List.mem_of_getElem? (i := 2) rfl)), (hw _ (List.mem_of_getElem? (i := 19) rfl))⟩)
  have E_BLOB : Exa s s.heap w_BLOB "com/example/culljoin/culljoin/model/Affinity" := Exa.start ev_BLOB na9
  have O0_BLOB : Fld s s.heap w_BLOB "java/lang/Enum" "ordinal" "I" (.int (2 : Int32)) := own_fldAt ev_BLOB nb9
  obtain ⟨n, o, h1, h2, h3, _, L, rfl, ⟨rfl, N⟩, hq⟩ := rm0 l s _ hw tables_1 i0 w_INTEGER w_TEXT w_BLOB w_REAL w_NUMERIC s.heap s.heap.size (Nat.le_refl _) S_INTEGER S_TEXT S_BLOB S_REAL S_NUMERIC E_INTEGER E_TEXT E_BLOB E_REAL E_NUMERIC (O0_TEXT.ne O0_INTEGER (by simp)) (O0_TEXT.ne O0_REAL (by simp)) (O0_TEXT.ne O0_NUMERIC (by simp)) (O0_BLOB.ne O0_INTEGER (by simp)) (O0_BLOB.ne O0_REAL (by simp)) (O0_BLOB.ne O0_NUMERIC (by simp)) p e ha hc hk s m _ below hf ((Spec.applies_iff_loose hf).mp happ).1 ⟨rfl, State.Warmed39.refl s, rfl⟩ trivial
  refine ⟨n, _, h1, h2, h3, hpost _ _ _ _ _ _ ⟨Cond.after_iff.mpr rfl, Cond.after_iff.mpr (eq_i res_at (Term.int_eval (1)) rfl), trivial⟩ ⟨hq.1, hq.2.1, (hq.2.2.sift fun y hy => Or.inr (N y hy)).mono (by decide) (by decide)⟩⟩
theorem main_1_1 : Claimed_1_1 := comes_1 fun _ _ _ _ _ _ h hF => ⟨h.1, hF⟩
theorem main_1_2 : Claimed_1_2 := comes_1 fun _ _ _ _ _ _ h hF => ⟨h.2.1, hF⟩
end Jvm.Pilot.@@N@@
namespace Jvm.Pilot.@@N@@
open Jvm Jvm.ClassFile Sem Op Lib Jvm.Free Jvm.Stand Jvm.Pilot.@@N@@.Jvm.D
/-! MADE BY PROGRAM (witnessworld.py) out of the Statement's table words and the real class files: 12 classes; the members and pool entries that the words name. The judged class is class 1, her method 1. -/
namespace start1
open Jvm.ClassFile
def u (s : String) : CpInfo := .utf8 (stringToUtf16 s)
/-- a pool by its gaps: so many unusable entries, then the entry; so many at the end -/
def gap : Nat → List CpInfo → List CpInfo
  | 0, r => r
  | n + 1, r => .unusable :: gap n r
def poolList (es : List (Nat × CpInfo)) (last : Nat) : List CpInfo := es.foldr (fun e r => gap e.1 (e.2 :: r)) (gap last [])
def pool (es : List (Nat × CpInfo)) (last : Nat) : Array CpInfo := ⟨poolList es last⟩
def fileOf (pool : Array CpInfo) (this : Nat) (attrs : Array Attribute := #[]) (ms : Array MethodInfo := #[]) (fl : Nat := 33) (sup : Nat := 0) (ifs : Array Nat := #[]) (fds : Array FieldInfo := #[]) : ClassFile where
  minorVersion := 0
  majorVersion := 65
  constantPool := pool
  accessFlags := fl
  thisClass := this
  superClass := sup
  interfaces := ifs
  fields := fds
  methods := ms
  attributes := attrs
def plain (name : String) (sup : Option ClassId) : Class where
  name := name
  kind := .ordinary
  loader := none
  accessFlags := 33
  super := sup
  interfaces := #[]
  cf := none
  fields := #[]
  methods := #[]
  instanceTypes := #[]
  staticTypes := #[]
  resolved := #[]
  callSites := []
  init := .initialized
  statics := none
  mirror := none

def pool0 : Array CpInfo := pool [(5, u "<init>"), (0, u "()V"), (1, .class_ 10), (1, u "java/lang/Object")] 113

def k0m0 : Method := { name := "<init>", desc := "()V", sig := { parameters := [], returnType := none }, accessFlags := 1, code := none }
/-- java/lang/Object -/
def k0 : Class := { plain "java/lang/Object" none with
  accessFlags := 33
  interfaces := #[]
  cf := some (fileOf pool0 8 #[] #[{ accessFlags := 1, nameIndex := 5, descriptorIndex := 6, attributes := #[] }] 33 0 #[] #[])
  fields := #[]
  methods := #[k0m0]
  instanceTypes := #[]
  staticTypes := #[]
  resolved := Array.replicate 124 none
  statics := none }

def pool1 : Array CpInfo := pool [(2, .class_ 4), (1, u "java/lang/Object"), (0, u "<init>"), (0, u "()V"), (0, .integer 2147483647), (0, .fieldref 9 10), (0, .class_ 11), (0, .nameAndType 12 13), (0, u "com/example/culljoin/culljoin/model/Affinity"), (0, u "INTEGER"), (0, u "Lcom/example/culljoin/culljoin/model/Affinity;"), (0, .fieldref 9 15), (0, .nameAndType 16 13), (0, u "TEXT"), (0, .fieldref 9 18), (0, .nameAndType 19 13), (0, u "BLOB"), (0, .fieldref 9 21), (0, .nameAndType 22 13), (0, u "REAL"), (0, .fieldref 9 24), (0, .nameAndType 25 13), (0, u "NUMERIC"), (0, .methodref 9 27), (0, .nameAndType 28 29), (0, u "numeric"), (0, u "()Z"), (0, .class_ 31), (0, u "com/example/culljoin/culljoin/model/AffinityNumericPinLaw"), (2, u "law"), (0, u "(I)Z")] 3

def k1m0 : Method := { name := "<init>", desc := "()V", sig := { parameters := [], returnType := none }, accessFlags := 2, code := none }
def k1c1 : Code := { maxStack := 2, maxLocals := 4, code := code, exceptionTable := #[], attributes := #[] }
def k1m1 : Method := { name := "law", desc := "(I)Z", sig := { parameters := [.int], returnType := some .boolean }, accessFlags := 9, code := some k1c1 }
/-- com/example/culljoin/culljoin/model/AffinityNumericPinLaw -/
def k1 : Class := { plain "com/example/culljoin/culljoin/model/AffinityNumericPinLaw" (some 0) with
  accessFlags := 49
  interfaces := #[]
  cf := some (fileOf pool1 30 #[] #[{ accessFlags := 2, nameIndex := 5, descriptorIndex := 6, attributes := #[] }, { accessFlags := 9, nameIndex := 34, descriptorIndex := 35, attributes := #[] }] 49 2 #[] #[])
  fields := #[]
  methods := #[k1m0, k1m1]
  instanceTypes := #[]
  staticTypes := #[]
  resolved := Array.replicate 39 none
  statics := none }

def pool2 : Array CpInfo := pool [(1, .class_ 2), (0, u "java/lang/constant/Constable"), (0, .class_ 4), (0, u "java/lang/Object")] 6

/-- java/lang/constant/Constable -/
def k2 : Class := { plain "java/lang/constant/Constable" (some 0) with
  accessFlags := 1537
  interfaces := #[]
  cf := some (fileOf pool2 1 #[] #[] 1537 3 #[] #[])
  fields := #[]
  methods := #[]
  instanceTypes := #[]
  staticTypes := #[]
  resolved := Array.replicate 11 none
  statics := none }

def pool3 : Array CpInfo := pool [(1, .class_ 2), (0, u "java/lang/Comparable"), (0, .class_ 4), (0, u "java/lang/Object")] 7

/-- java/lang/Comparable -/
def k3 : Class := { plain "java/lang/Comparable" (some 0) with
  accessFlags := 1537
  interfaces := #[]
  cf := some (fileOf pool3 1 #[] #[] 1537 3 #[] #[])
  fields := #[]
  methods := #[]
  instanceTypes := #[]
  staticTypes := #[]
  resolved := Array.replicate 12 none
  statics := none }

def pool4 : Array CpInfo := pool [(1, .class_ 2), (0, u "java/io/Serializable"), (0, .class_ 4), (0, u "java/lang/Object")] 2

/-- java/io/Serializable -/
def k4 : Class := { plain "java/io/Serializable" (some 0) with
  accessFlags := 1537
  interfaces := #[]
  cf := some (fileOf pool4 1 #[] #[] 1537 3 #[] #[])
  fields := #[]
  methods := #[]
  instanceTypes := #[]
  staticTypes := #[]
  resolved := Array.replicate 7 none
  statics := none }

def pool5 : Array CpInfo := pool [(2, .class_ 4), (1, u "java/lang/Enum"), (0, u "name"), (0, u "Ljava/lang/String;"), (2, u "ordinal"), (0, u "I"), (1, .class_ 14), (1, u "java/lang/Object"), (4, u "hash"), (86, .class_ 108), (1, u "java/lang/Enum$EnumDesc"), (2, .class_ 112), (0, u "java/lang/constant/Constable"), (0, .class_ 114), (0, u "java/lang/Comparable"), (0, .class_ 116), (0, u "java/io/Serializable")] 87

/-- java/lang/Enum -/
def k5 : Class := { plain "java/lang/Enum" (some 0) with
  accessFlags := 1057
  interfaces := #[2, 3, 4]
  cf := some (fileOf pool5 2 #[.nestMembers #[106]] #[] 1057 12 #[111, 113, 115] #[{ accessFlags := 18, nameIndex := 5, descriptorIndex := 6, attributes := #[] }, { accessFlags := 18, nameIndex := 9, descriptorIndex := 10, attributes := #[] }, { accessFlags := 2, nameIndex := 19, descriptorIndex := 10, attributes := #[] }])
  fields := #[{ name := "name", type := (.object "java/lang/String"), accessFlags := 18, slot := 0, constantValue := 0 }, { name := "ordinal", type := .int, accessFlags := 18, slot := 1, constantValue := 0 }, { name := "hash", type := .int, accessFlags := 2, slot := 2, constantValue := 0 }]
  methods := #[]
  instanceTypes := #[(.object "java/lang/String"), .int, .int]
  staticTypes := #[]
  resolved := Array.replicate 204 none
  statics := none }

def pool6 : Array CpInfo := pool [(1, .class_ 2), (0, u "com/example/culljoin/culljoin/model/Affinity"), (0, .fieldref 1 4), (0, .nameAndType 5 6), (0, u "INTEGER"), (0, u "Lcom/example/culljoin/culljoin/model/Affinity;"), (2, u "TEXT"), (2, u "BLOB"), (0, .fieldref 1 14), (0, .nameAndType 15 6), (0, u "REAL"), (0, .fieldref 1 17), (0, .nameAndType 18 6), (0, u "NUMERIC"), (2, u "$VALUES"), (0, u "[Lcom/example/culljoin/culljoin/model/Affinity;"), (6, .class_ 31), (1, u "java/lang/Enum"), (33, u "()Z"), (21, u "numeric")] 4

def k6c0 : Code := { maxStack := 2, maxLocals := 1, code := prog_3_method_5_code, exceptionTable := #[], attributes := #[] }
def k6m0 : Method := { name := "numeric", desc := "()Z", sig := { parameters := [], returnType := some .boolean }, accessFlags := 1, code := some k6c0 }
/-- com/example/culljoin/culljoin/model/Affinity -/
def k6 : Class := { plain "com/example/culljoin/culljoin/model/Affinity" (some 5) with
  accessFlags := 16433
  interfaces := #[]
  cf := some (fileOf pool6 1 #[] #[{ accessFlags := 1, nameIndex := 87, descriptorIndex := 65, attributes := #[] }] 16433 29 #[] #[{ accessFlags := 16409, nameIndex := 5, descriptorIndex := 6, attributes := #[] }, { accessFlags := 16409, nameIndex := 9, descriptorIndex := 6, attributes := #[] }, { accessFlags := 16409, nameIndex := 12, descriptorIndex := 6, attributes := #[] }, { accessFlags := 16409, nameIndex := 15, descriptorIndex := 6, attributes := #[] }, { accessFlags := 16409, nameIndex := 18, descriptorIndex := 6, attributes := #[] }, { accessFlags := 4122, nameIndex := 21, descriptorIndex := 22, attributes := #[] }])
  fields := #[{ name := "INTEGER", type := (.object "com/example/culljoin/culljoin/model/Affinity"), accessFlags := 16409, slot := 0, constantValue := 0 }, { name := "TEXT", type := (.object "com/example/culljoin/culljoin/model/Affinity"), accessFlags := 16409, slot := 1, constantValue := 0 }, { name := "BLOB", type := (.object "com/example/culljoin/culljoin/model/Affinity"), accessFlags := 16409, slot := 2, constantValue := 0 }, { name := "REAL", type := (.object "com/example/culljoin/culljoin/model/Affinity"), accessFlags := 16409, slot := 3, constantValue := 0 }, { name := "NUMERIC", type := (.object "com/example/culljoin/culljoin/model/Affinity"), accessFlags := 16409, slot := 4, constantValue := 0 }, { name := "$VALUES", type := (.array (.object "com/example/culljoin/culljoin/model/Affinity")), accessFlags := 4122, slot := 5, constantValue := 0 }]
  methods := #[k6m0]
  instanceTypes := #[(.object "java/lang/String"), .int, .int]
  staticTypes := #[(.object "com/example/culljoin/culljoin/model/Affinity"), (.object "com/example/culljoin/culljoin/model/Affinity"), (.object "com/example/culljoin/culljoin/model/Affinity"), (.object "com/example/culljoin/culljoin/model/Affinity"), (.object "com/example/culljoin/culljoin/model/Affinity"), (.array (.object "com/example/culljoin/culljoin/model/Affinity"))]
  resolved := Array.replicate 92 none
  statics := some 0 }

def pool7 : Array CpInfo := pool [(1, u "java/lang/Cloneable"), (0, .class_ 1), (0, u "java/lang/Object"), (0, .class_ 3)] 3

/-- java/lang/Cloneable -/
def k7 : Class := { plain "java/lang/Cloneable" (some 0) with
  accessFlags := 1537
  interfaces := #[]
  cf := some (fileOf pool7 2 #[] #[] 1537 4 #[] #[])
  fields := #[]
  methods := #[]
  instanceTypes := #[]
  staticTypes := #[]
  resolved := Array.replicate 8 none
  statics := none }

/-- the primitive byte -/
def k8 : Class := { plain "byte" none with kind := .primitive 'B', accessFlags := 0x411 }
/-- [B -/
def k9 : Class := { plain "[B" (some 0) with kind := .array 8 .byte, interfaces := #[7, 4], accessFlags := 1041 }

/-- the primitive int -/
def k10 : Class := { plain "int" none with kind := .primitive 'I', accessFlags := 0x411 }
/-- [I -/
def k11 : Class := { plain "[I" (some 0) with kind := .array 10 .int, interfaces := #[7, 4], accessFlags := 1041 }

def heap : Heap := #[{ cls := 6, slots := #[.ref 1, .ref 2, .ref 3, .ref 4, .ref 5, .null], vm := .statics 6 },
  { cls := 6, slots := #[.null, .int 0, .int 0], vm := .none },
  { cls := 6, slots := #[.null, .int 1, .int 0], vm := .none },
  { cls := 6, slots := #[.null, .int 2, .int 0], vm := .none },
  { cls := 6, slots := #[.null, .int 3, .int 0], vm := .none },
  { cls := 6, slots := #[.null, .int 4, .int 0], vm := .none }]
def classes : Array Class := #[k0, k1, k2, k3, k4, k5, k6, k7, k8, k9, k10, k11]
def interned : List (Array UInt16 × Addr) := []
def slotsUsed : Nat := 21
def theMethod : MethodId := ⟨1, 1⟩
def args0 : Array Value := #[.int 5]
def aboutOver (below : List Frame) : State where
  vm := { classes := classes, interned := interned.toArray }
  heap := heap
  slotsUsed := slotsUsed
  threads := #[{ frames := .invoking theMethod args0 :: below }]
def below0 : List Frame := [.native { method := ⟨0, 0⟩, args := #[] }]
def about1 : State := aboutOver below0
def p0 : Program := .bare "" "" ""
def e0 : Env := launch0.env 0 0 0
theorem w_frames : about1.frames = Frame.invoking theMethod args0 :: below0 := rfl
set_option maxRecDepth 65536 in
theorem w_args : argsFit about1.vm theMethod args0 = true := by decide +kernel
set_option maxRecDepth 65536 in
theorem w_heap : heapFits about1 = true := by decide +kernel
set_option maxRecDepth 65536 in
theorem w_runnable : about1.curStatus? = some .runnable := by decide +kernel
set_option maxRecDepth 65536 in
theorem w_alone : about1.alone = true := by decide +kernel
set_option maxRecDepth 65536 in
theorem w_named : about1.methodNamed? x = some theMethod := by decide +kernel
set_option maxRecDepth 65536 in
theorem w_hears : about1.hears theMethod below0 = true := by decide +kernel
set_option maxRecDepth 65536 in
theorem w_ripe : about1.ripe theMethod args0 below0 = true := by decide +kernel
theorem w_running : about1.status = .running := rfl
set_option maxRecDepth 65536 in
theorem w_room : about1.hasRoom e0.platform room_1 = true :=
  launch0.hasRoom_least _ room_1 (by decide +kernel) (by decide +kernel) (by decide +kernel) (by decide +kernel) (by decide +kernel) (by decide +kernel)
theorem allAtoms_all (ts : List Jvm.Cond) (a : Array Jvm.Value) (st : Jvm.State) : (allAtoms ts).before a st = ts.all (fun c => c.before a st) := by
  induction ts with
  | nil => rfl
  | cons c t ih =>
    show (Jvm.Cond.and c (allAtoms t)).before a st = _
    rw [Jvm.Cond.before_and, ih, List.all_cons]
def words1 : List Jvm.Cond := Jvm.Cond.code x code maxLocals ret :: tables_1
/-- a 'code' word, met by the world's own term for the bytes: nothing is compared byte by byte -/
theorem code_word {y : MethodName} {bytes : ByteArray} {mx : Nat} {rt : Option FieldType} {a : Array Value} {s : State} {m : MethodId} {meth : Method} {c : Code} (h1 : s.methodNamed? y = some m) (h2 : s.vm.method? m = some meth) (h3 : meth.code = some c) (h4 : c.code = bytes)
    (h5 : (c.maxLocals == mx && c.exceptionTable.isEmpty && decide (c.maxStack ≤ mostOperands) && decide (meth.sig.returnType = rt) && !meth.locks && decide (parseMethodDescriptor y.desc = some meth.sig)) = true) : (Jvm.Cond.code y bytes mx rt).before a s = true := by
  simp only [Bool.and_eq_true, beq_iff_eq, Bool.not_eq_true', decide_eq_true_eq] at h5
  obtain ⟨⟨⟨⟨⟨g1, g2⟩, g3⟩, g4⟩, g5⟩, g6⟩ := h5
  simp [Cond.before, Cond.holds, Cond.value, h1, h2, h3, h4, g1, g2, g3, g4, g5, g6]
def isCode : Jvm.Cond → Bool
  | .code _ _ _ _ => true
  | _ => false
theorem all_split {L : List Jvm.Cond} {P : Jvm.Cond → Bool} (h1 : L.all (fun c => isCode c || P c) = true) (h2 : ∀ c ∈ L.filter isCode, P c = true) : L.all P = true := by
  refine List.all_eq_true.mpr fun c hc => ?_
  have h := List.all_eq_true.mp h1 c hc
  rcases Bool.eq_false_or_eq_true (isCode c) with hi | hi
  · exact h2 c (List.mem_filter.mpr ⟨hc, hi⟩)
  · simpa [hi] using h
set_option maxRecDepth 65536 in
theorem w_c0 : (Jvm.Cond.code x code maxLocals ret).before args0 about1 = true := code_word (m := ⟨1, 1⟩) (meth := k1m1) (c := k1c1) (by decide +kernel) rfl rfl rfl (by decide +kernel)
set_option maxRecDepth 65536 in
theorem w_c1 : (Jvm.Cond.code ({ cls := "com/example/culljoin/culljoin/model/Affinity", name := "numeric", desc := "()Z" } : Jvm.MethodName) prog_3_method_5_code (1 : Nat) (Option.some Jvm.ClassFile.FieldType.boolean)).before args0 about1 = true := code_word (m := ⟨6, 0⟩) (meth := k6m0) (c := k6c0) (by decide +kernel) rfl rfl rfl (by decide +kernel)
def codes1 : List Jvm.Cond := [Jvm.Cond.code x code maxLocals ret, Jvm.Cond.code ({ cls := "com/example/culljoin/culljoin/model/Affinity", name := "numeric", desc := "()Z" } : Jvm.MethodName) prog_3_method_5_code (1 : Nat) (Option.some Jvm.ClassFile.FieldType.boolean)]
set_option maxRecDepth 65536 in
theorem codes_eq : words1.filter isCode = codes1 := rfl
theorem w_codes : ∀ c ∈ words1.filter isCode, c.before args0 about1 = true := by
  rw [codes_eq]
  intro c hc
  simp only [codes1, List.mem_cons, List.not_mem_nil, or_false] at hc
  rcases hc with rfl | rfl
  · exact w_c0
  · exact w_c1
set_option maxRecDepth 65536 in
theorem w_t1 : words1.all (fun c => isCode c || c.before args0 about1) = true := by decide +kernel
theorem w_tables : (allAtoms (Jvm.Cond.code x code maxLocals ret :: tables_1)).before args0 about1 = true := by
  rw [allAtoms_all]
  show words1.all (fun c => c.before args0 about1) = true
  refine all_split ?_ w_codes
  rw [w_t1]
set_option maxRecDepth 65536 in
theorem w_case : (Jvm.Cond.and given_1 narrow_1).before args0 about1 = true := by decide +kernel
theorem w_applies : (headSpec (Jvm.Cond.code x code maxLocals ret :: tables_1) room_1).applies x e0.platform about1 = true :=
  (Spec.applies_iff w_frames).mpr ⟨w_running, w_runnable, w_alone, w_named, w_hears, w_ripe, w_room, w_tables⟩
theorem atStart : AtStart classFile x code maxLocals ret World_1 tables_1 room_1 Calls_1 rest_1 Pre_1 launch0 p0 e0 about1 theMethod args0 below0 :=
  ⟨lists_1, trivial, launch0.admits_env _ _ _, launch0.least_env, fairChoices_fair.cas, fairChoices_fair.clock, w_frames, w_args, w_heap, w_applies, trivial, trivial, w_case⟩
end start1
theorem witness_1 : WitnessClaimed_1 := ⟨start1.p0, start1.e0, start1.about1, start1.theMethod, start1.args0, start1.below0, start1.atStart⟩
end Jvm.Pilot.@@N@@
