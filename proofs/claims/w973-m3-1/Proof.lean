import JvmDerived
import JvmDerived.Pilot.@@N@@Statement
import JvmDerived.Pilot.@@N@@Code
set_option linter.unusedVariables false
set_option linter.unusedSimpArgs false
namespace Jvm.Pilot.@@N@@
open Jvm Jvm.ClassFile Sem Op Lib Jvm.Free Jvm.Stand Jvm.LawKit Jvm.RoadKit Bundle Jvm.Pilot.@@N@@.Jvm.D
/-- the run from A comes to a return that Q speaks of -/
def own_Fin (p : Program) (e : Env) (below : List Frame) (s : State) (kc ks : Nat) (Q : Option Value → Heap → List Loc → Prop) (A : State) : Prop :=
  ∃ s₂ o, Steps p.tables e below A s₂ ∧ s₂.status = .running ∧ Ended s₂ below o ∧ ∃ v L, o = .returned v ∧ Q v s₂.heap L ∧ FrameEnd s o s₂ L kc ks
section Own
variable {p : Program} {l : Launch} {e : Env} {R : Room} {s : State} {m : MethodId} {args : Array Value} {below : List Frame} {meth : Method} {c : Code} {T : State} {locs : List Loc} {cells slots kc ks : Nat} {Q : Option Value → Heap → List Loc → Prop}
theorem own_back {A B : State} (h : ∀ t, Steps p.tables e below B t → Steps p.tables e below A t) (k : own_Fin p e below s kc ks Q B) : own_Fin p e below s kc ks Q A := by
  obtain ⟨s2, o, h1, r⟩ := k
  exact ⟨s2, o, h _ h1, r⟩
theorem own_retN (X : Stand p l e R s m args below meth c T locs cells slots) (hx : p.tables.exec = Jvm.exec) (hlk : meth.locks = false) {t : FieldType} (ht : t = .boolean ∨ t = .byte ∨ t = .char ∨ t = .short) {pc : Nat} {Ls : Array Slot} {z : Int32} {rest : List Value} (hret : meth.sig.returnType = some t) (hd : decode c.code pc = .ok (.ireturn, 1)) (hc : cells ≤ kc) (hs : slots ≤ ks)
    (hQ : Q (some (.int (nar t z))) T.heap locs) : own_Fin p e below s kc ks Q (T.setTop (mkF m pc Ls (.int z :: rest))) := by
  obtain ⟨fs, hr, hrun, hended, hW, hsame⟩ := X.leave (v := some (.int (nar t z))) (fun h => by rw [hret] at h; cases h) hlk
  exact ⟨_, _, retN X hx hret ht hd hr, hrun, hended, _, _, rfl, hQ, ⟨_, rfl⟩, hW, hsame.mono hc hs⟩
theorem own_retZ (X : Stand p l e R s m args below meth c T locs cells slots) (hx : p.tables.exec = Jvm.exec) (hlk : meth.locks = false) {pc : Nat} {Ls : Array Slot} {z : Int32} {rest : List Value} (hret : meth.sig.returnType = some .boolean) (hd : decode c.code pc = .ok (.ireturn, 1)) (hc : cells ≤ kc) (hs : slots ≤ ks)
    (hQ : Q (some (.int (z &&& 1))) T.heap locs) : own_Fin p e below s kc ks Q (T.setTop (mkF m pc Ls (.int z :: rest))) := own_retN X hx hlk (Or.inl rfl) hret hd hc hs hQ
theorem own_retB (X : Stand p l e R s m args below meth c T locs cells slots) (hx : p.tables.exec = Jvm.exec) (hlk : meth.locks = false) {pc : Nat} {Ls : Array Slot} {z : Int32} {rest : List Value} (hret : meth.sig.returnType = some .byte) (hd : decode c.code pc = .ok (.ireturn, 1)) (hc : cells ≤ kc) (hs : slots ≤ ks)
    (hQ : Q (some (.int (nar .byte z))) T.heap locs) : own_Fin p e below s kc ks Q (T.setTop (mkF m pc Ls (.int z :: rest))) := own_retN X hx hlk (Or.inr (Or.inl rfl)) hret hd hc hs hQ
theorem own_retI (X : Stand p l e R s m args below meth c T locs cells slots) (hx : p.tables.exec = Jvm.exec) (hlk : meth.locks = false) {pc : Nat} {Ls : Array Slot} {z : Int32} {rest : List Value} (hret : meth.sig.returnType = some .int) (hd : decode c.code pc = .ok (.ireturn, 1)) (hc : cells ≤ kc) (hs : slots ≤ ks)
    (hQ : Q (some (.int z)) T.heap locs) : own_Fin p e below s kc ks Q (T.setTop (mkF m pc Ls (.int z :: rest))) := by
  obtain ⟨fs, hr, hrun, hended, hW, hsame⟩ := X.leave (v := some (.int z)) (fun h => by rw [hret] at h; cases h) hlk
  exact ⟨_, _, retOut X hx hret rfl (Or.inl ⟨rfl, Or.inl rfl, z, rfl⟩) hd hr, hrun, hended, _, _, rfl, hQ, ⟨_, rfl⟩, hW, hsame.mono hc hs⟩
theorem own_retJ (X : Stand p l e R s m args below meth c T locs cells slots) (hx : p.tables.exec = Jvm.exec) (hlk : meth.locks = false) {pc : Nat} {Ls : Array Slot} {z : Int64} {rest : List Value} (hret : meth.sig.returnType = some .long) (hd : decode c.code pc = .ok (.lreturn, 1)) (hc : cells ≤ kc) (hs : slots ≤ ks)
    (hQ : Q (some (.long z)) T.heap locs) : own_Fin p e below s kc ks Q (T.setTop (mkF m pc Ls (.long z :: rest))) := by
  obtain ⟨fs, hr, hrun, hended, hW, hsame⟩ := X.leave (v := some (.long z)) (fun h => by rw [hret] at h; cases h) hlk
  exact ⟨_, _, retOut X hx hret rfl (Or.inr (Or.inl ⟨rfl, rfl, z, rfl⟩)) hd hr, hrun, hended, _, _, rfl, hQ, ⟨_, rfl⟩, hW, hsame.mono hc hs⟩
theorem own_retA (X : Stand p l e R s m args below meth c T locs cells slots) (hx : p.tables.exec = Jvm.exec) (hlk : meth.locks = false) {pc : Nat} {Ls : Array Slot} {w : Value} {rest : List Value} {t : FieldType} (hret : meth.sig.returnType = some t) (ht : t.isReference = true) (hw : w.isRef = true) (hd : decode c.code pc = .ok (.areturn, 1)) (hc : cells ≤ kc) (hs : slots ≤ ks)
    (hQ : Q (some w) T.heap locs) : own_Fin p e below s kc ks Q (T.setTop (mkF m pc Ls (w :: rest))) := by
  obtain ⟨fs, hr, hrun, hended, hW, hsame⟩ := X.leave (v := some w) (fun h => by rw [hret] at h; cases h) hlk
  have hn : narrow t w = w := by cases t <;> first | rfl | cases ht
  exact ⟨_, _, retOut X hx hret hn (Or.inr (Or.inr (Or.inr (Or.inr ⟨rfl, ht, hw⟩)))) hd hr, hrun, hended, _, _, rfl, hQ, ⟨_, rfl⟩, hW, hsame.mono hc hs⟩
theorem own_ret0 (X : Stand p l e R s m args below meth c T locs cells slots) (hx : p.tables.exec = Jvm.exec) (hlk : meth.locks = false) {pc : Nat} {Ls : Array Slot} (hret : meth.sig.returnType = none) (hd : decode c.code pc = .ok (.return_, 1)) (hc : cells ≤ kc) (hs : slots ≤ ks)
    (hQ : Q none T.heap locs) : own_Fin p e below s kc ks Q (T.setTop (mkF m pc Ls [])) := by
  obtain ⟨fs, hr, hrun, hended, hW, hsame⟩ := X.leave (v := none) (fun _ => rfl) hlk
  exact ⟨_, _, X.returnOut hx hret hd hr, hrun, hended, _, _, rfl, hQ, ⟨_, rfl⟩, hW, hsame.mono hc hs⟩
end Own
def own_P (Z : State) (h : Heap) (p rt op : Addr) (kk : ClassId) (sn en bf rf dp v0 v1 : Int32) : Prop :=
  Exa Z h p "com/example/quire/quire/readers/Positions" ∧ Fld Z h p "com/example/quire/quire/readers/Positions" "root" "Lcom/example/quire/quire/readers/RootLine;" (.ref rt) ∧ Fld Z h p "com/example/quire/quire/readers/Positions" "open" "[I" (.ref op) ∧ Fld Z h p "com/example/quire/quire/readers/Positions" "rootSeen" "Z" (.int sn) ∧ Fld Z h p "com/example/quire/quire/readers/Positions" "entities" "I" (.int en) ∧ Fld Z h p "com/example/quire/quire/readers/Positions" "before" "I" (.int bf) ∧
  Fld Z h p "com/example/quire/quire/readers/Positions" "referenceLine" "I" (.int rf) ∧ Fld Z h p "com/example/quire/quire/readers/Positions" "depth" "I" (.int dp) ∧ Exa Z h rt "com/example/quire/quire/readers/RootLine" ∧ Fld Z h rt "com/example/quire/quire/readers/RootLine" "found" "I" (.int (0 : Int32)) ∧ Arv Z h op kk .int (64 : Int32) [.int v0, .int v1] (.int (0 : Int32))
theorem d5_0 : decode prog_54_method_2_code 0 = .ok (.aload_n 0, 1) := by decide +kernel
theorem d5_1 : decode prog_54_method_2_code 1 = .ok (.getfield 32, 3) := by decide +kernel
theorem d5_4 : decode prog_54_method_2_code 4 = .ok (.ireturn, 1) := by decide +kernel
theorem pn_5 : plainName "com/example/quire/quire/readers/RootLine" = true := by first | (simp [plainName, overriddenIn]; done) | decide +kernel
theorem ef_5 (m : MethodId) (x0 : Addr) : entryFrame m #[(.ref x0)] 1 = mkF m 0 #[.val (.ref x0)] [] := by first | (simp [entryFrame, mkF, argsToLocals, Value.category]; done) | rfl
def Q5 (Z : State) (o0 : Addr) (kf : Int32) (h0 : Heap) (n0 : Nat) (v : Option Value) (h : Heap) (L : List Loc) : Prop := v = some (.int kf) ∧ Fr n0 L ∧ h = h0
set_option maxRecDepth 65536 in
set_option maxHeartbeats 40000000 in
theorem rm5 (l : Launch) (Z : State) (a0 : Array Value) (hw : ∀ d ∈ tables_1, d.before a0 Z = true) (ws : List Jvm.Cond) (o0 : Addr) (kf : Int32) (h0 : Heap) (n0 : Nat) (Z0 : n0 ≤ h0.size) (F_f : Fld Z h0 o0 "com/example/quire/quire/readers/RootLine" "found" "I" (.int kf)) :
    MetFree l (⟨"com/example/quire/quire/readers/RootLine", "line", "()I"⟩ : MethodName) (head1 (Jvm.Cond.code (⟨"com/example/quire/quire/readers/RootLine", "line", "()I"⟩ : MethodName) prog_54_method_2_code 1 (some .int) :: ws) ({ frames := 0, cells := 0, slots := 0, locals := 0 } : Room)) (fun a U => a = #[(.ref o0)] ∧ Z.Warmed39 U.vm ∧ U.heap = h0) (fun _ _ _ _ _ => True) (fun _ U o U' => ∃ v L, o = .returned v ∧ Q5 Z o0 kf h0 n0 v U'.heap L ∧ FrameEnd U o U' L ({ frames := 0, cells := 0, slots := 0, locals := 0 } : Room).cells ({ frames := 0, cells := 0, slots := 0, locals := 0 } : Room).slots) := by
  refine MetFree.of_bodySF (plainFor_of_name pn_5) hisR ?_
  intro p e s m args below meth c s₁ Bd hml0 hP hK
  obtain ⟨rfl, hZ, hh⟩ := hP
  have hx := Bd.exec
  have hby := Bd.bytes
  have hml : c.maxLocals = 1 := hml0
  have hown : s.vm.findClass "com/example/quire/quire/readers/RootLine" = some m.cls := findClass_of_methodNamed Bd.named
  have hnm := (name_of_methodNamed Bd.named Bd.method).1
  have X0 : Stand p l e ({ frames := 0, cells := 0, slots := 0, locals := 0 } : Room) s m #[(.ref o0)] below meth c s₁ [] 0 0 := Stand.of_body Bd
  have e0 : s₁.heap = h0 := by rw [← hh, Bd.state]; rfl
  have N0 := Fr.nil n0
  obtain ⟨F, hF⟩ : ∃ F : State → Prop, F = own_Fin p e below s ({ frames := 0, cells := 0, slots := 0, locals := 0 } : Room).cells ({ frames := 0, cells := 0, slots := 0, locals := 0 } : Room).slots (fun v h L => Q5 Z o0 kf h0 n0 v h L) := ⟨_, rfl⟩
  have bk : ∀ {A B : State}, (∀ t, Steps p.tables e below B t → Steps p.tables e below A t) → F B → F A := by
    intro A B h k
    rw [hF] at k ⊢
    exact own_back h k
  suffices hgo : F (s₁.setTop (mkF m 0 #[.val (.ref o0)] [])) by
    have hgo' := bk (fun t k => castTop (T := s₁) (ef_5 m o0) k) hgo
    rw [hF] at hgo'
    exact hgo'
  show F (s₁.setTop (mkF m 0 #[.val (.ref o0)] []))
  refine bk (fun t k => XS.aloadN X0.here hx rfl (hb hby d5_0) rfl rfl k) ?_
  show F (s₁.setTop (mkF m 1 #[.val (.ref o0)] [(.ref o0)]))
  obtain ⟨T1, X1, e1, st1⟩ := getF X0 hx hZ hown (host := "") (Or.inl (hw _ (List.mem_of_getElem? (i := 49) rfl))) Via.refl e0 F_f (g := (mkF m 1 #[.val (.ref o0)] [(.ref o0)])) rfl rfl (hb hby d5_1)
  refine bk (fun t k => st1 t k) ?_
  show F (T1.setTop (mkF m 4 #[.val (.ref o0)] [(.int kf)]))
  rw [hF]
  refine own_retI X1 hx Bd.notSynchronized Bd.returns (hb hby d5_4) (by decide) (by decide) ?_
  rw [e1]
  exact ⟨rfl, N0, rfl⟩
theorem d6_0 : decode prog_46_method_4_code 0 = .ok (.aload_n 0, 1) := by decide +kernel
theorem d6_1 : decode prog_46_method_4_code 1 = .ok (.iload_n 1, 1) := by decide +kernel
theorem d6_2 : decode prog_46_method_4_code 2 = .ok (.putfield 20, 3) := by decide +kernel
theorem d6_5 : decode prog_46_method_4_code 5 = .ok (.return_, 1) := by decide +kernel
theorem pn_6 : plainName "com/example/quire/quire/readers/Positions" = true := by first | (simp [plainName, overriddenIn]; done) | decide +kernel
theorem ef_6 (m : MethodId) (x0 : Addr) (x1 : Int32) : entryFrame m #[(.ref x0), (.int x1)] 2 = mkF m 0 #[.val (.ref x0), .val (.int x1)] [] := by first | (simp [entryFrame, mkF, argsToLocals, Value.category]; done) | rfl
def Q6 (Z : State) (o0 : Addr) (p1 : Int32) (rt : Addr) (op : Addr) (kk : ClassId) (sn : Int32) (en : Int32) (bf : Int32) (rf : Int32) (dp : Int32) (v0 : Int32) (v1 : Int32) (h0 : Heap) (n0 : Nat) (v : Option Value) (h : Heap) (L : List Loc) : Prop := v = none ∧ Fr n0 L ∧ n0 ≤ h.size ∧ own_P Z h o0 rt op kk sn en p1 rf dp v0 v1
set_option maxRecDepth 65536 in
set_option maxHeartbeats 40000000 in
theorem rm6 (l : Launch) (Z : State) (a0 : Array Value) (hw : ∀ d ∈ tables_1, d.before a0 Z = true) (ws : List Jvm.Cond) (o0 : Addr) (p1 : Int32) (rt : Addr) (op : Addr) (kk : ClassId) (sn : Int32) (en : Int32) (bf : Int32) (rf : Int32) (dp : Int32) (v0 : Int32) (v1 : Int32) (h0 : Heap) (n0 : Nat) (Z0 : n0 ≤ h0.size) (P0 : own_P Z h0 o0 rt op kk sn en bf rf dp v0 v1) (g_p : n0 ≤ o0) (g_op : n0 ≤ op) (ne_p_rt : o0 ≠ rt) (ne_p_op : o0 ≠ op) (ne_rt_op : rt ≠ op) :
    MetFree l (⟨"com/example/quire/quire/readers/Positions", "passed", "(I)V"⟩ : MethodName) (head1 (Jvm.Cond.code (⟨"com/example/quire/quire/readers/Positions", "passed", "(I)V"⟩ : MethodName) prog_46_method_4_code 2 none :: ws) ({ frames := 0, cells := 0, slots := 0, locals := 0 } : Room)) (fun a U => a = #[(.ref o0), (.int p1)] ∧ Z.Warmed39 U.vm ∧ U.heap = h0) (fun _ _ _ _ _ => True) (fun _ U o U' => ∃ v L, o = .returned v ∧ Q6 Z o0 p1 rt op kk sn en bf rf dp v0 v1 h0 n0 v U'.heap L ∧ FrameEnd U o U' L ({ frames := 0, cells := 0, slots := 0, locals := 0 } : Room).cells ({ frames := 0, cells := 0, slots := 0, locals := 0 } : Room).slots) := by
  refine MetFree.of_bodySF (plainFor_of_name pn_6) hisR ?_
  intro p e s m args below meth c s₁ Bd hml0 hP hK
  obtain ⟨rfl, hZ, hh⟩ := hP
  have hx := Bd.exec
  have hby := Bd.bytes
  have hml : c.maxLocals = 2 := hml0
  have hown : s.vm.findClass "com/example/quire/quire/readers/Positions" = some m.cls := findClass_of_methodNamed Bd.named
  have hnm := (name_of_methodNamed Bd.named Bd.method).1
  have X0 : Stand p l e ({ frames := 0, cells := 0, slots := 0, locals := 0 } : Room) s m #[(.ref o0), (.int p1)] below meth c s₁ [] 0 0 := Stand.of_body Bd
  have e0 : s₁.heap = h0 := by rw [← hh, Bd.state]; rfl
  have N0 := Fr.nil n0
  obtain ⟨F, hF⟩ : ∃ F : State → Prop, F = own_Fin p e below s ({ frames := 0, cells := 0, slots := 0, locals := 0 } : Room).cells ({ frames := 0, cells := 0, slots := 0, locals := 0 } : Room).slots (fun v h L => Q6 Z o0 p1 rt op kk sn en bf rf dp v0 v1 h0 n0 v h L) := ⟨_, rfl⟩
  have bk : ∀ {A B : State}, (∀ t, Steps p.tables e below B t → Steps p.tables e below A t) → F B → F A := by
    intro A B h k
    rw [hF] at k ⊢
    exact own_back h k
  suffices hgo : F (s₁.setTop (mkF m 0 #[.val (.ref o0), .val (.int p1)] [])) by
    have hgo' := bk (fun t k => castTop (T := s₁) (ef_6 m o0 p1) k) hgo
    rw [hF] at hgo'
    exact hgo'
  obtain ⟨E_p, F_root, F_open, F_rootSeen, F_entities, F_before, F_referenceLine, F_depth, E_rt, F_found, V_op⟩ := P0
  show F (s₁.setTop (mkF m 0 #[.val (.ref o0), .val (.int p1)] []))
  refine bk (fun t k => XS.aloadN X0.here hx rfl (hb hby d6_0) rfl rfl k) ?_
  show F (s₁.setTop (mkF m 1 #[.val (.ref o0), .val (.int p1)] [(.ref o0)]))
  refine bk (fun t k => XS.iloadN X0.here hx rfl (hb hby d6_1) rfl k) ?_
  show F (s₁.setTop (mkF m 2 #[.val (.ref o0), .val (.int p1)] [(.int p1), (.ref o0)]))
  obtain ⟨T1, h1, X1, e1, W1, st1⟩ := putF X0 hx hZ hown (host := "") (Or.inl (hw _ (List.mem_of_getElem? (i := 35) rfl))) Via.refl e0 F_before E_p (Or.inl (hw _ (List.mem_of_getElem? (i := 36) rfl))) (hw _ (List.mem_of_getElem? (i := 1) rfl)) (ty := .int) (by decide) rfl rfl (g := (mkF m 2 #[.val (.ref o0), .val (.int p1)] [(.int p1), (.ref o0)])) rfl rfl (hb hby d6_2)
  have f2 := E_p.wr W1
  have f3 := E_rt.wr W1
  have f4 := F_found.other W1 (Or.inl (Ne.symm ne_p_rt))
  have f5 := V_op.other W1 (Ne.symm ne_p_op)
  have f6 := F_root.other W1 (Or.inr (slot_ne (Or.inr (hw _ (List.mem_of_getElem? (i := 31) rfl))) (Or.inl (hw _ (List.mem_of_getElem? (i := 36) rfl))) (by decide) (t := (.object "com/example/quire/quire/readers/RootLine")) (t' := .int) (by decide) (by decide)))
  have f7 := F_open.other W1 (Or.inr (slot_ne (Or.inl (hw _ (List.mem_of_getElem? (i := 34) rfl))) (Or.inl (hw _ (List.mem_of_getElem? (i := 36) rfl))) (by decide) (t := (.array .int)) (t' := .int) (by decide) (by decide)))
  have f8 := F_rootSeen.other W1 (Or.inr (slot_ne (Or.inl (hw _ (List.mem_of_getElem? (i := 43) rfl))) (Or.inl (hw _ (List.mem_of_getElem? (i := 36) rfl))) (by decide) (t := .boolean) (t' := .int) (by decide) (by decide)))
  have f9 := F_entities.other W1 (Or.inr (slot_ne (Or.inl (hw _ (List.mem_of_getElem? (i := 64) rfl))) (Or.inl (hw _ (List.mem_of_getElem? (i := 36) rfl))) (by decide) (t := .int) (t' := .int) (by decide) (by decide)))
  have f10 := F_before.same W1
  have f11 := F_referenceLine.other W1 (Or.inr (slot_ne (Or.inl (hw _ (List.mem_of_getElem? (i := 66) rfl))) (Or.inl (hw _ (List.mem_of_getElem? (i := 36) rfl))) (by decide) (t := .int) (t' := .int) (by decide) (by decide)))
  have f12 := F_depth.other W1 (Or.inr (slot_ne (Or.inl (hw _ (List.mem_of_getElem? (i := 52) rfl))) (Or.inl (hw _ (List.mem_of_getElem? (i := 36) rfl))) (by decide) (t := .int) (t' := .int) (by decide) (by decide)))
  have f13 := Nat.le_trans Z0 (Keep.of_wr W1).1
  have N1 := Fr.snoc X1 N0 g_p
  refine bk (fun t k => st1 t k) ?_
  show F (T1.setTop (mkF m 5 #[.val (.ref o0), .val (.int p1)] []))
  rw [hF]
  refine own_ret0 X1 hx Bd.notSynchronized Bd.returns (hb hby d6_5) (by decide) (by decide) ?_
  rw [e1]
  exact ⟨rfl, N1, f13, ⟨f2, f6, f7, f8, f9, f10, f11, f12, f3, f4, f5⟩⟩
theorem d7_0 : decode prog_46_method_7_code 0 = .ok (.aload_n 0, 1) := by decide +kernel
theorem d7_1 : decode prog_46_method_7_code 1 = .ok (.dup, 1) := by decide +kernel
theorem d7_2 : decode prog_46_method_7_code 2 = .ok (.getfield 40, 3) := by decide +kernel
theorem d7_5 : decode prog_46_method_7_code 5 = .ok (.dup_x1, 1) := by decide +kernel
theorem d7_6 : decode prog_46_method_7_code 6 = .ok (.iconst 1, 1) := by decide +kernel
theorem d7_7 : decode prog_46_method_7_code 7 = .ok (.iadd, 1) := by decide +kernel
theorem d7_8 : decode prog_46_method_7_code 8 = .ok (.putfield 40, 3) := by decide +kernel
theorem d7_11 : decode prog_46_method_7_code 11 = .ok (.ifCond .ne 11, 3) := by decide +kernel
theorem d7_14 : decode prog_46_method_7_code 14 = .ok (.aload_n 0, 1) := by decide +kernel
theorem d7_15 : decode prog_46_method_7_code 15 = .ok (.aload_n 0, 1) := by decide +kernel
theorem d7_16 : decode prog_46_method_7_code 16 = .ok (.getfield 20, 3) := by decide +kernel
theorem d7_19 : decode prog_46_method_7_code 19 = .ok (.putfield 52, 3) := by decide +kernel
theorem d7_22 : decode prog_46_method_7_code 22 = .ok (.return_, 1) := by decide +kernel
theorem pn_7 : plainName "com/example/quire/quire/readers/Positions" = true := by first | (simp [plainName, overriddenIn]; done) | decide +kernel
theorem ef_7 (m : MethodId) (x0 : Addr) : entryFrame m #[(.ref x0)] 1 = mkF m 0 #[.val (.ref x0)] [] := by first | (simp [entryFrame, mkF, argsToLocals, Value.category]; done) | rfl
def Q7a (Z : State) (o0 : Addr) (rt : Addr) (op : Addr) (kk : ClassId) (sn : Int32) (bf : Int32) (rf : Int32) (dp : Int32) (v0 : Int32) (v1 : Int32) (h0 : Heap) (n0 : Nat) (v : Option Value) (h : Heap) (L : List Loc) : Prop := v = none ∧ Fr n0 L ∧ n0 ≤ h.size ∧ own_P Z h o0 rt op kk sn (1 : Int32) bf bf dp v0 v1
set_option maxRecDepth 65536 in
set_option maxHeartbeats 40000000 in
theorem rm7a (l : Launch) (Z : State) (a0 : Array Value) (hw : ∀ d ∈ tables_1, d.before a0 Z = true) (ws : List Jvm.Cond) (o0 : Addr) (rt : Addr) (op : Addr) (kk : ClassId) (sn : Int32) (bf : Int32) (rf : Int32) (dp : Int32) (v0 : Int32) (v1 : Int32) (h0 : Heap) (n0 : Nat) (Z0 : n0 ≤ h0.size) (P0 : own_P Z h0 o0 rt op kk sn (0 : Int32) bf rf dp v0 v1) (g_p : n0 ≤ o0) (g_op : n0 ≤ op) (ne_p_rt : o0 ≠ rt) (ne_p_op : o0 ≠ op) (ne_rt_op : rt ≠ op) :
    MetFree l (⟨"com/example/quire/quire/readers/Positions", "startEntity", "()V"⟩ : MethodName) (head1 (Jvm.Cond.code (⟨"com/example/quire/quire/readers/Positions", "startEntity", "()V"⟩ : MethodName) prog_46_method_7_code 1 none :: ws) ({ frames := 0, cells := 0, slots := 0, locals := 0 } : Room)) (fun a U => a = #[(.ref o0)] ∧ Z.Warmed39 U.vm ∧ U.heap = h0) (fun _ _ _ _ _ => True) (fun _ U o U' => ∃ v L, o = .returned v ∧ Q7a Z o0 rt op kk sn bf rf dp v0 v1 h0 n0 v U'.heap L ∧ FrameEnd U o U' L ({ frames := 0, cells := 0, slots := 0, locals := 0 } : Room).cells ({ frames := 0, cells := 0, slots := 0, locals := 0 } : Room).slots) := by
  refine MetFree.of_bodySF (plainFor_of_name pn_7) hisR ?_
  intro p e s m args below meth c s₁ Bd hml0 hP hK
  obtain ⟨rfl, hZ, hh⟩ := hP
  have hx := Bd.exec
  have hby := Bd.bytes
  have hml : c.maxLocals = 1 := hml0
  have hown : s.vm.findClass "com/example/quire/quire/readers/Positions" = some m.cls := findClass_of_methodNamed Bd.named
  have hnm := (name_of_methodNamed Bd.named Bd.method).1
  have X0 : Stand p l e ({ frames := 0, cells := 0, slots := 0, locals := 0 } : Room) s m #[(.ref o0)] below meth c s₁ [] 0 0 := Stand.of_body Bd
  have e0 : s₁.heap = h0 := by rw [← hh, Bd.state]; rfl
  have N0 := Fr.nil n0
  obtain ⟨F, hF⟩ : ∃ F : State → Prop, F = own_Fin p e below s ({ frames := 0, cells := 0, slots := 0, locals := 0 } : Room).cells ({ frames := 0, cells := 0, slots := 0, locals := 0 } : Room).slots (fun v h L => Q7a Z o0 rt op kk sn bf rf dp v0 v1 h0 n0 v h L) := ⟨_, rfl⟩
  have bk : ∀ {A B : State}, (∀ t, Steps p.tables e below B t → Steps p.tables e below A t) → F B → F A := by
    intro A B h k
    rw [hF] at k ⊢
    exact own_back h k
  suffices hgo : F (s₁.setTop (mkF m 0 #[.val (.ref o0)] [])) by
    have hgo' := bk (fun t k => castTop (T := s₁) (ef_7 m o0) k) hgo
    rw [hF] at hgo'
    exact hgo'
  obtain ⟨E_p, F_root, F_open, F_rootSeen, F_entities, F_before, F_referenceLine, F_depth, E_rt, F_found, V_op⟩ := P0
  show F (s₁.setTop (mkF m 0 #[.val (.ref o0)] []))
  refine bk (fun t k => XS.aloadN X0.here hx rfl (hb hby d7_0) rfl rfl k) ?_
  show F (s₁.setTop (mkF m 1 #[.val (.ref o0)] [(.ref o0)]))
  refine bk (fun t k => XS.dup X0.here hx rfl (hb hby d7_1) rfl rfl k) ?_
  show F (s₁.setTop (mkF m 2 #[.val (.ref o0)] [(.ref o0), (.ref o0)]))
  obtain ⟨T1, X1, e1, st1⟩ := getF X0 hx hZ hown (host := "") (Or.inl (hw _ (List.mem_of_getElem? (i := 63) rfl))) Via.refl e0 F_entities (g := (mkF m 2 #[.val (.ref o0)] [(.ref o0), (.ref o0)])) rfl rfl (hb hby d7_2)
  refine bk (fun t k => st1 t k) ?_
  show F (T1.setTop (mkF m 5 #[.val (.ref o0)] [(.int (0 : Int32)), (.ref o0)]))
  refine bk (fun t k => XS.dupX1 X1.here hx rfl (hb hby d7_5) rfl rfl rfl k) ?_
  show F (T1.setTop (mkF m 6 #[.val (.ref o0)] [(.int (0 : Int32)), (.ref o0), (.int (0 : Int32))]))
  refine bk (fun t k => XS.iconst X1.here hx rfl (hb hby d7_6) k) ?_
  show F (T1.setTop (mkF m 7 #[.val (.ref o0)] [(.int (1 : Int32)), (.int (0 : Int32)), (.ref o0), (.int (0 : Int32))]))
  refine bk (fun t k => XS.iadd X1.here hx rfl (hb hby d7_7) rfl k) ?_
  show F (T1.setTop (mkF m 8 #[.val (.ref o0)] [(.int (1 : Int32)), (.ref o0), (.int (0 : Int32))]))
  obtain ⟨T2, h2, X2, e2, W2, st2⟩ := putF X1 hx hZ hown (host := "") (Or.inl (hw _ (List.mem_of_getElem? (i := 63) rfl))) Via.refl e1 F_entities E_p (Or.inl (hw _ (List.mem_of_getElem? (i := 64) rfl))) (hw _ (List.mem_of_getElem? (i := 1) rfl)) (ty := .int) (by decide) rfl rfl (g := (mkF m 8 #[.val (.ref o0)] [(.int (1 : Int32)), (.ref o0), (.int (0 : Int32))])) rfl rfl (hb hby d7_8)
  have f3 := E_p.wr W2
  have f4 := E_rt.wr W2
  have f5 := F_found.other W2 (Or.inl (Ne.symm ne_p_rt))
  have f6 := V_op.other W2 (Ne.symm ne_p_op)
  have f7 := F_root.other W2 (Or.inr (slot_ne (Or.inr (hw _ (List.mem_of_getElem? (i := 31) rfl))) (Or.inl (hw _ (List.mem_of_getElem? (i := 64) rfl))) (by decide) (t := (.object "com/example/quire/quire/readers/RootLine")) (t' := .int) (by decide) (by decide)))
  have f8 := F_open.other W2 (Or.inr (slot_ne (Or.inl (hw _ (List.mem_of_getElem? (i := 34) rfl))) (Or.inl (hw _ (List.mem_of_getElem? (i := 64) rfl))) (by decide) (t := (.array .int)) (t' := .int) (by decide) (by decide)))
  have f9 := F_rootSeen.other W2 (Or.inr (slot_ne (Or.inl (hw _ (List.mem_of_getElem? (i := 43) rfl))) (Or.inl (hw _ (List.mem_of_getElem? (i := 64) rfl))) (by decide) (t := .boolean) (t' := .int) (by decide) (by decide)))
  have f10 := F_entities.same W2
  have f11 := F_before.other W2 (Or.inr (slot_ne (Or.inl (hw _ (List.mem_of_getElem? (i := 36) rfl))) (Or.inl (hw _ (List.mem_of_getElem? (i := 64) rfl))) (by decide) (t := .int) (t' := .int) (by decide) (by decide)))
  have f12 := F_referenceLine.other W2 (Or.inr (slot_ne (Or.inl (hw _ (List.mem_of_getElem? (i := 66) rfl))) (Or.inl (hw _ (List.mem_of_getElem? (i := 64) rfl))) (by decide) (t := .int) (t' := .int) (by decide) (by decide)))
  have f13 := F_depth.other W2 (Or.inr (slot_ne (Or.inl (hw _ (List.mem_of_getElem? (i := 52) rfl))) (Or.inl (hw _ (List.mem_of_getElem? (i := 64) rfl))) (by decide) (t := .int) (t' := .int) (by decide) (by decide)))
  have f14 := Nat.le_trans Z0 (Keep.of_wr W2).1
  have N2 := Fr.snoc X2 N0 g_p
  refine bk (fun t k => st2 t k) ?_
  show F (T2.setTop (mkF m 11 #[.val (.ref o0)] [(.int (0 : Int32))]))
  refine bk (fun t k => XS.ifNo X2.here hx rfl (hb hby d7_11) rfl ((if0 _ _).trans (teq (by decide : (0 : Int32) = (0 : Int32))).2) k) ?_
  show F (T2.setTop (mkF m 14 #[.val (.ref o0)] []))
  refine bk (fun t k => XS.aloadN X2.here hx rfl (hb hby d7_14) rfl rfl k) ?_
  show F (T2.setTop (mkF m 15 #[.val (.ref o0)] [(.ref o0)]))
  refine bk (fun t k => XS.aloadN X2.here hx rfl (hb hby d7_15) rfl rfl k) ?_
  show F (T2.setTop (mkF m 16 #[.val (.ref o0)] [(.ref o0), (.ref o0)]))
  obtain ⟨T15, X15, e15, st15⟩ := getF X2 hx hZ hown (host := "") (Or.inl (hw _ (List.mem_of_getElem? (i := 35) rfl))) Via.refl e2 f11 (g := (mkF m 16 #[.val (.ref o0)] [(.ref o0), (.ref o0)])) rfl rfl (hb hby d7_16)
  refine bk (fun t k => st15 t k) ?_
  show F (T15.setTop (mkF m 19 #[.val (.ref o0)] [(.int bf), (.ref o0)]))
  obtain ⟨T16, h16, X16, e16, W16, st16⟩ := putF X15 hx hZ hown (host := "") (Or.inl (hw _ (List.mem_of_getElem? (i := 65) rfl))) Via.refl e15 f12 f3 (Or.inl (hw _ (List.mem_of_getElem? (i := 66) rfl))) (hw _ (List.mem_of_getElem? (i := 1) rfl)) (ty := .int) (by decide) rfl rfl (g := (mkF m 19 #[.val (.ref o0)] [(.int bf), (.ref o0)])) rfl rfl (hb hby d7_19)
  have f17 := f3.wr W16
  have f18 := f4.wr W16
  have f19 := f5.other W16 (Or.inl (Ne.symm ne_p_rt))
  have f20 := f6.other W16 (Ne.symm ne_p_op)
  have f21 := f7.other W16 (Or.inr (slot_ne (Or.inr (hw _ (List.mem_of_getElem? (i := 31) rfl))) (Or.inl (hw _ (List.mem_of_getElem? (i := 66) rfl))) (by decide) (t := (.object "com/example/quire/quire/readers/RootLine")) (t' := .int) (by decide) (by decide)))
  have f22 := f8.other W16 (Or.inr (slot_ne (Or.inl (hw _ (List.mem_of_getElem? (i := 34) rfl))) (Or.inl (hw _ (List.mem_of_getElem? (i := 66) rfl))) (by decide) (t := (.array .int)) (t' := .int) (by decide) (by decide)))
  have f23 := f9.other W16 (Or.inr (slot_ne (Or.inl (hw _ (List.mem_of_getElem? (i := 43) rfl))) (Or.inl (hw _ (List.mem_of_getElem? (i := 66) rfl))) (by decide) (t := .boolean) (t' := .int) (by decide) (by decide)))
  have f24 := f10.other W16 (Or.inr (slot_ne (Or.inl (hw _ (List.mem_of_getElem? (i := 64) rfl))) (Or.inl (hw _ (List.mem_of_getElem? (i := 66) rfl))) (by decide) (t := .int) (t' := .int) (by decide) (by decide)))
  have f25 := f11.other W16 (Or.inr (slot_ne (Or.inl (hw _ (List.mem_of_getElem? (i := 36) rfl))) (Or.inl (hw _ (List.mem_of_getElem? (i := 66) rfl))) (by decide) (t := .int) (t' := .int) (by decide) (by decide)))
  have f26 := f12.same W16
  have f27 := f13.other W16 (Or.inr (slot_ne (Or.inl (hw _ (List.mem_of_getElem? (i := 52) rfl))) (Or.inl (hw _ (List.mem_of_getElem? (i := 66) rfl))) (by decide) (t := .int) (t' := .int) (by decide) (by decide)))
  have f28 := Nat.le_trans f14 (Keep.of_wr W16).1
  have N16 := Fr.snoc X16 N2 g_p
  refine bk (fun t k => st16 t k) ?_
  show F (T16.setTop (mkF m 22 #[.val (.ref o0)] []))
  rw [hF]
  refine own_ret0 X16 hx Bd.notSynchronized Bd.returns (hb hby d7_22) (by decide) (by decide) ?_
  rw [e16]
  exact ⟨rfl, N16, f28, ⟨f17, f21, f22, f23, f24, f25, f26, f27, f18, f19, f20⟩⟩
def Q7b (Z : State) (o0 : Addr) (rt : Addr) (op : Addr) (kk : ClassId) (sn : Int32) (bf : Int32) (rf : Int32) (dp : Int32) (v0 : Int32) (v1 : Int32) (h0 : Heap) (n0 : Nat) (v : Option Value) (h : Heap) (L : List Loc) : Prop := v = none ∧ Fr n0 L ∧ n0 ≤ h.size ∧ own_P Z h o0 rt op kk sn (2 : Int32) bf rf dp v0 v1
set_option maxRecDepth 65536 in
set_option maxHeartbeats 40000000 in
theorem rm7b (l : Launch) (Z : State) (a0 : Array Value) (hw : ∀ d ∈ tables_1, d.before a0 Z = true) (ws : List Jvm.Cond) (o0 : Addr) (rt : Addr) (op : Addr) (kk : ClassId) (sn : Int32) (bf : Int32) (rf : Int32) (dp : Int32) (v0 : Int32) (v1 : Int32) (h0 : Heap) (n0 : Nat) (Z0 : n0 ≤ h0.size) (P0 : own_P Z h0 o0 rt op kk sn (1 : Int32) bf rf dp v0 v1) (g_p : n0 ≤ o0) (g_op : n0 ≤ op) (ne_p_rt : o0 ≠ rt) (ne_p_op : o0 ≠ op) (ne_rt_op : rt ≠ op) :
    MetFree l (⟨"com/example/quire/quire/readers/Positions", "startEntity", "()V"⟩ : MethodName) (head1 (Jvm.Cond.code (⟨"com/example/quire/quire/readers/Positions", "startEntity", "()V"⟩ : MethodName) prog_46_method_7_code 1 none :: ws) ({ frames := 0, cells := 0, slots := 0, locals := 0 } : Room)) (fun a U => a = #[(.ref o0)] ∧ Z.Warmed39 U.vm ∧ U.heap = h0) (fun _ _ _ _ _ => True) (fun _ U o U' => ∃ v L, o = .returned v ∧ Q7b Z o0 rt op kk sn bf rf dp v0 v1 h0 n0 v U'.heap L ∧ FrameEnd U o U' L ({ frames := 0, cells := 0, slots := 0, locals := 0 } : Room).cells ({ frames := 0, cells := 0, slots := 0, locals := 0 } : Room).slots) := by
  refine MetFree.of_bodySF (plainFor_of_name pn_7) hisR ?_
  intro p e s m args below meth c s₁ Bd hml0 hP hK
  obtain ⟨rfl, hZ, hh⟩ := hP
  have hx := Bd.exec
  have hby := Bd.bytes
  have hml : c.maxLocals = 1 := hml0
  have hown : s.vm.findClass "com/example/quire/quire/readers/Positions" = some m.cls := findClass_of_methodNamed Bd.named
  have hnm := (name_of_methodNamed Bd.named Bd.method).1
  have X0 : Stand p l e ({ frames := 0, cells := 0, slots := 0, locals := 0 } : Room) s m #[(.ref o0)] below meth c s₁ [] 0 0 := Stand.of_body Bd
  have e0 : s₁.heap = h0 := by rw [← hh, Bd.state]; rfl
  have N0 := Fr.nil n0
  obtain ⟨F, hF⟩ : ∃ F : State → Prop, F = own_Fin p e below s ({ frames := 0, cells := 0, slots := 0, locals := 0 } : Room).cells ({ frames := 0, cells := 0, slots := 0, locals := 0 } : Room).slots (fun v h L => Q7b Z o0 rt op kk sn bf rf dp v0 v1 h0 n0 v h L) := ⟨_, rfl⟩
  have bk : ∀ {A B : State}, (∀ t, Steps p.tables e below B t → Steps p.tables e below A t) → F B → F A := by
    intro A B h k
    rw [hF] at k ⊢
    exact own_back h k
  suffices hgo : F (s₁.setTop (mkF m 0 #[.val (.ref o0)] [])) by
    have hgo' := bk (fun t k => castTop (T := s₁) (ef_7 m o0) k) hgo
    rw [hF] at hgo'
    exact hgo'
  obtain ⟨E_p, F_root, F_open, F_rootSeen, F_entities, F_before, F_referenceLine, F_depth, E_rt, F_found, V_op⟩ := P0
  show F (s₁.setTop (mkF m 0 #[.val (.ref o0)] []))
  refine bk (fun t k => XS.aloadN X0.here hx rfl (hb hby d7_0) rfl rfl k) ?_
  show F (s₁.setTop (mkF m 1 #[.val (.ref o0)] [(.ref o0)]))
  refine bk (fun t k => XS.dup X0.here hx rfl (hb hby d7_1) rfl rfl k) ?_
  show F (s₁.setTop (mkF m 2 #[.val (.ref o0)] [(.ref o0), (.ref o0)]))
  obtain ⟨T1, X1, e1, st1⟩ := getF X0 hx hZ hown (host := "") (Or.inl (hw _ (List.mem_of_getElem? (i := 63) rfl))) Via.refl e0 F_entities (g := (mkF m 2 #[.val (.ref o0)] [(.ref o0), (.ref o0)])) rfl rfl (hb hby d7_2)
  refine bk (fun t k => st1 t k) ?_
  show F (T1.setTop (mkF m 5 #[.val (.ref o0)] [(.int (1 : Int32)), (.ref o0)]))
  refine bk (fun t k => XS.dupX1 X1.here hx rfl (hb hby d7_5) rfl rfl rfl k) ?_
  show F (T1.setTop (mkF m 6 #[.val (.ref o0)] [(.int (1 : Int32)), (.ref o0), (.int (1 : Int32))]))
  refine bk (fun t k => XS.iconst X1.here hx rfl (hb hby d7_6) k) ?_
  show F (T1.setTop (mkF m 7 #[.val (.ref o0)] [(.int (1 : Int32)), (.int (1 : Int32)), (.ref o0), (.int (1 : Int32))]))
  refine bk (fun t k => XS.iadd X1.here hx rfl (hb hby d7_7) rfl k) ?_
  show F (T1.setTop (mkF m 8 #[.val (.ref o0)] [(.int (2 : Int32)), (.ref o0), (.int (1 : Int32))]))
  obtain ⟨T2, h2, X2, e2, W2, st2⟩ := putF X1 hx hZ hown (host := "") (Or.inl (hw _ (List.mem_of_getElem? (i := 63) rfl))) Via.refl e1 F_entities E_p (Or.inl (hw _ (List.mem_of_getElem? (i := 64) rfl))) (hw _ (List.mem_of_getElem? (i := 1) rfl)) (ty := .int) (by decide) rfl rfl (g := (mkF m 8 #[.val (.ref o0)] [(.int (2 : Int32)), (.ref o0), (.int (1 : Int32))])) rfl rfl (hb hby d7_8)
  have f3 := E_p.wr W2
  have f4 := E_rt.wr W2
  have f5 := F_found.other W2 (Or.inl (Ne.symm ne_p_rt))
  have f6 := V_op.other W2 (Ne.symm ne_p_op)
  have f7 := F_root.other W2 (Or.inr (slot_ne (Or.inr (hw _ (List.mem_of_getElem? (i := 31) rfl))) (Or.inl (hw _ (List.mem_of_getElem? (i := 64) rfl))) (by decide) (t := (.object "com/example/quire/quire/readers/RootLine")) (t' := .int) (by decide) (by decide)))
  have f8 := F_open.other W2 (Or.inr (slot_ne (Or.inl (hw _ (List.mem_of_getElem? (i := 34) rfl))) (Or.inl (hw _ (List.mem_of_getElem? (i := 64) rfl))) (by decide) (t := (.array .int)) (t' := .int) (by decide) (by decide)))
  have f9 := F_rootSeen.other W2 (Or.inr (slot_ne (Or.inl (hw _ (List.mem_of_getElem? (i := 43) rfl))) (Or.inl (hw _ (List.mem_of_getElem? (i := 64) rfl))) (by decide) (t := .boolean) (t' := .int) (by decide) (by decide)))
  have f10 := F_entities.same W2
  have f11 := F_before.other W2 (Or.inr (slot_ne (Or.inl (hw _ (List.mem_of_getElem? (i := 36) rfl))) (Or.inl (hw _ (List.mem_of_getElem? (i := 64) rfl))) (by decide) (t := .int) (t' := .int) (by decide) (by decide)))
  have f12 := F_referenceLine.other W2 (Or.inr (slot_ne (Or.inl (hw _ (List.mem_of_getElem? (i := 66) rfl))) (Or.inl (hw _ (List.mem_of_getElem? (i := 64) rfl))) (by decide) (t := .int) (t' := .int) (by decide) (by decide)))
  have f13 := F_depth.other W2 (Or.inr (slot_ne (Or.inl (hw _ (List.mem_of_getElem? (i := 52) rfl))) (Or.inl (hw _ (List.mem_of_getElem? (i := 64) rfl))) (by decide) (t := .int) (t' := .int) (by decide) (by decide)))
  have f14 := Nat.le_trans Z0 (Keep.of_wr W2).1
  have N2 := Fr.snoc X2 N0 g_p
  refine bk (fun t k => st2 t k) ?_
  show F (T2.setTop (mkF m 11 #[.val (.ref o0)] [(.int (1 : Int32))]))
  refine bk (fun t k => XS.ifYes X2.here hx rfl (pc0 := 11) (pc' := 22) rfl (hb hby d7_11) rfl ((if0 _ _).trans (feq (by decide : ¬ ((1 : Int32) = (0 : Int32)))).2) (by decide) (by decide) k) ?_
  show F (T2.setTop (mkF m 22 #[.val (.ref o0)] []))
  rw [hF]
  refine own_ret0 X2 hx Bd.notSynchronized Bd.returns (hb hby d7_22) (by decide) (by decide) ?_
  rw [e2]
  exact ⟨rfl, N2, f14, ⟨f3, f7, f8, f9, f10, f11, f12, f13, f4, f5, f6⟩⟩
theorem d8_0 : decode prog_46_method_8_code 0 = .ok (.aload_n 0, 1) := by decide +kernel
theorem d8_1 : decode prog_46_method_8_code 1 = .ok (.dup, 1) := by decide +kernel
theorem d8_2 : decode prog_46_method_8_code 2 = .ok (.getfield 40, 3) := by decide +kernel
theorem d8_5 : decode prog_46_method_8_code 5 = .ok (.iconst 1, 1) := by decide +kernel
theorem d8_6 : decode prog_46_method_8_code 6 = .ok (.isub, 1) := by decide +kernel
theorem d8_7 : decode prog_46_method_8_code 7 = .ok (.dup_x1, 1) := by decide +kernel
theorem d8_8 : decode prog_46_method_8_code 8 = .ok (.putfield 40, 3) := by decide +kernel
theorem d8_11 : decode prog_46_method_8_code 11 = .ok (.ifCond .ne 11, 3) := by decide +kernel
theorem d8_14 : decode prog_46_method_8_code 14 = .ok (.aload_n 0, 1) := by decide +kernel
theorem d8_15 : decode prog_46_method_8_code 15 = .ok (.aload_n 0, 1) := by decide +kernel
theorem d8_16 : decode prog_46_method_8_code 16 = .ok (.getfield 52, 3) := by decide +kernel
theorem d8_19 : decode prog_46_method_8_code 19 = .ok (.putfield 20, 3) := by decide +kernel
theorem d8_22 : decode prog_46_method_8_code 22 = .ok (.return_, 1) := by decide +kernel
theorem pn_8 : plainName "com/example/quire/quire/readers/Positions" = true := by first | (simp [plainName, overriddenIn]; done) | decide +kernel
theorem ef_8 (m : MethodId) (x0 : Addr) : entryFrame m #[(.ref x0)] 1 = mkF m 0 #[.val (.ref x0)] [] := by first | (simp [entryFrame, mkF, argsToLocals, Value.category]; done) | rfl
def Q8a (Z : State) (o0 : Addr) (rt : Addr) (op : Addr) (kk : ClassId) (sn : Int32) (bf : Int32) (rf : Int32) (dp : Int32) (v0 : Int32) (v1 : Int32) (h0 : Heap) (n0 : Nat) (v : Option Value) (h : Heap) (L : List Loc) : Prop := v = none ∧ Fr n0 L ∧ n0 ≤ h.size ∧ own_P Z h o0 rt op kk sn (0 : Int32) rf rf dp v0 v1
set_option maxRecDepth 65536 in
set_option maxHeartbeats 40000000 in
theorem rm8a (l : Launch) (Z : State) (a0 : Array Value) (hw : ∀ d ∈ tables_1, d.before a0 Z = true) (ws : List Jvm.Cond) (o0 : Addr) (rt : Addr) (op : Addr) (kk : ClassId) (sn : Int32) (bf : Int32) (rf : Int32) (dp : Int32) (v0 : Int32) (v1 : Int32) (h0 : Heap) (n0 : Nat) (Z0 : n0 ≤ h0.size) (P0 : own_P Z h0 o0 rt op kk sn (1 : Int32) bf rf dp v0 v1) (g_p : n0 ≤ o0) (g_op : n0 ≤ op) (ne_p_rt : o0 ≠ rt) (ne_p_op : o0 ≠ op) (ne_rt_op : rt ≠ op) :
    MetFree l (⟨"com/example/quire/quire/readers/Positions", "endEntity", "()V"⟩ : MethodName) (head1 (Jvm.Cond.code (⟨"com/example/quire/quire/readers/Positions", "endEntity", "()V"⟩ : MethodName) prog_46_method_8_code 1 none :: ws) ({ frames := 0, cells := 0, slots := 0, locals := 0 } : Room)) (fun a U => a = #[(.ref o0)] ∧ Z.Warmed39 U.vm ∧ U.heap = h0) (fun _ _ _ _ _ => True) (fun _ U o U' => ∃ v L, o = .returned v ∧ Q8a Z o0 rt op kk sn bf rf dp v0 v1 h0 n0 v U'.heap L ∧ FrameEnd U o U' L ({ frames := 0, cells := 0, slots := 0, locals := 0 } : Room).cells ({ frames := 0, cells := 0, slots := 0, locals := 0 } : Room).slots) := by
  refine MetFree.of_bodySF (plainFor_of_name pn_8) hisR ?_
  intro p e s m args below meth c s₁ Bd hml0 hP hK
  obtain ⟨rfl, hZ, hh⟩ := hP
  have hx := Bd.exec
  have hby := Bd.bytes
  have hml : c.maxLocals = 1 := hml0
  have hown : s.vm.findClass "com/example/quire/quire/readers/Positions" = some m.cls := findClass_of_methodNamed Bd.named
  have hnm := (name_of_methodNamed Bd.named Bd.method).1
  have X0 : Stand p l e ({ frames := 0, cells := 0, slots := 0, locals := 0 } : Room) s m #[(.ref o0)] below meth c s₁ [] 0 0 := Stand.of_body Bd
  have e0 : s₁.heap = h0 := by rw [← hh, Bd.state]; rfl
  have N0 := Fr.nil n0
  obtain ⟨F, hF⟩ : ∃ F : State → Prop, F = own_Fin p e below s ({ frames := 0, cells := 0, slots := 0, locals := 0 } : Room).cells ({ frames := 0, cells := 0, slots := 0, locals := 0 } : Room).slots (fun v h L => Q8a Z o0 rt op kk sn bf rf dp v0 v1 h0 n0 v h L) := ⟨_, rfl⟩
  have bk : ∀ {A B : State}, (∀ t, Steps p.tables e below B t → Steps p.tables e below A t) → F B → F A := by
    intro A B h k
    rw [hF] at k ⊢
    exact own_back h k
  suffices hgo : F (s₁.setTop (mkF m 0 #[.val (.ref o0)] [])) by
    have hgo' := bk (fun t k => castTop (T := s₁) (ef_8 m o0) k) hgo
    rw [hF] at hgo'
    exact hgo'
  obtain ⟨E_p, F_root, F_open, F_rootSeen, F_entities, F_before, F_referenceLine, F_depth, E_rt, F_found, V_op⟩ := P0
  show F (s₁.setTop (mkF m 0 #[.val (.ref o0)] []))
  refine bk (fun t k => XS.aloadN X0.here hx rfl (hb hby d8_0) rfl rfl k) ?_
  show F (s₁.setTop (mkF m 1 #[.val (.ref o0)] [(.ref o0)]))
  refine bk (fun t k => XS.dup X0.here hx rfl (hb hby d8_1) rfl rfl k) ?_
  show F (s₁.setTop (mkF m 2 #[.val (.ref o0)] [(.ref o0), (.ref o0)]))
  obtain ⟨T1, X1, e1, st1⟩ := getF X0 hx hZ hown (host := "") (Or.inl (hw _ (List.mem_of_getElem? (i := 63) rfl))) Via.refl e0 F_entities (g := (mkF m 2 #[.val (.ref o0)] [(.ref o0), (.ref o0)])) rfl rfl (hb hby d8_2)
  refine bk (fun t k => st1 t k) ?_
  show F (T1.setTop (mkF m 5 #[.val (.ref o0)] [(.int (1 : Int32)), (.ref o0)]))
  refine bk (fun t k => XS.iconst X1.here hx rfl (hb hby d8_5) k) ?_
  show F (T1.setTop (mkF m 6 #[.val (.ref o0)] [(.int (1 : Int32)), (.int (1 : Int32)), (.ref o0)]))
  refine bk (fun t k => XS.isub X1.here hx rfl (hb hby d8_6) rfl k) ?_
  show F (T1.setTop (mkF m 7 #[.val (.ref o0)] [(.int (0 : Int32)), (.ref o0)]))
  refine bk (fun t k => XS.dupX1 X1.here hx rfl (hb hby d8_7) rfl rfl rfl k) ?_
  show F (T1.setTop (mkF m 8 #[.val (.ref o0)] [(.int (0 : Int32)), (.ref o0), (.int (0 : Int32))]))
  obtain ⟨T2, h2, X2, e2, W2, st2⟩ := putF X1 hx hZ hown (host := "") (Or.inl (hw _ (List.mem_of_getElem? (i := 63) rfl))) Via.refl e1 F_entities E_p (Or.inl (hw _ (List.mem_of_getElem? (i := 64) rfl))) (hw _ (List.mem_of_getElem? (i := 1) rfl)) (ty := .int) (by decide) rfl rfl (g := (mkF m 8 #[.val (.ref o0)] [(.int (0 : Int32)), (.ref o0), (.int (0 : Int32))])) rfl rfl (hb hby d8_8)
  have f3 := E_p.wr W2
  have f4 := E_rt.wr W2
  have f5 := F_found.other W2 (Or.inl (Ne.symm ne_p_rt))
  have f6 := V_op.other W2 (Ne.symm ne_p_op)
  have f7 := F_root.other W2 (Or.inr (slot_ne (Or.inr (hw _ (List.mem_of_getElem? (i := 31) rfl))) (Or.inl (hw _ (List.mem_of_getElem? (i := 64) rfl))) (by decide) (t := (.object "com/example/quire/quire/readers/RootLine")) (t' := .int) (by decide) (by decide)))
  have f8 := F_open.other W2 (Or.inr (slot_ne (Or.inl (hw _ (List.mem_of_getElem? (i := 34) rfl))) (Or.inl (hw _ (List.mem_of_getElem? (i := 64) rfl))) (by decide) (t := (.array .int)) (t' := .int) (by decide) (by decide)))
  have f9 := F_rootSeen.other W2 (Or.inr (slot_ne (Or.inl (hw _ (List.mem_of_getElem? (i := 43) rfl))) (Or.inl (hw _ (List.mem_of_getElem? (i := 64) rfl))) (by decide) (t := .boolean) (t' := .int) (by decide) (by decide)))
  have f10 := F_entities.same W2
  have f11 := F_before.other W2 (Or.inr (slot_ne (Or.inl (hw _ (List.mem_of_getElem? (i := 36) rfl))) (Or.inl (hw _ (List.mem_of_getElem? (i := 64) rfl))) (by decide) (t := .int) (t' := .int) (by decide) (by decide)))
  have f12 := F_referenceLine.other W2 (Or.inr (slot_ne (Or.inl (hw _ (List.mem_of_getElem? (i := 66) rfl))) (Or.inl (hw _ (List.mem_of_getElem? (i := 64) rfl))) (by decide) (t := .int) (t' := .int) (by decide) (by decide)))
  have f13 := F_depth.other W2 (Or.inr (slot_ne (Or.inl (hw _ (List.mem_of_getElem? (i := 52) rfl))) (Or.inl (hw _ (List.mem_of_getElem? (i := 64) rfl))) (by decide) (t := .int) (t' := .int) (by decide) (by decide)))
  have f14 := Nat.le_trans Z0 (Keep.of_wr W2).1
  have N2 := Fr.snoc X2 N0 g_p
  refine bk (fun t k => st2 t k) ?_
  show F (T2.setTop (mkF m 11 #[.val (.ref o0)] [(.int (0 : Int32))]))
  refine bk (fun t k => XS.ifNo X2.here hx rfl (hb hby d8_11) rfl ((if0 _ _).trans (teq (by decide : (0 : Int32) = (0 : Int32))).2) k) ?_
  show F (T2.setTop (mkF m 14 #[.val (.ref o0)] []))
  refine bk (fun t k => XS.aloadN X2.here hx rfl (hb hby d8_14) rfl rfl k) ?_
  show F (T2.setTop (mkF m 15 #[.val (.ref o0)] [(.ref o0)]))
  refine bk (fun t k => XS.aloadN X2.here hx rfl (hb hby d8_15) rfl rfl k) ?_
  show F (T2.setTop (mkF m 16 #[.val (.ref o0)] [(.ref o0), (.ref o0)]))
  obtain ⟨T15, X15, e15, st15⟩ := getF X2 hx hZ hown (host := "") (Or.inl (hw _ (List.mem_of_getElem? (i := 65) rfl))) Via.refl e2 f12 (g := (mkF m 16 #[.val (.ref o0)] [(.ref o0), (.ref o0)])) rfl rfl (hb hby d8_16)
  refine bk (fun t k => st15 t k) ?_
  show F (T15.setTop (mkF m 19 #[.val (.ref o0)] [(.int rf), (.ref o0)]))
  obtain ⟨T16, h16, X16, e16, W16, st16⟩ := putF X15 hx hZ hown (host := "") (Or.inl (hw _ (List.mem_of_getElem? (i := 35) rfl))) Via.refl e15 f11 f3 (Or.inl (hw _ (List.mem_of_getElem? (i := 36) rfl))) (hw _ (List.mem_of_getElem? (i := 1) rfl)) (ty := .int) (by decide) rfl rfl (g := (mkF m 19 #[.val (.ref o0)] [(.int rf), (.ref o0)])) rfl rfl (hb hby d8_19)
  have f17 := f3.wr W16
  have f18 := f4.wr W16
  have f19 := f5.other W16 (Or.inl (Ne.symm ne_p_rt))
  have f20 := f6.other W16 (Ne.symm ne_p_op)
  have f21 := f7.other W16 (Or.inr (slot_ne (Or.inr (hw _ (List.mem_of_getElem? (i := 31) rfl))) (Or.inl (hw _ (List.mem_of_getElem? (i := 36) rfl))) (by decide) (t := (.object "com/example/quire/quire/readers/RootLine")) (t' := .int) (by decide) (by decide)))
  have f22 := f8.other W16 (Or.inr (slot_ne (Or.inl (hw _ (List.mem_of_getElem? (i := 34) rfl))) (Or.inl (hw _ (List.mem_of_getElem? (i := 36) rfl))) (by decide) (t := (.array .int)) (t' := .int) (by decide) (by decide)))
  have f23 := f9.other W16 (Or.inr (slot_ne (Or.inl (hw _ (List.mem_of_getElem? (i := 43) rfl))) (Or.inl (hw _ (List.mem_of_getElem? (i := 36) rfl))) (by decide) (t := .boolean) (t' := .int) (by decide) (by decide)))
  have f24 := f10.other W16 (Or.inr (slot_ne (Or.inl (hw _ (List.mem_of_getElem? (i := 64) rfl))) (Or.inl (hw _ (List.mem_of_getElem? (i := 36) rfl))) (by decide) (t := .int) (t' := .int) (by decide) (by decide)))
  have f25 := f11.same W16
  have f26 := f12.other W16 (Or.inr (slot_ne (Or.inl (hw _ (List.mem_of_getElem? (i := 66) rfl))) (Or.inl (hw _ (List.mem_of_getElem? (i := 36) rfl))) (by decide) (t := .int) (t' := .int) (by decide) (by decide)))
  have f27 := f13.other W16 (Or.inr (slot_ne (Or.inl (hw _ (List.mem_of_getElem? (i := 52) rfl))) (Or.inl (hw _ (List.mem_of_getElem? (i := 36) rfl))) (by decide) (t := .int) (t' := .int) (by decide) (by decide)))
  have f28 := Nat.le_trans f14 (Keep.of_wr W16).1
  have N16 := Fr.snoc X16 N2 g_p
  refine bk (fun t k => st16 t k) ?_
  show F (T16.setTop (mkF m 22 #[.val (.ref o0)] []))
  rw [hF]
  refine own_ret0 X16 hx Bd.notSynchronized Bd.returns (hb hby d8_22) (by decide) (by decide) ?_
  rw [e16]
  exact ⟨rfl, N16, f28, ⟨f17, f21, f22, f23, f24, f25, f26, f27, f18, f19, f20⟩⟩
def Q8b (Z : State) (o0 : Addr) (rt : Addr) (op : Addr) (kk : ClassId) (sn : Int32) (bf : Int32) (rf : Int32) (dp : Int32) (v0 : Int32) (v1 : Int32) (h0 : Heap) (n0 : Nat) (v : Option Value) (h : Heap) (L : List Loc) : Prop := v = none ∧ Fr n0 L ∧ n0 ≤ h.size ∧ own_P Z h o0 rt op kk sn (1 : Int32) bf rf dp v0 v1
set_option maxRecDepth 65536 in
set_option maxHeartbeats 40000000 in
theorem rm8b (l : Launch) (Z : State) (a0 : Array Value) (hw : ∀ d ∈ tables_1, d.before a0 Z = true) (ws : List Jvm.Cond) (o0 : Addr) (rt : Addr) (op : Addr) (kk : ClassId) (sn : Int32) (bf : Int32) (rf : Int32) (dp : Int32) (v0 : Int32) (v1 : Int32) (h0 : Heap) (n0 : Nat) (Z0 : n0 ≤ h0.size) (P0 : own_P Z h0 o0 rt op kk sn (2 : Int32) bf rf dp v0 v1) (g_p : n0 ≤ o0) (g_op : n0 ≤ op) (ne_p_rt : o0 ≠ rt) (ne_p_op : o0 ≠ op) (ne_rt_op : rt ≠ op) :
    MetFree l (⟨"com/example/quire/quire/readers/Positions", "endEntity", "()V"⟩ : MethodName) (head1 (Jvm.Cond.code (⟨"com/example/quire/quire/readers/Positions", "endEntity", "()V"⟩ : MethodName) prog_46_method_8_code 1 none :: ws) ({ frames := 0, cells := 0, slots := 0, locals := 0 } : Room)) (fun a U => a = #[(.ref o0)] ∧ Z.Warmed39 U.vm ∧ U.heap = h0) (fun _ _ _ _ _ => True) (fun _ U o U' => ∃ v L, o = .returned v ∧ Q8b Z o0 rt op kk sn bf rf dp v0 v1 h0 n0 v U'.heap L ∧ FrameEnd U o U' L ({ frames := 0, cells := 0, slots := 0, locals := 0 } : Room).cells ({ frames := 0, cells := 0, slots := 0, locals := 0 } : Room).slots) := by
  refine MetFree.of_bodySF (plainFor_of_name pn_8) hisR ?_
  intro p e s m args below meth c s₁ Bd hml0 hP hK
  obtain ⟨rfl, hZ, hh⟩ := hP
  have hx := Bd.exec
  have hby := Bd.bytes
  have hml : c.maxLocals = 1 := hml0
  have hown : s.vm.findClass "com/example/quire/quire/readers/Positions" = some m.cls := findClass_of_methodNamed Bd.named
  have hnm := (name_of_methodNamed Bd.named Bd.method).1
  have X0 : Stand p l e ({ frames := 0, cells := 0, slots := 0, locals := 0 } : Room) s m #[(.ref o0)] below meth c s₁ [] 0 0 := Stand.of_body Bd
  have e0 : s₁.heap = h0 := by rw [← hh, Bd.state]; rfl
  have N0 := Fr.nil n0
  obtain ⟨F, hF⟩ : ∃ F : State → Prop, F = own_Fin p e below s ({ frames := 0, cells := 0, slots := 0, locals := 0 } : Room).cells ({ frames := 0, cells := 0, slots := 0, locals := 0 } : Room).slots (fun v h L => Q8b Z o0 rt op kk sn bf rf dp v0 v1 h0 n0 v h L) := ⟨_, rfl⟩
  have bk : ∀ {A B : State}, (∀ t, Steps p.tables e below B t → Steps p.tables e below A t) → F B → F A := by
    intro A B h k
    rw [hF] at k ⊢
    exact own_back h k
  suffices hgo : F (s₁.setTop (mkF m 0 #[.val (.ref o0)] [])) by
    have hgo' := bk (fun t k => castTop (T := s₁) (ef_8 m o0) k) hgo
    rw [hF] at hgo'
    exact hgo'
  obtain ⟨E_p, F_root, F_open, F_rootSeen, F_entities, F_before, F_referenceLine, F_depth, E_rt, F_found, V_op⟩ := P0
  show F (s₁.setTop (mkF m 0 #[.val (.ref o0)] []))
  refine bk (fun t k => XS.aloadN X0.here hx rfl (hb hby d8_0) rfl rfl k) ?_
  show F (s₁.setTop (mkF m 1 #[.val (.ref o0)] [(.ref o0)]))
  refine bk (fun t k => XS.dup X0.here hx rfl (hb hby d8_1) rfl rfl k) ?_
  show F (s₁.setTop (mkF m 2 #[.val (.ref o0)] [(.ref o0), (.ref o0)]))
  obtain ⟨T1, X1, e1, st1⟩ := getF X0 hx hZ hown (host := "") (Or.inl (hw _ (List.mem_of_getElem? (i := 63) rfl))) Via.refl e0 F_entities (g := (mkF m 2 #[.val (.ref o0)] [(.ref o0), (.ref o0)])) rfl rfl (hb hby d8_2)
  refine bk (fun t k => st1 t k) ?_
  show F (T1.setTop (mkF m 5 #[.val (.ref o0)] [(.int (2 : Int32)), (.ref o0)]))
  refine bk (fun t k => XS.iconst X1.here hx rfl (hb hby d8_5) k) ?_
  show F (T1.setTop (mkF m 6 #[.val (.ref o0)] [(.int (1 : Int32)), (.int (2 : Int32)), (.ref o0)]))
  refine bk (fun t k => XS.isub X1.here hx rfl (hb hby d8_6) rfl k) ?_
  show F (T1.setTop (mkF m 7 #[.val (.ref o0)] [(.int (1 : Int32)), (.ref o0)]))
  refine bk (fun t k => XS.dupX1 X1.here hx rfl (hb hby d8_7) rfl rfl rfl k) ?_
  show F (T1.setTop (mkF m 8 #[.val (.ref o0)] [(.int (1 : Int32)), (.ref o0), (.int (1 : Int32))]))
  obtain ⟨T2, h2, X2, e2, W2, st2⟩ := putF X1 hx hZ hown (host := "") (Or.inl (hw _ (List.mem_of_getElem? (i := 63) rfl))) Via.refl e1 F_entities E_p (Or.inl (hw _ (List.mem_of_getElem? (i := 64) rfl))) (hw _ (List.mem_of_getElem? (i := 1) rfl)) (ty := .int) (by decide) rfl rfl (g := (mkF m 8 #[.val (.ref o0)] [(.int (1 : Int32)), (.ref o0), (.int (1 : Int32))])) rfl rfl (hb hby d8_8)
  have f3 := E_p.wr W2
  have f4 := E_rt.wr W2
  have f5 := F_found.other W2 (Or.inl (Ne.symm ne_p_rt))
  have f6 := V_op.other W2 (Ne.symm ne_p_op)
  have f7 := F_root.other W2 (Or.inr (slot_ne (Or.inr (hw _ (List.mem_of_getElem? (i := 31) rfl))) (Or.inl (hw _ (List.mem_of_getElem? (i := 64) rfl))) (by decide) (t := (.object "com/example/quire/quire/readers/RootLine")) (t' := .int) (by decide) (by decide)))
  have f8 := F_open.other W2 (Or.inr (slot_ne (Or.inl (hw _ (List.mem_of_getElem? (i := 34) rfl))) (Or.inl (hw _ (List.mem_of_getElem? (i := 64) rfl))) (by decide) (t := (.array .int)) (t' := .int) (by decide) (by decide)))
  have f9 := F_rootSeen.other W2 (Or.inr (slot_ne (Or.inl (hw _ (List.mem_of_getElem? (i := 43) rfl))) (Or.inl (hw _ (List.mem_of_getElem? (i := 64) rfl))) (by decide) (t := .boolean) (t' := .int) (by decide) (by decide)))
  have f10 := F_entities.same W2
  have f11 := F_before.other W2 (Or.inr (slot_ne (Or.inl (hw _ (List.mem_of_getElem? (i := 36) rfl))) (Or.inl (hw _ (List.mem_of_getElem? (i := 64) rfl))) (by decide) (t := .int) (t' := .int) (by decide) (by decide)))
  have f12 := F_referenceLine.other W2 (Or.inr (slot_ne (Or.inl (hw _ (List.mem_of_getElem? (i := 66) rfl))) (Or.inl (hw _ (List.mem_of_getElem? (i := 64) rfl))) (by decide) (t := .int) (t' := .int) (by decide) (by decide)))
  have f13 := F_depth.other W2 (Or.inr (slot_ne (Or.inl (hw _ (List.mem_of_getElem? (i := 52) rfl))) (Or.inl (hw _ (List.mem_of_getElem? (i := 64) rfl))) (by decide) (t := .int) (t' := .int) (by decide) (by decide)))
  have f14 := Nat.le_trans Z0 (Keep.of_wr W2).1
  have N2 := Fr.snoc X2 N0 g_p
  refine bk (fun t k => st2 t k) ?_
  show F (T2.setTop (mkF m 11 #[.val (.ref o0)] [(.int (1 : Int32))]))
  refine bk (fun t k => XS.ifYes X2.here hx rfl (pc0 := 11) (pc' := 22) rfl (hb hby d8_11) rfl ((if0 _ _).trans (feq (by decide : ¬ ((1 : Int32) = (0 : Int32)))).2) (by decide) (by decide) k) ?_
  show F (T2.setTop (mkF m 22 #[.val (.ref o0)] []))
  rw [hF]
  refine own_ret0 X2 hx Bd.notSynchronized Bd.returns (hb hby d8_22) (by decide) (by decide) ?_
  rw [e2]
  exact ⟨rfl, N2, f14, ⟨f3, f7, f8, f9, f10, f11, f12, f13, f4, f5, f6⟩⟩
theorem d4_0 : decode prog_46_method_5_code 0 = .ok (.aload_n 0, 1) := by decide +kernel
theorem d4_1 : decode prog_46_method_5_code 1 = .ok (.getfield 24, 3) := by decide +kernel
theorem d4_4 : decode prog_46_method_5_code 4 = .ok (.ifCond .ne 34, 3) := by decide +kernel
theorem d4_7 : decode prog_46_method_5_code 7 = .ok (.aload_n 0, 1) := by decide +kernel
theorem d4_8 : decode prog_46_method_5_code 8 = .ok (.iconst 1, 1) := by decide +kernel
theorem d4_9 : decode prog_46_method_5_code 9 = .ok (.putfield 24, 3) := by decide +kernel
theorem d4_12 : decode prog_46_method_5_code 12 = .ok (.aload_n 0, 1) := by decide +kernel
theorem d4_13 : decode prog_46_method_5_code 13 = .ok (.getfield 10, 3) := by decide +kernel
theorem d4_16 : decode prog_46_method_5_code 16 = .ok (.invokevirtual 36, 3) := by decide +kernel
theorem d4_19 : decode prog_46_method_5_code 19 = .ok (.istore_n 3, 1) := by decide +kernel
theorem d4_20 : decode prog_46_method_5_code 20 = .ok (.iload_n 3, 1) := by decide +kernel
theorem d4_21 : decode prog_46_method_5_code 21 = .ok (.ifCond .eq 8, 3) := by decide +kernel
theorem d4_29 : decode prog_46_method_5_code 29 = .ok (.iload_n 1, 1) := by decide +kernel
theorem d4_30 : decode prog_46_method_5_code 30 = .ok (.goto 4, 3) := by decide +kernel
theorem d4_34 : decode prog_46_method_5_code 34 = .ok (.istore_n 2, 1) := by decide +kernel
theorem d4_35 : decode prog_46_method_5_code 35 = .ok (.goto 30, 3) := by decide +kernel
theorem d4_65 : decode prog_46_method_5_code 65 = .ok (.aload_n 0, 1) := by decide +kernel
theorem d4_66 : decode prog_46_method_5_code 66 = .ok (.getfield 43, 3) := by decide +kernel
theorem d4_69 : decode prog_46_method_5_code 69 = .ok (.aload_n 0, 1) := by decide +kernel
theorem d4_70 : decode prog_46_method_5_code 70 = .ok (.getfield 16, 3) := by decide +kernel
theorem d4_73 : decode prog_46_method_5_code 73 = .ok (.arraylength, 1) := by decide +kernel
theorem d4_74 : decode prog_46_method_5_code 74 = .ok (.if_icmp .ne 20, 3) := by decide +kernel
theorem d4_94 : decode prog_46_method_5_code 94 = .ok (.aload_n 0, 1) := by decide +kernel
theorem d4_95 : decode prog_46_method_5_code 95 = .ok (.getfield 16, 3) := by decide +kernel
theorem d4_98 : decode prog_46_method_5_code 98 = .ok (.aload_n 0, 1) := by decide +kernel
theorem d4_99 : decode prog_46_method_5_code 99 = .ok (.dup, 1) := by decide +kernel
theorem d4_100 : decode prog_46_method_5_code 100 = .ok (.getfield 43, 3) := by decide +kernel
theorem d4_103 : decode prog_46_method_5_code 103 = .ok (.dup_x1, 1) := by decide +kernel
theorem d4_104 : decode prog_46_method_5_code 104 = .ok (.iconst 1, 1) := by decide +kernel
theorem d4_105 : decode prog_46_method_5_code 105 = .ok (.iadd, 1) := by decide +kernel
theorem d4_106 : decode prog_46_method_5_code 106 = .ok (.putfield 43, 3) := by decide +kernel
theorem d4_109 : decode prog_46_method_5_code 109 = .ok (.iload_n 2, 1) := by decide +kernel
theorem d4_110 : decode prog_46_method_5_code 110 = .ok (.iastore, 1) := by decide +kernel
theorem d4_111 : decode prog_46_method_5_code 111 = .ok (.aload_n 0, 1) := by decide +kernel
theorem d4_112 : decode prog_46_method_5_code 112 = .ok (.iload_n 1, 1) := by decide +kernel
theorem d4_113 : decode prog_46_method_5_code 113 = .ok (.putfield 20, 3) := by decide +kernel
theorem d4_116 : decode prog_46_method_5_code 116 = .ok (.iload_n 2, 1) := by decide +kernel
theorem d4_117 : decode prog_46_method_5_code 117 = .ok (.ireturn, 1) := by decide +kernel
theorem pd4___I : parseMethodDescriptor "()I" = some ⟨[], some .int⟩ := by decide +kernel
theorem pn_4 : plainName "com/example/quire/quire/readers/Positions" = true := by first | (simp [plainName, overriddenIn]; done) | decide +kernel
theorem ef_4 (m : MethodId) (x0 : Addr) (x1 : Int32) : entryFrame m #[(.ref x0), (.int x1)] 4 = mkF m 0 #[.val (.ref x0), .val (.int x1), .unset, .unset] [] := by first | (simp [entryFrame, mkF, argsToLocals, Value.category]; done) | rfl
def Q4a (Z : State) (o0 : Addr) (p1 : Int32) (rt : Addr) (op : Addr) (kk : ClassId) (bf : Int32) (rf : Int32) (v0 : Int32) (v1 : Int32) (h0 : Heap) (n0 : Nat) (v : Option Value) (h : Heap) (L : List Loc) : Prop := v = some (.int p1) ∧ Fr n0 L ∧ n0 ≤ h.size ∧ own_P Z h o0 rt op kk (1 : Int32) (0 : Int32) p1 rf (1 : Int32) p1 v1
set_option maxRecDepth 65536 in
set_option maxHeartbeats 40000000 in
theorem rm4a (l : Launch) (Z : State) (a0 : Array Value) (hw : ∀ d ∈ tables_1, d.before a0 Z = true) (ws : List Jvm.Cond) (o0 : Addr) (p1 : Int32) (rt : Addr) (op : Addr) (kk : ClassId) (bf : Int32) (rf : Int32) (v0 : Int32) (v1 : Int32) (h0 : Heap) (n0 : Nat) (Z0 : n0 ≤ h0.size) (P0 : own_P Z h0 o0 rt op kk (0 : Int32) (0 : Int32) bf rf (0 : Int32) v0 v1) (g_p : n0 ≤ o0) (g_op : n0 ≤ op) (ne_p_rt : o0 ≠ rt) (ne_p_op : o0 ≠ op) (ne_rt_op : rt ≠ op) :
    MetFree l (⟨"com/example/quire/quire/readers/Positions", "start", "(I)I"⟩ : MethodName) (head1 (Jvm.Cond.code (⟨"com/example/quire/quire/readers/Positions", "start", "(I)I"⟩ : MethodName) prog_46_method_5_code 4 (some .int) :: ws) ({ frames := 1, cells := 0, slots := 0, locals := 12 } : Room)) (fun a U => a = #[(.ref o0), (.int p1)] ∧ Z.Warmed39 U.vm ∧ U.heap = h0) (fun _ _ _ _ _ => True) (fun _ U o U' => ∃ v L, o = .returned v ∧ Q4a Z o0 p1 rt op kk bf rf v0 v1 h0 n0 v U'.heap L ∧ FrameEnd U o U' L ({ frames := 1, cells := 0, slots := 0, locals := 12 } : Room).cells ({ frames := 1, cells := 0, slots := 0, locals := 12 } : Room).slots) := by
  refine MetFree.of_bodySF (plainFor_of_name pn_4) hisR ?_
  intro p e s m args below meth c s₁ Bd hml0 hP hK
  obtain ⟨rfl, hZ, hh⟩ := hP
  have hx := Bd.exec
  have hby := Bd.bytes
  have hml : c.maxLocals = 4 := hml0
  have hown : s.vm.findClass "com/example/quire/quire/readers/Positions" = some m.cls := findClass_of_methodNamed Bd.named
  have hnm := (name_of_methodNamed Bd.named Bd.method).1
  have X0 : Stand p l e ({ frames := 1, cells := 0, slots := 0, locals := 12 } : Room) s m #[(.ref o0), (.int p1)] below meth c s₁ [] 0 0 := Stand.of_body Bd
  have e0 : s₁.heap = h0 := by rw [← hh, Bd.state]; rfl
  have N0 := Fr.nil n0
  obtain ⟨F, hF⟩ : ∃ F : State → Prop, F = own_Fin p e below s ({ frames := 1, cells := 0, slots := 0, locals := 12 } : Room).cells ({ frames := 1, cells := 0, slots := 0, locals := 12 } : Room).slots (fun v h L => Q4a Z o0 p1 rt op kk bf rf v0 v1 h0 n0 v h L) := ⟨_, rfl⟩
  have bk : ∀ {A B : State}, (∀ t, Steps p.tables e below B t → Steps p.tables e below A t) → F B → F A := by
    intro A B h k
    rw [hF] at k ⊢
    exact own_back h k
  suffices hgo : F (s₁.setTop (mkF m 0 #[.val (.ref o0), .val (.int p1), .unset, .unset] [])) by
    have hgo' := bk (fun t k => castTop (T := s₁) (ef_4 m o0 p1) k) hgo
    rw [hF] at hgo'
    exact hgo'
  obtain ⟨E_p, F_root, F_open, F_rootSeen, F_entities, F_before, F_referenceLine, F_depth, E_rt, F_found, V_op⟩ := P0
  show F (s₁.setTop (mkF m 0 #[.val (.ref o0), .val (.int p1), .unset, .unset] []))
  refine bk (fun t k => XS.aloadN X0.here hx rfl (hb hby d4_0) rfl rfl k) ?_
  show F (s₁.setTop (mkF m 1 #[.val (.ref o0), .val (.int p1), .unset, .unset] [(.ref o0)]))
  obtain ⟨T1, X1, e1, st1⟩ := getF X0 hx hZ hown (host := "") (Or.inl (hw _ (List.mem_of_getElem? (i := 42) rfl))) Via.refl e0 F_rootSeen (g := (mkF m 1 #[.val (.ref o0), .val (.int p1), .unset, .unset] [(.ref o0)])) rfl rfl (hb hby d4_1)
  refine bk (fun t k => st1 t k) ?_
  show F (T1.setTop (mkF m 4 #[.val (.ref o0), .val (.int p1), .unset, .unset] [(.int (0 : Int32))]))
  refine bk (fun t k => XS.ifNo X1.here hx rfl (hb hby d4_4) rfl ((if0 _ _).trans (teq (by decide : (0 : Int32) = (0 : Int32))).2) k) ?_
  show F (T1.setTop (mkF m 7 #[.val (.ref o0), .val (.int p1), .unset, .unset] []))
  refine bk (fun t k => XS.aloadN X1.here hx rfl (hb hby d4_7) rfl rfl k) ?_
  show F (T1.setTop (mkF m 8 #[.val (.ref o0), .val (.int p1), .unset, .unset] [(.ref o0)]))
  refine bk (fun t k => XS.iconst X1.here hx rfl (hb hby d4_8) k) ?_
  show F (T1.setTop (mkF m 9 #[.val (.ref o0), .val (.int p1), .unset, .unset] [(.int (1 : Int32)), (.ref o0)]))
  obtain ⟨T2, h2, X2, e2, W2, st2⟩ := putFN X1 hx hZ hown (hw _ (List.mem_of_getElem? (i := 42) rfl)) Via.refl e1 F_rootSeen E_p (Or.inl (hw _ (List.mem_of_getElem? (i := 43) rfl))) (hw _ (List.mem_of_getElem? (i := 1) rfl)) (ty := .boolean) (v' := .int (1 : Int32)) (by decide) rfl (by decide) (g := (mkF m 9 #[.val (.ref o0), .val (.int p1), .unset, .unset] [(.int (1 : Int32)), (.ref o0)])) rfl rfl (hb hby d4_9)
  have f3 := E_p.wr W2
  have f4 := E_rt.wr W2
  have f5 := F_found.other W2 (Or.inl (Ne.symm ne_p_rt))
  have f6 := V_op.other W2 (Ne.symm ne_p_op)
  have f7 := F_root.other W2 (Or.inr (slot_ne (Or.inr (hw _ (List.mem_of_getElem? (i := 31) rfl))) (Or.inl (hw _ (List.mem_of_getElem? (i := 43) rfl))) (by decide) (t := (.object "com/example/quire/quire/readers/RootLine")) (t' := .boolean) (by decide) (by decide)))
  have f8 := F_open.other W2 (Or.inr (slot_ne (Or.inl (hw _ (List.mem_of_getElem? (i := 34) rfl))) (Or.inl (hw _ (List.mem_of_getElem? (i := 43) rfl))) (by decide) (t := (.array .int)) (t' := .boolean) (by decide) (by decide)))
  have f9 := F_rootSeen.same W2
  have f10 := F_entities.other W2 (Or.inr (slot_ne (Or.inl (hw _ (List.mem_of_getElem? (i := 64) rfl))) (Or.inl (hw _ (List.mem_of_getElem? (i := 43) rfl))) (by decide) (t := .int) (t' := .boolean) (by decide) (by decide)))
  have f11 := F_before.other W2 (Or.inr (slot_ne (Or.inl (hw _ (List.mem_of_getElem? (i := 36) rfl))) (Or.inl (hw _ (List.mem_of_getElem? (i := 43) rfl))) (by decide) (t := .int) (t' := .boolean) (by decide) (by decide)))
  have f12 := F_referenceLine.other W2 (Or.inr (slot_ne (Or.inl (hw _ (List.mem_of_getElem? (i := 66) rfl))) (Or.inl (hw _ (List.mem_of_getElem? (i := 43) rfl))) (by decide) (t := .int) (t' := .boolean) (by decide) (by decide)))
  have f13 := F_depth.other W2 (Or.inr (slot_ne (Or.inl (hw _ (List.mem_of_getElem? (i := 52) rfl))) (Or.inl (hw _ (List.mem_of_getElem? (i := 43) rfl))) (by decide) (t := .int) (t' := .boolean) (by decide) (by decide)))
  have f14 := Nat.le_trans Z0 (Keep.of_wr W2).1
  have N2 := Fr.snoc X2 N0 g_p
  refine bk (fun t k => st2 t k) ?_
  show F (T2.setTop (mkF m 12 #[.val (.ref o0), .val (.int p1), .unset, .unset] []))
  refine bk (fun t k => XS.aloadN X2.here hx rfl (hb hby d4_12) rfl rfl k) ?_
  show F (T2.setTop (mkF m 13 #[.val (.ref o0), .val (.int p1), .unset, .unset] [(.ref o0)]))
  obtain ⟨T15, X15, e15, st15⟩ := getF X2 hx hZ hown (host := "") (Or.inl (hw _ (List.mem_of_getElem? (i := 30) rfl))) Via.refl e2 f7 (g := (mkF m 13 #[.val (.ref o0), .val (.int p1), .unset, .unset] [(.ref o0)])) rfl rfl (hb hby d4_13)
  refine bk (fun t k => st15 t k) ?_
  show F (T15.setTop (mkF m 16 #[.val (.ref o0), .val (.int p1), .unset, .unset] [(.ref rt)]))
  obtain ⟨cq16, kq16, q16a, q16b, q16c⟩ := isOf hZ e15 (f4)
  obtain ⟨_, _, ⟨T16, L16, k16, n16⟩, -, X16, ⟨Lc16, hQ16, l16, y16, z16⟩, st16⟩ := X15.virtualBack hx (y := (⟨"com/example/quire/quire/readers/RootLine", "line", "()I"⟩ : MethodName)) (z := (⟨"com/example/quire/quire/readers/RootLine", "line", "()I"⟩ : MethodName)) hown (mvT hZ (hw _ (List.mem_of_getElem? (i := 44) rfl))) (mvT hZ (hw _ (List.mem_of_getElem? (i := 45) rfl))) (notFace_of_selects (args := #[]) (mvT hZ (hw _ (List.mem_of_getElem? (i := 47) rfl)))) (mvT hZ (hw _ (List.mem_of_getElem? (i := 47) rfl))) (mvT hZ (hw _ (List.mem_of_getElem? (i := 46) rfl))) (by decide) (backOf (W := 0) (rm5 l Z a0 hw [] rt (0 : Int32) h2 n0 f14 f5) hZ (hw _ (List.mem_of_getElem? (i := 48) rfl)) (hw _ (List.mem_of_getElem? (i := 11) rfl)) (by decide) (by decide)) q16a q16c (g := (mkF m 16 #[.val (.ref o0), .val (.int p1), .unset, .unset] [(.ref rt)])) rfl (by rw [hml]; rfl) (Steps.refl _) (argsL := []) (rest := []) (lenOf pd4___I rfl) rfl (by show 2 * 0 + _ ≤ _; exact Nat.le_of_eq rfl) (hb hby d4_16) (fun _ _ => ⟨rfl, e15, (by decide : 0 + 0 ≤ _), (by decide : 0 + 0 ≤ _)⟩)
  dsimp only [Pt.U, Pt.locs, Pt.cells, Pt.slots] at X16 l16 y16 z16 st16 hQ16
  subst l16 y16 z16
  obtain ⟨rfl, N16q, e16⟩ := hQ16
  have N16 := Fr.app N2 N16q
  refine bk (fun t k => st16.trans k) ?_
  show F (T16.setTop (mkF m 19 #[.val (.ref o0), .val (.int p1), .unset, .unset] [(.int (0 : Int32))]))
  refine bk (fun t k => XS.istoreN X16.here hx rfl (hb hby d4_19) rfl (l' := #[.val (.ref o0), .val (.int p1), .unset, .val (.int (0 : Int32))]) rfl k) ?_
  show F (T16.setTop (mkF m 20 #[.val (.ref o0), .val (.int p1), .unset, .val (.int (0 : Int32))] []))
  refine bk (fun t k => XS.iloadN X16.here hx rfl (hb hby d4_20) rfl k) ?_
  show F (T16.setTop (mkF m 21 #[.val (.ref o0), .val (.int p1), .unset, .val (.int (0 : Int32))] [(.int (0 : Int32))]))
  refine bk (fun t k => XS.ifYes X16.here hx rfl (pc0 := 21) (pc' := 29) rfl (hb hby d4_21) rfl ((if0 _ _).trans (teq (by decide : (0 : Int32) = (0 : Int32))).1) (by decide) (by decide) k) ?_
  show F (T16.setTop (mkF m 29 #[.val (.ref o0), .val (.int p1), .unset, .val (.int (0 : Int32))] []))
  refine bk (fun t k => XS.iloadN X16.here hx rfl (hb hby d4_29) rfl k) ?_
  show F (T16.setTop (mkF m 30 #[.val (.ref o0), .val (.int p1), .unset, .val (.int (0 : Int32))] [(.int p1)]))
  refine bk (fun t k => XS.goto X16.here hx rfl (pc0 := 30) (pc' := 34) rfl (hb hby d4_30) (by decide) (by decide) k) ?_
  show F (T16.setTop (mkF m 34 #[.val (.ref o0), .val (.int p1), .unset, .val (.int (0 : Int32))] [(.int p1)]))
  refine bk (fun t k => XS.istoreN X16.here hx rfl (hb hby d4_34) rfl (l' := #[.val (.ref o0), .val (.int p1), .val (.int p1), .val (.int (0 : Int32))]) rfl k) ?_
  show F (T16.setTop (mkF m 35 #[.val (.ref o0), .val (.int p1), .val (.int p1), .val (.int (0 : Int32))] []))
  refine bk (fun t k => XS.goto X16.here hx rfl (pc0 := 35) (pc' := 65) rfl (hb hby d4_35) (by decide) (by decide) k) ?_
  show F (T16.setTop (mkF m 65 #[.val (.ref o0), .val (.int p1), .val (.int p1), .val (.int (0 : Int32))] []))
  refine bk (fun t k => XS.aloadN X16.here hx rfl (hb hby d4_65) rfl rfl k) ?_
  show F (T16.setTop (mkF m 66 #[.val (.ref o0), .val (.int p1), .val (.int p1), .val (.int (0 : Int32))] [(.ref o0)]))
  obtain ⟨T17, X17, e17, st17⟩ := getF X16 hx hZ hown (host := "") (Or.inl (hw _ (List.mem_of_getElem? (i := 51) rfl))) Via.refl e16 f13 (g := (mkF m 66 #[.val (.ref o0), .val (.int p1), .val (.int p1), .val (.int (0 : Int32))] [(.ref o0)])) rfl rfl (hb hby d4_66)
  refine bk (fun t k => st17 t k) ?_
  show F (T17.setTop (mkF m 69 #[.val (.ref o0), .val (.int p1), .val (.int p1), .val (.int (0 : Int32))] [(.int (0 : Int32))]))
  refine bk (fun t k => XS.aloadN X17.here hx rfl (hb hby d4_69) rfl rfl k) ?_
  show F (T17.setTop (mkF m 70 #[.val (.ref o0), .val (.int p1), .val (.int p1), .val (.int (0 : Int32))] [(.ref o0), (.int (0 : Int32))]))
  obtain ⟨T18, X18, e18, st18⟩ := getF X17 hx hZ hown (host := "") (Or.inl (hw _ (List.mem_of_getElem? (i := 33) rfl))) Via.refl e17 f8 (g := (mkF m 70 #[.val (.ref o0), .val (.int p1), .val (.int p1), .val (.int (0 : Int32))] [(.ref o0), (.int (0 : Int32))])) rfl rfl (hb hby d4_70)
  refine bk (fun t k => st18 t k) ?_
  show F (T18.setTop (mkF m 73 #[.val (.ref o0), .val (.int p1), .val (.int p1), .val (.int (0 : Int32))] [(.ref op), (.int (0 : Int32))]))
  have vv19 := f6
  obtain ⟨cl19, Ar19, q19, S19, M19, H19, G19⟩ := vv19
  refine bk (fun t k => X18.arraylength hx (by rw [e18]; exact Ar19.1) (State.isArrayOf_alike hZ.alike Ar19.2.1) (g := (mkF m 73 #[.val (.ref o0), .val (.int p1), .val (.int p1), .val (.int (0 : Int32))] [(.ref op), (.int (0 : Int32))])) rfl rfl (hb hby d4_73) t k) ?_
  rw [len_of S19 M19]
  show F (T18.setTop (mkF m 74 #[.val (.ref o0), .val (.int p1), .val (.int p1), .val (.int (0 : Int32))] [(.int (64 : Int32)), (.int (0 : Int32))]))
  refine bk (fun t k => XS.icmpYes X18.here hx rfl (pc0 := 74) (pc' := 94) rfl (hb hby d4_74) rfl (feq (by decide : ¬ ((0 : Int32) = (64 : Int32)))).2 (by decide) (by decide) k) ?_
  show F (T18.setTop (mkF m 94 #[.val (.ref o0), .val (.int p1), .val (.int p1), .val (.int (0 : Int32))] []))
  refine bk (fun t k => XS.aloadN X18.here hx rfl (hb hby d4_94) rfl rfl k) ?_
  show F (T18.setTop (mkF m 95 #[.val (.ref o0), .val (.int p1), .val (.int p1), .val (.int (0 : Int32))] [(.ref o0)]))
  obtain ⟨T20, X20, e20, st20⟩ := getF X18 hx hZ hown (host := "") (Or.inl (hw _ (List.mem_of_getElem? (i := 33) rfl))) Via.refl e18 f8 (g := (mkF m 95 #[.val (.ref o0), .val (.int p1), .val (.int p1), .val (.int (0 : Int32))] [(.ref o0)])) rfl rfl (hb hby d4_95)
  refine bk (fun t k => st20 t k) ?_
  show F (T20.setTop (mkF m 98 #[.val (.ref o0), .val (.int p1), .val (.int p1), .val (.int (0 : Int32))] [(.ref op)]))
  refine bk (fun t k => XS.aloadN X20.here hx rfl (hb hby d4_98) rfl rfl k) ?_
  show F (T20.setTop (mkF m 99 #[.val (.ref o0), .val (.int p1), .val (.int p1), .val (.int (0 : Int32))] [(.ref o0), (.ref op)]))
  refine bk (fun t k => XS.dup X20.here hx rfl (hb hby d4_99) rfl rfl k) ?_
  show F (T20.setTop (mkF m 100 #[.val (.ref o0), .val (.int p1), .val (.int p1), .val (.int (0 : Int32))] [(.ref o0), (.ref o0), (.ref op)]))
  obtain ⟨T21, X21, e21, st21⟩ := getF X20 hx hZ hown (host := "") (Or.inl (hw _ (List.mem_of_getElem? (i := 51) rfl))) Via.refl e20 f13 (g := (mkF m 100 #[.val (.ref o0), .val (.int p1), .val (.int p1), .val (.int (0 : Int32))] [(.ref o0), (.ref o0), (.ref op)])) rfl rfl (hb hby d4_100)
  refine bk (fun t k => st21 t k) ?_
  show F (T21.setTop (mkF m 103 #[.val (.ref o0), .val (.int p1), .val (.int p1), .val (.int (0 : Int32))] [(.int (0 : Int32)), (.ref o0), (.ref op)]))
  refine bk (fun t k => XS.dupX1 X21.here hx rfl (hb hby d4_103) rfl rfl rfl k) ?_
  show F (T21.setTop (mkF m 104 #[.val (.ref o0), .val (.int p1), .val (.int p1), .val (.int (0 : Int32))] [(.int (0 : Int32)), (.ref o0), (.int (0 : Int32)), (.ref op)]))
  refine bk (fun t k => XS.iconst X21.here hx rfl (hb hby d4_104) k) ?_
  show F (T21.setTop (mkF m 105 #[.val (.ref o0), .val (.int p1), .val (.int p1), .val (.int (0 : Int32))] [(.int (1 : Int32)), (.int (0 : Int32)), (.ref o0), (.int (0 : Int32)), (.ref op)]))
  refine bk (fun t k => XS.iadd X21.here hx rfl (hb hby d4_105) rfl k) ?_
  show F (T21.setTop (mkF m 106 #[.val (.ref o0), .val (.int p1), .val (.int p1), .val (.int (0 : Int32))] [(.int (1 : Int32)), (.ref o0), (.int (0 : Int32)), (.ref op)]))
  obtain ⟨T22, h22, X22, e22, W22, st22⟩ := putF X21 hx hZ hown (host := "") (Or.inl (hw _ (List.mem_of_getElem? (i := 51) rfl))) Via.refl e21 f13 f3 (Or.inl (hw _ (List.mem_of_getElem? (i := 52) rfl))) (hw _ (List.mem_of_getElem? (i := 1) rfl)) (ty := .int) (by decide) rfl rfl (g := (mkF m 106 #[.val (.ref o0), .val (.int p1), .val (.int p1), .val (.int (0 : Int32))] [(.int (1 : Int32)), (.ref o0), (.int (0 : Int32)), (.ref op)])) rfl rfl (hb hby d4_106)
  have f23 := f3.wr W22
  have f24 := f4.wr W22
  have f25 := f5.other W22 (Or.inl (Ne.symm ne_p_rt))
  have f26 := f6.other W22 (Ne.symm ne_p_op)
  have f27 := f7.other W22 (Or.inr (slot_ne (Or.inr (hw _ (List.mem_of_getElem? (i := 31) rfl))) (Or.inl (hw _ (List.mem_of_getElem? (i := 52) rfl))) (by decide) (t := (.object "com/example/quire/quire/readers/RootLine")) (t' := .int) (by decide) (by decide)))
  have f28 := f8.other W22 (Or.inr (slot_ne (Or.inl (hw _ (List.mem_of_getElem? (i := 34) rfl))) (Or.inl (hw _ (List.mem_of_getElem? (i := 52) rfl))) (by decide) (t := (.array .int)) (t' := .int) (by decide) (by decide)))
  have f29 := f9.other W22 (Or.inr (slot_ne (Or.inl (hw _ (List.mem_of_getElem? (i := 43) rfl))) (Or.inl (hw _ (List.mem_of_getElem? (i := 52) rfl))) (by decide) (t := .boolean) (t' := .int) (by decide) (by decide)))
  have f30 := f10.other W22 (Or.inr (slot_ne (Or.inl (hw _ (List.mem_of_getElem? (i := 64) rfl))) (Or.inl (hw _ (List.mem_of_getElem? (i := 52) rfl))) (by decide) (t := .int) (t' := .int) (by decide) (by decide)))
  have f31 := f11.other W22 (Or.inr (slot_ne (Or.inl (hw _ (List.mem_of_getElem? (i := 36) rfl))) (Or.inl (hw _ (List.mem_of_getElem? (i := 52) rfl))) (by decide) (t := .int) (t' := .int) (by decide) (by decide)))
  have f32 := f12.other W22 (Or.inr (slot_ne (Or.inl (hw _ (List.mem_of_getElem? (i := 66) rfl))) (Or.inl (hw _ (List.mem_of_getElem? (i := 52) rfl))) (by decide) (t := .int) (t' := .int) (by decide) (by decide)))
  have f33 := f13.same W22
  have f34 := Nat.le_trans f14 (Keep.of_wr W22).1
  have N22 := Fr.snoc X22 N16 g_p
  refine bk (fun t k => st22 t k) ?_
  show F (T22.setTop (mkF m 109 #[.val (.ref o0), .val (.int p1), .val (.int p1), .val (.int (0 : Int32))] [(.int (0 : Int32)), (.ref op)]))
  refine bk (fun t k => XS.iloadN X22.here hx rfl (hb hby d4_109) rfl k) ?_
  show F (T22.setTop (mkF m 110 #[.val (.ref o0), .val (.int p1), .val (.int p1), .val (.int (0 : Int32))] [(.int p1), (.int (0 : Int32)), (.ref op)]))
  have vv35 := f26
  obtain ⟨cl35, Ar35, q35, S35, M35, H35, G35⟩ := vv35
  have hin35 : ¬ ((0 : Int32) < 0 ∨ cl35.slots.size ≤ ((0 : Int32)).toNatClampNeg) := inb_of S35 ⟨by decide, by decide⟩
  obtain ⟨T35, h35, X35, e35, W35, st35⟩ := stI X22 hx hZ e22 Ar35 (j := (0 : Int32)) hin35 (g := (mkF m 110 #[.val (.ref o0), .val (.int p1), .val (.int p1), .val (.int (0 : Int32))] [(.int p1), (.int (0 : Int32)), (.ref op)])) rfl rfl (hb hby d4_110)
  have V_op_35 : Arv Z h35 op kk .int (64 : Int32) [(.int p1), (.int v1)] (.int (0 : Int32)) := Arv.set Ar35 q35 S35 M35 H35 G35 rfl W35 0 rfl (Nat.le_of_ble_eq_true rfl)
  have f36 := f23.wr W35
  have f37 := f24.wr W35
  have f38 := f25.other W35 (Or.inl ne_rt_op)
  have f39 := f27.other W35 (Or.inl ne_p_op)
  have f40 := f28.other W35 (Or.inl ne_p_op)
  have f41 := f29.other W35 (Or.inl ne_p_op)
  have f42 := f30.other W35 (Or.inl ne_p_op)
  have f43 := f31.other W35 (Or.inl ne_p_op)
  have f44 := f32.other W35 (Or.inl ne_p_op)
  have f45 := f33.other W35 (Or.inl ne_p_op)
  have f46 := Nat.le_trans f34 (Keep.of_wr W35).1
  have N35 := Fr.snoc X35 N22 g_op
  refine bk (fun t k => st35 t k) ?_
  show F (T35.setTop (mkF m 111 #[.val (.ref o0), .val (.int p1), .val (.int p1), .val (.int (0 : Int32))] []))
  refine bk (fun t k => XS.aloadN X35.here hx rfl (hb hby d4_111) rfl rfl k) ?_
  show F (T35.setTop (mkF m 112 #[.val (.ref o0), .val (.int p1), .val (.int p1), .val (.int (0 : Int32))] [(.ref o0)]))
  refine bk (fun t k => XS.iloadN X35.here hx rfl (hb hby d4_112) rfl k) ?_
  show F (T35.setTop (mkF m 113 #[.val (.ref o0), .val (.int p1), .val (.int p1), .val (.int (0 : Int32))] [(.int p1), (.ref o0)]))
  obtain ⟨T47, h47, X47, e47, W47, st47⟩ := putF X35 hx hZ hown (host := "") (Or.inl (hw _ (List.mem_of_getElem? (i := 35) rfl))) Via.refl e35 f43 f36 (Or.inl (hw _ (List.mem_of_getElem? (i := 36) rfl))) (hw _ (List.mem_of_getElem? (i := 1) rfl)) (ty := .int) (by decide) rfl rfl (g := (mkF m 113 #[.val (.ref o0), .val (.int p1), .val (.int p1), .val (.int (0 : Int32))] [(.int p1), (.ref o0)])) rfl rfl (hb hby d4_113)
  have f48 := f36.wr W47
  have f49 := f37.wr W47
  have f50 := f38.other W47 (Or.inl (Ne.symm ne_p_rt))
  have f51 := f39.other W47 (Or.inr (slot_ne (Or.inr (hw _ (List.mem_of_getElem? (i := 31) rfl))) (Or.inl (hw _ (List.mem_of_getElem? (i := 36) rfl))) (by decide) (t := (.object "com/example/quire/quire/readers/RootLine")) (t' := .int) (by decide) (by decide)))
  have f52 := f40.other W47 (Or.inr (slot_ne (Or.inl (hw _ (List.mem_of_getElem? (i := 34) rfl))) (Or.inl (hw _ (List.mem_of_getElem? (i := 36) rfl))) (by decide) (t := (.array .int)) (t' := .int) (by decide) (by decide)))
  have f53 := f41.other W47 (Or.inr (slot_ne (Or.inl (hw _ (List.mem_of_getElem? (i := 43) rfl))) (Or.inl (hw _ (List.mem_of_getElem? (i := 36) rfl))) (by decide) (t := .boolean) (t' := .int) (by decide) (by decide)))
  have f54 := f42.other W47 (Or.inr (slot_ne (Or.inl (hw _ (List.mem_of_getElem? (i := 64) rfl))) (Or.inl (hw _ (List.mem_of_getElem? (i := 36) rfl))) (by decide) (t := .int) (t' := .int) (by decide) (by decide)))
  have f55 := f43.same W47
  have f56 := f44.other W47 (Or.inr (slot_ne (Or.inl (hw _ (List.mem_of_getElem? (i := 66) rfl))) (Or.inl (hw _ (List.mem_of_getElem? (i := 36) rfl))) (by decide) (t := .int) (t' := .int) (by decide) (by decide)))
  have f57 := f45.other W47 (Or.inr (slot_ne (Or.inl (hw _ (List.mem_of_getElem? (i := 52) rfl))) (Or.inl (hw _ (List.mem_of_getElem? (i := 36) rfl))) (by decide) (t := .int) (t' := .int) (by decide) (by decide)))
  have f58 := Nat.le_trans f46 (Keep.of_wr W47).1
  have f59 := V_op_35.other W47 (Ne.symm ne_p_op)
  have N47 := Fr.snoc X47 N35 g_p
  refine bk (fun t k => st47 t k) ?_
  show F (T47.setTop (mkF m 116 #[.val (.ref o0), .val (.int p1), .val (.int p1), .val (.int (0 : Int32))] []))
  refine bk (fun t k => XS.iloadN X47.here hx rfl (hb hby d4_116) rfl k) ?_
  show F (T47.setTop (mkF m 117 #[.val (.ref o0), .val (.int p1), .val (.int p1), .val (.int (0 : Int32))] [(.int p1)]))
  rw [hF]
  refine own_retI X47 hx Bd.notSynchronized Bd.returns (hb hby d4_117) (by decide) (by decide) ?_
  rw [e47]
  exact ⟨rfl, N47, f58, ⟨f48, f51, f52, f53, f54, f55, f56, f57, f49, f50, f59⟩⟩
theorem d4_38 : decode prog_46_method_5_code 38 = .ok (.aload_n 0, 1) := by decide +kernel
theorem d4_39 : decode prog_46_method_5_code 39 = .ok (.getfield 40, 3) := by decide +kernel
theorem d4_42 : decode prog_46_method_5_code 42 = .ok (.ifCond .le 18, 3) := by decide +kernel
theorem d4_45 : decode prog_46_method_5_code 45 = .ok (.aload_n 0, 1) := by decide +kernel
theorem d4_46 : decode prog_46_method_5_code 46 = .ok (.getfield 16, 3) := by decide +kernel
theorem d4_49 : decode prog_46_method_5_code 49 = .ok (.aload_n 0, 1) := by decide +kernel
theorem d4_50 : decode prog_46_method_5_code 50 = .ok (.getfield 43, 3) := by decide +kernel
theorem d4_53 : decode prog_46_method_5_code 53 = .ok (.iconst 1, 1) := by decide +kernel
theorem d4_54 : decode prog_46_method_5_code 54 = .ok (.isub, 1) := by decide +kernel
theorem d4_55 : decode prog_46_method_5_code 55 = .ok (.iaload, 1) := by decide +kernel
theorem d4_56 : decode prog_46_method_5_code 56 = .ok (.istore_n 2, 1) := by decide +kernel
theorem d4_57 : decode prog_46_method_5_code 57 = .ok (.goto 8, 3) := by decide +kernel
def Q4b (Z : State) (o0 : Addr) (p1 : Int32) (rt : Addr) (op : Addr) (kk : ClassId) (bf : Int32) (rf : Int32) (v0 : Int32) (v1 : Int32) (h0 : Heap) (n0 : Nat) (v : Option Value) (h : Heap) (L : List Loc) : Prop := v = some (.int v0) ∧ Fr n0 L ∧ n0 ≤ h.size ∧ own_P Z h o0 rt op kk (1 : Int32) (1 : Int32) p1 rf (2 : Int32) v0 v0
set_option maxRecDepth 65536 in
set_option maxHeartbeats 40000000 in
theorem rm4b (l : Launch) (Z : State) (a0 : Array Value) (hw : ∀ d ∈ tables_1, d.before a0 Z = true) (ws : List Jvm.Cond) (o0 : Addr) (p1 : Int32) (rt : Addr) (op : Addr) (kk : ClassId) (bf : Int32) (rf : Int32) (v0 : Int32) (v1 : Int32) (h0 : Heap) (n0 : Nat) (Z0 : n0 ≤ h0.size) (P0 : own_P Z h0 o0 rt op kk (1 : Int32) (1 : Int32) bf rf (1 : Int32) v0 v1) (g_p : n0 ≤ o0) (g_op : n0 ≤ op) (ne_p_rt : o0 ≠ rt) (ne_p_op : o0 ≠ op) (ne_rt_op : rt ≠ op) :
    MetFree l (⟨"com/example/quire/quire/readers/Positions", "start", "(I)I"⟩ : MethodName) (head1 (Jvm.Cond.code (⟨"com/example/quire/quire/readers/Positions", "start", "(I)I"⟩ : MethodName) prog_46_method_5_code 4 (some .int) :: ws) ({ frames := 0, cells := 0, slots := 0, locals := 0 } : Room)) (fun a U => a = #[(.ref o0), (.int p1)] ∧ Z.Warmed39 U.vm ∧ U.heap = h0) (fun _ _ _ _ _ => True) (fun _ U o U' => ∃ v L, o = .returned v ∧ Q4b Z o0 p1 rt op kk bf rf v0 v1 h0 n0 v U'.heap L ∧ FrameEnd U o U' L ({ frames := 0, cells := 0, slots := 0, locals := 0 } : Room).cells ({ frames := 0, cells := 0, slots := 0, locals := 0 } : Room).slots) := by
  refine MetFree.of_bodySF (plainFor_of_name pn_4) hisR ?_
  intro p e s m args below meth c s₁ Bd hml0 hP hK
  obtain ⟨rfl, hZ, hh⟩ := hP
  have hx := Bd.exec
  have hby := Bd.bytes
  have hml : c.maxLocals = 4 := hml0
  have hown : s.vm.findClass "com/example/quire/quire/readers/Positions" = some m.cls := findClass_of_methodNamed Bd.named
  have hnm := (name_of_methodNamed Bd.named Bd.method).1
  have X0 : Stand p l e ({ frames := 0, cells := 0, slots := 0, locals := 0 } : Room) s m #[(.ref o0), (.int p1)] below meth c s₁ [] 0 0 := Stand.of_body Bd
  have e0 : s₁.heap = h0 := by rw [← hh, Bd.state]; rfl
  have N0 := Fr.nil n0
  obtain ⟨F, hF⟩ : ∃ F : State → Prop, F = own_Fin p e below s ({ frames := 0, cells := 0, slots := 0, locals := 0 } : Room).cells ({ frames := 0, cells := 0, slots := 0, locals := 0 } : Room).slots (fun v h L => Q4b Z o0 p1 rt op kk bf rf v0 v1 h0 n0 v h L) := ⟨_, rfl⟩
  have bk : ∀ {A B : State}, (∀ t, Steps p.tables e below B t → Steps p.tables e below A t) → F B → F A := by
    intro A B h k
    rw [hF] at k ⊢
    exact own_back h k
  suffices hgo : F (s₁.setTop (mkF m 0 #[.val (.ref o0), .val (.int p1), .unset, .unset] [])) by
    have hgo' := bk (fun t k => castTop (T := s₁) (ef_4 m o0 p1) k) hgo
    rw [hF] at hgo'
    exact hgo'
  obtain ⟨E_p, F_root, F_open, F_rootSeen, F_entities, F_before, F_referenceLine, F_depth, E_rt, F_found, V_op⟩ := P0
  show F (s₁.setTop (mkF m 0 #[.val (.ref o0), .val (.int p1), .unset, .unset] []))
  refine bk (fun t k => XS.aloadN X0.here hx rfl (hb hby d4_0) rfl rfl k) ?_
  show F (s₁.setTop (mkF m 1 #[.val (.ref o0), .val (.int p1), .unset, .unset] [(.ref o0)]))
  obtain ⟨T1, X1, e1, st1⟩ := getF X0 hx hZ hown (host := "") (Or.inl (hw _ (List.mem_of_getElem? (i := 42) rfl))) Via.refl e0 F_rootSeen (g := (mkF m 1 #[.val (.ref o0), .val (.int p1), .unset, .unset] [(.ref o0)])) rfl rfl (hb hby d4_1)
  refine bk (fun t k => st1 t k) ?_
  show F (T1.setTop (mkF m 4 #[.val (.ref o0), .val (.int p1), .unset, .unset] [(.int (1 : Int32))]))
  refine bk (fun t k => XS.ifYes X1.here hx rfl (pc0 := 4) (pc' := 38) rfl (hb hby d4_4) rfl ((if0 _ _).trans (feq (by decide : ¬ ((1 : Int32) = (0 : Int32)))).2) (by decide) (by decide) k) ?_
  show F (T1.setTop (mkF m 38 #[.val (.ref o0), .val (.int p1), .unset, .unset] []))
  refine bk (fun t k => XS.aloadN X1.here hx rfl (hb hby d4_38) rfl rfl k) ?_
  show F (T1.setTop (mkF m 39 #[.val (.ref o0), .val (.int p1), .unset, .unset] [(.ref o0)]))
  obtain ⟨T2, X2, e2, st2⟩ := getF X1 hx hZ hown (host := "") (Or.inl (hw _ (List.mem_of_getElem? (i := 63) rfl))) Via.refl e1 F_entities (g := (mkF m 39 #[.val (.ref o0), .val (.int p1), .unset, .unset] [(.ref o0)])) rfl rfl (hb hby d4_39)
  refine bk (fun t k => st2 t k) ?_
  show F (T2.setTop (mkF m 42 #[.val (.ref o0), .val (.int p1), .unset, .unset] [(.int (1 : Int32))]))
  refine bk (fun t k => XS.ifNo X2.here hx rfl (hb hby d4_42) rfl ((if0 _ _).trans (tlt (by decide : (0 : Int32) < (1 : Int32))).2.2.2) k) ?_
  show F (T2.setTop (mkF m 45 #[.val (.ref o0), .val (.int p1), .unset, .unset] []))
  refine bk (fun t k => XS.aloadN X2.here hx rfl (hb hby d4_45) rfl rfl k) ?_
  show F (T2.setTop (mkF m 46 #[.val (.ref o0), .val (.int p1), .unset, .unset] [(.ref o0)]))
  obtain ⟨T3, X3, e3, st3⟩ := getF X2 hx hZ hown (host := "") (Or.inl (hw _ (List.mem_of_getElem? (i := 33) rfl))) Via.refl e2 F_open (g := (mkF m 46 #[.val (.ref o0), .val (.int p1), .unset, .unset] [(.ref o0)])) rfl rfl (hb hby d4_46)
  refine bk (fun t k => st3 t k) ?_
  show F (T3.setTop (mkF m 49 #[.val (.ref o0), .val (.int p1), .unset, .unset] [(.ref op)]))
  refine bk (fun t k => XS.aloadN X3.here hx rfl (hb hby d4_49) rfl rfl k) ?_
  show F (T3.setTop (mkF m 50 #[.val (.ref o0), .val (.int p1), .unset, .unset] [(.ref o0), (.ref op)]))
  obtain ⟨T4, X4, e4, st4⟩ := getF X3 hx hZ hown (host := "") (Or.inl (hw _ (List.mem_of_getElem? (i := 51) rfl))) Via.refl e3 F_depth (g := (mkF m 50 #[.val (.ref o0), .val (.int p1), .unset, .unset] [(.ref o0), (.ref op)])) rfl rfl (hb hby d4_50)
  refine bk (fun t k => st4 t k) ?_
  show F (T4.setTop (mkF m 53 #[.val (.ref o0), .val (.int p1), .unset, .unset] [(.int (1 : Int32)), (.ref op)]))
  refine bk (fun t k => XS.iconst X4.here hx rfl (hb hby d4_53) k) ?_
  show F (T4.setTop (mkF m 54 #[.val (.ref o0), .val (.int p1), .unset, .unset] [(.int (1 : Int32)), (.int (1 : Int32)), (.ref op)]))
  refine bk (fun t k => XS.isub X4.here hx rfl (hb hby d4_54) rfl k) ?_
  show F (T4.setTop (mkF m 55 #[.val (.ref o0), .val (.int p1), .unset, .unset] [(.int (0 : Int32)), (.ref op)]))
  have vv5 := V_op
  obtain ⟨cl5, Ar5, q5, S5, M5, H5, G5⟩ := vv5
  have hin5 : ¬ ((0 : Int32) < 0 ∨ cl5.slots.size ≤ ((0 : Int32)).toNatClampNeg) := inb_of S5 ⟨by decide, by decide⟩
  refine bk (fun t k => X4.iaload hx (j := (0 : Int32)) (v := (.int v0)) (by rw [e4]; exact Ar5.1) (State.isArrayOf_alike hZ.alike Ar5.2.1) Ar5.2.2 hin5 (Has.at H5 hin5 rfl) (g := (mkF m 55 #[.val (.ref o0), .val (.int p1), .unset, .unset] [(.int (0 : Int32)), (.ref op)])) rfl rfl (hb hby d4_55) t k) ?_
  show F (T4.setTop (mkF m 56 #[.val (.ref o0), .val (.int p1), .unset, .unset] [(.int v0)]))
  refine bk (fun t k => XS.istoreN X4.here hx rfl (hb hby d4_56) rfl (l' := #[.val (.ref o0), .val (.int p1), .val (.int v0), .unset]) rfl k) ?_
  show F (T4.setTop (mkF m 57 #[.val (.ref o0), .val (.int p1), .val (.int v0), .unset] []))
  refine bk (fun t k => XS.goto X4.here hx rfl (pc0 := 57) (pc' := 65) rfl (hb hby d4_57) (by decide) (by decide) k) ?_
  show F (T4.setTop (mkF m 65 #[.val (.ref o0), .val (.int p1), .val (.int v0), .unset] []))
  refine bk (fun t k => XS.aloadN X4.here hx rfl (hb hby d4_65) rfl rfl k) ?_
  show F (T4.setTop (mkF m 66 #[.val (.ref o0), .val (.int p1), .val (.int v0), .unset] [(.ref o0)]))
  obtain ⟨T6, X6, e6, st6⟩ := getF X4 hx hZ hown (host := "") (Or.inl (hw _ (List.mem_of_getElem? (i := 51) rfl))) Via.refl e4 F_depth (g := (mkF m 66 #[.val (.ref o0), .val (.int p1), .val (.int v0), .unset] [(.ref o0)])) rfl rfl (hb hby d4_66)
  refine bk (fun t k => st6 t k) ?_
  show F (T6.setTop (mkF m 69 #[.val (.ref o0), .val (.int p1), .val (.int v0), .unset] [(.int (1 : Int32))]))
  refine bk (fun t k => XS.aloadN X6.here hx rfl (hb hby d4_69) rfl rfl k) ?_
  show F (T6.setTop (mkF m 70 #[.val (.ref o0), .val (.int p1), .val (.int v0), .unset] [(.ref o0), (.int (1 : Int32))]))
  obtain ⟨T7, X7, e7, st7⟩ := getF X6 hx hZ hown (host := "") (Or.inl (hw _ (List.mem_of_getElem? (i := 33) rfl))) Via.refl e6 F_open (g := (mkF m 70 #[.val (.ref o0), .val (.int p1), .val (.int v0), .unset] [(.ref o0), (.int (1 : Int32))])) rfl rfl (hb hby d4_70)
  refine bk (fun t k => st7 t k) ?_
  show F (T7.setTop (mkF m 73 #[.val (.ref o0), .val (.int p1), .val (.int v0), .unset] [(.ref op), (.int (1 : Int32))]))
  have vv8 := V_op
  obtain ⟨cl8, Ar8, q8, S8, M8, H8, G8⟩ := vv8
  refine bk (fun t k => X7.arraylength hx (by rw [e7]; exact Ar8.1) (State.isArrayOf_alike hZ.alike Ar8.2.1) (g := (mkF m 73 #[.val (.ref o0), .val (.int p1), .val (.int v0), .unset] [(.ref op), (.int (1 : Int32))])) rfl rfl (hb hby d4_73) t k) ?_
  rw [len_of S8 M8]
  show F (T7.setTop (mkF m 74 #[.val (.ref o0), .val (.int p1), .val (.int v0), .unset] [(.int (64 : Int32)), (.int (1 : Int32))]))
  refine bk (fun t k => XS.icmpYes X7.here hx rfl (pc0 := 74) (pc' := 94) rfl (hb hby d4_74) rfl (feq (by decide : ¬ ((1 : Int32) = (64 : Int32)))).2 (by decide) (by decide) k) ?_
  show F (T7.setTop (mkF m 94 #[.val (.ref o0), .val (.int p1), .val (.int v0), .unset] []))
  refine bk (fun t k => XS.aloadN X7.here hx rfl (hb hby d4_94) rfl rfl k) ?_
  show F (T7.setTop (mkF m 95 #[.val (.ref o0), .val (.int p1), .val (.int v0), .unset] [(.ref o0)]))
  obtain ⟨T9, X9, e9, st9⟩ := getF X7 hx hZ hown (host := "") (Or.inl (hw _ (List.mem_of_getElem? (i := 33) rfl))) Via.refl e7 F_open (g := (mkF m 95 #[.val (.ref o0), .val (.int p1), .val (.int v0), .unset] [(.ref o0)])) rfl rfl (hb hby d4_95)
  refine bk (fun t k => st9 t k) ?_
  show F (T9.setTop (mkF m 98 #[.val (.ref o0), .val (.int p1), .val (.int v0), .unset] [(.ref op)]))
  refine bk (fun t k => XS.aloadN X9.here hx rfl (hb hby d4_98) rfl rfl k) ?_
  show F (T9.setTop (mkF m 99 #[.val (.ref o0), .val (.int p1), .val (.int v0), .unset] [(.ref o0), (.ref op)]))
  refine bk (fun t k => XS.dup X9.here hx rfl (hb hby d4_99) rfl rfl k) ?_
  show F (T9.setTop (mkF m 100 #[.val (.ref o0), .val (.int p1), .val (.int v0), .unset] [(.ref o0), (.ref o0), (.ref op)]))
  obtain ⟨T10, X10, e10, st10⟩ := getF X9 hx hZ hown (host := "") (Or.inl (hw _ (List.mem_of_getElem? (i := 51) rfl))) Via.refl e9 F_depth (g := (mkF m 100 #[.val (.ref o0), .val (.int p1), .val (.int v0), .unset] [(.ref o0), (.ref o0), (.ref op)])) rfl rfl (hb hby d4_100)
  refine bk (fun t k => st10 t k) ?_
  show F (T10.setTop (mkF m 103 #[.val (.ref o0), .val (.int p1), .val (.int v0), .unset] [(.int (1 : Int32)), (.ref o0), (.ref op)]))
  refine bk (fun t k => XS.dupX1 X10.here hx rfl (hb hby d4_103) rfl rfl rfl k) ?_
  show F (T10.setTop (mkF m 104 #[.val (.ref o0), .val (.int p1), .val (.int v0), .unset] [(.int (1 : Int32)), (.ref o0), (.int (1 : Int32)), (.ref op)]))
  refine bk (fun t k => XS.iconst X10.here hx rfl (hb hby d4_104) k) ?_
  show F (T10.setTop (mkF m 105 #[.val (.ref o0), .val (.int p1), .val (.int v0), .unset] [(.int (1 : Int32)), (.int (1 : Int32)), (.ref o0), (.int (1 : Int32)), (.ref op)]))
  refine bk (fun t k => XS.iadd X10.here hx rfl (hb hby d4_105) rfl k) ?_
  show F (T10.setTop (mkF m 106 #[.val (.ref o0), .val (.int p1), .val (.int v0), .unset] [(.int (2 : Int32)), (.ref o0), (.int (1 : Int32)), (.ref op)]))
  obtain ⟨T11, h11, X11, e11, W11, st11⟩ := putF X10 hx hZ hown (host := "") (Or.inl (hw _ (List.mem_of_getElem? (i := 51) rfl))) Via.refl e10 F_depth E_p (Or.inl (hw _ (List.mem_of_getElem? (i := 52) rfl))) (hw _ (List.mem_of_getElem? (i := 1) rfl)) (ty := .int) (by decide) rfl rfl (g := (mkF m 106 #[.val (.ref o0), .val (.int p1), .val (.int v0), .unset] [(.int (2 : Int32)), (.ref o0), (.int (1 : Int32)), (.ref op)])) rfl rfl (hb hby d4_106)
  have f12 := E_p.wr W11
  have f13 := E_rt.wr W11
  have f14 := F_found.other W11 (Or.inl (Ne.symm ne_p_rt))
  have f15 := V_op.other W11 (Ne.symm ne_p_op)
  have f16 := F_root.other W11 (Or.inr (slot_ne (Or.inr (hw _ (List.mem_of_getElem? (i := 31) rfl))) (Or.inl (hw _ (List.mem_of_getElem? (i := 52) rfl))) (by decide) (t := (.object "com/example/quire/quire/readers/RootLine")) (t' := .int) (by decide) (by decide)))
  have f17 := F_open.other W11 (Or.inr (slot_ne (Or.inl (hw _ (List.mem_of_getElem? (i := 34) rfl))) (Or.inl (hw _ (List.mem_of_getElem? (i := 52) rfl))) (by decide) (t := (.array .int)) (t' := .int) (by decide) (by decide)))
  have f18 := F_rootSeen.other W11 (Or.inr (slot_ne (Or.inl (hw _ (List.mem_of_getElem? (i := 43) rfl))) (Or.inl (hw _ (List.mem_of_getElem? (i := 52) rfl))) (by decide) (t := .boolean) (t' := .int) (by decide) (by decide)))
  have f19 := F_entities.other W11 (Or.inr (slot_ne (Or.inl (hw _ (List.mem_of_getElem? (i := 64) rfl))) (Or.inl (hw _ (List.mem_of_getElem? (i := 52) rfl))) (by decide) (t := .int) (t' := .int) (by decide) (by decide)))
  have f20 := F_before.other W11 (Or.inr (slot_ne (Or.inl (hw _ (List.mem_of_getElem? (i := 36) rfl))) (Or.inl (hw _ (List.mem_of_getElem? (i := 52) rfl))) (by decide) (t := .int) (t' := .int) (by decide) (by decide)))
  have f21 := F_referenceLine.other W11 (Or.inr (slot_ne (Or.inl (hw _ (List.mem_of_getElem? (i := 66) rfl))) (Or.inl (hw _ (List.mem_of_getElem? (i := 52) rfl))) (by decide) (t := .int) (t' := .int) (by decide) (by decide)))
  have f22 := F_depth.same W11
  have f23 := Nat.le_trans Z0 (Keep.of_wr W11).1
  have N11 := Fr.snoc X11 N0 g_p
  refine bk (fun t k => st11 t k) ?_
  show F (T11.setTop (mkF m 109 #[.val (.ref o0), .val (.int p1), .val (.int v0), .unset] [(.int (1 : Int32)), (.ref op)]))
  refine bk (fun t k => XS.iloadN X11.here hx rfl (hb hby d4_109) rfl k) ?_
  show F (T11.setTop (mkF m 110 #[.val (.ref o0), .val (.int p1), .val (.int v0), .unset] [(.int v0), (.int (1 : Int32)), (.ref op)]))
  have vv24 := f15
  obtain ⟨cl24, Ar24, q24, S24, M24, H24, G24⟩ := vv24
  have hin24 : ¬ ((1 : Int32) < 0 ∨ cl24.slots.size ≤ ((1 : Int32)).toNatClampNeg) := inb_of S24 ⟨by decide, by decide⟩
  obtain ⟨T24, h24, X24, e24, W24, st24⟩ := stI X11 hx hZ e11 Ar24 (j := (1 : Int32)) hin24 (g := (mkF m 110 #[.val (.ref o0), .val (.int p1), .val (.int v0), .unset] [(.int v0), (.int (1 : Int32)), (.ref op)])) rfl rfl (hb hby d4_110)
  have V_op_24 : Arv Z h24 op kk .int (64 : Int32) [(.int v0), (.int v0)] (.int (0 : Int32)) := Arv.set Ar24 q24 S24 M24 H24 G24 rfl W24 1 rfl (Nat.le_of_ble_eq_true rfl)
  have f25 := f12.wr W24
  have f26 := f13.wr W24
  have f27 := f14.other W24 (Or.inl ne_rt_op)
  have f28 := f16.other W24 (Or.inl ne_p_op)
  have f29 := f17.other W24 (Or.inl ne_p_op)
  have f30 := f18.other W24 (Or.inl ne_p_op)
  have f31 := f19.other W24 (Or.inl ne_p_op)
  have f32 := f20.other W24 (Or.inl ne_p_op)
  have f33 := f21.other W24 (Or.inl ne_p_op)
  have f34 := f22.other W24 (Or.inl ne_p_op)
  have f35 := Nat.le_trans f23 (Keep.of_wr W24).1
  have N24 := Fr.snoc X24 N11 g_op
  refine bk (fun t k => st24 t k) ?_
  show F (T24.setTop (mkF m 111 #[.val (.ref o0), .val (.int p1), .val (.int v0), .unset] []))
  refine bk (fun t k => XS.aloadN X24.here hx rfl (hb hby d4_111) rfl rfl k) ?_
  show F (T24.setTop (mkF m 112 #[.val (.ref o0), .val (.int p1), .val (.int v0), .unset] [(.ref o0)]))
  refine bk (fun t k => XS.iloadN X24.here hx rfl (hb hby d4_112) rfl k) ?_
  show F (T24.setTop (mkF m 113 #[.val (.ref o0), .val (.int p1), .val (.int v0), .unset] [(.int p1), (.ref o0)]))
  obtain ⟨T36, h36, X36, e36, W36, st36⟩ := putF X24 hx hZ hown (host := "") (Or.inl (hw _ (List.mem_of_getElem? (i := 35) rfl))) Via.refl e24 f32 f25 (Or.inl (hw _ (List.mem_of_getElem? (i := 36) rfl))) (hw _ (List.mem_of_getElem? (i := 1) rfl)) (ty := .int) (by decide) rfl rfl (g := (mkF m 113 #[.val (.ref o0), .val (.int p1), .val (.int v0), .unset] [(.int p1), (.ref o0)])) rfl rfl (hb hby d4_113)
  have f37 := f25.wr W36
  have f38 := f26.wr W36
  have f39 := f27.other W36 (Or.inl (Ne.symm ne_p_rt))
  have f40 := f28.other W36 (Or.inr (slot_ne (Or.inr (hw _ (List.mem_of_getElem? (i := 31) rfl))) (Or.inl (hw _ (List.mem_of_getElem? (i := 36) rfl))) (by decide) (t := (.object "com/example/quire/quire/readers/RootLine")) (t' := .int) (by decide) (by decide)))
  have f41 := f29.other W36 (Or.inr (slot_ne (Or.inl (hw _ (List.mem_of_getElem? (i := 34) rfl))) (Or.inl (hw _ (List.mem_of_getElem? (i := 36) rfl))) (by decide) (t := (.array .int)) (t' := .int) (by decide) (by decide)))
  have f42 := f30.other W36 (Or.inr (slot_ne (Or.inl (hw _ (List.mem_of_getElem? (i := 43) rfl))) (Or.inl (hw _ (List.mem_of_getElem? (i := 36) rfl))) (by decide) (t := .boolean) (t' := .int) (by decide) (by decide)))
  have f43 := f31.other W36 (Or.inr (slot_ne (Or.inl (hw _ (List.mem_of_getElem? (i := 64) rfl))) (Or.inl (hw _ (List.mem_of_getElem? (i := 36) rfl))) (by decide) (t := .int) (t' := .int) (by decide) (by decide)))
  have f44 := f32.same W36
  have f45 := f33.other W36 (Or.inr (slot_ne (Or.inl (hw _ (List.mem_of_getElem? (i := 66) rfl))) (Or.inl (hw _ (List.mem_of_getElem? (i := 36) rfl))) (by decide) (t := .int) (t' := .int) (by decide) (by decide)))
  have f46 := f34.other W36 (Or.inr (slot_ne (Or.inl (hw _ (List.mem_of_getElem? (i := 52) rfl))) (Or.inl (hw _ (List.mem_of_getElem? (i := 36) rfl))) (by decide) (t := .int) (t' := .int) (by decide) (by decide)))
  have f47 := Nat.le_trans f35 (Keep.of_wr W36).1
  have f48 := V_op_24.other W36 (Ne.symm ne_p_op)
  have N36 := Fr.snoc X36 N24 g_p
  refine bk (fun t k => st36 t k) ?_
  show F (T36.setTop (mkF m 116 #[.val (.ref o0), .val (.int p1), .val (.int v0), .unset] []))
  refine bk (fun t k => XS.iloadN X36.here hx rfl (hb hby d4_116) rfl k) ?_
  show F (T36.setTop (mkF m 117 #[.val (.ref o0), .val (.int p1), .val (.int v0), .unset] [(.int v0)]))
  rw [hF]
  refine own_retI X36 hx Bd.notSynchronized Bd.returns (hb hby d4_117) (by decide) (by decide) ?_
  rw [e36]
  exact ⟨rfl, N36, f47, ⟨f37, f40, f41, f42, f43, f44, f45, f46, f38, f39, f48⟩⟩
theorem d4_60 : decode prog_46_method_5_code 60 = .ok (.aload_n 0, 1) := by decide +kernel
theorem d4_61 : decode prog_46_method_5_code 61 = .ok (.getfield 20, 3) := by decide +kernel
theorem d4_64 : decode prog_46_method_5_code 64 = .ok (.istore_n 2, 1) := by decide +kernel
def Q4c (Z : State) (o0 : Addr) (p1 : Int32) (rt : Addr) (op : Addr) (kk : ClassId) (bf : Int32) (rf : Int32) (v0 : Int32) (v1 : Int32) (h0 : Heap) (n0 : Nat) (v : Option Value) (h : Heap) (L : List Loc) : Prop := v = some (.int bf) ∧ Fr n0 L ∧ n0 ≤ h.size ∧ own_P Z h o0 rt op kk (1 : Int32) (0 : Int32) p1 rf (2 : Int32) v0 bf
set_option maxRecDepth 65536 in
set_option maxHeartbeats 40000000 in
theorem rm4c (l : Launch) (Z : State) (a0 : Array Value) (hw : ∀ d ∈ tables_1, d.before a0 Z = true) (ws : List Jvm.Cond) (o0 : Addr) (p1 : Int32) (rt : Addr) (op : Addr) (kk : ClassId) (bf : Int32) (rf : Int32) (v0 : Int32) (v1 : Int32) (h0 : Heap) (n0 : Nat) (Z0 : n0 ≤ h0.size) (P0 : own_P Z h0 o0 rt op kk (1 : Int32) (0 : Int32) bf rf (1 : Int32) v0 v1) (g_p : n0 ≤ o0) (g_op : n0 ≤ op) (ne_p_rt : o0 ≠ rt) (ne_p_op : o0 ≠ op) (ne_rt_op : rt ≠ op) :
    MetFree l (⟨"com/example/quire/quire/readers/Positions", "start", "(I)I"⟩ : MethodName) (head1 (Jvm.Cond.code (⟨"com/example/quire/quire/readers/Positions", "start", "(I)I"⟩ : MethodName) prog_46_method_5_code 4 (some .int) :: ws) ({ frames := 0, cells := 0, slots := 0, locals := 0 } : Room)) (fun a U => a = #[(.ref o0), (.int p1)] ∧ Z.Warmed39 U.vm ∧ U.heap = h0) (fun _ _ _ _ _ => True) (fun _ U o U' => ∃ v L, o = .returned v ∧ Q4c Z o0 p1 rt op kk bf rf v0 v1 h0 n0 v U'.heap L ∧ FrameEnd U o U' L ({ frames := 0, cells := 0, slots := 0, locals := 0 } : Room).cells ({ frames := 0, cells := 0, slots := 0, locals := 0 } : Room).slots) := by
  refine MetFree.of_bodySF (plainFor_of_name pn_4) hisR ?_
  intro p e s m args below meth c s₁ Bd hml0 hP hK
  obtain ⟨rfl, hZ, hh⟩ := hP
  have hx := Bd.exec
  have hby := Bd.bytes
  have hml : c.maxLocals = 4 := hml0
  have hown : s.vm.findClass "com/example/quire/quire/readers/Positions" = some m.cls := findClass_of_methodNamed Bd.named
  have hnm := (name_of_methodNamed Bd.named Bd.method).1
  have X0 : Stand p l e ({ frames := 0, cells := 0, slots := 0, locals := 0 } : Room) s m #[(.ref o0), (.int p1)] below meth c s₁ [] 0 0 := Stand.of_body Bd
  have e0 : s₁.heap = h0 := by rw [← hh, Bd.state]; rfl
  have N0 := Fr.nil n0
  obtain ⟨F, hF⟩ : ∃ F : State → Prop, F = own_Fin p e below s ({ frames := 0, cells := 0, slots := 0, locals := 0 } : Room).cells ({ frames := 0, cells := 0, slots := 0, locals := 0 } : Room).slots (fun v h L => Q4c Z o0 p1 rt op kk bf rf v0 v1 h0 n0 v h L) := ⟨_, rfl⟩
  have bk : ∀ {A B : State}, (∀ t, Steps p.tables e below B t → Steps p.tables e below A t) → F B → F A := by
    intro A B h k
    rw [hF] at k ⊢
    exact own_back h k
  suffices hgo : F (s₁.setTop (mkF m 0 #[.val (.ref o0), .val (.int p1), .unset, .unset] [])) by
    have hgo' := bk (fun t k => castTop (T := s₁) (ef_4 m o0 p1) k) hgo
    rw [hF] at hgo'
    exact hgo'
  obtain ⟨E_p, F_root, F_open, F_rootSeen, F_entities, F_before, F_referenceLine, F_depth, E_rt, F_found, V_op⟩ := P0
  show F (s₁.setTop (mkF m 0 #[.val (.ref o0), .val (.int p1), .unset, .unset] []))
  refine bk (fun t k => XS.aloadN X0.here hx rfl (hb hby d4_0) rfl rfl k) ?_
  show F (s₁.setTop (mkF m 1 #[.val (.ref o0), .val (.int p1), .unset, .unset] [(.ref o0)]))
  obtain ⟨T1, X1, e1, st1⟩ := getF X0 hx hZ hown (host := "") (Or.inl (hw _ (List.mem_of_getElem? (i := 42) rfl))) Via.refl e0 F_rootSeen (g := (mkF m 1 #[.val (.ref o0), .val (.int p1), .unset, .unset] [(.ref o0)])) rfl rfl (hb hby d4_1)
  refine bk (fun t k => st1 t k) ?_
  show F (T1.setTop (mkF m 4 #[.val (.ref o0), .val (.int p1), .unset, .unset] [(.int (1 : Int32))]))
  refine bk (fun t k => XS.ifYes X1.here hx rfl (pc0 := 4) (pc' := 38) rfl (hb hby d4_4) rfl ((if0 _ _).trans (feq (by decide : ¬ ((1 : Int32) = (0 : Int32)))).2) (by decide) (by decide) k) ?_
  show F (T1.setTop (mkF m 38 #[.val (.ref o0), .val (.int p1), .unset, .unset] []))
  refine bk (fun t k => XS.aloadN X1.here hx rfl (hb hby d4_38) rfl rfl k) ?_
  show F (T1.setTop (mkF m 39 #[.val (.ref o0), .val (.int p1), .unset, .unset] [(.ref o0)]))
  obtain ⟨T2, X2, e2, st2⟩ := getF X1 hx hZ hown (host := "") (Or.inl (hw _ (List.mem_of_getElem? (i := 63) rfl))) Via.refl e1 F_entities (g := (mkF m 39 #[.val (.ref o0), .val (.int p1), .unset, .unset] [(.ref o0)])) rfl rfl (hb hby d4_39)
  refine bk (fun t k => st2 t k) ?_
  show F (T2.setTop (mkF m 42 #[.val (.ref o0), .val (.int p1), .unset, .unset] [(.int (0 : Int32))]))
  refine bk (fun t k => XS.ifYes X2.here hx rfl (pc0 := 42) (pc' := 60) rfl (hb hby d4_42) rfl ((if0 _ _).trans (flt (by decide : ¬ ((0 : Int32) < (0 : Int32)))).2.2.2) (by decide) (by decide) k) ?_
  show F (T2.setTop (mkF m 60 #[.val (.ref o0), .val (.int p1), .unset, .unset] []))
  refine bk (fun t k => XS.aloadN X2.here hx rfl (hb hby d4_60) rfl rfl k) ?_
  show F (T2.setTop (mkF m 61 #[.val (.ref o0), .val (.int p1), .unset, .unset] [(.ref o0)]))
  obtain ⟨T3, X3, e3, st3⟩ := getF X2 hx hZ hown (host := "") (Or.inl (hw _ (List.mem_of_getElem? (i := 35) rfl))) Via.refl e2 F_before (g := (mkF m 61 #[.val (.ref o0), .val (.int p1), .unset, .unset] [(.ref o0)])) rfl rfl (hb hby d4_61)
  refine bk (fun t k => st3 t k) ?_
  show F (T3.setTop (mkF m 64 #[.val (.ref o0), .val (.int p1), .unset, .unset] [(.int bf)]))
  refine bk (fun t k => XS.istoreN X3.here hx rfl (hb hby d4_64) rfl (l' := #[.val (.ref o0), .val (.int p1), .val (.int bf), .unset]) rfl k) ?_
  show F (T3.setTop (mkF m 65 #[.val (.ref o0), .val (.int p1), .val (.int bf), .unset] []))
  refine bk (fun t k => XS.aloadN X3.here hx rfl (hb hby d4_65) rfl rfl k) ?_
  show F (T3.setTop (mkF m 66 #[.val (.ref o0), .val (.int p1), .val (.int bf), .unset] [(.ref o0)]))
  obtain ⟨T4, X4, e4, st4⟩ := getF X3 hx hZ hown (host := "") (Or.inl (hw _ (List.mem_of_getElem? (i := 51) rfl))) Via.refl e3 F_depth (g := (mkF m 66 #[.val (.ref o0), .val (.int p1), .val (.int bf), .unset] [(.ref o0)])) rfl rfl (hb hby d4_66)
  refine bk (fun t k => st4 t k) ?_
  show F (T4.setTop (mkF m 69 #[.val (.ref o0), .val (.int p1), .val (.int bf), .unset] [(.int (1 : Int32))]))
  refine bk (fun t k => XS.aloadN X4.here hx rfl (hb hby d4_69) rfl rfl k) ?_
  show F (T4.setTop (mkF m 70 #[.val (.ref o0), .val (.int p1), .val (.int bf), .unset] [(.ref o0), (.int (1 : Int32))]))
  obtain ⟨T5, X5, e5, st5⟩ := getF X4 hx hZ hown (host := "") (Or.inl (hw _ (List.mem_of_getElem? (i := 33) rfl))) Via.refl e4 F_open (g := (mkF m 70 #[.val (.ref o0), .val (.int p1), .val (.int bf), .unset] [(.ref o0), (.int (1 : Int32))])) rfl rfl (hb hby d4_70)
  refine bk (fun t k => st5 t k) ?_
  show F (T5.setTop (mkF m 73 #[.val (.ref o0), .val (.int p1), .val (.int bf), .unset] [(.ref op), (.int (1 : Int32))]))
  have vv6 := V_op
  obtain ⟨cl6, Ar6, q6, S6, M6, H6, G6⟩ := vv6
  refine bk (fun t k => X5.arraylength hx (by rw [e5]; exact Ar6.1) (State.isArrayOf_alike hZ.alike Ar6.2.1) (g := (mkF m 73 #[.val (.ref o0), .val (.int p1), .val (.int bf), .unset] [(.ref op), (.int (1 : Int32))])) rfl rfl (hb hby d4_73) t k) ?_
  rw [len_of S6 M6]
  show F (T5.setTop (mkF m 74 #[.val (.ref o0), .val (.int p1), .val (.int bf), .unset] [(.int (64 : Int32)), (.int (1 : Int32))]))
  refine bk (fun t k => XS.icmpYes X5.here hx rfl (pc0 := 74) (pc' := 94) rfl (hb hby d4_74) rfl (feq (by decide : ¬ ((1 : Int32) = (64 : Int32)))).2 (by decide) (by decide) k) ?_
  show F (T5.setTop (mkF m 94 #[.val (.ref o0), .val (.int p1), .val (.int bf), .unset] []))
  refine bk (fun t k => XS.aloadN X5.here hx rfl (hb hby d4_94) rfl rfl k) ?_
  show F (T5.setTop (mkF m 95 #[.val (.ref o0), .val (.int p1), .val (.int bf), .unset] [(.ref o0)]))
  obtain ⟨T7, X7, e7, st7⟩ := getF X5 hx hZ hown (host := "") (Or.inl (hw _ (List.mem_of_getElem? (i := 33) rfl))) Via.refl e5 F_open (g := (mkF m 95 #[.val (.ref o0), .val (.int p1), .val (.int bf), .unset] [(.ref o0)])) rfl rfl (hb hby d4_95)
  refine bk (fun t k => st7 t k) ?_
  show F (T7.setTop (mkF m 98 #[.val (.ref o0), .val (.int p1), .val (.int bf), .unset] [(.ref op)]))
  refine bk (fun t k => XS.aloadN X7.here hx rfl (hb hby d4_98) rfl rfl k) ?_
  show F (T7.setTop (mkF m 99 #[.val (.ref o0), .val (.int p1), .val (.int bf), .unset] [(.ref o0), (.ref op)]))
  refine bk (fun t k => XS.dup X7.here hx rfl (hb hby d4_99) rfl rfl k) ?_
  show F (T7.setTop (mkF m 100 #[.val (.ref o0), .val (.int p1), .val (.int bf), .unset] [(.ref o0), (.ref o0), (.ref op)]))
  obtain ⟨T8, X8, e8, st8⟩ := getF X7 hx hZ hown (host := "") (Or.inl (hw _ (List.mem_of_getElem? (i := 51) rfl))) Via.refl e7 F_depth (g := (mkF m 100 #[.val (.ref o0), .val (.int p1), .val (.int bf), .unset] [(.ref o0), (.ref o0), (.ref op)])) rfl rfl (hb hby d4_100)
  refine bk (fun t k => st8 t k) ?_
  show F (T8.setTop (mkF m 103 #[.val (.ref o0), .val (.int p1), .val (.int bf), .unset] [(.int (1 : Int32)), (.ref o0), (.ref op)]))
  refine bk (fun t k => XS.dupX1 X8.here hx rfl (hb hby d4_103) rfl rfl rfl k) ?_
  show F (T8.setTop (mkF m 104 #[.val (.ref o0), .val (.int p1), .val (.int bf), .unset] [(.int (1 : Int32)), (.ref o0), (.int (1 : Int32)), (.ref op)]))
  refine bk (fun t k => XS.iconst X8.here hx rfl (hb hby d4_104) k) ?_
  show F (T8.setTop (mkF m 105 #[.val (.ref o0), .val (.int p1), .val (.int bf), .unset] [(.int (1 : Int32)), (.int (1 : Int32)), (.ref o0), (.int (1 : Int32)), (.ref op)]))
  refine bk (fun t k => XS.iadd X8.here hx rfl (hb hby d4_105) rfl k) ?_
  show F (T8.setTop (mkF m 106 #[.val (.ref o0), .val (.int p1), .val (.int bf), .unset] [(.int (2 : Int32)), (.ref o0), (.int (1 : Int32)), (.ref op)]))
  obtain ⟨T9, h9, X9, e9, W9, st9⟩ := putF X8 hx hZ hown (host := "") (Or.inl (hw _ (List.mem_of_getElem? (i := 51) rfl))) Via.refl e8 F_depth E_p (Or.inl (hw _ (List.mem_of_getElem? (i := 52) rfl))) (hw _ (List.mem_of_getElem? (i := 1) rfl)) (ty := .int) (by decide) rfl rfl (g := (mkF m 106 #[.val (.ref o0), .val (.int p1), .val (.int bf), .unset] [(.int (2 : Int32)), (.ref o0), (.int (1 : Int32)), (.ref op)])) rfl rfl (hb hby d4_106)
  have f10 := E_p.wr W9
  have f11 := E_rt.wr W9
  have f12 := F_found.other W9 (Or.inl (Ne.symm ne_p_rt))
  have f13 := V_op.other W9 (Ne.symm ne_p_op)
  have f14 := F_root.other W9 (Or.inr (slot_ne (Or.inr (hw _ (List.mem_of_getElem? (i := 31) rfl))) (Or.inl (hw _ (List.mem_of_getElem? (i := 52) rfl))) (by decide) (t := (.object "com/example/quire/quire/readers/RootLine")) (t' := .int) (by decide) (by decide)))
  have f15 := F_open.other W9 (Or.inr (slot_ne (Or.inl (hw _ (List.mem_of_getElem? (i := 34) rfl))) (Or.inl (hw _ (List.mem_of_getElem? (i := 52) rfl))) (by decide) (t := (.array .int)) (t' := .int) (by decide) (by decide)))
  have f16 := F_rootSeen.other W9 (Or.inr (slot_ne (Or.inl (hw _ (List.mem_of_getElem? (i := 43) rfl))) (Or.inl (hw _ (List.mem_of_getElem? (i := 52) rfl))) (by decide) (t := .boolean) (t' := .int) (by decide) (by decide)))
  have f17 := F_entities.other W9 (Or.inr (slot_ne (Or.inl (hw _ (List.mem_of_getElem? (i := 64) rfl))) (Or.inl (hw _ (List.mem_of_getElem? (i := 52) rfl))) (by decide) (t := .int) (t' := .int) (by decide) (by decide)))
  have f18 := F_before.other W9 (Or.inr (slot_ne (Or.inl (hw _ (List.mem_of_getElem? (i := 36) rfl))) (Or.inl (hw _ (List.mem_of_getElem? (i := 52) rfl))) (by decide) (t := .int) (t' := .int) (by decide) (by decide)))
  have f19 := F_referenceLine.other W9 (Or.inr (slot_ne (Or.inl (hw _ (List.mem_of_getElem? (i := 66) rfl))) (Or.inl (hw _ (List.mem_of_getElem? (i := 52) rfl))) (by decide) (t := .int) (t' := .int) (by decide) (by decide)))
  have f20 := F_depth.same W9
  have f21 := Nat.le_trans Z0 (Keep.of_wr W9).1
  have N9 := Fr.snoc X9 N0 g_p
  refine bk (fun t k => st9 t k) ?_
  show F (T9.setTop (mkF m 109 #[.val (.ref o0), .val (.int p1), .val (.int bf), .unset] [(.int (1 : Int32)), (.ref op)]))
  refine bk (fun t k => XS.iloadN X9.here hx rfl (hb hby d4_109) rfl k) ?_
  show F (T9.setTop (mkF m 110 #[.val (.ref o0), .val (.int p1), .val (.int bf), .unset] [(.int bf), (.int (1 : Int32)), (.ref op)]))
  have vv22 := f13
  obtain ⟨cl22, Ar22, q22, S22, M22, H22, G22⟩ := vv22
  have hin22 : ¬ ((1 : Int32) < 0 ∨ cl22.slots.size ≤ ((1 : Int32)).toNatClampNeg) := inb_of S22 ⟨by decide, by decide⟩
  obtain ⟨T22, h22, X22, e22, W22, st22⟩ := stI X9 hx hZ e9 Ar22 (j := (1 : Int32)) hin22 (g := (mkF m 110 #[.val (.ref o0), .val (.int p1), .val (.int bf), .unset] [(.int bf), (.int (1 : Int32)), (.ref op)])) rfl rfl (hb hby d4_110)
  have V_op_22 : Arv Z h22 op kk .int (64 : Int32) [(.int v0), (.int bf)] (.int (0 : Int32)) := Arv.set Ar22 q22 S22 M22 H22 G22 rfl W22 1 rfl (Nat.le_of_ble_eq_true rfl)
  have f23 := f10.wr W22
  have f24 := f11.wr W22
  have f25 := f12.other W22 (Or.inl ne_rt_op)
  have f26 := f14.other W22 (Or.inl ne_p_op)
  have f27 := f15.other W22 (Or.inl ne_p_op)
  have f28 := f16.other W22 (Or.inl ne_p_op)
  have f29 := f17.other W22 (Or.inl ne_p_op)
  have f30 := f18.other W22 (Or.inl ne_p_op)
  have f31 := f19.other W22 (Or.inl ne_p_op)
  have f32 := f20.other W22 (Or.inl ne_p_op)
  have f33 := Nat.le_trans f21 (Keep.of_wr W22).1
  have N22 := Fr.snoc X22 N9 g_op
  refine bk (fun t k => st22 t k) ?_
  show F (T22.setTop (mkF m 111 #[.val (.ref o0), .val (.int p1), .val (.int bf), .unset] []))
  refine bk (fun t k => XS.aloadN X22.here hx rfl (hb hby d4_111) rfl rfl k) ?_
  show F (T22.setTop (mkF m 112 #[.val (.ref o0), .val (.int p1), .val (.int bf), .unset] [(.ref o0)]))
  refine bk (fun t k => XS.iloadN X22.here hx rfl (hb hby d4_112) rfl k) ?_
  show F (T22.setTop (mkF m 113 #[.val (.ref o0), .val (.int p1), .val (.int bf), .unset] [(.int p1), (.ref o0)]))
  obtain ⟨T34, h34, X34, e34, W34, st34⟩ := putF X22 hx hZ hown (host := "") (Or.inl (hw _ (List.mem_of_getElem? (i := 35) rfl))) Via.refl e22 f30 f23 (Or.inl (hw _ (List.mem_of_getElem? (i := 36) rfl))) (hw _ (List.mem_of_getElem? (i := 1) rfl)) (ty := .int) (by decide) rfl rfl (g := (mkF m 113 #[.val (.ref o0), .val (.int p1), .val (.int bf), .unset] [(.int p1), (.ref o0)])) rfl rfl (hb hby d4_113)
  have f35 := f23.wr W34
  have f36 := f24.wr W34
  have f37 := f25.other W34 (Or.inl (Ne.symm ne_p_rt))
  have f38 := f26.other W34 (Or.inr (slot_ne (Or.inr (hw _ (List.mem_of_getElem? (i := 31) rfl))) (Or.inl (hw _ (List.mem_of_getElem? (i := 36) rfl))) (by decide) (t := (.object "com/example/quire/quire/readers/RootLine")) (t' := .int) (by decide) (by decide)))
  have f39 := f27.other W34 (Or.inr (slot_ne (Or.inl (hw _ (List.mem_of_getElem? (i := 34) rfl))) (Or.inl (hw _ (List.mem_of_getElem? (i := 36) rfl))) (by decide) (t := (.array .int)) (t' := .int) (by decide) (by decide)))
  have f40 := f28.other W34 (Or.inr (slot_ne (Or.inl (hw _ (List.mem_of_getElem? (i := 43) rfl))) (Or.inl (hw _ (List.mem_of_getElem? (i := 36) rfl))) (by decide) (t := .boolean) (t' := .int) (by decide) (by decide)))
  have f41 := f29.other W34 (Or.inr (slot_ne (Or.inl (hw _ (List.mem_of_getElem? (i := 64) rfl))) (Or.inl (hw _ (List.mem_of_getElem? (i := 36) rfl))) (by decide) (t := .int) (t' := .int) (by decide) (by decide)))
  have f42 := f30.same W34
  have f43 := f31.other W34 (Or.inr (slot_ne (Or.inl (hw _ (List.mem_of_getElem? (i := 66) rfl))) (Or.inl (hw _ (List.mem_of_getElem? (i := 36) rfl))) (by decide) (t := .int) (t' := .int) (by decide) (by decide)))
  have f44 := f32.other W34 (Or.inr (slot_ne (Or.inl (hw _ (List.mem_of_getElem? (i := 52) rfl))) (Or.inl (hw _ (List.mem_of_getElem? (i := 36) rfl))) (by decide) (t := .int) (t' := .int) (by decide) (by decide)))
  have f45 := Nat.le_trans f33 (Keep.of_wr W34).1
  have f46 := V_op_22.other W34 (Ne.symm ne_p_op)
  have N34 := Fr.snoc X34 N22 g_p
  refine bk (fun t k => st34 t k) ?_
  show F (T34.setTop (mkF m 116 #[.val (.ref o0), .val (.int p1), .val (.int bf), .unset] []))
  refine bk (fun t k => XS.iloadN X34.here hx rfl (hb hby d4_116) rfl k) ?_
  show F (T34.setTop (mkF m 117 #[.val (.ref o0), .val (.int p1), .val (.int bf), .unset] [(.int bf)]))
  rw [hF]
  refine own_retI X34 hx Bd.notSynchronized Bd.returns (hb hby d4_117) (by decide) (by decide) ?_
  rw [e34]
  exact ⟨rfl, N34, f45, ⟨f35, f38, f39, f40, f41, f42, f43, f44, f36, f37, f46⟩⟩
theorem d3_0 : decode prog_54_method_1_code 0 = .ok (.aload_n 0, 1) := by decide +kernel
theorem d3_1 : decode prog_54_method_1_code 1 = .ok (.invokespecial 1, 3) := by decide +kernel
theorem d3_4 : decode prog_54_method_1_code 4 = .ok (.aload_n 0, 1) := by decide +kernel
theorem d3_5 : decode prog_54_method_1_code 5 = .ok (.iconst 4, 1) := by decide +kernel
theorem d3_6 : decode prog_54_method_1_code 6 = .ok (.newarray .byte, 2) := by decide +kernel
theorem d3_8 : decode prog_54_method_1_code 8 = .ok (.putfield 9, 3) := by decide +kernel
theorem d3_11 : decode prog_54_method_1_code 11 = .ok (.aload_n 0, 1) := by decide +kernel
theorem d3_12 : decode prog_54_method_1_code 12 = .ok (.iconst (-1), 1) := by decide +kernel
theorem d3_13 : decode prog_54_method_1_code 13 = .ok (.putfield 13, 3) := by decide +kernel
theorem d3_16 : decode prog_54_method_1_code 16 = .ok (.aload_n 0, 1) := by decide +kernel
theorem d3_17 : decode prog_54_method_1_code 17 = .ok (.getstatic 17, 3) := by decide +kernel
theorem d3_20 : decode prog_54_method_1_code 20 = .ok (.putfield 23, 3) := by decide +kernel
theorem d3_23 : decode prog_54_method_1_code 23 = .ok (.aload_n 0, 1) := by decide +kernel
theorem d3_24 : decode prog_54_method_1_code 24 = .ok (.getstatic 17, 3) := by decide +kernel
theorem d3_27 : decode prog_54_method_1_code 27 = .ok (.putfield 26, 3) := by decide +kernel
theorem d3_30 : decode prog_54_method_1_code 30 = .ok (.aload_n 0, 1) := by decide +kernel
theorem d3_31 : decode prog_54_method_1_code 31 = .ok (.iconst 1, 1) := by decide +kernel
theorem d3_32 : decode prog_54_method_1_code 32 = .ok (.putfield 29, 3) := by decide +kernel
theorem d3_35 : decode prog_54_method_1_code 35 = .ok (.return_, 1) := by decide +kernel
theorem pn_3 : plainName "com/example/quire/quire/readers/RootLine" = true := by first | (simp [plainName, overriddenIn]; done) | decide +kernel
theorem ef_3 (m : MethodId) (x0 : Addr) : entryFrame m #[(.ref x0)] 1 = mkF m 0 #[.val (.ref x0)] [] := by first | (simp [entryFrame, mkF, argsToLocals, Value.category]; done) | rfl
def Q3 (Z : State) (o0 : Addr) (w_PROLOG : Addr) (h0 : Heap) (n0 : Nat) (v : Option Value) (h : Heap) (L : List Loc) : Prop := v = none ∧ Fr n0 L ∧ Keep h0 h [o0] ∧ Exa Z h o0 "com/example/quire/quire/readers/RootLine" ∧ Fld Z h o0 "com/example/quire/quire/readers/RootLine" "found" "I" (.int (0 : Int32))
set_option maxRecDepth 65536 in
set_option maxHeartbeats 40000000 in
theorem rm3 (l : Launch) (Z : State) (a0 : Array Value) (hw : ∀ d ∈ tables_1, d.before a0 Z = true) (ws : List Jvm.Cond) (o0 : Addr) (w_PROLOG : Addr) (h0 : Heap) (n0 : Nat) (Z0 : n0 ≤ h0.size) (E_o0 : Exa Z h0 o0 "com/example/quire/quire/readers/RootLine") (F_head : Fld Z h0 o0 "com/example/quire/quire/readers/RootLine" "head" "[B" .null) (F_pending : Fld Z h0 o0 "com/example/quire/quire/readers/RootLine" "pending" "I" (.int (0 : Int32))) (F_state : Fld Z h0 o0 "com/example/quire/quire/readers/RootLine" "state" "Lcom/example/quire/quire/readers/RootLine$State;" .null) (F_after : Fld Z h0 o0 "com/example/quire/quire/readers/RootLine" "after" "Lcom/example/quire/quire/readers/RootLine$State;" .null) (F_line : Fld Z h0 o0 "com/example/quire/quire/readers/RootLine" "line" "I" (.int (0 : Int32))) (F_found : Fld Z h0 o0 "com/example/quire/quire/readers/RootLine" "found" "I" (.int (0 : Int32))) (g_o0 : n0 ≤ o0) (S_PROLOG : Sta Z h0 "com/example/quire/quire/readers/RootLine$State" "PROLOG" "Lcom/example/quire/quire/readers/RootLine$State;" (.ref w_PROLOG)) :
    MetFree l (⟨"com/example/quire/quire/readers/RootLine", "<init>", "()V"⟩ : MethodName) (head1 (Jvm.Cond.code (⟨"com/example/quire/quire/readers/RootLine", "<init>", "()V"⟩ : MethodName) prog_54_method_1_code 1 none :: ws) ({ frames := 1, cells := 1, slots := 4, locals := 12 } : Room)) (fun a U => a = #[(.ref o0)] ∧ Z.Warmed39 U.vm ∧ U.heap = h0) (fun _ _ _ _ _ => True) (fun _ U o U' => ∃ v L, o = .returned v ∧ Q3 Z o0 w_PROLOG h0 n0 v U'.heap L ∧ FrameEnd U o U' L ({ frames := 1, cells := 1, slots := 4, locals := 12 } : Room).cells ({ frames := 1, cells := 1, slots := 4, locals := 12 } : Room).slots) := by
  refine MetFree.of_bodySF (plainFor_of_name pn_3) hisR ?_
  intro p e s m args below meth c s₁ Bd hml0 hP hK
  obtain ⟨rfl, hZ, hh⟩ := hP
  have hx := Bd.exec
  have hby := Bd.bytes
  have hml : c.maxLocals = 1 := hml0
  have hown : s.vm.findClass "com/example/quire/quire/readers/RootLine" = some m.cls := findClass_of_methodNamed Bd.named
  have hnm := (name_of_methodNamed Bd.named Bd.method).1
  have X0 : Stand p l e ({ frames := 1, cells := 1, slots := 4, locals := 12 } : Room) s m #[(.ref o0)] below meth c s₁ [] 0 0 := Stand.of_body Bd
  have e0 : s₁.heap = h0 := by rw [← hh, Bd.state]; rfl
  have N0 := Fr.nil n0
  obtain ⟨F, hF⟩ : ∃ F : State → Prop, F = own_Fin p e below s ({ frames := 1, cells := 1, slots := 4, locals := 12 } : Room).cells ({ frames := 1, cells := 1, slots := 4, locals := 12 } : Room).slots (fun v h L => Q3 Z o0 w_PROLOG h0 n0 v h L) := ⟨_, rfl⟩
  have bk : ∀ {A B : State}, (∀ t, Steps p.tables e below B t → Steps p.tables e below A t) → F B → F A := by
    intro A B h k
    rw [hF] at k ⊢
    exact own_back h k
  suffices hgo : F (s₁.setTop (mkF m 0 #[.val (.ref o0)] [])) by
    have hgo' := bk (fun t k => castTop (T := s₁) (ef_3 m o0) k) hgo
    rw [hF] at hgo'
    exact hgo'
  show F (s₁.setTop (mkF m 0 #[.val (.ref o0)] []))
  refine bk (fun t k => XS.aloadN X0.here hx rfl (hb hby d3_0) rfl rfl k) ?_
  show F (s₁.setTop (mkF m 1 #[.val (.ref o0)] [(.ref o0)]))
  obtain ⟨T1, X1, e1, st1⟩ := initO X0 hx hZ hown (hw _ (List.mem_of_getElem? (i := 15) rfl)) (hw _ (List.mem_of_getElem? (i := 7) rfl)) (hw _ (List.mem_of_getElem? (i := 8) rfl)) e0 (g := (mkF m 1 #[.val (.ref o0)] [(.ref o0)])) rfl (by rw [hml]; rfl) rfl (hb hby d3_1) (by decide) (W := 0) (by show 2 * 0 + _ ≤ _; exact Nat.le_of_eq rfl) (by decide)
  refine bk (fun t k => st1 t k) ?_
  show F (T1.setTop (mkF m 4 #[.val (.ref o0)] []))
  refine bk (fun t k => XS.aloadN X1.here hx rfl (hb hby d3_4) rfl rfl k) ?_
  show F (T1.setTop (mkF m 5 #[.val (.ref o0)] [(.ref o0)]))
  refine bk (fun t k => XS.iconst X1.here hx rfl (hb hby d3_5) k) ?_
  show F (T1.setTop (mkF m 6 #[.val (.ref o0)] [(.int (4 : Int32)), (.ref o0)]))
  obtain ⟨T2, h2, k2, X2, e2, E2, A2, st2⟩ := newP X1 hx hZ (hw _ (List.mem_of_getElem? (i := 16) rfl)) e1 (g := (mkF m 6 #[.val (.ref o0)] [(.int (4 : Int32)), (.ref o0)])) rfl (hb hby d3_6) rfl (by decide) (cap := 4) (by decide) (by decide) (by decide) (by decide)
  obtain ⟨b2, g2⟩ : ∃ z, z = h0.size := ⟨_, rfl⟩
  rw [← g2] at A2 st2
  have Gb2 : n0 ≤ b2 := Nat.le_trans Z0 (Nat.le_of_eq g2.symm)
  have sz_b2 : h0.size ≤ b2 := Nat.le_trans (Keep.refl h0 [o0]).1 (Nat.le_of_eq g2.symm)
  have ne_o0_b2 : o0 ≠ b2 := Nat.ne_of_lt (Nat.lt_of_lt_of_le E_o0.lt (Nat.le_of_eq g2.symm))
  have f3 := E_o0.ext E2
  have f4 := Nat.le_trans Z0 E2.1
  have f5 := (Keep.refl h0 [o0]).ext E2
  have f6 := S_PROLOG.ext E2
  have f7 := F_head.ext E2
  have f8 := F_pending.ext E2
  have f9 := F_state.ext E2
  have f10 := F_after.ext E2
  have f11 := F_line.ext E2
  have f12 := F_found.ext E2
  have V_b2 : Arv Z h2 b2 k2 .byte (4 : Int32) [(.int (0 : Int32)), (.int (0 : Int32))] (.int (0 : Int32)) := (Arv.new A2 (by decide)).pad (pad_rep [] (.int (0 : Int32)) 2)
  refine bk (fun t k => st2 t k) ?_
  show F (T2.setTop (mkF m 8 #[.val (.ref o0)] [(.ref b2), (.ref o0)]))
  obtain ⟨T13, h13, X13, e13, W13, st13⟩ := putF X2 hx hZ hown (host := "") (Or.inl (hw _ (List.mem_of_getElem? (i := 17) rfl))) Via.refl e2 f7 f3 (Or.inr ⟨(hw _ (List.mem_of_getElem? (i := 18) rfl)), rfl, hnm⟩) (hw _ (List.mem_of_getElem? (i := 10) rfl)) (ty := (.array .byte)) (by decide) rfl rfl (g := (mkF m 8 #[.val (.ref o0)] [(.ref b2), (.ref o0)])) rfl rfl (hb hby d3_8)
  have f14 := f3.wr W13
  have f15 := Nat.le_trans f4 (Keep.of_wr W13).1
  have f16 := f5.wr W13 (Or.inl (List.mem_of_getElem? (i := 0) rfl))
  have f17 := f6.wr W13
  have f18 := f7.same W13
  have f19 := f8.other W13 (Or.inr (slot_ne (Or.inl (hw _ (List.mem_of_getElem? (i := 20) rfl))) (Or.inr (hw _ (List.mem_of_getElem? (i := 18) rfl))) (by decide) (t := .int) (t' := (.array .byte)) (by decide) (by decide)))
  have f20 := f9.other W13 (Or.inr (slot_ne (Or.inl (hw _ (List.mem_of_getElem? (i := 25) rfl))) (Or.inr (hw _ (List.mem_of_getElem? (i := 18) rfl))) (by decide) (t := (.object "com/example/quire/quire/readers/RootLine$State")) (t' := (.array .byte)) (by decide) (by decide)))
  have f21 := f10.other W13 (Or.inr (slot_ne (Or.inl (hw _ (List.mem_of_getElem? (i := 27) rfl))) (Or.inr (hw _ (List.mem_of_getElem? (i := 18) rfl))) (by decide) (t := (.object "com/example/quire/quire/readers/RootLine$State")) (t' := (.array .byte)) (by decide) (by decide)))
  have f22 := f11.other W13 (Or.inr (slot_ne (Or.inl (hw _ (List.mem_of_getElem? (i := 29) rfl))) (Or.inr (hw _ (List.mem_of_getElem? (i := 18) rfl))) (by decide) (t := .int) (t' := (.array .byte)) (by decide) (by decide)))
  have f23 := f12.other W13 (Or.inr (slot_ne (Or.inl (hw _ (List.mem_of_getElem? (i := 50) rfl))) (Or.inr (hw _ (List.mem_of_getElem? (i := 18) rfl))) (by decide) (t := .int) (t' := (.array .byte)) (by decide) (by decide)))
  have f24 := V_b2.other W13 (Ne.symm ne_o0_b2)
  have N13 := Fr.snoc X13 N0 g_o0
  refine bk (fun t k => st13 t k) ?_
  show F (T13.setTop (mkF m 11 #[.val (.ref o0)] []))
  refine bk (fun t k => XS.aloadN X13.here hx rfl (hb hby d3_11) rfl rfl k) ?_
  show F (T13.setTop (mkF m 12 #[.val (.ref o0)] [(.ref o0)]))
  refine bk (fun t k => XS.iconst X13.here hx rfl (hb hby d3_12) k) ?_
  show F (T13.setTop (mkF m 13 #[.val (.ref o0)] [(.int (-1 : Int32)), (.ref o0)]))
  obtain ⟨T25, h25, X25, e25, W25, st25⟩ := putF X13 hx hZ hown (host := "") (Or.inl (hw _ (List.mem_of_getElem? (i := 19) rfl))) Via.refl e13 f19 f14 (Or.inl (hw _ (List.mem_of_getElem? (i := 20) rfl))) (hw _ (List.mem_of_getElem? (i := 10) rfl)) (ty := .int) (by decide) rfl rfl (g := (mkF m 13 #[.val (.ref o0)] [(.int (-1 : Int32)), (.ref o0)])) rfl rfl (hb hby d3_13)
  have f26 := f14.wr W25
  have f27 := Nat.le_trans f15 (Keep.of_wr W25).1
  have f28 := f16.wr W25 (Or.inl (List.mem_of_getElem? (i := 0) rfl))
  have f29 := f17.wr W25
  have f30 := f18.other W25 (Or.inr (slot_ne (Or.inr (hw _ (List.mem_of_getElem? (i := 18) rfl))) (Or.inl (hw _ (List.mem_of_getElem? (i := 20) rfl))) (by decide) (t := (.array .byte)) (t' := .int) (by decide) (by decide)))
  have f31 := f19.same W25
  have f32 := f20.other W25 (Or.inr (slot_ne (Or.inl (hw _ (List.mem_of_getElem? (i := 25) rfl))) (Or.inl (hw _ (List.mem_of_getElem? (i := 20) rfl))) (by decide) (t := (.object "com/example/quire/quire/readers/RootLine$State")) (t' := .int) (by decide) (by decide)))
  have f33 := f21.other W25 (Or.inr (slot_ne (Or.inl (hw _ (List.mem_of_getElem? (i := 27) rfl))) (Or.inl (hw _ (List.mem_of_getElem? (i := 20) rfl))) (by decide) (t := (.object "com/example/quire/quire/readers/RootLine$State")) (t' := .int) (by decide) (by decide)))
  have f34 := f22.other W25 (Or.inr (slot_ne (Or.inl (hw _ (List.mem_of_getElem? (i := 29) rfl))) (Or.inl (hw _ (List.mem_of_getElem? (i := 20) rfl))) (by decide) (t := .int) (t' := .int) (by decide) (by decide)))
  have f35 := f23.other W25 (Or.inr (slot_ne (Or.inl (hw _ (List.mem_of_getElem? (i := 50) rfl))) (Or.inl (hw _ (List.mem_of_getElem? (i := 20) rfl))) (by decide) (t := .int) (t' := .int) (by decide) (by decide)))
  have f36 := f24.other W25 (Ne.symm ne_o0_b2)
  have N25 := Fr.snoc X25 N13 g_o0
  refine bk (fun t k => st25 t k) ?_
  show F (T25.setTop (mkF m 16 #[.val (.ref o0)] []))
  refine bk (fun t k => XS.aloadN X25.here hx rfl (hb hby d3_16) rfl rfl k) ?_
  show F (T25.setTop (mkF m 17 #[.val (.ref o0)] [(.ref o0)]))
  obtain ⟨T37, X37, e37, st37⟩ := getS2 X25 hx hZ hown (host := "") (Or.inl (hw _ (List.mem_of_getElem? (i := 21) rfl))) Via.refl e25 f29 (g := (mkF m 17 #[.val (.ref o0)] [(.ref o0)])) rfl (hb hby d3_17)
  refine bk (fun t k => st37 t k) ?_
  show F (T37.setTop (mkF m 20 #[.val (.ref o0)] [(.ref w_PROLOG), (.ref o0)]))
  obtain ⟨T38, h38, X38, e38, W38, st38⟩ := putF X37 hx hZ hown (host := "") (Or.inl (hw _ (List.mem_of_getElem? (i := 24) rfl))) Via.refl e37 f32 f26 (Or.inl (hw _ (List.mem_of_getElem? (i := 25) rfl))) (hw _ (List.mem_of_getElem? (i := 10) rfl)) (ty := (.object "com/example/quire/quire/readers/RootLine$State")) (by decide) rfl rfl (g := (mkF m 20 #[.val (.ref o0)] [(.ref w_PROLOG), (.ref o0)])) rfl rfl (hb hby d3_20)
  have f39 := f26.wr W38
  have f40 := Nat.le_trans f27 (Keep.of_wr W38).1
  have f41 := f28.wr W38 (Or.inl (List.mem_of_getElem? (i := 0) rfl))
  have f42 := f29.wr W38
  have f43 := f30.other W38 (Or.inr (slot_ne (Or.inr (hw _ (List.mem_of_getElem? (i := 18) rfl))) (Or.inl (hw _ (List.mem_of_getElem? (i := 25) rfl))) (by decide) (t := (.array .byte)) (t' := (.object "com/example/quire/quire/readers/RootLine$State")) (by decide) (by decide)))
  have f44 := f31.other W38 (Or.inr (slot_ne (Or.inl (hw _ (List.mem_of_getElem? (i := 20) rfl))) (Or.inl (hw _ (List.mem_of_getElem? (i := 25) rfl))) (by decide) (t := .int) (t' := (.object "com/example/quire/quire/readers/RootLine$State")) (by decide) (by decide)))
  have f45 := f32.same W38
  have f46 := f33.other W38 (Or.inr (slot_ne (Or.inl (hw _ (List.mem_of_getElem? (i := 27) rfl))) (Or.inl (hw _ (List.mem_of_getElem? (i := 25) rfl))) (by decide) (t := (.object "com/example/quire/quire/readers/RootLine$State")) (t' := (.object "com/example/quire/quire/readers/RootLine$State")) (by decide) (by decide)))
  have f47 := f34.other W38 (Or.inr (slot_ne (Or.inl (hw _ (List.mem_of_getElem? (i := 29) rfl))) (Or.inl (hw _ (List.mem_of_getElem? (i := 25) rfl))) (by decide) (t := .int) (t' := (.object "com/example/quire/quire/readers/RootLine$State")) (by decide) (by decide)))
  have f48 := f35.other W38 (Or.inr (slot_ne (Or.inl (hw _ (List.mem_of_getElem? (i := 50) rfl))) (Or.inl (hw _ (List.mem_of_getElem? (i := 25) rfl))) (by decide) (t := .int) (t' := (.object "com/example/quire/quire/readers/RootLine$State")) (by decide) (by decide)))
  have f49 := f36.other W38 (Ne.symm ne_o0_b2)
  have N38 := Fr.snoc X38 N25 g_o0
  refine bk (fun t k => st38 t k) ?_
  show F (T38.setTop (mkF m 23 #[.val (.ref o0)] []))
  refine bk (fun t k => XS.aloadN X38.here hx rfl (hb hby d3_23) rfl rfl k) ?_
  show F (T38.setTop (mkF m 24 #[.val (.ref o0)] [(.ref o0)]))
  obtain ⟨T50, X50, e50, st50⟩ := getS2 X38 hx hZ hown (host := "") (Or.inl (hw _ (List.mem_of_getElem? (i := 21) rfl))) Via.refl e38 f42 (g := (mkF m 24 #[.val (.ref o0)] [(.ref o0)])) rfl (hb hby d3_24)
  refine bk (fun t k => st50 t k) ?_
  show F (T50.setTop (mkF m 27 #[.val (.ref o0)] [(.ref w_PROLOG), (.ref o0)]))
  obtain ⟨T51, h51, X51, e51, W51, st51⟩ := putF X50 hx hZ hown (host := "") (Or.inl (hw _ (List.mem_of_getElem? (i := 26) rfl))) Via.refl e50 f46 f39 (Or.inl (hw _ (List.mem_of_getElem? (i := 27) rfl))) (hw _ (List.mem_of_getElem? (i := 10) rfl)) (ty := (.object "com/example/quire/quire/readers/RootLine$State")) (by decide) rfl rfl (g := (mkF m 27 #[.val (.ref o0)] [(.ref w_PROLOG), (.ref o0)])) rfl rfl (hb hby d3_27)
  have f52 := f39.wr W51
  have f53 := Nat.le_trans f40 (Keep.of_wr W51).1
  have f54 := f41.wr W51 (Or.inl (List.mem_of_getElem? (i := 0) rfl))
  have f55 := f42.wr W51
  have f56 := f43.other W51 (Or.inr (slot_ne (Or.inr (hw _ (List.mem_of_getElem? (i := 18) rfl))) (Or.inl (hw _ (List.mem_of_getElem? (i := 27) rfl))) (by decide) (t := (.array .byte)) (t' := (.object "com/example/quire/quire/readers/RootLine$State")) (by decide) (by decide)))
  have f57 := f44.other W51 (Or.inr (slot_ne (Or.inl (hw _ (List.mem_of_getElem? (i := 20) rfl))) (Or.inl (hw _ (List.mem_of_getElem? (i := 27) rfl))) (by decide) (t := .int) (t' := (.object "com/example/quire/quire/readers/RootLine$State")) (by decide) (by decide)))
  have f58 := f45.other W51 (Or.inr (slot_ne (Or.inl (hw _ (List.mem_of_getElem? (i := 25) rfl))) (Or.inl (hw _ (List.mem_of_getElem? (i := 27) rfl))) (by decide) (t := (.object "com/example/quire/quire/readers/RootLine$State")) (t' := (.object "com/example/quire/quire/readers/RootLine$State")) (by decide) (by decide)))
  have f59 := f46.same W51
  have f60 := f47.other W51 (Or.inr (slot_ne (Or.inl (hw _ (List.mem_of_getElem? (i := 29) rfl))) (Or.inl (hw _ (List.mem_of_getElem? (i := 27) rfl))) (by decide) (t := .int) (t' := (.object "com/example/quire/quire/readers/RootLine$State")) (by decide) (by decide)))
  have f61 := f48.other W51 (Or.inr (slot_ne (Or.inl (hw _ (List.mem_of_getElem? (i := 50) rfl))) (Or.inl (hw _ (List.mem_of_getElem? (i := 27) rfl))) (by decide) (t := .int) (t' := (.object "com/example/quire/quire/readers/RootLine$State")) (by decide) (by decide)))
  have f62 := f49.other W51 (Ne.symm ne_o0_b2)
  have N51 := Fr.snoc X51 N38 g_o0
  refine bk (fun t k => st51 t k) ?_
  show F (T51.setTop (mkF m 30 #[.val (.ref o0)] []))
  refine bk (fun t k => XS.aloadN X51.here hx rfl (hb hby d3_30) rfl rfl k) ?_
  show F (T51.setTop (mkF m 31 #[.val (.ref o0)] [(.ref o0)]))
  refine bk (fun t k => XS.iconst X51.here hx rfl (hb hby d3_31) k) ?_
  show F (T51.setTop (mkF m 32 #[.val (.ref o0)] [(.int (1 : Int32)), (.ref o0)]))
  obtain ⟨T63, h63, X63, e63, W63, st63⟩ := putF X51 hx hZ hown (host := "") (Or.inl (hw _ (List.mem_of_getElem? (i := 28) rfl))) Via.refl e51 f60 f52 (Or.inl (hw _ (List.mem_of_getElem? (i := 29) rfl))) (hw _ (List.mem_of_getElem? (i := 10) rfl)) (ty := .int) (by decide) rfl rfl (g := (mkF m 32 #[.val (.ref o0)] [(.int (1 : Int32)), (.ref o0)])) rfl rfl (hb hby d3_32)
  have f64 := f52.wr W63
  have f65 := Nat.le_trans f53 (Keep.of_wr W63).1
  have f66 := f54.wr W63 (Or.inl (List.mem_of_getElem? (i := 0) rfl))
  have f67 := f55.wr W63
  have f68 := f56.other W63 (Or.inr (slot_ne (Or.inr (hw _ (List.mem_of_getElem? (i := 18) rfl))) (Or.inl (hw _ (List.mem_of_getElem? (i := 29) rfl))) (by decide) (t := (.array .byte)) (t' := .int) (by decide) (by decide)))
  have f69 := f57.other W63 (Or.inr (slot_ne (Or.inl (hw _ (List.mem_of_getElem? (i := 20) rfl))) (Or.inl (hw _ (List.mem_of_getElem? (i := 29) rfl))) (by decide) (t := .int) (t' := .int) (by decide) (by decide)))
  have f70 := f58.other W63 (Or.inr (slot_ne (Or.inl (hw _ (List.mem_of_getElem? (i := 25) rfl))) (Or.inl (hw _ (List.mem_of_getElem? (i := 29) rfl))) (by decide) (t := (.object "com/example/quire/quire/readers/RootLine$State")) (t' := .int) (by decide) (by decide)))
  have f71 := f59.other W63 (Or.inr (slot_ne (Or.inl (hw _ (List.mem_of_getElem? (i := 27) rfl))) (Or.inl (hw _ (List.mem_of_getElem? (i := 29) rfl))) (by decide) (t := (.object "com/example/quire/quire/readers/RootLine$State")) (t' := .int) (by decide) (by decide)))
  have f72 := f60.same W63
  have f73 := f61.other W63 (Or.inr (slot_ne (Or.inl (hw _ (List.mem_of_getElem? (i := 50) rfl))) (Or.inl (hw _ (List.mem_of_getElem? (i := 29) rfl))) (by decide) (t := .int) (t' := .int) (by decide) (by decide)))
  have f74 := f62.other W63 (Ne.symm ne_o0_b2)
  have N63 := Fr.snoc X63 N51 g_o0
  refine bk (fun t k => st63 t k) ?_
  show F (T63.setTop (mkF m 35 #[.val (.ref o0)] []))
  rw [hF]
  refine own_ret0 X63 hx Bd.notSynchronized Bd.returns (hb hby d3_35) (by decide) (by decide) ?_
  rw [e63]
  exact ⟨rfl, N63, f66, f64, f73⟩
theorem d1_0 : decode prog_46_method_1_code 0 = .ok (.aload_n 0, 1) := by decide +kernel
theorem d1_1 : decode prog_46_method_1_code 1 = .ok (.invokespecial 1, 3) := by decide +kernel
theorem d1_4 : decode prog_46_method_1_code 4 = .ok (.aload_n 0, 1) := by decide +kernel
theorem d1_5 : decode prog_46_method_1_code 5 = .ok (.new 7, 3) := by decide +kernel
theorem d1_8 : decode prog_46_method_1_code 8 = .ok (.dup, 1) := by decide +kernel
theorem d1_9 : decode prog_46_method_1_code 9 = .ok (.invokespecial 9, 3) := by decide +kernel
theorem d1_12 : decode prog_46_method_1_code 12 = .ok (.putfield 10, 3) := by decide +kernel
theorem d1_15 : decode prog_46_method_1_code 15 = .ok (.aload_n 0, 1) := by decide +kernel
theorem d1_16 : decode prog_46_method_1_code 16 = .ok (.bipush 64, 2) := by decide +kernel
theorem d1_18 : decode prog_46_method_1_code 18 = .ok (.newarray .int, 2) := by decide +kernel
theorem d1_20 : decode prog_46_method_1_code 20 = .ok (.putfield 16, 3) := by decide +kernel
theorem d1_23 : decode prog_46_method_1_code 23 = .ok (.aload_n 0, 1) := by decide +kernel
theorem d1_24 : decode prog_46_method_1_code 24 = .ok (.iconst 1, 1) := by decide +kernel
theorem d1_25 : decode prog_46_method_1_code 25 = .ok (.putfield 20, 3) := by decide +kernel
theorem d1_28 : decode prog_46_method_1_code 28 = .ok (.return_, 1) := by decide +kernel
theorem pd1___V : parseMethodDescriptor "()V" = some ⟨[], none⟩ := by decide +kernel
theorem pn_1 : plainName "com/example/quire/quire/readers/Positions" = true := by first | (simp [plainName, overriddenIn]; done) | decide +kernel
theorem ef_1 (m : MethodId) (x0 : Addr) : entryFrame m #[(.ref x0)] 1 = mkF m 0 #[.val (.ref x0)] [] := by first | (simp [entryFrame, mkF, argsToLocals, Value.category]; done) | rfl
def Q1 (Z : State) (o0 : Addr) (w_PROLOG : Addr) (h0 : Heap) (n0 : Nat) (v : Option Value) (h : Heap) (L : List Loc) : Prop := v = none ∧ Fr n0 L ∧ n0 ≤ h.size ∧ ∃ (rt op : Addr) (kk : ClassId), own_P Z h o0 rt op kk (0 : Int32) (0 : Int32) (1 : Int32) (0 : Int32) (0 : Int32) (0 : Int32) (0 : Int32) ∧ o0 ≠ rt ∧ o0 ≠ op ∧ rt ≠ op ∧ n0 ≤ op
set_option maxRecDepth 65536 in
set_option maxHeartbeats 40000000 in
theorem rm1 (l : Launch) (Z : State) (a0 : Array Value) (hw : ∀ d ∈ tables_1, d.before a0 Z = true) (ws : List Jvm.Cond) (o0 : Addr) (w_PROLOG : Addr) (h0 : Heap) (n0 : Nat) (Z0 : n0 ≤ h0.size) (E_o0 : Exa Z h0 o0 "com/example/quire/quire/readers/Positions") (F_root : Fld Z h0 o0 "com/example/quire/quire/readers/Positions" "root" "Lcom/example/quire/quire/readers/RootLine;" .null) (F_open : Fld Z h0 o0 "com/example/quire/quire/readers/Positions" "open" "[I" .null) (F_rootSeen : Fld Z h0 o0 "com/example/quire/quire/readers/Positions" "rootSeen" "Z" (.int (0 : Int32))) (F_entities : Fld Z h0 o0 "com/example/quire/quire/readers/Positions" "entities" "I" (.int (0 : Int32))) (F_before : Fld Z h0 o0 "com/example/quire/quire/readers/Positions" "before" "I" (.int (0 : Int32))) (F_referenceLine : Fld Z h0 o0 "com/example/quire/quire/readers/Positions" "referenceLine" "I" (.int (0 : Int32))) (F_depth : Fld Z h0 o0 "com/example/quire/quire/readers/Positions" "depth" "I" (.int (0 : Int32))) (g_o0 : n0 ≤ o0) (S_PROLOG : Sta Z h0 "com/example/quire/quire/readers/RootLine$State" "PROLOG" "Lcom/example/quire/quire/readers/RootLine$State;" (.ref w_PROLOG)) :
    MetFree l (⟨"com/example/quire/quire/readers/Positions", "<init>", "()V"⟩ : MethodName) (head1 (Jvm.Cond.code (⟨"com/example/quire/quire/readers/Positions", "<init>", "()V"⟩ : MethodName) prog_46_method_1_code 1 none :: ws) ({ frames := 2, cells := 3, slots := 80, locals := 26 } : Room)) (fun a U => a = #[(.ref o0)] ∧ Z.Warmed39 U.vm ∧ U.heap = h0) (fun _ _ _ _ _ => True) (fun _ U o U' => ∃ v L, o = .returned v ∧ Q1 Z o0 w_PROLOG h0 n0 v U'.heap L ∧ FrameEnd U o U' L ({ frames := 2, cells := 3, slots := 80, locals := 26 } : Room).cells ({ frames := 2, cells := 3, slots := 80, locals := 26 } : Room).slots) := by
  refine MetFree.of_bodySF (plainFor_of_name pn_1) hisR ?_
  intro p e s m args below meth c s₁ Bd hml0 hP hK
  obtain ⟨rfl, hZ, hh⟩ := hP
  have hx := Bd.exec
  have hby := Bd.bytes
  have hml : c.maxLocals = 1 := hml0
  have hown : s.vm.findClass "com/example/quire/quire/readers/Positions" = some m.cls := findClass_of_methodNamed Bd.named
  have hnm := (name_of_methodNamed Bd.named Bd.method).1
  have X0 : Stand p l e ({ frames := 2, cells := 3, slots := 80, locals := 26 } : Room) s m #[(.ref o0)] below meth c s₁ [] 0 0 := Stand.of_body Bd
  have e0 : s₁.heap = h0 := by rw [← hh, Bd.state]; rfl
  have N0 := Fr.nil n0
  obtain ⟨F, hF⟩ : ∃ F : State → Prop, F = own_Fin p e below s ({ frames := 2, cells := 3, slots := 80, locals := 26 } : Room).cells ({ frames := 2, cells := 3, slots := 80, locals := 26 } : Room).slots (fun v h L => Q1 Z o0 w_PROLOG h0 n0 v h L) := ⟨_, rfl⟩
  have bk : ∀ {A B : State}, (∀ t, Steps p.tables e below B t → Steps p.tables e below A t) → F B → F A := by
    intro A B h k
    rw [hF] at k ⊢
    exact own_back h k
  suffices hgo : F (s₁.setTop (mkF m 0 #[.val (.ref o0)] [])) by
    have hgo' := bk (fun t k => castTop (T := s₁) (ef_1 m o0) k) hgo
    rw [hF] at hgo'
    exact hgo'
  show F (s₁.setTop (mkF m 0 #[.val (.ref o0)] []))
  refine bk (fun t k => XS.aloadN X0.here hx rfl (hb hby d1_0) rfl rfl k) ?_
  show F (s₁.setTop (mkF m 1 #[.val (.ref o0)] [(.ref o0)]))
  obtain ⟨T1, X1, e1, st1⟩ := initO X0 hx hZ hown (hw _ (List.mem_of_getElem? (i := 6) rfl)) (hw _ (List.mem_of_getElem? (i := 7) rfl)) (hw _ (List.mem_of_getElem? (i := 8) rfl)) e0 (g := (mkF m 1 #[.val (.ref o0)] [(.ref o0)])) rfl (by rw [hml]; rfl) rfl (hb hby d1_1) (by decide) (W := 0) (by show 2 * 0 + _ ≤ _; exact Nat.le_of_eq rfl) (by decide)
  refine bk (fun t k => st1 t k) ?_
  show F (T1.setTop (mkF m 4 #[.val (.ref o0)] []))
  refine bk (fun t k => XS.aloadN X1.here hx rfl (hb hby d1_4) rfl rfl k) ?_
  show F (T1.setTop (mkF m 5 #[.val (.ref o0)] [(.ref o0)]))
  obtain ⟨T2, h2, X2, e2, E2, A2, D2, -, st2⟩ := newO X1 hx hZ hown (hw _ (List.mem_of_getElem? (i := 9) rfl)) (hw _ (List.mem_of_getElem? (i := 10) rfl)) (hw _ (List.mem_of_getElem? (i := 11) rfl)) e1 (g := (mkF m 5 #[.val (.ref o0)] [(.ref o0)])) rfl (hb hby d1_5) (by decide) (by decide)
  obtain ⟨b2, g2⟩ : ∃ z, z = h0.size := ⟨_, rfl⟩
  rw [← g2] at A2 D2 st2
  have Gb2 : n0 ≤ b2 := Nat.le_trans Z0 (Nat.le_of_eq g2.symm)
  have ne_o0_b2 : o0 ≠ b2 := Nat.ne_of_lt (Nat.lt_of_lt_of_le E_o0.lt (Nat.le_of_eq g2.symm))
  have f3 := E_o0.ext E2
  have f4 := Nat.le_trans Z0 E2.1
  have f5 := S_PROLOG.ext E2
  have f6 := F_root.ext E2
  have f7 := F_open.ext E2
  have f8 := F_rootSeen.ext E2
  have f9 := F_entities.ext E2
  have f10 := F_before.ext E2
  have f11 := F_referenceLine.ext E2
  have f12 := F_depth.ext E2
  have F_head_b2 : Fld Z h2 b2 "com/example/quire/quire/readers/RootLine" "head" "[B" .null := D2 (Or.inr (hw _ (List.mem_of_getElem? (i := 18) rfl))) (ty := (.array .byte)) (by decide)
  have F_pending_b2 : Fld Z h2 b2 "com/example/quire/quire/readers/RootLine" "pending" "I" (.int (0 : Int32)) := D2 (Or.inl (hw _ (List.mem_of_getElem? (i := 20) rfl))) (ty := .int) (by decide)
  have F_state_b2 : Fld Z h2 b2 "com/example/quire/quire/readers/RootLine" "state" "Lcom/example/quire/quire/readers/RootLine$State;" .null := D2 (Or.inl (hw _ (List.mem_of_getElem? (i := 25) rfl))) (ty := (.object "com/example/quire/quire/readers/RootLine$State")) (by decide)
  have F_after_b2 : Fld Z h2 b2 "com/example/quire/quire/readers/RootLine" "after" "Lcom/example/quire/quire/readers/RootLine$State;" .null := D2 (Or.inl (hw _ (List.mem_of_getElem? (i := 27) rfl))) (ty := (.object "com/example/quire/quire/readers/RootLine$State")) (by decide)
  have F_line_b2 : Fld Z h2 b2 "com/example/quire/quire/readers/RootLine" "line" "I" (.int (0 : Int32)) := D2 (Or.inl (hw _ (List.mem_of_getElem? (i := 29) rfl))) (ty := .int) (by decide)
  have F_found_b2 : Fld Z h2 b2 "com/example/quire/quire/readers/RootLine" "found" "I" (.int (0 : Int32)) := D2 (Or.inl (hw _ (List.mem_of_getElem? (i := 50) rfl))) (ty := .int) (by decide)
  refine bk (fun t k => st2 t k) ?_
  show F (T2.setTop (mkF m 8 #[.val (.ref o0)] [(.ref b2), (.ref o0)]))
  refine bk (fun t k => XS.dup X2.here hx rfl (hb hby d1_8) rfl rfl k) ?_
  show F (T2.setTop (mkF m 9 #[.val (.ref o0)] [(.ref b2), (.ref b2), (.ref o0)]))
  obtain ⟨_, _, ⟨T13, L13, k13, n13⟩, -, X13, ⟨Lc13, hQ13, l13, y13, z13⟩, st13⟩ := X2.specialBack hx (y := (⟨"com/example/quire/quire/readers/RootLine", "<init>", "()V"⟩ : MethodName)) rfl hown (mvT hZ (hw _ (List.mem_of_getElem? (i := 12) rfl))) (mvT hZ (hw _ (List.mem_of_getElem? (i := 13) rfl))) (mvT hZ (hw _ (List.mem_of_getElem? (i := 14) rfl))) (by decide) (backOf (W := 2) (rm3 l Z a0 hw [] b2 w_PROLOG h2 n0 f4 A2 F_head_b2 F_pending_b2 F_state_b2 F_after_b2 F_line_b2 F_found_b2 Gb2 f5) hZ (hw _ (List.mem_of_getElem? (i := 14) rfl)) (hw _ (List.mem_of_getElem? (i := 11) rfl)) (by decide) (by decide)) (g := (mkF m 9 #[.val (.ref o0)] [(.ref b2), (.ref b2), (.ref o0)])) rfl (by rw [hml]; rfl) (Steps.refl _) (a := b2) (argsL := []) (rest := [(.ref b2), (.ref o0)]) (lenOf pd1___V rfl) rfl (by show 2 * 0 + _ ≤ _; exact Nat.le_of_eq rfl) (hb hby d1_9) (fun _ _ => ⟨rfl, e2, (by decide : 1 + 1 ≤ _), (by decide : 12 + 4 ≤ _)⟩)
  dsimp only [Pt.U, Pt.locs, Pt.cells, Pt.slots] at X13 l13 y13 z13 st13 hQ13
  subst l13 y13 z13
  obtain ⟨rfl, N13q, K13, gE13, gF13⟩ := hQ13
  have N13 := Fr.app N0 N13q
  have f14 := f3.keep K13
  have f15 := Nat.le_trans f4 K13.1
  have f16 := f6.keep K13 (ninS ne_o0_b2 nin0)
  have f17 := f7.keep K13 (ninS ne_o0_b2 nin0)
  have f18 := f8.keep K13 (ninS ne_o0_b2 nin0)
  have f19 := f9.keep K13 (ninS ne_o0_b2 nin0)
  have f20 := f10.keep K13 (ninS ne_o0_b2 nin0)
  have f21 := f11.keep K13 (ninS ne_o0_b2 nin0)
  have f22 := f12.keep K13 (ninS ne_o0_b2 nin0)
  have f23 := A2.keep K13
  refine bk (fun t k => st13.trans k) ?_
  show F (T13.setTop (mkF m 12 #[.val (.ref o0)] [(.ref b2), (.ref o0)]))
  obtain ⟨T24, h24, X24, e24, W24, st24⟩ := putF X13 hx hZ hown (host := "") (Or.inl (hw _ (List.mem_of_getElem? (i := 30) rfl))) Via.refl rfl f16 f14 (Or.inr ⟨(hw _ (List.mem_of_getElem? (i := 31) rfl)), rfl, hnm⟩) (hw _ (List.mem_of_getElem? (i := 1) rfl)) (ty := (.object "com/example/quire/quire/readers/RootLine")) (by decide) rfl rfl (g := (mkF m 12 #[.val (.ref o0)] [(.ref b2), (.ref o0)])) rfl rfl (hb hby d1_12)
  have f25 := f14.wr W24
  have f26 := Nat.le_trans f15 (Keep.of_wr W24).1
  have f27 := f16.same W24
  have f28 := f17.other W24 (Or.inr (slot_ne (Or.inl (hw _ (List.mem_of_getElem? (i := 34) rfl))) (Or.inr (hw _ (List.mem_of_getElem? (i := 31) rfl))) (by decide) (t := (.array .int)) (t' := (.object "com/example/quire/quire/readers/RootLine")) (by decide) (by decide)))
  have f29 := f18.other W24 (Or.inr (slot_ne (Or.inl (hw _ (List.mem_of_getElem? (i := 43) rfl))) (Or.inr (hw _ (List.mem_of_getElem? (i := 31) rfl))) (by decide) (t := .boolean) (t' := (.object "com/example/quire/quire/readers/RootLine")) (by decide) (by decide)))
  have f30 := f19.other W24 (Or.inr (slot_ne (Or.inl (hw _ (List.mem_of_getElem? (i := 64) rfl))) (Or.inr (hw _ (List.mem_of_getElem? (i := 31) rfl))) (by decide) (t := .int) (t' := (.object "com/example/quire/quire/readers/RootLine")) (by decide) (by decide)))
  have f31 := f20.other W24 (Or.inr (slot_ne (Or.inl (hw _ (List.mem_of_getElem? (i := 36) rfl))) (Or.inr (hw _ (List.mem_of_getElem? (i := 31) rfl))) (by decide) (t := .int) (t' := (.object "com/example/quire/quire/readers/RootLine")) (by decide) (by decide)))
  have f32 := f21.other W24 (Or.inr (slot_ne (Or.inl (hw _ (List.mem_of_getElem? (i := 66) rfl))) (Or.inr (hw _ (List.mem_of_getElem? (i := 31) rfl))) (by decide) (t := .int) (t' := (.object "com/example/quire/quire/readers/RootLine")) (by decide) (by decide)))
  have f33 := f22.other W24 (Or.inr (slot_ne (Or.inl (hw _ (List.mem_of_getElem? (i := 52) rfl))) (Or.inr (hw _ (List.mem_of_getElem? (i := 31) rfl))) (by decide) (t := .int) (t' := (.object "com/example/quire/quire/readers/RootLine")) (by decide) (by decide)))
  have f34 := gE13.wr W24
  have f35 := gF13.other W24 (Or.inl (Ne.symm ne_o0_b2))
  have N24 := Fr.snoc X24 N13 g_o0
  refine bk (fun t k => st24 t k) ?_
  show F (T24.setTop (mkF m 15 #[.val (.ref o0)] []))
  refine bk (fun t k => XS.aloadN X24.here hx rfl (hb hby d1_15) rfl rfl k) ?_
  show F (T24.setTop (mkF m 16 #[.val (.ref o0)] [(.ref o0)]))
  refine bk (fun t k => XS.bipush X24.here hx rfl (hb hby d1_16) k) ?_
  show F (T24.setTop (mkF m 18 #[.val (.ref o0)] [(.int (64 : Int32)), (.ref o0)]))
  obtain ⟨T36, h36, k36, X36, e36, E36, A36, st36⟩ := newP X24 hx hZ (hw _ (List.mem_of_getElem? (i := 32) rfl)) e24 (g := (mkF m 18 #[.val (.ref o0)] [(.int (64 : Int32)), (.ref o0)])) rfl (hb hby d1_18) rfl (by decide) (cap := 64) (by decide) (by decide) (by decide) (by decide)
  obtain ⟨b36, g36⟩ : ∃ z, z = h24.size := ⟨_, rfl⟩
  rw [← g36] at A36 st36
  have Gb36 : n0 ≤ b36 := Nat.le_trans f26 (Nat.le_of_eq g36.symm)
  have ne_o0_b36 : o0 ≠ b36 := Nat.ne_of_lt (Nat.lt_of_lt_of_le f25.lt (Nat.le_of_eq g36.symm))
  have ne_b2_b36 : b2 ≠ b36 := Nat.ne_of_lt (Nat.lt_of_lt_of_le f34.lt (Nat.le_of_eq g36.symm))
  have f37 := f25.ext E36
  have f38 := Nat.le_trans f26 E36.1
  have f39 := f27.ext E36
  have f40 := f28.ext E36
  have f41 := f29.ext E36
  have f42 := f30.ext E36
  have f43 := f31.ext E36
  have f44 := f32.ext E36
  have f45 := f33.ext E36
  have f46 := f34.ext E36
  have f47 := f35.ext E36
  have V_b36 : Arv Z h36 b36 k36 .int (64 : Int32) [(.int (0 : Int32)), (.int (0 : Int32))] (.int (0 : Int32)) := (Arv.new A36 (by decide)).pad (pad_rep [] (.int (0 : Int32)) 2)
  refine bk (fun t k => st36 t k) ?_
  show F (T36.setTop (mkF m 20 #[.val (.ref o0)] [(.ref b36), (.ref o0)]))
  obtain ⟨T48, h48, X48, e48, W48, st48⟩ := putF X36 hx hZ hown (host := "") (Or.inl (hw _ (List.mem_of_getElem? (i := 33) rfl))) Via.refl e36 f40 f37 (Or.inl (hw _ (List.mem_of_getElem? (i := 34) rfl))) (hw _ (List.mem_of_getElem? (i := 1) rfl)) (ty := (.array .int)) (by decide) rfl rfl (g := (mkF m 20 #[.val (.ref o0)] [(.ref b36), (.ref o0)])) rfl rfl (hb hby d1_20)
  have f49 := f37.wr W48
  have f50 := Nat.le_trans f38 (Keep.of_wr W48).1
  have f51 := f39.other W48 (Or.inr (slot_ne (Or.inr (hw _ (List.mem_of_getElem? (i := 31) rfl))) (Or.inl (hw _ (List.mem_of_getElem? (i := 34) rfl))) (by decide) (t := (.object "com/example/quire/quire/readers/RootLine")) (t' := (.array .int)) (by decide) (by decide)))
  have f52 := f40.same W48
  have f53 := f41.other W48 (Or.inr (slot_ne (Or.inl (hw _ (List.mem_of_getElem? (i := 43) rfl))) (Or.inl (hw _ (List.mem_of_getElem? (i := 34) rfl))) (by decide) (t := .boolean) (t' := (.array .int)) (by decide) (by decide)))
  have f54 := f42.other W48 (Or.inr (slot_ne (Or.inl (hw _ (List.mem_of_getElem? (i := 64) rfl))) (Or.inl (hw _ (List.mem_of_getElem? (i := 34) rfl))) (by decide) (t := .int) (t' := (.array .int)) (by decide) (by decide)))
  have f55 := f43.other W48 (Or.inr (slot_ne (Or.inl (hw _ (List.mem_of_getElem? (i := 36) rfl))) (Or.inl (hw _ (List.mem_of_getElem? (i := 34) rfl))) (by decide) (t := .int) (t' := (.array .int)) (by decide) (by decide)))
  have f56 := f44.other W48 (Or.inr (slot_ne (Or.inl (hw _ (List.mem_of_getElem? (i := 66) rfl))) (Or.inl (hw _ (List.mem_of_getElem? (i := 34) rfl))) (by decide) (t := .int) (t' := (.array .int)) (by decide) (by decide)))
  have f57 := f45.other W48 (Or.inr (slot_ne (Or.inl (hw _ (List.mem_of_getElem? (i := 52) rfl))) (Or.inl (hw _ (List.mem_of_getElem? (i := 34) rfl))) (by decide) (t := .int) (t' := (.array .int)) (by decide) (by decide)))
  have f58 := f46.wr W48
  have f59 := f47.other W48 (Or.inl (Ne.symm ne_o0_b2))
  have f60 := V_b36.other W48 (Ne.symm ne_o0_b36)
  have N48 := Fr.snoc X48 N24 g_o0
  refine bk (fun t k => st48 t k) ?_
  show F (T48.setTop (mkF m 23 #[.val (.ref o0)] []))
  refine bk (fun t k => XS.aloadN X48.here hx rfl (hb hby d1_23) rfl rfl k) ?_
  show F (T48.setTop (mkF m 24 #[.val (.ref o0)] [(.ref o0)]))
  refine bk (fun t k => XS.iconst X48.here hx rfl (hb hby d1_24) k) ?_
  show F (T48.setTop (mkF m 25 #[.val (.ref o0)] [(.int (1 : Int32)), (.ref o0)]))
  obtain ⟨T61, h61, X61, e61, W61, st61⟩ := putF X48 hx hZ hown (host := "") (Or.inl (hw _ (List.mem_of_getElem? (i := 35) rfl))) Via.refl e48 f55 f49 (Or.inl (hw _ (List.mem_of_getElem? (i := 36) rfl))) (hw _ (List.mem_of_getElem? (i := 1) rfl)) (ty := .int) (by decide) rfl rfl (g := (mkF m 25 #[.val (.ref o0)] [(.int (1 : Int32)), (.ref o0)])) rfl rfl (hb hby d1_25)
  have f62 := f49.wr W61
  have f63 := Nat.le_trans f50 (Keep.of_wr W61).1
  have f64 := f51.other W61 (Or.inr (slot_ne (Or.inr (hw _ (List.mem_of_getElem? (i := 31) rfl))) (Or.inl (hw _ (List.mem_of_getElem? (i := 36) rfl))) (by decide) (t := (.object "com/example/quire/quire/readers/RootLine")) (t' := .int) (by decide) (by decide)))
  have f65 := f52.other W61 (Or.inr (slot_ne (Or.inl (hw _ (List.mem_of_getElem? (i := 34) rfl))) (Or.inl (hw _ (List.mem_of_getElem? (i := 36) rfl))) (by decide) (t := (.array .int)) (t' := .int) (by decide) (by decide)))
  have f66 := f53.other W61 (Or.inr (slot_ne (Or.inl (hw _ (List.mem_of_getElem? (i := 43) rfl))) (Or.inl (hw _ (List.mem_of_getElem? (i := 36) rfl))) (by decide) (t := .boolean) (t' := .int) (by decide) (by decide)))
  have f67 := f54.other W61 (Or.inr (slot_ne (Or.inl (hw _ (List.mem_of_getElem? (i := 64) rfl))) (Or.inl (hw _ (List.mem_of_getElem? (i := 36) rfl))) (by decide) (t := .int) (t' := .int) (by decide) (by decide)))
  have f68 := f55.same W61
  have f69 := f56.other W61 (Or.inr (slot_ne (Or.inl (hw _ (List.mem_of_getElem? (i := 66) rfl))) (Or.inl (hw _ (List.mem_of_getElem? (i := 36) rfl))) (by decide) (t := .int) (t' := .int) (by decide) (by decide)))
  have f70 := f57.other W61 (Or.inr (slot_ne (Or.inl (hw _ (List.mem_of_getElem? (i := 52) rfl))) (Or.inl (hw _ (List.mem_of_getElem? (i := 36) rfl))) (by decide) (t := .int) (t' := .int) (by decide) (by decide)))
  have f71 := f58.wr W61
  have f72 := f59.other W61 (Or.inl (Ne.symm ne_o0_b2))
  have f73 := f60.other W61 (Ne.symm ne_o0_b36)
  have N61 := Fr.snoc X61 N48 g_o0
  refine bk (fun t k => st61 t k) ?_
  show F (T61.setTop (mkF m 28 #[.val (.ref o0)] []))
  rw [hF]
  refine own_ret0 X61 hx Bd.notSynchronized Bd.returns (hb hby d1_28) (by decide) (by decide) ?_
  rw [e61]
  exact ⟨rfl, N61, f63, b2, b36, _, ⟨f62, f64, f65, f66, f67, f68, f69, f70, f71, f72, f73⟩, ne_o0_b2, ne_o0_b36, ne_b2_b36, Gb36⟩
theorem pd0__I_I : parseMethodDescriptor "(I)I" = some ⟨[.int], some .int⟩ := by decide +kernel
theorem pd0__I_V : parseMethodDescriptor "(I)V" = some ⟨[.int], none⟩ := by decide +kernel
theorem pd0___V : parseMethodDescriptor "()V" = some ⟨[], none⟩ := by decide +kernel
theorem pn_0 : plainName "com/example/quire/quire/readers/PositionsEndEntityPinLaw" = true := by first | (simp [plainName, overriddenIn]; done) | decide +kernel
theorem ef_0 (m : MethodId) (x0 : Int32) (x1 : Int32) (x2 : Int32) (x3 : Int32) (x4 : Int32) : entryFrame m #[(.int x0), (.int x1), (.int x2), (.int x3), (.int x4)] maxLocals = mkF m 0 #[.val (.int x0), .val (.int x1), .val (.int x2), .val (.int x3), .val (.int x4), .unset, .unset, .unset, .unset, .unset, .unset, .unset, .unset] [] := by first | (simp [entryFrame, mkF, argsToLocals, Value.category, maxLocals]; done) | rfl
def Q0 (Z : State) (p0 : Int32) (p1 : Int32) (p2 : Int32) (p3 : Int32) (p4 : Int32) (w_PROLOG : Addr) (h0 : Heap) (n0 : Nat) (v : Option Value) (h : Heap) (L : List Loc) : Prop := v = some (.int (1 : Int32)) ∧ Fr n0 L
set_option maxRecDepth 65536 in
set_option maxHeartbeats 40000000 in
theorem rm0 (l : Launch) (Z : State) (a0 : Array Value) (hw : ∀ d ∈ tables_1, d.before a0 Z = true) (ws : List Jvm.Cond) (p0 : Int32) (p1 : Int32) (p2 : Int32) (p3 : Int32) (p4 : Int32) (w_PROLOG : Addr) (h0 : Heap) (n0 : Nat) (Z0 : n0 ≤ h0.size) (S_PROLOG : Sta Z h0 "com/example/quire/quire/readers/RootLine$State" "PROLOG" "Lcom/example/quire/quire/readers/RootLine$State;" (.ref w_PROLOG)) :
    MetFree l x (head1 (Jvm.Cond.code x code maxLocals ret :: ws) room_1) (fun a U => a = #[(.int p0), (.int p1), (.int p2), (.int p3), (.int p4)] ∧ Z.Warmed39 U.vm ∧ U.heap = h0) (fun _ _ _ _ _ => True) (fun _ U o U' => ∃ v L, o = .returned v ∧ Q0 Z p0 p1 p2 p3 p4 w_PROLOG h0 n0 v U'.heap L ∧ FrameEnd U o U' L room_1.cells room_1.slots) := by
  refine MetFree.of_bodySF (plainFor_of_name pn_0) hisR ?_
  intro p e s m args below meth c s₁ Bd hml0 hP hK
  obtain ⟨rfl, hZ, hh⟩ := hP
  have hx := Bd.exec
  have hby := Bd.bytes
  have hml : c.maxLocals = 13 := hml0
  have hown : s.vm.findClass "com/example/quire/quire/readers/PositionsEndEntityPinLaw" = some m.cls := findClass_of_methodNamed Bd.named
  have hnm := (name_of_methodNamed Bd.named Bd.method).1
  have X0 : Stand p l e room_1 s m #[(.int p0), (.int p1), (.int p2), (.int p3), (.int p4)] below meth c s₁ [] 0 0 := Stand.of_body Bd
  have e0 : s₁.heap = h0 := by rw [← hh, Bd.state]; rfl
  have N0 := Fr.nil n0
  obtain ⟨F, hF⟩ : ∃ F : State → Prop, F = own_Fin p e below s room_1.cells room_1.slots (fun v h L => Q0 Z p0 p1 p2 p3 p4 w_PROLOG h0 n0 v h L) := ⟨_, rfl⟩
  have bk : ∀ {A B : State}, (∀ t, Steps p.tables e below B t → Steps p.tables e below A t) → F B → F A := by
    intro A B h k
    rw [hF] at k ⊢
    exact own_back h k
  suffices hgo : F (s₁.setTop (mkF m 0 #[.val (.int p0), .val (.int p1), .val (.int p2), .val (.int p3), .val (.int p4), .unset, .unset, .unset, .unset, .unset, .unset, .unset, .unset] [])) by
    have hgo' := bk (fun t k => castTop (T := s₁) (ef_0 m p0 p1 p2 p3 p4) k) hgo
    rw [hF] at hgo'
    exact hgo'
  have w_0 := hw _ (List.mem_of_getElem? (i := 0) rfl)
  have w_1 := hw _ (List.mem_of_getElem? (i := 1) rfl)
  have w_2 := hw _ (List.mem_of_getElem? (i := 2) rfl)
  have w_3 := hw _ (List.mem_of_getElem? (i := 3) rfl)
  have w_4 := hw _ (List.mem_of_getElem? (i := 4) rfl)
  have w_5 := hw _ (List.mem_of_getElem? (i := 5) rfl)
  have w_31 := hw _ (List.mem_of_getElem? (i := 31) rfl)
  have w_34 := hw _ (List.mem_of_getElem? (i := 34) rfl)
  have w_36 := hw _ (List.mem_of_getElem? (i := 36) rfl)
  have w_37 := hw _ (List.mem_of_getElem? (i := 37) rfl)
  have w_38 := hw _ (List.mem_of_getElem? (i := 38) rfl)
  have w_39 := hw _ (List.mem_of_getElem? (i := 39) rfl)
  have w_40 := hw _ (List.mem_of_getElem? (i := 40) rfl)
  have w_41 := hw _ (List.mem_of_getElem? (i := 41) rfl)
  have w_43 := hw _ (List.mem_of_getElem? (i := 43) rfl)
  have w_52 := hw _ (List.mem_of_getElem? (i := 52) rfl)
  have w_53 := hw _ (List.mem_of_getElem? (i := 53) rfl)
  have w_54 := hw _ (List.mem_of_getElem? (i := 54) rfl)
  have w_55 := hw _ (List.mem_of_getElem? (i := 55) rfl)
  have w_56 := hw _ (List.mem_of_getElem? (i := 56) rfl)
  have w_57 := hw _ (List.mem_of_getElem? (i := 57) rfl)
  have w_58 := hw _ (List.mem_of_getElem? (i := 58) rfl)
  have w_59 := hw _ (List.mem_of_getElem? (i := 59) rfl)
  have w_60 := hw _ (List.mem_of_getElem? (i := 60) rfl)
  have w_61 := hw _ (List.mem_of_getElem? (i := 61) rfl)
  have w_62 := hw _ (List.mem_of_getElem? (i := 62) rfl)
  have w_64 := hw _ (List.mem_of_getElem? (i := 64) rfl)
  have w_66 := hw _ (List.mem_of_getElem? (i := 66) rfl)
  have w_67 := hw _ (List.mem_of_getElem? (i := 67) rfl)
  have w_68 := hw _ (List.mem_of_getElem? (i := 68) rfl)
  have w_69 := hw _ (List.mem_of_getElem? (i := 69) rfl)
  have w_70 := hw _ (List.mem_of_getElem? (i := 70) rfl)
  have w_71 := hw _ (List.mem_of_getElem? (i := 71) rfl)
  have J66 : ∀ (TJ : State) (LJ : List Loc) (hJ : Heap) (XJ : Stand p l e room_1 s m #[(.int p0), (.int p1), (.int p2), (.int p3), (.int p4)] below meth c TJ LJ 4 87) (eJ : TJ.heap = hJ) (NJ : Fr n0 LJ) (n5 : Int32) (c6 : Int32) (r7 : Int32) (pp : Addr) (rt : Addr) (op : Addr) (kk : ClassId) (rf : Int32) (jZ : n0 ≤ hJ.size) (jP : own_P Z hJ pp rt op kk (0 : Int32) (0 : Int32) (1 : Int32) rf (0 : Int32) (0 : Int32) (0 : Int32)) (g_pp : n0 ≤ pp) (g_op : n0 ≤ op) (ne_p_rt : pp ≠ rt) (ne_p_op : pp ≠ op) (ne_rt_op : rt ≠ op), F (TJ.setTop (mkF m 66 #[.val (.int p0), .val (.int p1), .val (.int p2), .val (.int p3), .val (.int p4), .val (.int n5), .val (.int c6), .val (.int r7), .val (.ref pp), .unset, .unset, .unset, .unset] [])) := by
    intro TJ LJ hJ XJ eJ NJ n5 c6 r7 pp rt op kk rf jZ jP g_pp g_op ne_p_rt ne_p_op ne_rt_op
    show F (TJ.setTop (mkF m 66 #[.val (.int p0), .val (.int p1), .val (.int p2), .val (.int p3), .val (.int p4), .val (.int n5), .val (.int c6), .val (.int r7), .val (.ref pp), .unset, .unset, .unset, .unset] []))
    refine bk (fun t k => XS.aload XJ.here hx rfl (hb hby at_66) rfl rfl k) ?_
    show F (TJ.setTop (mkF m 68 #[.val (.int p0), .val (.int p1), .val (.int p2), .val (.int p3), .val (.int p4), .val (.int n5), .val (.int c6), .val (.int r7), .val (.ref pp), .unset, .unset, .unset, .unset] [(.ref pp)]))
    refine bk (fun t k => XS.iloadN XJ.here hx rfl (hb hby at_68) rfl k) ?_
    show F (TJ.setTop (mkF m 69 #[.val (.int p0), .val (.int p1), .val (.int p2), .val (.int p3), .val (.int p4), .val (.int n5), .val (.int c6), .val (.int r7), .val (.ref pp), .unset, .unset, .unset, .unset] [(.int p0), (.ref pp)]))
    obtain ⟨cq1, kq1, q1a, q1b, q1c⟩ := isOf hZ eJ (jP.1)
    obtain ⟨_, _, ⟨T1, L1, k1, n1⟩, -, X1, ⟨Lc1, hQ1, l1, y1, z1⟩, st1⟩ := XJ.virtualBack hx (y := (⟨"com/example/quire/quire/readers/Positions", "start", "(I)I"⟩ : MethodName)) (z := (⟨"com/example/quire/quire/readers/Positions", "start", "(I)I"⟩ : MethodName)) hown (mvT hZ w_37) (mvT hZ w_38) (notFace_of_selects (args := #[]) (mvT hZ w_40)) (mvT hZ w_40) (mvT hZ w_39) (by decide) (backOf (W := 0) (rm4a l Z a0 hw [] pp p0 rt op kk (1 : Int32) rf (0 : Int32) (0 : Int32) hJ n0 jZ jP g_pp g_op ne_p_rt ne_p_op ne_rt_op) hZ w_41 w_2 (by decide) (by decide)) q1a q1c (g := (mkF m 69 #[.val (.int p0), .val (.int p1), .val (.int p2), .val (.int p3), .val (.int p4), .val (.int n5), .val (.int c6), .val (.int r7), .val (.ref pp), .unset, .unset, .unset, .unset] [(.int p0), (.ref pp)])) rfl (by rw [hml]; rfl) (Steps.refl _) (argsL := [(.int p0)]) (rest := []) (lenOf pd0__I_I rfl) rfl (by show 2 * 0 + _ ≤ _; exact Nat.le_of_eq rfl) (hb hby at_69) (fun _ _ => ⟨rfl, eJ, (by decide : 4 + 0 ≤ _), (by decide : 87 + 0 ≤ _)⟩)
    dsimp only [Pt.U, Pt.locs, Pt.cells, Pt.slots] at X1 l1 y1 z1 st1 hQ1
    subst l1 y1 z1
    obtain ⟨rfl, N1q, gZ1, gP1⟩ := hQ1
    have N1 := Fr.app NJ N1q
    refine bk (fun t k => st1.trans k) ?_
    show F (T1.setTop (mkF m 72 #[.val (.int p0), .val (.int p1), .val (.int p2), .val (.int p3), .val (.int p4), .val (.int n5), .val (.int c6), .val (.int r7), .val (.ref pp), .unset, .unset, .unset, .unset] [(.int p0)]))
    refine bk (fun t k => XS.istore X1.here hx rfl (hb hby at_72) rfl (l' := #[.val (.int p0), .val (.int p1), .val (.int p2), .val (.int p3), .val (.int p4), .val (.int n5), .val (.int c6), .val (.int r7), .val (.ref pp), .val (.int p0), .unset, .unset, .unset]) rfl k) ?_
    show F (T1.setTop (mkF m 74 #[.val (.int p0), .val (.int p1), .val (.int p2), .val (.int p3), .val (.int p4), .val (.int n5), .val (.int c6), .val (.int r7), .val (.ref pp), .val (.int p0), .unset, .unset, .unset] []))
    refine bk (fun t k => XS.aload X1.here hx rfl (hb hby at_74) rfl rfl k) ?_
    show F (T1.setTop (mkF m 76 #[.val (.int p0), .val (.int p1), .val (.int p2), .val (.int p3), .val (.int p4), .val (.int n5), .val (.int c6), .val (.int r7), .val (.ref pp), .val (.int p0), .unset, .unset, .unset] [(.ref pp)]))
    refine bk (fun t k => XS.iloadN X1.here hx rfl (hb hby at_76) rfl k) ?_
    show F (T1.setTop (mkF m 77 #[.val (.int p0), .val (.int p1), .val (.int p2), .val (.int p3), .val (.int p4), .val (.int n5), .val (.int c6), .val (.int r7), .val (.ref pp), .val (.int p0), .unset, .unset, .unset] [(.int p1), (.ref pp)]))
    obtain ⟨cq2, kq2, q2a, q2b, q2c⟩ := isOf hZ rfl (gP1.1)
    obtain ⟨_, _, ⟨T2, L2, k2, n2⟩, -, X2, ⟨Lc2, hQ2, l2, y2, z2⟩, st2⟩ := X1.virtualBack hx (y := (⟨"com/example/quire/quire/readers/Positions", "passed", "(I)V"⟩ : MethodName)) (z := (⟨"com/example/quire/quire/readers/Positions", "passed", "(I)V"⟩ : MethodName)) hown (mvT hZ w_53) (mvT hZ w_54) (notFace_of_selects (args := #[]) (mvT hZ w_56)) (mvT hZ w_56) (mvT hZ w_55) (by decide) (backOf (W := 0) (rm6 l Z a0 hw [] pp p1 rt op kk (1 : Int32) (0 : Int32) p0 rf (1 : Int32) p0 (0 : Int32) T1.heap n0 gZ1 gP1 g_pp g_op ne_p_rt ne_p_op ne_rt_op) hZ w_57 w_2 (by decide) (by decide)) q2a q2c (g := (mkF m 77 #[.val (.int p0), .val (.int p1), .val (.int p2), .val (.int p3), .val (.int p4), .val (.int n5), .val (.int c6), .val (.int r7), .val (.ref pp), .val (.int p0), .unset, .unset, .unset] [(.int p1), (.ref pp)])) rfl (by rw [hml]; rfl) (Steps.refl _) (argsL := [(.int p1)]) (rest := []) (lenOf pd0__I_V rfl) rfl (by show 2 * 0 + _ ≤ _; exact Nat.le_of_eq rfl) (hb hby at_77) (fun _ _ => ⟨rfl, rfl, (by decide : 4 + 0 ≤ _), (by decide : 87 + 0 ≤ _)⟩)
    dsimp only [Pt.U, Pt.locs, Pt.cells, Pt.slots] at X2 l2 y2 z2 st2 hQ2
    subst l2 y2 z2
    obtain ⟨rfl, N2q, gZ2, gP2⟩ := hQ2
    have N2 := Fr.app N1 N2q
    refine bk (fun t k => st2.trans k) ?_
    show F (T2.setTop (mkF m 80 #[.val (.int p0), .val (.int p1), .val (.int p2), .val (.int p3), .val (.int p4), .val (.int n5), .val (.int c6), .val (.int r7), .val (.ref pp), .val (.int p0), .unset, .unset, .unset] []))
    refine bk (fun t k => XS.aload X2.here hx rfl (hb hby at_80) rfl rfl k) ?_
    show F (T2.setTop (mkF m 82 #[.val (.int p0), .val (.int p1), .val (.int p2), .val (.int p3), .val (.int p4), .val (.int n5), .val (.int c6), .val (.int r7), .val (.ref pp), .val (.int p0), .unset, .unset, .unset] [(.ref pp)]))
    obtain ⟨cq3, kq3, q3a, q3b, q3c⟩ := isOf hZ rfl (gP2.1)
    obtain ⟨_, _, ⟨T3, L3, k3, n3⟩, -, X3, ⟨Lc3, hQ3, l3, y3, z3⟩, st3⟩ := X2.virtualBack hx (y := (⟨"com/example/quire/quire/readers/Positions", "startEntity", "()V"⟩ : MethodName)) (z := (⟨"com/example/quire/quire/readers/Positions", "startEntity", "()V"⟩ : MethodName)) hown (mvT hZ w_58) (mvT hZ w_59) (notFace_of_selects (args := #[]) (mvT hZ w_61)) (mvT hZ w_61) (mvT hZ w_60) (by decide) (backOf (W := 0) (rm7a l Z a0 hw [] pp  rt op kk (1 : Int32) p1 rf (1 : Int32) p0 (0 : Int32) T2.heap n0 gZ2 gP2 g_pp g_op ne_p_rt ne_p_op ne_rt_op) hZ w_62 w_2 (by decide) (by decide)) q3a q3c (g := (mkF m 82 #[.val (.int p0), .val (.int p1), .val (.int p2), .val (.int p3), .val (.int p4), .val (.int n5), .val (.int c6), .val (.int r7), .val (.ref pp), .val (.int p0), .unset, .unset, .unset] [(.ref pp)])) rfl (by rw [hml]; rfl) (Steps.refl _) (argsL := []) (rest := []) (lenOf pd0___V rfl) rfl (by show 2 * 0 + _ ≤ _; exact Nat.le_of_eq rfl) (hb hby at_82) (fun _ _ => ⟨rfl, rfl, (by decide : 4 + 0 ≤ _), (by decide : 87 + 0 ≤ _)⟩)
    dsimp only [Pt.U, Pt.locs, Pt.cells, Pt.slots] at X3 l3 y3 z3 st3 hQ3
    subst l3 y3 z3
    obtain ⟨rfl, N3q, gZ3, gP3⟩ := hQ3
    have N3 := Fr.app N2 N3q
    refine bk (fun t k => st3.trans k) ?_
    show F (T3.setTop (mkF m 85 #[.val (.int p0), .val (.int p1), .val (.int p2), .val (.int p3), .val (.int p4), .val (.int n5), .val (.int c6), .val (.int r7), .val (.ref pp), .val (.int p0), .unset, .unset, .unset] []))
    refine bk (fun t k => XS.iload X3.here hx rfl (hb hby at_85) rfl k) ?_
    show F (T3.setTop (mkF m 87 #[.val (.int p0), .val (.int p1), .val (.int p2), .val (.int p3), .val (.int p4), .val (.int n5), .val (.int c6), .val (.int r7), .val (.ref pp), .val (.int p0), .unset, .unset, .unset] [(.int n5)]))
    by_cases hc87_4 : n5 = (0 : Int32)
    · refine bk (fun t k => XS.ifYes X3.here hx rfl (pc0 := 87) (pc' := 95) rfl (hb hby at_87) rfl ((if0 _ _).trans (teq hc87_4).1) (by decide) (by decide) k) ?_
      show F (T3.setTop (mkF m 95 #[.val (.int p0), .val (.int p1), .val (.int p2), .val (.int p3), .val (.int p4), .val (.int n5), .val (.int c6), .val (.int r7), .val (.ref pp), .val (.int p0), .unset, .unset, .unset] []))
      refine bk (fun t k => XS.aload X3.here hx rfl (hb hby at_95) rfl rfl k) ?_
      show F (T3.setTop (mkF m 97 #[.val (.int p0), .val (.int p1), .val (.int p2), .val (.int p3), .val (.int p4), .val (.int n5), .val (.int c6), .val (.int r7), .val (.ref pp), .val (.int p0), .unset, .unset, .unset] [(.ref pp)]))
      refine bk (fun t k => XS.iloadN X3.here hx rfl (hb hby at_97) rfl k) ?_
      show F (T3.setTop (mkF m 98 #[.val (.int p0), .val (.int p1), .val (.int p2), .val (.int p3), .val (.int p4), .val (.int n5), .val (.int c6), .val (.int r7), .val (.ref pp), .val (.int p0), .unset, .unset, .unset] [(.int p2), (.ref pp)]))
      obtain ⟨cq5, kq5, q5a, q5b, q5c⟩ := isOf hZ rfl (gP3.1)
      obtain ⟨_, _, ⟨T5, L5, k5, n5⟩, -, X5, ⟨Lc5, hQ5, l5, y5, z5⟩, st5⟩ := X3.virtualBack hx (y := (⟨"com/example/quire/quire/readers/Positions", "passed", "(I)V"⟩ : MethodName)) (z := (⟨"com/example/quire/quire/readers/Positions", "passed", "(I)V"⟩ : MethodName)) hown (mvT hZ w_53) (mvT hZ w_54) (notFace_of_selects (args := #[]) (mvT hZ w_56)) (mvT hZ w_56) (mvT hZ w_55) (by decide) (backOf (W := 0) (rm6 l Z a0 hw [] pp p2 rt op kk (1 : Int32) (1 : Int32) p1 p1 (1 : Int32) p0 (0 : Int32) T3.heap n0 gZ3 gP3 g_pp g_op ne_p_rt ne_p_op ne_rt_op) hZ w_57 w_2 (by decide) (by decide)) q5a q5c (g := (mkF m 98 #[.val (.int p0), .val (.int p1), .val (.int p2), .val (.int p3), .val (.int p4), .val (.int n5), .val (.int c6), .val (.int r7), .val (.ref pp), .val (.int p0), .unset, .unset, .unset] [(.int p2), (.ref pp)])) rfl (by rw [hml]; rfl) (Steps.refl _) (argsL := [(.int p2)]) (rest := []) (lenOf pd0__I_V rfl) rfl (by show 2 * 0 + _ ≤ _; exact Nat.le_of_eq rfl) (hb hby at_98) (fun _ _ => ⟨rfl, rfl, (by decide : 4 + 0 ≤ _), (by decide : 87 + 0 ≤ _)⟩)
      dsimp only [Pt.U, Pt.locs, Pt.cells, Pt.slots] at X5 l5 y5 z5 st5 hQ5
      subst l5 y5 z5
      obtain ⟨rfl, N5q, gZ5, gP5⟩ := hQ5
      have N5 := Fr.app N3 N5q
      refine bk (fun t k => st5.trans k) ?_
      show F (T5.setTop (mkF m 101 #[.val (.int p0), .val (.int p1), .val (.int p2), .val (.int p3), .val (.int p4), .val (.int n5), .val (.int c6), .val (.int r7), .val (.ref pp), .val (.int p0), .unset, .unset, .unset] []))
      refine bk (fun t k => XS.aload X5.here hx rfl (hb hby at_101) rfl rfl k) ?_
      show F (T5.setTop (mkF m 103 #[.val (.int p0), .val (.int p1), .val (.int p2), .val (.int p3), .val (.int p4), .val (.int n5), .val (.int c6), .val (.int r7), .val (.ref pp), .val (.int p0), .unset, .unset, .unset] [(.ref pp)]))
      obtain ⟨cq6, kq6, q6a, q6b, q6c⟩ := isOf hZ rfl (gP5.1)
      obtain ⟨_, _, ⟨T6, L6, k6, n6⟩, -, X6, ⟨Lc6, hQ6, l6, y6, z6⟩, st6⟩ := X5.virtualBack hx (y := (⟨"com/example/quire/quire/readers/Positions", "endEntity", "()V"⟩ : MethodName)) (z := (⟨"com/example/quire/quire/readers/Positions", "endEntity", "()V"⟩ : MethodName)) hown (mvT hZ w_67) (mvT hZ w_68) (notFace_of_selects (args := #[]) (mvT hZ w_70)) (mvT hZ w_70) (mvT hZ w_69) (by decide) (backOf (W := 0) (rm8a l Z a0 hw [] pp  rt op kk (1 : Int32) p2 p1 (1 : Int32) p0 (0 : Int32) T5.heap n0 gZ5 gP5 g_pp g_op ne_p_rt ne_p_op ne_rt_op) hZ w_71 w_2 (by decide) (by decide)) q6a q6c (g := (mkF m 103 #[.val (.int p0), .val (.int p1), .val (.int p2), .val (.int p3), .val (.int p4), .val (.int n5), .val (.int c6), .val (.int r7), .val (.ref pp), .val (.int p0), .unset, .unset, .unset] [(.ref pp)])) rfl (by rw [hml]; rfl) (Steps.refl _) (argsL := []) (rest := []) (lenOf pd0___V rfl) rfl (by show 2 * 0 + _ ≤ _; exact Nat.le_of_eq rfl) (hb hby at_103) (fun _ _ => ⟨rfl, rfl, (by decide : 4 + 0 ≤ _), (by decide : 87 + 0 ≤ _)⟩)
      dsimp only [Pt.U, Pt.locs, Pt.cells, Pt.slots] at X6 l6 y6 z6 st6 hQ6
      subst l6 y6 z6
      obtain ⟨rfl, N6q, gZ6, gP6⟩ := hQ6
      have N6 := Fr.app N5 N6q
      refine bk (fun t k => st6.trans k) ?_
      show F (T6.setTop (mkF m 106 #[.val (.int p0), .val (.int p1), .val (.int p2), .val (.int p3), .val (.int p4), .val (.int n5), .val (.int c6), .val (.int r7), .val (.ref pp), .val (.int p0), .unset, .unset, .unset] []))
      refine bk (fun t k => XS.iload X6.here hx rfl (hb hby at_106) rfl k) ?_
      show F (T6.setTop (mkF m 108 #[.val (.int p0), .val (.int p1), .val (.int p2), .val (.int p3), .val (.int p4), .val (.int n5), .val (.int c6), .val (.int r7), .val (.ref pp), .val (.int p0), .unset, .unset, .unset] [(.int n5)]))
      refine bk (fun t k => XS.ifYes X6.here hx rfl (pc0 := 108) (pc' := 127) rfl (hb hby at_108) rfl ((if0 _ _).trans (teq hc87_4).1) (by decide) (by decide) k) ?_
      show F (T6.setTop (mkF m 127 #[.val (.int p0), .val (.int p1), .val (.int p2), .val (.int p3), .val (.int p4), .val (.int n5), .val (.int c6), .val (.int r7), .val (.ref pp), .val (.int p0), .unset, .unset, .unset] []))
      refine bk (fun t k => XS.aload X6.here hx rfl (hb hby at_127) rfl rfl k) ?_
      show F (T6.setTop (mkF m 129 #[.val (.int p0), .val (.int p1), .val (.int p2), .val (.int p3), .val (.int p4), .val (.int n5), .val (.int c6), .val (.int r7), .val (.ref pp), .val (.int p0), .unset, .unset, .unset] [(.ref pp)]))
      refine bk (fun t k => XS.iloadN X6.here hx rfl (hb hby at_129) rfl k) ?_
      show F (T6.setTop (mkF m 130 #[.val (.int p0), .val (.int p1), .val (.int p2), .val (.int p3), .val (.int p4), .val (.int n5), .val (.int c6), .val (.int r7), .val (.ref pp), .val (.int p0), .unset, .unset, .unset] [(.int p3), (.ref pp)]))
      obtain ⟨cq7, kq7, q7a, q7b, q7c⟩ := isOf hZ rfl (gP6.1)
      obtain ⟨_, _, ⟨T7, L7, k7, n7⟩, -, X7, ⟨Lc7, hQ7, l7, y7, z7⟩, st7⟩ := X6.virtualBack hx (y := (⟨"com/example/quire/quire/readers/Positions", "start", "(I)I"⟩ : MethodName)) (z := (⟨"com/example/quire/quire/readers/Positions", "start", "(I)I"⟩ : MethodName)) hown (mvT hZ w_37) (mvT hZ w_38) (notFace_of_selects (args := #[]) (mvT hZ w_40)) (mvT hZ w_40) (mvT hZ w_39) (by decide) (backOf (W := 0) (rm4c l Z a0 hw [] pp p3 rt op kk p1 p1 p0 (0 : Int32) T6.heap n0 gZ6 gP6 g_pp g_op ne_p_rt ne_p_op ne_rt_op) hZ w_41 w_2 (by decide) (by decide)) q7a q7c (g := (mkF m 130 #[.val (.int p0), .val (.int p1), .val (.int p2), .val (.int p3), .val (.int p4), .val (.int n5), .val (.int c6), .val (.int r7), .val (.ref pp), .val (.int p0), .unset, .unset, .unset] [(.int p3), (.ref pp)])) rfl (by rw [hml]; rfl) (Steps.refl _) (argsL := [(.int p3)]) (rest := []) (lenOf pd0__I_I rfl) rfl (by show 2 * 0 + _ ≤ _; exact Nat.le_of_eq rfl) (hb hby at_130) (fun _ _ => ⟨rfl, rfl, (by decide : 4 + 0 ≤ _), (by decide : 87 + 0 ≤ _)⟩)
      dsimp only [Pt.U, Pt.locs, Pt.cells, Pt.slots] at X7 l7 y7 z7 st7 hQ7
      subst l7 y7 z7
      obtain ⟨rfl, N7q, gZ7, gP7⟩ := hQ7
      have N7 := Fr.app N6 N7q
      refine bk (fun t k => st7.trans k) ?_
      show F (T7.setTop (mkF m 133 #[.val (.int p0), .val (.int p1), .val (.int p2), .val (.int p3), .val (.int p4), .val (.int n5), .val (.int c6), .val (.int r7), .val (.ref pp), .val (.int p0), .unset, .unset, .unset] [(.int p1)]))
      refine bk (fun t k => XS.istore X7.here hx rfl (hb hby at_133) rfl (l' := #[.val (.int p0), .val (.int p1), .val (.int p2), .val (.int p3), .val (.int p4), .val (.int n5), .val (.int c6), .val (.int r7), .val (.ref pp), .val (.int p0), .val (.int p1), .unset, .unset]) rfl k) ?_
      show F (T7.setTop (mkF m 135 #[.val (.int p0), .val (.int p1), .val (.int p2), .val (.int p3), .val (.int p4), .val (.int n5), .val (.int c6), .val (.int r7), .val (.ref pp), .val (.int p0), .val (.int p1), .unset, .unset] []))
      refine bk (fun t k => XS.iload X7.here hx rfl (hb hby at_135) rfl k) ?_
      show F (T7.setTop (mkF m 137 #[.val (.int p0), .val (.int p1), .val (.int p2), .val (.int p3), .val (.int p4), .val (.int n5), .val (.int c6), .val (.int r7), .val (.ref pp), .val (.int p0), .val (.int p1), .unset, .unset] [(.int n5)]))
      refine bk (fun t k => XS.ifYes X7.here hx rfl (pc0 := 137) (pc' := 149) rfl (hb hby at_137) rfl ((if0 _ _).trans (teq hc87_4).1) (by decide) (by decide) k) ?_
      show F (T7.setTop (mkF m 149 #[.val (.int p0), .val (.int p1), .val (.int p2), .val (.int p3), .val (.int p4), .val (.int n5), .val (.int c6), .val (.int r7), .val (.ref pp), .val (.int p0), .val (.int p1), .unset, .unset] []))
      refine bk (fun t k => XS.iconst X7.here hx rfl (hb hby at_149) k) ?_
      show F (T7.setTop (mkF m 150 #[.val (.int p0), .val (.int p1), .val (.int p2), .val (.int p3), .val (.int p4), .val (.int n5), .val (.int c6), .val (.int r7), .val (.ref pp), .val (.int p0), .val (.int p1), .unset, .unset] [(.int (0 : Int32))]))
      refine bk (fun t k => XS.istore X7.here hx rfl (hb hby at_150) rfl (l' := #[.val (.int p0), .val (.int p1), .val (.int p2), .val (.int p3), .val (.int p4), .val (.int n5), .val (.int c6), .val (.int r7), .val (.ref pp), .val (.int p0), .val (.int p1), .val (.int (0 : Int32)), .unset]) rfl k) ?_
      show F (T7.setTop (mkF m 152 #[.val (.int p0), .val (.int p1), .val (.int p2), .val (.int p3), .val (.int p4), .val (.int n5), .val (.int c6), .val (.int r7), .val (.ref pp), .val (.int p0), .val (.int p1), .val (.int (0 : Int32)), .unset] []))
      refine bk (fun t k => XS.iload X7.here hx rfl (hb hby at_152) rfl k) ?_
      show F (T7.setTop (mkF m 154 #[.val (.int p0), .val (.int p1), .val (.int p2), .val (.int p3), .val (.int p4), .val (.int n5), .val (.int c6), .val (.int r7), .val (.ref pp), .val (.int p0), .val (.int p1), .val (.int (0 : Int32)), .unset] [(.int (0 : Int32))]))
      refine bk (fun t k => XS.ifYes X7.here hx rfl (pc0 := 154) (pc' := 161) rfl (hb hby at_154) rfl ((if0 _ _).trans (teq (by decide : (0 : Int32) = (0 : Int32))).1) (by decide) (by decide) k) ?_
      show F (T7.setTop (mkF m 161 #[.val (.int p0), .val (.int p1), .val (.int p2), .val (.int p3), .val (.int p4), .val (.int n5), .val (.int c6), .val (.int r7), .val (.ref pp), .val (.int p0), .val (.int p1), .val (.int (0 : Int32)), .unset] []))
      refine bk (fun t k => XS.iloadN X7.here hx rfl (hb hby at_161) rfl k) ?_
      show F (T7.setTop (mkF m 162 #[.val (.int p0), .val (.int p1), .val (.int p2), .val (.int p3), .val (.int p4), .val (.int n5), .val (.int c6), .val (.int r7), .val (.ref pp), .val (.int p0), .val (.int p1), .val (.int (0 : Int32)), .unset] [(.int p1)]))
      refine bk (fun t k => XS.istore X7.here hx rfl (hb hby at_162) rfl (l' := #[.val (.int p0), .val (.int p1), .val (.int p2), .val (.int p3), .val (.int p4), .val (.int n5), .val (.int c6), .val (.int r7), .val (.ref pp), .val (.int p0), .val (.int p1), .val (.int (0 : Int32)), .val (.int p1)]) rfl k) ?_
      show F (T7.setTop (mkF m 164 #[.val (.int p0), .val (.int p1), .val (.int p2), .val (.int p3), .val (.int p4), .val (.int n5), .val (.int c6), .val (.int r7), .val (.ref pp), .val (.int p0), .val (.int p1), .val (.int (0 : Int32)), .val (.int p1)] []))
      refine bk (fun t k => XS.iload X7.here hx rfl (hb hby at_164) rfl k) ?_
      show F (T7.setTop (mkF m 166 #[.val (.int p0), .val (.int p1), .val (.int p2), .val (.int p3), .val (.int p4), .val (.int n5), .val (.int c6), .val (.int r7), .val (.ref pp), .val (.int p0), .val (.int p1), .val (.int (0 : Int32)), .val (.int p1)] [(.int p0)]))
      refine bk (fun t k => XS.iloadN X7.here hx rfl (hb hby at_166) rfl k) ?_
      show F (T7.setTop (mkF m 167 #[.val (.int p0), .val (.int p1), .val (.int p2), .val (.int p3), .val (.int p4), .val (.int n5), .val (.int c6), .val (.int r7), .val (.ref pp), .val (.int p0), .val (.int p1), .val (.int (0 : Int32)), .val (.int p1)] [(.int p0), (.int p0)]))
      refine bk (fun t k => XS.icmpNo X7.here hx rfl (hb hby at_167) rfl (teq (rfl : p0 = p0)).2 k) ?_
      show F (T7.setTop (mkF m 170 #[.val (.int p0), .val (.int p1), .val (.int p2), .val (.int p3), .val (.int p4), .val (.int n5), .val (.int c6), .val (.int r7), .val (.ref pp), .val (.int p0), .val (.int p1), .val (.int (0 : Int32)), .val (.int p1)] []))
      refine bk (fun t k => XS.iload X7.here hx rfl (hb hby at_170) rfl k) ?_
      show F (T7.setTop (mkF m 172 #[.val (.int p0), .val (.int p1), .val (.int p2), .val (.int p3), .val (.int p4), .val (.int n5), .val (.int c6), .val (.int r7), .val (.ref pp), .val (.int p0), .val (.int p1), .val (.int (0 : Int32)), .val (.int p1)] [(.int p1)]))
      refine bk (fun t k => XS.iload X7.here hx rfl (hb hby at_172) rfl k) ?_
      show F (T7.setTop (mkF m 174 #[.val (.int p0), .val (.int p1), .val (.int p2), .val (.int p3), .val (.int p4), .val (.int n5), .val (.int c6), .val (.int r7), .val (.ref pp), .val (.int p0), .val (.int p1), .val (.int (0 : Int32)), .val (.int p1)] [(.int p1), (.int p1)]))
      refine bk (fun t k => XS.icmpNo X7.here hx rfl (hb hby at_174) rfl (teq (rfl : p1 = p1)).2 k) ?_
      show F (T7.setTop (mkF m 177 #[.val (.int p0), .val (.int p1), .val (.int p2), .val (.int p3), .val (.int p4), .val (.int n5), .val (.int c6), .val (.int r7), .val (.ref pp), .val (.int p0), .val (.int p1), .val (.int (0 : Int32)), .val (.int p1)] []))
      refine bk (fun t k => XS.iconst X7.here hx rfl (hb hby at_177) k) ?_
      show F (T7.setTop (mkF m 178 #[.val (.int p0), .val (.int p1), .val (.int p2), .val (.int p3), .val (.int p4), .val (.int n5), .val (.int c6), .val (.int r7), .val (.ref pp), .val (.int p0), .val (.int p1), .val (.int (0 : Int32)), .val (.int p1)] [(.int (1 : Int32))]))
      refine bk (fun t k => XS.goto X7.here hx rfl (pc0 := 178) (pc' := 182) rfl (hb hby at_178) (by decide) (by decide) k) ?_
      show F (T7.setTop (mkF m 182 #[.val (.int p0), .val (.int p1), .val (.int p2), .val (.int p3), .val (.int p4), .val (.int n5), .val (.int c6), .val (.int r7), .val (.ref pp), .val (.int p0), .val (.int p1), .val (.int (0 : Int32)), .val (.int p1)] [(.int (1 : Int32))]))
      rw [hF]
      refine own_retZ X7 hx Bd.notSynchronized Bd.returns (hb hby at_182) (by decide) (by decide) ?_
      exact ⟨rfl, N7⟩
    · refine bk (fun t k => XS.ifNo X3.here hx rfl (hb hby at_87) rfl ((if0 _ _).trans (feq hc87_4).1) k) ?_
      show F (T3.setTop (mkF m 90 #[.val (.int p0), .val (.int p1), .val (.int p2), .val (.int p3), .val (.int p4), .val (.int n5), .val (.int c6), .val (.int r7), .val (.ref pp), .val (.int p0), .unset, .unset, .unset] []))
      refine bk (fun t k => XS.aload X3.here hx rfl (hb hby at_90) rfl rfl k) ?_
      show F (T3.setTop (mkF m 92 #[.val (.int p0), .val (.int p1), .val (.int p2), .val (.int p3), .val (.int p4), .val (.int n5), .val (.int c6), .val (.int r7), .val (.ref pp), .val (.int p0), .unset, .unset, .unset] [(.ref pp)]))
      obtain ⟨cq8, kq8, q8a, q8b, q8c⟩ := isOf hZ rfl (gP3.1)
      obtain ⟨_, _, ⟨T8, L8, k8, n8⟩, -, X8, ⟨Lc8, hQ8, l8, y8, z8⟩, st8⟩ := X3.virtualBack hx (y := (⟨"com/example/quire/quire/readers/Positions", "startEntity", "()V"⟩ : MethodName)) (z := (⟨"com/example/quire/quire/readers/Positions", "startEntity", "()V"⟩ : MethodName)) hown (mvT hZ w_58) (mvT hZ w_59) (notFace_of_selects (args := #[]) (mvT hZ w_61)) (mvT hZ w_61) (mvT hZ w_60) (by decide) (backOf (W := 0) (rm7b l Z a0 hw [] pp  rt op kk (1 : Int32) p1 p1 (1 : Int32) p0 (0 : Int32) T3.heap n0 gZ3 gP3 g_pp g_op ne_p_rt ne_p_op ne_rt_op) hZ w_62 w_2 (by decide) (by decide)) q8a q8c (g := (mkF m 92 #[.val (.int p0), .val (.int p1), .val (.int p2), .val (.int p3), .val (.int p4), .val (.int n5), .val (.int c6), .val (.int r7), .val (.ref pp), .val (.int p0), .unset, .unset, .unset] [(.ref pp)])) rfl (by rw [hml]; rfl) (Steps.refl _) (argsL := []) (rest := []) (lenOf pd0___V rfl) rfl (by show 2 * 0 + _ ≤ _; exact Nat.le_of_eq rfl) (hb hby at_92) (fun _ _ => ⟨rfl, rfl, (by decide : 4 + 0 ≤ _), (by decide : 87 + 0 ≤ _)⟩)
      dsimp only [Pt.U, Pt.locs, Pt.cells, Pt.slots] at X8 l8 y8 z8 st8 hQ8
      subst l8 y8 z8
      obtain ⟨rfl, N8q, gZ8, gP8⟩ := hQ8
      have N8 := Fr.app N3 N8q
      refine bk (fun t k => st8.trans k) ?_
      show F (T8.setTop (mkF m 95 #[.val (.int p0), .val (.int p1), .val (.int p2), .val (.int p3), .val (.int p4), .val (.int n5), .val (.int c6), .val (.int r7), .val (.ref pp), .val (.int p0), .unset, .unset, .unset] []))
      refine bk (fun t k => XS.aload X8.here hx rfl (hb hby at_95) rfl rfl k) ?_
      show F (T8.setTop (mkF m 97 #[.val (.int p0), .val (.int p1), .val (.int p2), .val (.int p3), .val (.int p4), .val (.int n5), .val (.int c6), .val (.int r7), .val (.ref pp), .val (.int p0), .unset, .unset, .unset] [(.ref pp)]))
      refine bk (fun t k => XS.iloadN X8.here hx rfl (hb hby at_97) rfl k) ?_
      show F (T8.setTop (mkF m 98 #[.val (.int p0), .val (.int p1), .val (.int p2), .val (.int p3), .val (.int p4), .val (.int n5), .val (.int c6), .val (.int r7), .val (.ref pp), .val (.int p0), .unset, .unset, .unset] [(.int p2), (.ref pp)]))
      obtain ⟨cq9, kq9, q9a, q9b, q9c⟩ := isOf hZ rfl (gP8.1)
      obtain ⟨_, _, ⟨T9, L9, k9, n9⟩, -, X9, ⟨Lc9, hQ9, l9, y9, z9⟩, st9⟩ := X8.virtualBack hx (y := (⟨"com/example/quire/quire/readers/Positions", "passed", "(I)V"⟩ : MethodName)) (z := (⟨"com/example/quire/quire/readers/Positions", "passed", "(I)V"⟩ : MethodName)) hown (mvT hZ w_53) (mvT hZ w_54) (notFace_of_selects (args := #[]) (mvT hZ w_56)) (mvT hZ w_56) (mvT hZ w_55) (by decide) (backOf (W := 0) (rm6 l Z a0 hw [] pp p2 rt op kk (1 : Int32) (2 : Int32) p1 p1 (1 : Int32) p0 (0 : Int32) T8.heap n0 gZ8 gP8 g_pp g_op ne_p_rt ne_p_op ne_rt_op) hZ w_57 w_2 (by decide) (by decide)) q9a q9c (g := (mkF m 98 #[.val (.int p0), .val (.int p1), .val (.int p2), .val (.int p3), .val (.int p4), .val (.int n5), .val (.int c6), .val (.int r7), .val (.ref pp), .val (.int p0), .unset, .unset, .unset] [(.int p2), (.ref pp)])) rfl (by rw [hml]; rfl) (Steps.refl _) (argsL := [(.int p2)]) (rest := []) (lenOf pd0__I_V rfl) rfl (by show 2 * 0 + _ ≤ _; exact Nat.le_of_eq rfl) (hb hby at_98) (fun _ _ => ⟨rfl, rfl, (by decide : 4 + 0 ≤ _), (by decide : 87 + 0 ≤ _)⟩)
      dsimp only [Pt.U, Pt.locs, Pt.cells, Pt.slots] at X9 l9 y9 z9 st9 hQ9
      subst l9 y9 z9
      obtain ⟨rfl, N9q, gZ9, gP9⟩ := hQ9
      have N9 := Fr.app N8 N9q
      refine bk (fun t k => st9.trans k) ?_
      show F (T9.setTop (mkF m 101 #[.val (.int p0), .val (.int p1), .val (.int p2), .val (.int p3), .val (.int p4), .val (.int n5), .val (.int c6), .val (.int r7), .val (.ref pp), .val (.int p0), .unset, .unset, .unset] []))
      refine bk (fun t k => XS.aload X9.here hx rfl (hb hby at_101) rfl rfl k) ?_
      show F (T9.setTop (mkF m 103 #[.val (.int p0), .val (.int p1), .val (.int p2), .val (.int p3), .val (.int p4), .val (.int n5), .val (.int c6), .val (.int r7), .val (.ref pp), .val (.int p0), .unset, .unset, .unset] [(.ref pp)]))
      obtain ⟨cq10, kq10, q10a, q10b, q10c⟩ := isOf hZ rfl (gP9.1)
      obtain ⟨_, _, ⟨T10, L10, k10, n10⟩, -, X10, ⟨Lc10, hQ10, l10, y10, z10⟩, st10⟩ := X9.virtualBack hx (y := (⟨"com/example/quire/quire/readers/Positions", "endEntity", "()V"⟩ : MethodName)) (z := (⟨"com/example/quire/quire/readers/Positions", "endEntity", "()V"⟩ : MethodName)) hown (mvT hZ w_67) (mvT hZ w_68) (notFace_of_selects (args := #[]) (mvT hZ w_70)) (mvT hZ w_70) (mvT hZ w_69) (by decide) (backOf (W := 0) (rm8b l Z a0 hw [] pp  rt op kk (1 : Int32) p2 p1 (1 : Int32) p0 (0 : Int32) T9.heap n0 gZ9 gP9 g_pp g_op ne_p_rt ne_p_op ne_rt_op) hZ w_71 w_2 (by decide) (by decide)) q10a q10c (g := (mkF m 103 #[.val (.int p0), .val (.int p1), .val (.int p2), .val (.int p3), .val (.int p4), .val (.int n5), .val (.int c6), .val (.int r7), .val (.ref pp), .val (.int p0), .unset, .unset, .unset] [(.ref pp)])) rfl (by rw [hml]; rfl) (Steps.refl _) (argsL := []) (rest := []) (lenOf pd0___V rfl) rfl (by show 2 * 0 + _ ≤ _; exact Nat.le_of_eq rfl) (hb hby at_103) (fun _ _ => ⟨rfl, rfl, (by decide : 4 + 0 ≤ _), (by decide : 87 + 0 ≤ _)⟩)
      dsimp only [Pt.U, Pt.locs, Pt.cells, Pt.slots] at X10 l10 y10 z10 st10 hQ10
      subst l10 y10 z10
      obtain ⟨rfl, N10q, gZ10, gP10⟩ := hQ10
      have N10 := Fr.app N9 N10q
      refine bk (fun t k => st10.trans k) ?_
      show F (T10.setTop (mkF m 106 #[.val (.int p0), .val (.int p1), .val (.int p2), .val (.int p3), .val (.int p4), .val (.int n5), .val (.int c6), .val (.int r7), .val (.ref pp), .val (.int p0), .unset, .unset, .unset] []))
      refine bk (fun t k => XS.iload X10.here hx rfl (hb hby at_106) rfl k) ?_
      show F (T10.setTop (mkF m 108 #[.val (.int p0), .val (.int p1), .val (.int p2), .val (.int p3), .val (.int p4), .val (.int n5), .val (.int c6), .val (.int r7), .val (.ref pp), .val (.int p0), .unset, .unset, .unset] [(.int n5)]))
      refine bk (fun t k => XS.ifNo X10.here hx rfl (hb hby at_108) rfl ((if0 _ _).trans (feq hc87_4).1) k) ?_
      show F (T10.setTop (mkF m 111 #[.val (.int p0), .val (.int p1), .val (.int p2), .val (.int p3), .val (.int p4), .val (.int n5), .val (.int c6), .val (.int r7), .val (.ref pp), .val (.int p0), .unset, .unset, .unset] []))
      refine bk (fun t k => XS.iload X10.here hx rfl (hb hby at_111) rfl k) ?_
      show F (T10.setTop (mkF m 113 #[.val (.int p0), .val (.int p1), .val (.int p2), .val (.int p3), .val (.int p4), .val (.int n5), .val (.int c6), .val (.int r7), .val (.ref pp), .val (.int p0), .unset, .unset, .unset] [(.int c6)]))
      by_cases hc113_11 : c6 = (0 : Int32)
      · refine bk (fun t k => XS.ifYes X10.here hx rfl (pc0 := 113) (pc' := 127) rfl (hb hby at_113) rfl ((if0 _ _).trans (teq hc113_11).1) (by decide) (by decide) k) ?_
        show F (T10.setTop (mkF m 127 #[.val (.int p0), .val (.int p1), .val (.int p2), .val (.int p3), .val (.int p4), .val (.int n5), .val (.int c6), .val (.int r7), .val (.ref pp), .val (.int p0), .unset, .unset, .unset] []))
        refine bk (fun t k => XS.aload X10.here hx rfl (hb hby at_127) rfl rfl k) ?_
        show F (T10.setTop (mkF m 129 #[.val (.int p0), .val (.int p1), .val (.int p2), .val (.int p3), .val (.int p4), .val (.int n5), .val (.int c6), .val (.int r7), .val (.ref pp), .val (.int p0), .unset, .unset, .unset] [(.ref pp)]))
        refine bk (fun t k => XS.iloadN X10.here hx rfl (hb hby at_129) rfl k) ?_
        show F (T10.setTop (mkF m 130 #[.val (.int p0), .val (.int p1), .val (.int p2), .val (.int p3), .val (.int p4), .val (.int n5), .val (.int c6), .val (.int r7), .val (.ref pp), .val (.int p0), .unset, .unset, .unset] [(.int p3), (.ref pp)]))
        obtain ⟨cq12, kq12, q12a, q12b, q12c⟩ := isOf hZ rfl (gP10.1)
        obtain ⟨_, _, ⟨T12, L12, k12, n12⟩, -, X12, ⟨Lc12, hQ12, l12, y12, z12⟩, st12⟩ := X10.virtualBack hx (y := (⟨"com/example/quire/quire/readers/Positions", "start", "(I)I"⟩ : MethodName)) (z := (⟨"com/example/quire/quire/readers/Positions", "start", "(I)I"⟩ : MethodName)) hown (mvT hZ w_37) (mvT hZ w_38) (notFace_of_selects (args := #[]) (mvT hZ w_40)) (mvT hZ w_40) (mvT hZ w_39) (by decide) (backOf (W := 0) (rm4b l Z a0 hw [] pp p3 rt op kk p2 p1 p0 (0 : Int32) T10.heap n0 gZ10 gP10 g_pp g_op ne_p_rt ne_p_op ne_rt_op) hZ w_41 w_2 (by decide) (by decide)) q12a q12c (g := (mkF m 130 #[.val (.int p0), .val (.int p1), .val (.int p2), .val (.int p3), .val (.int p4), .val (.int n5), .val (.int c6), .val (.int r7), .val (.ref pp), .val (.int p0), .unset, .unset, .unset] [(.int p3), (.ref pp)])) rfl (by rw [hml]; rfl) (Steps.refl _) (argsL := [(.int p3)]) (rest := []) (lenOf pd0__I_I rfl) rfl (by show 2 * 0 + _ ≤ _; exact Nat.le_of_eq rfl) (hb hby at_130) (fun _ _ => ⟨rfl, rfl, (by decide : 4 + 0 ≤ _), (by decide : 87 + 0 ≤ _)⟩)
        dsimp only [Pt.U, Pt.locs, Pt.cells, Pt.slots] at X12 l12 y12 z12 st12 hQ12
        subst l12 y12 z12
        obtain ⟨rfl, N12q, gZ12, gP12⟩ := hQ12
        have N12 := Fr.app N10 N12q
        refine bk (fun t k => st12.trans k) ?_
        show F (T12.setTop (mkF m 133 #[.val (.int p0), .val (.int p1), .val (.int p2), .val (.int p3), .val (.int p4), .val (.int n5), .val (.int c6), .val (.int r7), .val (.ref pp), .val (.int p0), .unset, .unset, .unset] [(.int p0)]))
        refine bk (fun t k => XS.istore X12.here hx rfl (hb hby at_133) rfl (l' := #[.val (.int p0), .val (.int p1), .val (.int p2), .val (.int p3), .val (.int p4), .val (.int n5), .val (.int c6), .val (.int r7), .val (.ref pp), .val (.int p0), .val (.int p0), .unset, .unset]) rfl k) ?_
        show F (T12.setTop (mkF m 135 #[.val (.int p0), .val (.int p1), .val (.int p2), .val (.int p3), .val (.int p4), .val (.int n5), .val (.int c6), .val (.int r7), .val (.ref pp), .val (.int p0), .val (.int p0), .unset, .unset] []))
        refine bk (fun t k => XS.iload X12.here hx rfl (hb hby at_135) rfl k) ?_
        show F (T12.setTop (mkF m 137 #[.val (.int p0), .val (.int p1), .val (.int p2), .val (.int p3), .val (.int p4), .val (.int n5), .val (.int c6), .val (.int r7), .val (.ref pp), .val (.int p0), .val (.int p0), .unset, .unset] [(.int n5)]))
        refine bk (fun t k => XS.ifNo X12.here hx rfl (hb hby at_137) rfl ((if0 _ _).trans (feq hc87_4).1) k) ?_
        show F (T12.setTop (mkF m 140 #[.val (.int p0), .val (.int p1), .val (.int p2), .val (.int p3), .val (.int p4), .val (.int n5), .val (.int c6), .val (.int r7), .val (.ref pp), .val (.int p0), .val (.int p0), .unset, .unset] []))
        refine bk (fun t k => XS.iload X12.here hx rfl (hb hby at_140) rfl k) ?_
        show F (T12.setTop (mkF m 142 #[.val (.int p0), .val (.int p1), .val (.int p2), .val (.int p3), .val (.int p4), .val (.int n5), .val (.int c6), .val (.int r7), .val (.ref pp), .val (.int p0), .val (.int p0), .unset, .unset] [(.int c6)]))
        refine bk (fun t k => XS.ifNo X12.here hx rfl (hb hby at_142) rfl ((if0 _ _).trans (teq hc113_11).2) k) ?_
        show F (T12.setTop (mkF m 145 #[.val (.int p0), .val (.int p1), .val (.int p2), .val (.int p3), .val (.int p4), .val (.int n5), .val (.int c6), .val (.int r7), .val (.ref pp), .val (.int p0), .val (.int p0), .unset, .unset] []))
        refine bk (fun t k => XS.iconst X12.here hx rfl (hb hby at_145) k) ?_
        show F (T12.setTop (mkF m 146 #[.val (.int p0), .val (.int p1), .val (.int p2), .val (.int p3), .val (.int p4), .val (.int n5), .val (.int c6), .val (.int r7), .val (.ref pp), .val (.int p0), .val (.int p0), .unset, .unset] [(.int (1 : Int32))]))
        refine bk (fun t k => XS.goto X12.here hx rfl (pc0 := 146) (pc' := 150) rfl (hb hby at_146) (by decide) (by decide) k) ?_
        show F (T12.setTop (mkF m 150 #[.val (.int p0), .val (.int p1), .val (.int p2), .val (.int p3), .val (.int p4), .val (.int n5), .val (.int c6), .val (.int r7), .val (.ref pp), .val (.int p0), .val (.int p0), .unset, .unset] [(.int (1 : Int32))]))
        refine bk (fun t k => XS.istore X12.here hx rfl (hb hby at_150) rfl (l' := #[.val (.int p0), .val (.int p1), .val (.int p2), .val (.int p3), .val (.int p4), .val (.int n5), .val (.int c6), .val (.int r7), .val (.ref pp), .val (.int p0), .val (.int p0), .val (.int (1 : Int32)), .unset]) rfl k) ?_
        show F (T12.setTop (mkF m 152 #[.val (.int p0), .val (.int p1), .val (.int p2), .val (.int p3), .val (.int p4), .val (.int n5), .val (.int c6), .val (.int r7), .val (.ref pp), .val (.int p0), .val (.int p0), .val (.int (1 : Int32)), .unset] []))
        refine bk (fun t k => XS.iload X12.here hx rfl (hb hby at_152) rfl k) ?_
        show F (T12.setTop (mkF m 154 #[.val (.int p0), .val (.int p1), .val (.int p2), .val (.int p3), .val (.int p4), .val (.int n5), .val (.int c6), .val (.int r7), .val (.ref pp), .val (.int p0), .val (.int p0), .val (.int (1 : Int32)), .unset] [(.int (1 : Int32))]))
        refine bk (fun t k => XS.ifNo X12.here hx rfl (hb hby at_154) rfl ((if0 _ _).trans (feq (by decide : ¬ ((1 : Int32) = (0 : Int32)))).1) k) ?_
        show F (T12.setTop (mkF m 157 #[.val (.int p0), .val (.int p1), .val (.int p2), .val (.int p3), .val (.int p4), .val (.int n5), .val (.int c6), .val (.int r7), .val (.ref pp), .val (.int p0), .val (.int p0), .val (.int (1 : Int32)), .unset] []))
        refine bk (fun t k => XS.iloadN X12.here hx rfl (hb hby at_157) rfl k) ?_
        show F (T12.setTop (mkF m 158 #[.val (.int p0), .val (.int p1), .val (.int p2), .val (.int p3), .val (.int p4), .val (.int n5), .val (.int c6), .val (.int r7), .val (.ref pp), .val (.int p0), .val (.int p0), .val (.int (1 : Int32)), .unset] [(.int p0)]))
        refine bk (fun t k => XS.goto X12.here hx rfl (pc0 := 158) (pc' := 162) rfl (hb hby at_158) (by decide) (by decide) k) ?_
        show F (T12.setTop (mkF m 162 #[.val (.int p0), .val (.int p1), .val (.int p2), .val (.int p3), .val (.int p4), .val (.int n5), .val (.int c6), .val (.int r7), .val (.ref pp), .val (.int p0), .val (.int p0), .val (.int (1 : Int32)), .unset] [(.int p0)]))
        refine bk (fun t k => XS.istore X12.here hx rfl (hb hby at_162) rfl (l' := #[.val (.int p0), .val (.int p1), .val (.int p2), .val (.int p3), .val (.int p4), .val (.int n5), .val (.int c6), .val (.int r7), .val (.ref pp), .val (.int p0), .val (.int p0), .val (.int (1 : Int32)), .val (.int p0)]) rfl k) ?_
        show F (T12.setTop (mkF m 164 #[.val (.int p0), .val (.int p1), .val (.int p2), .val (.int p3), .val (.int p4), .val (.int n5), .val (.int c6), .val (.int r7), .val (.ref pp), .val (.int p0), .val (.int p0), .val (.int (1 : Int32)), .val (.int p0)] []))
        refine bk (fun t k => XS.iload X12.here hx rfl (hb hby at_164) rfl k) ?_
        show F (T12.setTop (mkF m 166 #[.val (.int p0), .val (.int p1), .val (.int p2), .val (.int p3), .val (.int p4), .val (.int n5), .val (.int c6), .val (.int r7), .val (.ref pp), .val (.int p0), .val (.int p0), .val (.int (1 : Int32)), .val (.int p0)] [(.int p0)]))
        refine bk (fun t k => XS.iloadN X12.here hx rfl (hb hby at_166) rfl k) ?_
        show F (T12.setTop (mkF m 167 #[.val (.int p0), .val (.int p1), .val (.int p2), .val (.int p3), .val (.int p4), .val (.int n5), .val (.int c6), .val (.int r7), .val (.ref pp), .val (.int p0), .val (.int p0), .val (.int (1 : Int32)), .val (.int p0)] [(.int p0), (.int p0)]))
        refine bk (fun t k => XS.icmpNo X12.here hx rfl (hb hby at_167) rfl (teq (rfl : p0 = p0)).2 k) ?_
        show F (T12.setTop (mkF m 170 #[.val (.int p0), .val (.int p1), .val (.int p2), .val (.int p3), .val (.int p4), .val (.int n5), .val (.int c6), .val (.int r7), .val (.ref pp), .val (.int p0), .val (.int p0), .val (.int (1 : Int32)), .val (.int p0)] []))
        refine bk (fun t k => XS.iload X12.here hx rfl (hb hby at_170) rfl k) ?_
        show F (T12.setTop (mkF m 172 #[.val (.int p0), .val (.int p1), .val (.int p2), .val (.int p3), .val (.int p4), .val (.int n5), .val (.int c6), .val (.int r7), .val (.ref pp), .val (.int p0), .val (.int p0), .val (.int (1 : Int32)), .val (.int p0)] [(.int p0)]))
        refine bk (fun t k => XS.iload X12.here hx rfl (hb hby at_172) rfl k) ?_
        show F (T12.setTop (mkF m 174 #[.val (.int p0), .val (.int p1), .val (.int p2), .val (.int p3), .val (.int p4), .val (.int n5), .val (.int c6), .val (.int r7), .val (.ref pp), .val (.int p0), .val (.int p0), .val (.int (1 : Int32)), .val (.int p0)] [(.int p0), (.int p0)]))
        refine bk (fun t k => XS.icmpNo X12.here hx rfl (hb hby at_174) rfl (teq (rfl : p0 = p0)).2 k) ?_
        show F (T12.setTop (mkF m 177 #[.val (.int p0), .val (.int p1), .val (.int p2), .val (.int p3), .val (.int p4), .val (.int n5), .val (.int c6), .val (.int r7), .val (.ref pp), .val (.int p0), .val (.int p0), .val (.int (1 : Int32)), .val (.int p0)] []))
        refine bk (fun t k => XS.iconst X12.here hx rfl (hb hby at_177) k) ?_
        show F (T12.setTop (mkF m 178 #[.val (.int p0), .val (.int p1), .val (.int p2), .val (.int p3), .val (.int p4), .val (.int n5), .val (.int c6), .val (.int r7), .val (.ref pp), .val (.int p0), .val (.int p0), .val (.int (1 : Int32)), .val (.int p0)] [(.int (1 : Int32))]))
        refine bk (fun t k => XS.goto X12.here hx rfl (pc0 := 178) (pc' := 182) rfl (hb hby at_178) (by decide) (by decide) k) ?_
        show F (T12.setTop (mkF m 182 #[.val (.int p0), .val (.int p1), .val (.int p2), .val (.int p3), .val (.int p4), .val (.int n5), .val (.int c6), .val (.int r7), .val (.ref pp), .val (.int p0), .val (.int p0), .val (.int (1 : Int32)), .val (.int p0)] [(.int (1 : Int32))]))
        rw [hF]
        refine own_retZ X12 hx Bd.notSynchronized Bd.returns (hb hby at_182) (by decide) (by decide) ?_
        exact ⟨rfl, N12⟩
      · refine bk (fun t k => XS.ifNo X10.here hx rfl (hb hby at_113) rfl ((if0 _ _).trans (feq hc113_11).1) k) ?_
        show F (T10.setTop (mkF m 116 #[.val (.int p0), .val (.int p1), .val (.int p2), .val (.int p3), .val (.int p4), .val (.int n5), .val (.int c6), .val (.int r7), .val (.ref pp), .val (.int p0), .unset, .unset, .unset] []))
        refine bk (fun t k => XS.aload X10.here hx rfl (hb hby at_116) rfl rfl k) ?_
        show F (T10.setTop (mkF m 118 #[.val (.int p0), .val (.int p1), .val (.int p2), .val (.int p3), .val (.int p4), .val (.int n5), .val (.int c6), .val (.int r7), .val (.ref pp), .val (.int p0), .unset, .unset, .unset] [(.ref pp)]))
        refine bk (fun t k => XS.iloadN X10.here hx rfl (hb hby at_118) rfl k) ?_
        show F (T10.setTop (mkF m 119 #[.val (.int p0), .val (.int p1), .val (.int p2), .val (.int p3), .val (.int p4), .val (.int n5), .val (.int c6), .val (.int r7), .val (.ref pp), .val (.int p0), .unset, .unset, .unset] [(.int p3), (.ref pp)]))
        obtain ⟨cq13, kq13, q13a, q13b, q13c⟩ := isOf hZ rfl (gP10.1)
        obtain ⟨_, _, ⟨T13, L13, k13, n13⟩, -, X13, ⟨Lc13, hQ13, l13, y13, z13⟩, st13⟩ := X10.virtualBack hx (y := (⟨"com/example/quire/quire/readers/Positions", "passed", "(I)V"⟩ : MethodName)) (z := (⟨"com/example/quire/quire/readers/Positions", "passed", "(I)V"⟩ : MethodName)) hown (mvT hZ w_53) (mvT hZ w_54) (notFace_of_selects (args := #[]) (mvT hZ w_56)) (mvT hZ w_56) (mvT hZ w_55) (by decide) (backOf (W := 0) (rm6 l Z a0 hw [] pp p3 rt op kk (1 : Int32) (1 : Int32) p2 p1 (1 : Int32) p0 (0 : Int32) T10.heap n0 gZ10 gP10 g_pp g_op ne_p_rt ne_p_op ne_rt_op) hZ w_57 w_2 (by decide) (by decide)) q13a q13c (g := (mkF m 119 #[.val (.int p0), .val (.int p1), .val (.int p2), .val (.int p3), .val (.int p4), .val (.int n5), .val (.int c6), .val (.int r7), .val (.ref pp), .val (.int p0), .unset, .unset, .unset] [(.int p3), (.ref pp)])) rfl (by rw [hml]; rfl) (Steps.refl _) (argsL := [(.int p3)]) (rest := []) (lenOf pd0__I_V rfl) rfl (by show 2 * 0 + _ ≤ _; exact Nat.le_of_eq rfl) (hb hby at_119) (fun _ _ => ⟨rfl, rfl, (by decide : 4 + 0 ≤ _), (by decide : 87 + 0 ≤ _)⟩)
        dsimp only [Pt.U, Pt.locs, Pt.cells, Pt.slots] at X13 l13 y13 z13 st13 hQ13
        subst l13 y13 z13
        obtain ⟨rfl, N13q, gZ13, gP13⟩ := hQ13
        have N13 := Fr.app N10 N13q
        refine bk (fun t k => st13.trans k) ?_
        show F (T13.setTop (mkF m 122 #[.val (.int p0), .val (.int p1), .val (.int p2), .val (.int p3), .val (.int p4), .val (.int n5), .val (.int c6), .val (.int r7), .val (.ref pp), .val (.int p0), .unset, .unset, .unset] []))
        refine bk (fun t k => XS.aload X13.here hx rfl (hb hby at_122) rfl rfl k) ?_
        show F (T13.setTop (mkF m 124 #[.val (.int p0), .val (.int p1), .val (.int p2), .val (.int p3), .val (.int p4), .val (.int n5), .val (.int c6), .val (.int r7), .val (.ref pp), .val (.int p0), .unset, .unset, .unset] [(.ref pp)]))
        obtain ⟨cq14, kq14, q14a, q14b, q14c⟩ := isOf hZ rfl (gP13.1)
        obtain ⟨_, _, ⟨T14, L14, k14, n14⟩, -, X14, ⟨Lc14, hQ14, l14, y14, z14⟩, st14⟩ := X13.virtualBack hx (y := (⟨"com/example/quire/quire/readers/Positions", "endEntity", "()V"⟩ : MethodName)) (z := (⟨"com/example/quire/quire/readers/Positions", "endEntity", "()V"⟩ : MethodName)) hown (mvT hZ w_67) (mvT hZ w_68) (notFace_of_selects (args := #[]) (mvT hZ w_70)) (mvT hZ w_70) (mvT hZ w_69) (by decide) (backOf (W := 0) (rm8a l Z a0 hw [] pp  rt op kk (1 : Int32) p3 p1 (1 : Int32) p0 (0 : Int32) T13.heap n0 gZ13 gP13 g_pp g_op ne_p_rt ne_p_op ne_rt_op) hZ w_71 w_2 (by decide) (by decide)) q14a q14c (g := (mkF m 124 #[.val (.int p0), .val (.int p1), .val (.int p2), .val (.int p3), .val (.int p4), .val (.int n5), .val (.int c6), .val (.int r7), .val (.ref pp), .val (.int p0), .unset, .unset, .unset] [(.ref pp)])) rfl (by rw [hml]; rfl) (Steps.refl _) (argsL := []) (rest := []) (lenOf pd0___V rfl) rfl (by show 2 * 0 + _ ≤ _; exact Nat.le_of_eq rfl) (hb hby at_124) (fun _ _ => ⟨rfl, rfl, (by decide : 4 + 0 ≤ _), (by decide : 87 + 0 ≤ _)⟩)
        dsimp only [Pt.U, Pt.locs, Pt.cells, Pt.slots] at X14 l14 y14 z14 st14 hQ14
        subst l14 y14 z14
        obtain ⟨rfl, N14q, gZ14, gP14⟩ := hQ14
        have N14 := Fr.app N13 N14q
        refine bk (fun t k => st14.trans k) ?_
        show F (T14.setTop (mkF m 127 #[.val (.int p0), .val (.int p1), .val (.int p2), .val (.int p3), .val (.int p4), .val (.int n5), .val (.int c6), .val (.int r7), .val (.ref pp), .val (.int p0), .unset, .unset, .unset] []))
        refine bk (fun t k => XS.aload X14.here hx rfl (hb hby at_127) rfl rfl k) ?_
        show F (T14.setTop (mkF m 129 #[.val (.int p0), .val (.int p1), .val (.int p2), .val (.int p3), .val (.int p4), .val (.int n5), .val (.int c6), .val (.int r7), .val (.ref pp), .val (.int p0), .unset, .unset, .unset] [(.ref pp)]))
        refine bk (fun t k => XS.iloadN X14.here hx rfl (hb hby at_129) rfl k) ?_
        show F (T14.setTop (mkF m 130 #[.val (.int p0), .val (.int p1), .val (.int p2), .val (.int p3), .val (.int p4), .val (.int n5), .val (.int c6), .val (.int r7), .val (.ref pp), .val (.int p0), .unset, .unset, .unset] [(.int p3), (.ref pp)]))
        obtain ⟨cq15, kq15, q15a, q15b, q15c⟩ := isOf hZ rfl (gP14.1)
        obtain ⟨_, _, ⟨T15, L15, k15, n15⟩, -, X15, ⟨Lc15, hQ15, l15, y15, z15⟩, st15⟩ := X14.virtualBack hx (y := (⟨"com/example/quire/quire/readers/Positions", "start", "(I)I"⟩ : MethodName)) (z := (⟨"com/example/quire/quire/readers/Positions", "start", "(I)I"⟩ : MethodName)) hown (mvT hZ w_37) (mvT hZ w_38) (notFace_of_selects (args := #[]) (mvT hZ w_40)) (mvT hZ w_40) (mvT hZ w_39) (by decide) (backOf (W := 0) (rm4c l Z a0 hw [] pp p3 rt op kk p1 p1 p0 (0 : Int32) T14.heap n0 gZ14 gP14 g_pp g_op ne_p_rt ne_p_op ne_rt_op) hZ w_41 w_2 (by decide) (by decide)) q15a q15c (g := (mkF m 130 #[.val (.int p0), .val (.int p1), .val (.int p2), .val (.int p3), .val (.int p4), .val (.int n5), .val (.int c6), .val (.int r7), .val (.ref pp), .val (.int p0), .unset, .unset, .unset] [(.int p3), (.ref pp)])) rfl (by rw [hml]; rfl) (Steps.refl _) (argsL := [(.int p3)]) (rest := []) (lenOf pd0__I_I rfl) rfl (by show 2 * 0 + _ ≤ _; exact Nat.le_of_eq rfl) (hb hby at_130) (fun _ _ => ⟨rfl, rfl, (by decide : 4 + 0 ≤ _), (by decide : 87 + 0 ≤ _)⟩)
        dsimp only [Pt.U, Pt.locs, Pt.cells, Pt.slots] at X15 l15 y15 z15 st15 hQ15
        subst l15 y15 z15
        obtain ⟨rfl, N15q, gZ15, gP15⟩ := hQ15
        have N15 := Fr.app N14 N15q
        refine bk (fun t k => st15.trans k) ?_
        show F (T15.setTop (mkF m 133 #[.val (.int p0), .val (.int p1), .val (.int p2), .val (.int p3), .val (.int p4), .val (.int n5), .val (.int c6), .val (.int r7), .val (.ref pp), .val (.int p0), .unset, .unset, .unset] [(.int p1)]))
        refine bk (fun t k => XS.istore X15.here hx rfl (hb hby at_133) rfl (l' := #[.val (.int p0), .val (.int p1), .val (.int p2), .val (.int p3), .val (.int p4), .val (.int n5), .val (.int c6), .val (.int r7), .val (.ref pp), .val (.int p0), .val (.int p1), .unset, .unset]) rfl k) ?_
        show F (T15.setTop (mkF m 135 #[.val (.int p0), .val (.int p1), .val (.int p2), .val (.int p3), .val (.int p4), .val (.int n5), .val (.int c6), .val (.int r7), .val (.ref pp), .val (.int p0), .val (.int p1), .unset, .unset] []))
        refine bk (fun t k => XS.iload X15.here hx rfl (hb hby at_135) rfl k) ?_
        show F (T15.setTop (mkF m 137 #[.val (.int p0), .val (.int p1), .val (.int p2), .val (.int p3), .val (.int p4), .val (.int n5), .val (.int c6), .val (.int r7), .val (.ref pp), .val (.int p0), .val (.int p1), .unset, .unset] [(.int n5)]))
        refine bk (fun t k => XS.ifNo X15.here hx rfl (hb hby at_137) rfl ((if0 _ _).trans (feq hc87_4).1) k) ?_
        show F (T15.setTop (mkF m 140 #[.val (.int p0), .val (.int p1), .val (.int p2), .val (.int p3), .val (.int p4), .val (.int n5), .val (.int c6), .val (.int r7), .val (.ref pp), .val (.int p0), .val (.int p1), .unset, .unset] []))
        refine bk (fun t k => XS.iload X15.here hx rfl (hb hby at_140) rfl k) ?_
        show F (T15.setTop (mkF m 142 #[.val (.int p0), .val (.int p1), .val (.int p2), .val (.int p3), .val (.int p4), .val (.int n5), .val (.int c6), .val (.int r7), .val (.ref pp), .val (.int p0), .val (.int p1), .unset, .unset] [(.int c6)]))
        refine bk (fun t k => XS.ifYes X15.here hx rfl (pc0 := 142) (pc' := 149) rfl (hb hby at_142) rfl ((if0 _ _).trans (feq hc113_11).2) (by decide) (by decide) k) ?_
        show F (T15.setTop (mkF m 149 #[.val (.int p0), .val (.int p1), .val (.int p2), .val (.int p3), .val (.int p4), .val (.int n5), .val (.int c6), .val (.int r7), .val (.ref pp), .val (.int p0), .val (.int p1), .unset, .unset] []))
        refine bk (fun t k => XS.iconst X15.here hx rfl (hb hby at_149) k) ?_
        show F (T15.setTop (mkF m 150 #[.val (.int p0), .val (.int p1), .val (.int p2), .val (.int p3), .val (.int p4), .val (.int n5), .val (.int c6), .val (.int r7), .val (.ref pp), .val (.int p0), .val (.int p1), .unset, .unset] [(.int (0 : Int32))]))
        refine bk (fun t k => XS.istore X15.here hx rfl (hb hby at_150) rfl (l' := #[.val (.int p0), .val (.int p1), .val (.int p2), .val (.int p3), .val (.int p4), .val (.int n5), .val (.int c6), .val (.int r7), .val (.ref pp), .val (.int p0), .val (.int p1), .val (.int (0 : Int32)), .unset]) rfl k) ?_
        show F (T15.setTop (mkF m 152 #[.val (.int p0), .val (.int p1), .val (.int p2), .val (.int p3), .val (.int p4), .val (.int n5), .val (.int c6), .val (.int r7), .val (.ref pp), .val (.int p0), .val (.int p1), .val (.int (0 : Int32)), .unset] []))
        refine bk (fun t k => XS.iload X15.here hx rfl (hb hby at_152) rfl k) ?_
        show F (T15.setTop (mkF m 154 #[.val (.int p0), .val (.int p1), .val (.int p2), .val (.int p3), .val (.int p4), .val (.int n5), .val (.int c6), .val (.int r7), .val (.ref pp), .val (.int p0), .val (.int p1), .val (.int (0 : Int32)), .unset] [(.int (0 : Int32))]))
        refine bk (fun t k => XS.ifYes X15.here hx rfl (pc0 := 154) (pc' := 161) rfl (hb hby at_154) rfl ((if0 _ _).trans (teq (by decide : (0 : Int32) = (0 : Int32))).1) (by decide) (by decide) k) ?_
        show F (T15.setTop (mkF m 161 #[.val (.int p0), .val (.int p1), .val (.int p2), .val (.int p3), .val (.int p4), .val (.int n5), .val (.int c6), .val (.int r7), .val (.ref pp), .val (.int p0), .val (.int p1), .val (.int (0 : Int32)), .unset] []))
        refine bk (fun t k => XS.iloadN X15.here hx rfl (hb hby at_161) rfl k) ?_
        show F (T15.setTop (mkF m 162 #[.val (.int p0), .val (.int p1), .val (.int p2), .val (.int p3), .val (.int p4), .val (.int n5), .val (.int c6), .val (.int r7), .val (.ref pp), .val (.int p0), .val (.int p1), .val (.int (0 : Int32)), .unset] [(.int p1)]))
        refine bk (fun t k => XS.istore X15.here hx rfl (hb hby at_162) rfl (l' := #[.val (.int p0), .val (.int p1), .val (.int p2), .val (.int p3), .val (.int p4), .val (.int n5), .val (.int c6), .val (.int r7), .val (.ref pp), .val (.int p0), .val (.int p1), .val (.int (0 : Int32)), .val (.int p1)]) rfl k) ?_
        show F (T15.setTop (mkF m 164 #[.val (.int p0), .val (.int p1), .val (.int p2), .val (.int p3), .val (.int p4), .val (.int n5), .val (.int c6), .val (.int r7), .val (.ref pp), .val (.int p0), .val (.int p1), .val (.int (0 : Int32)), .val (.int p1)] []))
        refine bk (fun t k => XS.iload X15.here hx rfl (hb hby at_164) rfl k) ?_
        show F (T15.setTop (mkF m 166 #[.val (.int p0), .val (.int p1), .val (.int p2), .val (.int p3), .val (.int p4), .val (.int n5), .val (.int c6), .val (.int r7), .val (.ref pp), .val (.int p0), .val (.int p1), .val (.int (0 : Int32)), .val (.int p1)] [(.int p0)]))
        refine bk (fun t k => XS.iloadN X15.here hx rfl (hb hby at_166) rfl k) ?_
        show F (T15.setTop (mkF m 167 #[.val (.int p0), .val (.int p1), .val (.int p2), .val (.int p3), .val (.int p4), .val (.int n5), .val (.int c6), .val (.int r7), .val (.ref pp), .val (.int p0), .val (.int p1), .val (.int (0 : Int32)), .val (.int p1)] [(.int p0), (.int p0)]))
        refine bk (fun t k => XS.icmpNo X15.here hx rfl (hb hby at_167) rfl (teq (rfl : p0 = p0)).2 k) ?_
        show F (T15.setTop (mkF m 170 #[.val (.int p0), .val (.int p1), .val (.int p2), .val (.int p3), .val (.int p4), .val (.int n5), .val (.int c6), .val (.int r7), .val (.ref pp), .val (.int p0), .val (.int p1), .val (.int (0 : Int32)), .val (.int p1)] []))
        refine bk (fun t k => XS.iload X15.here hx rfl (hb hby at_170) rfl k) ?_
        show F (T15.setTop (mkF m 172 #[.val (.int p0), .val (.int p1), .val (.int p2), .val (.int p3), .val (.int p4), .val (.int n5), .val (.int c6), .val (.int r7), .val (.ref pp), .val (.int p0), .val (.int p1), .val (.int (0 : Int32)), .val (.int p1)] [(.int p1)]))
        refine bk (fun t k => XS.iload X15.here hx rfl (hb hby at_172) rfl k) ?_
        show F (T15.setTop (mkF m 174 #[.val (.int p0), .val (.int p1), .val (.int p2), .val (.int p3), .val (.int p4), .val (.int n5), .val (.int c6), .val (.int r7), .val (.ref pp), .val (.int p0), .val (.int p1), .val (.int (0 : Int32)), .val (.int p1)] [(.int p1), (.int p1)]))
        refine bk (fun t k => XS.icmpNo X15.here hx rfl (hb hby at_174) rfl (teq (rfl : p1 = p1)).2 k) ?_
        show F (T15.setTop (mkF m 177 #[.val (.int p0), .val (.int p1), .val (.int p2), .val (.int p3), .val (.int p4), .val (.int n5), .val (.int c6), .val (.int r7), .val (.ref pp), .val (.int p0), .val (.int p1), .val (.int (0 : Int32)), .val (.int p1)] []))
        refine bk (fun t k => XS.iconst X15.here hx rfl (hb hby at_177) k) ?_
        show F (T15.setTop (mkF m 178 #[.val (.int p0), .val (.int p1), .val (.int p2), .val (.int p3), .val (.int p4), .val (.int n5), .val (.int c6), .val (.int r7), .val (.ref pp), .val (.int p0), .val (.int p1), .val (.int (0 : Int32)), .val (.int p1)] [(.int (1 : Int32))]))
        refine bk (fun t k => XS.goto X15.here hx rfl (pc0 := 178) (pc' := 182) rfl (hb hby at_178) (by decide) (by decide) k) ?_
        show F (T15.setTop (mkF m 182 #[.val (.int p0), .val (.int p1), .val (.int p2), .val (.int p3), .val (.int p4), .val (.int n5), .val (.int c6), .val (.int r7), .val (.ref pp), .val (.int p0), .val (.int p1), .val (.int (0 : Int32)), .val (.int p1)] [(.int (1 : Int32))]))
        rw [hF]
        refine own_retZ X15 hx Bd.notSynchronized Bd.returns (hb hby at_182) (by decide) (by decide) ?_
        exact ⟨rfl, N15⟩
  have J42 : ∀ (n5 : Int32) (c6 : Int32) (r7 : Int32), F (s₁.setTop (mkF m 42 #[.val (.int p0), .val (.int p1), .val (.int p2), .val (.int p3), .val (.int p4), .val (.int n5), .val (.int c6), .val (.int r7), .unset, .unset, .unset, .unset, .unset] [])) := by
    intro n5 c6 r7
    show F (s₁.setTop (mkF m 42 #[.val (.int p0), .val (.int p1), .val (.int p2), .val (.int p3), .val (.int p4), .val (.int n5), .val (.int c6), .val (.int r7), .unset, .unset, .unset, .unset, .unset] []))
    obtain ⟨T16, h16, X16, e16, E16, A16, D16, -, st16⟩ := newO X0 hx hZ hown w_0 w_1 w_2 e0 (g := (mkF m 42 #[.val (.int p0), .val (.int p1), .val (.int p2), .val (.int p3), .val (.int p4), .val (.int n5), .val (.int c6), .val (.int r7), .unset, .unset, .unset, .unset, .unset] [])) rfl (hb hby at_42) (by decide) (by decide)
    obtain ⟨b16, g16⟩ : ∃ z, z = h0.size := ⟨_, rfl⟩
    rw [← g16] at A16 D16 st16
    have Gb16 : n0 ≤ b16 := Nat.le_trans Z0 (Nat.le_of_eq g16.symm)
    have f17 := Nat.le_trans Z0 E16.1
    have f18 := S_PROLOG.ext E16
    have F_root_b16 : Fld Z h16 b16 "com/example/quire/quire/readers/Positions" "root" "Lcom/example/quire/quire/readers/RootLine;" .null := D16 (Or.inr w_31) (ty := (.object "com/example/quire/quire/readers/RootLine")) (by decide)
    have F_open_b16 : Fld Z h16 b16 "com/example/quire/quire/readers/Positions" "open" "[I" .null := D16 (Or.inl w_34) (ty := (.array .int)) (by decide)
    have F_before_b16 : Fld Z h16 b16 "com/example/quire/quire/readers/Positions" "before" "I" (.int (0 : Int32)) := D16 (Or.inl w_36) (ty := .int) (by decide)
    have F_rootSeen_b16 : Fld Z h16 b16 "com/example/quire/quire/readers/Positions" "rootSeen" "Z" (.int (0 : Int32)) := D16 (Or.inl w_43) (ty := .boolean) (by decide)
    have F_depth_b16 : Fld Z h16 b16 "com/example/quire/quire/readers/Positions" "depth" "I" (.int (0 : Int32)) := D16 (Or.inl w_52) (ty := .int) (by decide)
    have F_entities_b16 : Fld Z h16 b16 "com/example/quire/quire/readers/Positions" "entities" "I" (.int (0 : Int32)) := D16 (Or.inl w_64) (ty := .int) (by decide)
    have F_referenceLine_b16 : Fld Z h16 b16 "com/example/quire/quire/readers/Positions" "referenceLine" "I" (.int (0 : Int32)) := D16 (Or.inl w_66) (ty := .int) (by decide)
    refine bk (fun t k => st16 t k) ?_
    show F (T16.setTop (mkF m 45 #[.val (.int p0), .val (.int p1), .val (.int p2), .val (.int p3), .val (.int p4), .val (.int n5), .val (.int c6), .val (.int r7), .unset, .unset, .unset, .unset, .unset] [(.ref b16)]))
    refine bk (fun t k => XS.dup X16.here hx rfl (hb hby at_45) rfl rfl k) ?_
    show F (T16.setTop (mkF m 46 #[.val (.int p0), .val (.int p1), .val (.int p2), .val (.int p3), .val (.int p4), .val (.int n5), .val (.int c6), .val (.int r7), .unset, .unset, .unset, .unset, .unset] [(.ref b16), (.ref b16)]))
    obtain ⟨_, _, ⟨T19, L19, k19, n19⟩, -, X19, ⟨Lc19, hQ19, l19, y19, z19⟩, st19⟩ := X16.specialBack hx (y := (⟨"com/example/quire/quire/readers/Positions", "<init>", "()V"⟩ : MethodName)) rfl hown (mvT hZ w_3) (mvT hZ w_4) (mvT hZ w_5) (by decide) (backOf (W := 1) (rm1 l Z a0 hw [] b16 w_PROLOG h16 n0 f17 A16 F_root_b16 F_open_b16 F_rootSeen_b16 F_entities_b16 F_before_b16 F_referenceLine_b16 F_depth_b16 Gb16 f18) hZ w_5 w_2 (by decide) (by decide)) (g := (mkF m 46 #[.val (.int p0), .val (.int p1), .val (.int p2), .val (.int p3), .val (.int p4), .val (.int n5), .val (.int c6), .val (.int r7), .unset, .unset, .unset, .unset, .unset] [(.ref b16), (.ref b16)])) rfl (by rw [hml]; rfl) (Steps.refl _) (a := b16) (argsL := []) (rest := [(.ref b16)]) (lenOf pd0___V rfl) rfl (by show 2 * 0 + _ ≤ _; exact Nat.le_of_eq rfl) (hb hby at_46) (fun _ _ => ⟨rfl, e16, (by decide : 1 + 3 ≤ _), (by decide : 7 + 80 ≤ _)⟩)
    dsimp only [Pt.U, Pt.locs, Pt.cells, Pt.slots] at X19 l19 y19 z19 st19 hQ19
    subst l19 y19 z19
    obtain ⟨rfl, N19q, gZ19, rt, op, kk, gP19, ne_p_rt, ne_p_op, ne_rt_op, g_op⟩ := hQ19
    have N19 := Fr.app N0 N19q
    refine bk (fun t k => st19.trans k) ?_
    show F (T19.setTop (mkF m 49 #[.val (.int p0), .val (.int p1), .val (.int p2), .val (.int p3), .val (.int p4), .val (.int n5), .val (.int c6), .val (.int r7), .unset, .unset, .unset, .unset, .unset] [(.ref b16)]))
    refine bk (fun t k => XS.astore X19.here hx rfl (hb hby at_49) rfl rfl (l' := #[.val (.int p0), .val (.int p1), .val (.int p2), .val (.int p3), .val (.int p4), .val (.int n5), .val (.int c6), .val (.int r7), .val (.ref b16), .unset, .unset, .unset, .unset]) rfl k) ?_
    show F (T19.setTop (mkF m 51 #[.val (.int p0), .val (.int p1), .val (.int p2), .val (.int p3), .val (.int p4), .val (.int n5), .val (.int c6), .val (.int r7), .val (.ref b16), .unset, .unset, .unset, .unset] []))
    refine bk (fun t k => XS.iload X19.here hx rfl (hb hby at_51) rfl k) ?_
    show F (T19.setTop (mkF m 53 #[.val (.int p0), .val (.int p1), .val (.int p2), .val (.int p3), .val (.int p4), .val (.int n5), .val (.int c6), .val (.int r7), .val (.ref b16), .unset, .unset, .unset, .unset] [(.int r7)]))
    by_cases hc53_20 : r7 = (0 : Int32)
    · refine bk (fun t k => XS.ifYes X19.here hx rfl (pc0 := 53) (pc' := 66) rfl (hb hby at_53) rfl ((if0 _ _).trans (teq hc53_20).1) (by decide) (by decide) k) ?_
      show F (T19.setTop (mkF m 66 #[.val (.int p0), .val (.int p1), .val (.int p2), .val (.int p3), .val (.int p4), .val (.int n5), .val (.int c6), .val (.int r7), .val (.ref b16), .unset, .unset, .unset, .unset] []))
      exact J66 _ _ T19.heap X19 rfl N19 _ _ _ _ _ _ _ _ gZ19 gP19 Gb16 g_op ne_p_rt ne_p_op ne_rt_op
    · refine bk (fun t k => XS.ifNo X19.here hx rfl (hb hby at_53) rfl ((if0 _ _).trans (feq hc53_20).1) k) ?_
      show F (T19.setTop (mkF m 56 #[.val (.int p0), .val (.int p1), .val (.int p2), .val (.int p3), .val (.int p4), .val (.int n5), .val (.int c6), .val (.int r7), .val (.ref b16), .unset, .unset, .unset, .unset] []))
      refine bk (fun t k => XS.aload X19.here hx rfl (hb hby at_56) rfl rfl k) ?_
      show F (T19.setTop (mkF m 58 #[.val (.int p0), .val (.int p1), .val (.int p2), .val (.int p3), .val (.int p4), .val (.int n5), .val (.int c6), .val (.int r7), .val (.ref b16), .unset, .unset, .unset, .unset] [(.ref b16)]))
      obtain ⟨cq21, kq21, q21a, q21b, q21c⟩ := isOf hZ rfl (gP19.1)
      obtain ⟨_, _, ⟨T21, L21, k21, n21⟩, -, X21, ⟨Lc21, hQ21, l21, y21, z21⟩, st21⟩ := X19.virtualBack hx (y := (⟨"com/example/quire/quire/readers/Positions", "startEntity", "()V"⟩ : MethodName)) (z := (⟨"com/example/quire/quire/readers/Positions", "startEntity", "()V"⟩ : MethodName)) hown (mvT hZ w_58) (mvT hZ w_59) (notFace_of_selects (args := #[]) (mvT hZ w_61)) (mvT hZ w_61) (mvT hZ w_60) (by decide) (backOf (W := 0) (rm7a l Z a0 hw [] b16  rt op kk (0 : Int32) (1 : Int32) (0 : Int32) (0 : Int32) (0 : Int32) (0 : Int32) T19.heap n0 gZ19 gP19 Gb16 g_op ne_p_rt ne_p_op ne_rt_op) hZ w_62 w_2 (by decide) (by decide)) q21a q21c (g := (mkF m 58 #[.val (.int p0), .val (.int p1), .val (.int p2), .val (.int p3), .val (.int p4), .val (.int n5), .val (.int c6), .val (.int r7), .val (.ref b16), .unset, .unset, .unset, .unset] [(.ref b16)])) rfl (by rw [hml]; rfl) (Steps.refl _) (argsL := []) (rest := []) (lenOf pd0___V rfl) rfl (by show 2 * 0 + _ ≤ _; exact Nat.le_of_eq rfl) (hb hby at_58) (fun _ _ => ⟨rfl, rfl, (by decide : 4 + 0 ≤ _), (by decide : 87 + 0 ≤ _)⟩)
      dsimp only [Pt.U, Pt.locs, Pt.cells, Pt.slots] at X21 l21 y21 z21 st21 hQ21
      subst l21 y21 z21
      obtain ⟨rfl, N21q, gZ21, gP21⟩ := hQ21
      have N21 := Fr.app N19 N21q
      refine bk (fun t k => st21.trans k) ?_
      show F (T21.setTop (mkF m 61 #[.val (.int p0), .val (.int p1), .val (.int p2), .val (.int p3), .val (.int p4), .val (.int n5), .val (.int c6), .val (.int r7), .val (.ref b16), .unset, .unset, .unset, .unset] []))
      refine bk (fun t k => XS.aload X21.here hx rfl (hb hby at_61) rfl rfl k) ?_
      show F (T21.setTop (mkF m 63 #[.val (.int p0), .val (.int p1), .val (.int p2), .val (.int p3), .val (.int p4), .val (.int n5), .val (.int c6), .val (.int r7), .val (.ref b16), .unset, .unset, .unset, .unset] [(.ref b16)]))
      obtain ⟨cq22, kq22, q22a, q22b, q22c⟩ := isOf hZ rfl (gP21.1)
      obtain ⟨_, _, ⟨T22, L22, k22, n22⟩, -, X22, ⟨Lc22, hQ22, l22, y22, z22⟩, st22⟩ := X21.virtualBack hx (y := (⟨"com/example/quire/quire/readers/Positions", "endEntity", "()V"⟩ : MethodName)) (z := (⟨"com/example/quire/quire/readers/Positions", "endEntity", "()V"⟩ : MethodName)) hown (mvT hZ w_67) (mvT hZ w_68) (notFace_of_selects (args := #[]) (mvT hZ w_70)) (mvT hZ w_70) (mvT hZ w_69) (by decide) (backOf (W := 0) (rm8a l Z a0 hw [] b16  rt op kk (0 : Int32) (1 : Int32) (1 : Int32) (0 : Int32) (0 : Int32) (0 : Int32) T21.heap n0 gZ21 gP21 Gb16 g_op ne_p_rt ne_p_op ne_rt_op) hZ w_71 w_2 (by decide) (by decide)) q22a q22c (g := (mkF m 63 #[.val (.int p0), .val (.int p1), .val (.int p2), .val (.int p3), .val (.int p4), .val (.int n5), .val (.int c6), .val (.int r7), .val (.ref b16), .unset, .unset, .unset, .unset] [(.ref b16)])) rfl (by rw [hml]; rfl) (Steps.refl _) (argsL := []) (rest := []) (lenOf pd0___V rfl) rfl (by show 2 * 0 + _ ≤ _; exact Nat.le_of_eq rfl) (hb hby at_63) (fun _ _ => ⟨rfl, rfl, (by decide : 4 + 0 ≤ _), (by decide : 87 + 0 ≤ _)⟩)
      dsimp only [Pt.U, Pt.locs, Pt.cells, Pt.slots] at X22 l22 y22 z22 st22 hQ22
      subst l22 y22 z22
      obtain ⟨rfl, N22q, gZ22, gP22⟩ := hQ22
      have N22 := Fr.app N21 N22q
      refine bk (fun t k => st22.trans k) ?_
      show F (T22.setTop (mkF m 66 #[.val (.int p0), .val (.int p1), .val (.int p2), .val (.int p3), .val (.int p4), .val (.int n5), .val (.int c6), .val (.int r7), .val (.ref b16), .unset, .unset, .unset, .unset] []))
      exact J66 _ _ T22.heap X22 rfl N22 _ _ _ _ _ _ _ _ gZ22 gP22 Gb16 g_op ne_p_rt ne_p_op ne_rt_op
  have J28 : ∀ (n5 : Int32) (c6 : Int32), F (s₁.setTop (mkF m 28 #[.val (.int p0), .val (.int p1), .val (.int p2), .val (.int p3), .val (.int p4), .val (.int n5), .val (.int c6), .unset, .unset, .unset, .unset, .unset, .unset] [])) := by
    intro n5 c6
    show F (s₁.setTop (mkF m 28 #[.val (.int p0), .val (.int p1), .val (.int p2), .val (.int p3), .val (.int p4), .val (.int n5), .val (.int c6), .unset, .unset, .unset, .unset, .unset, .unset] []))
    refine bk (fun t k => XS.iload X0.here hx rfl (hb hby at_28) rfl k) ?_
    show F (s₁.setTop (mkF m 30 #[.val (.int p0), .val (.int p1), .val (.int p2), .val (.int p3), .val (.int p4), .val (.int n5), .val (.int c6), .unset, .unset, .unset, .unset, .unset, .unset] [(.int p4)]))
    refine bk (fun t k => XS.iconst X0.here hx rfl (hb hby at_30) k) ?_
    show F (s₁.setTop (mkF m 31 #[.val (.int p0), .val (.int p1), .val (.int p2), .val (.int p3), .val (.int p4), .val (.int n5), .val (.int c6), .unset, .unset, .unset, .unset, .unset, .unset] [(.int (4 : Int32)), (.int p4)]))
    refine bk (fun t k => XS.iand X0.here hx rfl (hb hby at_31) rfl k) ?_
    show F (s₁.setTop (mkF m 32 #[.val (.int p0), .val (.int p1), .val (.int p2), .val (.int p3), .val (.int p4), .val (.int n5), .val (.int c6), .unset, .unset, .unset, .unset, .unset, .unset] [(.int (p4 &&& (4 : Int32)))]))
    by_cases hc32_23 : (p4 &&& (4 : Int32)) = (0 : Int32)
    · refine bk (fun t k => XS.ifYes X0.here hx rfl (pc0 := 32) (pc' := 39) rfl (hb hby at_32) rfl ((if0 _ _).trans (teq hc32_23).1) (by decide) (by decide) k) ?_
      show F (s₁.setTop (mkF m 39 #[.val (.int p0), .val (.int p1), .val (.int p2), .val (.int p3), .val (.int p4), .val (.int n5), .val (.int c6), .unset, .unset, .unset, .unset, .unset, .unset] []))
      refine bk (fun t k => XS.iconst X0.here hx rfl (hb hby at_39) k) ?_
      show F (s₁.setTop (mkF m 40 #[.val (.int p0), .val (.int p1), .val (.int p2), .val (.int p3), .val (.int p4), .val (.int n5), .val (.int c6), .unset, .unset, .unset, .unset, .unset, .unset] [(.int (0 : Int32))]))
      refine bk (fun t k => XS.istore X0.here hx rfl (hb hby at_40) rfl (l' := #[.val (.int p0), .val (.int p1), .val (.int p2), .val (.int p3), .val (.int p4), .val (.int n5), .val (.int c6), .val (.int (0 : Int32)), .unset, .unset, .unset, .unset, .unset]) rfl k) ?_
      show F (s₁.setTop (mkF m 42 #[.val (.int p0), .val (.int p1), .val (.int p2), .val (.int p3), .val (.int p4), .val (.int n5), .val (.int c6), .val (.int (0 : Int32)), .unset, .unset, .unset, .unset, .unset] []))
      exact J42 _ _ _
    · refine bk (fun t k => XS.ifNo X0.here hx rfl (hb hby at_32) rfl ((if0 _ _).trans (feq hc32_23).1) k) ?_
      show F (s₁.setTop (mkF m 35 #[.val (.int p0), .val (.int p1), .val (.int p2), .val (.int p3), .val (.int p4), .val (.int n5), .val (.int c6), .unset, .unset, .unset, .unset, .unset, .unset] []))
      refine bk (fun t k => XS.iconst X0.here hx rfl (hb hby at_35) k) ?_
      show F (s₁.setTop (mkF m 36 #[.val (.int p0), .val (.int p1), .val (.int p2), .val (.int p3), .val (.int p4), .val (.int n5), .val (.int c6), .unset, .unset, .unset, .unset, .unset, .unset] [(.int (1 : Int32))]))
      refine bk (fun t k => XS.goto X0.here hx rfl (pc0 := 36) (pc' := 40) rfl (hb hby at_36) (by decide) (by decide) k) ?_
      show F (s₁.setTop (mkF m 40 #[.val (.int p0), .val (.int p1), .val (.int p2), .val (.int p3), .val (.int p4), .val (.int n5), .val (.int c6), .unset, .unset, .unset, .unset, .unset, .unset] [(.int (1 : Int32))]))
      refine bk (fun t k => XS.istore X0.here hx rfl (hb hby at_40) rfl (l' := #[.val (.int p0), .val (.int p1), .val (.int p2), .val (.int p3), .val (.int p4), .val (.int n5), .val (.int c6), .val (.int (1 : Int32)), .unset, .unset, .unset, .unset, .unset]) rfl k) ?_
      show F (s₁.setTop (mkF m 42 #[.val (.int p0), .val (.int p1), .val (.int p2), .val (.int p3), .val (.int p4), .val (.int n5), .val (.int c6), .val (.int (1 : Int32)), .unset, .unset, .unset, .unset, .unset] []))
      exact J42 _ _ _
  have J14 : ∀ (n5 : Int32), F (s₁.setTop (mkF m 14 #[.val (.int p0), .val (.int p1), .val (.int p2), .val (.int p3), .val (.int p4), .val (.int n5), .unset, .unset, .unset, .unset, .unset, .unset, .unset] [])) := by
    intro n5
    show F (s₁.setTop (mkF m 14 #[.val (.int p0), .val (.int p1), .val (.int p2), .val (.int p3), .val (.int p4), .val (.int n5), .unset, .unset, .unset, .unset, .unset, .unset, .unset] []))
    refine bk (fun t k => XS.iload X0.here hx rfl (hb hby at_14) rfl k) ?_
    show F (s₁.setTop (mkF m 16 #[.val (.int p0), .val (.int p1), .val (.int p2), .val (.int p3), .val (.int p4), .val (.int n5), .unset, .unset, .unset, .unset, .unset, .unset, .unset] [(.int p4)]))
    refine bk (fun t k => XS.iconst X0.here hx rfl (hb hby at_16) k) ?_
    show F (s₁.setTop (mkF m 17 #[.val (.int p0), .val (.int p1), .val (.int p2), .val (.int p3), .val (.int p4), .val (.int n5), .unset, .unset, .unset, .unset, .unset, .unset, .unset] [(.int (2 : Int32)), (.int p4)]))
    refine bk (fun t k => XS.iand X0.here hx rfl (hb hby at_17) rfl k) ?_
    show F (s₁.setTop (mkF m 18 #[.val (.int p0), .val (.int p1), .val (.int p2), .val (.int p3), .val (.int p4), .val (.int n5), .unset, .unset, .unset, .unset, .unset, .unset, .unset] [(.int (p4 &&& (2 : Int32)))]))
    by_cases hc18_24 : (p4 &&& (2 : Int32)) = (0 : Int32)
    · refine bk (fun t k => XS.ifYes X0.here hx rfl (pc0 := 18) (pc' := 25) rfl (hb hby at_18) rfl ((if0 _ _).trans (teq hc18_24).1) (by decide) (by decide) k) ?_
      show F (s₁.setTop (mkF m 25 #[.val (.int p0), .val (.int p1), .val (.int p2), .val (.int p3), .val (.int p4), .val (.int n5), .unset, .unset, .unset, .unset, .unset, .unset, .unset] []))
      refine bk (fun t k => XS.iconst X0.here hx rfl (hb hby at_25) k) ?_
      show F (s₁.setTop (mkF m 26 #[.val (.int p0), .val (.int p1), .val (.int p2), .val (.int p3), .val (.int p4), .val (.int n5), .unset, .unset, .unset, .unset, .unset, .unset, .unset] [(.int (0 : Int32))]))
      refine bk (fun t k => XS.istore X0.here hx rfl (hb hby at_26) rfl (l' := #[.val (.int p0), .val (.int p1), .val (.int p2), .val (.int p3), .val (.int p4), .val (.int n5), .val (.int (0 : Int32)), .unset, .unset, .unset, .unset, .unset, .unset]) rfl k) ?_
      show F (s₁.setTop (mkF m 28 #[.val (.int p0), .val (.int p1), .val (.int p2), .val (.int p3), .val (.int p4), .val (.int n5), .val (.int (0 : Int32)), .unset, .unset, .unset, .unset, .unset, .unset] []))
      exact J28 _ _
    · refine bk (fun t k => XS.ifNo X0.here hx rfl (hb hby at_18) rfl ((if0 _ _).trans (feq hc18_24).1) k) ?_
      show F (s₁.setTop (mkF m 21 #[.val (.int p0), .val (.int p1), .val (.int p2), .val (.int p3), .val (.int p4), .val (.int n5), .unset, .unset, .unset, .unset, .unset, .unset, .unset] []))
      refine bk (fun t k => XS.iconst X0.here hx rfl (hb hby at_21) k) ?_
      show F (s₁.setTop (mkF m 22 #[.val (.int p0), .val (.int p1), .val (.int p2), .val (.int p3), .val (.int p4), .val (.int n5), .unset, .unset, .unset, .unset, .unset, .unset, .unset] [(.int (1 : Int32))]))
      refine bk (fun t k => XS.goto X0.here hx rfl (pc0 := 22) (pc' := 26) rfl (hb hby at_22) (by decide) (by decide) k) ?_
      show F (s₁.setTop (mkF m 26 #[.val (.int p0), .val (.int p1), .val (.int p2), .val (.int p3), .val (.int p4), .val (.int n5), .unset, .unset, .unset, .unset, .unset, .unset, .unset] [(.int (1 : Int32))]))
      refine bk (fun t k => XS.istore X0.here hx rfl (hb hby at_26) rfl (l' := #[.val (.int p0), .val (.int p1), .val (.int p2), .val (.int p3), .val (.int p4), .val (.int n5), .val (.int (1 : Int32)), .unset, .unset, .unset, .unset, .unset, .unset]) rfl k) ?_
      show F (s₁.setTop (mkF m 28 #[.val (.int p0), .val (.int p1), .val (.int p2), .val (.int p3), .val (.int p4), .val (.int n5), .val (.int (1 : Int32)), .unset, .unset, .unset, .unset, .unset, .unset] []))
      exact J28 _ _
  show F (s₁.setTop (mkF m 0 #[.val (.int p0), .val (.int p1), .val (.int p2), .val (.int p3), .val (.int p4), .unset, .unset, .unset, .unset, .unset, .unset, .unset, .unset] []))
  refine bk (fun t k => XS.iload X0.here hx rfl (hb hby at_0) rfl k) ?_
  show F (s₁.setTop (mkF m 2 #[.val (.int p0), .val (.int p1), .val (.int p2), .val (.int p3), .val (.int p4), .unset, .unset, .unset, .unset, .unset, .unset, .unset, .unset] [(.int p4)]))
  refine bk (fun t k => XS.iconst X0.here hx rfl (hb hby at_2) k) ?_
  show F (s₁.setTop (mkF m 3 #[.val (.int p0), .val (.int p1), .val (.int p2), .val (.int p3), .val (.int p4), .unset, .unset, .unset, .unset, .unset, .unset, .unset, .unset] [(.int (1 : Int32)), (.int p4)]))
  refine bk (fun t k => XS.iand X0.here hx rfl (hb hby at_3) rfl k) ?_
  show F (s₁.setTop (mkF m 4 #[.val (.int p0), .val (.int p1), .val (.int p2), .val (.int p3), .val (.int p4), .unset, .unset, .unset, .unset, .unset, .unset, .unset, .unset] [(.int (p4 &&& (1 : Int32)))]))
  by_cases hc4_25 : (p4 &&& (1 : Int32)) = (0 : Int32)
  · refine bk (fun t k => XS.ifYes X0.here hx rfl (pc0 := 4) (pc' := 11) rfl (hb hby at_4) rfl ((if0 _ _).trans (teq hc4_25).1) (by decide) (by decide) k) ?_
    show F (s₁.setTop (mkF m 11 #[.val (.int p0), .val (.int p1), .val (.int p2), .val (.int p3), .val (.int p4), .unset, .unset, .unset, .unset, .unset, .unset, .unset, .unset] []))
    refine bk (fun t k => XS.iconst X0.here hx rfl (hb hby at_11) k) ?_
    show F (s₁.setTop (mkF m 12 #[.val (.int p0), .val (.int p1), .val (.int p2), .val (.int p3), .val (.int p4), .unset, .unset, .unset, .unset, .unset, .unset, .unset, .unset] [(.int (0 : Int32))]))
    refine bk (fun t k => XS.istore X0.here hx rfl (hb hby at_12) rfl (l' := #[.val (.int p0), .val (.int p1), .val (.int p2), .val (.int p3), .val (.int p4), .val (.int (0 : Int32)), .unset, .unset, .unset, .unset, .unset, .unset, .unset]) rfl k) ?_
    show F (s₁.setTop (mkF m 14 #[.val (.int p0), .val (.int p1), .val (.int p2), .val (.int p3), .val (.int p4), .val (.int (0 : Int32)), .unset, .unset, .unset, .unset, .unset, .unset, .unset] []))
    exact J14 _
  · refine bk (fun t k => XS.ifNo X0.here hx rfl (hb hby at_4) rfl ((if0 _ _).trans (feq hc4_25).1) k) ?_
    show F (s₁.setTop (mkF m 7 #[.val (.int p0), .val (.int p1), .val (.int p2), .val (.int p3), .val (.int p4), .unset, .unset, .unset, .unset, .unset, .unset, .unset, .unset] []))
    refine bk (fun t k => XS.iconst X0.here hx rfl (hb hby at_7) k) ?_
    show F (s₁.setTop (mkF m 8 #[.val (.int p0), .val (.int p1), .val (.int p2), .val (.int p3), .val (.int p4), .unset, .unset, .unset, .unset, .unset, .unset, .unset, .unset] [(.int (1 : Int32))]))
    refine bk (fun t k => XS.goto X0.here hx rfl (pc0 := 8) (pc' := 12) rfl (hb hby at_8) (by decide) (by decide) k) ?_
    show F (s₁.setTop (mkF m 12 #[.val (.int p0), .val (.int p1), .val (.int p2), .val (.int p3), .val (.int p4), .unset, .unset, .unset, .unset, .unset, .unset, .unset, .unset] [(.int (1 : Int32))]))
    refine bk (fun t k => XS.istore X0.here hx rfl (hb hby at_12) rfl (l' := #[.val (.int p0), .val (.int p1), .val (.int p2), .val (.int p3), .val (.int p4), .val (.int (1 : Int32)), .unset, .unset, .unset, .unset, .unset, .unset, .unset]) rfl k) ?_
    show F (s₁.setTop (mkF m 14 #[.val (.int p0), .val (.int p1), .val (.int p2), .val (.int p3), .val (.int p4), .val (.int (1 : Int32)), .unset, .unset, .unset, .unset, .unset, .unset, .unset] []))
    exact J14 _
set_option maxRecDepth 65536 in
set_option maxHeartbeats 40000000 in
theorem comes_1 {Post : Tables → Env → Array Value → State → Outcome → State → Prop} (hpost : ∀ tb e args s v u, (limb_1_1.after args s (.returned v) u = true ∧ limb_1_2.after args s (.returned v) u = true ∧ True) → FrameEnd s (.returned v) u (Jvm.fieldLocs frame_1_writes args s ++ Jvm.arrayLocs frame_1_arrays args s ++ Jvm.staticLocs frame_1_statics s) 16 256 → Post tb e args s (.returned v) u) :
    ArmFor flags0 classFile x code maxLocals ret World_1 tables_1 room_1 Calls_1 rest_1 Pre_1 Post := by
  intro l hfl _ _ p e ha hc hk s m args below hf hA hF happ hP
  obtain ⟨hcalls, hrest, hpre⟩ := hP
  obtain ⟨-, -, -, hnamed, -, -, -, hat⟩ := (Spec.applies_iff hf).mp happ
  obtain ⟨hg, hn⟩ := and_e (Cond.before_iff.mp (show (Jvm.Cond.and given_1 narrow_1).before args s = true from hpre))
  obtain ⟨hcount, hk0⟩ := and_e hg
  obtain ⟨hi0, hk1⟩ := and_e hk0
  obtain ⟨hi1, hk2⟩ := and_e hk1
  obtain ⟨hi2, hk3⟩ := and_e hk2
  obtain ⟨hi3, hk4⟩ := and_e hk3
  have hi4 := hk4
  obtain ⟨w0, w1, w2, w3, w4, rfl⟩ : ∃ w0 w1 w2 w3 w4 : Value, args = #[w0, w1, w2, w3, w4] := by
    have hs : args.size = 5 := by simpa [Cond.value, given_1] using hcount
    obtain ⟨L⟩ := args
    match L, hs with
    | [w0, w1, w2, w3, w4], _ => exact ⟨w0, w1, w2, w3, w4, rfl⟩
  have hw := fun d (hd : d ∈ tables_1) => atoms_spec (ws := Jvm.Cond.code x code maxLocals ret :: tables_1) hat d (List.mem_cons_of_mem _ hd)
  obtain ⟨i0, ei0⟩ := is_v hi0
  obtain rfl : w0 = (.int i0) := Option.some.inj ei0
  obtain ⟨i1, ei1⟩ := is_v hi1
  obtain rfl : w1 = (.int i1) := Option.some.inj ei1
  obtain ⟨i2, ei2⟩ := is_v hi2
  obtain rfl : w2 = (.int i2) := Option.some.inj ei2
  obtain ⟨i3, ei3⟩ := is_v hi3
  obtain rfl : w3 = (.int i3) := Option.some.inj ei3
  obtain ⟨i4, ei4⟩ := is_v hi4
  obtain rfl : w4 = (.int i4) := Option.some.inj ei4
  obtain ⟨w_PROLOG, ev_PROLOG⟩ := exa_v hn
  have S_PROLOG : Sta s s.heap "com/example/quire/quire/readers/RootLine$State" "PROLOG" "Lcom/example/quire/quire/readers/RootLine$State;" (.ref w_PROLOG) := Sta.start ev_PROLOG (Or.inr ⟨(hw _ (List.mem_of_getElem? (i := 22) rfl)), (hw _ (List.mem_of_getElem? (i := 23) rfl))⟩)
  have E_PROLOG : Exa s s.heap w_PROLOG "com/example/quire/quire/readers/RootLine$State" := Exa.start ev_PROLOG hn
  obtain ⟨n, o, h1, h2, h3, _, L, rfl, ⟨rfl, N⟩, hq⟩ := rm0 l s _ hw tables_1 i0 i1 i2 i3 i4 w_PROLOG s.heap s.heap.size (Nat.le_refl _) S_PROLOG p e ha hc hk s m _ below hf ((Spec.applies_iff_loose hf).mp happ).1 ⟨rfl, State.Warmed39.refl s, rfl⟩ trivial
  refine ⟨n, _, h1, h2, h3, hpost _ _ _ _ _ _ ⟨Cond.after_iff.mpr rfl, Cond.after_iff.mpr (eq_i res_at (Term.int_eval (1)) rfl), trivial⟩ ⟨hq.1, hq.2.1, (hq.2.2.sift fun y hy => Or.inr (N y hy)).mono (by decide) (by decide)⟩⟩
theorem main_1_1 : Claimed_1_1 := comes_1 fun _ _ _ _ _ _ h hF => ⟨h.1, hF⟩
theorem main_1_2 : Claimed_1_2 := comes_1 fun _ _ _ _ _ _ h hF => ⟨h.2.1, hF⟩
end Jvm.Pilot.@@N@@
namespace Jvm.Pilot.@@N@@
open Jvm Jvm.ClassFile Sem Op Lib Jvm.Free Jvm.Stand Jvm.Pilot.@@N@@.Jvm.D
/-! MADE BY PROGRAM (witnessworld.py) out of the Statement's table words and the real class files: 14 classes; the members and pool entries that the words name. The judged class is class 1, her method 1. -/
namespace start1
open Jvm.ClassFile
def u (s : String) : CpInfo := .utf8 (stringToUtf16 s)
/-- a pool by its gaps: so many unusable entries, then the entry; so many at the end -/
def gap : Nat → List CpInfo → List CpInfo
  | 0, r => r
  | n + 1, r => .unusable :: gap n r
def poolList (es : List (Nat × CpInfo)) (last : Nat) : List CpInfo := es.foldr (fun e r => gap e.1 (e.2 :: r)) (gap last [])
def pool (es : List (Nat × CpInfo)) (last : Nat) : Array CpInfo := ⟨poolList es last⟩
def fileOf (pool : Array CpInfo) (this : Nat) (attrs : Array Attribute := #[]) (ms : Array MethodInfo := #[]) (fl : Nat := 33) (sup : Nat := 0) (ifs : Array Nat := #[]) (fds : Array FieldInfo := #[]) : ClassFile where
  minorVersion := 0
  majorVersion := 65
  constantPool := pool
  accessFlags := fl
  thisClass := this
  superClass := sup
  interfaces := ifs
  fields := fds
  methods := ms
  attributes := attrs
def plain (name : String) (sup : Option ClassId) : Class where
  name := name
  kind := .ordinary
  loader := none
  accessFlags := 33
  super := sup
  interfaces := #[]
  cf := none
  fields := #[]
  methods := #[]
  instanceTypes := #[]
  staticTypes := #[]
  resolved := #[]
  callSites := []
  init := .initialized
  statics := none
  mirror := none

def pool0 : Array CpInfo := pool [(5, u "<init>"), (0, u "()V"), (1, .class_ 10), (1, u "java/lang/Object")] 113

def k0c0 : Code := { maxStack := 0, maxLocals := 1, code := object_method_1_code, exceptionTable := #[], attributes := #[] }
def k0m0 : Method := { name := "<init>", desc := "()V", sig := { parameters := [], returnType := none }, accessFlags := 1, code := some k0c0 }
/-- java/lang/Object -/
def k0 : Class := { plain "java/lang/Object" none with
  accessFlags := 33
  interfaces := #[]
  cf := some (fileOf pool0 8 #[] #[{ accessFlags := 1, nameIndex := 5, descriptorIndex := 6, attributes := #[] }] 33 0 #[] #[])
  fields := #[]
  methods := #[k0m0]
  instanceTypes := #[]
  staticTypes := #[]
  resolved := Array.replicate 124 none
  statics := none }

def pool1 : Array CpInfo := pool [(2, .class_ 4), (0, .nameAndType 5 6), (0, u "java/lang/Object"), (0, u "<init>"), (0, u "()V"), (0, .class_ 8), (0, u "com/example/quire/quire/readers/Positions"), (0, .methodref 7 3), (0, .methodref 7 11), (0, .nameAndType 12 6), (0, u "startEntity"), (0, .methodref 7 14), (0, .nameAndType 15 6), (0, u "endEntity"), (0, .methodref 7 17), (0, .nameAndType 18 19), (0, u "start"), (0, u "(I)I"), (0, .methodref 7 21), (0, .nameAndType 22 23), (0, u "passed"), (0, u "(I)V"), (0, .class_ 25), (0, u "com/example/quire/quire/readers/PositionsEndEntityPinLaw"), (2, u "law"), (0, u "(IIIII)Z")] 3

def k1m0 : Method := { name := "<init>", desc := "()V", sig := { parameters := [], returnType := none }, accessFlags := 1, code := none }
def k1c1 : Code := { maxStack := 2, maxLocals := 13, code := code, exceptionTable := #[], attributes := #[] }
def k1m1 : Method := { name := "law", desc := "(IIIII)Z", sig := { parameters := [.int, .int, .int, .int, .int], returnType := some .boolean }, accessFlags := 9, code := some k1c1 }
/-- com/example/quire/quire/readers/PositionsEndEntityPinLaw -/
def k1 : Class := { plain "com/example/quire/quire/readers/PositionsEndEntityPinLaw" (some 0) with
  accessFlags := 49
  interfaces := #[]
  cf := some (fileOf pool1 24 #[] #[{ accessFlags := 1, nameIndex := 5, descriptorIndex := 6, attributes := #[] }, { accessFlags := 9, nameIndex := 28, descriptorIndex := 29, attributes := #[] }] 49 2 #[] #[])
  fields := #[]
  methods := #[k1m0, k1m1]
  instanceTypes := #[]
  staticTypes := #[]
  resolved := Array.replicate 33 none
  statics := none }

def pool2 : Array CpInfo := pool [(1, .methodref 2 3), (0, .class_ 4), (0, .nameAndType 5 6), (0, u "java/lang/Object"), (0, u "<init>"), (0, u "()V"), (0, .class_ 8), (0, u "com/example/quire/quire/readers/RootLine"), (0, .methodref 7 3), (0, .fieldref 11 12), (0, .class_ 13), (0, .nameAndType 14 15), (0, u "com/example/quire/quire/readers/Positions"), (0, u "root"), (0, u "Lcom/example/quire/quire/readers/RootLine;"), (0, .fieldref 11 17), (0, .nameAndType 18 19), (0, u "open"), (0, u "[I"), (0, .fieldref 11 21), (0, .nameAndType 22 23), (0, u "before"), (0, u "I"), (0, .fieldref 11 25), (0, .nameAndType 26 27), (0, u "rootSeen"), (0, u "Z"), (8, .methodref 7 37), (0, .nameAndType 38 39), (0, u "line"), (0, u "()I"), (0, .fieldref 11 41), (0, .nameAndType 42 23), (0, u "entities"), (0, .fieldref 11 44), (0, .nameAndType 45 23), (0, u "depth"), (6, .fieldref 11 53), (0, .nameAndType 54 23), (0, u "referenceLine"), (4, u "passed"), (0, u "(I)V"), (0, u "start"), (0, u "(I)I"), (1, u "startEntity"), (0, u "endEntity")] 2

def k2c0 : Code := { maxStack := 3, maxLocals := 1, code := prog_46_method_1_code, exceptionTable := #[], attributes := #[] }
def k2m0 : Method := { name := "<init>", desc := "()V", sig := { parameters := [], returnType := none }, accessFlags := 0, code := some k2c0 }
def k2c1 : Code := { maxStack := 2, maxLocals := 2, code := prog_46_method_4_code, exceptionTable := #[], attributes := #[] }
def k2m1 : Method := { name := "passed", desc := "(I)V", sig := { parameters := [.int], returnType := none }, accessFlags := 0, code := some k2c1 }
def k2c2 : Code := { maxStack := 5, maxLocals := 4, code := prog_46_method_5_code, exceptionTable := #[], attributes := #[] }
def k2m2 : Method := { name := "start", desc := "(I)I", sig := { parameters := [.int], returnType := some .int }, accessFlags := 0, code := some k2c2 }
def k2c3 : Code := { maxStack := 4, maxLocals := 1, code := prog_46_method_7_code, exceptionTable := #[], attributes := #[] }
def k2m3 : Method := { name := "startEntity", desc := "()V", sig := { parameters := [], returnType := none }, accessFlags := 0, code := some k2c3 }
def k2c4 : Code := { maxStack := 3, maxLocals := 1, code := prog_46_method_8_code, exceptionTable := #[], attributes := #[] }
def k2m4 : Method := { name := "endEntity", desc := "()V", sig := { parameters := [], returnType := none }, accessFlags := 0, code := some k2c4 }
/-- com/example/quire/quire/readers/Positions -/
def k2 : Class := { plain "com/example/quire/quire/readers/Positions" (some 0) with
  accessFlags := 48
  interfaces := #[]
  cf := some (fileOf pool2 11 #[] #[{ accessFlags := 0, nameIndex := 5, descriptorIndex := 6, attributes := #[] }, { accessFlags := 0, nameIndex := 59, descriptorIndex := 60, attributes := #[] }, { accessFlags := 0, nameIndex := 61, descriptorIndex := 62, attributes := #[] }, { accessFlags := 0, nameIndex := 64, descriptorIndex := 6, attributes := #[] }, { accessFlags := 0, nameIndex := 65, descriptorIndex := 6, attributes := #[] }] 48 2 #[] #[{ accessFlags := 18, nameIndex := 14, descriptorIndex := 15, attributes := #[] }, { accessFlags := 2, nameIndex := 18, descriptorIndex := 19, attributes := #[] }, { accessFlags := 2, nameIndex := 45, descriptorIndex := 23, attributes := #[] }, { accessFlags := 2, nameIndex := 26, descriptorIndex := 27, attributes := #[] }, { accessFlags := 2, nameIndex := 22, descriptorIndex := 23, attributes := #[] }, { accessFlags := 2, nameIndex := 42, descriptorIndex := 23, attributes := #[] }, { accessFlags := 2, nameIndex := 54, descriptorIndex := 23, attributes := #[] }])
  fields := #[{ name := "root", type := (.object "com/example/quire/quire/readers/RootLine"), accessFlags := 18, slot := 0, constantValue := 0 }, { name := "open", type := (.array .int), accessFlags := 2, slot := 1, constantValue := 0 }, { name := "depth", type := .int, accessFlags := 2, slot := 2, constantValue := 0 }, { name := "rootSeen", type := .boolean, accessFlags := 2, slot := 3, constantValue := 0 }, { name := "before", type := .int, accessFlags := 2, slot := 4, constantValue := 0 }, { name := "entities", type := .int, accessFlags := 2, slot := 5, constantValue := 0 }, { name := "referenceLine", type := .int, accessFlags := 2, slot := 6, constantValue := 0 }]
  methods := #[k2m0, k2m1, k2m2, k2m3, k2m4]
  instanceTypes := #[(.object "com/example/quire/quire/readers/RootLine"), (.array .int), .int, .boolean, .int, .int, .int]
  staticTypes := #[]
  resolved := Array.replicate 68 none
  statics := none }

def pool3 : Array CpInfo := pool [(1, .methodref 2 3), (0, .class_ 4), (0, .nameAndType 5 6), (0, u "java/lang/Object"), (0, u "<init>"), (0, u "()V"), (0, .class_ 8), (0, u "com/example/quire/quire/readers/RootLine"), (0, .fieldref 7 10), (0, .nameAndType 11 12), (0, u "head"), (0, u "[B"), (0, .fieldref 7 14), (0, .nameAndType 15 16), (0, u "pending"), (0, u "I"), (0, .fieldref 18 19), (0, .class_ 20), (0, .nameAndType 21 22), (0, u "com/example/quire/quire/readers/RootLine$State"), (0, u "PROLOG"), (0, u "Lcom/example/quire/quire/readers/RootLine$State;"), (0, .fieldref 7 24), (0, .nameAndType 25 22), (0, u "state"), (0, .fieldref 7 27), (0, .nameAndType 28 22), (0, u "after"), (0, .fieldref 7 30), (0, .nameAndType 31 16), (0, u "line"), (0, .fieldref 7 33), (0, .nameAndType 34 16), (0, u "found"), (9, u "width"), (2, u "headLength"), (8, u "bigEndian"), (0, u "Z"), (2, u "afterCarriageReturn"), (3, u "()I"), (15, u "quote"), (5, u "closing"), (27, u "HEAD")] 13

def k3c0 : Code := { maxStack := 2, maxLocals := 1, code := prog_54_method_1_code, exceptionTable := #[], attributes := #[] }
def k3m0 : Method := { name := "<init>", desc := "()V", sig := { parameters := [], returnType := none }, accessFlags := 0, code := some k3c0 }
def k3c1 : Code := { maxStack := 1, maxLocals := 1, code := prog_54_method_2_code, exceptionTable := #[], attributes := #[] }
def k3m1 : Method := { name := "line", desc := "()I", sig := { parameters := [], returnType := some .int }, accessFlags := 0, code := some k3c1 }
/-- com/example/quire/quire/readers/RootLine -/
def k3 : Class := { plain "com/example/quire/quire/readers/RootLine" (some 0) with
  accessFlags := 48
  interfaces := #[]
  cf := some (fileOf pool3 7 #[.nestMembers #[18]] #[{ accessFlags := 0, nameIndex := 5, descriptorIndex := 6, attributes := #[] }, { accessFlags := 0, nameIndex := 31, descriptorIndex := 64, attributes := #[] }] 48 2 #[] #[{ accessFlags := 26, nameIndex := 114, descriptorIndex := 16, attributes := #[] }, { accessFlags := 18, nameIndex := 11, descriptorIndex := 12, attributes := #[] }, { accessFlags := 2, nameIndex := 47, descriptorIndex := 16, attributes := #[] }, { accessFlags := 2, nameIndex := 44, descriptorIndex := 16, attributes := #[] }, { accessFlags := 2, nameIndex := 56, descriptorIndex := 57, attributes := #[] }, { accessFlags := 2, nameIndex := 15, descriptorIndex := 16, attributes := #[] }, { accessFlags := 2, nameIndex := 25, descriptorIndex := 22, attributes := #[] }, { accessFlags := 2, nameIndex := 28, descriptorIndex := 22, attributes := #[] }, { accessFlags := 2, nameIndex := 31, descriptorIndex := 16, attributes := #[] }, { accessFlags := 2, nameIndex := 60, descriptorIndex := 57, attributes := #[] }, { accessFlags := 2, nameIndex := 86, descriptorIndex := 16, attributes := #[] }, { accessFlags := 2, nameIndex := 80, descriptorIndex := 16, attributes := #[] }, { accessFlags := 2, nameIndex := 34, descriptorIndex := 16, attributes := #[] }])
  fields := #[{ name := "HEAD", type := .int, accessFlags := 26, slot := 0, constantValue := 0 }, { name := "head", type := (.array .byte), accessFlags := 18, slot := 0, constantValue := 0 }, { name := "headLength", type := .int, accessFlags := 2, slot := 1, constantValue := 0 }, { name := "width", type := .int, accessFlags := 2, slot := 2, constantValue := 0 }, { name := "bigEndian", type := .boolean, accessFlags := 2, slot := 3, constantValue := 0 }, { name := "pending", type := .int, accessFlags := 2, slot := 4, constantValue := 0 }, { name := "state", type := (.object "com/example/quire/quire/readers/RootLine$State"), accessFlags := 2, slot := 5, constantValue := 0 }, { name := "after", type := (.object "com/example/quire/quire/readers/RootLine$State"), accessFlags := 2, slot := 6, constantValue := 0 }, { name := "line", type := .int, accessFlags := 2, slot := 7, constantValue := 0 }, { name := "afterCarriageReturn", type := .boolean, accessFlags := 2, slot := 8, constantValue := 0 }, { name := "closing", type := .int, accessFlags := 2, slot := 9, constantValue := 0 }, { name := "quote", type := .int, accessFlags := 2, slot := 10, constantValue := 0 }, { name := "found", type := .int, accessFlags := 2, slot := 11, constantValue := 0 }]
  methods := #[k3m0, k3m1]
  instanceTypes := #[(.array .byte), .int, .int, .boolean, .int, (.object "com/example/quire/quire/readers/RootLine$State"), (.object "com/example/quire/quire/readers/RootLine$State"), .int, .boolean, .int, .int, .int]
  staticTypes := #[.int]
  resolved := Array.replicate 128 none
  statics := none }

def pool4 : Array CpInfo := pool [(1, .class_ 2), (0, u "java/lang/constant/Constable"), (0, .class_ 4), (0, u "java/lang/Object")] 6

/-- java/lang/constant/Constable -/
def k4 : Class := { plain "java/lang/constant/Constable" (some 0) with
  accessFlags := 1537
  interfaces := #[]
  cf := some (fileOf pool4 1 #[] #[] 1537 3 #[] #[])
  fields := #[]
  methods := #[]
  instanceTypes := #[]
  staticTypes := #[]
  resolved := Array.replicate 11 none
  statics := none }

def pool5 : Array CpInfo := pool [(1, .class_ 2), (0, u "java/lang/Comparable"), (0, .class_ 4), (0, u "java/lang/Object")] 7

/-- java/lang/Comparable -/
def k5 : Class := { plain "java/lang/Comparable" (some 0) with
  accessFlags := 1537
  interfaces := #[]
  cf := some (fileOf pool5 1 #[] #[] 1537 3 #[] #[])
  fields := #[]
  methods := #[]
  instanceTypes := #[]
  staticTypes := #[]
  resolved := Array.replicate 12 none
  statics := none }

def pool6 : Array CpInfo := pool [(1, .class_ 2), (0, u "java/io/Serializable"), (0, .class_ 4), (0, u "java/lang/Object")] 2

/-- java/io/Serializable -/
def k6 : Class := { plain "java/io/Serializable" (some 0) with
  accessFlags := 1537
  interfaces := #[]
  cf := some (fileOf pool6 1 #[] #[] 1537 3 #[] #[])
  fields := #[]
  methods := #[]
  instanceTypes := #[]
  staticTypes := #[]
  resolved := Array.replicate 7 none
  statics := none }

def pool7 : Array CpInfo := pool [(2, .class_ 4), (1, u "java/lang/Enum"), (0, u "name"), (0, u "Ljava/lang/String;"), (2, u "ordinal"), (0, u "I"), (1, .class_ 14), (1, u "java/lang/Object"), (4, u "hash"), (86, .class_ 108), (1, u "java/lang/Enum$EnumDesc"), (2, .class_ 112), (0, u "java/lang/constant/Constable"), (0, .class_ 114), (0, u "java/lang/Comparable"), (0, .class_ 116), (0, u "java/io/Serializable")] 87

/-- java/lang/Enum -/
def k7 : Class := { plain "java/lang/Enum" (some 0) with
  accessFlags := 1057
  interfaces := #[4, 5, 6]
  cf := some (fileOf pool7 2 #[.nestMembers #[106]] #[] 1057 12 #[111, 113, 115] #[{ accessFlags := 18, nameIndex := 5, descriptorIndex := 6, attributes := #[] }, { accessFlags := 18, nameIndex := 9, descriptorIndex := 10, attributes := #[] }, { accessFlags := 2, nameIndex := 19, descriptorIndex := 10, attributes := #[] }])
  fields := #[{ name := "name", type := (.object "java/lang/String"), accessFlags := 18, slot := 0, constantValue := 0 }, { name := "ordinal", type := .int, accessFlags := 18, slot := 1, constantValue := 0 }, { name := "hash", type := .int, accessFlags := 2, slot := 2, constantValue := 0 }]
  methods := #[]
  instanceTypes := #[(.object "java/lang/String"), .int, .int]
  staticTypes := #[]
  resolved := Array.replicate 204 none
  statics := none }

def pool8 : Array CpInfo := pool [(1, .class_ 2), (0, u "com/example/quire/quire/readers/RootLine$State"), (2, u "PROLOG"), (0, u "Lcom/example/quire/quire/readers/RootLine$State;"), (2, u "OPEN"), (2, u "BANG"), (2, u "BANG_DASH"), (2, u "COMMENT"), (2, u "INSTRUCTION"), (2, u "DOCTYPE"), (2, u "SUBSET"), (2, u "SUBSET_OPEN"), (2, u "SUBSET_BANG"), (2, u "DECLARATION"), (2, u "DONE"), (2, u "$VALUES"), (0, u "[Lcom/example/quire/quire/readers/RootLine$State;"), (6, .class_ 52), (1, u "java/lang/Enum"), (35, .class_ 89), (0, u "com/example/quire/quire/readers/RootLine")] 2

/-- com/example/quire/quire/readers/RootLine$State -/
def k8 : Class := { plain "com/example/quire/quire/readers/RootLine$State" (some 7) with
  accessFlags := 16432
  interfaces := #[]
  cf := some (fileOf pool8 1 #[.nestHost 88] #[] 16432 50 #[] #[{ accessFlags := 16409, nameIndex := 5, descriptorIndex := 6, attributes := #[] }, { accessFlags := 16409, nameIndex := 9, descriptorIndex := 6, attributes := #[] }, { accessFlags := 16409, nameIndex := 12, descriptorIndex := 6, attributes := #[] }, { accessFlags := 16409, nameIndex := 15, descriptorIndex := 6, attributes := #[] }, { accessFlags := 16409, nameIndex := 18, descriptorIndex := 6, attributes := #[] }, { accessFlags := 16409, nameIndex := 21, descriptorIndex := 6, attributes := #[] }, { accessFlags := 16409, nameIndex := 24, descriptorIndex := 6, attributes := #[] }, { accessFlags := 16409, nameIndex := 27, descriptorIndex := 6, attributes := #[] }, { accessFlags := 16409, nameIndex := 30, descriptorIndex := 6, attributes := #[] }, { accessFlags := 16409, nameIndex := 33, descriptorIndex := 6, attributes := #[] }, { accessFlags := 16409, nameIndex := 36, descriptorIndex := 6, attributes := #[] }, { accessFlags := 16409, nameIndex := 39, descriptorIndex := 6, attributes := #[] }, { accessFlags := 4122, nameIndex := 42, descriptorIndex := 43, attributes := #[] }])
  fields := #[{ name := "PROLOG", type := (.object "com/example/quire/quire/readers/RootLine$State"), accessFlags := 16409, slot := 0, constantValue := 0 }, { name := "OPEN", type := (.object "com/example/quire/quire/readers/RootLine$State"), accessFlags := 16409, slot := 1, constantValue := 0 }, { name := "BANG", type := (.object "com/example/quire/quire/readers/RootLine$State"), accessFlags := 16409, slot := 2, constantValue := 0 }, { name := "BANG_DASH", type := (.object "com/example/quire/quire/readers/RootLine$State"), accessFlags := 16409, slot := 3, constantValue := 0 }, { name := "COMMENT", type := (.object "com/example/quire/quire/readers/RootLine$State"), accessFlags := 16409, slot := 4, constantValue := 0 }, { name := "INSTRUCTION", type := (.object "com/example/quire/quire/readers/RootLine$State"), accessFlags := 16409, slot := 5, constantValue := 0 }, { name := "DOCTYPE", type := (.object "com/example/quire/quire/readers/RootLine$State"), accessFlags := 16409, slot := 6, constantValue := 0 }, { name := "SUBSET", type := (.object "com/example/quire/quire/readers/RootLine$State"), accessFlags := 16409, slot := 7, constantValue := 0 }, { name := "SUBSET_OPEN", type := (.object "com/example/quire/quire/readers/RootLine$State"), accessFlags := 16409, slot := 8, constantValue := 0 }, { name := "SUBSET_BANG", type := (.object "com/example/quire/quire/readers/RootLine$State"), accessFlags := 16409, slot := 9, constantValue := 0 }, { name := "DECLARATION", type := (.object "com/example/quire/quire/readers/RootLine$State"), accessFlags := 16409, slot := 10, constantValue := 0 }, { name := "DONE", type := (.object "com/example/quire/quire/readers/RootLine$State"), accessFlags := 16409, slot := 11, constantValue := 0 }, { name := "$VALUES", type := (.array (.object "com/example/quire/quire/readers/RootLine$State")), accessFlags := 4122, slot := 12, constantValue := 0 }]
  methods := #[]
  instanceTypes := #[(.object "java/lang/String"), .int, .int]
  staticTypes := #[(.object "com/example/quire/quire/readers/RootLine$State"), (.object "com/example/quire/quire/readers/RootLine$State"), (.object "com/example/quire/quire/readers/RootLine$State"), (.object "com/example/quire/quire/readers/RootLine$State"), (.object "com/example/quire/quire/readers/RootLine$State"), (.object "com/example/quire/quire/readers/RootLine$State"), (.object "com/example/quire/quire/readers/RootLine$State"), (.object "com/example/quire/quire/readers/RootLine$State"), (.object "com/example/quire/quire/readers/RootLine$State"), (.object "com/example/quire/quire/readers/RootLine$State"), (.object "com/example/quire/quire/readers/RootLine$State"), (.object "com/example/quire/quire/readers/RootLine$State"), (.array (.object "com/example/quire/quire/readers/RootLine$State"))]
  resolved := Array.replicate 92 none
  statics := some 0 }

def pool9 : Array CpInfo := pool [(1, u "java/lang/Cloneable"), (0, .class_ 1), (0, u "java/lang/Object"), (0, .class_ 3)] 3

/-- java/lang/Cloneable -/
def k9 : Class := { plain "java/lang/Cloneable" (some 0) with
  accessFlags := 1537
  interfaces := #[]
  cf := some (fileOf pool9 2 #[] #[] 1537 4 #[] #[])
  fields := #[]
  methods := #[]
  instanceTypes := #[]
  staticTypes := #[]
  resolved := Array.replicate 8 none
  statics := none }

/-- the primitive byte -/
def k10 : Class := { plain "byte" none with kind := .primitive 'B', accessFlags := 0x411 }
/-- [B -/
def k11 : Class := { plain "[B" (some 0) with kind := .array 10 .byte, interfaces := #[9, 6], accessFlags := 1041 }

/-- the primitive int -/
def k12 : Class := { plain "int" none with kind := .primitive 'I', accessFlags := 0x411 }
/-- [I -/
def k13 : Class := { plain "[I" (some 0) with kind := .array 12 .int, interfaces := #[9, 6], accessFlags := 1041 }

def heap : Heap := #[{ cls := 8, slots := #[.ref 1, .null, .null, .null, .null, .null, .null, .null, .null, .null, .null, .null, .null], vm := .statics 8 },
  { cls := 8, slots := #[.null, .int 0, .int 0], vm := .none }]
def classes : Array Class := #[k0, k1, k2, k3, k4, k5, k6, k7, k8, k9, k10, k11, k12, k13]
def interned : List (Array UInt16 × Addr) := []
def slotsUsed : Nat := 16
def theMethod : MethodId := ⟨1, 1⟩
def args0 : Array Value := #[.int 5, .int 5, .int 5, .int 5, .int 5]
def aboutOver (below : List Frame) : State where
  vm := { classes := classes, interned := interned.toArray }
  heap := heap
  slotsUsed := slotsUsed
  threads := #[{ frames := .invoking theMethod args0 :: below }]
def below0 : List Frame := [.native { method := ⟨0, 0⟩, args := #[] }]
def about1 : State := aboutOver below0
def p0 : Program := .bare "" "" ""
def e0 : Env := launch0.env 0 0 0
theorem w_frames : about1.frames = Frame.invoking theMethod args0 :: below0 := rfl
set_option maxRecDepth 65536 in
theorem w_args : argsFit about1.vm theMethod args0 = true := by decide +kernel
set_option maxRecDepth 65536 in
theorem w_heap : heapFits about1 = true := by decide +kernel
set_option maxRecDepth 65536 in
theorem w_runnable : about1.curStatus? = some .runnable := by decide +kernel
set_option maxRecDepth 65536 in
theorem w_alone : about1.alone = true := by decide +kernel
set_option maxRecDepth 65536 in
theorem w_named : about1.methodNamed? x = some theMethod := by decide +kernel
set_option maxRecDepth 65536 in
theorem w_hears : about1.hears theMethod below0 = true := by decide +kernel
set_option maxRecDepth 65536 in
theorem w_ripe : about1.ripe theMethod args0 below0 = true := by decide +kernel
theorem w_running : about1.status = .running := rfl
set_option maxRecDepth 65536 in
theorem w_room : about1.hasRoom e0.platform room_1 = true :=
  launch0.hasRoom_least _ room_1 (by decide +kernel) (by decide +kernel) (by decide +kernel) (by decide +kernel) (by decide +kernel) (by decide +kernel)
theorem allAtoms_all (ts : List Jvm.Cond) (a : Array Jvm.Value) (st : Jvm.State) : (allAtoms ts).before a st = ts.all (fun c => c.before a st) := by
  induction ts with
  | nil => rfl
  | cons c t ih =>
    show (Jvm.Cond.and c (allAtoms t)).before a st = _
    rw [Jvm.Cond.before_and, ih, List.all_cons]
def words1 : List Jvm.Cond := Jvm.Cond.code x code maxLocals ret :: tables_1
/-- a 'code' word, met by the world's own term for the bytes: nothing is compared byte by byte -/
theorem code_word {y : MethodName} {bytes : ByteArray} {mx : Nat} {rt : Option FieldType} {a : Array Value} {s : State} {m : MethodId} {meth : Method} {c : Code} (h1 : s.methodNamed? y = some m) (h2 : s.vm.method? m = some meth) (h3 : meth.code = some c) (h4 : c.code = bytes)
    (h5 : (c.maxLocals == mx && c.exceptionTable.isEmpty && decide (c.maxStack ≤ mostOperands) && decide (meth.sig.returnType = rt) && !meth.locks && decide (parseMethodDescriptor y.desc = some meth.sig)) = true) : (Jvm.Cond.code y bytes mx rt).before a s = true := by
  simp only [Bool.and_eq_true, beq_iff_eq, Bool.not_eq_true', decide_eq_true_eq] at h5
  obtain ⟨⟨⟨⟨⟨g1, g2⟩, g3⟩, g4⟩, g5⟩, g6⟩ := h5
  simp [Cond.before, Cond.holds, Cond.value, h1, h2, h3, h4, g1, g2, g3, g4, g5, g6]
def isCode : Jvm.Cond → Bool
  | .code _ _ _ _ => true
  | _ => false
theorem all_split {L : List Jvm.Cond} {P : Jvm.Cond → Bool} (h1 : L.all (fun c => isCode c || P c) = true) (h2 : ∀ c ∈ L.filter isCode, P c = true) : L.all P = true := by
  refine List.all_eq_true.mpr fun c hc => ?_
  have h := List.all_eq_true.mp h1 c hc
  rcases Bool.eq_false_or_eq_true (isCode c) with hi | hi
  · exact h2 c (List.mem_filter.mpr ⟨hc, hi⟩)
  · simpa [hi] using h
set_option maxRecDepth 65536 in
theorem w_c0 : (Jvm.Cond.code x code maxLocals ret).before args0 about1 = true := code_word (m := ⟨1, 1⟩) (meth := k1m1) (c := k1c1) (by decide +kernel) rfl rfl rfl (by decide +kernel)
set_option maxRecDepth 65536 in
theorem w_c1 : (Jvm.Cond.code ({ cls := "com/example/quire/quire/readers/Positions", name := "<init>", desc := "()V" } : Jvm.MethodName) prog_46_method_1_code (1 : Nat) (Option.none : Option Jvm.ClassFile.FieldType)).before args0 about1 = true := code_word (m := ⟨2, 0⟩) (meth := k2m0) (c := k2c0) (by decide +kernel) rfl rfl rfl (by decide +kernel)
set_option maxRecDepth 65536 in
theorem w_c2 : (Jvm.Cond.code ({ cls := "java/lang/Object", name := "<init>", desc := "()V" } : Jvm.MethodName) object_method_1_code (1 : Nat) (Option.none : Option Jvm.ClassFile.FieldType)).before args0 about1 = true := code_word (m := ⟨0, 0⟩) (meth := k0m0) (c := k0c0) (by decide +kernel) rfl rfl rfl (by decide +kernel)
set_option maxRecDepth 65536 in
theorem w_c3 : (Jvm.Cond.code ({ cls := "com/example/quire/quire/readers/RootLine", name := "<init>", desc := "()V" } : Jvm.MethodName) prog_54_method_1_code (1 : Nat) (Option.none : Option Jvm.ClassFile.FieldType)).before args0 about1 = true := code_word (m := ⟨3, 0⟩) (meth := k3m0) (c := k3c0) (by decide +kernel) rfl rfl rfl (by decide +kernel)
set_option maxRecDepth 65536 in
theorem w_c4 : (Jvm.Cond.code ({ cls := "com/example/quire/quire/readers/Positions", name := "start", desc := "(I)I" } : Jvm.MethodName) prog_46_method_5_code (4 : Nat) (Option.some Jvm.ClassFile.FieldType.int)).before args0 about1 = true := code_word (m := ⟨2, 2⟩) (meth := k2m2) (c := k2c2) (by decide +kernel) rfl rfl rfl (by decide +kernel)
set_option maxRecDepth 65536 in
theorem w_c5 : (Jvm.Cond.code ({ cls := "com/example/quire/quire/readers/RootLine", name := "line", desc := "()I" } : Jvm.MethodName) prog_54_method_2_code (1 : Nat) (Option.some Jvm.ClassFile.FieldType.int)).before args0 about1 = true := code_word (m := ⟨3, 1⟩) (meth := k3m1) (c := k3c1) (by decide +kernel) rfl rfl rfl (by decide +kernel)
set_option maxRecDepth 65536 in
theorem w_c6 : (Jvm.Cond.code ({ cls := "com/example/quire/quire/readers/Positions", name := "passed", desc := "(I)V" } : Jvm.MethodName) prog_46_method_4_code (2 : Nat) (Option.none : Option Jvm.ClassFile.FieldType)).before args0 about1 = true := code_word (m := ⟨2, 1⟩) (meth := k2m1) (c := k2c1) (by decide +kernel) rfl rfl rfl (by decide +kernel)
set_option maxRecDepth 65536 in
theorem w_c7 : (Jvm.Cond.code ({ cls := "com/example/quire/quire/readers/Positions", name := "startEntity", desc := "()V" } : Jvm.MethodName) prog_46_method_7_code (1 : Nat) (Option.none : Option Jvm.ClassFile.FieldType)).before args0 about1 = true := code_word (m := ⟨2, 3⟩) (meth := k2m3) (c := k2c3) (by decide +kernel) rfl rfl rfl (by decide +kernel)
set_option maxRecDepth 65536 in
theorem w_c8 : (Jvm.Cond.code ({ cls := "com/example/quire/quire/readers/Positions", name := "endEntity", desc := "()V" } : Jvm.MethodName) prog_46_method_8_code (1 : Nat) (Option.none : Option Jvm.ClassFile.FieldType)).before args0 about1 = true := code_word (m := ⟨2, 4⟩) (meth := k2m4) (c := k2c4) (by decide +kernel) rfl rfl rfl (by decide +kernel)
def codes1 : List Jvm.Cond := [Jvm.Cond.code x code maxLocals ret, Jvm.Cond.code ({ cls := "com/example/quire/quire/readers/Positions", name := "<init>", desc := "()V" } : Jvm.MethodName) prog_46_method_1_code (1 : Nat) (Option.none : Option Jvm.ClassFile.FieldType), Jvm.Cond.code ({ cls := "java/lang/Object", name := "<init>", desc := "()V" } : Jvm.MethodName) object_method_1_code (1 : Nat) (Option.none : Option Jvm.ClassFile.FieldType), Jvm.Cond.code ({ cls := "com/example/quire/quire/readers/RootLine", name := "<init>", desc := "()V" } : Jvm.MethodName) prog_54_method_1_code (1 : Nat) (Option.none : Option Jvm.ClassFile.FieldType), Jvm.Cond.code ({ cls := "com/example/quire/quire/readers/Positions", name := "start", desc := "(I)I" } : Jvm.MethodName) prog_46_method_5_code (4 : Nat) (Option.some Jvm.ClassFile.FieldType.int), Jvm.Cond.code ({ cls := "com/example/quire/quire/readers/RootLine", name := "line", desc := "()I" } : Jvm.MethodName) prog_54_method_2_code (1 : Nat) (Option.some Jvm.ClassFile.FieldType.int), Jvm.Cond.code ({ cls := "com/example/quire/quire/readers/Positions", name := "passed", desc := "(I)V" } : Jvm.MethodName) prog_46_method_4_code (2 : Nat) (Option.none : Option Jvm.ClassFile.FieldType), Jvm.Cond.code ({ cls := "com/example/quire/quire/readers/Positions", name := "startEntity", desc := "()V" } : Jvm.MethodName) prog_46_method_7_code (1 : Nat) (Option.none : Option Jvm.ClassFile.FieldType), Jvm.Cond.code ({ cls := "com/example/quire/quire/readers/Positions", name := "endEntity", desc := "()V" } : Jvm.MethodName) prog_46_method_8_code (1 : Nat) (Option.none : Option Jvm.ClassFile.FieldType)]
set_option maxRecDepth 65536 in
theorem codes_eq : words1.filter isCode = codes1 := rfl
theorem w_codes : ∀ c ∈ words1.filter isCode, c.before args0 about1 = true := by
  rw [codes_eq]
  intro c hc
  simp only [codes1, List.mem_cons, List.not_mem_nil, or_false] at hc
  rcases hc with rfl | rfl | rfl | rfl | rfl | rfl | rfl | rfl | rfl
  · exact w_c0
  · exact w_c1
  · exact w_c2
  · exact w_c3
  · exact w_c4
  · exact w_c5
  · exact w_c6
  · exact w_c7
  · exact w_c8
set_option maxRecDepth 65536 in
theorem w_t1 : (words1.take 24).all (fun c => isCode c || c.before args0 about1) = true := by decide +kernel
set_option maxRecDepth 65536 in
theorem w_t2 : ((words1.drop 24).take 24).all (fun c => isCode c || c.before args0 about1) = true := by decide +kernel
set_option maxRecDepth 65536 in
theorem w_t3 : (((words1.drop 24).drop 24).take 24).all (fun c => isCode c || c.before args0 about1) = true := by decide +kernel
set_option maxRecDepth 65536 in
theorem w_t4 : (((words1.drop 24).drop 24).drop 24).all (fun c => isCode c || c.before args0 about1) = true := by decide +kernel
theorem w_tables : (allAtoms (Jvm.Cond.code x code maxLocals ret :: tables_1)).before args0 about1 = true := by
  rw [allAtoms_all]
  show words1.all (fun c => c.before args0 about1) = true
  refine all_split ?_ w_codes
  rw [← List.take_append_drop 24 words1, List.all_append, w_t1, ← List.take_append_drop 24 (words1.drop 24), List.all_append, w_t2, ← List.take_append_drop 24 ((words1.drop 24).drop 24), List.all_append, w_t3, w_t4]
  rfl
set_option maxRecDepth 65536 in
theorem w_case : (Jvm.Cond.and given_1 narrow_1).before args0 about1 = true := by decide +kernel
theorem w_applies : (headSpec (Jvm.Cond.code x code maxLocals ret :: tables_1) room_1).applies x e0.platform about1 = true :=
  (Spec.applies_iff w_frames).mpr ⟨w_running, w_runnable, w_alone, w_named, w_hears, w_ripe, w_room, w_tables⟩
theorem atStart : AtStart classFile x code maxLocals ret World_1 tables_1 room_1 Calls_1 rest_1 Pre_1 launch0 p0 e0 about1 theMethod args0 below0 :=
  ⟨lists_1, trivial, launch0.admits_env _ _ _, launch0.least_env, fairChoices_fair.cas, fairChoices_fair.clock, w_frames, w_args, w_heap, w_applies, trivial, trivial, w_case⟩
end start1
theorem witness_1 : WitnessClaimed_1 := ⟨start1.p0, start1.e0, start1.about1, start1.theMethod, start1.args0, start1.below0, start1.atStart⟩
end Jvm.Pilot.@@N@@
