import JvmDerived
import JvmDerived.Pilot.@@N@@Statement
import JvmDerived.Pilot.@@N@@Code
set_option linter.unusedVariables false
set_option linter.unusedSimpArgs false
namespace Jvm.Pilot.@@N@@
open Jvm Jvm.ClassFile Sem Op Lib Jvm.Free Jvm.Stand Jvm.LawKit Jvm.RoadKit Bundle Jvm.Pilot.@@N@@.Jvm.D
/-- the run from A comes to a return that Q speaks of -/
def own_Fin (p : Program) (e : Env) (below : List Frame) (s : State) (kc ks : Nat) (Q : Option Value → Heap → List Loc → Prop) (A : State) : Prop :=
  ∃ s₂ o, Steps p.tables e below A s₂ ∧ s₂.status = .running ∧ Ended s₂ below o ∧ ∃ v L, o = .returned v ∧ Q v s₂.heap L ∧ FrameEnd s o s₂ L kc ks
section Own
variable {p : Program} {l : Launch} {e : Env} {R : Room} {s : State} {m : MethodId} {args : Array Value} {below : List Frame} {meth : Method} {c : Code} {T : State} {locs : List Loc} {cells slots kc ks : Nat} {Q : Option Value → Heap → List Loc → Prop}
theorem own_back {A B : State} (h : ∀ t, Steps p.tables e below B t → Steps p.tables e below A t) (k : own_Fin p e below s kc ks Q B) : own_Fin p e below s kc ks Q A := by
  obtain ⟨s2, o, h1, r⟩ := k
  exact ⟨s2, o, h _ h1, r⟩
theorem own_retN (X : Stand p l e R s m args below meth c T locs cells slots) (hx : p.tables.exec = Jvm.exec) (hlk : meth.locks = false) {t : FieldType} (ht : t = .boolean ∨ t = .byte ∨ t = .char ∨ t = .short) {pc : Nat} {Ls : Array Slot} {z : Int32} {rest : List Value} (hret : meth.sig.returnType = some t) (hd : decode c.code pc = .ok (.ireturn, 1)) (hc : cells ≤ kc) (hs : slots ≤ ks)
    (hQ : Q (some (.int (nar t z))) T.heap locs) : own_Fin p e below s kc ks Q (T.setTop (mkF m pc Ls (.int z :: rest))) := by
  obtain ⟨fs, hr, hrun, hended, hW, hsame⟩ := X.leave (v := some (.int (nar t z))) (fun h => by rw [hret] at h; cases h) hlk
  exact ⟨_, _, retN X hx hret ht hd hr, hrun, hended, _, _, rfl, hQ, ⟨_, rfl⟩, hW, hsame.mono hc hs⟩
theorem own_retZ (X : Stand p l e R s m args below meth c T locs cells slots) (hx : p.tables.exec = Jvm.exec) (hlk : meth.locks = false) {pc : Nat} {Ls : Array Slot} {z : Int32} {rest : List Value} (hret : meth.sig.returnType = some .boolean) (hd : decode c.code pc = .ok (.ireturn, 1)) (hc : cells ≤ kc) (hs : slots ≤ ks)
    (hQ : Q (some (.int (z &&& 1))) T.heap locs) : own_Fin p e below s kc ks Q (T.setTop (mkF m pc Ls (.int z :: rest))) := own_retN X hx hlk (Or.inl rfl) hret hd hc hs hQ
theorem own_retB (X : Stand p l e R s m args below meth c T locs cells slots) (hx : p.tables.exec = Jvm.exec) (hlk : meth.locks = false) {pc : Nat} {Ls : Array Slot} {z : Int32} {rest : List Value} (hret : meth.sig.returnType = some .byte) (hd : decode c.code pc = .ok (.ireturn, 1)) (hc : cells ≤ kc) (hs : slots ≤ ks)
    (hQ : Q (some (.int (nar .byte z))) T.heap locs) : own_Fin p e below s kc ks Q (T.setTop (mkF m pc Ls (.int z :: rest))) := own_retN X hx hlk (Or.inr (Or.inl rfl)) hret hd hc hs hQ
theorem own_retI (X : Stand p l e R s m args below meth c T locs cells slots) (hx : p.tables.exec = Jvm.exec) (hlk : meth.locks = false) {pc : Nat} {Ls : Array Slot} {z : Int32} {rest : List Value} (hret : meth.sig.returnType = some .int) (hd : decode c.code pc = .ok (.ireturn, 1)) (hc : cells ≤ kc) (hs : slots ≤ ks)
    (hQ : Q (some (.int z)) T.heap locs) : own_Fin p e below s kc ks Q (T.setTop (mkF m pc Ls (.int z :: rest))) := by
  obtain ⟨fs, hr, hrun, hended, hW, hsame⟩ := X.leave (v := some (.int z)) (fun h => by rw [hret] at h; cases h) hlk
  exact ⟨_, _, retOut X hx hret rfl (Or.inl ⟨rfl, Or.inl rfl, z, rfl⟩) hd hr, hrun, hended, _, _, rfl, hQ, ⟨_, rfl⟩, hW, hsame.mono hc hs⟩
theorem own_retJ (X : Stand p l e R s m args below meth c T locs cells slots) (hx : p.tables.exec = Jvm.exec) (hlk : meth.locks = false) {pc : Nat} {Ls : Array Slot} {z : Int64} {rest : List Value} (hret : meth.sig.returnType = some .long) (hd : decode c.code pc = .ok (.lreturn, 1)) (hc : cells ≤ kc) (hs : slots ≤ ks)
    (hQ : Q (some (.long z)) T.heap locs) : own_Fin p e below s kc ks Q (T.setTop (mkF m pc Ls (.long z :: rest))) := by
  obtain ⟨fs, hr, hrun, hended, hW, hsame⟩ := X.leave (v := some (.long z)) (fun h => by rw [hret] at h; cases h) hlk
  exact ⟨_, _, retOut X hx hret rfl (Or.inr (Or.inl ⟨rfl, rfl, z, rfl⟩)) hd hr, hrun, hended, _, _, rfl, hQ, ⟨_, rfl⟩, hW, hsame.mono hc hs⟩
theorem own_retA (X : Stand p l e R s m args below meth c T locs cells slots) (hx : p.tables.exec = Jvm.exec) (hlk : meth.locks = false) {pc : Nat} {Ls : Array Slot} {w : Value} {rest : List Value} {t : FieldType} (hret : meth.sig.returnType = some t) (ht : t.isReference = true) (hw : w.isRef = true) (hd : decode c.code pc = .ok (.areturn, 1)) (hc : cells ≤ kc) (hs : slots ≤ ks)
    (hQ : Q (some w) T.heap locs) : own_Fin p e below s kc ks Q (T.setTop (mkF m pc Ls (w :: rest))) := by
  obtain ⟨fs, hr, hrun, hended, hW, hsame⟩ := X.leave (v := some w) (fun h => by rw [hret] at h; cases h) hlk
  have hn : narrow t w = w := by cases t <;> first | rfl | cases ht
  exact ⟨_, _, retOut X hx hret hn (Or.inr (Or.inr (Or.inr (Or.inr ⟨rfl, ht, hw⟩)))) hd hr, hrun, hended, _, _, rfl, hQ, ⟨_, rfl⟩, hW, hsame.mono hc hs⟩
theorem own_ret0 (X : Stand p l e R s m args below meth c T locs cells slots) (hx : p.tables.exec = Jvm.exec) (hlk : meth.locks = false) {pc : Nat} {Ls : Array Slot} (hret : meth.sig.returnType = none) (hd : decode c.code pc = .ok (.return_, 1)) (hc : cells ≤ kc) (hs : slots ≤ ks)
    (hQ : Q none T.heap locs) : own_Fin p e below s kc ks Q (T.setTop (mkF m pc Ls [])) := by
  obtain ⟨fs, hr, hrun, hended, hW, hsame⟩ := X.leave (v := none) (fun _ => rfl) hlk
  exact ⟨_, _, X.returnOut hx hret hd hr, hrun, hended, _, _, rfl, hQ, ⟨_, rfl⟩, hW, hsame.mono hc hs⟩
end Own
/-- the same, where the run may have interned -/
def own_FinW (p : Program) (e : Env) (below : List Frame) (s : State) (kc ks : Nat) (Q : Option Value → Heap → List Loc → Prop) (A : State) : Prop :=
  ∃ s₂ o, Steps p.tables e below A s₂ ∧ s₂.status = .running ∧ Ended s₂ below o ∧ ∃ v L, o = .returned v ∧ Q v s₂.heap L ∧ ReturnedEndW s o s₂ L kc ks
section OwnW
variable {p : Program} {l : Launch} {e : Env} {R : Room} {s Z : State} {vm0 : Vm} {k0 : Nat} {m : MethodId} {args a0 : Array Value} {below : List Frame} {meth : Method} {c : Code} {T : State} {locs : List Loc} {cells slots kc ks : Nat} {h h' : Heap} {C n d : String} {v : Value} {Q : Option Value → Heap → List Loc → Prop}
theorem own_backW {A B : State} (h : ∀ t, Steps p.tables e below B t → Steps p.tables e below A t) (k : own_FinW p e below s kc ks Q B) : own_FinW p e below s kc ks Q A := by
  obtain ⟨s2, o, h1, r⟩ := k
  exact ⟨s2, o, h _ h1, r⟩
theorem own_retZW (X : Stand p l e R (s.setVm vm0) m args below meth c T locs cells slots) (hx : p.tables.exec = Jvm.exec) (hS : s.Since vm0 k0) (hk : k0 ≤ T.heap.size) (hlk : meth.locks = false) {pc : Nat} {Ls : Array Slot} {z : Int32} {rest : List Value} (hret : meth.sig.returnType = some .boolean) (hd : decode c.code pc = .ok (.ireturn, 1)) (hc : cells ≤ kc) (hs : slots ≤ ks)
    (hQ : Q (some (.int (z &&& 1))) T.heap locs) : own_FinW p e below s kc ks Q (T.setTop (mkF m pc Ls (.int z :: rest))) := by
  obtain ⟨fs, hr, hrun, hended, hW⟩ := X.leaveW hS hk (v := some (.int (nar .boolean z))) (fun h => by rw [hret] at h; cases h) hlk
  exact ⟨_, _, retN X hx hret (Or.inl rfl) hd hr, hrun, hended, _, _, rfl, hQ, hW.1, hW.2.1, hW.2.2.1, hW.2.2.2.mono hc hs⟩
theorem own_retAW (X : Stand p l e R (s.setVm vm0) m args below meth c T locs cells slots) (hx : p.tables.exec = Jvm.exec) (hS : s.Since vm0 k0) (hk : k0 ≤ T.heap.size) (hlk : meth.locks = false) {pc : Nat} {Ls : Array Slot} {w : Value} {rest : List Value} {t : FieldType} (hret : meth.sig.returnType = some t) (ht : t.isReference = true) (hw : w.isRef = true) (hd : decode c.code pc = .ok (.areturn, 1)) (hc : cells ≤ kc) (hs : slots ≤ ks)
    (hQ : Q (some w) T.heap locs) : own_FinW p e below s kc ks Q (T.setTop (mkF m pc Ls (w :: rest))) := by
  obtain ⟨fs, hr, hrun, hended, hW⟩ := X.leaveW hS hk (v := some w) (fun h => by rw [hret] at h; cases h) hlk
  have hn : narrow t w = w := by cases t <;> first | rfl | cases ht
  exact ⟨_, _, retOut X hx hret hn (Or.inr (Or.inr (Or.inr (Or.inr ⟨rfl, ht, hw⟩)))) hd hr, hrun, hended, _, _, rfl, hQ, hW.1, hW.2.1, hW.2.2.1, hW.2.2.2.mono hc hs⟩
theorem own_ret0W (X : Stand p l e R (s.setVm vm0) m args below meth c T locs cells slots) (hx : p.tables.exec = Jvm.exec) (hS : s.Since vm0 k0) (hk : k0 ≤ T.heap.size) (hlk : meth.locks = false) {pc : Nat} {Ls : Array Slot} (hret : meth.sig.returnType = none) (hd : decode c.code pc = .ok (.return_, 1)) (hc : cells ≤ kc) (hs : slots ≤ ks)
    (hQ : Q none T.heap locs) : own_FinW p e below s kc ks Q (T.setTop (mkF m pc Ls [])) := by
  obtain ⟨fs, hr, hrun, hended, hW⟩ := X.leaveW hS hk (v := none) (fun _ => rfl) hlk
  exact ⟨_, _, X.returnOut hx hret hd hr, hrun, hended, _, _, rfl, hQ, hW.1, hW.2.1, hW.2.2.1, hW.2.2.2.mono hc hs⟩
theorem own_ib {U : State} {Ts : List String} (hW : s.WarmedH U.vm) (I : IB Z s.vm Ts) : IB Z U.vm Ts := by
  obtain ⟨more, e, h⟩ := I
  exact ⟨more, hW.interned_eq.trans e, h⟩
theorem own_backOfSI {Ts : List String} {y : MethodName} {bytes : ByteArray} {maxL : Nat} {ret : Option FieldType} {rm : Room} {len W : Nat} {as' : Array Value}
    (hM : MetFree l y (head1 [Cond.code y bytes maxL ret] rm) (fun a U => a = as' ∧ Z.Warmed39 U.vm ∧ U.heap = h ∧ IB Z U.vm Ts) (fun _ _ _ _ _ => True) (fun _ U o U' => ∃ v L, o = .returned v ∧ Q v U'.heap L ∧ ReturnedEndW U o U' L rm.cells rm.slots))
    (hZ : Z.Warmed39 s.vm) (I : IB Z s.vm Ts) (wc : (Cond.code y bytes maxL ret).before a0 Z = true) (wz : (Cond.initialized y.cls).before a0 Z = true) (hf : rm.frames + 1 ≤ R.frames) (hl : W + (maxL + 11) + rm.locals ≤ R.locals) :
    BackS l R p e below s args y len W (fun A a => a = as' ∧ A.U.heap = h ∧ A.cells + rm.cells ≤ R.cells ∧ A.slots + rm.slots ≤ R.slots)
      (fun A _ v B => ∃ L, Q v B.U.heap L ∧ B.locs = A.locs ++ L ∧ B.cells = A.cells + rm.cells ∧ B.slots = A.slots + rm.slots) :=
  BackS.of_freeW (bytes := bytes) (maxL := maxL) (ret := ret) (E := fun _ _ o t L k n => k = rm.cells ∧ n = rm.slots ∧ ∃ v, o = .returned v ∧ Q v t.heap L) hM hf hl
    (fun m meth c A a Y hp => have hU : Z.Warmed39 A.U.vm := wtrans hZ Y.warmed
      ⟨by show (Cond.and _ .tt).before a A.U = true; rw [Cond.before_and, mv hU wc]; rfl, mv hU wc, mv hU wz, hp.2.2.1, hp.2.2.2⟩)
    (fun m meth c A a g mk Y hp => ⟨hp.1, wtrans hZ Y.warmed, hp.2.1, own_ib Y.warmed I⟩) (fun _ _ _ _ _ _ _ _ _ => trivial)
    (fun _ _ _ _ ⟨v, L, h1, h2, h3⟩ => ⟨L, _, _, h3, rfl, rfl, v, h1, h2⟩)
    (fun m meth c A a g mk v t L k n Y hp _ _ ⟨e1, e2, v', e3, e4⟩ => by cases e3; subst e1 e2; exact ⟨L, e4, rfl, rfl, rfl⟩)
theorem own_sta0 (F : Sta Z h C n d v) (K : Keep h h' []) : Sta Z h' C n d v := by
  obtain ⟨cf, i, k, f, st, cell, h1, h2, h3, h4, h5, r⟩ := F
  exact ⟨cf, i, k, f, st, cell, h1, h2, h3, h4, K.2.1 st cell h5 nin0, r⟩
theorem own_sta1 {x : Addr} {D : String} (F : Sta Z h C n d v) (K : Keep h h' [x]) (E : Exa Z h x D) : Sta Z h' C n d v := by
  obtain ⟨cf, i, k, f, st, cell, h1, h2, h3, h4, h5, h6, r⟩ := F
  refine ⟨cf, i, k, f, st, cell, h1, h2, h3, h4, K.2.1 st cell h5 (ninS (fun q => ?_) nin0), h6, r⟩
  subst q
  obtain ⟨c2, k2, g1, -, -, g4, -⟩ := E
  cases h5.symm.trans g1
  rw [h6] at g4
  cases g4
end OwnW
theorem own_and3 {x : Int32} (h0 : ¬ (x &&& (3 : Int32)) = (0 : Int32)) (h1 : ¬ (x &&& (3 : Int32)) = (1 : Int32)) (h2 : ¬ (x &&& (3 : Int32)) = (2 : Int32)) : (x &&& (3 : Int32)) = (3 : Int32) := by
  have hb : (x &&& 3).toBitVec.toNat ≤ 3 := by
    simp only [Int32.toBitVec_and, BitVec.toNat_and]
    exact Nat.and_le_right
  have e : ∀ k : Nat, k ≤ 3 → (x &&& 3).toBitVec.toNat = k → (x &&& 3) = Int32.ofNat k := fun k hk h => by
    apply Int32.toBitVec_inj.mp
    apply BitVec.eq_of_toNat_eq
    rw [h]
    show k = (BitVec.ofNat 32 k).toNat
    simp
    omega
  have h3 : (x &&& 3).toBitVec.toNat = 3 := by
    have g0 : ¬ (x &&& 3).toBitVec.toNat = 0 := fun q => h0 (e 0 (by decide) q)
    have g1 : ¬ (x &&& 3).toBitVec.toNat = 1 := fun q => h1 (e 1 (by decide) q)
    have g2 : ¬ (x &&& 3).toBitVec.toNat = 2 := fun q => h2 (e 2 (by decide) q)
    omega
  exact e 3 (by decide) h3
theorem own_ch (c : Int32) : ¬ (255 : Int32) < nar .char ((c &&& (255 : Int32)).toUInt32.toUInt16.toUInt32.toInt32) := by
  have hb : (c &&& 255).toBitVec.toNat ≤ 255 := by
    simp only [Int32.toBitVec_and, BitVec.toNat_and]
    exact Nat.and_le_right
  have e : (c &&& 255) = Int32.ofNat (c &&& 255).toBitVec.toNat := by
    apply Int32.toBitVec_inj.mp
    show _ = BitVec.ofNat 32 _
    rw [BitVec.ofNat_toNat]; simp
  have all : ∀ k : Fin 256, ¬ (255 : Int32) < nar .char ((Int32.ofNat k.val).toUInt32.toUInt16.toUInt32.toInt32) := by decide +kernel
  rw [e]
  exact all ⟨(c &&& 255).toBitVec.toNat, by omega⟩
theorem d2_0 : decode jdk_42_method_149_code 0 = .ok (.aload_n 0, 1) := by decide +kernel
theorem d2_1 : decode jdk_42_method_149_code 1 = .ok (.invokespecial 1, 3) := by decide +kernel
theorem d2_4 : decode jdk_42_method_149_code 4 = .ok (.iload_n 3, 1) := by decide +kernel
theorem d2_5 : decode jdk_42_method_149_code 5 = .ok (.ifCond .ne 22, 3) := by decide +kernel
theorem d2_8 : decode jdk_42_method_149_code 8 = .ok (.aload_n 0, 1) := by decide +kernel
theorem d2_9 : decode jdk_42_method_149_code 9 = .ok (.ldc 7, 2) := by decide +kernel
theorem d2_11 : decode jdk_42_method_149_code 11 = .ok (.getfield 9, 3) := by decide +kernel
theorem d2_14 : decode jdk_42_method_149_code 14 = .ok (.putfield 9, 3) := by decide +kernel
theorem d2_17 : decode jdk_42_method_149_code 17 = .ok (.aload_n 0, 1) := by decide +kernel
theorem d2_18 : decode jdk_42_method_149_code 18 = .ok (.ldc 7, 2) := by decide +kernel
theorem d2_20 : decode jdk_42_method_149_code 20 = .ok (.getfield 15, 3) := by decide +kernel
theorem d2_23 : decode jdk_42_method_149_code 23 = .ok (.putfield 15, 3) := by decide +kernel
theorem d2_26 : decode jdk_42_method_149_code 26 = .ok (.return_, 1) := by decide +kernel
theorem pn_2 : plainName "java/lang/String" = true := by first | (simp [plainName, overriddenIn]; done) | decide +kernel
theorem ef_2n4 (m : MethodId) (x0 : Addr) (x1 : Addr) (x2 : Int32) (x3 : Int32) : entryFrame m #[(.ref x0), (.ref x1), (.int x2), (.int x3), .null] 6 = mkF m 0 #[.val (.ref x0), .val (.ref x1), .val (.int x2), .val (.int x3), .val .null, .unset] [] := by first | (simp [entryFrame, mkF, argsToLocals, Value.category]; done) | rfl
def Q2_0 (Z : State) (o0 : Addr) (ar : Addr) (h0 : Heap) (n0 : Nat) (v : Option Value) (h : Heap) (L : List Loc) : Prop := v = none ∧ Fr n0 L ∧ Keep h0 h [o0] ∧ Exa Z h o0 "java/lang/String" ∧ Fld Z h o0 "java/lang/String" "coder" "B" (.int (0 : Int32)) ∧ ∃ (r : Addr) (kd : ClassId), Fld Z h o0 "java/lang/String" "value" "[B" (.ref r) ∧ Arv Z h r kd .byte (0 : Int32) [] (.int (0 : Int32))
set_option maxRecDepth 65536 in
set_option maxHeartbeats 40000000 in
theorem rm2_0 (l : Launch) (Z : State) (a0 : Array Value) (hw : ∀ d ∈ tables_1, d.before a0 Z = true) (ws : List Jvm.Cond) (o0 : Addr) (ar : Addr) (h0 : Heap) (n0 : Nat) (Z0 : n0 ≤ h0.size) (E_o0 : Exa Z h0 o0 "java/lang/String") (F_v : Fld Z h0 o0 "java/lang/String" "value" "[B" .null) (F_c : Fld Z h0 o0 "java/lang/String" "coder" "B" (.int (0 : Int32))) (g_o0 : n0 ≤ o0) (O0 : Old Z n0 h0) (own_held : Jvm.Lit.constHeld Z "java/lang/String" 7) (own_hc : Jvm.Lit.compactW.before a0 Z = true) :
    MetFree l (⟨"java/lang/String", "<init>", "([CIILjava/lang/Void;)V"⟩ : MethodName) (head1 (Jvm.Cond.code (⟨"java/lang/String", "<init>", "([CIILjava/lang/Void;)V"⟩ : MethodName) jdk_42_method_149_code 6 none :: ws) ({ frames := 1, cells := 2, slots := 4, locals := 12 } : Room)) (fun a U => a = #[(.ref o0), (.ref ar), (.int (0 : Int32)), (.int (0 : Int32)), .null] ∧ Z.Warmed39 U.vm ∧ U.heap = h0 ∧ IB Z U.vm []) (fun _ _ _ _ _ => True) (fun _ U o U' => ∃ v L, o = .returned v ∧ Q2_0 Z o0 ar h0 n0 v U'.heap L ∧ ReturnedEndW U o U' L ({ frames := 1, cells := 2, slots := 4, locals := 12 } : Room).cells ({ frames := 1, cells := 2, slots := 4, locals := 12 } : Room).slots) := by
  refine MetFree.of_bodySF (plainFor_of_name pn_2) hisR ?_
  intro p e s m args below meth c s₁ Bd hml0 hP hK
  obtain ⟨rfl, hZ, hh, hI⟩ := hP
  have hx := Bd.exec
  have hby := Bd.bytes
  have hml : c.maxLocals = 6 := hml0
  have hown : s.vm.findClass "java/lang/String" = some m.cls := findClass_of_methodNamed Bd.named
  have hnm := (name_of_methodNamed Bd.named Bd.method).1
  have X0 : Stand p l e ({ frames := 1, cells := 2, slots := 4, locals := 12 } : Room) (s.setVm s.vm) m #[(.ref o0), (.ref ar), (.int (0 : Int32)), (.int (0 : Int32)), .null] below meth c s₁ [] 0 0 := Stand.of_body Bd
  have e0 : s₁.heap = h0 := by rw [← hh, Bd.state]; rfl
  have N0 := Fr.nil n0
  have hS0 : s.Since s.vm 0 := (State.WarmedH.refl s).since 0
  have hZ : Z.Warmed39 (s.setVm s.vm).vm := hZ
  have hown : (s.setVm s.vm).vm.findClass "java/lang/String" = some m.cls := hown
  obtain ⟨F, hF⟩ : ∃ F : State → Prop, F = own_FinW p e below s ({ frames := 1, cells := 2, slots := 4, locals := 12 } : Room).cells ({ frames := 1, cells := 2, slots := 4, locals := 12 } : Room).slots (fun v h L => Q2_0 Z o0 ar h0 n0 v h L) := ⟨_, rfl⟩
  have bk : ∀ {A B : State}, (∀ t, Steps p.tables e below B t → Steps p.tables e below A t) → F B → F A := by
    intro A B h k
    rw [hF] at k ⊢
    exact own_backW h k
  suffices hgo : F (s₁.setTop (mkF m 0 #[.val (.ref o0), .val (.ref ar), .val (.int (0 : Int32)), .val (.int (0 : Int32)), .val .null, .unset] [])) by
    have hgo' := bk (fun t k => castTop (T := s₁) (ef_2n4 m o0 ar (0 : Int32) (0 : Int32)) k) hgo
    rw [hF] at hgo'
    exact hgo'
  have own_wS : ∀ a ∈ Bundle.stringAtoms, a.before a0 Z = true := by
    intro a ha
    simp only [Bundle.stringAtoms, List.mem_cons, List.not_mem_nil, or_false] at ha
    rcases ha with rfl | rfl | rfl | rfl | rfl | rfl | rfl
    · exact (hw _ (List.mem_of_getElem? (i := 3) rfl))
    · exact (hw _ (List.mem_of_getElem? (i := 2) rfl))
    · exact (hw _ (List.mem_of_getElem? (i := 19) rfl))
    · exact (hw _ (List.mem_of_getElem? (i := 29) rfl))
    · exact (hw _ (List.mem_of_getElem? (i := 27) rfl))
    · exact (hw _ (List.mem_of_getElem? (i := 91) rfl))
    · exact (hw _ (List.mem_of_getElem? (i := 92) rfl))
  have own_hk : ∀ (b : Addr) (cl : Cell), Z.heap[b]? = some cl → s.heap[b]? = some cl := by
    rw [hh]
    exact O0.2.2
  show F (s₁.setTop (mkF m 0 #[.val (.ref o0), .val (.ref ar), .val (.int (0 : Int32)), .val (.int (0 : Int32)), .val .null, .unset] []))
  refine bk (fun t k => XS.aloadN X0.here hx rfl (hb hby d2_0) rfl rfl k) ?_
  show F (s₁.setTop (mkF m 1 #[.val (.ref o0), .val (.ref ar), .val (.int (0 : Int32)), .val (.int (0 : Int32)), .val .null, .unset] [(.ref o0)]))
  obtain ⟨T1, X1, e1, st1⟩ := initO X0 hx hZ hown (hw _ (List.mem_of_getElem? (i := 11) rfl)) (hw _ (List.mem_of_getElem? (i := 12) rfl)) (hw _ (List.mem_of_getElem? (i := 13) rfl)) e0 (g := (mkF m 1 #[.val (.ref o0), .val (.ref ar), .val (.int (0 : Int32)), .val (.int (0 : Int32)), .val .null, .unset] [(.ref o0)])) rfl (by rw [hml]; rfl) rfl (hb hby d2_1) (by decide) (W := 0) (by show 2 * 0 + _ ≤ _; exact Nat.le_of_eq rfl) (by decide)
  refine bk (fun t k => st1 t k) ?_
  show F (T1.setTop (mkF m 4 #[.val (.ref o0), .val (.ref ar), .val (.int (0 : Int32)), .val (.int (0 : Int32)), .val .null, .unset] []))
  refine bk (fun t k => XS.iloadN X1.here hx rfl (hb hby d2_4) rfl k) ?_
  show F (T1.setTop (mkF m 5 #[.val (.ref o0), .val (.ref ar), .val (.int (0 : Int32)), .val (.int (0 : Int32)), .val .null, .unset] [(.int (0 : Int32))]))
  refine bk (fun t k => XS.ifNo X1.here hx rfl (hb hby d2_5) rfl ((if0 _ _).trans (teq (by decide : (0 : Int32) = (0 : Int32))).2) k) ?_
  show F (T1.setTop (mkF m 8 #[.val (.ref o0), .val (.ref ar), .val (.int (0 : Int32)), .val (.int (0 : Int32)), .val .null, .unset] []))
  refine bk (fun t k => XS.aloadN X1.here hx rfl (hb hby d2_8) rfl rfl k) ?_
  show F (T1.setTop (mkF m 9 #[.val (.ref o0), .val (.ref ar), .val (.int (0 : Int32)), .val (.int (0 : Int32)), .val .null, .unset] [(.ref o0)]))
  obtain ⟨b2, T2, h2, k12, d2, kk2, X2, e2, E2, hS2, hk2, hZ2, hown2, A2, C2, V2, R2, -, -, IB2, LT2, st2⟩ := ldcSVL X1 hx hZ hown (hw _ (List.mem_of_getElem? (i := 90) rfl)) own_wS e1 hS0 (Nat.zero_le _) (Fr.nil _) own_hk hI (by simp) own_held own_hc (vs := []) (z := (0 : Int32)) (by decide) (by decide) (by decide) (g := (mkF m 9 #[.val (.ref o0), .val (.ref ar), .val (.int (0 : Int32)), .val (.int (0 : Int32)), .val .null, .unset] [(.ref o0)])) rfl (hb hby d2_9) (n := 0) (by decide) (by decide) (by decide) (by decide)
  have f3 := hk2
  have f4 := E_o0.ext E2
  have f5 := F_v.ext E2
  have f6 := F_c.ext E2
  have f7 := Nat.le_trans Z0 E2.1
  have f8 := (Keep.refl h0 [o0]).ext E2
  refine bk (fun t k => st2 t k) ?_
  have ne_b2_o0 : b2 ≠ o0 := Fld.ne V2 f5 (by simp)
  have ne_o0_d2 : o0 ≠ d2 := Exa.neArv f4 R2 (hw _ (List.mem_of_getElem? (i := 2) rfl))
  show F (T2.setTop (mkF m 11 #[.val (.ref o0), .val (.ref ar), .val (.int (0 : Int32)), .val (.int (0 : Int32)), .val .null, .unset] [(.ref b2), (.ref o0)]))
  obtain ⟨T9, X9, e9, st9⟩ := getF X2 hx hZ2 hown2 (host := "") (Or.inl (hw _ (List.mem_of_getElem? (i := 28) rfl))) Via.refl e2 V2 (g := (mkF m 11 #[.val (.ref o0), .val (.ref ar), .val (.int (0 : Int32)), .val (.int (0 : Int32)), .val .null, .unset] [(.ref b2), (.ref o0)])) rfl rfl (hb hby d2_11)
  refine bk (fun t k => st9 t k) ?_
  show F (T9.setTop (mkF m 14 #[.val (.ref o0), .val (.ref ar), .val (.int (0 : Int32)), .val (.int (0 : Int32)), .val .null, .unset] [(.ref d2), (.ref o0)]))
  obtain ⟨T10, h10, X10, e10, W10, st10⟩ := putF X9 hx hZ2 hown2 (host := "") (Or.inl (hw _ (List.mem_of_getElem? (i := 28) rfl))) Via.refl e9 f5 f4 (Or.inr ⟨(hw _ (List.mem_of_getElem? (i := 29) rfl)), rfl, hnm⟩) (hw _ (List.mem_of_getElem? (i := 2) rfl)) (ty := (.array .byte)) (by decide) rfl rfl (g := (mkF m 14 #[.val (.ref o0), .val (.ref ar), .val (.int (0 : Int32)), .val (.int (0 : Int32)), .val .null, .unset] [(.ref d2), (.ref o0)])) rfl rfl (hb hby d2_14)
  have f11 := Nat.le_trans f3 (Keep.of_wr W10).1
  have f12 := f4.wr W10
  have f13 := f5.same W10
  have f14 := f6.other W10 (Or.inr (slot_ne (Or.inr (hw _ (List.mem_of_getElem? (i := 27) rfl))) (Or.inr (hw _ (List.mem_of_getElem? (i := 29) rfl))) (by decide) (t := .byte) (t' := (.array .byte)) (by decide) (by decide)))
  have f15 := Nat.le_trans f7 (Keep.of_wr W10).1
  have f16 := f8.wr W10 (Or.inl (List.mem_of_getElem? (i := 0) rfl))
  have f17 := A2.wr W10
  have f18 := V2.other W10 (Or.inl ne_b2_o0)
  have f19 := C2.other W10 (Or.inl ne_b2_o0)
  have f20 := R2.other W10 (Ne.symm ne_o0_d2)
  have N10 := Fr.snoc X10 N0 g_o0
  refine bk (fun t k => st10 t k) ?_
  show F (T10.setTop (mkF m 17 #[.val (.ref o0), .val (.ref ar), .val (.int (0 : Int32)), .val (.int (0 : Int32)), .val .null, .unset] []))
  refine bk (fun t k => XS.aloadN X10.here hx rfl (hb hby d2_17) rfl rfl k) ?_
  show F (T10.setTop (mkF m 18 #[.val (.ref o0), .val (.ref ar), .val (.int (0 : Int32)), .val (.int (0 : Int32)), .val .null, .unset] [(.ref o0)]))
  refine bk (fun t k => ldcAgain X10 hx hZ2 hown2 (hw _ (List.mem_of_getElem? (i := 90) rfl)) LT2 (g := (mkF m 18 #[.val (.ref o0), .val (.ref ar), .val (.int (0 : Int32)), .val (.int (0 : Int32)), .val .null, .unset] [(.ref o0)])) rfl (hb hby d2_18) t k) ?_
  show F (T10.setTop (mkF m 20 #[.val (.ref o0), .val (.ref ar), .val (.int (0 : Int32)), .val (.int (0 : Int32)), .val .null, .unset] [(.ref b2), (.ref o0)]))
  obtain ⟨T22, X22, e22, st22⟩ := getF X10 hx hZ2 hown2 (host := "") (Or.inl (hw _ (List.mem_of_getElem? (i := 26) rfl))) Via.refl e10 f19 (g := (mkF m 20 #[.val (.ref o0), .val (.ref ar), .val (.int (0 : Int32)), .val (.int (0 : Int32)), .val .null, .unset] [(.ref b2), (.ref o0)])) rfl rfl (hb hby d2_20)
  refine bk (fun t k => st22 t k) ?_
  show F (T22.setTop (mkF m 23 #[.val (.ref o0), .val (.ref ar), .val (.int (0 : Int32)), .val (.int (0 : Int32)), .val .null, .unset] [(.int (0 : Int32)), (.ref o0)]))
  obtain ⟨T23, h23, X23, e23, W23, st23⟩ := putFN X22 hx hZ2 hown2 (hw _ (List.mem_of_getElem? (i := 26) rfl)) Via.refl e22 f14 f12 (Or.inr ⟨(hw _ (List.mem_of_getElem? (i := 27) rfl)), rfl, hnm⟩) (hw _ (List.mem_of_getElem? (i := 2) rfl)) (ty := .byte) (v' := .int (0 : Int32)) (by decide) rfl (by decide) (g := (mkF m 23 #[.val (.ref o0), .val (.ref ar), .val (.int (0 : Int32)), .val (.int (0 : Int32)), .val .null, .unset] [(.int (0 : Int32)), (.ref o0)])) rfl rfl (hb hby d2_23)
  have f24 := Nat.le_trans f11 (Keep.of_wr W23).1
  have f25 := f12.wr W23
  have f26 := f13.other W23 (Or.inr (slot_ne (Or.inr (hw _ (List.mem_of_getElem? (i := 29) rfl))) (Or.inr (hw _ (List.mem_of_getElem? (i := 27) rfl))) (by decide) (t := (.array .byte)) (t' := .byte) (by decide) (by decide)))
  have f27 := f14.same W23
  have f28 := Nat.le_trans f15 (Keep.of_wr W23).1
  have f29 := f16.wr W23 (Or.inl (List.mem_of_getElem? (i := 0) rfl))
  have f30 := f17.wr W23
  have f31 := f18.other W23 (Or.inl ne_b2_o0)
  have f32 := f19.other W23 (Or.inl ne_b2_o0)
  have f33 := f20.other W23 (Ne.symm ne_o0_d2)
  have N23 := Fr.snoc X23 N10 g_o0
  refine bk (fun t k => st23 t k) ?_
  show F (T23.setTop (mkF m 26 #[.val (.ref o0), .val (.ref ar), .val (.int (0 : Int32)), .val (.int (0 : Int32)), .val .null, .unset] []))
  rw [hF]
  refine own_ret0W X23 hx hS2 (by rw [e23]; exact f24) Bd.notSynchronized Bd.returns (hb hby d2_26) (by decide) (by decide) ?_
  rw [e23]
  exact ⟨rfl, N23, f29, f25, f27, _, _, f26, f33⟩
theorem d1_0 : decode jdk_42_method_3_code 0 = .ok (.aload_n 0, 1) := by decide +kernel
theorem d1_1 : decode jdk_42_method_3_code 1 = .ok (.aload_n 1, 1) := by decide +kernel
theorem d1_2 : decode jdk_42_method_3_code 2 = .ok (.iconst 0, 1) := by decide +kernel
theorem d1_3 : decode jdk_42_method_3_code 3 = .ok (.aload_n 1, 1) := by decide +kernel
theorem d1_4 : decode jdk_42_method_3_code 4 = .ok (.arraylength, 1) := by decide +kernel
theorem d1_5 : decode jdk_42_method_3_code 5 = .ok (.aconst_null, 1) := by decide +kernel
theorem d1_6 : decode jdk_42_method_3_code 6 = .ok (.invokespecial 27, 3) := by decide +kernel
theorem d1_9 : decode jdk_42_method_3_code 9 = .ok (.return_, 1) := by decide +kernel
theorem pd1___CIILjava_lang_Void__V : parseMethodDescriptor "([CIILjava/lang/Void;)V" = some ⟨[(.array .char), .int, .int, (.object "java/lang/Void")], none⟩ := by decide +kernel
theorem pn_1 : plainName "java/lang/String" = true := by first | (simp [plainName, overriddenIn]; done) | decide +kernel
theorem ef_1 (m : MethodId) (x0 : Addr) (x1 : Addr) : entryFrame m #[(.ref x0), (.ref x1)] 2 = mkF m 0 #[.val (.ref x0), .val (.ref x1)] [] := by first | (simp [entryFrame, mkF, argsToLocals, Value.category]; done) | rfl
def Q1_0 (Z : State) (o0 : Addr) (ar : Addr) (ka : ClassId) (h0 : Heap) (n0 : Nat) (v : Option Value) (h : Heap) (L : List Loc) : Prop := v = none ∧ Fr n0 L ∧ Keep h0 h [o0] ∧ Exa Z h o0 "java/lang/String" ∧ Fld Z h o0 "java/lang/String" "coder" "B" (.int (0 : Int32)) ∧ ∃ (r : Addr) (kd : ClassId), Fld Z h o0 "java/lang/String" "value" "[B" (.ref r) ∧ Arv Z h r kd .byte (0 : Int32) [] (.int (0 : Int32))
set_option maxRecDepth 65536 in
set_option maxHeartbeats 40000000 in
theorem rm1_0 (l : Launch) (Z : State) (a0 : Array Value) (hw : ∀ d ∈ tables_1, d.before a0 Z = true) (ws : List Jvm.Cond) (o0 : Addr) (ar : Addr) (ka : ClassId) (h0 : Heap) (n0 : Nat) (Z0 : n0 ≤ h0.size) (E_o0 : Exa Z h0 o0 "java/lang/String") (F_v : Fld Z h0 o0 "java/lang/String" "value" "[B" .null) (F_c : Fld Z h0 o0 "java/lang/String" "coder" "B" (.int (0 : Int32))) (g_o0 : n0 ≤ o0) (V_ar : Arv Z h0 ar ka .char (0 : Int32) [] (.int (0 : Int32))) (ne_o_ar : o0 ≠ ar) (O0 : Old Z n0 h0) (own_held : Jvm.Lit.constHeld Z "java/lang/String" 7) (own_hc : Jvm.Lit.compactW.before a0 Z = true) :
    MetFree l (⟨"java/lang/String", "<init>", "([C)V"⟩ : MethodName) (head1 (Jvm.Cond.code (⟨"java/lang/String", "<init>", "([C)V"⟩ : MethodName) jdk_42_method_3_code 2 none :: ws) ({ frames := 2, cells := 2, slots := 4, locals := 29 } : Room)) (fun a U => a = #[(.ref o0), (.ref ar)] ∧ Z.Warmed39 U.vm ∧ U.heap = h0 ∧ IB Z U.vm []) (fun _ _ _ _ _ => True) (fun _ U o U' => ∃ v L, o = .returned v ∧ Q1_0 Z o0 ar ka h0 n0 v U'.heap L ∧ ReturnedEndW U o U' L ({ frames := 2, cells := 2, slots := 4, locals := 29 } : Room).cells ({ frames := 2, cells := 2, slots := 4, locals := 29 } : Room).slots) := by
  refine MetFree.of_bodySF (plainFor_of_name pn_1) hisR ?_
  intro p e s m args below meth c s₁ Bd hml0 hP hK
  obtain ⟨rfl, hZ, hh, hI⟩ := hP
  have hx := Bd.exec
  have hby := Bd.bytes
  have hml : c.maxLocals = 2 := hml0
  have hown : s.vm.findClass "java/lang/String" = some m.cls := findClass_of_methodNamed Bd.named
  have hnm := (name_of_methodNamed Bd.named Bd.method).1
  have X0 : Stand p l e ({ frames := 2, cells := 2, slots := 4, locals := 29 } : Room) (s.setVm s.vm) m #[(.ref o0), (.ref ar)] below meth c s₁ [] 0 0 := Stand.of_body Bd
  have e0 : s₁.heap = h0 := by rw [← hh, Bd.state]; rfl
  have N0 := Fr.nil n0
  have hS0 : s.Since s.vm 0 := (State.WarmedH.refl s).since 0
  have hZ : Z.Warmed39 (s.setVm s.vm).vm := hZ
  have hown : (s.setVm s.vm).vm.findClass "java/lang/String" = some m.cls := hown
  obtain ⟨F, hF⟩ : ∃ F : State → Prop, F = own_FinW p e below s ({ frames := 2, cells := 2, slots := 4, locals := 29 } : Room).cells ({ frames := 2, cells := 2, slots := 4, locals := 29 } : Room).slots (fun v h L => Q1_0 Z o0 ar ka h0 n0 v h L) := ⟨_, rfl⟩
  have bk : ∀ {A B : State}, (∀ t, Steps p.tables e below B t → Steps p.tables e below A t) → F B → F A := by
    intro A B h k
    rw [hF] at k ⊢
    exact own_backW h k
  suffices hgo : F (s₁.setTop (mkF m 0 #[.val (.ref o0), .val (.ref ar)] [])) by
    have hgo' := bk (fun t k => castTop (T := s₁) (ef_1 m o0 ar) k) hgo
    rw [hF] at hgo'
    exact hgo'
  show F (s₁.setTop (mkF m 0 #[.val (.ref o0), .val (.ref ar)] []))
  refine bk (fun t k => XS.aloadN X0.here hx rfl (hb hby d1_0) rfl rfl k) ?_
  show F (s₁.setTop (mkF m 1 #[.val (.ref o0), .val (.ref ar)] [(.ref o0)]))
  refine bk (fun t k => XS.aloadN X0.here hx rfl (hb hby d1_1) rfl rfl k) ?_
  show F (s₁.setTop (mkF m 2 #[.val (.ref o0), .val (.ref ar)] [(.ref ar), (.ref o0)]))
  refine bk (fun t k => XS.iconst X0.here hx rfl (hb hby d1_2) k) ?_
  show F (s₁.setTop (mkF m 3 #[.val (.ref o0), .val (.ref ar)] [(.int (0 : Int32)), (.ref ar), (.ref o0)]))
  refine bk (fun t k => XS.aloadN X0.here hx rfl (hb hby d1_3) rfl rfl k) ?_
  show F (s₁.setTop (mkF m 4 #[.val (.ref o0), .val (.ref ar)] [(.ref ar), (.int (0 : Int32)), (.ref ar), (.ref o0)]))
  have vv1 := V_ar
  obtain ⟨cl1, Ar1, q1, S1, M1, H1, G1⟩ := vv1
  refine bk (fun t k => X0.arraylength hx (by rw [e0]; exact Ar1.1) (State.isArrayOf_alike hZ.alike Ar1.2.1) (g := (mkF m 4 #[.val (.ref o0), .val (.ref ar)] [(.ref ar), (.int (0 : Int32)), (.ref ar), (.ref o0)])) rfl rfl (hb hby d1_4) t k) ?_
  rw [len_of S1 M1]
  show F (s₁.setTop (mkF m 5 #[.val (.ref o0), .val (.ref ar)] [(.int (0 : Int32)), (.int (0 : Int32)), (.ref ar), (.ref o0)]))
  refine bk (fun t k => XS.aconstNull X0.here hx rfl (hb hby d1_5) k) ?_
  show F (s₁.setTop (mkF m 6 #[.val (.ref o0), .val (.ref ar)] [.null, (.int (0 : Int32)), (.int (0 : Int32)), (.ref ar), (.ref o0)]))
  obtain ⟨_, _, ⟨T2, L2, k2, n2⟩, -, Y2, hs2, gr2, ⟨Lc2, hQ2, l2, y2, z2⟩, st2⟩ := X0.specialBackS hx (y := (⟨"java/lang/String", "<init>", "([CIILjava/lang/Void;)V"⟩ : MethodName)) rfl hown (mvT hZ (hw _ (List.mem_of_getElem? (i := 7) rfl))) (mvT hZ (hw _ (List.mem_of_getElem? (i := 8) rfl))) (mvT hZ (hw _ (List.mem_of_getElem? (i := 10) rfl))) (by decide) (own_backOfSI (W := 0) (rm2_0 l Z a0 hw [] o0 ar h0 n0 Z0 E_o0 F_v F_c g_o0 O0 own_held own_hc) hZ hI (hw _ (List.mem_of_getElem? (i := 10) rfl)) (hw _ (List.mem_of_getElem? (i := 3) rfl)) (by decide) (by decide)) (g := (mkF m 6 #[.val (.ref o0), .val (.ref ar)] [.null, (.int (0 : Int32)), (.int (0 : Int32)), (.ref ar), (.ref o0)])) rfl (by rw [hml]; rfl) (Steps.refl _) (a := o0) (argsL := [(.ref ar), (.int (0 : Int32)), (.int (0 : Int32)), .null]) (rest := []) (lenOf pd1___CIILjava_lang_Void__V rfl) rfl (by show 2 * 0 + _ ≤ _; exact Nat.le_of_eq rfl) (hb hby d1_6) (fun _ _ => ⟨rfl, e0, (by decide : 0 + 2 ≤ _), (by decide : 0 + 4 ≤ _)⟩)
  dsimp only [Pt.U, Pt.locs, Pt.cells, Pt.slots] at Y2 hs2 gr2 l2 y2 z2 st2 hQ2
  subst l2 y2 z2
  obtain ⟨X2, hS2, hZ2, hown2⟩ := rebS hS0 (by rw [e0]; exact (Nat.zero_le _)) Y2 hs2 gr2 hZ hown
  obtain ⟨rfl, N2q, K2, gE2, gC2, r2, kd2, gF2, gV2⟩ := hQ2
  have N2 := Fr.app N0 N2q
  have f3 := Nat.le_trans (Nat.zero_le _) K2.1
  have f4 := E_o0.keep K2
  have f5 := Nat.le_trans Z0 K2.1
  have f6 := (Keep.refl h0 [o0]).trans K2 (allS (Or.inl (List.mem_of_getElem? (i := 0) rfl)) all0)
  have f7 := V_ar.keep K2 (ninS (Ne.symm ne_o_ar) nin0)
  refine bk (fun t k => st2.trans k) ?_
  show F (T2.setTop (mkF m 9 #[.val (.ref o0), .val (.ref ar)] []))
  rw [hF]
  refine own_ret0W X2 hx hS2 (Nat.le_refl _) Bd.notSynchronized Bd.returns (hb hby d1_9) (by decide) (by decide) ?_
  exact ⟨rfl, N2, f6, gE2, gC2, _, _, gF2, gV2⟩
theorem d5_0 : decode jdk_52_method_21_code 0 = .ok (.iconst 0, 1) := by decide +kernel
theorem d5_1 : decode jdk_52_method_21_code 1 = .ok (.istore 5, 2) := by decide +kernel
theorem d5_3 : decode jdk_52_method_21_code 3 = .ok (.iload 5, 2) := by decide +kernel
theorem d5_5 : decode jdk_52_method_21_code 5 = .ok (.iload 4, 2) := by decide +kernel
theorem d5_7 : decode jdk_52_method_21_code 7 = .ok (.if_icmp .ge 37, 3) := by decide +kernel
theorem d5_10 : decode jdk_52_method_21_code 10 = .ok (.aload_n 0, 1) := by decide +kernel
theorem d5_11 : decode jdk_52_method_21_code 11 = .ok (.iload_n 1, 1) := by decide +kernel
theorem d5_12 : decode jdk_52_method_21_code 12 = .ok (.caload, 1) := by decide +kernel
theorem d5_13 : decode jdk_52_method_21_code 13 = .ok (.istore 6, 2) := by decide +kernel
theorem d5_15 : decode jdk_52_method_21_code 15 = .ok (.iload 6, 2) := by decide +kernel
theorem d5_17 : decode jdk_52_method_21_code 17 = .ok (.sipush 255, 3) := by decide +kernel
theorem d5_20 : decode jdk_52_method_21_code 20 = .ok (.if_icmp .le 6, 3) := by decide +kernel
theorem d5_26 : decode jdk_52_method_21_code 26 = .ok (.aload_n 2, 1) := by decide +kernel
theorem d5_27 : decode jdk_52_method_21_code 27 = .ok (.iload_n 3, 1) := by decide +kernel
theorem d5_28 : decode jdk_52_method_21_code 28 = .ok (.iload 6, 2) := by decide +kernel
theorem d5_30 : decode jdk_52_method_21_code 30 = .ok (.i2b, 1) := by decide +kernel
theorem d5_31 : decode jdk_52_method_21_code 31 = .ok (.bastore, 1) := by decide +kernel
theorem d5_32 : decode jdk_52_method_21_code 32 = .ok (.iinc 1 1, 3) := by decide +kernel
theorem d5_35 : decode jdk_52_method_21_code 35 = .ok (.iinc 3 1, 3) := by decide +kernel
theorem d5_38 : decode jdk_52_method_21_code 38 = .ok (.iinc 5 1, 3) := by decide +kernel
theorem d5_41 : decode jdk_52_method_21_code 41 = .ok (.goto (-38), 3) := by decide +kernel
theorem d5_44 : decode jdk_52_method_21_code 44 = .ok (.iload 4, 2) := by decide +kernel
theorem d5_46 : decode jdk_52_method_21_code 46 = .ok (.ireturn, 1) := by decide +kernel
theorem pn_5 : plainName "java/lang/StringUTF16" = true := by first | (simp [plainName, overriddenIn]; done) | decide +kernel
theorem ef_5 (m : MethodId) (x0 : Addr) (x1 : Int32) (x2 : Addr) (x3 : Int32) (x4 : Int32) : entryFrame m #[(.ref x0), (.int x1), (.ref x2), (.int x3), (.int x4)] 7 = mkF m 0 #[.val (.ref x0), .val (.int x1), .val (.ref x2), .val (.int x3), .val (.int x4), .unset, .unset] [] := by first | (simp [entryFrame, mkF, argsToLocals, Value.category]; done) | rfl
def Q5_1 (Z : State) (ar : Addr) (ds : Addr) (ka : ClassId) (kd : ClassId) (x0 : Int32) (h0 : Heap) (n0 : Nat) (v : Option Value) (h : Heap) (L : List Loc) : Prop := v = some (.int (1 : Int32)) ∧ Fr n0 L ∧ Keep h0 h [ds] ∧ Arv Z h ds kd .byte (1 : Int32) [(.int (nar .byte (x0.toInt8.toInt32)))] (.int (0 : Int32))
set_option maxRecDepth 65536 in
set_option maxHeartbeats 40000000 in
theorem rm5_1 (l : Launch) (Z : State) (a0 : Array Value) (hw : ∀ d ∈ tables_1, d.before a0 Z = true) (ws : List Jvm.Cond) (ar : Addr) (ds : Addr) (ka : ClassId) (kd : ClassId) (x0 : Int32) (h0 : Heap) (n0 : Nat) (Z0 : n0 ≤ h0.size) (V_ar : Arv Z h0 ar ka .char (1 : Int32) [(.int x0)] (.int (0 : Int32))) (V_ds : Arv Z h0 ds kd .byte (1 : Int32) [(.int (0 : Int32))] (.int (0 : Int32))) (g_ds : n0 ≤ ds) (ne_ar : ar ≠ ds) (hx0 : ¬ (255 : Int32) < x0) :
    MetFree l (⟨"java/lang/StringUTF16", "compress", "([CI[BII)I"⟩ : MethodName) (head1 (Jvm.Cond.code (⟨"java/lang/StringUTF16", "compress", "([CI[BII)I"⟩ : MethodName) jdk_52_method_21_code 7 (some .int) :: ws) ({ frames := 0, cells := 0, slots := 0, locals := 0 } : Room)) (fun a U => a = #[(.ref ar), (.int (0 : Int32)), (.ref ds), (.int (0 : Int32)), (.int (1 : Int32))] ∧ Z.Warmed39 U.vm ∧ U.heap = h0) (fun _ _ _ _ _ => True) (fun _ U o U' => ∃ v L, o = .returned v ∧ Q5_1 Z ar ds ka kd x0 h0 n0 v U'.heap L ∧ FrameEnd U o U' L ({ frames := 0, cells := 0, slots := 0, locals := 0 } : Room).cells ({ frames := 0, cells := 0, slots := 0, locals := 0 } : Room).slots) := by
  refine MetFree.of_bodySF (plainFor_of_name pn_5) hisR ?_
  intro p e s m args below meth c s₁ Bd hml0 hP hK
  obtain ⟨rfl, hZ, hh⟩ := hP
  have hx := Bd.exec
  have hby := Bd.bytes
  have hml : c.maxLocals = 7 := hml0
  have hown : s.vm.findClass "java/lang/StringUTF16" = some m.cls := findClass_of_methodNamed Bd.named
  have hnm := (name_of_methodNamed Bd.named Bd.method).1
  have X0 : Stand p l e ({ frames := 0, cells := 0, slots := 0, locals := 0 } : Room) s m #[(.ref ar), (.int (0 : Int32)), (.ref ds), (.int (0 : Int32)), (.int (1 : Int32))] below meth c s₁ [] 0 0 := Stand.of_body Bd
  have e0 : s₁.heap = h0 := by rw [← hh, Bd.state]; rfl
  have N0 := Fr.nil n0
  obtain ⟨F, hF⟩ : ∃ F : State → Prop, F = own_Fin p e below s ({ frames := 0, cells := 0, slots := 0, locals := 0 } : Room).cells ({ frames := 0, cells := 0, slots := 0, locals := 0 } : Room).slots (fun v h L => Q5_1 Z ar ds ka kd x0 h0 n0 v h L) := ⟨_, rfl⟩
  have bk : ∀ {A B : State}, (∀ t, Steps p.tables e below B t → Steps p.tables e below A t) → F B → F A := by
    intro A B h k
    rw [hF] at k ⊢
    exact own_back h k
  suffices hgo : F (s₁.setTop (mkF m 0 #[.val (.ref ar), .val (.int (0 : Int32)), .val (.ref ds), .val (.int (0 : Int32)), .val (.int (1 : Int32)), .unset, .unset] [])) by
    have hgo' := bk (fun t k => castTop (T := s₁) (ef_5 m ar (0 : Int32) ds (0 : Int32) (1 : Int32)) k) hgo
    rw [hF] at hgo'
    exact hgo'
  show F (s₁.setTop (mkF m 0 #[.val (.ref ar), .val (.int (0 : Int32)), .val (.ref ds), .val (.int (0 : Int32)), .val (.int (1 : Int32)), .unset, .unset] []))
  refine bk (fun t k => XS.iconst X0.here hx rfl (hb hby d5_0) k) ?_
  show F (s₁.setTop (mkF m 1 #[.val (.ref ar), .val (.int (0 : Int32)), .val (.ref ds), .val (.int (0 : Int32)), .val (.int (1 : Int32)), .unset, .unset] [(.int (0 : Int32))]))
  refine bk (fun t k => XS.istore X0.here hx rfl (hb hby d5_1) rfl (l' := #[.val (.ref ar), .val (.int (0 : Int32)), .val (.ref ds), .val (.int (0 : Int32)), .val (.int (1 : Int32)), .val (.int (0 : Int32)), .unset]) rfl k) ?_
  show F (s₁.setTop (mkF m 3 #[.val (.ref ar), .val (.int (0 : Int32)), .val (.ref ds), .val (.int (0 : Int32)), .val (.int (1 : Int32)), .val (.int (0 : Int32)), .unset] []))
  refine bk (fun t k => XS.iload X0.here hx rfl (hb hby d5_3) rfl k) ?_
  show F (s₁.setTop (mkF m 5 #[.val (.ref ar), .val (.int (0 : Int32)), .val (.ref ds), .val (.int (0 : Int32)), .val (.int (1 : Int32)), .val (.int (0 : Int32)), .unset] [(.int (0 : Int32))]))
  refine bk (fun t k => XS.iload X0.here hx rfl (hb hby d5_5) rfl k) ?_
  show F (s₁.setTop (mkF m 7 #[.val (.ref ar), .val (.int (0 : Int32)), .val (.ref ds), .val (.int (0 : Int32)), .val (.int (1 : Int32)), .val (.int (0 : Int32)), .unset] [(.int (1 : Int32)), (.int (0 : Int32))]))
  refine bk (fun t k => XS.icmpNo X0.here hx rfl (hb hby d5_7) rfl (tlt (by decide : (0 : Int32) < (1 : Int32))).2.1 k) ?_
  show F (s₁.setTop (mkF m 10 #[.val (.ref ar), .val (.int (0 : Int32)), .val (.ref ds), .val (.int (0 : Int32)), .val (.int (1 : Int32)), .val (.int (0 : Int32)), .unset] []))
  refine bk (fun t k => XS.aloadN X0.here hx rfl (hb hby d5_10) rfl rfl k) ?_
  show F (s₁.setTop (mkF m 11 #[.val (.ref ar), .val (.int (0 : Int32)), .val (.ref ds), .val (.int (0 : Int32)), .val (.int (1 : Int32)), .val (.int (0 : Int32)), .unset] [(.ref ar)]))
  refine bk (fun t k => XS.iloadN X0.here hx rfl (hb hby d5_11) rfl k) ?_
  show F (s₁.setTop (mkF m 12 #[.val (.ref ar), .val (.int (0 : Int32)), .val (.ref ds), .val (.int (0 : Int32)), .val (.int (1 : Int32)), .val (.int (0 : Int32)), .unset] [(.int (0 : Int32)), (.ref ar)]))
  have vv1 := V_ar
  obtain ⟨cl1, Ar1, q1, S1, M1, H1, G1⟩ := vv1
  have hin1 : ¬ ((0 : Int32) < 0 ∨ cl1.slots.size ≤ ((0 : Int32)).toNatClampNeg) := inb_of S1 ⟨by decide, by decide⟩
  refine bk (fun t k => X0.caload hx (j := (0 : Int32)) (v := (.int x0)) (by rw [e0]; exact Ar1.1) (State.isArrayOf_alike hZ.alike Ar1.2.1) Ar1.2.2 hin1 (Has.at H1 hin1 rfl) (g := (mkF m 12 #[.val (.ref ar), .val (.int (0 : Int32)), .val (.ref ds), .val (.int (0 : Int32)), .val (.int (1 : Int32)), .val (.int (0 : Int32)), .unset] [(.int (0 : Int32)), (.ref ar)])) rfl rfl (hb hby d5_12) t k) ?_
  show F (s₁.setTop (mkF m 13 #[.val (.ref ar), .val (.int (0 : Int32)), .val (.ref ds), .val (.int (0 : Int32)), .val (.int (1 : Int32)), .val (.int (0 : Int32)), .unset] [(.int x0)]))
  refine bk (fun t k => XS.istore X0.here hx rfl (hb hby d5_13) rfl (l' := #[.val (.ref ar), .val (.int (0 : Int32)), .val (.ref ds), .val (.int (0 : Int32)), .val (.int (1 : Int32)), .val (.int (0 : Int32)), .val (.int x0)]) rfl k) ?_
  show F (s₁.setTop (mkF m 15 #[.val (.ref ar), .val (.int (0 : Int32)), .val (.ref ds), .val (.int (0 : Int32)), .val (.int (1 : Int32)), .val (.int (0 : Int32)), .val (.int x0)] []))
  refine bk (fun t k => XS.iload X0.here hx rfl (hb hby d5_15) rfl k) ?_
  show F (s₁.setTop (mkF m 17 #[.val (.ref ar), .val (.int (0 : Int32)), .val (.ref ds), .val (.int (0 : Int32)), .val (.int (1 : Int32)), .val (.int (0 : Int32)), .val (.int x0)] [(.int x0)]))
  refine bk (fun t k => XS.sipush X0.here hx rfl (hb hby d5_17) k) ?_
  show F (s₁.setTop (mkF m 20 #[.val (.ref ar), .val (.int (0 : Int32)), .val (.ref ds), .val (.int (0 : Int32)), .val (.int (1 : Int32)), .val (.int (0 : Int32)), .val (.int x0)] [(.int (255 : Int32)), (.int x0)]))
  refine bk (fun t k => XS.icmpYes X0.here hx rfl (pc0 := 20) (pc' := 26) rfl (hb hby d5_20) rfl (flt hx0).2.2.2 (by decide) (by decide) k) ?_
  show F (s₁.setTop (mkF m 26 #[.val (.ref ar), .val (.int (0 : Int32)), .val (.ref ds), .val (.int (0 : Int32)), .val (.int (1 : Int32)), .val (.int (0 : Int32)), .val (.int x0)] []))
  refine bk (fun t k => XS.aloadN X0.here hx rfl (hb hby d5_26) rfl rfl k) ?_
  show F (s₁.setTop (mkF m 27 #[.val (.ref ar), .val (.int (0 : Int32)), .val (.ref ds), .val (.int (0 : Int32)), .val (.int (1 : Int32)), .val (.int (0 : Int32)), .val (.int x0)] [(.ref ds)]))
  refine bk (fun t k => XS.iloadN X0.here hx rfl (hb hby d5_27) rfl k) ?_
  show F (s₁.setTop (mkF m 28 #[.val (.ref ar), .val (.int (0 : Int32)), .val (.ref ds), .val (.int (0 : Int32)), .val (.int (1 : Int32)), .val (.int (0 : Int32)), .val (.int x0)] [(.int (0 : Int32)), (.ref ds)]))
  refine bk (fun t k => XS.iload X0.here hx rfl (hb hby d5_28) rfl k) ?_
  show F (s₁.setTop (mkF m 30 #[.val (.ref ar), .val (.int (0 : Int32)), .val (.ref ds), .val (.int (0 : Int32)), .val (.int (1 : Int32)), .val (.int (0 : Int32)), .val (.int x0)] [(.int x0), (.int (0 : Int32)), (.ref ds)]))
  refine bk (fun t k => XS.i2b X0.here hx rfl (hb hby d5_30) rfl k) ?_
  show F (s₁.setTop (mkF m 31 #[.val (.ref ar), .val (.int (0 : Int32)), .val (.ref ds), .val (.int (0 : Int32)), .val (.int (1 : Int32)), .val (.int (0 : Int32)), .val (.int x0)] [(.int (x0.toInt8.toInt32)), (.int (0 : Int32)), (.ref ds)]))
  have vv2 := V_ds
  obtain ⟨cl2, Ar2, q2, S2, M2, H2, G2⟩ := vv2
  have hin2 : ¬ ((0 : Int32) < 0 ∨ cl2.slots.size ≤ ((0 : Int32)).toNatClampNeg) := inb_of S2 ⟨by decide, by decide⟩
  obtain ⟨T2, h2, X2, e2, W2, st2⟩ := stB X0 hx hZ e0 Ar2 (j := (0 : Int32)) hin2 (g := (mkF m 31 #[.val (.ref ar), .val (.int (0 : Int32)), .val (.ref ds), .val (.int (0 : Int32)), .val (.int (1 : Int32)), .val (.int (0 : Int32)), .val (.int x0)] [(.int (x0.toInt8.toInt32)), (.int (0 : Int32)), (.ref ds)])) rfl rfl (hb hby d5_31)
  have V_ds_2 : Arv Z h2 ds kd .byte (1 : Int32) [(.int (nar .byte (x0.toInt8.toInt32)))] (.int (0 : Int32)) := Arv.set Ar2 q2 S2 M2 H2 G2 (fits_nar_byte _) W2 0 rfl (Nat.le_of_ble_eq_true rfl)
  have f3 := V_ar.other W2 ne_ar
  have f4 := Nat.le_trans Z0 (Keep.of_wr W2).1
  have f5 := (Keep.refl h0 [ds]).wr W2 (Or.inl (List.mem_of_getElem? (i := 0) rfl))
  have N2 := Fr.snoc X2 N0 g_ds
  refine bk (fun t k => st2 t k) ?_
  show F (T2.setTop (mkF m 32 #[.val (.ref ar), .val (.int (0 : Int32)), .val (.ref ds), .val (.int (0 : Int32)), .val (.int (1 : Int32)), .val (.int (0 : Int32)), .val (.int x0)] []))
  refine bk (fun t k => XS.iinc X2.here hx rfl (hb hby d5_32) rfl (l' := #[.val (.ref ar), .val (.int (1 : Int32)), .val (.ref ds), .val (.int (0 : Int32)), .val (.int (1 : Int32)), .val (.int (0 : Int32)), .val (.int x0)]) rfl k) ?_
  show F (T2.setTop (mkF m 35 #[.val (.ref ar), .val (.int (1 : Int32)), .val (.ref ds), .val (.int (0 : Int32)), .val (.int (1 : Int32)), .val (.int (0 : Int32)), .val (.int x0)] []))
  refine bk (fun t k => XS.iinc X2.here hx rfl (hb hby d5_35) rfl (l' := #[.val (.ref ar), .val (.int (1 : Int32)), .val (.ref ds), .val (.int (1 : Int32)), .val (.int (1 : Int32)), .val (.int (0 : Int32)), .val (.int x0)]) rfl k) ?_
  show F (T2.setTop (mkF m 38 #[.val (.ref ar), .val (.int (1 : Int32)), .val (.ref ds), .val (.int (1 : Int32)), .val (.int (1 : Int32)), .val (.int (0 : Int32)), .val (.int x0)] []))
  refine bk (fun t k => XS.iinc X2.here hx rfl (hb hby d5_38) rfl (l' := #[.val (.ref ar), .val (.int (1 : Int32)), .val (.ref ds), .val (.int (1 : Int32)), .val (.int (1 : Int32)), .val (.int (1 : Int32)), .val (.int x0)]) rfl k) ?_
  show F (T2.setTop (mkF m 41 #[.val (.ref ar), .val (.int (1 : Int32)), .val (.ref ds), .val (.int (1 : Int32)), .val (.int (1 : Int32)), .val (.int (1 : Int32)), .val (.int x0)] []))
  refine bk (fun t k => XS.goto X2.here hx rfl (pc0 := 41) (pc' := 3) rfl (hb hby d5_41) (by decide) (by decide) k) ?_
  show F (T2.setTop (mkF m 3 #[.val (.ref ar), .val (.int (1 : Int32)), .val (.ref ds), .val (.int (1 : Int32)), .val (.int (1 : Int32)), .val (.int (1 : Int32)), .val (.int x0)] []))
  refine bk (fun t k => XS.iload X2.here hx rfl (hb hby d5_3) rfl k) ?_
  show F (T2.setTop (mkF m 5 #[.val (.ref ar), .val (.int (1 : Int32)), .val (.ref ds), .val (.int (1 : Int32)), .val (.int (1 : Int32)), .val (.int (1 : Int32)), .val (.int x0)] [(.int (1 : Int32))]))
  refine bk (fun t k => XS.iload X2.here hx rfl (hb hby d5_5) rfl k) ?_
  show F (T2.setTop (mkF m 7 #[.val (.ref ar), .val (.int (1 : Int32)), .val (.ref ds), .val (.int (1 : Int32)), .val (.int (1 : Int32)), .val (.int (1 : Int32)), .val (.int x0)] [(.int (1 : Int32)), (.int (1 : Int32))]))
  refine bk (fun t k => XS.icmpYes X2.here hx rfl (pc0 := 7) (pc' := 44) rfl (hb hby d5_7) rfl (flt (by decide : ¬ ((1 : Int32) < (1 : Int32)))).2.1 (by decide) (by decide) k) ?_
  show F (T2.setTop (mkF m 44 #[.val (.ref ar), .val (.int (1 : Int32)), .val (.ref ds), .val (.int (1 : Int32)), .val (.int (1 : Int32)), .val (.int (1 : Int32)), .val (.int x0)] []))
  refine bk (fun t k => XS.iload X2.here hx rfl (hb hby d5_44) rfl k) ?_
  show F (T2.setTop (mkF m 46 #[.val (.ref ar), .val (.int (1 : Int32)), .val (.ref ds), .val (.int (1 : Int32)), .val (.int (1 : Int32)), .val (.int (1 : Int32)), .val (.int x0)] [(.int (1 : Int32))]))
  rw [hF]
  refine own_retI X2 hx Bd.notSynchronized Bd.returns (hb hby d5_46) (by decide) (by decide) ?_
  rw [e2]
  exact ⟨rfl, N2, f5, V_ds_2⟩
theorem d4_0 : decode jdk_52_method_16_code 0 = .ok (.iload_n 2, 1) := by decide +kernel
theorem d4_1 : decode jdk_52_method_16_code 1 = .ok (.newarray .byte, 2) := by decide +kernel
theorem d4_3 : decode jdk_52_method_16_code 3 = .ok (.astore_n 3, 1) := by decide +kernel
theorem d4_4 : decode jdk_52_method_16_code 4 = .ok (.aload_n 0, 1) := by decide +kernel
theorem d4_5 : decode jdk_52_method_16_code 5 = .ok (.iload_n 1, 1) := by decide +kernel
theorem d4_6 : decode jdk_52_method_16_code 6 = .ok (.aload_n 3, 1) := by decide +kernel
theorem d4_7 : decode jdk_52_method_16_code 7 = .ok (.iconst 0, 1) := by decide +kernel
theorem d4_8 : decode jdk_52_method_16_code 8 = .ok (.iload_n 2, 1) := by decide +kernel
theorem d4_9 : decode jdk_52_method_16_code 9 = .ok (.invokestatic 115, 3) := by decide +kernel
theorem d4_12 : decode jdk_52_method_16_code 12 = .ok (.istore 4, 2) := by decide +kernel
theorem d4_14 : decode jdk_52_method_16_code 14 = .ok (.iload 4, 2) := by decide +kernel
theorem d4_16 : decode jdk_52_method_16_code 16 = .ok (.iload_n 2, 1) := by decide +kernel
theorem d4_17 : decode jdk_52_method_16_code 17 = .ok (.if_icmp .eq 40, 3) := by decide +kernel
theorem d4_57 : decode jdk_52_method_16_code 57 = .ok (.aload_n 3, 1) := by decide +kernel
theorem d4_58 : decode jdk_52_method_16_code 58 = .ok (.areturn, 1) := by decide +kernel
theorem pd4___CI_BII_I : parseMethodDescriptor "([CI[BII)I" = some ⟨[(.array .char), .int, (.array .byte), .int, .int], some .int⟩ := by decide +kernel
theorem pn_4 : plainName "java/lang/StringUTF16" = true := by first | (simp [plainName, overriddenIn]; done) | decide +kernel
theorem ef_4 (m : MethodId) (x0 : Addr) (x1 : Int32) (x2 : Int32) : entryFrame m #[(.ref x0), (.int x1), (.int x2)] 6 = mkF m 0 #[.val (.ref x0), .val (.int x1), .val (.int x2), .unset, .unset, .unset] [] := by first | (simp [entryFrame, mkF, argsToLocals, Value.category]; done) | rfl
def Q4_1 (Z : State) (ar : Addr) (ka : ClassId) (x0 : Int32) (h0 : Heap) (n0 : Nat) (v : Option Value) (h : Heap) (L : List Loc) : Prop := ∃ (r : Addr) (kd : ClassId), v = some (.ref r) ∧ Fr n0 L ∧ Keep h0 h [] ∧ Arv Z h r kd .byte (1 : Int32) [(.int (nar .byte (x0.toInt8.toInt32)))] (.int (0 : Int32)) ∧ n0 ≤ r
set_option maxRecDepth 65536 in
set_option maxHeartbeats 40000000 in
theorem rm4_1 (l : Launch) (Z : State) (a0 : Array Value) (hw : ∀ d ∈ tables_1, d.before a0 Z = true) (ws : List Jvm.Cond) (ar : Addr) (ka : ClassId) (x0 : Int32) (h0 : Heap) (n0 : Nat) (Z0 : n0 ≤ h0.size) (V_ar : Arv Z h0 ar ka .char (1 : Int32) [(.int x0)] (.int (0 : Int32))) (hx0 : ¬ (255 : Int32) < x0) :
    MetFree l (⟨"java/lang/StringUTF16", "compress", "([CII)[B"⟩ : MethodName) (head1 (Jvm.Cond.code (⟨"java/lang/StringUTF16", "compress", "([CII)[B"⟩ : MethodName) jdk_52_method_16_code 6 (some (.array .byte)) :: ws) ({ frames := 1, cells := 1, slots := 1, locals := 18 } : Room)) (fun a U => a = #[(.ref ar), (.int (0 : Int32)), (.int (1 : Int32))] ∧ Z.Warmed39 U.vm ∧ U.heap = h0) (fun _ _ _ _ _ => True) (fun _ U o U' => ∃ v L, o = .returned v ∧ Q4_1 Z ar ka x0 h0 n0 v U'.heap L ∧ FrameEnd U o U' L ({ frames := 1, cells := 1, slots := 1, locals := 18 } : Room).cells ({ frames := 1, cells := 1, slots := 1, locals := 18 } : Room).slots) := by
  refine MetFree.of_bodySF (plainFor_of_name pn_4) hisR ?_
  intro p e s m args below meth c s₁ Bd hml0 hP hK
  obtain ⟨rfl, hZ, hh⟩ := hP
  have hx := Bd.exec
  have hby := Bd.bytes
  have hml : c.maxLocals = 6 := hml0
  have hown : s.vm.findClass "java/lang/StringUTF16" = some m.cls := findClass_of_methodNamed Bd.named
  have hnm := (name_of_methodNamed Bd.named Bd.method).1
  have X0 : Stand p l e ({ frames := 1, cells := 1, slots := 1, locals := 18 } : Room) s m #[(.ref ar), (.int (0 : Int32)), (.int (1 : Int32))] below meth c s₁ [] 0 0 := Stand.of_body Bd
  have e0 : s₁.heap = h0 := by rw [← hh, Bd.state]; rfl
  have N0 := Fr.nil n0
  obtain ⟨F, hF⟩ : ∃ F : State → Prop, F = own_Fin p e below s ({ frames := 1, cells := 1, slots := 1, locals := 18 } : Room).cells ({ frames := 1, cells := 1, slots := 1, locals := 18 } : Room).slots (fun v h L => Q4_1 Z ar ka x0 h0 n0 v h L) := ⟨_, rfl⟩
  have bk : ∀ {A B : State}, (∀ t, Steps p.tables e below B t → Steps p.tables e below A t) → F B → F A := by
    intro A B h k
    rw [hF] at k ⊢
    exact own_back h k
  suffices hgo : F (s₁.setTop (mkF m 0 #[.val (.ref ar), .val (.int (0 : Int32)), .val (.int (1 : Int32)), .unset, .unset, .unset] [])) by
    have hgo' := bk (fun t k => castTop (T := s₁) (ef_4 m ar (0 : Int32) (1 : Int32)) k) hgo
    rw [hF] at hgo'
    exact hgo'
  show F (s₁.setTop (mkF m 0 #[.val (.ref ar), .val (.int (0 : Int32)), .val (.int (1 : Int32)), .unset, .unset, .unset] []))
  refine bk (fun t k => XS.iloadN X0.here hx rfl (hb hby d4_0) rfl k) ?_
  show F (s₁.setTop (mkF m 1 #[.val (.ref ar), .val (.int (0 : Int32)), .val (.int (1 : Int32)), .unset, .unset, .unset] [(.int (1 : Int32))]))
  obtain ⟨T1, h1, k1, X1, e1, E1, A1, st1⟩ := newP (aty := .byte) X0 hx hZ (hw _ (List.mem_of_getElem? (i := 19) rfl)) e0 (g := (mkF m 1 #[.val (.ref ar), .val (.int (0 : Int32)), .val (.int (1 : Int32)), .unset, .unset, .unset] [(.int (1 : Int32))])) rfl (hb hby d4_1) rfl (by decide) (cap := 1) (by decide) (by decide) (by decide) (by decide)
  obtain ⟨b1, g1⟩ : ∃ z, z = h0.size := ⟨_, rfl⟩
  rw [← g1] at A1 st1
  have Gb1 : n0 ≤ b1 := Nat.le_trans Z0 (Nat.le_of_eq g1.symm)
  have sz_b1 : h0.size ≤ b1 := Nat.le_trans (Keep.refl h0 []).1 (Nat.le_of_eq g1.symm)
  have ne_ar_b1 : ar ≠ b1 := Nat.ne_of_lt (Nat.lt_of_lt_of_le V_ar.lt (Nat.le_of_eq g1.symm))
  have f2 := V_ar.ext E1
  have f3 := Nat.le_trans Z0 E1.1
  have f4 := (Keep.refl h0 []).ext E1
  have V_b1 : Arv Z h1 b1 k1 .byte (1 : Int32) [(.int (0 : Int32))] (.int (0 : Int32)) := (Arv.new A1 (by decide)).pad (pad_rep [] (.int (0 : Int32)) 1)
  refine bk (fun t k => st1 t k) ?_
  show F (T1.setTop (mkF m 3 #[.val (.ref ar), .val (.int (0 : Int32)), .val (.int (1 : Int32)), .unset, .unset, .unset] [(.ref b1)]))
  refine bk (fun t k => XS.astoreN X1.here hx rfl (hb hby d4_3) rfl rfl (l' := #[.val (.ref ar), .val (.int (0 : Int32)), .val (.int (1 : Int32)), .val (.ref b1), .unset, .unset]) rfl k) ?_
  show F (T1.setTop (mkF m 4 #[.val (.ref ar), .val (.int (0 : Int32)), .val (.int (1 : Int32)), .val (.ref b1), .unset, .unset] []))
  refine bk (fun t k => XS.aloadN X1.here hx rfl (hb hby d4_4) rfl rfl k) ?_
  show F (T1.setTop (mkF m 5 #[.val (.ref ar), .val (.int (0 : Int32)), .val (.int (1 : Int32)), .val (.ref b1), .unset, .unset] [(.ref ar)]))
  refine bk (fun t k => XS.iloadN X1.here hx rfl (hb hby d4_5) rfl k) ?_
  show F (T1.setTop (mkF m 6 #[.val (.ref ar), .val (.int (0 : Int32)), .val (.int (1 : Int32)), .val (.ref b1), .unset, .unset] [(.int (0 : Int32)), (.ref ar)]))
  refine bk (fun t k => XS.aloadN X1.here hx rfl (hb hby d4_6) rfl rfl k) ?_
  show F (T1.setTop (mkF m 7 #[.val (.ref ar), .val (.int (0 : Int32)), .val (.int (1 : Int32)), .val (.ref b1), .unset, .unset] [(.ref b1), (.int (0 : Int32)), (.ref ar)]))
  refine bk (fun t k => XS.iconst X1.here hx rfl (hb hby d4_7) k) ?_
  show F (T1.setTop (mkF m 8 #[.val (.ref ar), .val (.int (0 : Int32)), .val (.int (1 : Int32)), .val (.ref b1), .unset, .unset] [(.int (0 : Int32)), (.ref b1), (.int (0 : Int32)), (.ref ar)]))
  refine bk (fun t k => XS.iloadN X1.here hx rfl (hb hby d4_8) rfl k) ?_
  show F (T1.setTop (mkF m 9 #[.val (.ref ar), .val (.int (0 : Int32)), .val (.int (1 : Int32)), .val (.ref b1), .unset, .unset] [(.int (1 : Int32)), (.int (0 : Int32)), (.ref b1), (.int (0 : Int32)), (.ref ar)]))
  obtain ⟨_, _, ⟨T5, L5, k5, n5⟩, -, X5, ⟨Lc5, hQ5, l5, y5, z5⟩, st5⟩ := Jvm.LawKit.callS X1 hx (y := (⟨"java/lang/StringUTF16", "compress", "([CI[BII)I"⟩ : MethodName)) hown (mvT hZ (hw _ (List.mem_of_getElem? (i := 20) rfl))) (mvT hZ (hw _ (List.mem_of_getElem? (i := 21) rfl))) (mvT hZ (hw _ (List.mem_of_getElem? (i := 17) rfl))) (mvT hZ (hw _ (List.mem_of_getElem? (i := 22) rfl))) (by decide) (backOf (W := 0) (rm5_1 l Z a0 hw [] ar b1 ka k1 x0 h1 n0 f3 f2 V_b1 Gb1 ne_ar_b1 hx0) hZ (hw _ (List.mem_of_getElem? (i := 22) rfl)) (hw _ (List.mem_of_getElem? (i := 17) rfl)) (by decide) (by decide)) (g := (mkF m 9 #[.val (.ref ar), .val (.int (0 : Int32)), .val (.int (1 : Int32)), .val (.ref b1), .unset, .unset] [(.int (1 : Int32)), (.int (0 : Int32)), (.ref b1), (.int (0 : Int32)), (.ref ar)])) rfl (by rw [hml]; rfl) (argsL := [(.ref ar), (.int (0 : Int32)), (.ref b1), (.int (0 : Int32)), (.int (1 : Int32))]) (rest := []) (lenOf pd4___CI_BII_I rfl) rfl (by show 2 * 0 + _ ≤ _; exact Nat.le_of_eq rfl) (hb hby d4_9) (fun _ _ => ⟨rfl, e1, (by decide : 1 + 0 ≤ _), (by decide : 1 + 0 ≤ _)⟩)
  dsimp only [Pt.U, Pt.locs, Pt.cells, Pt.slots] at X5 l5 y5 z5 st5 hQ5
  subst l5 y5 z5
  obtain ⟨rfl, N5q, K5, gV5⟩ := hQ5
  have N5 := Fr.app N0 N5q
  have f6 := f2.keep K5 (ninS ne_ar_b1 nin0)
  have f7 := Nat.le_trans f3 K5.1
  have f8 := f4.trans K5 (allS (Or.inr sz_b1) all0)
  refine bk (fun t k => st5 t k) ?_
  show F (T5.setTop (mkF m 12 #[.val (.ref ar), .val (.int (0 : Int32)), .val (.int (1 : Int32)), .val (.ref b1), .unset, .unset] [(.int (1 : Int32))]))
  refine bk (fun t k => XS.istore X5.here hx rfl (hb hby d4_12) rfl (l' := #[.val (.ref ar), .val (.int (0 : Int32)), .val (.int (1 : Int32)), .val (.ref b1), .val (.int (1 : Int32)), .unset]) rfl k) ?_
  show F (T5.setTop (mkF m 14 #[.val (.ref ar), .val (.int (0 : Int32)), .val (.int (1 : Int32)), .val (.ref b1), .val (.int (1 : Int32)), .unset] []))
  refine bk (fun t k => XS.iload X5.here hx rfl (hb hby d4_14) rfl k) ?_
  show F (T5.setTop (mkF m 16 #[.val (.ref ar), .val (.int (0 : Int32)), .val (.int (1 : Int32)), .val (.ref b1), .val (.int (1 : Int32)), .unset] [(.int (1 : Int32))]))
  refine bk (fun t k => XS.iloadN X5.here hx rfl (hb hby d4_16) rfl k) ?_
  show F (T5.setTop (mkF m 17 #[.val (.ref ar), .val (.int (0 : Int32)), .val (.int (1 : Int32)), .val (.ref b1), .val (.int (1 : Int32)), .unset] [(.int (1 : Int32)), (.int (1 : Int32))]))
  refine bk (fun t k => XS.icmpYes X5.here hx rfl (pc0 := 17) (pc' := 57) rfl (hb hby d4_17) rfl (teq (by decide : (1 : Int32) = (1 : Int32))).1 (by decide) (by decide) k) ?_
  show F (T5.setTop (mkF m 57 #[.val (.ref ar), .val (.int (0 : Int32)), .val (.int (1 : Int32)), .val (.ref b1), .val (.int (1 : Int32)), .unset] []))
  refine bk (fun t k => XS.aloadN X5.here hx rfl (hb hby d4_57) rfl rfl k) ?_
  show F (T5.setTop (mkF m 58 #[.val (.ref ar), .val (.int (0 : Int32)), .val (.int (1 : Int32)), .val (.ref b1), .val (.int (1 : Int32)), .unset] [(.ref b1)]))
  rw [hF]
  refine own_retA X5 hx Bd.notSynchronized Bd.returns rfl rfl (hb hby d4_58) (by decide) (by decide) ?_
  exact ⟨_, _, rfl, N5, f8, gV5, Gb1⟩
theorem d6_0 : decode jdk_52_method_15_code 0 = .ok (.iload_n 1, 1) := by decide +kernel
theorem d6_1 : decode jdk_52_method_15_code 1 = .ok (.aload_n 0, 1) := by decide +kernel
theorem d6_2 : decode jdk_52_method_15_code 2 = .ok (.arraylength, 1) := by decide +kernel
theorem d6_3 : decode jdk_52_method_15_code 3 = .ok (.isub, 1) := by decide +kernel
theorem d6_4 : decode jdk_52_method_15_code 4 = .ok (.bipush 31, 2) := by decide +kernel
theorem d6_6 : decode jdk_52_method_15_code 6 = .ok (.iushr, 1) := by decide +kernel
theorem d6_7 : decode jdk_52_method_15_code 7 = .ok (.i2b, 1) := by decide +kernel
theorem d6_8 : decode jdk_52_method_15_code 8 = .ok (.ireturn, 1) := by decide +kernel
theorem pn_6 : plainName "java/lang/StringUTF16" = true := by first | (simp [plainName, overriddenIn]; done) | decide +kernel
theorem ef_6 (m : MethodId) (x0 : Addr) (x1 : Int32) : entryFrame m #[(.ref x0), (.int x1)] 2 = mkF m 0 #[.val (.ref x0), .val (.int x1)] [] := by first | (simp [entryFrame, mkF, argsToLocals, Value.category]; done) | rfl
def Q6_1 (Z : State) (ar : Addr) (ka : ClassId) (x0 : Int32) (h0 : Heap) (n0 : Nat) (v : Option Value) (h : Heap) (L : List Loc) : Prop := v = some (.int (0 : Int32)) ∧ Fr n0 L ∧ h = h0
set_option maxRecDepth 65536 in
set_option maxHeartbeats 40000000 in
theorem rm6_1 (l : Launch) (Z : State) (a0 : Array Value) (hw : ∀ d ∈ tables_1, d.before a0 Z = true) (ws : List Jvm.Cond) (ar : Addr) (ka : ClassId) (x0 : Int32) (h0 : Heap) (n0 : Nat) (Z0 : n0 ≤ h0.size) (V_ar : Arv Z h0 ar ka .byte (1 : Int32) [(.int x0)] (.int (0 : Int32))) :
    MetFree l (⟨"java/lang/StringUTF16", "coderFromArrayLen", "([BI)B"⟩ : MethodName) (head1 (Jvm.Cond.code (⟨"java/lang/StringUTF16", "coderFromArrayLen", "([BI)B"⟩ : MethodName) jdk_52_method_15_code 2 (some .byte) :: ws) ({ frames := 0, cells := 0, slots := 0, locals := 0 } : Room)) (fun a U => a = #[(.ref ar), (.int (1 : Int32))] ∧ Z.Warmed39 U.vm ∧ U.heap = h0) (fun _ _ _ _ _ => True) (fun _ U o U' => ∃ v L, o = .returned v ∧ Q6_1 Z ar ka x0 h0 n0 v U'.heap L ∧ FrameEnd U o U' L ({ frames := 0, cells := 0, slots := 0, locals := 0 } : Room).cells ({ frames := 0, cells := 0, slots := 0, locals := 0 } : Room).slots) := by
  refine MetFree.of_bodySF (plainFor_of_name pn_6) hisR ?_
  intro p e s m args below meth c s₁ Bd hml0 hP hK
  obtain ⟨rfl, hZ, hh⟩ := hP
  have hx := Bd.exec
  have hby := Bd.bytes
  have hml : c.maxLocals = 2 := hml0
  have hown : s.vm.findClass "java/lang/StringUTF16" = some m.cls := findClass_of_methodNamed Bd.named
  have hnm := (name_of_methodNamed Bd.named Bd.method).1
  have X0 : Stand p l e ({ frames := 0, cells := 0, slots := 0, locals := 0 } : Room) s m #[(.ref ar), (.int (1 : Int32))] below meth c s₁ [] 0 0 := Stand.of_body Bd
  have e0 : s₁.heap = h0 := by rw [← hh, Bd.state]; rfl
  have N0 := Fr.nil n0
  obtain ⟨F, hF⟩ : ∃ F : State → Prop, F = own_Fin p e below s ({ frames := 0, cells := 0, slots := 0, locals := 0 } : Room).cells ({ frames := 0, cells := 0, slots := 0, locals := 0 } : Room).slots (fun v h L => Q6_1 Z ar ka x0 h0 n0 v h L) := ⟨_, rfl⟩
  have bk : ∀ {A B : State}, (∀ t, Steps p.tables e below B t → Steps p.tables e below A t) → F B → F A := by
    intro A B h k
    rw [hF] at k ⊢
    exact own_back h k
  suffices hgo : F (s₁.setTop (mkF m 0 #[.val (.ref ar), .val (.int (1 : Int32))] [])) by
    have hgo' := bk (fun t k => castTop (T := s₁) (ef_6 m ar (1 : Int32)) k) hgo
    rw [hF] at hgo'
    exact hgo'
  show F (s₁.setTop (mkF m 0 #[.val (.ref ar), .val (.int (1 : Int32))] []))
  refine bk (fun t k => XS.iloadN X0.here hx rfl (hb hby d6_0) rfl k) ?_
  show F (s₁.setTop (mkF m 1 #[.val (.ref ar), .val (.int (1 : Int32))] [(.int (1 : Int32))]))
  refine bk (fun t k => XS.aloadN X0.here hx rfl (hb hby d6_1) rfl rfl k) ?_
  show F (s₁.setTop (mkF m 2 #[.val (.ref ar), .val (.int (1 : Int32))] [(.ref ar), (.int (1 : Int32))]))
  have vv1 := V_ar
  obtain ⟨cl1, Ar1, q1, S1, M1, H1, G1⟩ := vv1
  refine bk (fun t k => X0.arraylength hx (by rw [e0]; exact Ar1.1) (State.isArrayOf_alike hZ.alike Ar1.2.1) (g := (mkF m 2 #[.val (.ref ar), .val (.int (1 : Int32))] [(.ref ar), (.int (1 : Int32))])) rfl rfl (hb hby d6_2) t k) ?_
  rw [len_of S1 M1]
  show F (s₁.setTop (mkF m 3 #[.val (.ref ar), .val (.int (1 : Int32))] [(.int (1 : Int32)), (.int (1 : Int32))]))
  refine bk (fun t k => XS.isub X0.here hx rfl (hb hby d6_3) rfl k) ?_
  show F (s₁.setTop (mkF m 4 #[.val (.ref ar), .val (.int (1 : Int32))] [(.int (0 : Int32))]))
  refine bk (fun t k => XS.bipush X0.here hx rfl (hb hby d6_4) k) ?_
  show F (s₁.setTop (mkF m 6 #[.val (.ref ar), .val (.int (1 : Int32))] [(.int (31 : Int32)), (.int (0 : Int32))]))
  refine bk (fun t k => XS.iushr X0.here hx rfl (hb hby d6_6) rfl k) ?_
  show F (s₁.setTop (mkF m 7 #[.val (.ref ar), .val (.int (1 : Int32))] [(.int (0 : Int32))]))
  refine bk (fun t k => XS.i2b X0.here hx rfl (hb hby d6_7) rfl k) ?_
  show F (s₁.setTop (mkF m 8 #[.val (.ref ar), .val (.int (1 : Int32))] [(.int (0 : Int32))]))
  rw [hF]
  refine own_retB X0 hx Bd.notSynchronized Bd.returns (hb hby d6_8) (by decide) (by decide) ?_
  rw [e0]
  exact ⟨rfl, N0, rfl⟩
theorem d2_27 : decode jdk_42_method_149_code 27 = .ok (.getstatic 38, 3) := by decide +kernel
theorem d2_30 : decode jdk_42_method_149_code 30 = .ok (.ifCond .eq 28, 3) := by decide +kernel
theorem d2_33 : decode jdk_42_method_149_code 33 = .ok (.aload_n 1, 1) := by decide +kernel
theorem d2_34 : decode jdk_42_method_149_code 34 = .ok (.iload_n 2, 1) := by decide +kernel
theorem d2_35 : decode jdk_42_method_149_code 35 = .ok (.iload_n 3, 1) := by decide +kernel
theorem d2_36 : decode jdk_42_method_149_code 36 = .ok (.invokestatic 177, 3) := by decide +kernel
theorem d2_39 : decode jdk_42_method_149_code 39 = .ok (.astore 5, 2) := by decide +kernel
theorem d2_41 : decode jdk_42_method_149_code 41 = .ok (.aload_n 0, 1) := by decide +kernel
theorem d2_42 : decode jdk_42_method_149_code 42 = .ok (.aload 5, 2) := by decide +kernel
theorem d2_44 : decode jdk_42_method_149_code 44 = .ok (.iload_n 3, 1) := by decide +kernel
theorem d2_45 : decode jdk_42_method_149_code 45 = .ok (.invokestatic 47, 3) := by decide +kernel
theorem d2_48 : decode jdk_42_method_149_code 48 = .ok (.putfield 15, 3) := by decide +kernel
theorem d2_51 : decode jdk_42_method_149_code 51 = .ok (.aload_n 0, 1) := by decide +kernel
theorem d2_52 : decode jdk_42_method_149_code 52 = .ok (.aload 5, 2) := by decide +kernel
theorem d2_54 : decode jdk_42_method_149_code 54 = .ok (.putfield 9, 3) := by decide +kernel
theorem d2_57 : decode jdk_42_method_149_code 57 = .ok (.return_, 1) := by decide +kernel
theorem pd2___CII__B : parseMethodDescriptor "([CII)[B" = some ⟨[(.array .char), .int, .int], some (.array .byte)⟩ := by decide +kernel
theorem pd2___BI_B : parseMethodDescriptor "([BI)B" = some ⟨[(.array .byte), .int], some .byte⟩ := by decide +kernel
def Q2_1 (Z : State) (o0 : Addr) (ar : Addr) (ka : ClassId) (cs : Int32) (x0 : Int32) (h0 : Heap) (n0 : Nat) (v : Option Value) (h : Heap) (L : List Loc) : Prop := v = none ∧ Fr n0 L ∧ Keep h0 h [o0] ∧ Exa Z h o0 "java/lang/String" ∧ Fld Z h o0 "java/lang/String" "coder" "B" (.int (0 : Int32)) ∧ ∃ (r : Addr) (kd : ClassId), Fld Z h o0 "java/lang/String" "value" "[B" (.ref r) ∧ Arv Z h r kd .byte (1 : Int32) [(.int (nar .byte (x0.toInt8.toInt32)))] (.int (0 : Int32))
set_option maxRecDepth 65536 in
set_option maxHeartbeats 40000000 in
theorem rm2_1 (l : Launch) (Z : State) (a0 : Array Value) (hw : ∀ d ∈ tables_1, d.before a0 Z = true) (ws : List Jvm.Cond) (o0 : Addr) (ar : Addr) (ka : ClassId) (cs : Int32) (x0 : Int32) (h0 : Heap) (n0 : Nat) (Z0 : n0 ≤ h0.size) (E_o0 : Exa Z h0 o0 "java/lang/String") (F_v : Fld Z h0 o0 "java/lang/String" "value" "[B" .null) (F_c : Fld Z h0 o0 "java/lang/String" "coder" "B" (.int (0 : Int32))) (g_o0 : n0 ≤ o0) (V_ar : Arv Z h0 ar ka .char (1 : Int32) [(.int x0)] (.int (0 : Int32))) (ne_o_ar : o0 ≠ ar) (S_cs : Sta Z h0 "java/lang/String" "COMPACT_STRINGS" "Z" (.int cs)) (hcs : ¬ cs = (0 : Int32)) (hx0 : ¬ (255 : Int32) < x0) :
    MetFree l (⟨"java/lang/String", "<init>", "([CIILjava/lang/Void;)V"⟩ : MethodName) (head1 (Jvm.Cond.code (⟨"java/lang/String", "<init>", "([CIILjava/lang/Void;)V"⟩ : MethodName) jdk_42_method_149_code 6 none :: ws) ({ frames := 2, cells := 1, slots := 1, locals := 35 } : Room)) (fun a U => a = #[(.ref o0), (.ref ar), (.int (0 : Int32)), (.int (1 : Int32)), .null] ∧ Z.Warmed39 U.vm ∧ U.heap = h0) (fun _ _ _ _ _ => True) (fun _ U o U' => ∃ v L, o = .returned v ∧ Q2_1 Z o0 ar ka cs x0 h0 n0 v U'.heap L ∧ FrameEnd U o U' L ({ frames := 2, cells := 1, slots := 1, locals := 35 } : Room).cells ({ frames := 2, cells := 1, slots := 1, locals := 35 } : Room).slots) := by
  refine MetFree.of_bodySF (plainFor_of_name pn_2) hisR ?_
  intro p e s m args below meth c s₁ Bd hml0 hP hK
  obtain ⟨rfl, hZ, hh⟩ := hP
  have hx := Bd.exec
  have hby := Bd.bytes
  have hml : c.maxLocals = 6 := hml0
  have hown : s.vm.findClass "java/lang/String" = some m.cls := findClass_of_methodNamed Bd.named
  have hnm := (name_of_methodNamed Bd.named Bd.method).1
  have X0 : Stand p l e ({ frames := 2, cells := 1, slots := 1, locals := 35 } : Room) s m #[(.ref o0), (.ref ar), (.int (0 : Int32)), (.int (1 : Int32)), .null] below meth c s₁ [] 0 0 := Stand.of_body Bd
  have e0 : s₁.heap = h0 := by rw [← hh, Bd.state]; rfl
  have N0 := Fr.nil n0
  obtain ⟨F, hF⟩ : ∃ F : State → Prop, F = own_Fin p e below s ({ frames := 2, cells := 1, slots := 1, locals := 35 } : Room).cells ({ frames := 2, cells := 1, slots := 1, locals := 35 } : Room).slots (fun v h L => Q2_1 Z o0 ar ka cs x0 h0 n0 v h L) := ⟨_, rfl⟩
  have bk : ∀ {A B : State}, (∀ t, Steps p.tables e below B t → Steps p.tables e below A t) → F B → F A := by
    intro A B h k
    rw [hF] at k ⊢
    exact own_back h k
  suffices hgo : F (s₁.setTop (mkF m 0 #[.val (.ref o0), .val (.ref ar), .val (.int (0 : Int32)), .val (.int (1 : Int32)), .val .null, .unset] [])) by
    have hgo' := bk (fun t k => castTop (T := s₁) (ef_2n4 m o0 ar (0 : Int32) (1 : Int32)) k) hgo
    rw [hF] at hgo'
    exact hgo'
  show F (s₁.setTop (mkF m 0 #[.val (.ref o0), .val (.ref ar), .val (.int (0 : Int32)), .val (.int (1 : Int32)), .val .null, .unset] []))
  refine bk (fun t k => XS.aloadN X0.here hx rfl (hb hby d2_0) rfl rfl k) ?_
  show F (s₁.setTop (mkF m 1 #[.val (.ref o0), .val (.ref ar), .val (.int (0 : Int32)), .val (.int (1 : Int32)), .val .null, .unset] [(.ref o0)]))
  obtain ⟨T1, X1, e1, st1⟩ := initO X0 hx hZ hown (hw _ (List.mem_of_getElem? (i := 11) rfl)) (hw _ (List.mem_of_getElem? (i := 12) rfl)) (hw _ (List.mem_of_getElem? (i := 13) rfl)) e0 (g := (mkF m 1 #[.val (.ref o0), .val (.ref ar), .val (.int (0 : Int32)), .val (.int (1 : Int32)), .val .null, .unset] [(.ref o0)])) rfl (by rw [hml]; rfl) rfl (hb hby d2_1) (by decide) (W := 0) (by show 2 * 0 + _ ≤ _; exact Nat.le_of_eq rfl) (by decide)
  refine bk (fun t k => st1 t k) ?_
  show F (T1.setTop (mkF m 4 #[.val (.ref o0), .val (.ref ar), .val (.int (0 : Int32)), .val (.int (1 : Int32)), .val .null, .unset] []))
  refine bk (fun t k => XS.iloadN X1.here hx rfl (hb hby d2_4) rfl k) ?_
  show F (T1.setTop (mkF m 5 #[.val (.ref o0), .val (.ref ar), .val (.int (0 : Int32)), .val (.int (1 : Int32)), .val .null, .unset] [(.int (1 : Int32))]))
  refine bk (fun t k => XS.ifYes X1.here hx rfl (pc0 := 5) (pc' := 27) rfl (hb hby d2_5) rfl ((if0 _ _).trans (feq (by decide : ¬ ((1 : Int32) = (0 : Int32)))).2) (by decide) (by decide) k) ?_
  show F (T1.setTop (mkF m 27 #[.val (.ref o0), .val (.ref ar), .val (.int (0 : Int32)), .val (.int (1 : Int32)), .val .null, .unset] []))
  obtain ⟨T2, X2, e2, st2⟩ := getS2 X1 hx hZ hown (host := "") (Or.inl (hw _ (List.mem_of_getElem? (i := 14) rfl))) Via.refl e1 S_cs (g := (mkF m 27 #[.val (.ref o0), .val (.ref ar), .val (.int (0 : Int32)), .val (.int (1 : Int32)), .val .null, .unset] [])) rfl (hb hby d2_27)
  refine bk (fun t k => st2 t k) ?_
  show F (T2.setTop (mkF m 30 #[.val (.ref o0), .val (.ref ar), .val (.int (0 : Int32)), .val (.int (1 : Int32)), .val .null, .unset] [(.int cs)]))
  refine bk (fun t k => XS.ifNo X2.here hx rfl (hb hby d2_30) rfl ((if0 _ _).trans (feq hcs).1) k) ?_
  show F (T2.setTop (mkF m 33 #[.val (.ref o0), .val (.ref ar), .val (.int (0 : Int32)), .val (.int (1 : Int32)), .val .null, .unset] []))
  refine bk (fun t k => XS.aloadN X2.here hx rfl (hb hby d2_33) rfl rfl k) ?_
  show F (T2.setTop (mkF m 34 #[.val (.ref o0), .val (.ref ar), .val (.int (0 : Int32)), .val (.int (1 : Int32)), .val .null, .unset] [(.ref ar)]))
  refine bk (fun t k => XS.iloadN X2.here hx rfl (hb hby d2_34) rfl k) ?_
  show F (T2.setTop (mkF m 35 #[.val (.ref o0), .val (.ref ar), .val (.int (0 : Int32)), .val (.int (1 : Int32)), .val .null, .unset] [(.int (0 : Int32)), (.ref ar)]))
  refine bk (fun t k => XS.iloadN X2.here hx rfl (hb hby d2_35) rfl k) ?_
  show F (T2.setTop (mkF m 36 #[.val (.ref o0), .val (.ref ar), .val (.int (0 : Int32)), .val (.int (1 : Int32)), .val .null, .unset] [(.int (1 : Int32)), (.int (0 : Int32)), (.ref ar)]))
  obtain ⟨_, _, ⟨T3, L3, k3, n3⟩, -, X3, ⟨Lc3, hQ3, l3, y3, z3⟩, st3⟩ := Jvm.LawKit.callS X2 hx (y := (⟨"java/lang/StringUTF16", "compress", "([CII)[B"⟩ : MethodName)) hown (mvT hZ (hw _ (List.mem_of_getElem? (i := 15) rfl))) (mvT hZ (hw _ (List.mem_of_getElem? (i := 16) rfl))) (mvT hZ (hw _ (List.mem_of_getElem? (i := 17) rfl))) (mvT hZ (hw _ (List.mem_of_getElem? (i := 18) rfl))) (by decide) (backOf (W := 0) (rm4_1 l Z a0 hw [] ar ka x0 h0 n0 Z0 V_ar hx0) hZ (hw _ (List.mem_of_getElem? (i := 18) rfl)) (hw _ (List.mem_of_getElem? (i := 17) rfl)) (by decide) (by decide)) (g := (mkF m 36 #[.val (.ref o0), .val (.ref ar), .val (.int (0 : Int32)), .val (.int (1 : Int32)), .val .null, .unset] [(.int (1 : Int32)), (.int (0 : Int32)), (.ref ar)])) rfl (by rw [hml]; rfl) (argsL := [(.ref ar), (.int (0 : Int32)), (.int (1 : Int32))]) (rest := []) (lenOf pd2___CII__B rfl) rfl (by show 2 * 0 + _ ≤ _; exact Nat.le_of_eq rfl) (hb hby d2_36) (fun _ _ => ⟨rfl, e2, (by decide : 0 + 1 ≤ _), (by decide : 0 + 1 ≤ _)⟩)
  dsimp only [Pt.U, Pt.locs, Pt.cells, Pt.slots] at X3 l3 y3 z3 st3 hQ3
  subst l3 y3 z3
  obtain ⟨r3, kd3, rfl, N3q, K3, gV3, gG3⟩ := hQ3
  have N3 := Fr.app N0 N3q
  have f4 := E_o0.keep K3
  have f5 := F_v.keep K3 nin0
  have f6 := F_c.keep K3 nin0
  have f7 := Nat.le_trans Z0 K3.1
  have f8 := (Keep.refl h0 [o0]).trans K3 all0
  have f9 := V_ar.keep K3 nin0
  have f10 := own_sta0 S_cs K3
  refine bk (fun t k => st3 t k) ?_
  show F (T3.setTop (mkF m 39 #[.val (.ref o0), .val (.ref ar), .val (.int (0 : Int32)), .val (.int (1 : Int32)), .val .null, .unset] [(.ref r3)]))
  refine bk (fun t k => XS.astore X3.here hx rfl (hb hby d2_39) rfl rfl (l' := #[.val (.ref o0), .val (.ref ar), .val (.int (0 : Int32)), .val (.int (1 : Int32)), .val .null, .val (.ref r3)]) rfl k) ?_
  show F (T3.setTop (mkF m 41 #[.val (.ref o0), .val (.ref ar), .val (.int (0 : Int32)), .val (.int (1 : Int32)), .val .null, .val (.ref r3)] []))
  refine bk (fun t k => XS.aloadN X3.here hx rfl (hb hby d2_41) rfl rfl k) ?_
  show F (T3.setTop (mkF m 42 #[.val (.ref o0), .val (.ref ar), .val (.int (0 : Int32)), .val (.int (1 : Int32)), .val .null, .val (.ref r3)] [(.ref o0)]))
  refine bk (fun t k => XS.aload X3.here hx rfl (hb hby d2_42) rfl rfl k) ?_
  show F (T3.setTop (mkF m 44 #[.val (.ref o0), .val (.ref ar), .val (.int (0 : Int32)), .val (.int (1 : Int32)), .val .null, .val (.ref r3)] [(.ref r3), (.ref o0)]))
  refine bk (fun t k => XS.iloadN X3.here hx rfl (hb hby d2_44) rfl k) ?_
  show F (T3.setTop (mkF m 45 #[.val (.ref o0), .val (.ref ar), .val (.int (0 : Int32)), .val (.int (1 : Int32)), .val .null, .val (.ref r3)] [(.int (1 : Int32)), (.ref r3), (.ref o0)]))
  obtain ⟨_, _, ⟨T11, L11, k11, n11⟩, -, X11, ⟨Lc11, hQ11, l11, y11, z11⟩, st11⟩ := Jvm.LawKit.callS X3 hx (y := (⟨"java/lang/StringUTF16", "coderFromArrayLen", "([BI)B"⟩ : MethodName)) hown (mvT hZ (hw _ (List.mem_of_getElem? (i := 23) rfl))) (mvT hZ (hw _ (List.mem_of_getElem? (i := 24) rfl))) (mvT hZ (hw _ (List.mem_of_getElem? (i := 17) rfl))) (mvT hZ (hw _ (List.mem_of_getElem? (i := 25) rfl))) (by decide) (backOf (W := 1) (rm6_1 l Z a0 hw [] r3 kd3 (nar .byte (x0.toInt8.toInt32)) T3.heap n0 f7 gV3) hZ (hw _ (List.mem_of_getElem? (i := 25) rfl)) (hw _ (List.mem_of_getElem? (i := 17) rfl)) (by decide) (by decide)) (g := (mkF m 45 #[.val (.ref o0), .val (.ref ar), .val (.int (0 : Int32)), .val (.int (1 : Int32)), .val .null, .val (.ref r3)] [(.int (1 : Int32)), (.ref r3), (.ref o0)])) rfl (by rw [hml]; rfl) (argsL := [(.ref r3), (.int (1 : Int32))]) (rest := [(.ref o0)]) (lenOf pd2___BI_B rfl) rfl (by show 2 * 0 + _ ≤ _; exact Nat.le_of_eq rfl) (hb hby d2_45) (fun _ _ => ⟨rfl, rfl, (by decide : 1 + 0 ≤ _), (by decide : 1 + 0 ≤ _)⟩)
  dsimp only [Pt.U, Pt.locs, Pt.cells, Pt.slots] at X11 l11 y11 z11 st11 hQ11
  subst l11 y11 z11
  obtain ⟨rfl, N11q, e11⟩ := hQ11
  have N11 := Fr.app N3 N11q
  refine bk (fun t k => st11 t k) ?_
  show F (T11.setTop (mkF m 48 #[.val (.ref o0), .val (.ref ar), .val (.int (0 : Int32)), .val (.int (1 : Int32)), .val .null, .val (.ref r3)] [(.int (0 : Int32)), (.ref o0)]))
  obtain ⟨T12, h12, X12, e12, W12, st12⟩ := putFN X11 hx hZ hown (hw _ (List.mem_of_getElem? (i := 26) rfl)) Via.refl e11 f6 f4 (Or.inr ⟨(hw _ (List.mem_of_getElem? (i := 27) rfl)), rfl, hnm⟩) (hw _ (List.mem_of_getElem? (i := 2) rfl)) (ty := .byte) (v' := .int (0 : Int32)) (by decide) rfl (by decide) (g := (mkF m 48 #[.val (.ref o0), .val (.ref ar), .val (.int (0 : Int32)), .val (.int (1 : Int32)), .val .null, .val (.ref r3)] [(.int (0 : Int32)), (.ref o0)])) rfl rfl (hb hby d2_48)
  have f13 := f4.wr W12
  have f14 := f5.other W12 (Or.inr (slot_ne (Or.inr (hw _ (List.mem_of_getElem? (i := 29) rfl))) (Or.inr (hw _ (List.mem_of_getElem? (i := 27) rfl))) (by decide) (t := (.array .byte)) (t' := .byte) (by decide) (by decide)))
  have f15 := f6.same W12
  have f16 := Nat.le_trans f7 (Keep.of_wr W12).1
  have f17 := f8.wr W12 (Or.inl (List.mem_of_getElem? (i := 0) rfl))
  have f18 := f9.other W12 (Ne.symm ne_o_ar)
  have f19 := f10.wr W12
  have f20 := gV3.other W12 (Ne.symm (Exa.neArv f4 gV3 (hw _ (List.mem_of_getElem? (i := 2) rfl))))
  have N12 := Fr.snoc X12 N11 g_o0
  refine bk (fun t k => st12 t k) ?_
  show F (T12.setTop (mkF m 51 #[.val (.ref o0), .val (.ref ar), .val (.int (0 : Int32)), .val (.int (1 : Int32)), .val .null, .val (.ref r3)] []))
  refine bk (fun t k => XS.aloadN X12.here hx rfl (hb hby d2_51) rfl rfl k) ?_
  show F (T12.setTop (mkF m 52 #[.val (.ref o0), .val (.ref ar), .val (.int (0 : Int32)), .val (.int (1 : Int32)), .val .null, .val (.ref r3)] [(.ref o0)]))
  refine bk (fun t k => XS.aload X12.here hx rfl (hb hby d2_52) rfl rfl k) ?_
  show F (T12.setTop (mkF m 54 #[.val (.ref o0), .val (.ref ar), .val (.int (0 : Int32)), .val (.int (1 : Int32)), .val .null, .val (.ref r3)] [(.ref r3), (.ref o0)]))
  obtain ⟨T21, h21, X21, e21, W21, st21⟩ := putF X12 hx hZ hown (host := "") (Or.inl (hw _ (List.mem_of_getElem? (i := 28) rfl))) Via.refl e12 f14 f13 (Or.inr ⟨(hw _ (List.mem_of_getElem? (i := 29) rfl)), rfl, hnm⟩) (hw _ (List.mem_of_getElem? (i := 2) rfl)) (ty := (.array .byte)) (by decide) rfl rfl (g := (mkF m 54 #[.val (.ref o0), .val (.ref ar), .val (.int (0 : Int32)), .val (.int (1 : Int32)), .val .null, .val (.ref r3)] [(.ref r3), (.ref o0)])) rfl rfl (hb hby d2_54)
  have f22 := f13.wr W21
  have f23 := f14.same W21
  have f24 := f15.other W21 (Or.inr (slot_ne (Or.inr (hw _ (List.mem_of_getElem? (i := 27) rfl))) (Or.inr (hw _ (List.mem_of_getElem? (i := 29) rfl))) (by decide) (t := .byte) (t' := (.array .byte)) (by decide) (by decide)))
  have f25 := Nat.le_trans f16 (Keep.of_wr W21).1
  have f26 := f17.wr W21 (Or.inl (List.mem_of_getElem? (i := 0) rfl))
  have f27 := f18.other W21 (Ne.symm ne_o_ar)
  have f28 := f19.wr W21
  have f29 := f20.other W21 (Ne.symm (Exa.neArv f4 gV3 (hw _ (List.mem_of_getElem? (i := 2) rfl))))
  have N21 := Fr.snoc X21 N12 g_o0
  refine bk (fun t k => st21 t k) ?_
  show F (T21.setTop (mkF m 57 #[.val (.ref o0), .val (.ref ar), .val (.int (0 : Int32)), .val (.int (1 : Int32)), .val .null, .val (.ref r3)] []))
  rw [hF]
  refine own_ret0 X21 hx Bd.notSynchronized Bd.returns (hb hby d2_57) (by decide) (by decide) ?_
  rw [e21]
  exact ⟨rfl, N21, f26, f22, f24, _, _, f23, f29⟩
def Q1_1 (Z : State) (o0 : Addr) (ar : Addr) (ka : ClassId) (cs : Int32) (x0 : Int32) (h0 : Heap) (n0 : Nat) (v : Option Value) (h : Heap) (L : List Loc) : Prop := v = none ∧ Fr n0 L ∧ Keep h0 h [o0] ∧ Exa Z h o0 "java/lang/String" ∧ Fld Z h o0 "java/lang/String" "coder" "B" (.int (0 : Int32)) ∧ ∃ (r : Addr) (kd : ClassId), Fld Z h o0 "java/lang/String" "value" "[B" (.ref r) ∧ Arv Z h r kd .byte (1 : Int32) [(.int (nar .byte (x0.toInt8.toInt32)))] (.int (0 : Int32))
set_option maxRecDepth 65536 in
set_option maxHeartbeats 40000000 in
theorem rm1_1 (l : Launch) (Z : State) (a0 : Array Value) (hw : ∀ d ∈ tables_1, d.before a0 Z = true) (ws : List Jvm.Cond) (o0 : Addr) (ar : Addr) (ka : ClassId) (cs : Int32) (x0 : Int32) (h0 : Heap) (n0 : Nat) (Z0 : n0 ≤ h0.size) (E_o0 : Exa Z h0 o0 "java/lang/String") (F_v : Fld Z h0 o0 "java/lang/String" "value" "[B" .null) (F_c : Fld Z h0 o0 "java/lang/String" "coder" "B" (.int (0 : Int32))) (g_o0 : n0 ≤ o0) (V_ar : Arv Z h0 ar ka .char (1 : Int32) [(.int x0)] (.int (0 : Int32))) (ne_o_ar : o0 ≠ ar) (S_cs : Sta Z h0 "java/lang/String" "COMPACT_STRINGS" "Z" (.int cs)) (hcs : ¬ cs = (0 : Int32)) (hx0 : ¬ (255 : Int32) < x0) :
    MetFree l (⟨"java/lang/String", "<init>", "([C)V"⟩ : MethodName) (head1 (Jvm.Cond.code (⟨"java/lang/String", "<init>", "([C)V"⟩ : MethodName) jdk_42_method_3_code 2 none :: ws) ({ frames := 3, cells := 1, slots := 1, locals := 52 } : Room)) (fun a U => a = #[(.ref o0), (.ref ar)] ∧ Z.Warmed39 U.vm ∧ U.heap = h0) (fun _ _ _ _ _ => True) (fun _ U o U' => ∃ v L, o = .returned v ∧ Q1_1 Z o0 ar ka cs x0 h0 n0 v U'.heap L ∧ FrameEnd U o U' L ({ frames := 3, cells := 1, slots := 1, locals := 52 } : Room).cells ({ frames := 3, cells := 1, slots := 1, locals := 52 } : Room).slots) := by
  refine MetFree.of_bodySF (plainFor_of_name pn_1) hisR ?_
  intro p e s m args below meth c s₁ Bd hml0 hP hK
  obtain ⟨rfl, hZ, hh⟩ := hP
  have hx := Bd.exec
  have hby := Bd.bytes
  have hml : c.maxLocals = 2 := hml0
  have hown : s.vm.findClass "java/lang/String" = some m.cls := findClass_of_methodNamed Bd.named
  have hnm := (name_of_methodNamed Bd.named Bd.method).1
  have X0 : Stand p l e ({ frames := 3, cells := 1, slots := 1, locals := 52 } : Room) s m #[(.ref o0), (.ref ar)] below meth c s₁ [] 0 0 := Stand.of_body Bd
  have e0 : s₁.heap = h0 := by rw [← hh, Bd.state]; rfl
  have N0 := Fr.nil n0
  obtain ⟨F, hF⟩ : ∃ F : State → Prop, F = own_Fin p e below s ({ frames := 3, cells := 1, slots := 1, locals := 52 } : Room).cells ({ frames := 3, cells := 1, slots := 1, locals := 52 } : Room).slots (fun v h L => Q1_1 Z o0 ar ka cs x0 h0 n0 v h L) := ⟨_, rfl⟩
  have bk : ∀ {A B : State}, (∀ t, Steps p.tables e below B t → Steps p.tables e below A t) → F B → F A := by
    intro A B h k
    rw [hF] at k ⊢
    exact own_back h k
  suffices hgo : F (s₁.setTop (mkF m 0 #[.val (.ref o0), .val (.ref ar)] [])) by
    have hgo' := bk (fun t k => castTop (T := s₁) (ef_1 m o0 ar) k) hgo
    rw [hF] at hgo'
    exact hgo'
  show F (s₁.setTop (mkF m 0 #[.val (.ref o0), .val (.ref ar)] []))
  refine bk (fun t k => XS.aloadN X0.here hx rfl (hb hby d1_0) rfl rfl k) ?_
  show F (s₁.setTop (mkF m 1 #[.val (.ref o0), .val (.ref ar)] [(.ref o0)]))
  refine bk (fun t k => XS.aloadN X0.here hx rfl (hb hby d1_1) rfl rfl k) ?_
  show F (s₁.setTop (mkF m 2 #[.val (.ref o0), .val (.ref ar)] [(.ref ar), (.ref o0)]))
  refine bk (fun t k => XS.iconst X0.here hx rfl (hb hby d1_2) k) ?_
  show F (s₁.setTop (mkF m 3 #[.val (.ref o0), .val (.ref ar)] [(.int (0 : Int32)), (.ref ar), (.ref o0)]))
  refine bk (fun t k => XS.aloadN X0.here hx rfl (hb hby d1_3) rfl rfl k) ?_
  show F (s₁.setTop (mkF m 4 #[.val (.ref o0), .val (.ref ar)] [(.ref ar), (.int (0 : Int32)), (.ref ar), (.ref o0)]))
  have vv1 := V_ar
  obtain ⟨cl1, Ar1, q1, S1, M1, H1, G1⟩ := vv1
  refine bk (fun t k => X0.arraylength hx (by rw [e0]; exact Ar1.1) (State.isArrayOf_alike hZ.alike Ar1.2.1) (g := (mkF m 4 #[.val (.ref o0), .val (.ref ar)] [(.ref ar), (.int (0 : Int32)), (.ref ar), (.ref o0)])) rfl rfl (hb hby d1_4) t k) ?_
  rw [len_of S1 M1]
  show F (s₁.setTop (mkF m 5 #[.val (.ref o0), .val (.ref ar)] [(.int (1 : Int32)), (.int (0 : Int32)), (.ref ar), (.ref o0)]))
  refine bk (fun t k => XS.aconstNull X0.here hx rfl (hb hby d1_5) k) ?_
  show F (s₁.setTop (mkF m 6 #[.val (.ref o0), .val (.ref ar)] [.null, (.int (1 : Int32)), (.int (0 : Int32)), (.ref ar), (.ref o0)]))
  obtain ⟨_, _, ⟨T2, L2, k2, n2⟩, -, X2, ⟨Lc2, hQ2, l2, y2, z2⟩, st2⟩ := X0.specialBack hx (y := (⟨"java/lang/String", "<init>", "([CIILjava/lang/Void;)V"⟩ : MethodName)) rfl hown (mvT hZ (hw _ (List.mem_of_getElem? (i := 7) rfl))) (mvT hZ (hw _ (List.mem_of_getElem? (i := 8) rfl))) (mvT hZ (hw _ (List.mem_of_getElem? (i := 10) rfl))) (by decide) (backOf (W := 0) (rm2_1 l Z a0 hw [] o0 ar ka cs x0 h0 n0 Z0 E_o0 F_v F_c g_o0 V_ar ne_o_ar S_cs hcs hx0) hZ (hw _ (List.mem_of_getElem? (i := 10) rfl)) (hw _ (List.mem_of_getElem? (i := 3) rfl)) (by decide) (by decide)) (g := (mkF m 6 #[.val (.ref o0), .val (.ref ar)] [.null, (.int (1 : Int32)), (.int (0 : Int32)), (.ref ar), (.ref o0)])) rfl (by rw [hml]; rfl) (Steps.refl _) (a := o0) (argsL := [(.ref ar), (.int (0 : Int32)), (.int (1 : Int32)), .null]) (rest := []) (lenOf pd1___CIILjava_lang_Void__V rfl) rfl (by show 2 * 0 + _ ≤ _; exact Nat.le_of_eq rfl) (hb hby d1_6) (fun _ _ => ⟨rfl, e0, (by decide : 0 + 1 ≤ _), (by decide : 0 + 1 ≤ _)⟩)
  dsimp only [Pt.U, Pt.locs, Pt.cells, Pt.slots] at X2 l2 y2 z2 st2 hQ2
  subst l2 y2 z2
  obtain ⟨rfl, N2q, K2, gE2, gC2, r2, kd2, gF2, gV2⟩ := hQ2
  have N2 := Fr.app N0 N2q
  have f3 := E_o0.keep K2
  have f4 := Nat.le_trans Z0 K2.1
  have f5 := (Keep.refl h0 [o0]).trans K2 (allS (Or.inl (List.mem_of_getElem? (i := 0) rfl)) all0)
  have f6 := V_ar.keep K2 (ninS (Ne.symm ne_o_ar) nin0)
  have f7 := own_sta1 S_cs K2 E_o0
  refine bk (fun t k => st2.trans k) ?_
  show F (T2.setTop (mkF m 9 #[.val (.ref o0), .val (.ref ar)] []))
  rw [hF]
  refine own_ret0 X2 hx Bd.notSynchronized Bd.returns (hb hby d1_9) (by decide) (by decide) ?_
  exact ⟨rfl, N2, f5, gE2, gC2, _, _, gF2, gV2⟩
def Q5_2 (Z : State) (ar : Addr) (ds : Addr) (ka : ClassId) (kd : ClassId) (x0 : Int32) (x1 : Int32) (h0 : Heap) (n0 : Nat) (v : Option Value) (h : Heap) (L : List Loc) : Prop := v = some (.int (2 : Int32)) ∧ Fr n0 L ∧ Keep h0 h [ds] ∧ Arv Z h ds kd .byte (2 : Int32) [(.int (nar .byte (x0.toInt8.toInt32))), (.int (nar .byte (x1.toInt8.toInt32)))] (.int (0 : Int32))
set_option maxRecDepth 65536 in
set_option maxHeartbeats 40000000 in
theorem rm5_2 (l : Launch) (Z : State) (a0 : Array Value) (hw : ∀ d ∈ tables_1, d.before a0 Z = true) (ws : List Jvm.Cond) (ar : Addr) (ds : Addr) (ka : ClassId) (kd : ClassId) (x0 : Int32) (x1 : Int32) (h0 : Heap) (n0 : Nat) (Z0 : n0 ≤ h0.size) (V_ar : Arv Z h0 ar ka .char (2 : Int32) [(.int x0), (.int x1)] (.int (0 : Int32))) (V_ds : Arv Z h0 ds kd .byte (2 : Int32) [(.int (0 : Int32)), (.int (0 : Int32))] (.int (0 : Int32))) (g_ds : n0 ≤ ds) (ne_ar : ar ≠ ds) (hx0 : ¬ (255 : Int32) < x0) (hx1 : ¬ (255 : Int32) < x1) :
    MetFree l (⟨"java/lang/StringUTF16", "compress", "([CI[BII)I"⟩ : MethodName) (head1 (Jvm.Cond.code (⟨"java/lang/StringUTF16", "compress", "([CI[BII)I"⟩ : MethodName) jdk_52_method_21_code 7 (some .int) :: ws) ({ frames := 0, cells := 0, slots := 0, locals := 0 } : Room)) (fun a U => a = #[(.ref ar), (.int (0 : Int32)), (.ref ds), (.int (0 : Int32)), (.int (2 : Int32))] ∧ Z.Warmed39 U.vm ∧ U.heap = h0) (fun _ _ _ _ _ => True) (fun _ U o U' => ∃ v L, o = .returned v ∧ Q5_2 Z ar ds ka kd x0 x1 h0 n0 v U'.heap L ∧ FrameEnd U o U' L ({ frames := 0, cells := 0, slots := 0, locals := 0 } : Room).cells ({ frames := 0, cells := 0, slots := 0, locals := 0 } : Room).slots) := by
  refine MetFree.of_bodySF (plainFor_of_name pn_5) hisR ?_
  intro p e s m args below meth c s₁ Bd hml0 hP hK
  obtain ⟨rfl, hZ, hh⟩ := hP
  have hx := Bd.exec
  have hby := Bd.bytes
  have hml : c.maxLocals = 7 := hml0
  have hown : s.vm.findClass "java/lang/StringUTF16" = some m.cls := findClass_of_methodNamed Bd.named
  have hnm := (name_of_methodNamed Bd.named Bd.method).1
  have X0 : Stand p l e ({ frames := 0, cells := 0, slots := 0, locals := 0 } : Room) s m #[(.ref ar), (.int (0 : Int32)), (.ref ds), (.int (0 : Int32)), (.int (2 : Int32))] below meth c s₁ [] 0 0 := Stand.of_body Bd
  have e0 : s₁.heap = h0 := by rw [← hh, Bd.state]; rfl
  have N0 := Fr.nil n0
  obtain ⟨F, hF⟩ : ∃ F : State → Prop, F = own_Fin p e below s ({ frames := 0, cells := 0, slots := 0, locals := 0 } : Room).cells ({ frames := 0, cells := 0, slots := 0, locals := 0 } : Room).slots (fun v h L => Q5_2 Z ar ds ka kd x0 x1 h0 n0 v h L) := ⟨_, rfl⟩
  have bk : ∀ {A B : State}, (∀ t, Steps p.tables e below B t → Steps p.tables e below A t) → F B → F A := by
    intro A B h k
    rw [hF] at k ⊢
    exact own_back h k
  suffices hgo : F (s₁.setTop (mkF m 0 #[.val (.ref ar), .val (.int (0 : Int32)), .val (.ref ds), .val (.int (0 : Int32)), .val (.int (2 : Int32)), .unset, .unset] [])) by
    have hgo' := bk (fun t k => castTop (T := s₁) (ef_5 m ar (0 : Int32) ds (0 : Int32) (2 : Int32)) k) hgo
    rw [hF] at hgo'
    exact hgo'
  show F (s₁.setTop (mkF m 0 #[.val (.ref ar), .val (.int (0 : Int32)), .val (.ref ds), .val (.int (0 : Int32)), .val (.int (2 : Int32)), .unset, .unset] []))
  refine bk (fun t k => XS.iconst X0.here hx rfl (hb hby d5_0) k) ?_
  show F (s₁.setTop (mkF m 1 #[.val (.ref ar), .val (.int (0 : Int32)), .val (.ref ds), .val (.int (0 : Int32)), .val (.int (2 : Int32)), .unset, .unset] [(.int (0 : Int32))]))
  refine bk (fun t k => XS.istore X0.here hx rfl (hb hby d5_1) rfl (l' := #[.val (.ref ar), .val (.int (0 : Int32)), .val (.ref ds), .val (.int (0 : Int32)), .val (.int (2 : Int32)), .val (.int (0 : Int32)), .unset]) rfl k) ?_
  show F (s₁.setTop (mkF m 3 #[.val (.ref ar), .val (.int (0 : Int32)), .val (.ref ds), .val (.int (0 : Int32)), .val (.int (2 : Int32)), .val (.int (0 : Int32)), .unset] []))
  refine bk (fun t k => XS.iload X0.here hx rfl (hb hby d5_3) rfl k) ?_
  show F (s₁.setTop (mkF m 5 #[.val (.ref ar), .val (.int (0 : Int32)), .val (.ref ds), .val (.int (0 : Int32)), .val (.int (2 : Int32)), .val (.int (0 : Int32)), .unset] [(.int (0 : Int32))]))
  refine bk (fun t k => XS.iload X0.here hx rfl (hb hby d5_5) rfl k) ?_
  show F (s₁.setTop (mkF m 7 #[.val (.ref ar), .val (.int (0 : Int32)), .val (.ref ds), .val (.int (0 : Int32)), .val (.int (2 : Int32)), .val (.int (0 : Int32)), .unset] [(.int (2 : Int32)), (.int (0 : Int32))]))
  refine bk (fun t k => XS.icmpNo X0.here hx rfl (hb hby d5_7) rfl (tlt (by decide : (0 : Int32) < (2 : Int32))).2.1 k) ?_
  show F (s₁.setTop (mkF m 10 #[.val (.ref ar), .val (.int (0 : Int32)), .val (.ref ds), .val (.int (0 : Int32)), .val (.int (2 : Int32)), .val (.int (0 : Int32)), .unset] []))
  refine bk (fun t k => XS.aloadN X0.here hx rfl (hb hby d5_10) rfl rfl k) ?_
  show F (s₁.setTop (mkF m 11 #[.val (.ref ar), .val (.int (0 : Int32)), .val (.ref ds), .val (.int (0 : Int32)), .val (.int (2 : Int32)), .val (.int (0 : Int32)), .unset] [(.ref ar)]))
  refine bk (fun t k => XS.iloadN X0.here hx rfl (hb hby d5_11) rfl k) ?_
  show F (s₁.setTop (mkF m 12 #[.val (.ref ar), .val (.int (0 : Int32)), .val (.ref ds), .val (.int (0 : Int32)), .val (.int (2 : Int32)), .val (.int (0 : Int32)), .unset] [(.int (0 : Int32)), (.ref ar)]))
  have vv1 := V_ar
  obtain ⟨cl1, Ar1, q1, S1, M1, H1, G1⟩ := vv1
  have hin1 : ¬ ((0 : Int32) < 0 ∨ cl1.slots.size ≤ ((0 : Int32)).toNatClampNeg) := inb_of S1 ⟨by decide, by decide⟩
  refine bk (fun t k => X0.caload hx (j := (0 : Int32)) (v := (.int x0)) (by rw [e0]; exact Ar1.1) (State.isArrayOf_alike hZ.alike Ar1.2.1) Ar1.2.2 hin1 (Has.at H1 hin1 rfl) (g := (mkF m 12 #[.val (.ref ar), .val (.int (0 : Int32)), .val (.ref ds), .val (.int (0 : Int32)), .val (.int (2 : Int32)), .val (.int (0 : Int32)), .unset] [(.int (0 : Int32)), (.ref ar)])) rfl rfl (hb hby d5_12) t k) ?_
  show F (s₁.setTop (mkF m 13 #[.val (.ref ar), .val (.int (0 : Int32)), .val (.ref ds), .val (.int (0 : Int32)), .val (.int (2 : Int32)), .val (.int (0 : Int32)), .unset] [(.int x0)]))
  refine bk (fun t k => XS.istore X0.here hx rfl (hb hby d5_13) rfl (l' := #[.val (.ref ar), .val (.int (0 : Int32)), .val (.ref ds), .val (.int (0 : Int32)), .val (.int (2 : Int32)), .val (.int (0 : Int32)), .val (.int x0)]) rfl k) ?_
  show F (s₁.setTop (mkF m 15 #[.val (.ref ar), .val (.int (0 : Int32)), .val (.ref ds), .val (.int (0 : Int32)), .val (.int (2 : Int32)), .val (.int (0 : Int32)), .val (.int x0)] []))
  refine bk (fun t k => XS.iload X0.here hx rfl (hb hby d5_15) rfl k) ?_
  show F (s₁.setTop (mkF m 17 #[.val (.ref ar), .val (.int (0 : Int32)), .val (.ref ds), .val (.int (0 : Int32)), .val (.int (2 : Int32)), .val (.int (0 : Int32)), .val (.int x0)] [(.int x0)]))
  refine bk (fun t k => XS.sipush X0.here hx rfl (hb hby d5_17) k) ?_
  show F (s₁.setTop (mkF m 20 #[.val (.ref ar), .val (.int (0 : Int32)), .val (.ref ds), .val (.int (0 : Int32)), .val (.int (2 : Int32)), .val (.int (0 : Int32)), .val (.int x0)] [(.int (255 : Int32)), (.int x0)]))
  refine bk (fun t k => XS.icmpYes X0.here hx rfl (pc0 := 20) (pc' := 26) rfl (hb hby d5_20) rfl (flt hx0).2.2.2 (by decide) (by decide) k) ?_
  show F (s₁.setTop (mkF m 26 #[.val (.ref ar), .val (.int (0 : Int32)), .val (.ref ds), .val (.int (0 : Int32)), .val (.int (2 : Int32)), .val (.int (0 : Int32)), .val (.int x0)] []))
  refine bk (fun t k => XS.aloadN X0.here hx rfl (hb hby d5_26) rfl rfl k) ?_
  show F (s₁.setTop (mkF m 27 #[.val (.ref ar), .val (.int (0 : Int32)), .val (.ref ds), .val (.int (0 : Int32)), .val (.int (2 : Int32)), .val (.int (0 : Int32)), .val (.int x0)] [(.ref ds)]))
  refine bk (fun t k => XS.iloadN X0.here hx rfl (hb hby d5_27) rfl k) ?_
  show F (s₁.setTop (mkF m 28 #[.val (.ref ar), .val (.int (0 : Int32)), .val (.ref ds), .val (.int (0 : Int32)), .val (.int (2 : Int32)), .val (.int (0 : Int32)), .val (.int x0)] [(.int (0 : Int32)), (.ref ds)]))
  refine bk (fun t k => XS.iload X0.here hx rfl (hb hby d5_28) rfl k) ?_
  show F (s₁.setTop (mkF m 30 #[.val (.ref ar), .val (.int (0 : Int32)), .val (.ref ds), .val (.int (0 : Int32)), .val (.int (2 : Int32)), .val (.int (0 : Int32)), .val (.int x0)] [(.int x0), (.int (0 : Int32)), (.ref ds)]))
  refine bk (fun t k => XS.i2b X0.here hx rfl (hb hby d5_30) rfl k) ?_
  show F (s₁.setTop (mkF m 31 #[.val (.ref ar), .val (.int (0 : Int32)), .val (.ref ds), .val (.int (0 : Int32)), .val (.int (2 : Int32)), .val (.int (0 : Int32)), .val (.int x0)] [(.int (x0.toInt8.toInt32)), (.int (0 : Int32)), (.ref ds)]))
  have vv2 := V_ds
  obtain ⟨cl2, Ar2, q2, S2, M2, H2, G2⟩ := vv2
  have hin2 : ¬ ((0 : Int32) < 0 ∨ cl2.slots.size ≤ ((0 : Int32)).toNatClampNeg) := inb_of S2 ⟨by decide, by decide⟩
  obtain ⟨T2, h2, X2, e2, W2, st2⟩ := stB X0 hx hZ e0 Ar2 (j := (0 : Int32)) hin2 (g := (mkF m 31 #[.val (.ref ar), .val (.int (0 : Int32)), .val (.ref ds), .val (.int (0 : Int32)), .val (.int (2 : Int32)), .val (.int (0 : Int32)), .val (.int x0)] [(.int (x0.toInt8.toInt32)), (.int (0 : Int32)), (.ref ds)])) rfl rfl (hb hby d5_31)
  have V_ds_2 : Arv Z h2 ds kd .byte (2 : Int32) [(.int (nar .byte (x0.toInt8.toInt32))), (.int (0 : Int32))] (.int (0 : Int32)) := Arv.set Ar2 q2 S2 M2 H2 G2 (fits_nar_byte _) W2 0 rfl (Nat.le_of_ble_eq_true rfl)
  have f3 := V_ar.other W2 ne_ar
  have f4 := Nat.le_trans Z0 (Keep.of_wr W2).1
  have f5 := (Keep.refl h0 [ds]).wr W2 (Or.inl (List.mem_of_getElem? (i := 0) rfl))
  have N2 := Fr.snoc X2 N0 g_ds
  refine bk (fun t k => st2 t k) ?_
  show F (T2.setTop (mkF m 32 #[.val (.ref ar), .val (.int (0 : Int32)), .val (.ref ds), .val (.int (0 : Int32)), .val (.int (2 : Int32)), .val (.int (0 : Int32)), .val (.int x0)] []))
  refine bk (fun t k => XS.iinc X2.here hx rfl (hb hby d5_32) rfl (l' := #[.val (.ref ar), .val (.int (1 : Int32)), .val (.ref ds), .val (.int (0 : Int32)), .val (.int (2 : Int32)), .val (.int (0 : Int32)), .val (.int x0)]) rfl k) ?_
  show F (T2.setTop (mkF m 35 #[.val (.ref ar), .val (.int (1 : Int32)), .val (.ref ds), .val (.int (0 : Int32)), .val (.int (2 : Int32)), .val (.int (0 : Int32)), .val (.int x0)] []))
  refine bk (fun t k => XS.iinc X2.here hx rfl (hb hby d5_35) rfl (l' := #[.val (.ref ar), .val (.int (1 : Int32)), .val (.ref ds), .val (.int (1 : Int32)), .val (.int (2 : Int32)), .val (.int (0 : Int32)), .val (.int x0)]) rfl k) ?_
  show F (T2.setTop (mkF m 38 #[.val (.ref ar), .val (.int (1 : Int32)), .val (.ref ds), .val (.int (1 : Int32)), .val (.int (2 : Int32)), .val (.int (0 : Int32)), .val (.int x0)] []))
  refine bk (fun t k => XS.iinc X2.here hx rfl (hb hby d5_38) rfl (l' := #[.val (.ref ar), .val (.int (1 : Int32)), .val (.ref ds), .val (.int (1 : Int32)), .val (.int (2 : Int32)), .val (.int (1 : Int32)), .val (.int x0)]) rfl k) ?_
  show F (T2.setTop (mkF m 41 #[.val (.ref ar), .val (.int (1 : Int32)), .val (.ref ds), .val (.int (1 : Int32)), .val (.int (2 : Int32)), .val (.int (1 : Int32)), .val (.int x0)] []))
  refine bk (fun t k => XS.goto X2.here hx rfl (pc0 := 41) (pc' := 3) rfl (hb hby d5_41) (by decide) (by decide) k) ?_
  show F (T2.setTop (mkF m 3 #[.val (.ref ar), .val (.int (1 : Int32)), .val (.ref ds), .val (.int (1 : Int32)), .val (.int (2 : Int32)), .val (.int (1 : Int32)), .val (.int x0)] []))
  refine bk (fun t k => XS.iload X2.here hx rfl (hb hby d5_3) rfl k) ?_
  show F (T2.setTop (mkF m 5 #[.val (.ref ar), .val (.int (1 : Int32)), .val (.ref ds), .val (.int (1 : Int32)), .val (.int (2 : Int32)), .val (.int (1 : Int32)), .val (.int x0)] [(.int (1 : Int32))]))
  refine bk (fun t k => XS.iload X2.here hx rfl (hb hby d5_5) rfl k) ?_
  show F (T2.setTop (mkF m 7 #[.val (.ref ar), .val (.int (1 : Int32)), .val (.ref ds), .val (.int (1 : Int32)), .val (.int (2 : Int32)), .val (.int (1 : Int32)), .val (.int x0)] [(.int (2 : Int32)), (.int (1 : Int32))]))
  refine bk (fun t k => XS.icmpNo X2.here hx rfl (hb hby d5_7) rfl (tlt (by decide : (1 : Int32) < (2 : Int32))).2.1 k) ?_
  show F (T2.setTop (mkF m 10 #[.val (.ref ar), .val (.int (1 : Int32)), .val (.ref ds), .val (.int (1 : Int32)), .val (.int (2 : Int32)), .val (.int (1 : Int32)), .val (.int x0)] []))
  refine bk (fun t k => XS.aloadN X2.here hx rfl (hb hby d5_10) rfl rfl k) ?_
  show F (T2.setTop (mkF m 11 #[.val (.ref ar), .val (.int (1 : Int32)), .val (.ref ds), .val (.int (1 : Int32)), .val (.int (2 : Int32)), .val (.int (1 : Int32)), .val (.int x0)] [(.ref ar)]))
  refine bk (fun t k => XS.iloadN X2.here hx rfl (hb hby d5_11) rfl k) ?_
  show F (T2.setTop (mkF m 12 #[.val (.ref ar), .val (.int (1 : Int32)), .val (.ref ds), .val (.int (1 : Int32)), .val (.int (2 : Int32)), .val (.int (1 : Int32)), .val (.int x0)] [(.int (1 : Int32)), (.ref ar)]))
  have vv6 := f3
  obtain ⟨cl6, Ar6, q6, S6, M6, H6, G6⟩ := vv6
  have hin6 : ¬ ((1 : Int32) < 0 ∨ cl6.slots.size ≤ ((1 : Int32)).toNatClampNeg) := inb_of S6 ⟨by decide, by decide⟩
  refine bk (fun t k => X2.caload hx (j := (1 : Int32)) (v := (.int x1)) (by rw [e2]; exact Ar6.1) (State.isArrayOf_alike hZ.alike Ar6.2.1) Ar6.2.2 hin6 (Has.at H6 hin6 rfl) (g := (mkF m 12 #[.val (.ref ar), .val (.int (1 : Int32)), .val (.ref ds), .val (.int (1 : Int32)), .val (.int (2 : Int32)), .val (.int (1 : Int32)), .val (.int x0)] [(.int (1 : Int32)), (.ref ar)])) rfl rfl (hb hby d5_12) t k) ?_
  show F (T2.setTop (mkF m 13 #[.val (.ref ar), .val (.int (1 : Int32)), .val (.ref ds), .val (.int (1 : Int32)), .val (.int (2 : Int32)), .val (.int (1 : Int32)), .val (.int x0)] [(.int x1)]))
  refine bk (fun t k => XS.istore X2.here hx rfl (hb hby d5_13) rfl (l' := #[.val (.ref ar), .val (.int (1 : Int32)), .val (.ref ds), .val (.int (1 : Int32)), .val (.int (2 : Int32)), .val (.int (1 : Int32)), .val (.int x1)]) rfl k) ?_
  show F (T2.setTop (mkF m 15 #[.val (.ref ar), .val (.int (1 : Int32)), .val (.ref ds), .val (.int (1 : Int32)), .val (.int (2 : Int32)), .val (.int (1 : Int32)), .val (.int x1)] []))
  refine bk (fun t k => XS.iload X2.here hx rfl (hb hby d5_15) rfl k) ?_
  show F (T2.setTop (mkF m 17 #[.val (.ref ar), .val (.int (1 : Int32)), .val (.ref ds), .val (.int (1 : Int32)), .val (.int (2 : Int32)), .val (.int (1 : Int32)), .val (.int x1)] [(.int x1)]))
  refine bk (fun t k => XS.sipush X2.here hx rfl (hb hby d5_17) k) ?_
  show F (T2.setTop (mkF m 20 #[.val (.ref ar), .val (.int (1 : Int32)), .val (.ref ds), .val (.int (1 : Int32)), .val (.int (2 : Int32)), .val (.int (1 : Int32)), .val (.int x1)] [(.int (255 : Int32)), (.int x1)]))
  refine bk (fun t k => XS.icmpYes X2.here hx rfl (pc0 := 20) (pc' := 26) rfl (hb hby d5_20) rfl (flt hx1).2.2.2 (by decide) (by decide) k) ?_
  show F (T2.setTop (mkF m 26 #[.val (.ref ar), .val (.int (1 : Int32)), .val (.ref ds), .val (.int (1 : Int32)), .val (.int (2 : Int32)), .val (.int (1 : Int32)), .val (.int x1)] []))
  refine bk (fun t k => XS.aloadN X2.here hx rfl (hb hby d5_26) rfl rfl k) ?_
  show F (T2.setTop (mkF m 27 #[.val (.ref ar), .val (.int (1 : Int32)), .val (.ref ds), .val (.int (1 : Int32)), .val (.int (2 : Int32)), .val (.int (1 : Int32)), .val (.int x1)] [(.ref ds)]))
  refine bk (fun t k => XS.iloadN X2.here hx rfl (hb hby d5_27) rfl k) ?_
  show F (T2.setTop (mkF m 28 #[.val (.ref ar), .val (.int (1 : Int32)), .val (.ref ds), .val (.int (1 : Int32)), .val (.int (2 : Int32)), .val (.int (1 : Int32)), .val (.int x1)] [(.int (1 : Int32)), (.ref ds)]))
  refine bk (fun t k => XS.iload X2.here hx rfl (hb hby d5_28) rfl k) ?_
  show F (T2.setTop (mkF m 30 #[.val (.ref ar), .val (.int (1 : Int32)), .val (.ref ds), .val (.int (1 : Int32)), .val (.int (2 : Int32)), .val (.int (1 : Int32)), .val (.int x1)] [(.int x1), (.int (1 : Int32)), (.ref ds)]))
  refine bk (fun t k => XS.i2b X2.here hx rfl (hb hby d5_30) rfl k) ?_
  show F (T2.setTop (mkF m 31 #[.val (.ref ar), .val (.int (1 : Int32)), .val (.ref ds), .val (.int (1 : Int32)), .val (.int (2 : Int32)), .val (.int (1 : Int32)), .val (.int x1)] [(.int (x1.toInt8.toInt32)), (.int (1 : Int32)), (.ref ds)]))
  have vv7 := V_ds_2
  obtain ⟨cl7, Ar7, q7, S7, M7, H7, G7⟩ := vv7
  have hin7 : ¬ ((1 : Int32) < 0 ∨ cl7.slots.size ≤ ((1 : Int32)).toNatClampNeg) := inb_of S7 ⟨by decide, by decide⟩
  obtain ⟨T7, h7, X7, e7, W7, st7⟩ := stB X2 hx hZ e2 Ar7 (j := (1 : Int32)) hin7 (g := (mkF m 31 #[.val (.ref ar), .val (.int (1 : Int32)), .val (.ref ds), .val (.int (1 : Int32)), .val (.int (2 : Int32)), .val (.int (1 : Int32)), .val (.int x1)] [(.int (x1.toInt8.toInt32)), (.int (1 : Int32)), (.ref ds)])) rfl rfl (hb hby d5_31)
  have V_ds_7 : Arv Z h7 ds kd .byte (2 : Int32) [(.int (nar .byte (x0.toInt8.toInt32))), (.int (nar .byte (x1.toInt8.toInt32)))] (.int (0 : Int32)) := Arv.set Ar7 q7 S7 M7 H7 G7 (fits_nar_byte _) W7 1 rfl (Nat.le_of_ble_eq_true rfl)
  have f8 := f3.other W7 ne_ar
  have f9 := Nat.le_trans f4 (Keep.of_wr W7).1
  have f10 := f5.wr W7 (Or.inl (List.mem_of_getElem? (i := 0) rfl))
  have N7 := Fr.snoc X7 N2 g_ds
  refine bk (fun t k => st7 t k) ?_
  show F (T7.setTop (mkF m 32 #[.val (.ref ar), .val (.int (1 : Int32)), .val (.ref ds), .val (.int (1 : Int32)), .val (.int (2 : Int32)), .val (.int (1 : Int32)), .val (.int x1)] []))
  refine bk (fun t k => XS.iinc X7.here hx rfl (hb hby d5_32) rfl (l' := #[.val (.ref ar), .val (.int (2 : Int32)), .val (.ref ds), .val (.int (1 : Int32)), .val (.int (2 : Int32)), .val (.int (1 : Int32)), .val (.int x1)]) rfl k) ?_
  show F (T7.setTop (mkF m 35 #[.val (.ref ar), .val (.int (2 : Int32)), .val (.ref ds), .val (.int (1 : Int32)), .val (.int (2 : Int32)), .val (.int (1 : Int32)), .val (.int x1)] []))
  refine bk (fun t k => XS.iinc X7.here hx rfl (hb hby d5_35) rfl (l' := #[.val (.ref ar), .val (.int (2 : Int32)), .val (.ref ds), .val (.int (2 : Int32)), .val (.int (2 : Int32)), .val (.int (1 : Int32)), .val (.int x1)]) rfl k) ?_
  show F (T7.setTop (mkF m 38 #[.val (.ref ar), .val (.int (2 : Int32)), .val (.ref ds), .val (.int (2 : Int32)), .val (.int (2 : Int32)), .val (.int (1 : Int32)), .val (.int x1)] []))
  refine bk (fun t k => XS.iinc X7.here hx rfl (hb hby d5_38) rfl (l' := #[.val (.ref ar), .val (.int (2 : Int32)), .val (.ref ds), .val (.int (2 : Int32)), .val (.int (2 : Int32)), .val (.int (2 : Int32)), .val (.int x1)]) rfl k) ?_
  show F (T7.setTop (mkF m 41 #[.val (.ref ar), .val (.int (2 : Int32)), .val (.ref ds), .val (.int (2 : Int32)), .val (.int (2 : Int32)), .val (.int (2 : Int32)), .val (.int x1)] []))
  refine bk (fun t k => XS.goto X7.here hx rfl (pc0 := 41) (pc' := 3) rfl (hb hby d5_41) (by decide) (by decide) k) ?_
  show F (T7.setTop (mkF m 3 #[.val (.ref ar), .val (.int (2 : Int32)), .val (.ref ds), .val (.int (2 : Int32)), .val (.int (2 : Int32)), .val (.int (2 : Int32)), .val (.int x1)] []))
  refine bk (fun t k => XS.iload X7.here hx rfl (hb hby d5_3) rfl k) ?_
  show F (T7.setTop (mkF m 5 #[.val (.ref ar), .val (.int (2 : Int32)), .val (.ref ds), .val (.int (2 : Int32)), .val (.int (2 : Int32)), .val (.int (2 : Int32)), .val (.int x1)] [(.int (2 : Int32))]))
  refine bk (fun t k => XS.iload X7.here hx rfl (hb hby d5_5) rfl k) ?_
  show F (T7.setTop (mkF m 7 #[.val (.ref ar), .val (.int (2 : Int32)), .val (.ref ds), .val (.int (2 : Int32)), .val (.int (2 : Int32)), .val (.int (2 : Int32)), .val (.int x1)] [(.int (2 : Int32)), (.int (2 : Int32))]))
  refine bk (fun t k => XS.icmpYes X7.here hx rfl (pc0 := 7) (pc' := 44) rfl (hb hby d5_7) rfl (flt (by decide : ¬ ((2 : Int32) < (2 : Int32)))).2.1 (by decide) (by decide) k) ?_
  show F (T7.setTop (mkF m 44 #[.val (.ref ar), .val (.int (2 : Int32)), .val (.ref ds), .val (.int (2 : Int32)), .val (.int (2 : Int32)), .val (.int (2 : Int32)), .val (.int x1)] []))
  refine bk (fun t k => XS.iload X7.here hx rfl (hb hby d5_44) rfl k) ?_
  show F (T7.setTop (mkF m 46 #[.val (.ref ar), .val (.int (2 : Int32)), .val (.ref ds), .val (.int (2 : Int32)), .val (.int (2 : Int32)), .val (.int (2 : Int32)), .val (.int x1)] [(.int (2 : Int32))]))
  rw [hF]
  refine own_retI X7 hx Bd.notSynchronized Bd.returns (hb hby d5_46) (by decide) (by decide) ?_
  rw [e7]
  exact ⟨rfl, N7, f10, V_ds_7⟩
def Q4_2 (Z : State) (ar : Addr) (ka : ClassId) (x0 : Int32) (x1 : Int32) (h0 : Heap) (n0 : Nat) (v : Option Value) (h : Heap) (L : List Loc) : Prop := ∃ (r : Addr) (kd : ClassId), v = some (.ref r) ∧ Fr n0 L ∧ Keep h0 h [] ∧ Arv Z h r kd .byte (2 : Int32) [(.int (nar .byte (x0.toInt8.toInt32))), (.int (nar .byte (x1.toInt8.toInt32)))] (.int (0 : Int32)) ∧ n0 ≤ r
set_option maxRecDepth 65536 in
set_option maxHeartbeats 40000000 in
theorem rm4_2 (l : Launch) (Z : State) (a0 : Array Value) (hw : ∀ d ∈ tables_1, d.before a0 Z = true) (ws : List Jvm.Cond) (ar : Addr) (ka : ClassId) (x0 : Int32) (x1 : Int32) (h0 : Heap) (n0 : Nat) (Z0 : n0 ≤ h0.size) (V_ar : Arv Z h0 ar ka .char (2 : Int32) [(.int x0), (.int x1)] (.int (0 : Int32))) (hx0 : ¬ (255 : Int32) < x0) (hx1 : ¬ (255 : Int32) < x1) :
    MetFree l (⟨"java/lang/StringUTF16", "compress", "([CII)[B"⟩ : MethodName) (head1 (Jvm.Cond.code (⟨"java/lang/StringUTF16", "compress", "([CII)[B"⟩ : MethodName) jdk_52_method_16_code 6 (some (.array .byte)) :: ws) ({ frames := 1, cells := 1, slots := 2, locals := 18 } : Room)) (fun a U => a = #[(.ref ar), (.int (0 : Int32)), (.int (2 : Int32))] ∧ Z.Warmed39 U.vm ∧ U.heap = h0) (fun _ _ _ _ _ => True) (fun _ U o U' => ∃ v L, o = .returned v ∧ Q4_2 Z ar ka x0 x1 h0 n0 v U'.heap L ∧ FrameEnd U o U' L ({ frames := 1, cells := 1, slots := 2, locals := 18 } : Room).cells ({ frames := 1, cells := 1, slots := 2, locals := 18 } : Room).slots) := by
  refine MetFree.of_bodySF (plainFor_of_name pn_4) hisR ?_
  intro p e s m args below meth c s₁ Bd hml0 hP hK
  obtain ⟨rfl, hZ, hh⟩ := hP
  have hx := Bd.exec
  have hby := Bd.bytes
  have hml : c.maxLocals = 6 := hml0
  have hown : s.vm.findClass "java/lang/StringUTF16" = some m.cls := findClass_of_methodNamed Bd.named
  have hnm := (name_of_methodNamed Bd.named Bd.method).1
  have X0 : Stand p l e ({ frames := 1, cells := 1, slots := 2, locals := 18 } : Room) s m #[(.ref ar), (.int (0 : Int32)), (.int (2 : Int32))] below meth c s₁ [] 0 0 := Stand.of_body Bd
  have e0 : s₁.heap = h0 := by rw [← hh, Bd.state]; rfl
  have N0 := Fr.nil n0
  obtain ⟨F, hF⟩ : ∃ F : State → Prop, F = own_Fin p e below s ({ frames := 1, cells := 1, slots := 2, locals := 18 } : Room).cells ({ frames := 1, cells := 1, slots := 2, locals := 18 } : Room).slots (fun v h L => Q4_2 Z ar ka x0 x1 h0 n0 v h L) := ⟨_, rfl⟩
  have bk : ∀ {A B : State}, (∀ t, Steps p.tables e below B t → Steps p.tables e below A t) → F B → F A := by
    intro A B h k
    rw [hF] at k ⊢
    exact own_back h k
  suffices hgo : F (s₁.setTop (mkF m 0 #[.val (.ref ar), .val (.int (0 : Int32)), .val (.int (2 : Int32)), .unset, .unset, .unset] [])) by
    have hgo' := bk (fun t k => castTop (T := s₁) (ef_4 m ar (0 : Int32) (2 : Int32)) k) hgo
    rw [hF] at hgo'
    exact hgo'
  show F (s₁.setTop (mkF m 0 #[.val (.ref ar), .val (.int (0 : Int32)), .val (.int (2 : Int32)), .unset, .unset, .unset] []))
  refine bk (fun t k => XS.iloadN X0.here hx rfl (hb hby d4_0) rfl k) ?_
  show F (s₁.setTop (mkF m 1 #[.val (.ref ar), .val (.int (0 : Int32)), .val (.int (2 : Int32)), .unset, .unset, .unset] [(.int (2 : Int32))]))
  obtain ⟨T1, h1, k1, X1, e1, E1, A1, st1⟩ := newP (aty := .byte) X0 hx hZ (hw _ (List.mem_of_getElem? (i := 19) rfl)) e0 (g := (mkF m 1 #[.val (.ref ar), .val (.int (0 : Int32)), .val (.int (2 : Int32)), .unset, .unset, .unset] [(.int (2 : Int32))])) rfl (hb hby d4_1) rfl (by decide) (cap := 2) (by decide) (by decide) (by decide) (by decide)
  obtain ⟨b1, g1⟩ : ∃ z, z = h0.size := ⟨_, rfl⟩
  rw [← g1] at A1 st1
  have Gb1 : n0 ≤ b1 := Nat.le_trans Z0 (Nat.le_of_eq g1.symm)
  have sz_b1 : h0.size ≤ b1 := Nat.le_trans (Keep.refl h0 []).1 (Nat.le_of_eq g1.symm)
  have ne_ar_b1 : ar ≠ b1 := Nat.ne_of_lt (Nat.lt_of_lt_of_le V_ar.lt (Nat.le_of_eq g1.symm))
  have f2 := V_ar.ext E1
  have f3 := Nat.le_trans Z0 E1.1
  have f4 := (Keep.refl h0 []).ext E1
  have V_b1 : Arv Z h1 b1 k1 .byte (2 : Int32) [(.int (0 : Int32)), (.int (0 : Int32))] (.int (0 : Int32)) := (Arv.new A1 (by decide)).pad (pad_rep [] (.int (0 : Int32)) 2)
  refine bk (fun t k => st1 t k) ?_
  show F (T1.setTop (mkF m 3 #[.val (.ref ar), .val (.int (0 : Int32)), .val (.int (2 : Int32)), .unset, .unset, .unset] [(.ref b1)]))
  refine bk (fun t k => XS.astoreN X1.here hx rfl (hb hby d4_3) rfl rfl (l' := #[.val (.ref ar), .val (.int (0 : Int32)), .val (.int (2 : Int32)), .val (.ref b1), .unset, .unset]) rfl k) ?_
  show F (T1.setTop (mkF m 4 #[.val (.ref ar), .val (.int (0 : Int32)), .val (.int (2 : Int32)), .val (.ref b1), .unset, .unset] []))
  refine bk (fun t k => XS.aloadN X1.here hx rfl (hb hby d4_4) rfl rfl k) ?_
  show F (T1.setTop (mkF m 5 #[.val (.ref ar), .val (.int (0 : Int32)), .val (.int (2 : Int32)), .val (.ref b1), .unset, .unset] [(.ref ar)]))
  refine bk (fun t k => XS.iloadN X1.here hx rfl (hb hby d4_5) rfl k) ?_
  show F (T1.setTop (mkF m 6 #[.val (.ref ar), .val (.int (0 : Int32)), .val (.int (2 : Int32)), .val (.ref b1), .unset, .unset] [(.int (0 : Int32)), (.ref ar)]))
  refine bk (fun t k => XS.aloadN X1.here hx rfl (hb hby d4_6) rfl rfl k) ?_
  show F (T1.setTop (mkF m 7 #[.val (.ref ar), .val (.int (0 : Int32)), .val (.int (2 : Int32)), .val (.ref b1), .unset, .unset] [(.ref b1), (.int (0 : Int32)), (.ref ar)]))
  refine bk (fun t k => XS.iconst X1.here hx rfl (hb hby d4_7) k) ?_
  show F (T1.setTop (mkF m 8 #[.val (.ref ar), .val (.int (0 : Int32)), .val (.int (2 : Int32)), .val (.ref b1), .unset, .unset] [(.int (0 : Int32)), (.ref b1), (.int (0 : Int32)), (.ref ar)]))
  refine bk (fun t k => XS.iloadN X1.here hx rfl (hb hby d4_8) rfl k) ?_
  show F (T1.setTop (mkF m 9 #[.val (.ref ar), .val (.int (0 : Int32)), .val (.int (2 : Int32)), .val (.ref b1), .unset, .unset] [(.int (2 : Int32)), (.int (0 : Int32)), (.ref b1), (.int (0 : Int32)), (.ref ar)]))
  obtain ⟨_, _, ⟨T5, L5, k5, n5⟩, -, X5, ⟨Lc5, hQ5, l5, y5, z5⟩, st5⟩ := Jvm.LawKit.callS X1 hx (y := (⟨"java/lang/StringUTF16", "compress", "([CI[BII)I"⟩ : MethodName)) hown (mvT hZ (hw _ (List.mem_of_getElem? (i := 20) rfl))) (mvT hZ (hw _ (List.mem_of_getElem? (i := 21) rfl))) (mvT hZ (hw _ (List.mem_of_getElem? (i := 17) rfl))) (mvT hZ (hw _ (List.mem_of_getElem? (i := 22) rfl))) (by decide) (backOf (W := 0) (rm5_2 l Z a0 hw [] ar b1 ka k1 x0 x1 h1 n0 f3 f2 V_b1 Gb1 ne_ar_b1 hx0 hx1) hZ (hw _ (List.mem_of_getElem? (i := 22) rfl)) (hw _ (List.mem_of_getElem? (i := 17) rfl)) (by decide) (by decide)) (g := (mkF m 9 #[.val (.ref ar), .val (.int (0 : Int32)), .val (.int (2 : Int32)), .val (.ref b1), .unset, .unset] [(.int (2 : Int32)), (.int (0 : Int32)), (.ref b1), (.int (0 : Int32)), (.ref ar)])) rfl (by rw [hml]; rfl) (argsL := [(.ref ar), (.int (0 : Int32)), (.ref b1), (.int (0 : Int32)), (.int (2 : Int32))]) (rest := []) (lenOf pd4___CI_BII_I rfl) rfl (by show 2 * 0 + _ ≤ _; exact Nat.le_of_eq rfl) (hb hby d4_9) (fun _ _ => ⟨rfl, e1, (by decide : 1 + 0 ≤ _), (by decide : 2 + 0 ≤ _)⟩)
  dsimp only [Pt.U, Pt.locs, Pt.cells, Pt.slots] at X5 l5 y5 z5 st5 hQ5
  subst l5 y5 z5
  obtain ⟨rfl, N5q, K5, gV5⟩ := hQ5
  have N5 := Fr.app N0 N5q
  have f6 := f2.keep K5 (ninS ne_ar_b1 nin0)
  have f7 := Nat.le_trans f3 K5.1
  have f8 := f4.trans K5 (allS (Or.inr sz_b1) all0)
  refine bk (fun t k => st5 t k) ?_
  show F (T5.setTop (mkF m 12 #[.val (.ref ar), .val (.int (0 : Int32)), .val (.int (2 : Int32)), .val (.ref b1), .unset, .unset] [(.int (2 : Int32))]))
  refine bk (fun t k => XS.istore X5.here hx rfl (hb hby d4_12) rfl (l' := #[.val (.ref ar), .val (.int (0 : Int32)), .val (.int (2 : Int32)), .val (.ref b1), .val (.int (2 : Int32)), .unset]) rfl k) ?_
  show F (T5.setTop (mkF m 14 #[.val (.ref ar), .val (.int (0 : Int32)), .val (.int (2 : Int32)), .val (.ref b1), .val (.int (2 : Int32)), .unset] []))
  refine bk (fun t k => XS.iload X5.here hx rfl (hb hby d4_14) rfl k) ?_
  show F (T5.setTop (mkF m 16 #[.val (.ref ar), .val (.int (0 : Int32)), .val (.int (2 : Int32)), .val (.ref b1), .val (.int (2 : Int32)), .unset] [(.int (2 : Int32))]))
  refine bk (fun t k => XS.iloadN X5.here hx rfl (hb hby d4_16) rfl k) ?_
  show F (T5.setTop (mkF m 17 #[.val (.ref ar), .val (.int (0 : Int32)), .val (.int (2 : Int32)), .val (.ref b1), .val (.int (2 : Int32)), .unset] [(.int (2 : Int32)), (.int (2 : Int32))]))
  refine bk (fun t k => XS.icmpYes X5.here hx rfl (pc0 := 17) (pc' := 57) rfl (hb hby d4_17) rfl (teq (by decide : (2 : Int32) = (2 : Int32))).1 (by decide) (by decide) k) ?_
  show F (T5.setTop (mkF m 57 #[.val (.ref ar), .val (.int (0 : Int32)), .val (.int (2 : Int32)), .val (.ref b1), .val (.int (2 : Int32)), .unset] []))
  refine bk (fun t k => XS.aloadN X5.here hx rfl (hb hby d4_57) rfl rfl k) ?_
  show F (T5.setTop (mkF m 58 #[.val (.ref ar), .val (.int (0 : Int32)), .val (.int (2 : Int32)), .val (.ref b1), .val (.int (2 : Int32)), .unset] [(.ref b1)]))
  rw [hF]
  refine own_retA X5 hx Bd.notSynchronized Bd.returns rfl rfl (hb hby d4_58) (by decide) (by decide) ?_
  exact ⟨_, _, rfl, N5, f8, gV5, Gb1⟩
def Q6_2 (Z : State) (ar : Addr) (ka : ClassId) (x0 : Int32) (x1 : Int32) (h0 : Heap) (n0 : Nat) (v : Option Value) (h : Heap) (L : List Loc) : Prop := v = some (.int (0 : Int32)) ∧ Fr n0 L ∧ h = h0
set_option maxRecDepth 65536 in
set_option maxHeartbeats 40000000 in
theorem rm6_2 (l : Launch) (Z : State) (a0 : Array Value) (hw : ∀ d ∈ tables_1, d.before a0 Z = true) (ws : List Jvm.Cond) (ar : Addr) (ka : ClassId) (x0 : Int32) (x1 : Int32) (h0 : Heap) (n0 : Nat) (Z0 : n0 ≤ h0.size) (V_ar : Arv Z h0 ar ka .byte (2 : Int32) [(.int x0), (.int x1)] (.int (0 : Int32))) :
    MetFree l (⟨"java/lang/StringUTF16", "coderFromArrayLen", "([BI)B"⟩ : MethodName) (head1 (Jvm.Cond.code (⟨"java/lang/StringUTF16", "coderFromArrayLen", "([BI)B"⟩ : MethodName) jdk_52_method_15_code 2 (some .byte) :: ws) ({ frames := 0, cells := 0, slots := 0, locals := 0 } : Room)) (fun a U => a = #[(.ref ar), (.int (2 : Int32))] ∧ Z.Warmed39 U.vm ∧ U.heap = h0) (fun _ _ _ _ _ => True) (fun _ U o U' => ∃ v L, o = .returned v ∧ Q6_2 Z ar ka x0 x1 h0 n0 v U'.heap L ∧ FrameEnd U o U' L ({ frames := 0, cells := 0, slots := 0, locals := 0 } : Room).cells ({ frames := 0, cells := 0, slots := 0, locals := 0 } : Room).slots) := by
  refine MetFree.of_bodySF (plainFor_of_name pn_6) hisR ?_
  intro p e s m args below meth c s₁ Bd hml0 hP hK
  obtain ⟨rfl, hZ, hh⟩ := hP
  have hx := Bd.exec
  have hby := Bd.bytes
  have hml : c.maxLocals = 2 := hml0
  have hown : s.vm.findClass "java/lang/StringUTF16" = some m.cls := findClass_of_methodNamed Bd.named
  have hnm := (name_of_methodNamed Bd.named Bd.method).1
  have X0 : Stand p l e ({ frames := 0, cells := 0, slots := 0, locals := 0 } : Room) s m #[(.ref ar), (.int (2 : Int32))] below meth c s₁ [] 0 0 := Stand.of_body Bd
  have e0 : s₁.heap = h0 := by rw [← hh, Bd.state]; rfl
  have N0 := Fr.nil n0
  obtain ⟨F, hF⟩ : ∃ F : State → Prop, F = own_Fin p e below s ({ frames := 0, cells := 0, slots := 0, locals := 0 } : Room).cells ({ frames := 0, cells := 0, slots := 0, locals := 0 } : Room).slots (fun v h L => Q6_2 Z ar ka x0 x1 h0 n0 v h L) := ⟨_, rfl⟩
  have bk : ∀ {A B : State}, (∀ t, Steps p.tables e below B t → Steps p.tables e below A t) → F B → F A := by
    intro A B h k
    rw [hF] at k ⊢
    exact own_back h k
  suffices hgo : F (s₁.setTop (mkF m 0 #[.val (.ref ar), .val (.int (2 : Int32))] [])) by
    have hgo' := bk (fun t k => castTop (T := s₁) (ef_6 m ar (2 : Int32)) k) hgo
    rw [hF] at hgo'
    exact hgo'
  show F (s₁.setTop (mkF m 0 #[.val (.ref ar), .val (.int (2 : Int32))] []))
  refine bk (fun t k => XS.iloadN X0.here hx rfl (hb hby d6_0) rfl k) ?_
  show F (s₁.setTop (mkF m 1 #[.val (.ref ar), .val (.int (2 : Int32))] [(.int (2 : Int32))]))
  refine bk (fun t k => XS.aloadN X0.here hx rfl (hb hby d6_1) rfl rfl k) ?_
  show F (s₁.setTop (mkF m 2 #[.val (.ref ar), .val (.int (2 : Int32))] [(.ref ar), (.int (2 : Int32))]))
  have vv1 := V_ar
  obtain ⟨cl1, Ar1, q1, S1, M1, H1, G1⟩ := vv1
  refine bk (fun t k => X0.arraylength hx (by rw [e0]; exact Ar1.1) (State.isArrayOf_alike hZ.alike Ar1.2.1) (g := (mkF m 2 #[.val (.ref ar), .val (.int (2 : Int32))] [(.ref ar), (.int (2 : Int32))])) rfl rfl (hb hby d6_2) t k) ?_
  rw [len_of S1 M1]
  show F (s₁.setTop (mkF m 3 #[.val (.ref ar), .val (.int (2 : Int32))] [(.int (2 : Int32)), (.int (2 : Int32))]))
  refine bk (fun t k => XS.isub X0.here hx rfl (hb hby d6_3) rfl k) ?_
  show F (s₁.setTop (mkF m 4 #[.val (.ref ar), .val (.int (2 : Int32))] [(.int (0 : Int32))]))
  refine bk (fun t k => XS.bipush X0.here hx rfl (hb hby d6_4) k) ?_
  show F (s₁.setTop (mkF m 6 #[.val (.ref ar), .val (.int (2 : Int32))] [(.int (31 : Int32)), (.int (0 : Int32))]))
  refine bk (fun t k => XS.iushr X0.here hx rfl (hb hby d6_6) rfl k) ?_
  show F (s₁.setTop (mkF m 7 #[.val (.ref ar), .val (.int (2 : Int32))] [(.int (0 : Int32))]))
  refine bk (fun t k => XS.i2b X0.here hx rfl (hb hby d6_7) rfl k) ?_
  show F (s₁.setTop (mkF m 8 #[.val (.ref ar), .val (.int (2 : Int32))] [(.int (0 : Int32))]))
  rw [hF]
  refine own_retB X0 hx Bd.notSynchronized Bd.returns (hb hby d6_8) (by decide) (by decide) ?_
  rw [e0]
  exact ⟨rfl, N0, rfl⟩
def Q2_2 (Z : State) (o0 : Addr) (ar : Addr) (ka : ClassId) (cs : Int32) (x0 : Int32) (x1 : Int32) (h0 : Heap) (n0 : Nat) (v : Option Value) (h : Heap) (L : List Loc) : Prop := v = none ∧ Fr n0 L ∧ Keep h0 h [o0] ∧ Exa Z h o0 "java/lang/String" ∧ Fld Z h o0 "java/lang/String" "coder" "B" (.int (0 : Int32)) ∧ ∃ (r : Addr) (kd : ClassId), Fld Z h o0 "java/lang/String" "value" "[B" (.ref r) ∧ Arv Z h r kd .byte (2 : Int32) [(.int (nar .byte (x0.toInt8.toInt32))), (.int (nar .byte (x1.toInt8.toInt32)))] (.int (0 : Int32))
set_option maxRecDepth 65536 in
set_option maxHeartbeats 40000000 in
theorem rm2_2 (l : Launch) (Z : State) (a0 : Array Value) (hw : ∀ d ∈ tables_1, d.before a0 Z = true) (ws : List Jvm.Cond) (o0 : Addr) (ar : Addr) (ka : ClassId) (cs : Int32) (x0 : Int32) (x1 : Int32) (h0 : Heap) (n0 : Nat) (Z0 : n0 ≤ h0.size) (E_o0 : Exa Z h0 o0 "java/lang/String") (F_v : Fld Z h0 o0 "java/lang/String" "value" "[B" .null) (F_c : Fld Z h0 o0 "java/lang/String" "coder" "B" (.int (0 : Int32))) (g_o0 : n0 ≤ o0) (V_ar : Arv Z h0 ar ka .char (2 : Int32) [(.int x0), (.int x1)] (.int (0 : Int32))) (ne_o_ar : o0 ≠ ar) (S_cs : Sta Z h0 "java/lang/String" "COMPACT_STRINGS" "Z" (.int cs)) (hcs : ¬ cs = (0 : Int32)) (hx0 : ¬ (255 : Int32) < x0) (hx1 : ¬ (255 : Int32) < x1) :
    MetFree l (⟨"java/lang/String", "<init>", "([CIILjava/lang/Void;)V"⟩ : MethodName) (head1 (Jvm.Cond.code (⟨"java/lang/String", "<init>", "([CIILjava/lang/Void;)V"⟩ : MethodName) jdk_42_method_149_code 6 none :: ws) ({ frames := 2, cells := 1, slots := 2, locals := 35 } : Room)) (fun a U => a = #[(.ref o0), (.ref ar), (.int (0 : Int32)), (.int (2 : Int32)), .null] ∧ Z.Warmed39 U.vm ∧ U.heap = h0) (fun _ _ _ _ _ => True) (fun _ U o U' => ∃ v L, o = .returned v ∧ Q2_2 Z o0 ar ka cs x0 x1 h0 n0 v U'.heap L ∧ FrameEnd U o U' L ({ frames := 2, cells := 1, slots := 2, locals := 35 } : Room).cells ({ frames := 2, cells := 1, slots := 2, locals := 35 } : Room).slots) := by
  refine MetFree.of_bodySF (plainFor_of_name pn_2) hisR ?_
  intro p e s m args below meth c s₁ Bd hml0 hP hK
  obtain ⟨rfl, hZ, hh⟩ := hP
  have hx := Bd.exec
  have hby := Bd.bytes
  have hml : c.maxLocals = 6 := hml0
  have hown : s.vm.findClass "java/lang/String" = some m.cls := findClass_of_methodNamed Bd.named
  have hnm := (name_of_methodNamed Bd.named Bd.method).1
  have X0 : Stand p l e ({ frames := 2, cells := 1, slots := 2, locals := 35 } : Room) s m #[(.ref o0), (.ref ar), (.int (0 : Int32)), (.int (2 : Int32)), .null] below meth c s₁ [] 0 0 := Stand.of_body Bd
  have e0 : s₁.heap = h0 := by rw [← hh, Bd.state]; rfl
  have N0 := Fr.nil n0
  obtain ⟨F, hF⟩ : ∃ F : State → Prop, F = own_Fin p e below s ({ frames := 2, cells := 1, slots := 2, locals := 35 } : Room).cells ({ frames := 2, cells := 1, slots := 2, locals := 35 } : Room).slots (fun v h L => Q2_2 Z o0 ar ka cs x0 x1 h0 n0 v h L) := ⟨_, rfl⟩
  have bk : ∀ {A B : State}, (∀ t, Steps p.tables e below B t → Steps p.tables e below A t) → F B → F A := by
    intro A B h k
    rw [hF] at k ⊢
    exact own_back h k
  suffices hgo : F (s₁.setTop (mkF m 0 #[.val (.ref o0), .val (.ref ar), .val (.int (0 : Int32)), .val (.int (2 : Int32)), .val .null, .unset] [])) by
    have hgo' := bk (fun t k => castTop (T := s₁) (ef_2n4 m o0 ar (0 : Int32) (2 : Int32)) k) hgo
    rw [hF] at hgo'
    exact hgo'
  show F (s₁.setTop (mkF m 0 #[.val (.ref o0), .val (.ref ar), .val (.int (0 : Int32)), .val (.int (2 : Int32)), .val .null, .unset] []))
  refine bk (fun t k => XS.aloadN X0.here hx rfl (hb hby d2_0) rfl rfl k) ?_
  show F (s₁.setTop (mkF m 1 #[.val (.ref o0), .val (.ref ar), .val (.int (0 : Int32)), .val (.int (2 : Int32)), .val .null, .unset] [(.ref o0)]))
  obtain ⟨T1, X1, e1, st1⟩ := initO X0 hx hZ hown (hw _ (List.mem_of_getElem? (i := 11) rfl)) (hw _ (List.mem_of_getElem? (i := 12) rfl)) (hw _ (List.mem_of_getElem? (i := 13) rfl)) e0 (g := (mkF m 1 #[.val (.ref o0), .val (.ref ar), .val (.int (0 : Int32)), .val (.int (2 : Int32)), .val .null, .unset] [(.ref o0)])) rfl (by rw [hml]; rfl) rfl (hb hby d2_1) (by decide) (W := 0) (by show 2 * 0 + _ ≤ _; exact Nat.le_of_eq rfl) (by decide)
  refine bk (fun t k => st1 t k) ?_
  show F (T1.setTop (mkF m 4 #[.val (.ref o0), .val (.ref ar), .val (.int (0 : Int32)), .val (.int (2 : Int32)), .val .null, .unset] []))
  refine bk (fun t k => XS.iloadN X1.here hx rfl (hb hby d2_4) rfl k) ?_
  show F (T1.setTop (mkF m 5 #[.val (.ref o0), .val (.ref ar), .val (.int (0 : Int32)), .val (.int (2 : Int32)), .val .null, .unset] [(.int (2 : Int32))]))
  refine bk (fun t k => XS.ifYes X1.here hx rfl (pc0 := 5) (pc' := 27) rfl (hb hby d2_5) rfl ((if0 _ _).trans (feq (by decide : ¬ ((2 : Int32) = (0 : Int32)))).2) (by decide) (by decide) k) ?_
  show F (T1.setTop (mkF m 27 #[.val (.ref o0), .val (.ref ar), .val (.int (0 : Int32)), .val (.int (2 : Int32)), .val .null, .unset] []))
  obtain ⟨T2, X2, e2, st2⟩ := getS2 X1 hx hZ hown (host := "") (Or.inl (hw _ (List.mem_of_getElem? (i := 14) rfl))) Via.refl e1 S_cs (g := (mkF m 27 #[.val (.ref o0), .val (.ref ar), .val (.int (0 : Int32)), .val (.int (2 : Int32)), .val .null, .unset] [])) rfl (hb hby d2_27)
  refine bk (fun t k => st2 t k) ?_
  show F (T2.setTop (mkF m 30 #[.val (.ref o0), .val (.ref ar), .val (.int (0 : Int32)), .val (.int (2 : Int32)), .val .null, .unset] [(.int cs)]))
  refine bk (fun t k => XS.ifNo X2.here hx rfl (hb hby d2_30) rfl ((if0 _ _).trans (feq hcs).1) k) ?_
  show F (T2.setTop (mkF m 33 #[.val (.ref o0), .val (.ref ar), .val (.int (0 : Int32)), .val (.int (2 : Int32)), .val .null, .unset] []))
  refine bk (fun t k => XS.aloadN X2.here hx rfl (hb hby d2_33) rfl rfl k) ?_
  show F (T2.setTop (mkF m 34 #[.val (.ref o0), .val (.ref ar), .val (.int (0 : Int32)), .val (.int (2 : Int32)), .val .null, .unset] [(.ref ar)]))
  refine bk (fun t k => XS.iloadN X2.here hx rfl (hb hby d2_34) rfl k) ?_
  show F (T2.setTop (mkF m 35 #[.val (.ref o0), .val (.ref ar), .val (.int (0 : Int32)), .val (.int (2 : Int32)), .val .null, .unset] [(.int (0 : Int32)), (.ref ar)]))
  refine bk (fun t k => XS.iloadN X2.here hx rfl (hb hby d2_35) rfl k) ?_
  show F (T2.setTop (mkF m 36 #[.val (.ref o0), .val (.ref ar), .val (.int (0 : Int32)), .val (.int (2 : Int32)), .val .null, .unset] [(.int (2 : Int32)), (.int (0 : Int32)), (.ref ar)]))
  obtain ⟨_, _, ⟨T3, L3, k3, n3⟩, -, X3, ⟨Lc3, hQ3, l3, y3, z3⟩, st3⟩ := Jvm.LawKit.callS X2 hx (y := (⟨"java/lang/StringUTF16", "compress", "([CII)[B"⟩ : MethodName)) hown (mvT hZ (hw _ (List.mem_of_getElem? (i := 15) rfl))) (mvT hZ (hw _ (List.mem_of_getElem? (i := 16) rfl))) (mvT hZ (hw _ (List.mem_of_getElem? (i := 17) rfl))) (mvT hZ (hw _ (List.mem_of_getElem? (i := 18) rfl))) (by decide) (backOf (W := 0) (rm4_2 l Z a0 hw [] ar ka x0 x1 h0 n0 Z0 V_ar hx0 hx1) hZ (hw _ (List.mem_of_getElem? (i := 18) rfl)) (hw _ (List.mem_of_getElem? (i := 17) rfl)) (by decide) (by decide)) (g := (mkF m 36 #[.val (.ref o0), .val (.ref ar), .val (.int (0 : Int32)), .val (.int (2 : Int32)), .val .null, .unset] [(.int (2 : Int32)), (.int (0 : Int32)), (.ref ar)])) rfl (by rw [hml]; rfl) (argsL := [(.ref ar), (.int (0 : Int32)), (.int (2 : Int32))]) (rest := []) (lenOf pd2___CII__B rfl) rfl (by show 2 * 0 + _ ≤ _; exact Nat.le_of_eq rfl) (hb hby d2_36) (fun _ _ => ⟨rfl, e2, (by decide : 0 + 1 ≤ _), (by decide : 0 + 2 ≤ _)⟩)
  dsimp only [Pt.U, Pt.locs, Pt.cells, Pt.slots] at X3 l3 y3 z3 st3 hQ3
  subst l3 y3 z3
  obtain ⟨r3, kd3, rfl, N3q, K3, gV3, gG3⟩ := hQ3
  have N3 := Fr.app N0 N3q
  have f4 := E_o0.keep K3
  have f5 := F_v.keep K3 nin0
  have f6 := F_c.keep K3 nin0
  have f7 := Nat.le_trans Z0 K3.1
  have f8 := (Keep.refl h0 [o0]).trans K3 all0
  have f9 := V_ar.keep K3 nin0
  have f10 := own_sta0 S_cs K3
  refine bk (fun t k => st3 t k) ?_
  show F (T3.setTop (mkF m 39 #[.val (.ref o0), .val (.ref ar), .val (.int (0 : Int32)), .val (.int (2 : Int32)), .val .null, .unset] [(.ref r3)]))
  refine bk (fun t k => XS.astore X3.here hx rfl (hb hby d2_39) rfl rfl (l' := #[.val (.ref o0), .val (.ref ar), .val (.int (0 : Int32)), .val (.int (2 : Int32)), .val .null, .val (.ref r3)]) rfl k) ?_
  show F (T3.setTop (mkF m 41 #[.val (.ref o0), .val (.ref ar), .val (.int (0 : Int32)), .val (.int (2 : Int32)), .val .null, .val (.ref r3)] []))
  refine bk (fun t k => XS.aloadN X3.here hx rfl (hb hby d2_41) rfl rfl k) ?_
  show F (T3.setTop (mkF m 42 #[.val (.ref o0), .val (.ref ar), .val (.int (0 : Int32)), .val (.int (2 : Int32)), .val .null, .val (.ref r3)] [(.ref o0)]))
  refine bk (fun t k => XS.aload X3.here hx rfl (hb hby d2_42) rfl rfl k) ?_
  show F (T3.setTop (mkF m 44 #[.val (.ref o0), .val (.ref ar), .val (.int (0 : Int32)), .val (.int (2 : Int32)), .val .null, .val (.ref r3)] [(.ref r3), (.ref o0)]))
  refine bk (fun t k => XS.iloadN X3.here hx rfl (hb hby d2_44) rfl k) ?_
  show F (T3.setTop (mkF m 45 #[.val (.ref o0), .val (.ref ar), .val (.int (0 : Int32)), .val (.int (2 : Int32)), .val .null, .val (.ref r3)] [(.int (2 : Int32)), (.ref r3), (.ref o0)]))
  obtain ⟨_, _, ⟨T11, L11, k11, n11⟩, -, X11, ⟨Lc11, hQ11, l11, y11, z11⟩, st11⟩ := Jvm.LawKit.callS X3 hx (y := (⟨"java/lang/StringUTF16", "coderFromArrayLen", "([BI)B"⟩ : MethodName)) hown (mvT hZ (hw _ (List.mem_of_getElem? (i := 23) rfl))) (mvT hZ (hw _ (List.mem_of_getElem? (i := 24) rfl))) (mvT hZ (hw _ (List.mem_of_getElem? (i := 17) rfl))) (mvT hZ (hw _ (List.mem_of_getElem? (i := 25) rfl))) (by decide) (backOf (W := 1) (rm6_2 l Z a0 hw [] r3 kd3 (nar .byte (x0.toInt8.toInt32)) (nar .byte (x1.toInt8.toInt32)) T3.heap n0 f7 gV3) hZ (hw _ (List.mem_of_getElem? (i := 25) rfl)) (hw _ (List.mem_of_getElem? (i := 17) rfl)) (by decide) (by decide)) (g := (mkF m 45 #[.val (.ref o0), .val (.ref ar), .val (.int (0 : Int32)), .val (.int (2 : Int32)), .val .null, .val (.ref r3)] [(.int (2 : Int32)), (.ref r3), (.ref o0)])) rfl (by rw [hml]; rfl) (argsL := [(.ref r3), (.int (2 : Int32))]) (rest := [(.ref o0)]) (lenOf pd2___BI_B rfl) rfl (by show 2 * 0 + _ ≤ _; exact Nat.le_of_eq rfl) (hb hby d2_45) (fun _ _ => ⟨rfl, rfl, (by decide : 1 + 0 ≤ _), (by decide : 2 + 0 ≤ _)⟩)
  dsimp only [Pt.U, Pt.locs, Pt.cells, Pt.slots] at X11 l11 y11 z11 st11 hQ11
  subst l11 y11 z11
  obtain ⟨rfl, N11q, e11⟩ := hQ11
  have N11 := Fr.app N3 N11q
  refine bk (fun t k => st11 t k) ?_
  show F (T11.setTop (mkF m 48 #[.val (.ref o0), .val (.ref ar), .val (.int (0 : Int32)), .val (.int (2 : Int32)), .val .null, .val (.ref r3)] [(.int (0 : Int32)), (.ref o0)]))
  obtain ⟨T12, h12, X12, e12, W12, st12⟩ := putFN X11 hx hZ hown (hw _ (List.mem_of_getElem? (i := 26) rfl)) Via.refl e11 f6 f4 (Or.inr ⟨(hw _ (List.mem_of_getElem? (i := 27) rfl)), rfl, hnm⟩) (hw _ (List.mem_of_getElem? (i := 2) rfl)) (ty := .byte) (v' := .int (0 : Int32)) (by decide) rfl (by decide) (g := (mkF m 48 #[.val (.ref o0), .val (.ref ar), .val (.int (0 : Int32)), .val (.int (2 : Int32)), .val .null, .val (.ref r3)] [(.int (0 : Int32)), (.ref o0)])) rfl rfl (hb hby d2_48)
  have f13 := f4.wr W12
  have f14 := f5.other W12 (Or.inr (slot_ne (Or.inr (hw _ (List.mem_of_getElem? (i := 29) rfl))) (Or.inr (hw _ (List.mem_of_getElem? (i := 27) rfl))) (by decide) (t := (.array .byte)) (t' := .byte) (by decide) (by decide)))
  have f15 := f6.same W12
  have f16 := Nat.le_trans f7 (Keep.of_wr W12).1
  have f17 := f8.wr W12 (Or.inl (List.mem_of_getElem? (i := 0) rfl))
  have f18 := f9.other W12 (Ne.symm ne_o_ar)
  have f19 := f10.wr W12
  have f20 := gV3.other W12 (Ne.symm (Exa.neArv f4 gV3 (hw _ (List.mem_of_getElem? (i := 2) rfl))))
  have N12 := Fr.snoc X12 N11 g_o0
  refine bk (fun t k => st12 t k) ?_
  show F (T12.setTop (mkF m 51 #[.val (.ref o0), .val (.ref ar), .val (.int (0 : Int32)), .val (.int (2 : Int32)), .val .null, .val (.ref r3)] []))
  refine bk (fun t k => XS.aloadN X12.here hx rfl (hb hby d2_51) rfl rfl k) ?_
  show F (T12.setTop (mkF m 52 #[.val (.ref o0), .val (.ref ar), .val (.int (0 : Int32)), .val (.int (2 : Int32)), .val .null, .val (.ref r3)] [(.ref o0)]))
  refine bk (fun t k => XS.aload X12.here hx rfl (hb hby d2_52) rfl rfl k) ?_
  show F (T12.setTop (mkF m 54 #[.val (.ref o0), .val (.ref ar), .val (.int (0 : Int32)), .val (.int (2 : Int32)), .val .null, .val (.ref r3)] [(.ref r3), (.ref o0)]))
  obtain ⟨T21, h21, X21, e21, W21, st21⟩ := putF X12 hx hZ hown (host := "") (Or.inl (hw _ (List.mem_of_getElem? (i := 28) rfl))) Via.refl e12 f14 f13 (Or.inr ⟨(hw _ (List.mem_of_getElem? (i := 29) rfl)), rfl, hnm⟩) (hw _ (List.mem_of_getElem? (i := 2) rfl)) (ty := (.array .byte)) (by decide) rfl rfl (g := (mkF m 54 #[.val (.ref o0), .val (.ref ar), .val (.int (0 : Int32)), .val (.int (2 : Int32)), .val .null, .val (.ref r3)] [(.ref r3), (.ref o0)])) rfl rfl (hb hby d2_54)
  have f22 := f13.wr W21
  have f23 := f14.same W21
  have f24 := f15.other W21 (Or.inr (slot_ne (Or.inr (hw _ (List.mem_of_getElem? (i := 27) rfl))) (Or.inr (hw _ (List.mem_of_getElem? (i := 29) rfl))) (by decide) (t := .byte) (t' := (.array .byte)) (by decide) (by decide)))
  have f25 := Nat.le_trans f16 (Keep.of_wr W21).1
  have f26 := f17.wr W21 (Or.inl (List.mem_of_getElem? (i := 0) rfl))
  have f27 := f18.other W21 (Ne.symm ne_o_ar)
  have f28 := f19.wr W21
  have f29 := f20.other W21 (Ne.symm (Exa.neArv f4 gV3 (hw _ (List.mem_of_getElem? (i := 2) rfl))))
  have N21 := Fr.snoc X21 N12 g_o0
  refine bk (fun t k => st21 t k) ?_
  show F (T21.setTop (mkF m 57 #[.val (.ref o0), .val (.ref ar), .val (.int (0 : Int32)), .val (.int (2 : Int32)), .val .null, .val (.ref r3)] []))
  rw [hF]
  refine own_ret0 X21 hx Bd.notSynchronized Bd.returns (hb hby d2_57) (by decide) (by decide) ?_
  rw [e21]
  exact ⟨rfl, N21, f26, f22, f24, _, _, f23, f29⟩
def Q1_2 (Z : State) (o0 : Addr) (ar : Addr) (ka : ClassId) (cs : Int32) (x0 : Int32) (x1 : Int32) (h0 : Heap) (n0 : Nat) (v : Option Value) (h : Heap) (L : List Loc) : Prop := v = none ∧ Fr n0 L ∧ Keep h0 h [o0] ∧ Exa Z h o0 "java/lang/String" ∧ Fld Z h o0 "java/lang/String" "coder" "B" (.int (0 : Int32)) ∧ ∃ (r : Addr) (kd : ClassId), Fld Z h o0 "java/lang/String" "value" "[B" (.ref r) ∧ Arv Z h r kd .byte (2 : Int32) [(.int (nar .byte (x0.toInt8.toInt32))), (.int (nar .byte (x1.toInt8.toInt32)))] (.int (0 : Int32))
set_option maxRecDepth 65536 in
set_option maxHeartbeats 40000000 in
theorem rm1_2 (l : Launch) (Z : State) (a0 : Array Value) (hw : ∀ d ∈ tables_1, d.before a0 Z = true) (ws : List Jvm.Cond) (o0 : Addr) (ar : Addr) (ka : ClassId) (cs : Int32) (x0 : Int32) (x1 : Int32) (h0 : Heap) (n0 : Nat) (Z0 : n0 ≤ h0.size) (E_o0 : Exa Z h0 o0 "java/lang/String") (F_v : Fld Z h0 o0 "java/lang/String" "value" "[B" .null) (F_c : Fld Z h0 o0 "java/lang/String" "coder" "B" (.int (0 : Int32))) (g_o0 : n0 ≤ o0) (V_ar : Arv Z h0 ar ka .char (2 : Int32) [(.int x0), (.int x1)] (.int (0 : Int32))) (ne_o_ar : o0 ≠ ar) (S_cs : Sta Z h0 "java/lang/String" "COMPACT_STRINGS" "Z" (.int cs)) (hcs : ¬ cs = (0 : Int32)) (hx0 : ¬ (255 : Int32) < x0) (hx1 : ¬ (255 : Int32) < x1) :
    MetFree l (⟨"java/lang/String", "<init>", "([C)V"⟩ : MethodName) (head1 (Jvm.Cond.code (⟨"java/lang/String", "<init>", "([C)V"⟩ : MethodName) jdk_42_method_3_code 2 none :: ws) ({ frames := 3, cells := 1, slots := 2, locals := 52 } : Room)) (fun a U => a = #[(.ref o0), (.ref ar)] ∧ Z.Warmed39 U.vm ∧ U.heap = h0) (fun _ _ _ _ _ => True) (fun _ U o U' => ∃ v L, o = .returned v ∧ Q1_2 Z o0 ar ka cs x0 x1 h0 n0 v U'.heap L ∧ FrameEnd U o U' L ({ frames := 3, cells := 1, slots := 2, locals := 52 } : Room).cells ({ frames := 3, cells := 1, slots := 2, locals := 52 } : Room).slots) := by
  refine MetFree.of_bodySF (plainFor_of_name pn_1) hisR ?_
  intro p e s m args below meth c s₁ Bd hml0 hP hK
  obtain ⟨rfl, hZ, hh⟩ := hP
  have hx := Bd.exec
  have hby := Bd.bytes
  have hml : c.maxLocals = 2 := hml0
  have hown : s.vm.findClass "java/lang/String" = some m.cls := findClass_of_methodNamed Bd.named
  have hnm := (name_of_methodNamed Bd.named Bd.method).1
  have X0 : Stand p l e ({ frames := 3, cells := 1, slots := 2, locals := 52 } : Room) s m #[(.ref o0), (.ref ar)] below meth c s₁ [] 0 0 := Stand.of_body Bd
  have e0 : s₁.heap = h0 := by rw [← hh, Bd.state]; rfl
  have N0 := Fr.nil n0
  obtain ⟨F, hF⟩ : ∃ F : State → Prop, F = own_Fin p e below s ({ frames := 3, cells := 1, slots := 2, locals := 52 } : Room).cells ({ frames := 3, cells := 1, slots := 2, locals := 52 } : Room).slots (fun v h L => Q1_2 Z o0 ar ka cs x0 x1 h0 n0 v h L) := ⟨_, rfl⟩
  have bk : ∀ {A B : State}, (∀ t, Steps p.tables e below B t → Steps p.tables e below A t) → F B → F A := by
    intro A B h k
    rw [hF] at k ⊢
    exact own_back h k
  suffices hgo : F (s₁.setTop (mkF m 0 #[.val (.ref o0), .val (.ref ar)] [])) by
    have hgo' := bk (fun t k => castTop (T := s₁) (ef_1 m o0 ar) k) hgo
    rw [hF] at hgo'
    exact hgo'
  show F (s₁.setTop (mkF m 0 #[.val (.ref o0), .val (.ref ar)] []))
  refine bk (fun t k => XS.aloadN X0.here hx rfl (hb hby d1_0) rfl rfl k) ?_
  show F (s₁.setTop (mkF m 1 #[.val (.ref o0), .val (.ref ar)] [(.ref o0)]))
  refine bk (fun t k => XS.aloadN X0.here hx rfl (hb hby d1_1) rfl rfl k) ?_
  show F (s₁.setTop (mkF m 2 #[.val (.ref o0), .val (.ref ar)] [(.ref ar), (.ref o0)]))
  refine bk (fun t k => XS.iconst X0.here hx rfl (hb hby d1_2) k) ?_
  show F (s₁.setTop (mkF m 3 #[.val (.ref o0), .val (.ref ar)] [(.int (0 : Int32)), (.ref ar), (.ref o0)]))
  refine bk (fun t k => XS.aloadN X0.here hx rfl (hb hby d1_3) rfl rfl k) ?_
  show F (s₁.setTop (mkF m 4 #[.val (.ref o0), .val (.ref ar)] [(.ref ar), (.int (0 : Int32)), (.ref ar), (.ref o0)]))
  have vv1 := V_ar
  obtain ⟨cl1, Ar1, q1, S1, M1, H1, G1⟩ := vv1
  refine bk (fun t k => X0.arraylength hx (by rw [e0]; exact Ar1.1) (State.isArrayOf_alike hZ.alike Ar1.2.1) (g := (mkF m 4 #[.val (.ref o0), .val (.ref ar)] [(.ref ar), (.int (0 : Int32)), (.ref ar), (.ref o0)])) rfl rfl (hb hby d1_4) t k) ?_
  rw [len_of S1 M1]
  show F (s₁.setTop (mkF m 5 #[.val (.ref o0), .val (.ref ar)] [(.int (2 : Int32)), (.int (0 : Int32)), (.ref ar), (.ref o0)]))
  refine bk (fun t k => XS.aconstNull X0.here hx rfl (hb hby d1_5) k) ?_
  show F (s₁.setTop (mkF m 6 #[.val (.ref o0), .val (.ref ar)] [.null, (.int (2 : Int32)), (.int (0 : Int32)), (.ref ar), (.ref o0)]))
  obtain ⟨_, _, ⟨T2, L2, k2, n2⟩, -, X2, ⟨Lc2, hQ2, l2, y2, z2⟩, st2⟩ := X0.specialBack hx (y := (⟨"java/lang/String", "<init>", "([CIILjava/lang/Void;)V"⟩ : MethodName)) rfl hown (mvT hZ (hw _ (List.mem_of_getElem? (i := 7) rfl))) (mvT hZ (hw _ (List.mem_of_getElem? (i := 8) rfl))) (mvT hZ (hw _ (List.mem_of_getElem? (i := 10) rfl))) (by decide) (backOf (W := 0) (rm2_2 l Z a0 hw [] o0 ar ka cs x0 x1 h0 n0 Z0 E_o0 F_v F_c g_o0 V_ar ne_o_ar S_cs hcs hx0 hx1) hZ (hw _ (List.mem_of_getElem? (i := 10) rfl)) (hw _ (List.mem_of_getElem? (i := 3) rfl)) (by decide) (by decide)) (g := (mkF m 6 #[.val (.ref o0), .val (.ref ar)] [.null, (.int (2 : Int32)), (.int (0 : Int32)), (.ref ar), (.ref o0)])) rfl (by rw [hml]; rfl) (Steps.refl _) (a := o0) (argsL := [(.ref ar), (.int (0 : Int32)), (.int (2 : Int32)), .null]) (rest := []) (lenOf pd1___CIILjava_lang_Void__V rfl) rfl (by show 2 * 0 + _ ≤ _; exact Nat.le_of_eq rfl) (hb hby d1_6) (fun _ _ => ⟨rfl, e0, (by decide : 0 + 1 ≤ _), (by decide : 0 + 2 ≤ _)⟩)
  dsimp only [Pt.U, Pt.locs, Pt.cells, Pt.slots] at X2 l2 y2 z2 st2 hQ2
  subst l2 y2 z2
  obtain ⟨rfl, N2q, K2, gE2, gC2, r2, kd2, gF2, gV2⟩ := hQ2
  have N2 := Fr.app N0 N2q
  have f3 := E_o0.keep K2
  have f4 := Nat.le_trans Z0 K2.1
  have f5 := (Keep.refl h0 [o0]).trans K2 (allS (Or.inl (List.mem_of_getElem? (i := 0) rfl)) all0)
  have f6 := V_ar.keep K2 (ninS (Ne.symm ne_o_ar) nin0)
  have f7 := own_sta1 S_cs K2 E_o0
  refine bk (fun t k => st2.trans k) ?_
  show F (T2.setTop (mkF m 9 #[.val (.ref o0), .val (.ref ar)] []))
  rw [hF]
  refine own_ret0 X2 hx Bd.notSynchronized Bd.returns (hb hby d1_9) (by decide) (by decide) ?_
  exact ⟨rfl, N2, f5, gE2, gC2, _, _, gF2, gV2⟩
def Q5_3 (Z : State) (ar : Addr) (ds : Addr) (ka : ClassId) (kd : ClassId) (x0 : Int32) (x1 : Int32) (x2 : Int32) (h0 : Heap) (n0 : Nat) (v : Option Value) (h : Heap) (L : List Loc) : Prop := v = some (.int (3 : Int32)) ∧ Fr n0 L ∧ Keep h0 h [ds] ∧ Arv Z h ds kd .byte (3 : Int32) [(.int (nar .byte (x0.toInt8.toInt32))), (.int (nar .byte (x1.toInt8.toInt32))), (.int (nar .byte (x2.toInt8.toInt32)))] (.int (0 : Int32))
set_option maxRecDepth 65536 in
set_option maxHeartbeats 40000000 in
theorem rm5_3 (l : Launch) (Z : State) (a0 : Array Value) (hw : ∀ d ∈ tables_1, d.before a0 Z = true) (ws : List Jvm.Cond) (ar : Addr) (ds : Addr) (ka : ClassId) (kd : ClassId) (x0 : Int32) (x1 : Int32) (x2 : Int32) (h0 : Heap) (n0 : Nat) (Z0 : n0 ≤ h0.size) (V_ar : Arv Z h0 ar ka .char (3 : Int32) [(.int x0), (.int x1), (.int x2)] (.int (0 : Int32))) (V_ds : Arv Z h0 ds kd .byte (3 : Int32) [(.int (0 : Int32)), (.int (0 : Int32)), (.int (0 : Int32))] (.int (0 : Int32))) (g_ds : n0 ≤ ds) (ne_ar : ar ≠ ds) (hx0 : ¬ (255 : Int32) < x0) (hx1 : ¬ (255 : Int32) < x1) (hx2 : ¬ (255 : Int32) < x2) :
    MetFree l (⟨"java/lang/StringUTF16", "compress", "([CI[BII)I"⟩ : MethodName) (head1 (Jvm.Cond.code (⟨"java/lang/StringUTF16", "compress", "([CI[BII)I"⟩ : MethodName) jdk_52_method_21_code 7 (some .int) :: ws) ({ frames := 0, cells := 0, slots := 0, locals := 0 } : Room)) (fun a U => a = #[(.ref ar), (.int (0 : Int32)), (.ref ds), (.int (0 : Int32)), (.int (3 : Int32))] ∧ Z.Warmed39 U.vm ∧ U.heap = h0) (fun _ _ _ _ _ => True) (fun _ U o U' => ∃ v L, o = .returned v ∧ Q5_3 Z ar ds ka kd x0 x1 x2 h0 n0 v U'.heap L ∧ FrameEnd U o U' L ({ frames := 0, cells := 0, slots := 0, locals := 0 } : Room).cells ({ frames := 0, cells := 0, slots := 0, locals := 0 } : Room).slots) := by
  refine MetFree.of_bodySF (plainFor_of_name pn_5) hisR ?_
  intro p e s m args below meth c s₁ Bd hml0 hP hK
  obtain ⟨rfl, hZ, hh⟩ := hP
  have hx := Bd.exec
  have hby := Bd.bytes
  have hml : c.maxLocals = 7 := hml0
  have hown : s.vm.findClass "java/lang/StringUTF16" = some m.cls := findClass_of_methodNamed Bd.named
  have hnm := (name_of_methodNamed Bd.named Bd.method).1
  have X0 : Stand p l e ({ frames := 0, cells := 0, slots := 0, locals := 0 } : Room) s m #[(.ref ar), (.int (0 : Int32)), (.ref ds), (.int (0 : Int32)), (.int (3 : Int32))] below meth c s₁ [] 0 0 := Stand.of_body Bd
  have e0 : s₁.heap = h0 := by rw [← hh, Bd.state]; rfl
  have N0 := Fr.nil n0
  obtain ⟨F, hF⟩ : ∃ F : State → Prop, F = own_Fin p e below s ({ frames := 0, cells := 0, slots := 0, locals := 0 } : Room).cells ({ frames := 0, cells := 0, slots := 0, locals := 0 } : Room).slots (fun v h L => Q5_3 Z ar ds ka kd x0 x1 x2 h0 n0 v h L) := ⟨_, rfl⟩
  have bk : ∀ {A B : State}, (∀ t, Steps p.tables e below B t → Steps p.tables e below A t) → F B → F A := by
    intro A B h k
    rw [hF] at k ⊢
    exact own_back h k
  suffices hgo : F (s₁.setTop (mkF m 0 #[.val (.ref ar), .val (.int (0 : Int32)), .val (.ref ds), .val (.int (0 : Int32)), .val (.int (3 : Int32)), .unset, .unset] [])) by
    have hgo' := bk (fun t k => castTop (T := s₁) (ef_5 m ar (0 : Int32) ds (0 : Int32) (3 : Int32)) k) hgo
    rw [hF] at hgo'
    exact hgo'
  show F (s₁.setTop (mkF m 0 #[.val (.ref ar), .val (.int (0 : Int32)), .val (.ref ds), .val (.int (0 : Int32)), .val (.int (3 : Int32)), .unset, .unset] []))
  refine bk (fun t k => XS.iconst X0.here hx rfl (hb hby d5_0) k) ?_
  show F (s₁.setTop (mkF m 1 #[.val (.ref ar), .val (.int (0 : Int32)), .val (.ref ds), .val (.int (0 : Int32)), .val (.int (3 : Int32)), .unset, .unset] [(.int (0 : Int32))]))
  refine bk (fun t k => XS.istore X0.here hx rfl (hb hby d5_1) rfl (l' := #[.val (.ref ar), .val (.int (0 : Int32)), .val (.ref ds), .val (.int (0 : Int32)), .val (.int (3 : Int32)), .val (.int (0 : Int32)), .unset]) rfl k) ?_
  show F (s₁.setTop (mkF m 3 #[.val (.ref ar), .val (.int (0 : Int32)), .val (.ref ds), .val (.int (0 : Int32)), .val (.int (3 : Int32)), .val (.int (0 : Int32)), .unset] []))
  refine bk (fun t k => XS.iload X0.here hx rfl (hb hby d5_3) rfl k) ?_
  show F (s₁.setTop (mkF m 5 #[.val (.ref ar), .val (.int (0 : Int32)), .val (.ref ds), .val (.int (0 : Int32)), .val (.int (3 : Int32)), .val (.int (0 : Int32)), .unset] [(.int (0 : Int32))]))
  refine bk (fun t k => XS.iload X0.here hx rfl (hb hby d5_5) rfl k) ?_
  show F (s₁.setTop (mkF m 7 #[.val (.ref ar), .val (.int (0 : Int32)), .val (.ref ds), .val (.int (0 : Int32)), .val (.int (3 : Int32)), .val (.int (0 : Int32)), .unset] [(.int (3 : Int32)), (.int (0 : Int32))]))
  refine bk (fun t k => XS.icmpNo X0.here hx rfl (hb hby d5_7) rfl (tlt (by decide : (0 : Int32) < (3 : Int32))).2.1 k) ?_
  show F (s₁.setTop (mkF m 10 #[.val (.ref ar), .val (.int (0 : Int32)), .val (.ref ds), .val (.int (0 : Int32)), .val (.int (3 : Int32)), .val (.int (0 : Int32)), .unset] []))
  refine bk (fun t k => XS.aloadN X0.here hx rfl (hb hby d5_10) rfl rfl k) ?_
  show F (s₁.setTop (mkF m 11 #[.val (.ref ar), .val (.int (0 : Int32)), .val (.ref ds), .val (.int (0 : Int32)), .val (.int (3 : Int32)), .val (.int (0 : Int32)), .unset] [(.ref ar)]))
  refine bk (fun t k => XS.iloadN X0.here hx rfl (hb hby d5_11) rfl k) ?_
  show F (s₁.setTop (mkF m 12 #[.val (.ref ar), .val (.int (0 : Int32)), .val (.ref ds), .val (.int (0 : Int32)), .val (.int (3 : Int32)), .val (.int (0 : Int32)), .unset] [(.int (0 : Int32)), (.ref ar)]))
  have vv1 := V_ar
  obtain ⟨cl1, Ar1, q1, S1, M1, H1, G1⟩ := vv1
  have hin1 : ¬ ((0 : Int32) < 0 ∨ cl1.slots.size ≤ ((0 : Int32)).toNatClampNeg) := inb_of S1 ⟨by decide, by decide⟩
  refine bk (fun t k => X0.caload hx (j := (0 : Int32)) (v := (.int x0)) (by rw [e0]; exact Ar1.1) (State.isArrayOf_alike hZ.alike Ar1.2.1) Ar1.2.2 hin1 (Has.at H1 hin1 rfl) (g := (mkF m 12 #[.val (.ref ar), .val (.int (0 : Int32)), .val (.ref ds), .val (.int (0 : Int32)), .val (.int (3 : Int32)), .val (.int (0 : Int32)), .unset] [(.int (0 : Int32)), (.ref ar)])) rfl rfl (hb hby d5_12) t k) ?_
  show F (s₁.setTop (mkF m 13 #[.val (.ref ar), .val (.int (0 : Int32)), .val (.ref ds), .val (.int (0 : Int32)), .val (.int (3 : Int32)), .val (.int (0 : Int32)), .unset] [(.int x0)]))
  refine bk (fun t k => XS.istore X0.here hx rfl (hb hby d5_13) rfl (l' := #[.val (.ref ar), .val (.int (0 : Int32)), .val (.ref ds), .val (.int (0 : Int32)), .val (.int (3 : Int32)), .val (.int (0 : Int32)), .val (.int x0)]) rfl k) ?_
  show F (s₁.setTop (mkF m 15 #[.val (.ref ar), .val (.int (0 : Int32)), .val (.ref ds), .val (.int (0 : Int32)), .val (.int (3 : Int32)), .val (.int (0 : Int32)), .val (.int x0)] []))
  refine bk (fun t k => XS.iload X0.here hx rfl (hb hby d5_15) rfl k) ?_
  show F (s₁.setTop (mkF m 17 #[.val (.ref ar), .val (.int (0 : Int32)), .val (.ref ds), .val (.int (0 : Int32)), .val (.int (3 : Int32)), .val (.int (0 : Int32)), .val (.int x0)] [(.int x0)]))
  refine bk (fun t k => XS.sipush X0.here hx rfl (hb hby d5_17) k) ?_
  show F (s₁.setTop (mkF m 20 #[.val (.ref ar), .val (.int (0 : Int32)), .val (.ref ds), .val (.int (0 : Int32)), .val (.int (3 : Int32)), .val (.int (0 : Int32)), .val (.int x0)] [(.int (255 : Int32)), (.int x0)]))
  refine bk (fun t k => XS.icmpYes X0.here hx rfl (pc0 := 20) (pc' := 26) rfl (hb hby d5_20) rfl (flt hx0).2.2.2 (by decide) (by decide) k) ?_
  show F (s₁.setTop (mkF m 26 #[.val (.ref ar), .val (.int (0 : Int32)), .val (.ref ds), .val (.int (0 : Int32)), .val (.int (3 : Int32)), .val (.int (0 : Int32)), .val (.int x0)] []))
  refine bk (fun t k => XS.aloadN X0.here hx rfl (hb hby d5_26) rfl rfl k) ?_
  show F (s₁.setTop (mkF m 27 #[.val (.ref ar), .val (.int (0 : Int32)), .val (.ref ds), .val (.int (0 : Int32)), .val (.int (3 : Int32)), .val (.int (0 : Int32)), .val (.int x0)] [(.ref ds)]))
  refine bk (fun t k => XS.iloadN X0.here hx rfl (hb hby d5_27) rfl k) ?_
  show F (s₁.setTop (mkF m 28 #[.val (.ref ar), .val (.int (0 : Int32)), .val (.ref ds), .val (.int (0 : Int32)), .val (.int (3 : Int32)), .val (.int (0 : Int32)), .val (.int x0)] [(.int (0 : Int32)), (.ref ds)]))
  refine bk (fun t k => XS.iload X0.here hx rfl (hb hby d5_28) rfl k) ?_
  show F (s₁.setTop (mkF m 30 #[.val (.ref ar), .val (.int (0 : Int32)), .val (.ref ds), .val (.int (0 : Int32)), .val (.int (3 : Int32)), .val (.int (0 : Int32)), .val (.int x0)] [(.int x0), (.int (0 : Int32)), (.ref ds)]))
  refine bk (fun t k => XS.i2b X0.here hx rfl (hb hby d5_30) rfl k) ?_
  show F (s₁.setTop (mkF m 31 #[.val (.ref ar), .val (.int (0 : Int32)), .val (.ref ds), .val (.int (0 : Int32)), .val (.int (3 : Int32)), .val (.int (0 : Int32)), .val (.int x0)] [(.int (x0.toInt8.toInt32)), (.int (0 : Int32)), (.ref ds)]))
  have vv2 := V_ds
  obtain ⟨cl2, Ar2, q2, S2, M2, H2, G2⟩ := vv2
  have hin2 : ¬ ((0 : Int32) < 0 ∨ cl2.slots.size ≤ ((0 : Int32)).toNatClampNeg) := inb_of S2 ⟨by decide, by decide⟩
  obtain ⟨T2, h2, X2, e2, W2, st2⟩ := stB X0 hx hZ e0 Ar2 (j := (0 : Int32)) hin2 (g := (mkF m 31 #[.val (.ref ar), .val (.int (0 : Int32)), .val (.ref ds), .val (.int (0 : Int32)), .val (.int (3 : Int32)), .val (.int (0 : Int32)), .val (.int x0)] [(.int (x0.toInt8.toInt32)), (.int (0 : Int32)), (.ref ds)])) rfl rfl (hb hby d5_31)
  have V_ds_2 : Arv Z h2 ds kd .byte (3 : Int32) [(.int (nar .byte (x0.toInt8.toInt32))), (.int (0 : Int32)), (.int (0 : Int32))] (.int (0 : Int32)) := Arv.set Ar2 q2 S2 M2 H2 G2 (fits_nar_byte _) W2 0 rfl (Nat.le_of_ble_eq_true rfl)
  have f3 := V_ar.other W2 ne_ar
  have f4 := Nat.le_trans Z0 (Keep.of_wr W2).1
  have f5 := (Keep.refl h0 [ds]).wr W2 (Or.inl (List.mem_of_getElem? (i := 0) rfl))
  have N2 := Fr.snoc X2 N0 g_ds
  refine bk (fun t k => st2 t k) ?_
  show F (T2.setTop (mkF m 32 #[.val (.ref ar), .val (.int (0 : Int32)), .val (.ref ds), .val (.int (0 : Int32)), .val (.int (3 : Int32)), .val (.int (0 : Int32)), .val (.int x0)] []))
  refine bk (fun t k => XS.iinc X2.here hx rfl (hb hby d5_32) rfl (l' := #[.val (.ref ar), .val (.int (1 : Int32)), .val (.ref ds), .val (.int (0 : Int32)), .val (.int (3 : Int32)), .val (.int (0 : Int32)), .val (.int x0)]) rfl k) ?_
  show F (T2.setTop (mkF m 35 #[.val (.ref ar), .val (.int (1 : Int32)), .val (.ref ds), .val (.int (0 : Int32)), .val (.int (3 : Int32)), .val (.int (0 : Int32)), .val (.int x0)] []))
  refine bk (fun t k => XS.iinc X2.here hx rfl (hb hby d5_35) rfl (l' := #[.val (.ref ar), .val (.int (1 : Int32)), .val (.ref ds), .val (.int (1 : Int32)), .val (.int (3 : Int32)), .val (.int (0 : Int32)), .val (.int x0)]) rfl k) ?_
  show F (T2.setTop (mkF m 38 #[.val (.ref ar), .val (.int (1 : Int32)), .val (.ref ds), .val (.int (1 : Int32)), .val (.int (3 : Int32)), .val (.int (0 : Int32)), .val (.int x0)] []))
  refine bk (fun t k => XS.iinc X2.here hx rfl (hb hby d5_38) rfl (l' := #[.val (.ref ar), .val (.int (1 : Int32)), .val (.ref ds), .val (.int (1 : Int32)), .val (.int (3 : Int32)), .val (.int (1 : Int32)), .val (.int x0)]) rfl k) ?_
  show F (T2.setTop (mkF m 41 #[.val (.ref ar), .val (.int (1 : Int32)), .val (.ref ds), .val (.int (1 : Int32)), .val (.int (3 : Int32)), .val (.int (1 : Int32)), .val (.int x0)] []))
  refine bk (fun t k => XS.goto X2.here hx rfl (pc0 := 41) (pc' := 3) rfl (hb hby d5_41) (by decide) (by decide) k) ?_
  show F (T2.setTop (mkF m 3 #[.val (.ref ar), .val (.int (1 : Int32)), .val (.ref ds), .val (.int (1 : Int32)), .val (.int (3 : Int32)), .val (.int (1 : Int32)), .val (.int x0)] []))
  refine bk (fun t k => XS.iload X2.here hx rfl (hb hby d5_3) rfl k) ?_
  show F (T2.setTop (mkF m 5 #[.val (.ref ar), .val (.int (1 : Int32)), .val (.ref ds), .val (.int (1 : Int32)), .val (.int (3 : Int32)), .val (.int (1 : Int32)), .val (.int x0)] [(.int (1 : Int32))]))
  refine bk (fun t k => XS.iload X2.here hx rfl (hb hby d5_5) rfl k) ?_
  show F (T2.setTop (mkF m 7 #[.val (.ref ar), .val (.int (1 : Int32)), .val (.ref ds), .val (.int (1 : Int32)), .val (.int (3 : Int32)), .val (.int (1 : Int32)), .val (.int x0)] [(.int (3 : Int32)), (.int (1 : Int32))]))
  refine bk (fun t k => XS.icmpNo X2.here hx rfl (hb hby d5_7) rfl (tlt (by decide : (1 : Int32) < (3 : Int32))).2.1 k) ?_
  show F (T2.setTop (mkF m 10 #[.val (.ref ar), .val (.int (1 : Int32)), .val (.ref ds), .val (.int (1 : Int32)), .val (.int (3 : Int32)), .val (.int (1 : Int32)), .val (.int x0)] []))
  refine bk (fun t k => XS.aloadN X2.here hx rfl (hb hby d5_10) rfl rfl k) ?_
  show F (T2.setTop (mkF m 11 #[.val (.ref ar), .val (.int (1 : Int32)), .val (.ref ds), .val (.int (1 : Int32)), .val (.int (3 : Int32)), .val (.int (1 : Int32)), .val (.int x0)] [(.ref ar)]))
  refine bk (fun t k => XS.iloadN X2.here hx rfl (hb hby d5_11) rfl k) ?_
  show F (T2.setTop (mkF m 12 #[.val (.ref ar), .val (.int (1 : Int32)), .val (.ref ds), .val (.int (1 : Int32)), .val (.int (3 : Int32)), .val (.int (1 : Int32)), .val (.int x0)] [(.int (1 : Int32)), (.ref ar)]))
  have vv6 := f3
  obtain ⟨cl6, Ar6, q6, S6, M6, H6, G6⟩ := vv6
  have hin6 : ¬ ((1 : Int32) < 0 ∨ cl6.slots.size ≤ ((1 : Int32)).toNatClampNeg) := inb_of S6 ⟨by decide, by decide⟩
  refine bk (fun t k => X2.caload hx (j := (1 : Int32)) (v := (.int x1)) (by rw [e2]; exact Ar6.1) (State.isArrayOf_alike hZ.alike Ar6.2.1) Ar6.2.2 hin6 (Has.at H6 hin6 rfl) (g := (mkF m 12 #[.val (.ref ar), .val (.int (1 : Int32)), .val (.ref ds), .val (.int (1 : Int32)), .val (.int (3 : Int32)), .val (.int (1 : Int32)), .val (.int x0)] [(.int (1 : Int32)), (.ref ar)])) rfl rfl (hb hby d5_12) t k) ?_
  show F (T2.setTop (mkF m 13 #[.val (.ref ar), .val (.int (1 : Int32)), .val (.ref ds), .val (.int (1 : Int32)), .val (.int (3 : Int32)), .val (.int (1 : Int32)), .val (.int x0)] [(.int x1)]))
  refine bk (fun t k => XS.istore X2.here hx rfl (hb hby d5_13) rfl (l' := #[.val (.ref ar), .val (.int (1 : Int32)), .val (.ref ds), .val (.int (1 : Int32)), .val (.int (3 : Int32)), .val (.int (1 : Int32)), .val (.int x1)]) rfl k) ?_
  show F (T2.setTop (mkF m 15 #[.val (.ref ar), .val (.int (1 : Int32)), .val (.ref ds), .val (.int (1 : Int32)), .val (.int (3 : Int32)), .val (.int (1 : Int32)), .val (.int x1)] []))
  refine bk (fun t k => XS.iload X2.here hx rfl (hb hby d5_15) rfl k) ?_
  show F (T2.setTop (mkF m 17 #[.val (.ref ar), .val (.int (1 : Int32)), .val (.ref ds), .val (.int (1 : Int32)), .val (.int (3 : Int32)), .val (.int (1 : Int32)), .val (.int x1)] [(.int x1)]))
  refine bk (fun t k => XS.sipush X2.here hx rfl (hb hby d5_17) k) ?_
  show F (T2.setTop (mkF m 20 #[.val (.ref ar), .val (.int (1 : Int32)), .val (.ref ds), .val (.int (1 : Int32)), .val (.int (3 : Int32)), .val (.int (1 : Int32)), .val (.int x1)] [(.int (255 : Int32)), (.int x1)]))
  refine bk (fun t k => XS.icmpYes X2.here hx rfl (pc0 := 20) (pc' := 26) rfl (hb hby d5_20) rfl (flt hx1).2.2.2 (by decide) (by decide) k) ?_
  show F (T2.setTop (mkF m 26 #[.val (.ref ar), .val (.int (1 : Int32)), .val (.ref ds), .val (.int (1 : Int32)), .val (.int (3 : Int32)), .val (.int (1 : Int32)), .val (.int x1)] []))
  refine bk (fun t k => XS.aloadN X2.here hx rfl (hb hby d5_26) rfl rfl k) ?_
  show F (T2.setTop (mkF m 27 #[.val (.ref ar), .val (.int (1 : Int32)), .val (.ref ds), .val (.int (1 : Int32)), .val (.int (3 : Int32)), .val (.int (1 : Int32)), .val (.int x1)] [(.ref ds)]))
  refine bk (fun t k => XS.iloadN X2.here hx rfl (hb hby d5_27) rfl k) ?_
  show F (T2.setTop (mkF m 28 #[.val (.ref ar), .val (.int (1 : Int32)), .val (.ref ds), .val (.int (1 : Int32)), .val (.int (3 : Int32)), .val (.int (1 : Int32)), .val (.int x1)] [(.int (1 : Int32)), (.ref ds)]))
  refine bk (fun t k => XS.iload X2.here hx rfl (hb hby d5_28) rfl k) ?_
  show F (T2.setTop (mkF m 30 #[.val (.ref ar), .val (.int (1 : Int32)), .val (.ref ds), .val (.int (1 : Int32)), .val (.int (3 : Int32)), .val (.int (1 : Int32)), .val (.int x1)] [(.int x1), (.int (1 : Int32)), (.ref ds)]))
  refine bk (fun t k => XS.i2b X2.here hx rfl (hb hby d5_30) rfl k) ?_
  show F (T2.setTop (mkF m 31 #[.val (.ref ar), .val (.int (1 : Int32)), .val (.ref ds), .val (.int (1 : Int32)), .val (.int (3 : Int32)), .val (.int (1 : Int32)), .val (.int x1)] [(.int (x1.toInt8.toInt32)), (.int (1 : Int32)), (.ref ds)]))
  have vv7 := V_ds_2
  obtain ⟨cl7, Ar7, q7, S7, M7, H7, G7⟩ := vv7
  have hin7 : ¬ ((1 : Int32) < 0 ∨ cl7.slots.size ≤ ((1 : Int32)).toNatClampNeg) := inb_of S7 ⟨by decide, by decide⟩
  obtain ⟨T7, h7, X7, e7, W7, st7⟩ := stB X2 hx hZ e2 Ar7 (j := (1 : Int32)) hin7 (g := (mkF m 31 #[.val (.ref ar), .val (.int (1 : Int32)), .val (.ref ds), .val (.int (1 : Int32)), .val (.int (3 : Int32)), .val (.int (1 : Int32)), .val (.int x1)] [(.int (x1.toInt8.toInt32)), (.int (1 : Int32)), (.ref ds)])) rfl rfl (hb hby d5_31)
  have V_ds_7 : Arv Z h7 ds kd .byte (3 : Int32) [(.int (nar .byte (x0.toInt8.toInt32))), (.int (nar .byte (x1.toInt8.toInt32))), (.int (0 : Int32))] (.int (0 : Int32)) := Arv.set Ar7 q7 S7 M7 H7 G7 (fits_nar_byte _) W7 1 rfl (Nat.le_of_ble_eq_true rfl)
  have f8 := f3.other W7 ne_ar
  have f9 := Nat.le_trans f4 (Keep.of_wr W7).1
  have f10 := f5.wr W7 (Or.inl (List.mem_of_getElem? (i := 0) rfl))
  have N7 := Fr.snoc X7 N2 g_ds
  refine bk (fun t k => st7 t k) ?_
  show F (T7.setTop (mkF m 32 #[.val (.ref ar), .val (.int (1 : Int32)), .val (.ref ds), .val (.int (1 : Int32)), .val (.int (3 : Int32)), .val (.int (1 : Int32)), .val (.int x1)] []))
  refine bk (fun t k => XS.iinc X7.here hx rfl (hb hby d5_32) rfl (l' := #[.val (.ref ar), .val (.int (2 : Int32)), .val (.ref ds), .val (.int (1 : Int32)), .val (.int (3 : Int32)), .val (.int (1 : Int32)), .val (.int x1)]) rfl k) ?_
  show F (T7.setTop (mkF m 35 #[.val (.ref ar), .val (.int (2 : Int32)), .val (.ref ds), .val (.int (1 : Int32)), .val (.int (3 : Int32)), .val (.int (1 : Int32)), .val (.int x1)] []))
  refine bk (fun t k => XS.iinc X7.here hx rfl (hb hby d5_35) rfl (l' := #[.val (.ref ar), .val (.int (2 : Int32)), .val (.ref ds), .val (.int (2 : Int32)), .val (.int (3 : Int32)), .val (.int (1 : Int32)), .val (.int x1)]) rfl k) ?_
  show F (T7.setTop (mkF m 38 #[.val (.ref ar), .val (.int (2 : Int32)), .val (.ref ds), .val (.int (2 : Int32)), .val (.int (3 : Int32)), .val (.int (1 : Int32)), .val (.int x1)] []))
  refine bk (fun t k => XS.iinc X7.here hx rfl (hb hby d5_38) rfl (l' := #[.val (.ref ar), .val (.int (2 : Int32)), .val (.ref ds), .val (.int (2 : Int32)), .val (.int (3 : Int32)), .val (.int (2 : Int32)), .val (.int x1)]) rfl k) ?_
  show F (T7.setTop (mkF m 41 #[.val (.ref ar), .val (.int (2 : Int32)), .val (.ref ds), .val (.int (2 : Int32)), .val (.int (3 : Int32)), .val (.int (2 : Int32)), .val (.int x1)] []))
  refine bk (fun t k => XS.goto X7.here hx rfl (pc0 := 41) (pc' := 3) rfl (hb hby d5_41) (by decide) (by decide) k) ?_
  show F (T7.setTop (mkF m 3 #[.val (.ref ar), .val (.int (2 : Int32)), .val (.ref ds), .val (.int (2 : Int32)), .val (.int (3 : Int32)), .val (.int (2 : Int32)), .val (.int x1)] []))
  refine bk (fun t k => XS.iload X7.here hx rfl (hb hby d5_3) rfl k) ?_
  show F (T7.setTop (mkF m 5 #[.val (.ref ar), .val (.int (2 : Int32)), .val (.ref ds), .val (.int (2 : Int32)), .val (.int (3 : Int32)), .val (.int (2 : Int32)), .val (.int x1)] [(.int (2 : Int32))]))
  refine bk (fun t k => XS.iload X7.here hx rfl (hb hby d5_5) rfl k) ?_
  show F (T7.setTop (mkF m 7 #[.val (.ref ar), .val (.int (2 : Int32)), .val (.ref ds), .val (.int (2 : Int32)), .val (.int (3 : Int32)), .val (.int (2 : Int32)), .val (.int x1)] [(.int (3 : Int32)), (.int (2 : Int32))]))
  refine bk (fun t k => XS.icmpNo X7.here hx rfl (hb hby d5_7) rfl (tlt (by decide : (2 : Int32) < (3 : Int32))).2.1 k) ?_
  show F (T7.setTop (mkF m 10 #[.val (.ref ar), .val (.int (2 : Int32)), .val (.ref ds), .val (.int (2 : Int32)), .val (.int (3 : Int32)), .val (.int (2 : Int32)), .val (.int x1)] []))
  refine bk (fun t k => XS.aloadN X7.here hx rfl (hb hby d5_10) rfl rfl k) ?_
  show F (T7.setTop (mkF m 11 #[.val (.ref ar), .val (.int (2 : Int32)), .val (.ref ds), .val (.int (2 : Int32)), .val (.int (3 : Int32)), .val (.int (2 : Int32)), .val (.int x1)] [(.ref ar)]))
  refine bk (fun t k => XS.iloadN X7.here hx rfl (hb hby d5_11) rfl k) ?_
  show F (T7.setTop (mkF m 12 #[.val (.ref ar), .val (.int (2 : Int32)), .val (.ref ds), .val (.int (2 : Int32)), .val (.int (3 : Int32)), .val (.int (2 : Int32)), .val (.int x1)] [(.int (2 : Int32)), (.ref ar)]))
  have vv11 := f8
  obtain ⟨cl11, Ar11, q11, S11, M11, H11, G11⟩ := vv11
  have hin11 : ¬ ((2 : Int32) < 0 ∨ cl11.slots.size ≤ ((2 : Int32)).toNatClampNeg) := inb_of S11 ⟨by decide, by decide⟩
  refine bk (fun t k => X7.caload hx (j := (2 : Int32)) (v := (.int x2)) (by rw [e7]; exact Ar11.1) (State.isArrayOf_alike hZ.alike Ar11.2.1) Ar11.2.2 hin11 (Has.at H11 hin11 rfl) (g := (mkF m 12 #[.val (.ref ar), .val (.int (2 : Int32)), .val (.ref ds), .val (.int (2 : Int32)), .val (.int (3 : Int32)), .val (.int (2 : Int32)), .val (.int x1)] [(.int (2 : Int32)), (.ref ar)])) rfl rfl (hb hby d5_12) t k) ?_
  show F (T7.setTop (mkF m 13 #[.val (.ref ar), .val (.int (2 : Int32)), .val (.ref ds), .val (.int (2 : Int32)), .val (.int (3 : Int32)), .val (.int (2 : Int32)), .val (.int x1)] [(.int x2)]))
  refine bk (fun t k => XS.istore X7.here hx rfl (hb hby d5_13) rfl (l' := #[.val (.ref ar), .val (.int (2 : Int32)), .val (.ref ds), .val (.int (2 : Int32)), .val (.int (3 : Int32)), .val (.int (2 : Int32)), .val (.int x2)]) rfl k) ?_
  show F (T7.setTop (mkF m 15 #[.val (.ref ar), .val (.int (2 : Int32)), .val (.ref ds), .val (.int (2 : Int32)), .val (.int (3 : Int32)), .val (.int (2 : Int32)), .val (.int x2)] []))
  refine bk (fun t k => XS.iload X7.here hx rfl (hb hby d5_15) rfl k) ?_
  show F (T7.setTop (mkF m 17 #[.val (.ref ar), .val (.int (2 : Int32)), .val (.ref ds), .val (.int (2 : Int32)), .val (.int (3 : Int32)), .val (.int (2 : Int32)), .val (.int x2)] [(.int x2)]))
  refine bk (fun t k => XS.sipush X7.here hx rfl (hb hby d5_17) k) ?_
  show F (T7.setTop (mkF m 20 #[.val (.ref ar), .val (.int (2 : Int32)), .val (.ref ds), .val (.int (2 : Int32)), .val (.int (3 : Int32)), .val (.int (2 : Int32)), .val (.int x2)] [(.int (255 : Int32)), (.int x2)]))
  refine bk (fun t k => XS.icmpYes X7.here hx rfl (pc0 := 20) (pc' := 26) rfl (hb hby d5_20) rfl (flt hx2).2.2.2 (by decide) (by decide) k) ?_
  show F (T7.setTop (mkF m 26 #[.val (.ref ar), .val (.int (2 : Int32)), .val (.ref ds), .val (.int (2 : Int32)), .val (.int (3 : Int32)), .val (.int (2 : Int32)), .val (.int x2)] []))
  refine bk (fun t k => XS.aloadN X7.here hx rfl (hb hby d5_26) rfl rfl k) ?_
  show F (T7.setTop (mkF m 27 #[.val (.ref ar), .val (.int (2 : Int32)), .val (.ref ds), .val (.int (2 : Int32)), .val (.int (3 : Int32)), .val (.int (2 : Int32)), .val (.int x2)] [(.ref ds)]))
  refine bk (fun t k => XS.iloadN X7.here hx rfl (hb hby d5_27) rfl k) ?_
  show F (T7.setTop (mkF m 28 #[.val (.ref ar), .val (.int (2 : Int32)), .val (.ref ds), .val (.int (2 : Int32)), .val (.int (3 : Int32)), .val (.int (2 : Int32)), .val (.int x2)] [(.int (2 : Int32)), (.ref ds)]))
  refine bk (fun t k => XS.iload X7.here hx rfl (hb hby d5_28) rfl k) ?_
  show F (T7.setTop (mkF m 30 #[.val (.ref ar), .val (.int (2 : Int32)), .val (.ref ds), .val (.int (2 : Int32)), .val (.int (3 : Int32)), .val (.int (2 : Int32)), .val (.int x2)] [(.int x2), (.int (2 : Int32)), (.ref ds)]))
  refine bk (fun t k => XS.i2b X7.here hx rfl (hb hby d5_30) rfl k) ?_
  show F (T7.setTop (mkF m 31 #[.val (.ref ar), .val (.int (2 : Int32)), .val (.ref ds), .val (.int (2 : Int32)), .val (.int (3 : Int32)), .val (.int (2 : Int32)), .val (.int x2)] [(.int (x2.toInt8.toInt32)), (.int (2 : Int32)), (.ref ds)]))
  have vv12 := V_ds_7
  obtain ⟨cl12, Ar12, q12, S12, M12, H12, G12⟩ := vv12
  have hin12 : ¬ ((2 : Int32) < 0 ∨ cl12.slots.size ≤ ((2 : Int32)).toNatClampNeg) := inb_of S12 ⟨by decide, by decide⟩
  obtain ⟨T12, h12, X12, e12, W12, st12⟩ := stB X7 hx hZ e7 Ar12 (j := (2 : Int32)) hin12 (g := (mkF m 31 #[.val (.ref ar), .val (.int (2 : Int32)), .val (.ref ds), .val (.int (2 : Int32)), .val (.int (3 : Int32)), .val (.int (2 : Int32)), .val (.int x2)] [(.int (x2.toInt8.toInt32)), (.int (2 : Int32)), (.ref ds)])) rfl rfl (hb hby d5_31)
  have V_ds_12 : Arv Z h12 ds kd .byte (3 : Int32) [(.int (nar .byte (x0.toInt8.toInt32))), (.int (nar .byte (x1.toInt8.toInt32))), (.int (nar .byte (x2.toInt8.toInt32)))] (.int (0 : Int32)) := Arv.set Ar12 q12 S12 M12 H12 G12 (fits_nar_byte _) W12 2 rfl (Nat.le_of_ble_eq_true rfl)
  have f13 := f8.other W12 ne_ar
  have f14 := Nat.le_trans f9 (Keep.of_wr W12).1
  have f15 := f10.wr W12 (Or.inl (List.mem_of_getElem? (i := 0) rfl))
  have N12 := Fr.snoc X12 N7 g_ds
  refine bk (fun t k => st12 t k) ?_
  show F (T12.setTop (mkF m 32 #[.val (.ref ar), .val (.int (2 : Int32)), .val (.ref ds), .val (.int (2 : Int32)), .val (.int (3 : Int32)), .val (.int (2 : Int32)), .val (.int x2)] []))
  refine bk (fun t k => XS.iinc X12.here hx rfl (hb hby d5_32) rfl (l' := #[.val (.ref ar), .val (.int (3 : Int32)), .val (.ref ds), .val (.int (2 : Int32)), .val (.int (3 : Int32)), .val (.int (2 : Int32)), .val (.int x2)]) rfl k) ?_
  show F (T12.setTop (mkF m 35 #[.val (.ref ar), .val (.int (3 : Int32)), .val (.ref ds), .val (.int (2 : Int32)), .val (.int (3 : Int32)), .val (.int (2 : Int32)), .val (.int x2)] []))
  refine bk (fun t k => XS.iinc X12.here hx rfl (hb hby d5_35) rfl (l' := #[.val (.ref ar), .val (.int (3 : Int32)), .val (.ref ds), .val (.int (3 : Int32)), .val (.int (3 : Int32)), .val (.int (2 : Int32)), .val (.int x2)]) rfl k) ?_
  show F (T12.setTop (mkF m 38 #[.val (.ref ar), .val (.int (3 : Int32)), .val (.ref ds), .val (.int (3 : Int32)), .val (.int (3 : Int32)), .val (.int (2 : Int32)), .val (.int x2)] []))
  refine bk (fun t k => XS.iinc X12.here hx rfl (hb hby d5_38) rfl (l' := #[.val (.ref ar), .val (.int (3 : Int32)), .val (.ref ds), .val (.int (3 : Int32)), .val (.int (3 : Int32)), .val (.int (3 : Int32)), .val (.int x2)]) rfl k) ?_
  show F (T12.setTop (mkF m 41 #[.val (.ref ar), .val (.int (3 : Int32)), .val (.ref ds), .val (.int (3 : Int32)), .val (.int (3 : Int32)), .val (.int (3 : Int32)), .val (.int x2)] []))
  refine bk (fun t k => XS.goto X12.here hx rfl (pc0 := 41) (pc' := 3) rfl (hb hby d5_41) (by decide) (by decide) k) ?_
  show F (T12.setTop (mkF m 3 #[.val (.ref ar), .val (.int (3 : Int32)), .val (.ref ds), .val (.int (3 : Int32)), .val (.int (3 : Int32)), .val (.int (3 : Int32)), .val (.int x2)] []))
  refine bk (fun t k => XS.iload X12.here hx rfl (hb hby d5_3) rfl k) ?_
  show F (T12.setTop (mkF m 5 #[.val (.ref ar), .val (.int (3 : Int32)), .val (.ref ds), .val (.int (3 : Int32)), .val (.int (3 : Int32)), .val (.int (3 : Int32)), .val (.int x2)] [(.int (3 : Int32))]))
  refine bk (fun t k => XS.iload X12.here hx rfl (hb hby d5_5) rfl k) ?_
  show F (T12.setTop (mkF m 7 #[.val (.ref ar), .val (.int (3 : Int32)), .val (.ref ds), .val (.int (3 : Int32)), .val (.int (3 : Int32)), .val (.int (3 : Int32)), .val (.int x2)] [(.int (3 : Int32)), (.int (3 : Int32))]))
  refine bk (fun t k => XS.icmpYes X12.here hx rfl (pc0 := 7) (pc' := 44) rfl (hb hby d5_7) rfl (flt (by decide : ¬ ((3 : Int32) < (3 : Int32)))).2.1 (by decide) (by decide) k) ?_
  show F (T12.setTop (mkF m 44 #[.val (.ref ar), .val (.int (3 : Int32)), .val (.ref ds), .val (.int (3 : Int32)), .val (.int (3 : Int32)), .val (.int (3 : Int32)), .val (.int x2)] []))
  refine bk (fun t k => XS.iload X12.here hx rfl (hb hby d5_44) rfl k) ?_
  show F (T12.setTop (mkF m 46 #[.val (.ref ar), .val (.int (3 : Int32)), .val (.ref ds), .val (.int (3 : Int32)), .val (.int (3 : Int32)), .val (.int (3 : Int32)), .val (.int x2)] [(.int (3 : Int32))]))
  rw [hF]
  refine own_retI X12 hx Bd.notSynchronized Bd.returns (hb hby d5_46) (by decide) (by decide) ?_
  rw [e12]
  exact ⟨rfl, N12, f15, V_ds_12⟩
def Q4_3 (Z : State) (ar : Addr) (ka : ClassId) (x0 : Int32) (x1 : Int32) (x2 : Int32) (h0 : Heap) (n0 : Nat) (v : Option Value) (h : Heap) (L : List Loc) : Prop := ∃ (r : Addr) (kd : ClassId), v = some (.ref r) ∧ Fr n0 L ∧ Keep h0 h [] ∧ Arv Z h r kd .byte (3 : Int32) [(.int (nar .byte (x0.toInt8.toInt32))), (.int (nar .byte (x1.toInt8.toInt32))), (.int (nar .byte (x2.toInt8.toInt32)))] (.int (0 : Int32)) ∧ n0 ≤ r
set_option maxRecDepth 65536 in
set_option maxHeartbeats 40000000 in
theorem rm4_3 (l : Launch) (Z : State) (a0 : Array Value) (hw : ∀ d ∈ tables_1, d.before a0 Z = true) (ws : List Jvm.Cond) (ar : Addr) (ka : ClassId) (x0 : Int32) (x1 : Int32) (x2 : Int32) (h0 : Heap) (n0 : Nat) (Z0 : n0 ≤ h0.size) (V_ar : Arv Z h0 ar ka .char (3 : Int32) [(.int x0), (.int x1), (.int x2)] (.int (0 : Int32))) (hx0 : ¬ (255 : Int32) < x0) (hx1 : ¬ (255 : Int32) < x1) (hx2 : ¬ (255 : Int32) < x2) :
    MetFree l (⟨"java/lang/StringUTF16", "compress", "([CII)[B"⟩ : MethodName) (head1 (Jvm.Cond.code (⟨"java/lang/StringUTF16", "compress", "([CII)[B"⟩ : MethodName) jdk_52_method_16_code 6 (some (.array .byte)) :: ws) ({ frames := 1, cells := 1, slots := 3, locals := 18 } : Room)) (fun a U => a = #[(.ref ar), (.int (0 : Int32)), (.int (3 : Int32))] ∧ Z.Warmed39 U.vm ∧ U.heap = h0) (fun _ _ _ _ _ => True) (fun _ U o U' => ∃ v L, o = .returned v ∧ Q4_3 Z ar ka x0 x1 x2 h0 n0 v U'.heap L ∧ FrameEnd U o U' L ({ frames := 1, cells := 1, slots := 3, locals := 18 } : Room).cells ({ frames := 1, cells := 1, slots := 3, locals := 18 } : Room).slots) := by
  refine MetFree.of_bodySF (plainFor_of_name pn_4) hisR ?_
  intro p e s m args below meth c s₁ Bd hml0 hP hK
  obtain ⟨rfl, hZ, hh⟩ := hP
  have hx := Bd.exec
  have hby := Bd.bytes
  have hml : c.maxLocals = 6 := hml0
  have hown : s.vm.findClass "java/lang/StringUTF16" = some m.cls := findClass_of_methodNamed Bd.named
  have hnm := (name_of_methodNamed Bd.named Bd.method).1
  have X0 : Stand p l e ({ frames := 1, cells := 1, slots := 3, locals := 18 } : Room) s m #[(.ref ar), (.int (0 : Int32)), (.int (3 : Int32))] below meth c s₁ [] 0 0 := Stand.of_body Bd
  have e0 : s₁.heap = h0 := by rw [← hh, Bd.state]; rfl
  have N0 := Fr.nil n0
  obtain ⟨F, hF⟩ : ∃ F : State → Prop, F = own_Fin p e below s ({ frames := 1, cells := 1, slots := 3, locals := 18 } : Room).cells ({ frames := 1, cells := 1, slots := 3, locals := 18 } : Room).slots (fun v h L => Q4_3 Z ar ka x0 x1 x2 h0 n0 v h L) := ⟨_, rfl⟩
  have bk : ∀ {A B : State}, (∀ t, Steps p.tables e below B t → Steps p.tables e below A t) → F B → F A := by
    intro A B h k
    rw [hF] at k ⊢
    exact own_back h k
  suffices hgo : F (s₁.setTop (mkF m 0 #[.val (.ref ar), .val (.int (0 : Int32)), .val (.int (3 : Int32)), .unset, .unset, .unset] [])) by
    have hgo' := bk (fun t k => castTop (T := s₁) (ef_4 m ar (0 : Int32) (3 : Int32)) k) hgo
    rw [hF] at hgo'
    exact hgo'
  show F (s₁.setTop (mkF m 0 #[.val (.ref ar), .val (.int (0 : Int32)), .val (.int (3 : Int32)), .unset, .unset, .unset] []))
  refine bk (fun t k => XS.iloadN X0.here hx rfl (hb hby d4_0) rfl k) ?_
  show F (s₁.setTop (mkF m 1 #[.val (.ref ar), .val (.int (0 : Int32)), .val (.int (3 : Int32)), .unset, .unset, .unset] [(.int (3 : Int32))]))
  obtain ⟨T1, h1, k1, X1, e1, E1, A1, st1⟩ := newP (aty := .byte) X0 hx hZ (hw _ (List.mem_of_getElem? (i := 19) rfl)) e0 (g := (mkF m 1 #[.val (.ref ar), .val (.int (0 : Int32)), .val (.int (3 : Int32)), .unset, .unset, .unset] [(.int (3 : Int32))])) rfl (hb hby d4_1) rfl (by decide) (cap := 3) (by decide) (by decide) (by decide) (by decide)
  obtain ⟨b1, g1⟩ : ∃ z, z = h0.size := ⟨_, rfl⟩
  rw [← g1] at A1 st1
  have Gb1 : n0 ≤ b1 := Nat.le_trans Z0 (Nat.le_of_eq g1.symm)
  have sz_b1 : h0.size ≤ b1 := Nat.le_trans (Keep.refl h0 []).1 (Nat.le_of_eq g1.symm)
  have ne_ar_b1 : ar ≠ b1 := Nat.ne_of_lt (Nat.lt_of_lt_of_le V_ar.lt (Nat.le_of_eq g1.symm))
  have f2 := V_ar.ext E1
  have f3 := Nat.le_trans Z0 E1.1
  have f4 := (Keep.refl h0 []).ext E1
  have V_b1 : Arv Z h1 b1 k1 .byte (3 : Int32) [(.int (0 : Int32)), (.int (0 : Int32)), (.int (0 : Int32))] (.int (0 : Int32)) := (Arv.new A1 (by decide)).pad (pad_rep [] (.int (0 : Int32)) 3)
  refine bk (fun t k => st1 t k) ?_
  show F (T1.setTop (mkF m 3 #[.val (.ref ar), .val (.int (0 : Int32)), .val (.int (3 : Int32)), .unset, .unset, .unset] [(.ref b1)]))
  refine bk (fun t k => XS.astoreN X1.here hx rfl (hb hby d4_3) rfl rfl (l' := #[.val (.ref ar), .val (.int (0 : Int32)), .val (.int (3 : Int32)), .val (.ref b1), .unset, .unset]) rfl k) ?_
  show F (T1.setTop (mkF m 4 #[.val (.ref ar), .val (.int (0 : Int32)), .val (.int (3 : Int32)), .val (.ref b1), .unset, .unset] []))
  refine bk (fun t k => XS.aloadN X1.here hx rfl (hb hby d4_4) rfl rfl k) ?_
  show F (T1.setTop (mkF m 5 #[.val (.ref ar), .val (.int (0 : Int32)), .val (.int (3 : Int32)), .val (.ref b1), .unset, .unset] [(.ref ar)]))
  refine bk (fun t k => XS.iloadN X1.here hx rfl (hb hby d4_5) rfl k) ?_
  show F (T1.setTop (mkF m 6 #[.val (.ref ar), .val (.int (0 : Int32)), .val (.int (3 : Int32)), .val (.ref b1), .unset, .unset] [(.int (0 : Int32)), (.ref ar)]))
  refine bk (fun t k => XS.aloadN X1.here hx rfl (hb hby d4_6) rfl rfl k) ?_
  show F (T1.setTop (mkF m 7 #[.val (.ref ar), .val (.int (0 : Int32)), .val (.int (3 : Int32)), .val (.ref b1), .unset, .unset] [(.ref b1), (.int (0 : Int32)), (.ref ar)]))
  refine bk (fun t k => XS.iconst X1.here hx rfl (hb hby d4_7) k) ?_
  show F (T1.setTop (mkF m 8 #[.val (.ref ar), .val (.int (0 : Int32)), .val (.int (3 : Int32)), .val (.ref b1), .unset, .unset] [(.int (0 : Int32)), (.ref b1), (.int (0 : Int32)), (.ref ar)]))
  refine bk (fun t k => XS.iloadN X1.here hx rfl (hb hby d4_8) rfl k) ?_
  show F (T1.setTop (mkF m 9 #[.val (.ref ar), .val (.int (0 : Int32)), .val (.int (3 : Int32)), .val (.ref b1), .unset, .unset] [(.int (3 : Int32)), (.int (0 : Int32)), (.ref b1), (.int (0 : Int32)), (.ref ar)]))
  obtain ⟨_, _, ⟨T5, L5, k5, n5⟩, -, X5, ⟨Lc5, hQ5, l5, y5, z5⟩, st5⟩ := Jvm.LawKit.callS X1 hx (y := (⟨"java/lang/StringUTF16", "compress", "([CI[BII)I"⟩ : MethodName)) hown (mvT hZ (hw _ (List.mem_of_getElem? (i := 20) rfl))) (mvT hZ (hw _ (List.mem_of_getElem? (i := 21) rfl))) (mvT hZ (hw _ (List.mem_of_getElem? (i := 17) rfl))) (mvT hZ (hw _ (List.mem_of_getElem? (i := 22) rfl))) (by decide) (backOf (W := 0) (rm5_3 l Z a0 hw [] ar b1 ka k1 x0 x1 x2 h1 n0 f3 f2 V_b1 Gb1 ne_ar_b1 hx0 hx1 hx2) hZ (hw _ (List.mem_of_getElem? (i := 22) rfl)) (hw _ (List.mem_of_getElem? (i := 17) rfl)) (by decide) (by decide)) (g := (mkF m 9 #[.val (.ref ar), .val (.int (0 : Int32)), .val (.int (3 : Int32)), .val (.ref b1), .unset, .unset] [(.int (3 : Int32)), (.int (0 : Int32)), (.ref b1), (.int (0 : Int32)), (.ref ar)])) rfl (by rw [hml]; rfl) (argsL := [(.ref ar), (.int (0 : Int32)), (.ref b1), (.int (0 : Int32)), (.int (3 : Int32))]) (rest := []) (lenOf pd4___CI_BII_I rfl) rfl (by show 2 * 0 + _ ≤ _; exact Nat.le_of_eq rfl) (hb hby d4_9) (fun _ _ => ⟨rfl, e1, (by decide : 1 + 0 ≤ _), (by decide : 3 + 0 ≤ _)⟩)
  dsimp only [Pt.U, Pt.locs, Pt.cells, Pt.slots] at X5 l5 y5 z5 st5 hQ5
  subst l5 y5 z5
  obtain ⟨rfl, N5q, K5, gV5⟩ := hQ5
  have N5 := Fr.app N0 N5q
  have f6 := f2.keep K5 (ninS ne_ar_b1 nin0)
  have f7 := Nat.le_trans f3 K5.1
  have f8 := f4.trans K5 (allS (Or.inr sz_b1) all0)
  refine bk (fun t k => st5 t k) ?_
  show F (T5.setTop (mkF m 12 #[.val (.ref ar), .val (.int (0 : Int32)), .val (.int (3 : Int32)), .val (.ref b1), .unset, .unset] [(.int (3 : Int32))]))
  refine bk (fun t k => XS.istore X5.here hx rfl (hb hby d4_12) rfl (l' := #[.val (.ref ar), .val (.int (0 : Int32)), .val (.int (3 : Int32)), .val (.ref b1), .val (.int (3 : Int32)), .unset]) rfl k) ?_
  show F (T5.setTop (mkF m 14 #[.val (.ref ar), .val (.int (0 : Int32)), .val (.int (3 : Int32)), .val (.ref b1), .val (.int (3 : Int32)), .unset] []))
  refine bk (fun t k => XS.iload X5.here hx rfl (hb hby d4_14) rfl k) ?_
  show F (T5.setTop (mkF m 16 #[.val (.ref ar), .val (.int (0 : Int32)), .val (.int (3 : Int32)), .val (.ref b1), .val (.int (3 : Int32)), .unset] [(.int (3 : Int32))]))
  refine bk (fun t k => XS.iloadN X5.here hx rfl (hb hby d4_16) rfl k) ?_
  show F (T5.setTop (mkF m 17 #[.val (.ref ar), .val (.int (0 : Int32)), .val (.int (3 : Int32)), .val (.ref b1), .val (.int (3 : Int32)), .unset] [(.int (3 : Int32)), (.int (3 : Int32))]))
  refine bk (fun t k => XS.icmpYes X5.here hx rfl (pc0 := 17) (pc' := 57) rfl (hb hby d4_17) rfl (teq (by decide : (3 : Int32) = (3 : Int32))).1 (by decide) (by decide) k) ?_
  show F (T5.setTop (mkF m 57 #[.val (.ref ar), .val (.int (0 : Int32)), .val (.int (3 : Int32)), .val (.ref b1), .val (.int (3 : Int32)), .unset] []))
  refine bk (fun t k => XS.aloadN X5.here hx rfl (hb hby d4_57) rfl rfl k) ?_
  show F (T5.setTop (mkF m 58 #[.val (.ref ar), .val (.int (0 : Int32)), .val (.int (3 : Int32)), .val (.ref b1), .val (.int (3 : Int32)), .unset] [(.ref b1)]))
  rw [hF]
  refine own_retA X5 hx Bd.notSynchronized Bd.returns rfl rfl (hb hby d4_58) (by decide) (by decide) ?_
  exact ⟨_, _, rfl, N5, f8, gV5, Gb1⟩
def Q6_3 (Z : State) (ar : Addr) (ka : ClassId) (x0 : Int32) (x1 : Int32) (x2 : Int32) (h0 : Heap) (n0 : Nat) (v : Option Value) (h : Heap) (L : List Loc) : Prop := v = some (.int (0 : Int32)) ∧ Fr n0 L ∧ h = h0
set_option maxRecDepth 65536 in
set_option maxHeartbeats 40000000 in
theorem rm6_3 (l : Launch) (Z : State) (a0 : Array Value) (hw : ∀ d ∈ tables_1, d.before a0 Z = true) (ws : List Jvm.Cond) (ar : Addr) (ka : ClassId) (x0 : Int32) (x1 : Int32) (x2 : Int32) (h0 : Heap) (n0 : Nat) (Z0 : n0 ≤ h0.size) (V_ar : Arv Z h0 ar ka .byte (3 : Int32) [(.int x0), (.int x1), (.int x2)] (.int (0 : Int32))) :
    MetFree l (⟨"java/lang/StringUTF16", "coderFromArrayLen", "([BI)B"⟩ : MethodName) (head1 (Jvm.Cond.code (⟨"java/lang/StringUTF16", "coderFromArrayLen", "([BI)B"⟩ : MethodName) jdk_52_method_15_code 2 (some .byte) :: ws) ({ frames := 0, cells := 0, slots := 0, locals := 0 } : Room)) (fun a U => a = #[(.ref ar), (.int (3 : Int32))] ∧ Z.Warmed39 U.vm ∧ U.heap = h0) (fun _ _ _ _ _ => True) (fun _ U o U' => ∃ v L, o = .returned v ∧ Q6_3 Z ar ka x0 x1 x2 h0 n0 v U'.heap L ∧ FrameEnd U o U' L ({ frames := 0, cells := 0, slots := 0, locals := 0 } : Room).cells ({ frames := 0, cells := 0, slots := 0, locals := 0 } : Room).slots) := by
  refine MetFree.of_bodySF (plainFor_of_name pn_6) hisR ?_
  intro p e s m args below meth c s₁ Bd hml0 hP hK
  obtain ⟨rfl, hZ, hh⟩ := hP
  have hx := Bd.exec
  have hby := Bd.bytes
  have hml : c.maxLocals = 2 := hml0
  have hown : s.vm.findClass "java/lang/StringUTF16" = some m.cls := findClass_of_methodNamed Bd.named
  have hnm := (name_of_methodNamed Bd.named Bd.method).1
  have X0 : Stand p l e ({ frames := 0, cells := 0, slots := 0, locals := 0 } : Room) s m #[(.ref ar), (.int (3 : Int32))] below meth c s₁ [] 0 0 := Stand.of_body Bd
  have e0 : s₁.heap = h0 := by rw [← hh, Bd.state]; rfl
  have N0 := Fr.nil n0
  obtain ⟨F, hF⟩ : ∃ F : State → Prop, F = own_Fin p e below s ({ frames := 0, cells := 0, slots := 0, locals := 0 } : Room).cells ({ frames := 0, cells := 0, slots := 0, locals := 0 } : Room).slots (fun v h L => Q6_3 Z ar ka x0 x1 x2 h0 n0 v h L) := ⟨_, rfl⟩
  have bk : ∀ {A B : State}, (∀ t, Steps p.tables e below B t → Steps p.tables e below A t) → F B → F A := by
    intro A B h k
    rw [hF] at k ⊢
    exact own_back h k
  suffices hgo : F (s₁.setTop (mkF m 0 #[.val (.ref ar), .val (.int (3 : Int32))] [])) by
    have hgo' := bk (fun t k => castTop (T := s₁) (ef_6 m ar (3 : Int32)) k) hgo
    rw [hF] at hgo'
    exact hgo'
  show F (s₁.setTop (mkF m 0 #[.val (.ref ar), .val (.int (3 : Int32))] []))
  refine bk (fun t k => XS.iloadN X0.here hx rfl (hb hby d6_0) rfl k) ?_
  show F (s₁.setTop (mkF m 1 #[.val (.ref ar), .val (.int (3 : Int32))] [(.int (3 : Int32))]))
  refine bk (fun t k => XS.aloadN X0.here hx rfl (hb hby d6_1) rfl rfl k) ?_
  show F (s₁.setTop (mkF m 2 #[.val (.ref ar), .val (.int (3 : Int32))] [(.ref ar), (.int (3 : Int32))]))
  have vv1 := V_ar
  obtain ⟨cl1, Ar1, q1, S1, M1, H1, G1⟩ := vv1
  refine bk (fun t k => X0.arraylength hx (by rw [e0]; exact Ar1.1) (State.isArrayOf_alike hZ.alike Ar1.2.1) (g := (mkF m 2 #[.val (.ref ar), .val (.int (3 : Int32))] [(.ref ar), (.int (3 : Int32))])) rfl rfl (hb hby d6_2) t k) ?_
  rw [len_of S1 M1]
  show F (s₁.setTop (mkF m 3 #[.val (.ref ar), .val (.int (3 : Int32))] [(.int (3 : Int32)), (.int (3 : Int32))]))
  refine bk (fun t k => XS.isub X0.here hx rfl (hb hby d6_3) rfl k) ?_
  show F (s₁.setTop (mkF m 4 #[.val (.ref ar), .val (.int (3 : Int32))] [(.int (0 : Int32))]))
  refine bk (fun t k => XS.bipush X0.here hx rfl (hb hby d6_4) k) ?_
  show F (s₁.setTop (mkF m 6 #[.val (.ref ar), .val (.int (3 : Int32))] [(.int (31 : Int32)), (.int (0 : Int32))]))
  refine bk (fun t k => XS.iushr X0.here hx rfl (hb hby d6_6) rfl k) ?_
  show F (s₁.setTop (mkF m 7 #[.val (.ref ar), .val (.int (3 : Int32))] [(.int (0 : Int32))]))
  refine bk (fun t k => XS.i2b X0.here hx rfl (hb hby d6_7) rfl k) ?_
  show F (s₁.setTop (mkF m 8 #[.val (.ref ar), .val (.int (3 : Int32))] [(.int (0 : Int32))]))
  rw [hF]
  refine own_retB X0 hx Bd.notSynchronized Bd.returns (hb hby d6_8) (by decide) (by decide) ?_
  rw [e0]
  exact ⟨rfl, N0, rfl⟩
def Q2_3 (Z : State) (o0 : Addr) (ar : Addr) (ka : ClassId) (cs : Int32) (x0 : Int32) (x1 : Int32) (x2 : Int32) (h0 : Heap) (n0 : Nat) (v : Option Value) (h : Heap) (L : List Loc) : Prop := v = none ∧ Fr n0 L ∧ Keep h0 h [o0] ∧ Exa Z h o0 "java/lang/String" ∧ Fld Z h o0 "java/lang/String" "coder" "B" (.int (0 : Int32)) ∧ ∃ (r : Addr) (kd : ClassId), Fld Z h o0 "java/lang/String" "value" "[B" (.ref r) ∧ Arv Z h r kd .byte (3 : Int32) [(.int (nar .byte (x0.toInt8.toInt32))), (.int (nar .byte (x1.toInt8.toInt32))), (.int (nar .byte (x2.toInt8.toInt32)))] (.int (0 : Int32))
set_option maxRecDepth 65536 in
set_option maxHeartbeats 40000000 in
theorem rm2_3 (l : Launch) (Z : State) (a0 : Array Value) (hw : ∀ d ∈ tables_1, d.before a0 Z = true) (ws : List Jvm.Cond) (o0 : Addr) (ar : Addr) (ka : ClassId) (cs : Int32) (x0 : Int32) (x1 : Int32) (x2 : Int32) (h0 : Heap) (n0 : Nat) (Z0 : n0 ≤ h0.size) (E_o0 : Exa Z h0 o0 "java/lang/String") (F_v : Fld Z h0 o0 "java/lang/String" "value" "[B" .null) (F_c : Fld Z h0 o0 "java/lang/String" "coder" "B" (.int (0 : Int32))) (g_o0 : n0 ≤ o0) (V_ar : Arv Z h0 ar ka .char (3 : Int32) [(.int x0), (.int x1), (.int x2)] (.int (0 : Int32))) (ne_o_ar : o0 ≠ ar) (S_cs : Sta Z h0 "java/lang/String" "COMPACT_STRINGS" "Z" (.int cs)) (hcs : ¬ cs = (0 : Int32)) (hx0 : ¬ (255 : Int32) < x0) (hx1 : ¬ (255 : Int32) < x1) (hx2 : ¬ (255 : Int32) < x2) :
    MetFree l (⟨"java/lang/String", "<init>", "([CIILjava/lang/Void;)V"⟩ : MethodName) (head1 (Jvm.Cond.code (⟨"java/lang/String", "<init>", "([CIILjava/lang/Void;)V"⟩ : MethodName) jdk_42_method_149_code 6 none :: ws) ({ frames := 2, cells := 1, slots := 3, locals := 35 } : Room)) (fun a U => a = #[(.ref o0), (.ref ar), (.int (0 : Int32)), (.int (3 : Int32)), .null] ∧ Z.Warmed39 U.vm ∧ U.heap = h0) (fun _ _ _ _ _ => True) (fun _ U o U' => ∃ v L, o = .returned v ∧ Q2_3 Z o0 ar ka cs x0 x1 x2 h0 n0 v U'.heap L ∧ FrameEnd U o U' L ({ frames := 2, cells := 1, slots := 3, locals := 35 } : Room).cells ({ frames := 2, cells := 1, slots := 3, locals := 35 } : Room).slots) := by
  refine MetFree.of_bodySF (plainFor_of_name pn_2) hisR ?_
  intro p e s m args below meth c s₁ Bd hml0 hP hK
  obtain ⟨rfl, hZ, hh⟩ := hP
  have hx := Bd.exec
  have hby := Bd.bytes
  have hml : c.maxLocals = 6 := hml0
  have hown : s.vm.findClass "java/lang/String" = some m.cls := findClass_of_methodNamed Bd.named
  have hnm := (name_of_methodNamed Bd.named Bd.method).1
  have X0 : Stand p l e ({ frames := 2, cells := 1, slots := 3, locals := 35 } : Room) s m #[(.ref o0), (.ref ar), (.int (0 : Int32)), (.int (3 : Int32)), .null] below meth c s₁ [] 0 0 := Stand.of_body Bd
  have e0 : s₁.heap = h0 := by rw [← hh, Bd.state]; rfl
  have N0 := Fr.nil n0
  obtain ⟨F, hF⟩ : ∃ F : State → Prop, F = own_Fin p e below s ({ frames := 2, cells := 1, slots := 3, locals := 35 } : Room).cells ({ frames := 2, cells := 1, slots := 3, locals := 35 } : Room).slots (fun v h L => Q2_3 Z o0 ar ka cs x0 x1 x2 h0 n0 v h L) := ⟨_, rfl⟩
  have bk : ∀ {A B : State}, (∀ t, Steps p.tables e below B t → Steps p.tables e below A t) → F B → F A := by
    intro A B h k
    rw [hF] at k ⊢
    exact own_back h k
  suffices hgo : F (s₁.setTop (mkF m 0 #[.val (.ref o0), .val (.ref ar), .val (.int (0 : Int32)), .val (.int (3 : Int32)), .val .null, .unset] [])) by
    have hgo' := bk (fun t k => castTop (T := s₁) (ef_2n4 m o0 ar (0 : Int32) (3 : Int32)) k) hgo
    rw [hF] at hgo'
    exact hgo'
  show F (s₁.setTop (mkF m 0 #[.val (.ref o0), .val (.ref ar), .val (.int (0 : Int32)), .val (.int (3 : Int32)), .val .null, .unset] []))
  refine bk (fun t k => XS.aloadN X0.here hx rfl (hb hby d2_0) rfl rfl k) ?_
  show F (s₁.setTop (mkF m 1 #[.val (.ref o0), .val (.ref ar), .val (.int (0 : Int32)), .val (.int (3 : Int32)), .val .null, .unset] [(.ref o0)]))
  obtain ⟨T1, X1, e1, st1⟩ := initO X0 hx hZ hown (hw _ (List.mem_of_getElem? (i := 11) rfl)) (hw _ (List.mem_of_getElem? (i := 12) rfl)) (hw _ (List.mem_of_getElem? (i := 13) rfl)) e0 (g := (mkF m 1 #[.val (.ref o0), .val (.ref ar), .val (.int (0 : Int32)), .val (.int (3 : Int32)), .val .null, .unset] [(.ref o0)])) rfl (by rw [hml]; rfl) rfl (hb hby d2_1) (by decide) (W := 0) (by show 2 * 0 + _ ≤ _; exact Nat.le_of_eq rfl) (by decide)
  refine bk (fun t k => st1 t k) ?_
  show F (T1.setTop (mkF m 4 #[.val (.ref o0), .val (.ref ar), .val (.int (0 : Int32)), .val (.int (3 : Int32)), .val .null, .unset] []))
  refine bk (fun t k => XS.iloadN X1.here hx rfl (hb hby d2_4) rfl k) ?_
  show F (T1.setTop (mkF m 5 #[.val (.ref o0), .val (.ref ar), .val (.int (0 : Int32)), .val (.int (3 : Int32)), .val .null, .unset] [(.int (3 : Int32))]))
  refine bk (fun t k => XS.ifYes X1.here hx rfl (pc0 := 5) (pc' := 27) rfl (hb hby d2_5) rfl ((if0 _ _).trans (feq (by decide : ¬ ((3 : Int32) = (0 : Int32)))).2) (by decide) (by decide) k) ?_
  show F (T1.setTop (mkF m 27 #[.val (.ref o0), .val (.ref ar), .val (.int (0 : Int32)), .val (.int (3 : Int32)), .val .null, .unset] []))
  obtain ⟨T2, X2, e2, st2⟩ := getS2 X1 hx hZ hown (host := "") (Or.inl (hw _ (List.mem_of_getElem? (i := 14) rfl))) Via.refl e1 S_cs (g := (mkF m 27 #[.val (.ref o0), .val (.ref ar), .val (.int (0 : Int32)), .val (.int (3 : Int32)), .val .null, .unset] [])) rfl (hb hby d2_27)
  refine bk (fun t k => st2 t k) ?_
  show F (T2.setTop (mkF m 30 #[.val (.ref o0), .val (.ref ar), .val (.int (0 : Int32)), .val (.int (3 : Int32)), .val .null, .unset] [(.int cs)]))
  refine bk (fun t k => XS.ifNo X2.here hx rfl (hb hby d2_30) rfl ((if0 _ _).trans (feq hcs).1) k) ?_
  show F (T2.setTop (mkF m 33 #[.val (.ref o0), .val (.ref ar), .val (.int (0 : Int32)), .val (.int (3 : Int32)), .val .null, .unset] []))
  refine bk (fun t k => XS.aloadN X2.here hx rfl (hb hby d2_33) rfl rfl k) ?_
  show F (T2.setTop (mkF m 34 #[.val (.ref o0), .val (.ref ar), .val (.int (0 : Int32)), .val (.int (3 : Int32)), .val .null, .unset] [(.ref ar)]))
  refine bk (fun t k => XS.iloadN X2.here hx rfl (hb hby d2_34) rfl k) ?_
  show F (T2.setTop (mkF m 35 #[.val (.ref o0), .val (.ref ar), .val (.int (0 : Int32)), .val (.int (3 : Int32)), .val .null, .unset] [(.int (0 : Int32)), (.ref ar)]))
  refine bk (fun t k => XS.iloadN X2.here hx rfl (hb hby d2_35) rfl k) ?_
  show F (T2.setTop (mkF m 36 #[.val (.ref o0), .val (.ref ar), .val (.int (0 : Int32)), .val (.int (3 : Int32)), .val .null, .unset] [(.int (3 : Int32)), (.int (0 : Int32)), (.ref ar)]))
  obtain ⟨_, _, ⟨T3, L3, k3, n3⟩, -, X3, ⟨Lc3, hQ3, l3, y3, z3⟩, st3⟩ := Jvm.LawKit.callS X2 hx (y := (⟨"java/lang/StringUTF16", "compress", "([CII)[B"⟩ : MethodName)) hown (mvT hZ (hw _ (List.mem_of_getElem? (i := 15) rfl))) (mvT hZ (hw _ (List.mem_of_getElem? (i := 16) rfl))) (mvT hZ (hw _ (List.mem_of_getElem? (i := 17) rfl))) (mvT hZ (hw _ (List.mem_of_getElem? (i := 18) rfl))) (by decide) (backOf (W := 0) (rm4_3 l Z a0 hw [] ar ka x0 x1 x2 h0 n0 Z0 V_ar hx0 hx1 hx2) hZ (hw _ (List.mem_of_getElem? (i := 18) rfl)) (hw _ (List.mem_of_getElem? (i := 17) rfl)) (by decide) (by decide)) (g := (mkF m 36 #[.val (.ref o0), .val (.ref ar), .val (.int (0 : Int32)), .val (.int (3 : Int32)), .val .null, .unset] [(.int (3 : Int32)), (.int (0 : Int32)), (.ref ar)])) rfl (by rw [hml]; rfl) (argsL := [(.ref ar), (.int (0 : Int32)), (.int (3 : Int32))]) (rest := []) (lenOf pd2___CII__B rfl) rfl (by show 2 * 0 + _ ≤ _; exact Nat.le_of_eq rfl) (hb hby d2_36) (fun _ _ => ⟨rfl, e2, (by decide : 0 + 1 ≤ _), (by decide : 0 + 3 ≤ _)⟩)
  dsimp only [Pt.U, Pt.locs, Pt.cells, Pt.slots] at X3 l3 y3 z3 st3 hQ3
  subst l3 y3 z3
  obtain ⟨r3, kd3, rfl, N3q, K3, gV3, gG3⟩ := hQ3
  have N3 := Fr.app N0 N3q
  have f4 := E_o0.keep K3
  have f5 := F_v.keep K3 nin0
  have f6 := F_c.keep K3 nin0
  have f7 := Nat.le_trans Z0 K3.1
  have f8 := (Keep.refl h0 [o0]).trans K3 all0
  have f9 := V_ar.keep K3 nin0
  have f10 := own_sta0 S_cs K3
  refine bk (fun t k => st3 t k) ?_
  show F (T3.setTop (mkF m 39 #[.val (.ref o0), .val (.ref ar), .val (.int (0 : Int32)), .val (.int (3 : Int32)), .val .null, .unset] [(.ref r3)]))
  refine bk (fun t k => XS.astore X3.here hx rfl (hb hby d2_39) rfl rfl (l' := #[.val (.ref o0), .val (.ref ar), .val (.int (0 : Int32)), .val (.int (3 : Int32)), .val .null, .val (.ref r3)]) rfl k) ?_
  show F (T3.setTop (mkF m 41 #[.val (.ref o0), .val (.ref ar), .val (.int (0 : Int32)), .val (.int (3 : Int32)), .val .null, .val (.ref r3)] []))
  refine bk (fun t k => XS.aloadN X3.here hx rfl (hb hby d2_41) rfl rfl k) ?_
  show F (T3.setTop (mkF m 42 #[.val (.ref o0), .val (.ref ar), .val (.int (0 : Int32)), .val (.int (3 : Int32)), .val .null, .val (.ref r3)] [(.ref o0)]))
  refine bk (fun t k => XS.aload X3.here hx rfl (hb hby d2_42) rfl rfl k) ?_
  show F (T3.setTop (mkF m 44 #[.val (.ref o0), .val (.ref ar), .val (.int (0 : Int32)), .val (.int (3 : Int32)), .val .null, .val (.ref r3)] [(.ref r3), (.ref o0)]))
  refine bk (fun t k => XS.iloadN X3.here hx rfl (hb hby d2_44) rfl k) ?_
  show F (T3.setTop (mkF m 45 #[.val (.ref o0), .val (.ref ar), .val (.int (0 : Int32)), .val (.int (3 : Int32)), .val .null, .val (.ref r3)] [(.int (3 : Int32)), (.ref r3), (.ref o0)]))
  obtain ⟨_, _, ⟨T11, L11, k11, n11⟩, -, X11, ⟨Lc11, hQ11, l11, y11, z11⟩, st11⟩ := Jvm.LawKit.callS X3 hx (y := (⟨"java/lang/StringUTF16", "coderFromArrayLen", "([BI)B"⟩ : MethodName)) hown (mvT hZ (hw _ (List.mem_of_getElem? (i := 23) rfl))) (mvT hZ (hw _ (List.mem_of_getElem? (i := 24) rfl))) (mvT hZ (hw _ (List.mem_of_getElem? (i := 17) rfl))) (mvT hZ (hw _ (List.mem_of_getElem? (i := 25) rfl))) (by decide) (backOf (W := 1) (rm6_3 l Z a0 hw [] r3 kd3 (nar .byte (x0.toInt8.toInt32)) (nar .byte (x1.toInt8.toInt32)) (nar .byte (x2.toInt8.toInt32)) T3.heap n0 f7 gV3) hZ (hw _ (List.mem_of_getElem? (i := 25) rfl)) (hw _ (List.mem_of_getElem? (i := 17) rfl)) (by decide) (by decide)) (g := (mkF m 45 #[.val (.ref o0), .val (.ref ar), .val (.int (0 : Int32)), .val (.int (3 : Int32)), .val .null, .val (.ref r3)] [(.int (3 : Int32)), (.ref r3), (.ref o0)])) rfl (by rw [hml]; rfl) (argsL := [(.ref r3), (.int (3 : Int32))]) (rest := [(.ref o0)]) (lenOf pd2___BI_B rfl) rfl (by show 2 * 0 + _ ≤ _; exact Nat.le_of_eq rfl) (hb hby d2_45) (fun _ _ => ⟨rfl, rfl, (by decide : 1 + 0 ≤ _), (by decide : 3 + 0 ≤ _)⟩)
  dsimp only [Pt.U, Pt.locs, Pt.cells, Pt.slots] at X11 l11 y11 z11 st11 hQ11
  subst l11 y11 z11
  obtain ⟨rfl, N11q, e11⟩ := hQ11
  have N11 := Fr.app N3 N11q
  refine bk (fun t k => st11 t k) ?_
  show F (T11.setTop (mkF m 48 #[.val (.ref o0), .val (.ref ar), .val (.int (0 : Int32)), .val (.int (3 : Int32)), .val .null, .val (.ref r3)] [(.int (0 : Int32)), (.ref o0)]))
  obtain ⟨T12, h12, X12, e12, W12, st12⟩ := putFN X11 hx hZ hown (hw _ (List.mem_of_getElem? (i := 26) rfl)) Via.refl e11 f6 f4 (Or.inr ⟨(hw _ (List.mem_of_getElem? (i := 27) rfl)), rfl, hnm⟩) (hw _ (List.mem_of_getElem? (i := 2) rfl)) (ty := .byte) (v' := .int (0 : Int32)) (by decide) rfl (by decide) (g := (mkF m 48 #[.val (.ref o0), .val (.ref ar), .val (.int (0 : Int32)), .val (.int (3 : Int32)), .val .null, .val (.ref r3)] [(.int (0 : Int32)), (.ref o0)])) rfl rfl (hb hby d2_48)
  have f13 := f4.wr W12
  have f14 := f5.other W12 (Or.inr (slot_ne (Or.inr (hw _ (List.mem_of_getElem? (i := 29) rfl))) (Or.inr (hw _ (List.mem_of_getElem? (i := 27) rfl))) (by decide) (t := (.array .byte)) (t' := .byte) (by decide) (by decide)))
  have f15 := f6.same W12
  have f16 := Nat.le_trans f7 (Keep.of_wr W12).1
  have f17 := f8.wr W12 (Or.inl (List.mem_of_getElem? (i := 0) rfl))
  have f18 := f9.other W12 (Ne.symm ne_o_ar)
  have f19 := f10.wr W12
  have f20 := gV3.other W12 (Ne.symm (Exa.neArv f4 gV3 (hw _ (List.mem_of_getElem? (i := 2) rfl))))
  have N12 := Fr.snoc X12 N11 g_o0
  refine bk (fun t k => st12 t k) ?_
  show F (T12.setTop (mkF m 51 #[.val (.ref o0), .val (.ref ar), .val (.int (0 : Int32)), .val (.int (3 : Int32)), .val .null, .val (.ref r3)] []))
  refine bk (fun t k => XS.aloadN X12.here hx rfl (hb hby d2_51) rfl rfl k) ?_
  show F (T12.setTop (mkF m 52 #[.val (.ref o0), .val (.ref ar), .val (.int (0 : Int32)), .val (.int (3 : Int32)), .val .null, .val (.ref r3)] [(.ref o0)]))
  refine bk (fun t k => XS.aload X12.here hx rfl (hb hby d2_52) rfl rfl k) ?_
  show F (T12.setTop (mkF m 54 #[.val (.ref o0), .val (.ref ar), .val (.int (0 : Int32)), .val (.int (3 : Int32)), .val .null, .val (.ref r3)] [(.ref r3), (.ref o0)]))
  obtain ⟨T21, h21, X21, e21, W21, st21⟩ := putF X12 hx hZ hown (host := "") (Or.inl (hw _ (List.mem_of_getElem? (i := 28) rfl))) Via.refl e12 f14 f13 (Or.inr ⟨(hw _ (List.mem_of_getElem? (i := 29) rfl)), rfl, hnm⟩) (hw _ (List.mem_of_getElem? (i := 2) rfl)) (ty := (.array .byte)) (by decide) rfl rfl (g := (mkF m 54 #[.val (.ref o0), .val (.ref ar), .val (.int (0 : Int32)), .val (.int (3 : Int32)), .val .null, .val (.ref r3)] [(.ref r3), (.ref o0)])) rfl rfl (hb hby d2_54)
  have f22 := f13.wr W21
  have f23 := f14.same W21
  have f24 := f15.other W21 (Or.inr (slot_ne (Or.inr (hw _ (List.mem_of_getElem? (i := 27) rfl))) (Or.inr (hw _ (List.mem_of_getElem? (i := 29) rfl))) (by decide) (t := .byte) (t' := (.array .byte)) (by decide) (by decide)))
  have f25 := Nat.le_trans f16 (Keep.of_wr W21).1
  have f26 := f17.wr W21 (Or.inl (List.mem_of_getElem? (i := 0) rfl))
  have f27 := f18.other W21 (Ne.symm ne_o_ar)
  have f28 := f19.wr W21
  have f29 := f20.other W21 (Ne.symm (Exa.neArv f4 gV3 (hw _ (List.mem_of_getElem? (i := 2) rfl))))
  have N21 := Fr.snoc X21 N12 g_o0
  refine bk (fun t k => st21 t k) ?_
  show F (T21.setTop (mkF m 57 #[.val (.ref o0), .val (.ref ar), .val (.int (0 : Int32)), .val (.int (3 : Int32)), .val .null, .val (.ref r3)] []))
  rw [hF]
  refine own_ret0 X21 hx Bd.notSynchronized Bd.returns (hb hby d2_57) (by decide) (by decide) ?_
  rw [e21]
  exact ⟨rfl, N21, f26, f22, f24, _, _, f23, f29⟩
def Q1_3 (Z : State) (o0 : Addr) (ar : Addr) (ka : ClassId) (cs : Int32) (x0 : Int32) (x1 : Int32) (x2 : Int32) (h0 : Heap) (n0 : Nat) (v : Option Value) (h : Heap) (L : List Loc) : Prop := v = none ∧ Fr n0 L ∧ Keep h0 h [o0] ∧ Exa Z h o0 "java/lang/String" ∧ Fld Z h o0 "java/lang/String" "coder" "B" (.int (0 : Int32)) ∧ ∃ (r : Addr) (kd : ClassId), Fld Z h o0 "java/lang/String" "value" "[B" (.ref r) ∧ Arv Z h r kd .byte (3 : Int32) [(.int (nar .byte (x0.toInt8.toInt32))), (.int (nar .byte (x1.toInt8.toInt32))), (.int (nar .byte (x2.toInt8.toInt32)))] (.int (0 : Int32))
set_option maxRecDepth 65536 in
set_option maxHeartbeats 40000000 in
theorem rm1_3 (l : Launch) (Z : State) (a0 : Array Value) (hw : ∀ d ∈ tables_1, d.before a0 Z = true) (ws : List Jvm.Cond) (o0 : Addr) (ar : Addr) (ka : ClassId) (cs : Int32) (x0 : Int32) (x1 : Int32) (x2 : Int32) (h0 : Heap) (n0 : Nat) (Z0 : n0 ≤ h0.size) (E_o0 : Exa Z h0 o0 "java/lang/String") (F_v : Fld Z h0 o0 "java/lang/String" "value" "[B" .null) (F_c : Fld Z h0 o0 "java/lang/String" "coder" "B" (.int (0 : Int32))) (g_o0 : n0 ≤ o0) (V_ar : Arv Z h0 ar ka .char (3 : Int32) [(.int x0), (.int x1), (.int x2)] (.int (0 : Int32))) (ne_o_ar : o0 ≠ ar) (S_cs : Sta Z h0 "java/lang/String" "COMPACT_STRINGS" "Z" (.int cs)) (hcs : ¬ cs = (0 : Int32)) (hx0 : ¬ (255 : Int32) < x0) (hx1 : ¬ (255 : Int32) < x1) (hx2 : ¬ (255 : Int32) < x2) :
    MetFree l (⟨"java/lang/String", "<init>", "([C)V"⟩ : MethodName) (head1 (Jvm.Cond.code (⟨"java/lang/String", "<init>", "([C)V"⟩ : MethodName) jdk_42_method_3_code 2 none :: ws) ({ frames := 3, cells := 1, slots := 3, locals := 52 } : Room)) (fun a U => a = #[(.ref o0), (.ref ar)] ∧ Z.Warmed39 U.vm ∧ U.heap = h0) (fun _ _ _ _ _ => True) (fun _ U o U' => ∃ v L, o = .returned v ∧ Q1_3 Z o0 ar ka cs x0 x1 x2 h0 n0 v U'.heap L ∧ FrameEnd U o U' L ({ frames := 3, cells := 1, slots := 3, locals := 52 } : Room).cells ({ frames := 3, cells := 1, slots := 3, locals := 52 } : Room).slots) := by
  refine MetFree.of_bodySF (plainFor_of_name pn_1) hisR ?_
  intro p e s m args below meth c s₁ Bd hml0 hP hK
  obtain ⟨rfl, hZ, hh⟩ := hP
  have hx := Bd.exec
  have hby := Bd.bytes
  have hml : c.maxLocals = 2 := hml0
  have hown : s.vm.findClass "java/lang/String" = some m.cls := findClass_of_methodNamed Bd.named
  have hnm := (name_of_methodNamed Bd.named Bd.method).1
  have X0 : Stand p l e ({ frames := 3, cells := 1, slots := 3, locals := 52 } : Room) s m #[(.ref o0), (.ref ar)] below meth c s₁ [] 0 0 := Stand.of_body Bd
  have e0 : s₁.heap = h0 := by rw [← hh, Bd.state]; rfl
  have N0 := Fr.nil n0
  obtain ⟨F, hF⟩ : ∃ F : State → Prop, F = own_Fin p e below s ({ frames := 3, cells := 1, slots := 3, locals := 52 } : Room).cells ({ frames := 3, cells := 1, slots := 3, locals := 52 } : Room).slots (fun v h L => Q1_3 Z o0 ar ka cs x0 x1 x2 h0 n0 v h L) := ⟨_, rfl⟩
  have bk : ∀ {A B : State}, (∀ t, Steps p.tables e below B t → Steps p.tables e below A t) → F B → F A := by
    intro A B h k
    rw [hF] at k ⊢
    exact own_back h k
  suffices hgo : F (s₁.setTop (mkF m 0 #[.val (.ref o0), .val (.ref ar)] [])) by
    have hgo' := bk (fun t k => castTop (T := s₁) (ef_1 m o0 ar) k) hgo
    rw [hF] at hgo'
    exact hgo'
  show F (s₁.setTop (mkF m 0 #[.val (.ref o0), .val (.ref ar)] []))
  refine bk (fun t k => XS.aloadN X0.here hx rfl (hb hby d1_0) rfl rfl k) ?_
  show F (s₁.setTop (mkF m 1 #[.val (.ref o0), .val (.ref ar)] [(.ref o0)]))
  refine bk (fun t k => XS.aloadN X0.here hx rfl (hb hby d1_1) rfl rfl k) ?_
  show F (s₁.setTop (mkF m 2 #[.val (.ref o0), .val (.ref ar)] [(.ref ar), (.ref o0)]))
  refine bk (fun t k => XS.iconst X0.here hx rfl (hb hby d1_2) k) ?_
  show F (s₁.setTop (mkF m 3 #[.val (.ref o0), .val (.ref ar)] [(.int (0 : Int32)), (.ref ar), (.ref o0)]))
  refine bk (fun t k => XS.aloadN X0.here hx rfl (hb hby d1_3) rfl rfl k) ?_
  show F (s₁.setTop (mkF m 4 #[.val (.ref o0), .val (.ref ar)] [(.ref ar), (.int (0 : Int32)), (.ref ar), (.ref o0)]))
  have vv1 := V_ar
  obtain ⟨cl1, Ar1, q1, S1, M1, H1, G1⟩ := vv1
  refine bk (fun t k => X0.arraylength hx (by rw [e0]; exact Ar1.1) (State.isArrayOf_alike hZ.alike Ar1.2.1) (g := (mkF m 4 #[.val (.ref o0), .val (.ref ar)] [(.ref ar), (.int (0 : Int32)), (.ref ar), (.ref o0)])) rfl rfl (hb hby d1_4) t k) ?_
  rw [len_of S1 M1]
  show F (s₁.setTop (mkF m 5 #[.val (.ref o0), .val (.ref ar)] [(.int (3 : Int32)), (.int (0 : Int32)), (.ref ar), (.ref o0)]))
  refine bk (fun t k => XS.aconstNull X0.here hx rfl (hb hby d1_5) k) ?_
  show F (s₁.setTop (mkF m 6 #[.val (.ref o0), .val (.ref ar)] [.null, (.int (3 : Int32)), (.int (0 : Int32)), (.ref ar), (.ref o0)]))
  obtain ⟨_, _, ⟨T2, L2, k2, n2⟩, -, X2, ⟨Lc2, hQ2, l2, y2, z2⟩, st2⟩ := X0.specialBack hx (y := (⟨"java/lang/String", "<init>", "([CIILjava/lang/Void;)V"⟩ : MethodName)) rfl hown (mvT hZ (hw _ (List.mem_of_getElem? (i := 7) rfl))) (mvT hZ (hw _ (List.mem_of_getElem? (i := 8) rfl))) (mvT hZ (hw _ (List.mem_of_getElem? (i := 10) rfl))) (by decide) (backOf (W := 0) (rm2_3 l Z a0 hw [] o0 ar ka cs x0 x1 x2 h0 n0 Z0 E_o0 F_v F_c g_o0 V_ar ne_o_ar S_cs hcs hx0 hx1 hx2) hZ (hw _ (List.mem_of_getElem? (i := 10) rfl)) (hw _ (List.mem_of_getElem? (i := 3) rfl)) (by decide) (by decide)) (g := (mkF m 6 #[.val (.ref o0), .val (.ref ar)] [.null, (.int (3 : Int32)), (.int (0 : Int32)), (.ref ar), (.ref o0)])) rfl (by rw [hml]; rfl) (Steps.refl _) (a := o0) (argsL := [(.ref ar), (.int (0 : Int32)), (.int (3 : Int32)), .null]) (rest := []) (lenOf pd1___CIILjava_lang_Void__V rfl) rfl (by show 2 * 0 + _ ≤ _; exact Nat.le_of_eq rfl) (hb hby d1_6) (fun _ _ => ⟨rfl, e0, (by decide : 0 + 1 ≤ _), (by decide : 0 + 3 ≤ _)⟩)
  dsimp only [Pt.U, Pt.locs, Pt.cells, Pt.slots] at X2 l2 y2 z2 st2 hQ2
  subst l2 y2 z2
  obtain ⟨rfl, N2q, K2, gE2, gC2, r2, kd2, gF2, gV2⟩ := hQ2
  have N2 := Fr.app N0 N2q
  have f3 := E_o0.keep K2
  have f4 := Nat.le_trans Z0 K2.1
  have f5 := (Keep.refl h0 [o0]).trans K2 (allS (Or.inl (List.mem_of_getElem? (i := 0) rfl)) all0)
  have f6 := V_ar.keep K2 (ninS (Ne.symm ne_o_ar) nin0)
  have f7 := own_sta1 S_cs K2 E_o0
  refine bk (fun t k => st2.trans k) ?_
  show F (T2.setTop (mkF m 9 #[.val (.ref o0), .val (.ref ar)] []))
  rw [hF]
  refine own_ret0 X2 hx Bd.notSynchronized Bd.returns (hb hby d1_9) (by decide) (by decide) ?_
  exact ⟨rfl, N2, f5, gE2, gC2, _, _, gF2, gV2⟩
theorem d9_0 : decode jdk_30_method_1_code 0 = .ok (.aload_n 0, 1) := by decide +kernel
theorem d9_1 : decode jdk_30_method_1_code 1 = .ok (.invokespecial 1, 3) := by decide +kernel
theorem d9_4 : decode jdk_30_method_1_code 4 = .ok (.return_, 1) := by decide +kernel
theorem pn_9 : plainName "java/lang/Record" = true := by first | (simp [plainName, overriddenIn]; done) | decide +kernel
theorem ef_9 (m : MethodId) (x0 : Addr) : entryFrame m #[(.ref x0)] 1 = mkF m 0 #[.val (.ref x0)] [] := by first | (simp [entryFrame, mkF, argsToLocals, Value.category]; done) | rfl
def Q9 (Z : State) (o0 : Addr) (h0 : Heap) (n0 : Nat) (v : Option Value) (h : Heap) (L : List Loc) : Prop := v = none ∧ Fr n0 L ∧ h = h0
set_option maxRecDepth 65536 in
set_option maxHeartbeats 40000000 in
theorem rm9 (l : Launch) (Z : State) (a0 : Array Value) (hw : ∀ d ∈ tables_1, d.before a0 Z = true) (ws : List Jvm.Cond) (o0 : Addr) (h0 : Heap) (n0 : Nat) (Z0 : n0 ≤ h0.size) :
    MetFree l (⟨"java/lang/Record", "<init>", "()V"⟩ : MethodName) (head1 (Jvm.Cond.code (⟨"java/lang/Record", "<init>", "()V"⟩ : MethodName) jdk_30_method_1_code 1 none :: ws) ({ frames := 1, cells := 0, slots := 0, locals := 12 } : Room)) (fun a U => a = #[(.ref o0)] ∧ Z.Warmed39 U.vm ∧ U.heap = h0) (fun _ _ _ _ _ => True) (fun _ U o U' => ∃ v L, o = .returned v ∧ Q9 Z o0 h0 n0 v U'.heap L ∧ FrameEnd U o U' L ({ frames := 1, cells := 0, slots := 0, locals := 12 } : Room).cells ({ frames := 1, cells := 0, slots := 0, locals := 12 } : Room).slots) := by
  refine MetFree.of_bodySF (plainFor_of_name pn_9) hisR ?_
  intro p e s m args below meth c s₁ Bd hml0 hP hK
  obtain ⟨rfl, hZ, hh⟩ := hP
  have hx := Bd.exec
  have hby := Bd.bytes
  have hml : c.maxLocals = 1 := hml0
  have hown : s.vm.findClass "java/lang/Record" = some m.cls := findClass_of_methodNamed Bd.named
  have hnm := (name_of_methodNamed Bd.named Bd.method).1
  have X0 : Stand p l e ({ frames := 1, cells := 0, slots := 0, locals := 12 } : Room) s m #[(.ref o0)] below meth c s₁ [] 0 0 := Stand.of_body Bd
  have e0 : s₁.heap = h0 := by rw [← hh, Bd.state]; rfl
  have N0 := Fr.nil n0
  obtain ⟨F, hF⟩ : ∃ F : State → Prop, F = own_Fin p e below s ({ frames := 1, cells := 0, slots := 0, locals := 12 } : Room).cells ({ frames := 1, cells := 0, slots := 0, locals := 12 } : Room).slots (fun v h L => Q9 Z o0 h0 n0 v h L) := ⟨_, rfl⟩
  have bk : ∀ {A B : State}, (∀ t, Steps p.tables e below B t → Steps p.tables e below A t) → F B → F A := by
    intro A B h k
    rw [hF] at k ⊢
    exact own_back h k
  suffices hgo : F (s₁.setTop (mkF m 0 #[.val (.ref o0)] [])) by
    have hgo' := bk (fun t k => castTop (T := s₁) (ef_9 m o0) k) hgo
    rw [hF] at hgo'
    exact hgo'
  show F (s₁.setTop (mkF m 0 #[.val (.ref o0)] []))
  refine bk (fun t k => XS.aloadN X0.here hx rfl (hb hby d9_0) rfl rfl k) ?_
  show F (s₁.setTop (mkF m 1 #[.val (.ref o0)] [(.ref o0)]))
  obtain ⟨T1, X1, e1, st1⟩ := initO X0 hx hZ hown (hw _ (List.mem_of_getElem? (i := 47) rfl)) (hw _ (List.mem_of_getElem? (i := 12) rfl)) (hw _ (List.mem_of_getElem? (i := 13) rfl)) e0 (g := (mkF m 1 #[.val (.ref o0)] [(.ref o0)])) rfl (by rw [hml]; rfl) rfl (hb hby d9_1) (by decide) (W := 0) (by show 2 * 0 + _ ≤ _; exact Nat.le_of_eq rfl) (by decide)
  refine bk (fun t k => st1 t k) ?_
  show F (T1.setTop (mkF m 4 #[.val (.ref o0)] []))
  rw [hF]
  refine own_ret0 X1 hx Bd.notSynchronized Bd.returns (hb hby d9_4) (by decide) (by decide) ?_
  rw [e1]
  exact ⟨rfl, N0, rfl⟩
theorem d8_0 : decode prog_53_method_1_code 0 = .ok (.aload_n 0, 1) := by decide +kernel
theorem d8_1 : decode prog_53_method_1_code 1 = .ok (.invokespecial 1, 3) := by decide +kernel
theorem d8_4 : decode prog_53_method_1_code 4 = .ok (.aload_n 0, 1) := by decide +kernel
theorem d8_5 : decode prog_53_method_1_code 5 = .ok (.aload_n 1, 1) := by decide +kernel
theorem d8_6 : decode prog_53_method_1_code 6 = .ok (.putfield 7, 3) := by decide +kernel
theorem d8_9 : decode prog_53_method_1_code 9 = .ok (.return_, 1) := by decide +kernel
theorem pd8___V : parseMethodDescriptor "()V" = some ⟨[], none⟩ := by decide +kernel
theorem pn_8 : plainName "com/example/unabridged_index/unabridgedindex/server/Answer$ErrorMessage" = true := by first | (simp [plainName, overriddenIn]; done) | decide +kernel
theorem ef_8 (m : MethodId) (x0 : Addr) (x1 : Addr) : entryFrame m #[(.ref x0), (.ref x1)] 2 = mkF m 0 #[.val (.ref x0), .val (.ref x1)] [] := by first | (simp [entryFrame, mkF, argsToLocals, Value.category]; done) | rfl
def Q8s (Z : State) (o0 : Addr) (o1 : Addr) (h0 : Heap) (n0 : Nat) (v : Option Value) (h : Heap) (L : List Loc) : Prop := v = none ∧ Fr n0 L ∧ Keep h0 h [o0] ∧ Exa Z h o0 "com/example/unabridged_index/unabridgedindex/server/Answer$ErrorMessage" ∧ Fld Z h o0 "com/example/unabridged_index/unabridgedindex/server/Answer$ErrorMessage" "error" "Ljava/lang/String;" (.ref o1)
set_option maxRecDepth 65536 in
set_option maxHeartbeats 40000000 in
theorem rm8s (l : Launch) (Z : State) (a0 : Array Value) (hw : ∀ d ∈ tables_1, d.before a0 Z = true) (ws : List Jvm.Cond) (o0 : Addr) (o1 : Addr) (h0 : Heap) (n0 : Nat) (Z0 : n0 ≤ h0.size) (E_o0 : Exa Z h0 o0 "com/example/unabridged_index/unabridgedindex/server/Answer$ErrorMessage") (F_e : Fld Z h0 o0 "com/example/unabridged_index/unabridgedindex/server/Answer$ErrorMessage" "error" "Ljava/lang/String;" .null) (g_o0 : n0 ≤ o0) :
    MetFree l (⟨"com/example/unabridged_index/unabridgedindex/server/Answer$ErrorMessage", "<init>", "(Ljava/lang/String;)V"⟩ : MethodName) (head1 (Jvm.Cond.code (⟨"com/example/unabridged_index/unabridgedindex/server/Answer$ErrorMessage", "<init>", "(Ljava/lang/String;)V"⟩ : MethodName) prog_53_method_1_code 2 none :: ws) ({ frames := 2, cells := 0, slots := 0, locals := 24 } : Room)) (fun a U => a = #[(.ref o0), (.ref o1)] ∧ Z.Warmed39 U.vm ∧ U.heap = h0) (fun _ _ _ _ _ => True) (fun _ U o U' => ∃ v L, o = .returned v ∧ Q8s Z o0 o1 h0 n0 v U'.heap L ∧ FrameEnd U o U' L ({ frames := 2, cells := 0, slots := 0, locals := 24 } : Room).cells ({ frames := 2, cells := 0, slots := 0, locals := 24 } : Room).slots) := by
  refine MetFree.of_bodySF (plainFor_of_name pn_8) hisR ?_
  intro p e s m args below meth c s₁ Bd hml0 hP hK
  obtain ⟨rfl, hZ, hh⟩ := hP
  have hx := Bd.exec
  have hby := Bd.bytes
  have hml : c.maxLocals = 2 := hml0
  have hown : s.vm.findClass "com/example/unabridged_index/unabridgedindex/server/Answer$ErrorMessage" = some m.cls := findClass_of_methodNamed Bd.named
  have hnm := (name_of_methodNamed Bd.named Bd.method).1
  have X0 : Stand p l e ({ frames := 2, cells := 0, slots := 0, locals := 24 } : Room) s m #[(.ref o0), (.ref o1)] below meth c s₁ [] 0 0 := Stand.of_body Bd
  have e0 : s₁.heap = h0 := by rw [← hh, Bd.state]; rfl
  have N0 := Fr.nil n0
  obtain ⟨F, hF⟩ : ∃ F : State → Prop, F = own_Fin p e below s ({ frames := 2, cells := 0, slots := 0, locals := 24 } : Room).cells ({ frames := 2, cells := 0, slots := 0, locals := 24 } : Room).slots (fun v h L => Q8s Z o0 o1 h0 n0 v h L) := ⟨_, rfl⟩
  have bk : ∀ {A B : State}, (∀ t, Steps p.tables e below B t → Steps p.tables e below A t) → F B → F A := by
    intro A B h k
    rw [hF] at k ⊢
    exact own_back h k
  suffices hgo : F (s₁.setTop (mkF m 0 #[.val (.ref o0), .val (.ref o1)] [])) by
    have hgo' := bk (fun t k => castTop (T := s₁) (ef_8 m o0 o1) k) hgo
    rw [hF] at hgo'
    exact hgo'
  show F (s₁.setTop (mkF m 0 #[.val (.ref o0), .val (.ref o1)] []))
  refine bk (fun t k => XS.aloadN X0.here hx rfl (hb hby d8_0) rfl rfl k) ?_
  show F (s₁.setTop (mkF m 1 #[.val (.ref o0), .val (.ref o1)] [(.ref o0)]))
  obtain ⟨_, _, ⟨T1, L1, k1, n1⟩, -, X1, ⟨Lc1, hQ1, l1, y1, z1⟩, st1⟩ := X0.specialBack hx (y := (⟨"java/lang/Record", "<init>", "()V"⟩ : MethodName)) rfl hown (mvT hZ (hw _ (List.mem_of_getElem? (i := 42) rfl))) (mvT hZ (hw _ (List.mem_of_getElem? (i := 43) rfl))) (mvT hZ (hw _ (List.mem_of_getElem? (i := 46) rfl))) (by decide) (backOf (W := 0) (rm9 l Z a0 hw [] o0 h0 n0 Z0) hZ (hw _ (List.mem_of_getElem? (i := 46) rfl)) (hw _ (List.mem_of_getElem? (i := 45) rfl)) (by decide) (by decide)) (g := (mkF m 1 #[.val (.ref o0), .val (.ref o1)] [(.ref o0)])) rfl (by rw [hml]; rfl) (Steps.refl _) (a := o0) (argsL := []) (rest := []) (lenOf pd8___V rfl) rfl (by show 2 * 0 + _ ≤ _; exact Nat.le_of_eq rfl) (hb hby d8_1) (fun _ _ => ⟨rfl, e0, (by decide : 0 + 0 ≤ _), (by decide : 0 + 0 ≤ _)⟩)
  dsimp only [Pt.U, Pt.locs, Pt.cells, Pt.slots] at X1 l1 y1 z1 st1 hQ1
  subst l1 y1 z1
  obtain ⟨rfl, N1q, e1⟩ := hQ1
  have N1 := Fr.app N0 N1q
  refine bk (fun t k => st1.trans k) ?_
  show F (T1.setTop (mkF m 4 #[.val (.ref o0), .val (.ref o1)] []))
  refine bk (fun t k => XS.aloadN X1.here hx rfl (hb hby d8_4) rfl rfl k) ?_
  show F (T1.setTop (mkF m 5 #[.val (.ref o0), .val (.ref o1)] [(.ref o0)]))
  refine bk (fun t k => XS.aloadN X1.here hx rfl (hb hby d8_5) rfl rfl k) ?_
  show F (T1.setTop (mkF m 6 #[.val (.ref o0), .val (.ref o1)] [(.ref o1), (.ref o0)]))
  obtain ⟨T2, h2, X2, e2, W2, st2⟩ := putF X1 hx hZ hown (host := "") (Or.inl (hw _ (List.mem_of_getElem? (i := 48) rfl))) Via.refl e1 F_e E_o0 (Or.inr ⟨(hw _ (List.mem_of_getElem? (i := 49) rfl)), rfl, hnm⟩) (hw _ (List.mem_of_getElem? (i := 37) rfl)) (ty := (.object "java/lang/String")) (by decide) rfl rfl (g := (mkF m 6 #[.val (.ref o0), .val (.ref o1)] [(.ref o1), (.ref o0)])) rfl rfl (hb hby d8_6)
  have f3 := E_o0.wr W2
  have f4 := F_e.same W2
  have f5 := Nat.le_trans Z0 (Keep.of_wr W2).1
  have f6 := (Keep.refl h0 [o0]).wr W2 (Or.inl (List.mem_of_getElem? (i := 0) rfl))
  have N2 := Fr.snoc X2 N1 g_o0
  refine bk (fun t k => st2 t k) ?_
  show F (T2.setTop (mkF m 9 #[.val (.ref o0), .val (.ref o1)] []))
  rw [hF]
  refine own_ret0 X2 hx Bd.notSynchronized Bd.returns (hb hby d8_9) (by decide) (by decide) ?_
  rw [e2]
  exact ⟨rfl, N2, f6, f3, f4⟩
theorem ef_8n1 (m : MethodId) (x0 : Addr) : entryFrame m #[(.ref x0), .null] 2 = mkF m 0 #[.val (.ref x0), .val .null] [] := by first | (simp [entryFrame, mkF, argsToLocals, Value.category]; done) | rfl
def Q8n (Z : State) (o0 : Addr) (h0 : Heap) (n0 : Nat) (v : Option Value) (h : Heap) (L : List Loc) : Prop := v = none ∧ Fr n0 L ∧ Keep h0 h [o0] ∧ Exa Z h o0 "com/example/unabridged_index/unabridgedindex/server/Answer$ErrorMessage" ∧ Fld Z h o0 "com/example/unabridged_index/unabridgedindex/server/Answer$ErrorMessage" "error" "Ljava/lang/String;" .null
set_option maxRecDepth 65536 in
set_option maxHeartbeats 40000000 in
theorem rm8n (l : Launch) (Z : State) (a0 : Array Value) (hw : ∀ d ∈ tables_1, d.before a0 Z = true) (ws : List Jvm.Cond) (o0 : Addr) (h0 : Heap) (n0 : Nat) (Z0 : n0 ≤ h0.size) (E_o0 : Exa Z h0 o0 "com/example/unabridged_index/unabridgedindex/server/Answer$ErrorMessage") (F_e : Fld Z h0 o0 "com/example/unabridged_index/unabridgedindex/server/Answer$ErrorMessage" "error" "Ljava/lang/String;" .null) (g_o0 : n0 ≤ o0) :
    MetFree l (⟨"com/example/unabridged_index/unabridgedindex/server/Answer$ErrorMessage", "<init>", "(Ljava/lang/String;)V"⟩ : MethodName) (head1 (Jvm.Cond.code (⟨"com/example/unabridged_index/unabridgedindex/server/Answer$ErrorMessage", "<init>", "(Ljava/lang/String;)V"⟩ : MethodName) prog_53_method_1_code 2 none :: ws) ({ frames := 2, cells := 0, slots := 0, locals := 24 } : Room)) (fun a U => a = #[(.ref o0), .null] ∧ Z.Warmed39 U.vm ∧ U.heap = h0) (fun _ _ _ _ _ => True) (fun _ U o U' => ∃ v L, o = .returned v ∧ Q8n Z o0 h0 n0 v U'.heap L ∧ FrameEnd U o U' L ({ frames := 2, cells := 0, slots := 0, locals := 24 } : Room).cells ({ frames := 2, cells := 0, slots := 0, locals := 24 } : Room).slots) := by
  refine MetFree.of_bodySF (plainFor_of_name pn_8) hisR ?_
  intro p e s m args below meth c s₁ Bd hml0 hP hK
  obtain ⟨rfl, hZ, hh⟩ := hP
  have hx := Bd.exec
  have hby := Bd.bytes
  have hml : c.maxLocals = 2 := hml0
  have hown : s.vm.findClass "com/example/unabridged_index/unabridgedindex/server/Answer$ErrorMessage" = some m.cls := findClass_of_methodNamed Bd.named
  have hnm := (name_of_methodNamed Bd.named Bd.method).1
  have X0 : Stand p l e ({ frames := 2, cells := 0, slots := 0, locals := 24 } : Room) s m #[(.ref o0), .null] below meth c s₁ [] 0 0 := Stand.of_body Bd
  have e0 : s₁.heap = h0 := by rw [← hh, Bd.state]; rfl
  have N0 := Fr.nil n0
  obtain ⟨F, hF⟩ : ∃ F : State → Prop, F = own_Fin p e below s ({ frames := 2, cells := 0, slots := 0, locals := 24 } : Room).cells ({ frames := 2, cells := 0, slots := 0, locals := 24 } : Room).slots (fun v h L => Q8n Z o0 h0 n0 v h L) := ⟨_, rfl⟩
  have bk : ∀ {A B : State}, (∀ t, Steps p.tables e below B t → Steps p.tables e below A t) → F B → F A := by
    intro A B h k
    rw [hF] at k ⊢
    exact own_back h k
  suffices hgo : F (s₁.setTop (mkF m 0 #[.val (.ref o0), .val .null] [])) by
    have hgo' := bk (fun t k => castTop (T := s₁) (ef_8n1 m o0) k) hgo
    rw [hF] at hgo'
    exact hgo'
  show F (s₁.setTop (mkF m 0 #[.val (.ref o0), .val .null] []))
  refine bk (fun t k => XS.aloadN X0.here hx rfl (hb hby d8_0) rfl rfl k) ?_
  show F (s₁.setTop (mkF m 1 #[.val (.ref o0), .val .null] [(.ref o0)]))
  obtain ⟨_, _, ⟨T1, L1, k1, n1⟩, -, X1, ⟨Lc1, hQ1, l1, y1, z1⟩, st1⟩ := X0.specialBack hx (y := (⟨"java/lang/Record", "<init>", "()V"⟩ : MethodName)) rfl hown (mvT hZ (hw _ (List.mem_of_getElem? (i := 42) rfl))) (mvT hZ (hw _ (List.mem_of_getElem? (i := 43) rfl))) (mvT hZ (hw _ (List.mem_of_getElem? (i := 46) rfl))) (by decide) (backOf (W := 0) (rm9 l Z a0 hw [] o0 h0 n0 Z0) hZ (hw _ (List.mem_of_getElem? (i := 46) rfl)) (hw _ (List.mem_of_getElem? (i := 45) rfl)) (by decide) (by decide)) (g := (mkF m 1 #[.val (.ref o0), .val .null] [(.ref o0)])) rfl (by rw [hml]; rfl) (Steps.refl _) (a := o0) (argsL := []) (rest := []) (lenOf pd8___V rfl) rfl (by show 2 * 0 + _ ≤ _; exact Nat.le_of_eq rfl) (hb hby d8_1) (fun _ _ => ⟨rfl, e0, (by decide : 0 + 0 ≤ _), (by decide : 0 + 0 ≤ _)⟩)
  dsimp only [Pt.U, Pt.locs, Pt.cells, Pt.slots] at X1 l1 y1 z1 st1 hQ1
  subst l1 y1 z1
  obtain ⟨rfl, N1q, e1⟩ := hQ1
  have N1 := Fr.app N0 N1q
  refine bk (fun t k => st1.trans k) ?_
  show F (T1.setTop (mkF m 4 #[.val (.ref o0), .val .null] []))
  refine bk (fun t k => XS.aloadN X1.here hx rfl (hb hby d8_4) rfl rfl k) ?_
  show F (T1.setTop (mkF m 5 #[.val (.ref o0), .val .null] [(.ref o0)]))
  refine bk (fun t k => XS.aloadN X1.here hx rfl (hb hby d8_5) rfl rfl k) ?_
  show F (T1.setTop (mkF m 6 #[.val (.ref o0), .val .null] [.null, (.ref o0)]))
  obtain ⟨T2, h2, X2, e2, W2, st2⟩ := putF X1 hx hZ hown (host := "") (Or.inl (hw _ (List.mem_of_getElem? (i := 48) rfl))) Via.refl e1 F_e E_o0 (Or.inr ⟨(hw _ (List.mem_of_getElem? (i := 49) rfl)), rfl, hnm⟩) (hw _ (List.mem_of_getElem? (i := 37) rfl)) (ty := (.object "java/lang/String")) (by decide) rfl rfl (g := (mkF m 6 #[.val (.ref o0), .val .null] [.null, (.ref o0)])) rfl rfl (hb hby d8_6)
  have f3 := E_o0.wr W2
  have f4 := F_e.same W2
  have f5 := Nat.le_trans Z0 (Keep.of_wr W2).1
  have f6 := (Keep.refl h0 [o0]).wr W2 (Or.inl (List.mem_of_getElem? (i := 0) rfl))
  have N2 := Fr.snoc X2 N1 g_o0
  refine bk (fun t k => st2 t k) ?_
  show F (T2.setTop (mkF m 9 #[.val (.ref o0), .val .null] []))
  rw [hF]
  refine own_ret0 X2 hx Bd.notSynchronized Bd.returns (hb hby d8_9) (by decide) (by decide) ?_
  rw [e2]
  exact ⟨rfl, N2, f6, f3, f4⟩
theorem d10_0 : decode prog_52_method_1_code 0 = .ok (.aload_n 0, 1) := by decide +kernel
theorem d10_1 : decode prog_52_method_1_code 1 = .ok (.invokespecial 1, 3) := by decide +kernel
theorem d10_4 : decode prog_52_method_1_code 4 = .ok (.aload_n 0, 1) := by decide +kernel
theorem d10_5 : decode prog_52_method_1_code 5 = .ok (.iload_n 1, 1) := by decide +kernel
theorem d10_6 : decode prog_52_method_1_code 6 = .ok (.putfield 7, 3) := by decide +kernel
theorem d10_9 : decode prog_52_method_1_code 9 = .ok (.aload_n 0, 1) := by decide +kernel
theorem d10_10 : decode prog_52_method_1_code 10 = .ok (.aload_n 2, 1) := by decide +kernel
theorem d10_11 : decode prog_52_method_1_code 11 = .ok (.putfield 13, 3) := by decide +kernel
theorem d10_14 : decode prog_52_method_1_code 14 = .ok (.return_, 1) := by decide +kernel
theorem pd10___V : parseMethodDescriptor "()V" = some ⟨[], none⟩ := by decide +kernel
theorem pn_10 : plainName "com/example/unabridged_index/unabridgedindex/server/Answer" = true := by first | (simp [plainName, overriddenIn]; done) | decide +kernel
theorem ef_10 (m : MethodId) (x0 : Addr) (x1 : Int32) (x2 : Addr) : entryFrame m #[(.ref x0), (.int x1), (.ref x2)] 3 = mkF m 0 #[.val (.ref x0), .val (.int x1), .val (.ref x2)] [] := by first | (simp [entryFrame, mkF, argsToLocals, Value.category]; done) | rfl
def Q10 (Z : State) (o0 : Addr) (p1 : Int32) (o2 : Addr) (h0 : Heap) (n0 : Nat) (v : Option Value) (h : Heap) (L : List Loc) : Prop := v = none ∧ Fr n0 L ∧ Keep h0 h [o0] ∧ Exa Z h o0 "com/example/unabridged_index/unabridgedindex/server/Answer" ∧ Fld Z h o0 "com/example/unabridged_index/unabridgedindex/server/Answer" "status" "I" (.int p1) ∧ Fld Z h o0 "com/example/unabridged_index/unabridgedindex/server/Answer" "body" "Ljava/lang/Object;" (.ref o2)
set_option maxRecDepth 65536 in
set_option maxHeartbeats 40000000 in
theorem rm10 (l : Launch) (Z : State) (a0 : Array Value) (hw : ∀ d ∈ tables_1, d.before a0 Z = true) (ws : List Jvm.Cond) (o0 : Addr) (p1 : Int32) (o2 : Addr) (h0 : Heap) (n0 : Nat) (Z0 : n0 ≤ h0.size) (E_o0 : Exa Z h0 o0 "com/example/unabridged_index/unabridgedindex/server/Answer") (F_s : Fld Z h0 o0 "com/example/unabridged_index/unabridgedindex/server/Answer" "status" "I" (.int (0 : Int32))) (F_b : Fld Z h0 o0 "com/example/unabridged_index/unabridgedindex/server/Answer" "body" "Ljava/lang/Object;" .null) (g_o0 : n0 ≤ o0) :
    MetFree l (⟨"com/example/unabridged_index/unabridgedindex/server/Answer", "<init>", "(ILjava/lang/Object;)V"⟩ : MethodName) (head1 (Jvm.Cond.code (⟨"com/example/unabridged_index/unabridgedindex/server/Answer", "<init>", "(ILjava/lang/Object;)V"⟩ : MethodName) prog_52_method_1_code 3 none :: ws) ({ frames := 2, cells := 0, slots := 0, locals := 24 } : Room)) (fun a U => a = #[(.ref o0), (.int p1), (.ref o2)] ∧ Z.Warmed39 U.vm ∧ U.heap = h0) (fun _ _ _ _ _ => True) (fun _ U o U' => ∃ v L, o = .returned v ∧ Q10 Z o0 p1 o2 h0 n0 v U'.heap L ∧ FrameEnd U o U' L ({ frames := 2, cells := 0, slots := 0, locals := 24 } : Room).cells ({ frames := 2, cells := 0, slots := 0, locals := 24 } : Room).slots) := by
  refine MetFree.of_bodySF (plainFor_of_name pn_10) hisR ?_
  intro p e s m args below meth c s₁ Bd hml0 hP hK
  obtain ⟨rfl, hZ, hh⟩ := hP
  have hx := Bd.exec
  have hby := Bd.bytes
  have hml : c.maxLocals = 3 := hml0
  have hown : s.vm.findClass "com/example/unabridged_index/unabridgedindex/server/Answer" = some m.cls := findClass_of_methodNamed Bd.named
  have hnm := (name_of_methodNamed Bd.named Bd.method).1
  have X0 : Stand p l e ({ frames := 2, cells := 0, slots := 0, locals := 24 } : Room) s m #[(.ref o0), (.int p1), (.ref o2)] below meth c s₁ [] 0 0 := Stand.of_body Bd
  have e0 : s₁.heap = h0 := by rw [← hh, Bd.state]; rfl
  have N0 := Fr.nil n0
  obtain ⟨F, hF⟩ : ∃ F : State → Prop, F = own_Fin p e below s ({ frames := 2, cells := 0, slots := 0, locals := 24 } : Room).cells ({ frames := 2, cells := 0, slots := 0, locals := 24 } : Room).slots (fun v h L => Q10 Z o0 p1 o2 h0 n0 v h L) := ⟨_, rfl⟩
  have bk : ∀ {A B : State}, (∀ t, Steps p.tables e below B t → Steps p.tables e below A t) → F B → F A := by
    intro A B h k
    rw [hF] at k ⊢
    exact own_back h k
  suffices hgo : F (s₁.setTop (mkF m 0 #[.val (.ref o0), .val (.int p1), .val (.ref o2)] [])) by
    have hgo' := bk (fun t k => castTop (T := s₁) (ef_10 m o0 p1 o2) k) hgo
    rw [hF] at hgo'
    exact hgo'
  show F (s₁.setTop (mkF m 0 #[.val (.ref o0), .val (.int p1), .val (.ref o2)] []))
  refine bk (fun t k => XS.aloadN X0.here hx rfl (hb hby d10_0) rfl rfl k) ?_
  show F (s₁.setTop (mkF m 1 #[.val (.ref o0), .val (.int p1), .val (.ref o2)] [(.ref o0)]))
  obtain ⟨_, _, ⟨T1, L1, k1, n1⟩, -, X1, ⟨Lc1, hQ1, l1, y1, z1⟩, st1⟩ := X0.specialBack hx (y := (⟨"java/lang/Record", "<init>", "()V"⟩ : MethodName)) rfl hown (mvT hZ (hw _ (List.mem_of_getElem? (i := 53) rfl))) (mvT hZ (hw _ (List.mem_of_getElem? (i := 43) rfl))) (mvT hZ (hw _ (List.mem_of_getElem? (i := 46) rfl))) (by decide) (backOf (W := 0) (rm9 l Z a0 hw [] o0 h0 n0 Z0) hZ (hw _ (List.mem_of_getElem? (i := 46) rfl)) (hw _ (List.mem_of_getElem? (i := 45) rfl)) (by decide) (by decide)) (g := (mkF m 1 #[.val (.ref o0), .val (.int p1), .val (.ref o2)] [(.ref o0)])) rfl (by rw [hml]; rfl) (Steps.refl _) (a := o0) (argsL := []) (rest := []) (lenOf pd10___V rfl) rfl (by show 2 * 0 + _ ≤ _; exact Nat.le_of_eq rfl) (hb hby d10_1) (fun _ _ => ⟨rfl, e0, (by decide : 0 + 0 ≤ _), (by decide : 0 + 0 ≤ _)⟩)
  dsimp only [Pt.U, Pt.locs, Pt.cells, Pt.slots] at X1 l1 y1 z1 st1 hQ1
  subst l1 y1 z1
  obtain ⟨rfl, N1q, e1⟩ := hQ1
  have N1 := Fr.app N0 N1q
  refine bk (fun t k => st1.trans k) ?_
  show F (T1.setTop (mkF m 4 #[.val (.ref o0), .val (.int p1), .val (.ref o2)] []))
  refine bk (fun t k => XS.aloadN X1.here hx rfl (hb hby d10_4) rfl rfl k) ?_
  show F (T1.setTop (mkF m 5 #[.val (.ref o0), .val (.int p1), .val (.ref o2)] [(.ref o0)]))
  refine bk (fun t k => XS.iloadN X1.here hx rfl (hb hby d10_5) rfl k) ?_
  show F (T1.setTop (mkF m 6 #[.val (.ref o0), .val (.int p1), .val (.ref o2)] [(.int p1), (.ref o0)]))
  obtain ⟨T2, h2, X2, e2, W2, st2⟩ := putF X1 hx hZ hown (host := "") (Or.inl (hw _ (List.mem_of_getElem? (i := 54) rfl))) Via.refl e1 F_s E_o0 (Or.inr ⟨(hw _ (List.mem_of_getElem? (i := 55) rfl)), rfl, hnm⟩) (hw _ (List.mem_of_getElem? (i := 35) rfl)) (ty := .int) (by decide) rfl rfl (g := (mkF m 6 #[.val (.ref o0), .val (.int p1), .val (.ref o2)] [(.int p1), (.ref o0)])) rfl rfl (hb hby d10_6)
  have f3 := E_o0.wr W2
  have f4 := F_s.same W2
  have f5 := F_b.other W2 (Or.inr (slot_ne (Or.inr (hw _ (List.mem_of_getElem? (i := 57) rfl))) (Or.inr (hw _ (List.mem_of_getElem? (i := 55) rfl))) (by decide) (t := (.object "java/lang/Object")) (t' := .int) (by decide) (by decide)))
  have f6 := Nat.le_trans Z0 (Keep.of_wr W2).1
  have f7 := (Keep.refl h0 [o0]).wr W2 (Or.inl (List.mem_of_getElem? (i := 0) rfl))
  have N2 := Fr.snoc X2 N1 g_o0
  refine bk (fun t k => st2 t k) ?_
  show F (T2.setTop (mkF m 9 #[.val (.ref o0), .val (.int p1), .val (.ref o2)] []))
  refine bk (fun t k => XS.aloadN X2.here hx rfl (hb hby d10_9) rfl rfl k) ?_
  show F (T2.setTop (mkF m 10 #[.val (.ref o0), .val (.int p1), .val (.ref o2)] [(.ref o0)]))
  refine bk (fun t k => XS.aloadN X2.here hx rfl (hb hby d10_10) rfl rfl k) ?_
  show F (T2.setTop (mkF m 11 #[.val (.ref o0), .val (.int p1), .val (.ref o2)] [(.ref o2), (.ref o0)]))
  obtain ⟨T8, h8, X8, e8, W8, st8⟩ := putF X2 hx hZ hown (host := "") (Or.inl (hw _ (List.mem_of_getElem? (i := 56) rfl))) Via.refl e2 f5 f3 (Or.inr ⟨(hw _ (List.mem_of_getElem? (i := 57) rfl)), rfl, hnm⟩) (hw _ (List.mem_of_getElem? (i := 35) rfl)) (ty := (.object "java/lang/Object")) (by decide) rfl rfl (g := (mkF m 11 #[.val (.ref o0), .val (.int p1), .val (.ref o2)] [(.ref o2), (.ref o0)])) rfl rfl (hb hby d10_11)
  have f9 := f3.wr W8
  have f10 := f4.other W8 (Or.inr (slot_ne (Or.inr (hw _ (List.mem_of_getElem? (i := 55) rfl))) (Or.inr (hw _ (List.mem_of_getElem? (i := 57) rfl))) (by decide) (t := .int) (t' := (.object "java/lang/Object")) (by decide) (by decide)))
  have f11 := f5.same W8
  have f12 := Nat.le_trans f6 (Keep.of_wr W8).1
  have f13 := f7.wr W8 (Or.inl (List.mem_of_getElem? (i := 0) rfl))
  have N8 := Fr.snoc X8 N2 g_o0
  refine bk (fun t k => st8 t k) ?_
  show F (T8.setTop (mkF m 14 #[.val (.ref o0), .val (.int p1), .val (.ref o2)] []))
  rw [hF]
  refine own_ret0 X8 hx Bd.notSynchronized Bd.returns (hb hby d10_14) (by decide) (by decide) ?_
  rw [e8]
  exact ⟨rfl, N8, f13, f9, f10, f11⟩
theorem d7_0 : decode prog_52_method_2_code 0 = .ok (.new 8, 3) := by decide +kernel
theorem d7_3 : decode prog_52_method_2_code 3 = .ok (.dup, 1) := by decide +kernel
theorem d7_4 : decode prog_52_method_2_code 4 = .ok (.iload_n 0, 1) := by decide +kernel
theorem d7_5 : decode prog_52_method_2_code 5 = .ok (.new 17, 3) := by decide +kernel
theorem d7_8 : decode prog_52_method_2_code 8 = .ok (.dup, 1) := by decide +kernel
theorem d7_9 : decode prog_52_method_2_code 9 = .ok (.aload_n 1, 1) := by decide +kernel
theorem d7_10 : decode prog_52_method_2_code 10 = .ok (.invokespecial 19, 3) := by decide +kernel
theorem d7_13 : decode prog_52_method_2_code 13 = .ok (.invokespecial 22, 3) := by decide +kernel
theorem d7_16 : decode prog_52_method_2_code 16 = .ok (.areturn, 1) := by decide +kernel
theorem pd7__Ljava_lang_String__V : parseMethodDescriptor "(Ljava/lang/String;)V" = some ⟨[(.object "java/lang/String")], none⟩ := by decide +kernel
theorem pd7__ILjava_lang_Object__V : parseMethodDescriptor "(ILjava/lang/Object;)V" = some ⟨[.int, (.object "java/lang/Object")], none⟩ := by decide +kernel
theorem pn_7 : plainName "com/example/unabridged_index/unabridgedindex/server/Answer" = true := by first | (simp [plainName, overriddenIn]; done) | decide +kernel
theorem ef_7 (m : MethodId) (x0 : Int32) (x1 : Addr) : entryFrame m #[(.int x0), (.ref x1)] 2 = mkF m 0 #[.val (.int x0), .val (.ref x1)] [] := by first | (simp [entryFrame, mkF, argsToLocals, Value.category]; done) | rfl
def Q7s (Z : State) (p0 : Int32) (o1 : Addr) (h0 : Heap) (n0 : Nat) (v : Option Value) (h : Heap) (L : List Loc) : Prop := ∃ (r em : Addr), v = some (.ref r) ∧ Fr n0 L ∧ Keep h0 h [] ∧ Exa Z h r "com/example/unabridged_index/unabridgedindex/server/Answer" ∧ Fld Z h r "com/example/unabridged_index/unabridgedindex/server/Answer" "status" "I" (.int p0) ∧ Fld Z h r "com/example/unabridged_index/unabridgedindex/server/Answer" "body" "Ljava/lang/Object;" (.ref em) ∧ Exa Z h em "com/example/unabridged_index/unabridgedindex/server/Answer$ErrorMessage" ∧ Fld Z h em "com/example/unabridged_index/unabridgedindex/server/Answer$ErrorMessage" "error" "Ljava/lang/String;" (.ref o1)
set_option maxRecDepth 65536 in
set_option maxHeartbeats 40000000 in
theorem rm7s (l : Launch) (Z : State) (a0 : Array Value) (hw : ∀ d ∈ tables_1, d.before a0 Z = true) (ws : List Jvm.Cond) (p0 : Int32) (o1 : Addr) (h0 : Heap) (n0 : Nat) (Z0 : n0 ≤ h0.size) :
    MetFree l (⟨"com/example/unabridged_index/unabridgedindex/server/Answer", "error", "(ILjava/lang/String;)Lcom/example/unabridged_index/unabridgedindex/server/Answer;"⟩ : MethodName) (head1 (Jvm.Cond.code (⟨"com/example/unabridged_index/unabridgedindex/server/Answer", "error", "(ILjava/lang/String;)Lcom/example/unabridged_index/unabridgedindex/server/Answer;"⟩ : MethodName) prog_52_method_2_code 2 (some (.object "com/example/unabridged_index/unabridgedindex/server/Answer")) :: ws) ({ frames := 3, cells := 2, slots := 3, locals := 41 } : Room)) (fun a U => a = #[(.int p0), (.ref o1)] ∧ Z.Warmed39 U.vm ∧ U.heap = h0) (fun _ _ _ _ _ => True) (fun _ U o U' => ∃ v L, o = .returned v ∧ Q7s Z p0 o1 h0 n0 v U'.heap L ∧ FrameEnd U o U' L ({ frames := 3, cells := 2, slots := 3, locals := 41 } : Room).cells ({ frames := 3, cells := 2, slots := 3, locals := 41 } : Room).slots) := by
  refine MetFree.of_bodySF (plainFor_of_name pn_7) hisR ?_
  intro p e s m args below meth c s₁ Bd hml0 hP hK
  obtain ⟨rfl, hZ, hh⟩ := hP
  have hx := Bd.exec
  have hby := Bd.bytes
  have hml : c.maxLocals = 2 := hml0
  have hown : s.vm.findClass "com/example/unabridged_index/unabridgedindex/server/Answer" = some m.cls := findClass_of_methodNamed Bd.named
  have hnm := (name_of_methodNamed Bd.named Bd.method).1
  have X0 : Stand p l e ({ frames := 3, cells := 2, slots := 3, locals := 41 } : Room) s m #[(.int p0), (.ref o1)] below meth c s₁ [] 0 0 := Stand.of_body Bd
  have e0 : s₁.heap = h0 := by rw [← hh, Bd.state]; rfl
  have N0 := Fr.nil n0
  obtain ⟨F, hF⟩ : ∃ F : State → Prop, F = own_Fin p e below s ({ frames := 3, cells := 2, slots := 3, locals := 41 } : Room).cells ({ frames := 3, cells := 2, slots := 3, locals := 41 } : Room).slots (fun v h L => Q7s Z p0 o1 h0 n0 v h L) := ⟨_, rfl⟩
  have bk : ∀ {A B : State}, (∀ t, Steps p.tables e below B t → Steps p.tables e below A t) → F B → F A := by
    intro A B h k
    rw [hF] at k ⊢
    exact own_back h k
  suffices hgo : F (s₁.setTop (mkF m 0 #[.val (.int p0), .val (.ref o1)] [])) by
    have hgo' := bk (fun t k => castTop (T := s₁) (ef_7 m p0 o1) k) hgo
    rw [hF] at hgo'
    exact hgo'
  show F (s₁.setTop (mkF m 0 #[.val (.int p0), .val (.ref o1)] []))
  obtain ⟨T1, h1, X1, e1, E1, A1, D1, -, st1⟩ := newO X0 hx hZ hown (hw _ (List.mem_of_getElem? (i := 34) rfl)) (hw _ (List.mem_of_getElem? (i := 35) rfl)) (hw _ (List.mem_of_getElem? (i := 32) rfl)) e0 (g := (mkF m 0 #[.val (.int p0), .val (.ref o1)] [])) rfl (hb hby d7_0) (by decide) (by decide)
  obtain ⟨b1, g1⟩ : ∃ z, z = h0.size := ⟨_, rfl⟩
  rw [← g1] at A1 D1 st1
  have Gb1 : n0 ≤ b1 := Nat.le_trans Z0 (Nat.le_of_eq g1.symm)
  have sz_b1 : h0.size ≤ b1 := Nat.le_trans (Keep.refl h0 []).1 (Nat.le_of_eq g1.symm)
  have f2 := Nat.le_trans Z0 E1.1
  have f3 := (Keep.refl h0 []).ext E1
  have F_status_b1 : Fld Z h1 b1 "com/example/unabridged_index/unabridgedindex/server/Answer" "status" "I" (.int (0 : Int32)) := D1 (Or.inr (hw _ (List.mem_of_getElem? (i := 55) rfl))) (ty := .int) (by decide)
  have F_body_b1 : Fld Z h1 b1 "com/example/unabridged_index/unabridgedindex/server/Answer" "body" "Ljava/lang/Object;" .null := D1 (Or.inr (hw _ (List.mem_of_getElem? (i := 57) rfl))) (ty := (.object "java/lang/Object")) (by decide)
  refine bk (fun t k => st1 t k) ?_
  show F (T1.setTop (mkF m 3 #[.val (.int p0), .val (.ref o1)] [(.ref b1)]))
  refine bk (fun t k => XS.dup X1.here hx rfl (hb hby d7_3) rfl rfl k) ?_
  show F (T1.setTop (mkF m 4 #[.val (.int p0), .val (.ref o1)] [(.ref b1), (.ref b1)]))
  refine bk (fun t k => XS.iloadN X1.here hx rfl (hb hby d7_4) rfl k) ?_
  show F (T1.setTop (mkF m 5 #[.val (.int p0), .val (.ref o1)] [(.int p0), (.ref b1), (.ref b1)]))
  obtain ⟨T4, h4, X4, e4, E4, A4, D4, -, st4⟩ := newO X1 hx hZ hown (hw _ (List.mem_of_getElem? (i := 36) rfl)) (hw _ (List.mem_of_getElem? (i := 37) rfl)) (hw _ (List.mem_of_getElem? (i := 38) rfl)) e1 (g := (mkF m 5 #[.val (.int p0), .val (.ref o1)] [(.int p0), (.ref b1), (.ref b1)])) rfl (hb hby d7_5) (by decide) (by decide)
  obtain ⟨b4, g4⟩ : ∃ z, z = h1.size := ⟨_, rfl⟩
  rw [← g4] at A4 D4 st4
  have Gb4 : n0 ≤ b4 := Nat.le_trans f2 (Nat.le_of_eq g4.symm)
  have sz_b4 : h0.size ≤ b4 := Nat.le_trans f3.1 (Nat.le_of_eq g4.symm)
  have ne_b1_b4 : b1 ≠ b4 := Nat.ne_of_lt (Nat.lt_of_lt_of_le A1.lt (Nat.le_of_eq g4.symm))
  have f5 := Nat.le_trans f2 E4.1
  have f6 := f3.ext E4
  have f7 := A1.ext E4
  have f8 := F_status_b1.ext E4
  have f9 := F_body_b1.ext E4
  have F_error_b4 : Fld Z h4 b4 "com/example/unabridged_index/unabridgedindex/server/Answer$ErrorMessage" "error" "Ljava/lang/String;" .null := D4 (Or.inr (hw _ (List.mem_of_getElem? (i := 49) rfl))) (ty := (.object "java/lang/String")) (by decide)
  refine bk (fun t k => st4 t k) ?_
  show F (T4.setTop (mkF m 8 #[.val (.int p0), .val (.ref o1)] [(.ref b4), (.int p0), (.ref b1), (.ref b1)]))
  refine bk (fun t k => XS.dup X4.here hx rfl (hb hby d7_8) rfl rfl k) ?_
  show F (T4.setTop (mkF m 9 #[.val (.int p0), .val (.ref o1)] [(.ref b4), (.ref b4), (.int p0), (.ref b1), (.ref b1)]))
  refine bk (fun t k => XS.aloadN X4.here hx rfl (hb hby d7_9) rfl rfl k) ?_
  show F (T4.setTop (mkF m 10 #[.val (.int p0), .val (.ref o1)] [(.ref o1), (.ref b4), (.ref b4), (.int p0), (.ref b1), (.ref b1)]))
  obtain ⟨_, _, ⟨T10, L10, k10, n10⟩, -, X10, ⟨Lc10, hQ10, l10, y10, z10⟩, st10⟩ := X4.specialBack hx (y := (⟨"com/example/unabridged_index/unabridgedindex/server/Answer$ErrorMessage", "<init>", "(Ljava/lang/String;)V"⟩ : MethodName)) rfl hown (mvT hZ (hw _ (List.mem_of_getElem? (i := 39) rfl))) (mvT hZ (hw _ (List.mem_of_getElem? (i := 40) rfl))) (mvT hZ (hw _ (List.mem_of_getElem? (i := 41) rfl))) (by decide) (backOf (W := 4) (rm8s l Z a0 hw [] b4 o1 h4 n0 f5 A4 F_error_b4 Gb4) hZ (hw _ (List.mem_of_getElem? (i := 41) rfl)) (hw _ (List.mem_of_getElem? (i := 38) rfl)) (by decide) (by decide)) (g := (mkF m 10 #[.val (.int p0), .val (.ref o1)] [(.ref o1), (.ref b4), (.ref b4), (.int p0), (.ref b1), (.ref b1)])) rfl (by rw [hml]; rfl) (Steps.refl _) (a := b4) (argsL := [(.ref o1)]) (rest := [(.ref b4), (.int p0), (.ref b1), (.ref b1)]) (lenOf pd7__Ljava_lang_String__V rfl) rfl (by show 2 * 0 + _ ≤ _; exact Nat.le_of_eq rfl) (hb hby d7_10) (fun _ _ => ⟨rfl, e4, (by decide : 2 + 0 ≤ _), (by decide : 3 + 0 ≤ _)⟩)
  dsimp only [Pt.U, Pt.locs, Pt.cells, Pt.slots] at X10 l10 y10 z10 st10 hQ10
  subst l10 y10 z10
  obtain ⟨rfl, N10q, K10, gE10, gF10⟩ := hQ10
  have N10 := Fr.app N0 N10q
  have f11 := Nat.le_trans f5 K10.1
  have f12 := f6.trans K10 (allS (Or.inr sz_b4) all0)
  have f13 := f7.keep K10
  have f14 := f8.keep K10 (ninS ne_b1_b4 nin0)
  have f15 := f9.keep K10 (ninS ne_b1_b4 nin0)
  have f16 := A4.keep K10
  refine bk (fun t k => st10.trans k) ?_
  show F (T10.setTop (mkF m 13 #[.val (.int p0), .val (.ref o1)] [(.ref b4), (.int p0), (.ref b1), (.ref b1)]))
  obtain ⟨_, _, ⟨T17, L17, k17, n17⟩, -, X17, ⟨Lc17, hQ17, l17, y17, z17⟩, st17⟩ := X10.specialBack hx (y := (⟨"com/example/unabridged_index/unabridgedindex/server/Answer", "<init>", "(ILjava/lang/Object;)V"⟩ : MethodName)) rfl hown (mvT hZ (hw _ (List.mem_of_getElem? (i := 50) rfl))) (mvT hZ (hw _ (List.mem_of_getElem? (i := 51) rfl))) (mvT hZ (hw _ (List.mem_of_getElem? (i := 52) rfl))) (by decide) (backOf (W := 1) (rm10 l Z a0 hw [] b1 p0 b4 T10.heap n0 f11 f13 f14 f15 Gb1) hZ (hw _ (List.mem_of_getElem? (i := 52) rfl)) (hw _ (List.mem_of_getElem? (i := 32) rfl)) (by decide) (by decide)) (g := (mkF m 13 #[.val (.int p0), .val (.ref o1)] [(.ref b4), (.int p0), (.ref b1), (.ref b1)])) rfl (by rw [hml]; rfl) (Steps.refl _) (a := b1) (argsL := [(.int p0), (.ref b4)]) (rest := [(.ref b1)]) (lenOf pd7__ILjava_lang_Object__V rfl) rfl (by show 2 * 0 + _ ≤ _; exact Nat.le_of_eq rfl) (hb hby d7_13) (fun _ _ => ⟨rfl, rfl, (by decide : 2 + 0 ≤ _), (by decide : 3 + 0 ≤ _)⟩)
  dsimp only [Pt.U, Pt.locs, Pt.cells, Pt.slots] at X17 l17 y17 z17 st17 hQ17
  subst l17 y17 z17
  obtain ⟨rfl, N17q, K17, gE17, gS17, gB17⟩ := hQ17
  have N17 := Fr.app N10 N17q
  have f18 := Nat.le_trans f11 K17.1
  have f19 := f12.trans K17 (allS (Or.inr sz_b1) all0)
  have f20 := f13.keep K17
  have f21 := gE10.keep K17
  have f22 := gF10.keep K17 (ninS (Ne.symm ne_b1_b4) nin0)
  refine bk (fun t k => st17.trans k) ?_
  show F (T17.setTop (mkF m 16 #[.val (.int p0), .val (.ref o1)] [(.ref b1)]))
  rw [hF]
  refine own_retA X17 hx Bd.notSynchronized Bd.returns rfl rfl (hb hby d7_16) (by decide) (by decide) ?_
  exact ⟨b1, b4, rfl, N17, f19, gE17, gS17, gB17, f21, f22⟩
theorem ef_7n1 (m : MethodId) (x0 : Int32) : entryFrame m #[(.int x0), .null] 2 = mkF m 0 #[.val (.int x0), .val .null] [] := by first | (simp [entryFrame, mkF, argsToLocals, Value.category]; done) | rfl
def Q7n (Z : State) (p0 : Int32) (h0 : Heap) (n0 : Nat) (v : Option Value) (h : Heap) (L : List Loc) : Prop := ∃ (r em : Addr), v = some (.ref r) ∧ Fr n0 L ∧ Keep h0 h [] ∧ Exa Z h r "com/example/unabridged_index/unabridgedindex/server/Answer" ∧ Fld Z h r "com/example/unabridged_index/unabridgedindex/server/Answer" "status" "I" (.int p0) ∧ Fld Z h r "com/example/unabridged_index/unabridgedindex/server/Answer" "body" "Ljava/lang/Object;" (.ref em) ∧ Exa Z h em "com/example/unabridged_index/unabridgedindex/server/Answer$ErrorMessage" ∧ Fld Z h em "com/example/unabridged_index/unabridgedindex/server/Answer$ErrorMessage" "error" "Ljava/lang/String;" .null
set_option maxRecDepth 65536 in
set_option maxHeartbeats 40000000 in
theorem rm7n (l : Launch) (Z : State) (a0 : Array Value) (hw : ∀ d ∈ tables_1, d.before a0 Z = true) (ws : List Jvm.Cond) (p0 : Int32) (h0 : Heap) (n0 : Nat) (Z0 : n0 ≤ h0.size) :
    MetFree l (⟨"com/example/unabridged_index/unabridgedindex/server/Answer", "error", "(ILjava/lang/String;)Lcom/example/unabridged_index/unabridgedindex/server/Answer;"⟩ : MethodName) (head1 (Jvm.Cond.code (⟨"com/example/unabridged_index/unabridgedindex/server/Answer", "error", "(ILjava/lang/String;)Lcom/example/unabridged_index/unabridgedindex/server/Answer;"⟩ : MethodName) prog_52_method_2_code 2 (some (.object "com/example/unabridged_index/unabridgedindex/server/Answer")) :: ws) ({ frames := 3, cells := 2, slots := 3, locals := 41 } : Room)) (fun a U => a = #[(.int p0), .null] ∧ Z.Warmed39 U.vm ∧ U.heap = h0) (fun _ _ _ _ _ => True) (fun _ U o U' => ∃ v L, o = .returned v ∧ Q7n Z p0 h0 n0 v U'.heap L ∧ FrameEnd U o U' L ({ frames := 3, cells := 2, slots := 3, locals := 41 } : Room).cells ({ frames := 3, cells := 2, slots := 3, locals := 41 } : Room).slots) := by
  refine MetFree.of_bodySF (plainFor_of_name pn_7) hisR ?_
  intro p e s m args below meth c s₁ Bd hml0 hP hK
  obtain ⟨rfl, hZ, hh⟩ := hP
  have hx := Bd.exec
  have hby := Bd.bytes
  have hml : c.maxLocals = 2 := hml0
  have hown : s.vm.findClass "com/example/unabridged_index/unabridgedindex/server/Answer" = some m.cls := findClass_of_methodNamed Bd.named
  have hnm := (name_of_methodNamed Bd.named Bd.method).1
  have X0 : Stand p l e ({ frames := 3, cells := 2, slots := 3, locals := 41 } : Room) s m #[(.int p0), .null] below meth c s₁ [] 0 0 := Stand.of_body Bd
  have e0 : s₁.heap = h0 := by rw [← hh, Bd.state]; rfl
  have N0 := Fr.nil n0
  obtain ⟨F, hF⟩ : ∃ F : State → Prop, F = own_Fin p e below s ({ frames := 3, cells := 2, slots := 3, locals := 41 } : Room).cells ({ frames := 3, cells := 2, slots := 3, locals := 41 } : Room).slots (fun v h L => Q7n Z p0 h0 n0 v h L) := ⟨_, rfl⟩
  have bk : ∀ {A B : State}, (∀ t, Steps p.tables e below B t → Steps p.tables e below A t) → F B → F A := by
    intro A B h k
    rw [hF] at k ⊢
    exact own_back h k
  suffices hgo : F (s₁.setTop (mkF m 0 #[.val (.int p0), .val .null] [])) by
    have hgo' := bk (fun t k => castTop (T := s₁) (ef_7n1 m p0) k) hgo
    rw [hF] at hgo'
    exact hgo'
  show F (s₁.setTop (mkF m 0 #[.val (.int p0), .val .null] []))
  obtain ⟨T1, h1, X1, e1, E1, A1, D1, -, st1⟩ := newO X0 hx hZ hown (hw _ (List.mem_of_getElem? (i := 34) rfl)) (hw _ (List.mem_of_getElem? (i := 35) rfl)) (hw _ (List.mem_of_getElem? (i := 32) rfl)) e0 (g := (mkF m 0 #[.val (.int p0), .val .null] [])) rfl (hb hby d7_0) (by decide) (by decide)
  obtain ⟨b1, g1⟩ : ∃ z, z = h0.size := ⟨_, rfl⟩
  rw [← g1] at A1 D1 st1
  have Gb1 : n0 ≤ b1 := Nat.le_trans Z0 (Nat.le_of_eq g1.symm)
  have sz_b1 : h0.size ≤ b1 := Nat.le_trans (Keep.refl h0 []).1 (Nat.le_of_eq g1.symm)
  have f2 := Nat.le_trans Z0 E1.1
  have f3 := (Keep.refl h0 []).ext E1
  have F_status_b1 : Fld Z h1 b1 "com/example/unabridged_index/unabridgedindex/server/Answer" "status" "I" (.int (0 : Int32)) := D1 (Or.inr (hw _ (List.mem_of_getElem? (i := 55) rfl))) (ty := .int) (by decide)
  have F_body_b1 : Fld Z h1 b1 "com/example/unabridged_index/unabridgedindex/server/Answer" "body" "Ljava/lang/Object;" .null := D1 (Or.inr (hw _ (List.mem_of_getElem? (i := 57) rfl))) (ty := (.object "java/lang/Object")) (by decide)
  refine bk (fun t k => st1 t k) ?_
  show F (T1.setTop (mkF m 3 #[.val (.int p0), .val .null] [(.ref b1)]))
  refine bk (fun t k => XS.dup X1.here hx rfl (hb hby d7_3) rfl rfl k) ?_
  show F (T1.setTop (mkF m 4 #[.val (.int p0), .val .null] [(.ref b1), (.ref b1)]))
  refine bk (fun t k => XS.iloadN X1.here hx rfl (hb hby d7_4) rfl k) ?_
  show F (T1.setTop (mkF m 5 #[.val (.int p0), .val .null] [(.int p0), (.ref b1), (.ref b1)]))
  obtain ⟨T4, h4, X4, e4, E4, A4, D4, -, st4⟩ := newO X1 hx hZ hown (hw _ (List.mem_of_getElem? (i := 36) rfl)) (hw _ (List.mem_of_getElem? (i := 37) rfl)) (hw _ (List.mem_of_getElem? (i := 38) rfl)) e1 (g := (mkF m 5 #[.val (.int p0), .val .null] [(.int p0), (.ref b1), (.ref b1)])) rfl (hb hby d7_5) (by decide) (by decide)
  obtain ⟨b4, g4⟩ : ∃ z, z = h1.size := ⟨_, rfl⟩
  rw [← g4] at A4 D4 st4
  have Gb4 : n0 ≤ b4 := Nat.le_trans f2 (Nat.le_of_eq g4.symm)
  have sz_b4 : h0.size ≤ b4 := Nat.le_trans f3.1 (Nat.le_of_eq g4.symm)
  have ne_b1_b4 : b1 ≠ b4 := Nat.ne_of_lt (Nat.lt_of_lt_of_le A1.lt (Nat.le_of_eq g4.symm))
  have f5 := Nat.le_trans f2 E4.1
  have f6 := f3.ext E4
  have f7 := A1.ext E4
  have f8 := F_status_b1.ext E4
  have f9 := F_body_b1.ext E4
  have F_error_b4 : Fld Z h4 b4 "com/example/unabridged_index/unabridgedindex/server/Answer$ErrorMessage" "error" "Ljava/lang/String;" .null := D4 (Or.inr (hw _ (List.mem_of_getElem? (i := 49) rfl))) (ty := (.object "java/lang/String")) (by decide)
  refine bk (fun t k => st4 t k) ?_
  show F (T4.setTop (mkF m 8 #[.val (.int p0), .val .null] [(.ref b4), (.int p0), (.ref b1), (.ref b1)]))
  refine bk (fun t k => XS.dup X4.here hx rfl (hb hby d7_8) rfl rfl k) ?_
  show F (T4.setTop (mkF m 9 #[.val (.int p0), .val .null] [(.ref b4), (.ref b4), (.int p0), (.ref b1), (.ref b1)]))
  refine bk (fun t k => XS.aloadN X4.here hx rfl (hb hby d7_9) rfl rfl k) ?_
  show F (T4.setTop (mkF m 10 #[.val (.int p0), .val .null] [.null, (.ref b4), (.ref b4), (.int p0), (.ref b1), (.ref b1)]))
  obtain ⟨_, _, ⟨T10, L10, k10, n10⟩, -, X10, ⟨Lc10, hQ10, l10, y10, z10⟩, st10⟩ := X4.specialBack hx (y := (⟨"com/example/unabridged_index/unabridgedindex/server/Answer$ErrorMessage", "<init>", "(Ljava/lang/String;)V"⟩ : MethodName)) rfl hown (mvT hZ (hw _ (List.mem_of_getElem? (i := 39) rfl))) (mvT hZ (hw _ (List.mem_of_getElem? (i := 40) rfl))) (mvT hZ (hw _ (List.mem_of_getElem? (i := 41) rfl))) (by decide) (backOf (W := 4) (rm8n l Z a0 hw [] b4  h4 n0 f5 A4 F_error_b4 Gb4) hZ (hw _ (List.mem_of_getElem? (i := 41) rfl)) (hw _ (List.mem_of_getElem? (i := 38) rfl)) (by decide) (by decide)) (g := (mkF m 10 #[.val (.int p0), .val .null] [.null, (.ref b4), (.ref b4), (.int p0), (.ref b1), (.ref b1)])) rfl (by rw [hml]; rfl) (Steps.refl _) (a := b4) (argsL := [.null]) (rest := [(.ref b4), (.int p0), (.ref b1), (.ref b1)]) (lenOf pd7__Ljava_lang_String__V rfl) rfl (by show 2 * 0 + _ ≤ _; exact Nat.le_of_eq rfl) (hb hby d7_10) (fun _ _ => ⟨rfl, e4, (by decide : 2 + 0 ≤ _), (by decide : 3 + 0 ≤ _)⟩)
  dsimp only [Pt.U, Pt.locs, Pt.cells, Pt.slots] at X10 l10 y10 z10 st10 hQ10
  subst l10 y10 z10
  obtain ⟨rfl, N10q, K10, gE10, gF10⟩ := hQ10
  have N10 := Fr.app N0 N10q
  have f11 := Nat.le_trans f5 K10.1
  have f12 := f6.trans K10 (allS (Or.inr sz_b4) all0)
  have f13 := f7.keep K10
  have f14 := f8.keep K10 (ninS ne_b1_b4 nin0)
  have f15 := f9.keep K10 (ninS ne_b1_b4 nin0)
  have f16 := A4.keep K10
  refine bk (fun t k => st10.trans k) ?_
  show F (T10.setTop (mkF m 13 #[.val (.int p0), .val .null] [(.ref b4), (.int p0), (.ref b1), (.ref b1)]))
  obtain ⟨_, _, ⟨T17, L17, k17, n17⟩, -, X17, ⟨Lc17, hQ17, l17, y17, z17⟩, st17⟩ := X10.specialBack hx (y := (⟨"com/example/unabridged_index/unabridgedindex/server/Answer", "<init>", "(ILjava/lang/Object;)V"⟩ : MethodName)) rfl hown (mvT hZ (hw _ (List.mem_of_getElem? (i := 50) rfl))) (mvT hZ (hw _ (List.mem_of_getElem? (i := 51) rfl))) (mvT hZ (hw _ (List.mem_of_getElem? (i := 52) rfl))) (by decide) (backOf (W := 1) (rm10 l Z a0 hw [] b1 p0 b4 T10.heap n0 f11 f13 f14 f15 Gb1) hZ (hw _ (List.mem_of_getElem? (i := 52) rfl)) (hw _ (List.mem_of_getElem? (i := 32) rfl)) (by decide) (by decide)) (g := (mkF m 13 #[.val (.int p0), .val .null] [(.ref b4), (.int p0), (.ref b1), (.ref b1)])) rfl (by rw [hml]; rfl) (Steps.refl _) (a := b1) (argsL := [(.int p0), (.ref b4)]) (rest := [(.ref b1)]) (lenOf pd7__ILjava_lang_Object__V rfl) rfl (by show 2 * 0 + _ ≤ _; exact Nat.le_of_eq rfl) (hb hby d7_13) (fun _ _ => ⟨rfl, rfl, (by decide : 2 + 0 ≤ _), (by decide : 3 + 0 ≤ _)⟩)
  dsimp only [Pt.U, Pt.locs, Pt.cells, Pt.slots] at X17 l17 y17 z17 st17 hQ17
  subst l17 y17 z17
  obtain ⟨rfl, N17q, K17, gE17, gS17, gB17⟩ := hQ17
  have N17 := Fr.app N10 N17q
  have f18 := Nat.le_trans f11 K17.1
  have f19 := f12.trans K17 (allS (Or.inr sz_b1) all0)
  have f20 := f13.keep K17
  have f21 := gE10.keep K17
  have f22 := gF10.keep K17 (ninS (Ne.symm ne_b1_b4) nin0)
  refine bk (fun t k => st17.trans k) ?_
  show F (T17.setTop (mkF m 16 #[.val (.int p0), .val .null] [(.ref b1)]))
  rw [hF]
  refine own_retA X17 hx Bd.notSynchronized Bd.returns rfl rfl (hb hby d7_16) (by decide) (by decide) ?_
  exact ⟨b1, b4, rfl, N17, f19, gE17, gS17, gB17, f21, f22⟩
theorem d11_0 : decode prog_52_method_6_code 0 = .ok (.aload_n 0, 1) := by decide +kernel
theorem d11_1 : decode prog_52_method_6_code 1 = .ok (.getfield 7, 3) := by decide +kernel
theorem d11_4 : decode prog_52_method_6_code 4 = .ok (.ireturn, 1) := by decide +kernel
theorem pn_11 : plainName "com/example/unabridged_index/unabridgedindex/server/Answer" = true := by first | (simp [plainName, overriddenIn]; done) | decide +kernel
theorem ef_11 (m : MethodId) (x0 : Addr) : entryFrame m #[(.ref x0)] 1 = mkF m 0 #[.val (.ref x0)] [] := by first | (simp [entryFrame, mkF, argsToLocals, Value.category]; done) | rfl
def Q11 (Z : State) (o0 : Addr) (kk : Int32) (h0 : Heap) (n0 : Nat) (v : Option Value) (h : Heap) (L : List Loc) : Prop := v = some (.int kk) ∧ Fr n0 L ∧ h = h0
set_option maxRecDepth 65536 in
set_option maxHeartbeats 40000000 in
theorem rm11 (l : Launch) (Z : State) (a0 : Array Value) (hw : ∀ d ∈ tables_1, d.before a0 Z = true) (ws : List Jvm.Cond) (o0 : Addr) (kk : Int32) (h0 : Heap) (n0 : Nat) (Z0 : n0 ≤ h0.size) (F_s : Fld Z h0 o0 "com/example/unabridged_index/unabridgedindex/server/Answer" "status" "I" (.int kk)) :
    MetFree l (⟨"com/example/unabridged_index/unabridgedindex/server/Answer", "status", "()I"⟩ : MethodName) (head1 (Jvm.Cond.code (⟨"com/example/unabridged_index/unabridgedindex/server/Answer", "status", "()I"⟩ : MethodName) prog_52_method_6_code 1 (some .int) :: ws) ({ frames := 0, cells := 0, slots := 0, locals := 0 } : Room)) (fun a U => a = #[(.ref o0)] ∧ Z.Warmed39 U.vm ∧ U.heap = h0) (fun _ _ _ _ _ => True) (fun _ U o U' => ∃ v L, o = .returned v ∧ Q11 Z o0 kk h0 n0 v U'.heap L ∧ FrameEnd U o U' L ({ frames := 0, cells := 0, slots := 0, locals := 0 } : Room).cells ({ frames := 0, cells := 0, slots := 0, locals := 0 } : Room).slots) := by
  refine MetFree.of_bodySF (plainFor_of_name pn_11) hisR ?_
  intro p e s m args below meth c s₁ Bd hml0 hP hK
  obtain ⟨rfl, hZ, hh⟩ := hP
  have hx := Bd.exec
  have hby := Bd.bytes
  have hml : c.maxLocals = 1 := hml0
  have hown : s.vm.findClass "com/example/unabridged_index/unabridgedindex/server/Answer" = some m.cls := findClass_of_methodNamed Bd.named
  have hnm := (name_of_methodNamed Bd.named Bd.method).1
  have X0 : Stand p l e ({ frames := 0, cells := 0, slots := 0, locals := 0 } : Room) s m #[(.ref o0)] below meth c s₁ [] 0 0 := Stand.of_body Bd
  have e0 : s₁.heap = h0 := by rw [← hh, Bd.state]; rfl
  have N0 := Fr.nil n0
  obtain ⟨F, hF⟩ : ∃ F : State → Prop, F = own_Fin p e below s ({ frames := 0, cells := 0, slots := 0, locals := 0 } : Room).cells ({ frames := 0, cells := 0, slots := 0, locals := 0 } : Room).slots (fun v h L => Q11 Z o0 kk h0 n0 v h L) := ⟨_, rfl⟩
  have bk : ∀ {A B : State}, (∀ t, Steps p.tables e below B t → Steps p.tables e below A t) → F B → F A := by
    intro A B h k
    rw [hF] at k ⊢
    exact own_back h k
  suffices hgo : F (s₁.setTop (mkF m 0 #[.val (.ref o0)] [])) by
    have hgo' := bk (fun t k => castTop (T := s₁) (ef_11 m o0) k) hgo
    rw [hF] at hgo'
    exact hgo'
  show F (s₁.setTop (mkF m 0 #[.val (.ref o0)] []))
  refine bk (fun t k => XS.aloadN X0.here hx rfl (hb hby d11_0) rfl rfl k) ?_
  show F (s₁.setTop (mkF m 1 #[.val (.ref o0)] [(.ref o0)]))
  obtain ⟨T1, X1, e1, st1⟩ := getF X0 hx hZ hown (host := "") (Or.inl (hw _ (List.mem_of_getElem? (i := 54) rfl))) Via.refl e0 F_s (g := (mkF m 1 #[.val (.ref o0)] [(.ref o0)])) rfl rfl (hb hby d11_1)
  refine bk (fun t k => st1 t k) ?_
  show F (T1.setTop (mkF m 4 #[.val (.ref o0)] [(.int kk)]))
  rw [hF]
  refine own_retI X1 hx Bd.notSynchronized Bd.returns (hb hby d11_4) (by decide) (by decide) ?_
  rw [e1]
  exact ⟨rfl, N0, rfl⟩
theorem d12_0 : decode prog_52_method_7_code 0 = .ok (.aload_n 0, 1) := by decide +kernel
theorem d12_1 : decode prog_52_method_7_code 1 = .ok (.getfield 13, 3) := by decide +kernel
theorem d12_4 : decode prog_52_method_7_code 4 = .ok (.areturn, 1) := by decide +kernel
theorem pn_12 : plainName "com/example/unabridged_index/unabridgedindex/server/Answer" = true := by first | (simp [plainName, overriddenIn]; done) | decide +kernel
theorem ef_12 (m : MethodId) (x0 : Addr) : entryFrame m #[(.ref x0)] 1 = mkF m 0 #[.val (.ref x0)] [] := by first | (simp [entryFrame, mkF, argsToLocals, Value.category]; done) | rfl
def Q12 (Z : State) (o0 : Addr) (bb : Addr) (h0 : Heap) (n0 : Nat) (v : Option Value) (h : Heap) (L : List Loc) : Prop := v = some (.ref bb) ∧ Fr n0 L ∧ h = h0
set_option maxRecDepth 65536 in
set_option maxHeartbeats 40000000 in
theorem rm12 (l : Launch) (Z : State) (a0 : Array Value) (hw : ∀ d ∈ tables_1, d.before a0 Z = true) (ws : List Jvm.Cond) (o0 : Addr) (bb : Addr) (h0 : Heap) (n0 : Nat) (Z0 : n0 ≤ h0.size) (F_b : Fld Z h0 o0 "com/example/unabridged_index/unabridgedindex/server/Answer" "body" "Ljava/lang/Object;" (.ref bb)) :
    MetFree l (⟨"com/example/unabridged_index/unabridgedindex/server/Answer", "body", "()Ljava/lang/Object;"⟩ : MethodName) (head1 (Jvm.Cond.code (⟨"com/example/unabridged_index/unabridgedindex/server/Answer", "body", "()Ljava/lang/Object;"⟩ : MethodName) prog_52_method_7_code 1 (some (.object "java/lang/Object")) :: ws) ({ frames := 0, cells := 0, slots := 0, locals := 0 } : Room)) (fun a U => a = #[(.ref o0)] ∧ Z.Warmed39 U.vm ∧ U.heap = h0) (fun _ _ _ _ _ => True) (fun _ U o U' => ∃ v L, o = .returned v ∧ Q12 Z o0 bb h0 n0 v U'.heap L ∧ FrameEnd U o U' L ({ frames := 0, cells := 0, slots := 0, locals := 0 } : Room).cells ({ frames := 0, cells := 0, slots := 0, locals := 0 } : Room).slots) := by
  refine MetFree.of_bodySF (plainFor_of_name pn_12) hisR ?_
  intro p e s m args below meth c s₁ Bd hml0 hP hK
  obtain ⟨rfl, hZ, hh⟩ := hP
  have hx := Bd.exec
  have hby := Bd.bytes
  have hml : c.maxLocals = 1 := hml0
  have hown : s.vm.findClass "com/example/unabridged_index/unabridgedindex/server/Answer" = some m.cls := findClass_of_methodNamed Bd.named
  have hnm := (name_of_methodNamed Bd.named Bd.method).1
  have X0 : Stand p l e ({ frames := 0, cells := 0, slots := 0, locals := 0 } : Room) s m #[(.ref o0)] below meth c s₁ [] 0 0 := Stand.of_body Bd
  have e0 : s₁.heap = h0 := by rw [← hh, Bd.state]; rfl
  have N0 := Fr.nil n0
  obtain ⟨F, hF⟩ : ∃ F : State → Prop, F = own_Fin p e below s ({ frames := 0, cells := 0, slots := 0, locals := 0 } : Room).cells ({ frames := 0, cells := 0, slots := 0, locals := 0 } : Room).slots (fun v h L => Q12 Z o0 bb h0 n0 v h L) := ⟨_, rfl⟩
  have bk : ∀ {A B : State}, (∀ t, Steps p.tables e below B t → Steps p.tables e below A t) → F B → F A := by
    intro A B h k
    rw [hF] at k ⊢
    exact own_back h k
  suffices hgo : F (s₁.setTop (mkF m 0 #[.val (.ref o0)] [])) by
    have hgo' := bk (fun t k => castTop (T := s₁) (ef_12 m o0) k) hgo
    rw [hF] at hgo'
    exact hgo'
  show F (s₁.setTop (mkF m 0 #[.val (.ref o0)] []))
  refine bk (fun t k => XS.aloadN X0.here hx rfl (hb hby d12_0) rfl rfl k) ?_
  show F (s₁.setTop (mkF m 1 #[.val (.ref o0)] [(.ref o0)]))
  obtain ⟨T1, X1, e1, st1⟩ := getF X0 hx hZ hown (host := "") (Or.inl (hw _ (List.mem_of_getElem? (i := 56) rfl))) Via.refl e0 F_b (g := (mkF m 1 #[.val (.ref o0)] [(.ref o0)])) rfl rfl (hb hby d12_1)
  refine bk (fun t k => st1 t k) ?_
  show F (T1.setTop (mkF m 4 #[.val (.ref o0)] [(.ref bb)]))
  rw [hF]
  refine own_retA X1 hx Bd.notSynchronized Bd.returns rfl rfl (hb hby d12_4) (by decide) (by decide) ?_
  rw [e1]
  exact ⟨rfl, N0, rfl⟩
theorem d13_0 : decode prog_53_method_5_code 0 = .ok (.aload_n 0, 1) := by decide +kernel
theorem d13_1 : decode prog_53_method_5_code 1 = .ok (.getfield 7, 3) := by decide +kernel
theorem d13_4 : decode prog_53_method_5_code 4 = .ok (.areturn, 1) := by decide +kernel
theorem pn_13 : plainName "com/example/unabridged_index/unabridgedindex/server/Answer$ErrorMessage" = true := by first | (simp [plainName, overriddenIn]; done) | decide +kernel
theorem ef_13 (m : MethodId) (x0 : Addr) : entryFrame m #[(.ref x0)] 1 = mkF m 0 #[.val (.ref x0)] [] := by first | (simp [entryFrame, mkF, argsToLocals, Value.category]; done) | rfl
def Q13s (Z : State) (o0 : Addr) (bb : Addr) (h0 : Heap) (n0 : Nat) (v : Option Value) (h : Heap) (L : List Loc) : Prop := v = some (.ref bb) ∧ Fr n0 L ∧ h = h0
set_option maxRecDepth 65536 in
set_option maxHeartbeats 40000000 in
theorem rm13s (l : Launch) (Z : State) (a0 : Array Value) (hw : ∀ d ∈ tables_1, d.before a0 Z = true) (ws : List Jvm.Cond) (o0 : Addr) (bb : Addr) (h0 : Heap) (n0 : Nat) (Z0 : n0 ≤ h0.size) (F_e : Fld Z h0 o0 "com/example/unabridged_index/unabridgedindex/server/Answer$ErrorMessage" "error" "Ljava/lang/String;" (.ref bb)) :
    MetFree l (⟨"com/example/unabridged_index/unabridgedindex/server/Answer$ErrorMessage", "error", "()Ljava/lang/String;"⟩ : MethodName) (head1 (Jvm.Cond.code (⟨"com/example/unabridged_index/unabridgedindex/server/Answer$ErrorMessage", "error", "()Ljava/lang/String;"⟩ : MethodName) prog_53_method_5_code 1 (some (.object "java/lang/String")) :: ws) ({ frames := 0, cells := 0, slots := 0, locals := 0 } : Room)) (fun a U => a = #[(.ref o0)] ∧ Z.Warmed39 U.vm ∧ U.heap = h0) (fun _ _ _ _ _ => True) (fun _ U o U' => ∃ v L, o = .returned v ∧ Q13s Z o0 bb h0 n0 v U'.heap L ∧ FrameEnd U o U' L ({ frames := 0, cells := 0, slots := 0, locals := 0 } : Room).cells ({ frames := 0, cells := 0, slots := 0, locals := 0 } : Room).slots) := by
  refine MetFree.of_bodySF (plainFor_of_name pn_13) hisR ?_
  intro p e s m args below meth c s₁ Bd hml0 hP hK
  obtain ⟨rfl, hZ, hh⟩ := hP
  have hx := Bd.exec
  have hby := Bd.bytes
  have hml : c.maxLocals = 1 := hml0
  have hown : s.vm.findClass "com/example/unabridged_index/unabridgedindex/server/Answer$ErrorMessage" = some m.cls := findClass_of_methodNamed Bd.named
  have hnm := (name_of_methodNamed Bd.named Bd.method).1
  have X0 : Stand p l e ({ frames := 0, cells := 0, slots := 0, locals := 0 } : Room) s m #[(.ref o0)] below meth c s₁ [] 0 0 := Stand.of_body Bd
  have e0 : s₁.heap = h0 := by rw [← hh, Bd.state]; rfl
  have N0 := Fr.nil n0
  obtain ⟨F, hF⟩ : ∃ F : State → Prop, F = own_Fin p e below s ({ frames := 0, cells := 0, slots := 0, locals := 0 } : Room).cells ({ frames := 0, cells := 0, slots := 0, locals := 0 } : Room).slots (fun v h L => Q13s Z o0 bb h0 n0 v h L) := ⟨_, rfl⟩
  have bk : ∀ {A B : State}, (∀ t, Steps p.tables e below B t → Steps p.tables e below A t) → F B → F A := by
    intro A B h k
    rw [hF] at k ⊢
    exact own_back h k
  suffices hgo : F (s₁.setTop (mkF m 0 #[.val (.ref o0)] [])) by
    have hgo' := bk (fun t k => castTop (T := s₁) (ef_13 m o0) k) hgo
    rw [hF] at hgo'
    exact hgo'
  show F (s₁.setTop (mkF m 0 #[.val (.ref o0)] []))
  refine bk (fun t k => XS.aloadN X0.here hx rfl (hb hby d13_0) rfl rfl k) ?_
  show F (s₁.setTop (mkF m 1 #[.val (.ref o0)] [(.ref o0)]))
  obtain ⟨T1, X1, e1, st1⟩ := getF X0 hx hZ hown (host := "") (Or.inl (hw _ (List.mem_of_getElem? (i := 48) rfl))) Via.refl e0 F_e (g := (mkF m 1 #[.val (.ref o0)] [(.ref o0)])) rfl rfl (hb hby d13_1)
  refine bk (fun t k => st1 t k) ?_
  show F (T1.setTop (mkF m 4 #[.val (.ref o0)] [(.ref bb)]))
  rw [hF]
  refine own_retA X1 hx Bd.notSynchronized Bd.returns rfl rfl (hb hby d13_4) (by decide) (by decide) ?_
  rw [e1]
  exact ⟨rfl, N0, rfl⟩
def Q13n (Z : State) (o0 : Addr) (h0 : Heap) (n0 : Nat) (v : Option Value) (h : Heap) (L : List Loc) : Prop := v = some .null ∧ Fr n0 L ∧ h = h0
set_option maxRecDepth 65536 in
set_option maxHeartbeats 40000000 in
theorem rm13n (l : Launch) (Z : State) (a0 : Array Value) (hw : ∀ d ∈ tables_1, d.before a0 Z = true) (ws : List Jvm.Cond) (o0 : Addr) (h0 : Heap) (n0 : Nat) (Z0 : n0 ≤ h0.size) (F_e : Fld Z h0 o0 "com/example/unabridged_index/unabridgedindex/server/Answer$ErrorMessage" "error" "Ljava/lang/String;" .null) :
    MetFree l (⟨"com/example/unabridged_index/unabridgedindex/server/Answer$ErrorMessage", "error", "()Ljava/lang/String;"⟩ : MethodName) (head1 (Jvm.Cond.code (⟨"com/example/unabridged_index/unabridgedindex/server/Answer$ErrorMessage", "error", "()Ljava/lang/String;"⟩ : MethodName) prog_53_method_5_code 1 (some (.object "java/lang/String")) :: ws) ({ frames := 0, cells := 0, slots := 0, locals := 0 } : Room)) (fun a U => a = #[(.ref o0)] ∧ Z.Warmed39 U.vm ∧ U.heap = h0) (fun _ _ _ _ _ => True) (fun _ U o U' => ∃ v L, o = .returned v ∧ Q13n Z o0 h0 n0 v U'.heap L ∧ FrameEnd U o U' L ({ frames := 0, cells := 0, slots := 0, locals := 0 } : Room).cells ({ frames := 0, cells := 0, slots := 0, locals := 0 } : Room).slots) := by
  refine MetFree.of_bodySF (plainFor_of_name pn_13) hisR ?_
  intro p e s m args below meth c s₁ Bd hml0 hP hK
  obtain ⟨rfl, hZ, hh⟩ := hP
  have hx := Bd.exec
  have hby := Bd.bytes
  have hml : c.maxLocals = 1 := hml0
  have hown : s.vm.findClass "com/example/unabridged_index/unabridgedindex/server/Answer$ErrorMessage" = some m.cls := findClass_of_methodNamed Bd.named
  have hnm := (name_of_methodNamed Bd.named Bd.method).1
  have X0 : Stand p l e ({ frames := 0, cells := 0, slots := 0, locals := 0 } : Room) s m #[(.ref o0)] below meth c s₁ [] 0 0 := Stand.of_body Bd
  have e0 : s₁.heap = h0 := by rw [← hh, Bd.state]; rfl
  have N0 := Fr.nil n0
  obtain ⟨F, hF⟩ : ∃ F : State → Prop, F = own_Fin p e below s ({ frames := 0, cells := 0, slots := 0, locals := 0 } : Room).cells ({ frames := 0, cells := 0, slots := 0, locals := 0 } : Room).slots (fun v h L => Q13n Z o0 h0 n0 v h L) := ⟨_, rfl⟩
  have bk : ∀ {A B : State}, (∀ t, Steps p.tables e below B t → Steps p.tables e below A t) → F B → F A := by
    intro A B h k
    rw [hF] at k ⊢
    exact own_back h k
  suffices hgo : F (s₁.setTop (mkF m 0 #[.val (.ref o0)] [])) by
    have hgo' := bk (fun t k => castTop (T := s₁) (ef_13 m o0) k) hgo
    rw [hF] at hgo'
    exact hgo'
  show F (s₁.setTop (mkF m 0 #[.val (.ref o0)] []))
  refine bk (fun t k => XS.aloadN X0.here hx rfl (hb hby d13_0) rfl rfl k) ?_
  show F (s₁.setTop (mkF m 1 #[.val (.ref o0)] [(.ref o0)]))
  obtain ⟨T1, X1, e1, st1⟩ := getF X0 hx hZ hown (host := "") (Or.inl (hw _ (List.mem_of_getElem? (i := 48) rfl))) Via.refl e0 F_e (g := (mkF m 1 #[.val (.ref o0)] [(.ref o0)])) rfl rfl (hb hby d13_1)
  refine bk (fun t k => st1 t k) ?_
  show F (T1.setTop (mkF m 4 #[.val (.ref o0)] [.null]))
  rw [hF]
  refine own_retA X1 hx Bd.notSynchronized Bd.returns rfl rfl (hb hby d13_4) (by decide) (by decide) ?_
  rw [e1]
  exact ⟨rfl, N0, rfl⟩
theorem d15_0 : decode jdk_42_method_152_code 0 = .ok (.getstatic 38, 3) := by decide +kernel
theorem d15_3 : decode jdk_42_method_152_code 3 = .ok (.ifCond .eq 10, 3) := by decide +kernel
theorem d15_6 : decode jdk_42_method_152_code 6 = .ok (.aload_n 0, 1) := by decide +kernel
theorem d15_7 : decode jdk_42_method_152_code 7 = .ok (.getfield 15, 3) := by decide +kernel
theorem d15_10 : decode jdk_42_method_152_code 10 = .ok (.goto 4, 3) := by decide +kernel
theorem d15_14 : decode jdk_42_method_152_code 14 = .ok (.ireturn, 1) := by decide +kernel
theorem pn_15 : plainName "java/lang/String" = true := by first | (simp [plainName, overriddenIn]; done) | decide +kernel
theorem ef_15 (m : MethodId) (x0 : Addr) : entryFrame m #[(.ref x0)] 1 = mkF m 0 #[.val (.ref x0)] [] := by first | (simp [entryFrame, mkF, argsToLocals, Value.category]; done) | rfl
def Q15 (Z : State) (o0 : Addr) (cs : Int32) (h0 : Heap) (n0 : Nat) (v : Option Value) (h : Heap) (L : List Loc) : Prop := v = some (.int (0 : Int32)) ∧ Fr n0 L ∧ h = h0
set_option maxRecDepth 65536 in
set_option maxHeartbeats 40000000 in
theorem rm15 (l : Launch) (Z : State) (a0 : Array Value) (hw : ∀ d ∈ tables_1, d.before a0 Z = true) (ws : List Jvm.Cond) (o0 : Addr) (cs : Int32) (h0 : Heap) (n0 : Nat) (Z0 : n0 ≤ h0.size) (F_c : Fld Z h0 o0 "java/lang/String" "coder" "B" (.int (0 : Int32))) (S_cs : Sta Z h0 "java/lang/String" "COMPACT_STRINGS" "Z" (.int cs)) (hcs : ¬ cs = (0 : Int32)) :
    MetFree l (⟨"java/lang/String", "coder", "()B"⟩ : MethodName) (head1 (Jvm.Cond.code (⟨"java/lang/String", "coder", "()B"⟩ : MethodName) jdk_42_method_152_code 1 (some .byte) :: ws) ({ frames := 0, cells := 0, slots := 0, locals := 0 } : Room)) (fun a U => a = #[(.ref o0)] ∧ Z.Warmed39 U.vm ∧ U.heap = h0) (fun _ _ _ _ _ => True) (fun _ U o U' => ∃ v L, o = .returned v ∧ Q15 Z o0 cs h0 n0 v U'.heap L ∧ FrameEnd U o U' L ({ frames := 0, cells := 0, slots := 0, locals := 0 } : Room).cells ({ frames := 0, cells := 0, slots := 0, locals := 0 } : Room).slots) := by
  refine MetFree.of_bodySF (plainFor_of_name pn_15) hisR ?_
  intro p e s m args below meth c s₁ Bd hml0 hP hK
  obtain ⟨rfl, hZ, hh⟩ := hP
  have hx := Bd.exec
  have hby := Bd.bytes
  have hml : c.maxLocals = 1 := hml0
  have hown : s.vm.findClass "java/lang/String" = some m.cls := findClass_of_methodNamed Bd.named
  have hnm := (name_of_methodNamed Bd.named Bd.method).1
  have X0 : Stand p l e ({ frames := 0, cells := 0, slots := 0, locals := 0 } : Room) s m #[(.ref o0)] below meth c s₁ [] 0 0 := Stand.of_body Bd
  have e0 : s₁.heap = h0 := by rw [← hh, Bd.state]; rfl
  have N0 := Fr.nil n0
  obtain ⟨F, hF⟩ : ∃ F : State → Prop, F = own_Fin p e below s ({ frames := 0, cells := 0, slots := 0, locals := 0 } : Room).cells ({ frames := 0, cells := 0, slots := 0, locals := 0 } : Room).slots (fun v h L => Q15 Z o0 cs h0 n0 v h L) := ⟨_, rfl⟩
  have bk : ∀ {A B : State}, (∀ t, Steps p.tables e below B t → Steps p.tables e below A t) → F B → F A := by
    intro A B h k
    rw [hF] at k ⊢
    exact own_back h k
  suffices hgo : F (s₁.setTop (mkF m 0 #[.val (.ref o0)] [])) by
    have hgo' := bk (fun t k => castTop (T := s₁) (ef_15 m o0) k) hgo
    rw [hF] at hgo'
    exact hgo'
  show F (s₁.setTop (mkF m 0 #[.val (.ref o0)] []))
  obtain ⟨T1, X1, e1, st1⟩ := getS2 X0 hx hZ hown (host := "") (Or.inl (hw _ (List.mem_of_getElem? (i := 14) rfl))) Via.refl e0 S_cs (g := (mkF m 0 #[.val (.ref o0)] [])) rfl (hb hby d15_0)
  refine bk (fun t k => st1 t k) ?_
  show F (T1.setTop (mkF m 3 #[.val (.ref o0)] [(.int cs)]))
  refine bk (fun t k => XS.ifNo X1.here hx rfl (hb hby d15_3) rfl ((if0 _ _).trans (feq hcs).1) k) ?_
  show F (T1.setTop (mkF m 6 #[.val (.ref o0)] []))
  refine bk (fun t k => XS.aloadN X1.here hx rfl (hb hby d15_6) rfl rfl k) ?_
  show F (T1.setTop (mkF m 7 #[.val (.ref o0)] [(.ref o0)]))
  obtain ⟨T2, X2, e2, st2⟩ := getF X1 hx hZ hown (host := "") (Or.inl (hw _ (List.mem_of_getElem? (i := 26) rfl))) Via.refl e1 F_c (g := (mkF m 7 #[.val (.ref o0)] [(.ref o0)])) rfl rfl (hb hby d15_7)
  refine bk (fun t k => st2 t k) ?_
  show F (T2.setTop (mkF m 10 #[.val (.ref o0)] [(.int (0 : Int32))]))
  refine bk (fun t k => XS.goto X2.here hx rfl (pc0 := 10) (pc' := 14) rfl (hb hby d15_10) (by decide) (by decide) k) ?_
  show F (T2.setTop (mkF m 14 #[.val (.ref o0)] [(.int (0 : Int32))]))
  rw [hF]
  refine own_retB X2 hx Bd.notSynchronized Bd.returns (hb hby d15_14) (by decide) (by decide) ?_
  rw [e2]
  exact ⟨rfl, N0, rfl⟩
theorem d14_0 : decode jdk_42_method_54_code 0 = .ok (.aload_n 0, 1) := by decide +kernel
theorem d14_1 : decode jdk_42_method_54_code 1 = .ok (.getfield 9, 3) := by decide +kernel
theorem d14_4 : decode jdk_42_method_54_code 4 = .ok (.arraylength, 1) := by decide +kernel
theorem d14_5 : decode jdk_42_method_54_code 5 = .ok (.aload_n 0, 1) := by decide +kernel
theorem d14_6 : decode jdk_42_method_54_code 6 = .ok (.invokevirtual 335, 3) := by decide +kernel
theorem d14_9 : decode jdk_42_method_54_code 9 = .ok (.ishr, 1) := by decide +kernel
theorem d14_10 : decode jdk_42_method_54_code 10 = .ok (.ireturn, 1) := by decide +kernel
theorem pd14___B : parseMethodDescriptor "()B" = some ⟨[], some .byte⟩ := by decide +kernel
theorem pn_14 : plainName "java/lang/String" = true := by first | (simp [plainName, overriddenIn]; done) | decide +kernel
theorem ef_14 (m : MethodId) (x0 : Addr) : entryFrame m #[(.ref x0)] 1 = mkF m 0 #[.val (.ref x0)] [] := by first | (simp [entryFrame, mkF, argsToLocals, Value.category]; done) | rfl
def Q14_0 (Z : State) (o0 : Addr) (rr : Addr) (kd : ClassId) (vs : List Value) (cs : Int32) (h0 : Heap) (n0 : Nat) (v : Option Value) (h : Heap) (L : List Loc) : Prop := v = some (.int (0 : Int32)) ∧ Fr n0 L ∧ h = h0
set_option maxRecDepth 65536 in
set_option maxHeartbeats 40000000 in
theorem rm14_0 (l : Launch) (Z : State) (a0 : Array Value) (hw : ∀ d ∈ tables_1, d.before a0 Z = true) (ws : List Jvm.Cond) (o0 : Addr) (rr : Addr) (kd : ClassId) (vs : List Value) (cs : Int32) (h0 : Heap) (n0 : Nat) (Z0 : n0 ≤ h0.size) (E_o0 : Exa Z h0 o0 "java/lang/String") (F_v : Fld Z h0 o0 "java/lang/String" "value" "[B" (.ref rr)) (V_r : Arv Z h0 rr kd .byte (0 : Int32) vs (.int (0 : Int32))) (F_c : Fld Z h0 o0 "java/lang/String" "coder" "B" (.int (0 : Int32))) (S_cs : Sta Z h0 "java/lang/String" "COMPACT_STRINGS" "Z" (.int cs)) (hcs : ¬ cs = (0 : Int32)) :
    MetFree l (⟨"java/lang/String", "length", "()I"⟩ : MethodName) (head1 (Jvm.Cond.code (⟨"java/lang/String", "length", "()I"⟩ : MethodName) jdk_42_method_54_code 1 (some .int) :: ws) ({ frames := 1, cells := 0, slots := 0, locals := 13 } : Room)) (fun a U => a = #[(.ref o0)] ∧ Z.Warmed39 U.vm ∧ U.heap = h0) (fun _ _ _ _ _ => True) (fun _ U o U' => ∃ v L, o = .returned v ∧ Q14_0 Z o0 rr kd vs cs h0 n0 v U'.heap L ∧ FrameEnd U o U' L ({ frames := 1, cells := 0, slots := 0, locals := 13 } : Room).cells ({ frames := 1, cells := 0, slots := 0, locals := 13 } : Room).slots) := by
  refine MetFree.of_bodySF (plainFor_of_name pn_14) hisR ?_
  intro p e s m args below meth c s₁ Bd hml0 hP hK
  obtain ⟨rfl, hZ, hh⟩ := hP
  have hx := Bd.exec
  have hby := Bd.bytes
  have hml : c.maxLocals = 1 := hml0
  have hown : s.vm.findClass "java/lang/String" = some m.cls := findClass_of_methodNamed Bd.named
  have hnm := (name_of_methodNamed Bd.named Bd.method).1
  have X0 : Stand p l e ({ frames := 1, cells := 0, slots := 0, locals := 13 } : Room) s m #[(.ref o0)] below meth c s₁ [] 0 0 := Stand.of_body Bd
  have e0 : s₁.heap = h0 := by rw [← hh, Bd.state]; rfl
  have N0 := Fr.nil n0
  obtain ⟨F, hF⟩ : ∃ F : State → Prop, F = own_Fin p e below s ({ frames := 1, cells := 0, slots := 0, locals := 13 } : Room).cells ({ frames := 1, cells := 0, slots := 0, locals := 13 } : Room).slots (fun v h L => Q14_0 Z o0 rr kd vs cs h0 n0 v h L) := ⟨_, rfl⟩
  have bk : ∀ {A B : State}, (∀ t, Steps p.tables e below B t → Steps p.tables e below A t) → F B → F A := by
    intro A B h k
    rw [hF] at k ⊢
    exact own_back h k
  suffices hgo : F (s₁.setTop (mkF m 0 #[.val (.ref o0)] [])) by
    have hgo' := bk (fun t k => castTop (T := s₁) (ef_14 m o0) k) hgo
    rw [hF] at hgo'
    exact hgo'
  show F (s₁.setTop (mkF m 0 #[.val (.ref o0)] []))
  refine bk (fun t k => XS.aloadN X0.here hx rfl (hb hby d14_0) rfl rfl k) ?_
  show F (s₁.setTop (mkF m 1 #[.val (.ref o0)] [(.ref o0)]))
  obtain ⟨T1, X1, e1, st1⟩ := getF X0 hx hZ hown (host := "") (Or.inl (hw _ (List.mem_of_getElem? (i := 28) rfl))) Via.refl e0 F_v (g := (mkF m 1 #[.val (.ref o0)] [(.ref o0)])) rfl rfl (hb hby d14_1)
  refine bk (fun t k => st1 t k) ?_
  show F (T1.setTop (mkF m 4 #[.val (.ref o0)] [(.ref rr)]))
  have vv2 := V_r
  obtain ⟨cl2, Ar2, q2, S2, M2, H2, G2⟩ := vv2
  refine bk (fun t k => X1.arraylength hx (by rw [e1]; exact Ar2.1) (State.isArrayOf_alike hZ.alike Ar2.2.1) (g := (mkF m 4 #[.val (.ref o0)] [(.ref rr)])) rfl rfl (hb hby d14_4) t k) ?_
  rw [len_of S2 M2]
  show F (T1.setTop (mkF m 5 #[.val (.ref o0)] [(.int (0 : Int32))]))
  refine bk (fun t k => XS.aloadN X1.here hx rfl (hb hby d14_5) rfl rfl k) ?_
  show F (T1.setTop (mkF m 6 #[.val (.ref o0)] [(.ref o0), (.int (0 : Int32))]))
  obtain ⟨cq3, kq3, q3a, q3b, q3c⟩ := isOf hZ e1 (E_o0)
  obtain ⟨_, _, ⟨T3, L3, k3, n3⟩, -, X3, ⟨Lc3, hQ3, l3, y3, z3⟩, st3⟩ := X1.virtualBack hx (y := (⟨"java/lang/String", "coder", "()B"⟩ : MethodName)) (z := (⟨"java/lang/String", "coder", "()B"⟩ : MethodName)) hown (mvT hZ (hw _ (List.mem_of_getElem? (i := 80) rfl))) (mvT hZ (hw _ (List.mem_of_getElem? (i := 81) rfl))) (notFace_of_selects (args := #[]) (mvT hZ (hw _ (List.mem_of_getElem? (i := 83) rfl)))) (mvT hZ (hw _ (List.mem_of_getElem? (i := 83) rfl))) (mvT hZ (hw _ (List.mem_of_getElem? (i := 82) rfl))) (by decide) (backOf (W := 1) (rm15 l Z a0 hw [] o0 cs h0 n0 Z0 F_c S_cs hcs) hZ (hw _ (List.mem_of_getElem? (i := 84) rfl)) (hw _ (List.mem_of_getElem? (i := 3) rfl)) (by decide) (by decide)) q3a q3c (g := (mkF m 6 #[.val (.ref o0)] [(.ref o0), (.int (0 : Int32))])) rfl (by rw [hml]; rfl) (Steps.refl _) (argsL := []) (rest := [(.int (0 : Int32))]) (lenOf pd14___B rfl) rfl (by show 2 * 0 + _ ≤ _; exact Nat.le_of_eq rfl) (hb hby d14_6) (fun _ _ => ⟨rfl, e1, (by decide : 0 + 0 ≤ _), (by decide : 0 + 0 ≤ _)⟩)
  dsimp only [Pt.U, Pt.locs, Pt.cells, Pt.slots] at X3 l3 y3 z3 st3 hQ3
  subst l3 y3 z3
  obtain ⟨rfl, N3q, e3⟩ := hQ3
  have N3 := Fr.app N0 N3q
  refine bk (fun t k => st3.trans k) ?_
  show F (T3.setTop (mkF m 9 #[.val (.ref o0)] [(.int (0 : Int32)), (.int (0 : Int32))]))
  refine bk (fun t k => XS.ishr X3.here hx rfl (hb hby d14_9) rfl k) ?_
  show F (T3.setTop (mkF m 10 #[.val (.ref o0)] [(.int (0 : Int32))]))
  rw [hF]
  refine own_retI X3 hx Bd.notSynchronized Bd.returns (hb hby d14_10) (by decide) (by decide) ?_
  rw [e3]
  exact ⟨rfl, N3, rfl⟩
def Q14_1 (Z : State) (o0 : Addr) (rr : Addr) (kd : ClassId) (vs : List Value) (cs : Int32) (h0 : Heap) (n0 : Nat) (v : Option Value) (h : Heap) (L : List Loc) : Prop := v = some (.int (1 : Int32)) ∧ Fr n0 L ∧ h = h0
set_option maxRecDepth 65536 in
set_option maxHeartbeats 40000000 in
theorem rm14_1 (l : Launch) (Z : State) (a0 : Array Value) (hw : ∀ d ∈ tables_1, d.before a0 Z = true) (ws : List Jvm.Cond) (o0 : Addr) (rr : Addr) (kd : ClassId) (vs : List Value) (cs : Int32) (h0 : Heap) (n0 : Nat) (Z0 : n0 ≤ h0.size) (E_o0 : Exa Z h0 o0 "java/lang/String") (F_v : Fld Z h0 o0 "java/lang/String" "value" "[B" (.ref rr)) (V_r : Arv Z h0 rr kd .byte (1 : Int32) vs (.int (0 : Int32))) (F_c : Fld Z h0 o0 "java/lang/String" "coder" "B" (.int (0 : Int32))) (S_cs : Sta Z h0 "java/lang/String" "COMPACT_STRINGS" "Z" (.int cs)) (hcs : ¬ cs = (0 : Int32)) :
    MetFree l (⟨"java/lang/String", "length", "()I"⟩ : MethodName) (head1 (Jvm.Cond.code (⟨"java/lang/String", "length", "()I"⟩ : MethodName) jdk_42_method_54_code 1 (some .int) :: ws) ({ frames := 1, cells := 0, slots := 0, locals := 13 } : Room)) (fun a U => a = #[(.ref o0)] ∧ Z.Warmed39 U.vm ∧ U.heap = h0) (fun _ _ _ _ _ => True) (fun _ U o U' => ∃ v L, o = .returned v ∧ Q14_1 Z o0 rr kd vs cs h0 n0 v U'.heap L ∧ FrameEnd U o U' L ({ frames := 1, cells := 0, slots := 0, locals := 13 } : Room).cells ({ frames := 1, cells := 0, slots := 0, locals := 13 } : Room).slots) := by
  refine MetFree.of_bodySF (plainFor_of_name pn_14) hisR ?_
  intro p e s m args below meth c s₁ Bd hml0 hP hK
  obtain ⟨rfl, hZ, hh⟩ := hP
  have hx := Bd.exec
  have hby := Bd.bytes
  have hml : c.maxLocals = 1 := hml0
  have hown : s.vm.findClass "java/lang/String" = some m.cls := findClass_of_methodNamed Bd.named
  have hnm := (name_of_methodNamed Bd.named Bd.method).1
  have X0 : Stand p l e ({ frames := 1, cells := 0, slots := 0, locals := 13 } : Room) s m #[(.ref o0)] below meth c s₁ [] 0 0 := Stand.of_body Bd
  have e0 : s₁.heap = h0 := by rw [← hh, Bd.state]; rfl
  have N0 := Fr.nil n0
  obtain ⟨F, hF⟩ : ∃ F : State → Prop, F = own_Fin p e below s ({ frames := 1, cells := 0, slots := 0, locals := 13 } : Room).cells ({ frames := 1, cells := 0, slots := 0, locals := 13 } : Room).slots (fun v h L => Q14_1 Z o0 rr kd vs cs h0 n0 v h L) := ⟨_, rfl⟩
  have bk : ∀ {A B : State}, (∀ t, Steps p.tables e below B t → Steps p.tables e below A t) → F B → F A := by
    intro A B h k
    rw [hF] at k ⊢
    exact own_back h k
  suffices hgo : F (s₁.setTop (mkF m 0 #[.val (.ref o0)] [])) by
    have hgo' := bk (fun t k => castTop (T := s₁) (ef_14 m o0) k) hgo
    rw [hF] at hgo'
    exact hgo'
  show F (s₁.setTop (mkF m 0 #[.val (.ref o0)] []))
  refine bk (fun t k => XS.aloadN X0.here hx rfl (hb hby d14_0) rfl rfl k) ?_
  show F (s₁.setTop (mkF m 1 #[.val (.ref o0)] [(.ref o0)]))
  obtain ⟨T1, X1, e1, st1⟩ := getF X0 hx hZ hown (host := "") (Or.inl (hw _ (List.mem_of_getElem? (i := 28) rfl))) Via.refl e0 F_v (g := (mkF m 1 #[.val (.ref o0)] [(.ref o0)])) rfl rfl (hb hby d14_1)
  refine bk (fun t k => st1 t k) ?_
  show F (T1.setTop (mkF m 4 #[.val (.ref o0)] [(.ref rr)]))
  have vv2 := V_r
  obtain ⟨cl2, Ar2, q2, S2, M2, H2, G2⟩ := vv2
  refine bk (fun t k => X1.arraylength hx (by rw [e1]; exact Ar2.1) (State.isArrayOf_alike hZ.alike Ar2.2.1) (g := (mkF m 4 #[.val (.ref o0)] [(.ref rr)])) rfl rfl (hb hby d14_4) t k) ?_
  rw [len_of S2 M2]
  show F (T1.setTop (mkF m 5 #[.val (.ref o0)] [(.int (1 : Int32))]))
  refine bk (fun t k => XS.aloadN X1.here hx rfl (hb hby d14_5) rfl rfl k) ?_
  show F (T1.setTop (mkF m 6 #[.val (.ref o0)] [(.ref o0), (.int (1 : Int32))]))
  obtain ⟨cq3, kq3, q3a, q3b, q3c⟩ := isOf hZ e1 (E_o0)
  obtain ⟨_, _, ⟨T3, L3, k3, n3⟩, -, X3, ⟨Lc3, hQ3, l3, y3, z3⟩, st3⟩ := X1.virtualBack hx (y := (⟨"java/lang/String", "coder", "()B"⟩ : MethodName)) (z := (⟨"java/lang/String", "coder", "()B"⟩ : MethodName)) hown (mvT hZ (hw _ (List.mem_of_getElem? (i := 80) rfl))) (mvT hZ (hw _ (List.mem_of_getElem? (i := 81) rfl))) (notFace_of_selects (args := #[]) (mvT hZ (hw _ (List.mem_of_getElem? (i := 83) rfl)))) (mvT hZ (hw _ (List.mem_of_getElem? (i := 83) rfl))) (mvT hZ (hw _ (List.mem_of_getElem? (i := 82) rfl))) (by decide) (backOf (W := 1) (rm15 l Z a0 hw [] o0 cs h0 n0 Z0 F_c S_cs hcs) hZ (hw _ (List.mem_of_getElem? (i := 84) rfl)) (hw _ (List.mem_of_getElem? (i := 3) rfl)) (by decide) (by decide)) q3a q3c (g := (mkF m 6 #[.val (.ref o0)] [(.ref o0), (.int (1 : Int32))])) rfl (by rw [hml]; rfl) (Steps.refl _) (argsL := []) (rest := [(.int (1 : Int32))]) (lenOf pd14___B rfl) rfl (by show 2 * 0 + _ ≤ _; exact Nat.le_of_eq rfl) (hb hby d14_6) (fun _ _ => ⟨rfl, e1, (by decide : 0 + 0 ≤ _), (by decide : 0 + 0 ≤ _)⟩)
  dsimp only [Pt.U, Pt.locs, Pt.cells, Pt.slots] at X3 l3 y3 z3 st3 hQ3
  subst l3 y3 z3
  obtain ⟨rfl, N3q, e3⟩ := hQ3
  have N3 := Fr.app N0 N3q
  refine bk (fun t k => st3.trans k) ?_
  show F (T3.setTop (mkF m 9 #[.val (.ref o0)] [(.int (0 : Int32)), (.int (1 : Int32))]))
  refine bk (fun t k => XS.ishr X3.here hx rfl (hb hby d14_9) rfl k) ?_
  show F (T3.setTop (mkF m 10 #[.val (.ref o0)] [(.int (1 : Int32))]))
  rw [hF]
  refine own_retI X3 hx Bd.notSynchronized Bd.returns (hb hby d14_10) (by decide) (by decide) ?_
  rw [e3]
  exact ⟨rfl, N3, rfl⟩
def Q14_2 (Z : State) (o0 : Addr) (rr : Addr) (kd : ClassId) (vs : List Value) (cs : Int32) (h0 : Heap) (n0 : Nat) (v : Option Value) (h : Heap) (L : List Loc) : Prop := v = some (.int (2 : Int32)) ∧ Fr n0 L ∧ h = h0
set_option maxRecDepth 65536 in
set_option maxHeartbeats 40000000 in
theorem rm14_2 (l : Launch) (Z : State) (a0 : Array Value) (hw : ∀ d ∈ tables_1, d.before a0 Z = true) (ws : List Jvm.Cond) (o0 : Addr) (rr : Addr) (kd : ClassId) (vs : List Value) (cs : Int32) (h0 : Heap) (n0 : Nat) (Z0 : n0 ≤ h0.size) (E_o0 : Exa Z h0 o0 "java/lang/String") (F_v : Fld Z h0 o0 "java/lang/String" "value" "[B" (.ref rr)) (V_r : Arv Z h0 rr kd .byte (2 : Int32) vs (.int (0 : Int32))) (F_c : Fld Z h0 o0 "java/lang/String" "coder" "B" (.int (0 : Int32))) (S_cs : Sta Z h0 "java/lang/String" "COMPACT_STRINGS" "Z" (.int cs)) (hcs : ¬ cs = (0 : Int32)) :
    MetFree l (⟨"java/lang/String", "length", "()I"⟩ : MethodName) (head1 (Jvm.Cond.code (⟨"java/lang/String", "length", "()I"⟩ : MethodName) jdk_42_method_54_code 1 (some .int) :: ws) ({ frames := 1, cells := 0, slots := 0, locals := 13 } : Room)) (fun a U => a = #[(.ref o0)] ∧ Z.Warmed39 U.vm ∧ U.heap = h0) (fun _ _ _ _ _ => True) (fun _ U o U' => ∃ v L, o = .returned v ∧ Q14_2 Z o0 rr kd vs cs h0 n0 v U'.heap L ∧ FrameEnd U o U' L ({ frames := 1, cells := 0, slots := 0, locals := 13 } : Room).cells ({ frames := 1, cells := 0, slots := 0, locals := 13 } : Room).slots) := by
  refine MetFree.of_bodySF (plainFor_of_name pn_14) hisR ?_
  intro p e s m args below meth c s₁ Bd hml0 hP hK
  obtain ⟨rfl, hZ, hh⟩ := hP
  have hx := Bd.exec
  have hby := Bd.bytes
  have hml : c.maxLocals = 1 := hml0
  have hown : s.vm.findClass "java/lang/String" = some m.cls := findClass_of_methodNamed Bd.named
  have hnm := (name_of_methodNamed Bd.named Bd.method).1
  have X0 : Stand p l e ({ frames := 1, cells := 0, slots := 0, locals := 13 } : Room) s m #[(.ref o0)] below meth c s₁ [] 0 0 := Stand.of_body Bd
  have e0 : s₁.heap = h0 := by rw [← hh, Bd.state]; rfl
  have N0 := Fr.nil n0
  obtain ⟨F, hF⟩ : ∃ F : State → Prop, F = own_Fin p e below s ({ frames := 1, cells := 0, slots := 0, locals := 13 } : Room).cells ({ frames := 1, cells := 0, slots := 0, locals := 13 } : Room).slots (fun v h L => Q14_2 Z o0 rr kd vs cs h0 n0 v h L) := ⟨_, rfl⟩
  have bk : ∀ {A B : State}, (∀ t, Steps p.tables e below B t → Steps p.tables e below A t) → F B → F A := by
    intro A B h k
    rw [hF] at k ⊢
    exact own_back h k
  suffices hgo : F (s₁.setTop (mkF m 0 #[.val (.ref o0)] [])) by
    have hgo' := bk (fun t k => castTop (T := s₁) (ef_14 m o0) k) hgo
    rw [hF] at hgo'
    exact hgo'
  show F (s₁.setTop (mkF m 0 #[.val (.ref o0)] []))
  refine bk (fun t k => XS.aloadN X0.here hx rfl (hb hby d14_0) rfl rfl k) ?_
  show F (s₁.setTop (mkF m 1 #[.val (.ref o0)] [(.ref o0)]))
  obtain ⟨T1, X1, e1, st1⟩ := getF X0 hx hZ hown (host := "") (Or.inl (hw _ (List.mem_of_getElem? (i := 28) rfl))) Via.refl e0 F_v (g := (mkF m 1 #[.val (.ref o0)] [(.ref o0)])) rfl rfl (hb hby d14_1)
  refine bk (fun t k => st1 t k) ?_
  show F (T1.setTop (mkF m 4 #[.val (.ref o0)] [(.ref rr)]))
  have vv2 := V_r
  obtain ⟨cl2, Ar2, q2, S2, M2, H2, G2⟩ := vv2
  refine bk (fun t k => X1.arraylength hx (by rw [e1]; exact Ar2.1) (State.isArrayOf_alike hZ.alike Ar2.2.1) (g := (mkF m 4 #[.val (.ref o0)] [(.ref rr)])) rfl rfl (hb hby d14_4) t k) ?_
  rw [len_of S2 M2]
  show F (T1.setTop (mkF m 5 #[.val (.ref o0)] [(.int (2 : Int32))]))
  refine bk (fun t k => XS.aloadN X1.here hx rfl (hb hby d14_5) rfl rfl k) ?_
  show F (T1.setTop (mkF m 6 #[.val (.ref o0)] [(.ref o0), (.int (2 : Int32))]))
  obtain ⟨cq3, kq3, q3a, q3b, q3c⟩ := isOf hZ e1 (E_o0)
  obtain ⟨_, _, ⟨T3, L3, k3, n3⟩, -, X3, ⟨Lc3, hQ3, l3, y3, z3⟩, st3⟩ := X1.virtualBack hx (y := (⟨"java/lang/String", "coder", "()B"⟩ : MethodName)) (z := (⟨"java/lang/String", "coder", "()B"⟩ : MethodName)) hown (mvT hZ (hw _ (List.mem_of_getElem? (i := 80) rfl))) (mvT hZ (hw _ (List.mem_of_getElem? (i := 81) rfl))) (notFace_of_selects (args := #[]) (mvT hZ (hw _ (List.mem_of_getElem? (i := 83) rfl)))) (mvT hZ (hw _ (List.mem_of_getElem? (i := 83) rfl))) (mvT hZ (hw _ (List.mem_of_getElem? (i := 82) rfl))) (by decide) (backOf (W := 1) (rm15 l Z a0 hw [] o0 cs h0 n0 Z0 F_c S_cs hcs) hZ (hw _ (List.mem_of_getElem? (i := 84) rfl)) (hw _ (List.mem_of_getElem? (i := 3) rfl)) (by decide) (by decide)) q3a q3c (g := (mkF m 6 #[.val (.ref o0)] [(.ref o0), (.int (2 : Int32))])) rfl (by rw [hml]; rfl) (Steps.refl _) (argsL := []) (rest := [(.int (2 : Int32))]) (lenOf pd14___B rfl) rfl (by show 2 * 0 + _ ≤ _; exact Nat.le_of_eq rfl) (hb hby d14_6) (fun _ _ => ⟨rfl, e1, (by decide : 0 + 0 ≤ _), (by decide : 0 + 0 ≤ _)⟩)
  dsimp only [Pt.U, Pt.locs, Pt.cells, Pt.slots] at X3 l3 y3 z3 st3 hQ3
  subst l3 y3 z3
  obtain ⟨rfl, N3q, e3⟩ := hQ3
  have N3 := Fr.app N0 N3q
  refine bk (fun t k => st3.trans k) ?_
  show F (T3.setTop (mkF m 9 #[.val (.ref o0)] [(.int (0 : Int32)), (.int (2 : Int32))]))
  refine bk (fun t k => XS.ishr X3.here hx rfl (hb hby d14_9) rfl k) ?_
  show F (T3.setTop (mkF m 10 #[.val (.ref o0)] [(.int (2 : Int32))]))
  rw [hF]
  refine own_retI X3 hx Bd.notSynchronized Bd.returns (hb hby d14_10) (by decide) (by decide) ?_
  rw [e3]
  exact ⟨rfl, N3, rfl⟩
def Q14_3 (Z : State) (o0 : Addr) (rr : Addr) (kd : ClassId) (vs : List Value) (cs : Int32) (h0 : Heap) (n0 : Nat) (v : Option Value) (h : Heap) (L : List Loc) : Prop := v = some (.int (3 : Int32)) ∧ Fr n0 L ∧ h = h0
set_option maxRecDepth 65536 in
set_option maxHeartbeats 40000000 in
theorem rm14_3 (l : Launch) (Z : State) (a0 : Array Value) (hw : ∀ d ∈ tables_1, d.before a0 Z = true) (ws : List Jvm.Cond) (o0 : Addr) (rr : Addr) (kd : ClassId) (vs : List Value) (cs : Int32) (h0 : Heap) (n0 : Nat) (Z0 : n0 ≤ h0.size) (E_o0 : Exa Z h0 o0 "java/lang/String") (F_v : Fld Z h0 o0 "java/lang/String" "value" "[B" (.ref rr)) (V_r : Arv Z h0 rr kd .byte (3 : Int32) vs (.int (0 : Int32))) (F_c : Fld Z h0 o0 "java/lang/String" "coder" "B" (.int (0 : Int32))) (S_cs : Sta Z h0 "java/lang/String" "COMPACT_STRINGS" "Z" (.int cs)) (hcs : ¬ cs = (0 : Int32)) :
    MetFree l (⟨"java/lang/String", "length", "()I"⟩ : MethodName) (head1 (Jvm.Cond.code (⟨"java/lang/String", "length", "()I"⟩ : MethodName) jdk_42_method_54_code 1 (some .int) :: ws) ({ frames := 1, cells := 0, slots := 0, locals := 13 } : Room)) (fun a U => a = #[(.ref o0)] ∧ Z.Warmed39 U.vm ∧ U.heap = h0) (fun _ _ _ _ _ => True) (fun _ U o U' => ∃ v L, o = .returned v ∧ Q14_3 Z o0 rr kd vs cs h0 n0 v U'.heap L ∧ FrameEnd U o U' L ({ frames := 1, cells := 0, slots := 0, locals := 13 } : Room).cells ({ frames := 1, cells := 0, slots := 0, locals := 13 } : Room).slots) := by
  refine MetFree.of_bodySF (plainFor_of_name pn_14) hisR ?_
  intro p e s m args below meth c s₁ Bd hml0 hP hK
  obtain ⟨rfl, hZ, hh⟩ := hP
  have hx := Bd.exec
  have hby := Bd.bytes
  have hml : c.maxLocals = 1 := hml0
  have hown : s.vm.findClass "java/lang/String" = some m.cls := findClass_of_methodNamed Bd.named
  have hnm := (name_of_methodNamed Bd.named Bd.method).1
  have X0 : Stand p l e ({ frames := 1, cells := 0, slots := 0, locals := 13 } : Room) s m #[(.ref o0)] below meth c s₁ [] 0 0 := Stand.of_body Bd
  have e0 : s₁.heap = h0 := by rw [← hh, Bd.state]; rfl
  have N0 := Fr.nil n0
  obtain ⟨F, hF⟩ : ∃ F : State → Prop, F = own_Fin p e below s ({ frames := 1, cells := 0, slots := 0, locals := 13 } : Room).cells ({ frames := 1, cells := 0, slots := 0, locals := 13 } : Room).slots (fun v h L => Q14_3 Z o0 rr kd vs cs h0 n0 v h L) := ⟨_, rfl⟩
  have bk : ∀ {A B : State}, (∀ t, Steps p.tables e below B t → Steps p.tables e below A t) → F B → F A := by
    intro A B h k
    rw [hF] at k ⊢
    exact own_back h k
  suffices hgo : F (s₁.setTop (mkF m 0 #[.val (.ref o0)] [])) by
    have hgo' := bk (fun t k => castTop (T := s₁) (ef_14 m o0) k) hgo
    rw [hF] at hgo'
    exact hgo'
  show F (s₁.setTop (mkF m 0 #[.val (.ref o0)] []))
  refine bk (fun t k => XS.aloadN X0.here hx rfl (hb hby d14_0) rfl rfl k) ?_
  show F (s₁.setTop (mkF m 1 #[.val (.ref o0)] [(.ref o0)]))
  obtain ⟨T1, X1, e1, st1⟩ := getF X0 hx hZ hown (host := "") (Or.inl (hw _ (List.mem_of_getElem? (i := 28) rfl))) Via.refl e0 F_v (g := (mkF m 1 #[.val (.ref o0)] [(.ref o0)])) rfl rfl (hb hby d14_1)
  refine bk (fun t k => st1 t k) ?_
  show F (T1.setTop (mkF m 4 #[.val (.ref o0)] [(.ref rr)]))
  have vv2 := V_r
  obtain ⟨cl2, Ar2, q2, S2, M2, H2, G2⟩ := vv2
  refine bk (fun t k => X1.arraylength hx (by rw [e1]; exact Ar2.1) (State.isArrayOf_alike hZ.alike Ar2.2.1) (g := (mkF m 4 #[.val (.ref o0)] [(.ref rr)])) rfl rfl (hb hby d14_4) t k) ?_
  rw [len_of S2 M2]
  show F (T1.setTop (mkF m 5 #[.val (.ref o0)] [(.int (3 : Int32))]))
  refine bk (fun t k => XS.aloadN X1.here hx rfl (hb hby d14_5) rfl rfl k) ?_
  show F (T1.setTop (mkF m 6 #[.val (.ref o0)] [(.ref o0), (.int (3 : Int32))]))
  obtain ⟨cq3, kq3, q3a, q3b, q3c⟩ := isOf hZ e1 (E_o0)
  obtain ⟨_, _, ⟨T3, L3, k3, n3⟩, -, X3, ⟨Lc3, hQ3, l3, y3, z3⟩, st3⟩ := X1.virtualBack hx (y := (⟨"java/lang/String", "coder", "()B"⟩ : MethodName)) (z := (⟨"java/lang/String", "coder", "()B"⟩ : MethodName)) hown (mvT hZ (hw _ (List.mem_of_getElem? (i := 80) rfl))) (mvT hZ (hw _ (List.mem_of_getElem? (i := 81) rfl))) (notFace_of_selects (args := #[]) (mvT hZ (hw _ (List.mem_of_getElem? (i := 83) rfl)))) (mvT hZ (hw _ (List.mem_of_getElem? (i := 83) rfl))) (mvT hZ (hw _ (List.mem_of_getElem? (i := 82) rfl))) (by decide) (backOf (W := 1) (rm15 l Z a0 hw [] o0 cs h0 n0 Z0 F_c S_cs hcs) hZ (hw _ (List.mem_of_getElem? (i := 84) rfl)) (hw _ (List.mem_of_getElem? (i := 3) rfl)) (by decide) (by decide)) q3a q3c (g := (mkF m 6 #[.val (.ref o0)] [(.ref o0), (.int (3 : Int32))])) rfl (by rw [hml]; rfl) (Steps.refl _) (argsL := []) (rest := [(.int (3 : Int32))]) (lenOf pd14___B rfl) rfl (by show 2 * 0 + _ ≤ _; exact Nat.le_of_eq rfl) (hb hby d14_6) (fun _ _ => ⟨rfl, e1, (by decide : 0 + 0 ≤ _), (by decide : 0 + 0 ≤ _)⟩)
  dsimp only [Pt.U, Pt.locs, Pt.cells, Pt.slots] at X3 l3 y3 z3 st3 hQ3
  subst l3 y3 z3
  obtain ⟨rfl, N3q, e3⟩ := hQ3
  have N3 := Fr.app N0 N3q
  refine bk (fun t k => st3.trans k) ?_
  show F (T3.setTop (mkF m 9 #[.val (.ref o0)] [(.int (0 : Int32)), (.int (3 : Int32))]))
  refine bk (fun t k => XS.ishr X3.here hx rfl (hb hby d14_9) rfl k) ?_
  show F (T3.setTop (mkF m 10 #[.val (.ref o0)] [(.int (3 : Int32))]))
  rw [hF]
  refine own_retI X3 hx Bd.notSynchronized Bd.returns (hb hby d14_10) (by decide) (by decide) ?_
  rw [e3]
  exact ⟨rfl, N3, rfl⟩
theorem d16_0 : decode jdk_42_method_66_code 0 = .ok (.aload_n 0, 1) := by decide +kernel
theorem d16_1 : decode jdk_42_method_66_code 1 = .ok (.aload_n 1, 1) := by decide +kernel
theorem d16_2 : decode jdk_42_method_66_code 2 = .ok (.if_acmp .ne 5, 3) := by decide +kernel
theorem d16_5 : decode jdk_42_method_66_code 5 = .ok (.iconst 1, 1) := by decide +kernel
theorem d16_6 : decode jdk_42_method_66_code 6 = .ok (.ireturn, 1) := by decide +kernel
theorem pn_16 : plainName "java/lang/String" = true := by first | (simp [plainName, overriddenIn]; done) | decide +kernel
theorem ef_16 (m : MethodId) (x0 : Addr) (x1 : Addr) : entryFrame m #[(.ref x0), (.ref x1)] 3 = mkF m 0 #[.val (.ref x0), .val (.ref x1), .unset] [] := by first | (simp [entryFrame, mkF, argsToLocals, Value.category]; done) | rfl
def Q16 (Z : State) (o0 : Addr) (h0 : Heap) (n0 : Nat) (v : Option Value) (h : Heap) (L : List Loc) : Prop := v = some (.int (1 : Int32)) ∧ Fr n0 L ∧ h = h0
set_option maxRecDepth 65536 in
set_option maxHeartbeats 40000000 in
theorem rm16 (l : Launch) (Z : State) (a0 : Array Value) (hw : ∀ d ∈ tables_1, d.before a0 Z = true) (ws : List Jvm.Cond) (o0 : Addr) (h0 : Heap) (n0 : Nat) (Z0 : n0 ≤ h0.size) :
    MetFree l (⟨"java/lang/String", "equals", "(Ljava/lang/Object;)Z"⟩ : MethodName) (head1 (Jvm.Cond.code (⟨"java/lang/String", "equals", "(Ljava/lang/Object;)Z"⟩ : MethodName) jdk_42_method_66_code 3 (some .boolean) :: ws) ({ frames := 0, cells := 0, slots := 0, locals := 0 } : Room)) (fun a U => a = #[(.ref o0), (.ref o0)] ∧ Z.Warmed39 U.vm ∧ U.heap = h0) (fun _ _ _ _ _ => True) (fun _ U o U' => ∃ v L, o = .returned v ∧ Q16 Z o0 h0 n0 v U'.heap L ∧ FrameEnd U o U' L ({ frames := 0, cells := 0, slots := 0, locals := 0 } : Room).cells ({ frames := 0, cells := 0, slots := 0, locals := 0 } : Room).slots) := by
  refine MetFree.of_bodySF (plainFor_of_name pn_16) hisR ?_
  intro p e s m args below meth c s₁ Bd hml0 hP hK
  obtain ⟨rfl, hZ, hh⟩ := hP
  have hx := Bd.exec
  have hby := Bd.bytes
  have hml : c.maxLocals = 3 := hml0
  have hown : s.vm.findClass "java/lang/String" = some m.cls := findClass_of_methodNamed Bd.named
  have hnm := (name_of_methodNamed Bd.named Bd.method).1
  have X0 : Stand p l e ({ frames := 0, cells := 0, slots := 0, locals := 0 } : Room) s m #[(.ref o0), (.ref o0)] below meth c s₁ [] 0 0 := Stand.of_body Bd
  have e0 : s₁.heap = h0 := by rw [← hh, Bd.state]; rfl
  have N0 := Fr.nil n0
  obtain ⟨F, hF⟩ : ∃ F : State → Prop, F = own_Fin p e below s ({ frames := 0, cells := 0, slots := 0, locals := 0 } : Room).cells ({ frames := 0, cells := 0, slots := 0, locals := 0 } : Room).slots (fun v h L => Q16 Z o0 h0 n0 v h L) := ⟨_, rfl⟩
  have bk : ∀ {A B : State}, (∀ t, Steps p.tables e below B t → Steps p.tables e below A t) → F B → F A := by
    intro A B h k
    rw [hF] at k ⊢
    exact own_back h k
  suffices hgo : F (s₁.setTop (mkF m 0 #[.val (.ref o0), .val (.ref o0), .unset] [])) by
    have hgo' := bk (fun t k => castTop (T := s₁) (ef_16 m o0 o0) k) hgo
    rw [hF] at hgo'
    exact hgo'
  show F (s₁.setTop (mkF m 0 #[.val (.ref o0), .val (.ref o0), .unset] []))
  refine bk (fun t k => XS.aloadN X0.here hx rfl (hb hby d16_0) rfl rfl k) ?_
  show F (s₁.setTop (mkF m 1 #[.val (.ref o0), .val (.ref o0), .unset] [(.ref o0)]))
  refine bk (fun t k => XS.aloadN X0.here hx rfl (hb hby d16_1) rfl rfl k) ?_
  show F (s₁.setTop (mkF m 2 #[.val (.ref o0), .val (.ref o0), .unset] [(.ref o0), (.ref o0)]))
  refine bk (fun t k => Jvm.RoadKit.acmp (g := (mkF m 2 #[.val (.ref o0), .val (.ref o0), .unset] [(.ref o0), (.ref o0)])) X0 hx rfl rfl rfl (pc0 := 2) (pc' := 5) (same := true) rfl (hb hby d16_2) rfl (decide_eq_true rfl) (by decide) (by decide) k) ?_
  show F (s₁.setTop (mkF m 5 #[.val (.ref o0), .val (.ref o0), .unset] []))
  refine bk (fun t k => XS.iconst X0.here hx rfl (hb hby d16_5) k) ?_
  show F (s₁.setTop (mkF m 6 #[.val (.ref o0), .val (.ref o0), .unset] [(.int (1 : Int32))]))
  rw [hF]
  refine own_retZ X0 hx Bd.notSynchronized Bd.returns (hb hby d16_6) (by decide) (by decide) ?_
  rw [e0]
  exact ⟨rfl, N0, rfl⟩
theorem own_ch8 (c k : Int32) : ¬ (255 : Int32) < nar .char ((((c.toUInt32 >>> (k &&& 31).toUInt32).toInt32) &&& (255 : Int32)).toUInt32.toUInt16.toUInt32.toInt32) := own_ch _
theorem pd0___C_V : parseMethodDescriptor "([C)V" = some ⟨[(.array .char)], none⟩ := by decide +kernel
theorem pd0__ILjava_lang_String__Lcom_example_unabridged_index_unabridgedindex_server_Answer_ : parseMethodDescriptor "(ILjava/lang/String;)Lcom/example/unabridged_index/unabridgedindex/server/Answer;" = some ⟨[.int, (.object "java/lang/String")], some (.object "com/example/unabridged_index/unabridgedindex/server/Answer")⟩ := by decide +kernel
theorem pd0___I : parseMethodDescriptor "()I" = some ⟨[], some .int⟩ := by decide +kernel
theorem pd0___Ljava_lang_Object_ : parseMethodDescriptor "()Ljava/lang/Object;" = some ⟨[], some (.object "java/lang/Object")⟩ := by decide +kernel
theorem pd0___Ljava_lang_String_ : parseMethodDescriptor "()Ljava/lang/String;" = some ⟨[], some (.object "java/lang/String")⟩ := by decide +kernel
theorem pd0__Ljava_lang_Object__Z : parseMethodDescriptor "(Ljava/lang/Object;)Z" = some ⟨[(.object "java/lang/Object")], some .boolean⟩ := by decide +kernel
theorem pn_0 : plainName "com/example/unabridged_index/unabridgedindex/server/AnswerErrorPinLaw" = true := by first | (simp [plainName, overriddenIn]; done) | decide +kernel
theorem ef_0 (m : MethodId) (x0 : Int32) (x1 : Int32) (x2 : Int32) : entryFrame m #[(.int x0), (.int x1), (.int x2)] maxLocals = mkF m 0 #[.val (.int x0), .val (.int x1), .val (.int x2), .unset, .unset, .unset, .unset, .unset, .unset, .unset, .unset, .unset] [] := by first | (simp [entryFrame, mkF, argsToLocals, Value.category, maxLocals]; done) | rfl
def Q0 (Z : State) (p0 : Int32) (p1 : Int32) (p2 : Int32) (cs : Int32) (h0 : Heap) (n0 : Nat) (v : Option Value) (h : Heap) (L : List Loc) : Prop := v = some (.int (1 : Int32)) ∧ Fr n0 L
set_option maxRecDepth 65536 in
set_option maxHeartbeats 40000000 in
theorem rm0 (l : Launch) (Z : State) (a0 : Array Value) (hw : ∀ d ∈ tables_1, d.before a0 Z = true) (ws : List Jvm.Cond) (p0 : Int32) (p1 : Int32) (p2 : Int32) (cs : Int32) (h0 : Heap) (n0 : Nat) (Z0 : n0 ≤ h0.size) (O0 : Old Z n0 h0) (own_held : Jvm.Lit.constHeld Z "java/lang/String" 7) (own_hc : Jvm.Lit.compactW.before a0 Z = true) (S_cs : Sta Z h0 "java/lang/String" "COMPACT_STRINGS" "Z" (.int cs)) (hcs : ¬ cs = (0 : Int32)) :
    MetFree l x (head1 (Jvm.Cond.code x code maxLocals ret :: ws) room_1) (fun a U => a = #[(.int p0), (.int p1), (.int p2)] ∧ Z.Warmed39 U.vm ∧ U.heap = h0 ∧ IB Z U.vm []) (fun _ _ _ _ _ => True) (fun _ U o U' => ∃ v L, o = .returned v ∧ Q0 Z p0 p1 p2 cs h0 n0 v U'.heap L ∧ ReturnedEndW U o U' L room_1.cells room_1.slots) := by
  refine MetFree.of_bodySF (plainFor_of_name pn_0) hisR ?_
  intro p e s m args below meth c s₁ Bd hml0 hP hK
  obtain ⟨rfl, hZ, hh, hI⟩ := hP
  have hx := Bd.exec
  have hby := Bd.bytes
  have hml : c.maxLocals = 12 := hml0
  have hown : s.vm.findClass "com/example/unabridged_index/unabridgedindex/server/AnswerErrorPinLaw" = some m.cls := findClass_of_methodNamed Bd.named
  have hnm := (name_of_methodNamed Bd.named Bd.method).1
  have X0 : Stand p l e room_1 (s.setVm s.vm) m #[(.int p0), (.int p1), (.int p2)] below meth c s₁ [] 0 0 := Stand.of_body Bd
  have e0 : s₁.heap = h0 := by rw [← hh, Bd.state]; rfl
  have N0 := Fr.nil n0
  have hS0 : s.Since s.vm 0 := (State.WarmedH.refl s).since 0
  have hZ : Z.Warmed39 (s.setVm s.vm).vm := hZ
  have hown : (s.setVm s.vm).vm.findClass "com/example/unabridged_index/unabridgedindex/server/AnswerErrorPinLaw" = some m.cls := hown
  obtain ⟨F, hF⟩ : ∃ F : State → Prop, F = own_FinW p e below s room_1.cells room_1.slots (fun v h L => Q0 Z p0 p1 p2 cs h0 n0 v h L) := ⟨_, rfl⟩
  have bk : ∀ {A B : State}, (∀ t, Steps p.tables e below B t → Steps p.tables e below A t) → F B → F A := by
    intro A B h k
    rw [hF] at k ⊢
    exact own_backW h k
  suffices hgo : F (s₁.setTop (mkF m 0 #[.val (.int p0), .val (.int p1), .val (.int p2), .unset, .unset, .unset, .unset, .unset, .unset, .unset, .unset, .unset] [])) by
    have hgo' := bk (fun t k => castTop (T := s₁) (ef_0 m p0 p1 p2) k) hgo
    rw [hF] at hgo'
    exact hgo'
  have w_0 := hw _ (List.mem_of_getElem? (i := 0) rfl)
  have w_1 := hw _ (List.mem_of_getElem? (i := 1) rfl)
  have w_2 := hw _ (List.mem_of_getElem? (i := 2) rfl)
  have w_3 := hw _ (List.mem_of_getElem? (i := 3) rfl)
  have w_4 := hw _ (List.mem_of_getElem? (i := 4) rfl)
  have w_5 := hw _ (List.mem_of_getElem? (i := 5) rfl)
  have w_6 := hw _ (List.mem_of_getElem? (i := 6) rfl)
  have w_27 := hw _ (List.mem_of_getElem? (i := 27) rfl)
  have w_29 := hw _ (List.mem_of_getElem? (i := 29) rfl)
  have w_30 := hw _ (List.mem_of_getElem? (i := 30) rfl)
  have w_31 := hw _ (List.mem_of_getElem? (i := 31) rfl)
  have w_32 := hw _ (List.mem_of_getElem? (i := 32) rfl)
  have w_33 := hw _ (List.mem_of_getElem? (i := 33) rfl)
  have w_38 := hw _ (List.mem_of_getElem? (i := 38) rfl)
  have w_58 := hw _ (List.mem_of_getElem? (i := 58) rfl)
  have w_59 := hw _ (List.mem_of_getElem? (i := 59) rfl)
  have w_60 := hw _ (List.mem_of_getElem? (i := 60) rfl)
  have w_61 := hw _ (List.mem_of_getElem? (i := 61) rfl)
  have w_62 := hw _ (List.mem_of_getElem? (i := 62) rfl)
  have w_63 := hw _ (List.mem_of_getElem? (i := 63) rfl)
  have w_64 := hw _ (List.mem_of_getElem? (i := 64) rfl)
  have w_65 := hw _ (List.mem_of_getElem? (i := 65) rfl)
  have w_66 := hw _ (List.mem_of_getElem? (i := 66) rfl)
  have w_67 := hw _ (List.mem_of_getElem? (i := 67) rfl)
  have w_68 := hw _ (List.mem_of_getElem? (i := 68) rfl)
  have w_70 := hw _ (List.mem_of_getElem? (i := 70) rfl)
  have w_71 := hw _ (List.mem_of_getElem? (i := 71) rfl)
  have w_72 := hw _ (List.mem_of_getElem? (i := 72) rfl)
  have w_73 := hw _ (List.mem_of_getElem? (i := 73) rfl)
  have w_74 := hw _ (List.mem_of_getElem? (i := 74) rfl)
  have w_75 := hw _ (List.mem_of_getElem? (i := 75) rfl)
  have w_76 := hw _ (List.mem_of_getElem? (i := 76) rfl)
  have w_77 := hw _ (List.mem_of_getElem? (i := 77) rfl)
  have w_78 := hw _ (List.mem_of_getElem? (i := 78) rfl)
  have w_79 := hw _ (List.mem_of_getElem? (i := 79) rfl)
  have w_85 := hw _ (List.mem_of_getElem? (i := 85) rfl)
  have w_86 := hw _ (List.mem_of_getElem? (i := 86) rfl)
  have w_87 := hw _ (List.mem_of_getElem? (i := 87) rfl)
  have w_88 := hw _ (List.mem_of_getElem? (i := 88) rfl)
  have w_89 := hw _ (List.mem_of_getElem? (i := 89) rfl)
  show F (s₁.setTop (mkF m 0 #[.val (.int p0), .val (.int p1), .val (.int p2), .unset, .unset, .unset, .unset, .unset, .unset, .unset, .unset, .unset] []))
  refine bk (fun t k => XS.iloadN X0.here hx rfl (hb hby at_0) rfl k) ?_
  show F (s₁.setTop (mkF m 1 #[.val (.int p0), .val (.int p1), .val (.int p2), .unset, .unset, .unset, .unset, .unset, .unset, .unset, .unset, .unset] [(.int p2)]))
  refine bk (fun t k => XS.sipush X0.here hx rfl (hb hby at_1) k) ?_
  show F (s₁.setTop (mkF m 4 #[.val (.int p0), .val (.int p1), .val (.int p2), .unset, .unset, .unset, .unset, .unset, .unset, .unset, .unset, .unset] [(.int (255 : Int32)), (.int p2)]))
  refine bk (fun t k => XS.iand X0.here hx rfl (hb hby at_4) rfl k) ?_
  show F (s₁.setTop (mkF m 5 #[.val (.int p0), .val (.int p1), .val (.int p2), .unset, .unset, .unset, .unset, .unset, .unset, .unset, .unset, .unset] [(.int (p2 &&& (255 : Int32)))]))
  refine bk (fun t k => XS.i2c X0.here hx rfl (hb hby at_5) rfl k) ?_
  show F (s₁.setTop (mkF m 6 #[.val (.int p0), .val (.int p1), .val (.int p2), .unset, .unset, .unset, .unset, .unset, .unset, .unset, .unset, .unset] [(.int ((p2 &&& (255 : Int32)).toUInt32.toUInt16.toUInt32.toInt32))]))
  refine bk (fun t k => XS.istoreN X0.here hx rfl (hb hby at_6) rfl (l' := #[.val (.int p0), .val (.int p1), .val (.int p2), .val (.int ((p2 &&& (255 : Int32)).toUInt32.toUInt16.toUInt32.toInt32)), .unset, .unset, .unset, .unset, .unset, .unset, .unset, .unset]) rfl k) ?_
  show F (s₁.setTop (mkF m 7 #[.val (.int p0), .val (.int p1), .val (.int p2), .val (.int ((p2 &&& (255 : Int32)).toUInt32.toUInt16.toUInt32.toInt32)), .unset, .unset, .unset, .unset, .unset, .unset, .unset, .unset] []))
  refine bk (fun t k => XS.iloadN X0.here hx rfl (hb hby at_7) rfl k) ?_
  show F (s₁.setTop (mkF m 8 #[.val (.int p0), .val (.int p1), .val (.int p2), .val (.int ((p2 &&& (255 : Int32)).toUInt32.toUInt16.toUInt32.toInt32)), .unset, .unset, .unset, .unset, .unset, .unset, .unset, .unset] [(.int p2)]))
  refine bk (fun t k => XS.bipush X0.here hx rfl (hb hby at_8) k) ?_
  show F (s₁.setTop (mkF m 10 #[.val (.int p0), .val (.int p1), .val (.int p2), .val (.int ((p2 &&& (255 : Int32)).toUInt32.toUInt16.toUInt32.toInt32)), .unset, .unset, .unset, .unset, .unset, .unset, .unset, .unset] [(.int (8 : Int32)), (.int p2)]))
  refine bk (fun t k => XS.iushr X0.here hx rfl (hb hby at_10) rfl k) ?_
  show F (s₁.setTop (mkF m 11 #[.val (.int p0), .val (.int p1), .val (.int p2), .val (.int ((p2 &&& (255 : Int32)).toUInt32.toUInt16.toUInt32.toInt32)), .unset, .unset, .unset, .unset, .unset, .unset, .unset, .unset] [(.int ((p2.toUInt32 >>> ((8 : Int32) &&& 31).toUInt32).toInt32))]))
  refine bk (fun t k => XS.sipush X0.here hx rfl (hb hby at_11) k) ?_
  show F (s₁.setTop (mkF m 14 #[.val (.int p0), .val (.int p1), .val (.int p2), .val (.int ((p2 &&& (255 : Int32)).toUInt32.toUInt16.toUInt32.toInt32)), .unset, .unset, .unset, .unset, .unset, .unset, .unset, .unset] [(.int (255 : Int32)), (.int ((p2.toUInt32 >>> ((8 : Int32) &&& 31).toUInt32).toInt32))]))
  refine bk (fun t k => XS.iand X0.here hx rfl (hb hby at_14) rfl k) ?_
  show F (s₁.setTop (mkF m 15 #[.val (.int p0), .val (.int p1), .val (.int p2), .val (.int ((p2 &&& (255 : Int32)).toUInt32.toUInt16.toUInt32.toInt32)), .unset, .unset, .unset, .unset, .unset, .unset, .unset, .unset] [(.int (((p2.toUInt32 >>> ((8 : Int32) &&& 31).toUInt32).toInt32) &&& (255 : Int32)))]))
  refine bk (fun t k => XS.i2c X0.here hx rfl (hb hby at_15) rfl k) ?_
  show F (s₁.setTop (mkF m 16 #[.val (.int p0), .val (.int p1), .val (.int p2), .val (.int ((p2 &&& (255 : Int32)).toUInt32.toUInt16.toUInt32.toInt32)), .unset, .unset, .unset, .unset, .unset, .unset, .unset, .unset] [(.int ((((p2.toUInt32 >>> ((8 : Int32) &&& 31).toUInt32).toInt32) &&& (255 : Int32)).toUInt32.toUInt16.toUInt32.toInt32))]))
  refine bk (fun t k => XS.istore X0.here hx rfl (hb hby at_16) rfl (l' := #[.val (.int p0), .val (.int p1), .val (.int p2), .val (.int ((p2 &&& (255 : Int32)).toUInt32.toUInt16.toUInt32.toInt32)), .val (.int ((((p2.toUInt32 >>> ((8 : Int32) &&& 31).toUInt32).toInt32) &&& (255 : Int32)).toUInt32.toUInt16.toUInt32.toInt32)), .unset, .unset, .unset, .unset, .unset, .unset, .unset]) rfl k) ?_
  show F (s₁.setTop (mkF m 18 #[.val (.int p0), .val (.int p1), .val (.int p2), .val (.int ((p2 &&& (255 : Int32)).toUInt32.toUInt16.toUInt32.toInt32)), .val (.int ((((p2.toUInt32 >>> ((8 : Int32) &&& 31).toUInt32).toInt32) &&& (255 : Int32)).toUInt32.toUInt16.toUInt32.toInt32)), .unset, .unset, .unset, .unset, .unset, .unset, .unset] []))
  refine bk (fun t k => XS.iloadN X0.here hx rfl (hb hby at_18) rfl k) ?_
  show F (s₁.setTop (mkF m 19 #[.val (.int p0), .val (.int p1), .val (.int p2), .val (.int ((p2 &&& (255 : Int32)).toUInt32.toUInt16.toUInt32.toInt32)), .val (.int ((((p2.toUInt32 >>> ((8 : Int32) &&& 31).toUInt32).toInt32) &&& (255 : Int32)).toUInt32.toUInt16.toUInt32.toInt32)), .unset, .unset, .unset, .unset, .unset, .unset, .unset] [(.int p2)]))
  refine bk (fun t k => XS.bipush X0.here hx rfl (hb hby at_19) k) ?_
  show F (s₁.setTop (mkF m 21 #[.val (.int p0), .val (.int p1), .val (.int p2), .val (.int ((p2 &&& (255 : Int32)).toUInt32.toUInt16.toUInt32.toInt32)), .val (.int ((((p2.toUInt32 >>> ((8 : Int32) &&& 31).toUInt32).toInt32) &&& (255 : Int32)).toUInt32.toUInt16.toUInt32.toInt32)), .unset, .unset, .unset, .unset, .unset, .unset, .unset] [(.int (16 : Int32)), (.int p2)]))
  refine bk (fun t k => XS.iushr X0.here hx rfl (hb hby at_21) rfl k) ?_
  show F (s₁.setTop (mkF m 22 #[.val (.int p0), .val (.int p1), .val (.int p2), .val (.int ((p2 &&& (255 : Int32)).toUInt32.toUInt16.toUInt32.toInt32)), .val (.int ((((p2.toUInt32 >>> ((8 : Int32) &&& 31).toUInt32).toInt32) &&& (255 : Int32)).toUInt32.toUInt16.toUInt32.toInt32)), .unset, .unset, .unset, .unset, .unset, .unset, .unset] [(.int ((p2.toUInt32 >>> ((16 : Int32) &&& 31).toUInt32).toInt32))]))
  refine bk (fun t k => XS.sipush X0.here hx rfl (hb hby at_22) k) ?_
  show F (s₁.setTop (mkF m 25 #[.val (.int p0), .val (.int p1), .val (.int p2), .val (.int ((p2 &&& (255 : Int32)).toUInt32.toUInt16.toUInt32.toInt32)), .val (.int ((((p2.toUInt32 >>> ((8 : Int32) &&& 31).toUInt32).toInt32) &&& (255 : Int32)).toUInt32.toUInt16.toUInt32.toInt32)), .unset, .unset, .unset, .unset, .unset, .unset, .unset] [(.int (255 : Int32)), (.int ((p2.toUInt32 >>> ((16 : Int32) &&& 31).toUInt32).toInt32))]))
  refine bk (fun t k => XS.iand X0.here hx rfl (hb hby at_25) rfl k) ?_
  show F (s₁.setTop (mkF m 26 #[.val (.int p0), .val (.int p1), .val (.int p2), .val (.int ((p2 &&& (255 : Int32)).toUInt32.toUInt16.toUInt32.toInt32)), .val (.int ((((p2.toUInt32 >>> ((8 : Int32) &&& 31).toUInt32).toInt32) &&& (255 : Int32)).toUInt32.toUInt16.toUInt32.toInt32)), .unset, .unset, .unset, .unset, .unset, .unset, .unset] [(.int (((p2.toUInt32 >>> ((16 : Int32) &&& 31).toUInt32).toInt32) &&& (255 : Int32)))]))
  refine bk (fun t k => XS.i2c X0.here hx rfl (hb hby at_26) rfl k) ?_
  show F (s₁.setTop (mkF m 27 #[.val (.int p0), .val (.int p1), .val (.int p2), .val (.int ((p2 &&& (255 : Int32)).toUInt32.toUInt16.toUInt32.toInt32)), .val (.int ((((p2.toUInt32 >>> ((8 : Int32) &&& 31).toUInt32).toInt32) &&& (255 : Int32)).toUInt32.toUInt16.toUInt32.toInt32)), .unset, .unset, .unset, .unset, .unset, .unset, .unset] [(.int ((((p2.toUInt32 >>> ((16 : Int32) &&& 31).toUInt32).toInt32) &&& (255 : Int32)).toUInt32.toUInt16.toUInt32.toInt32))]))
  refine bk (fun t k => XS.istore X0.here hx rfl (hb hby at_27) rfl (l' := #[.val (.int p0), .val (.int p1), .val (.int p2), .val (.int ((p2 &&& (255 : Int32)).toUInt32.toUInt16.toUInt32.toInt32)), .val (.int ((((p2.toUInt32 >>> ((8 : Int32) &&& 31).toUInt32).toInt32) &&& (255 : Int32)).toUInt32.toUInt16.toUInt32.toInt32)), .val (.int ((((p2.toUInt32 >>> ((16 : Int32) &&& 31).toUInt32).toInt32) &&& (255 : Int32)).toUInt32.toUInt16.toUInt32.toInt32)), .unset, .unset, .unset, .unset, .unset, .unset]) rfl k) ?_
  show F (s₁.setTop (mkF m 29 #[.val (.int p0), .val (.int p1), .val (.int p2), .val (.int ((p2 &&& (255 : Int32)).toUInt32.toUInt16.toUInt32.toInt32)), .val (.int ((((p2.toUInt32 >>> ((8 : Int32) &&& 31).toUInt32).toInt32) &&& (255 : Int32)).toUInt32.toUInt16.toUInt32.toInt32)), .val (.int ((((p2.toUInt32 >>> ((16 : Int32) &&& 31).toUInt32).toInt32) &&& (255 : Int32)).toUInt32.toUInt16.toUInt32.toInt32)), .unset, .unset, .unset, .unset, .unset, .unset] []))
  refine bk (fun t k => XS.iloadN X0.here hx rfl (hb hby at_29) rfl k) ?_
  show F (s₁.setTop (mkF m 30 #[.val (.int p0), .val (.int p1), .val (.int p2), .val (.int ((p2 &&& (255 : Int32)).toUInt32.toUInt16.toUInt32.toInt32)), .val (.int ((((p2.toUInt32 >>> ((8 : Int32) &&& 31).toUInt32).toInt32) &&& (255 : Int32)).toUInt32.toUInt16.toUInt32.toInt32)), .val (.int ((((p2.toUInt32 >>> ((16 : Int32) &&& 31).toUInt32).toInt32) &&& (255 : Int32)).toUInt32.toUInt16.toUInt32.toInt32)), .unset, .unset, .unset, .unset, .unset, .unset] [(.int p1)]))
  refine bk (fun t k => XS.iconst X0.here hx rfl (hb hby at_30) k) ?_
  show F (s₁.setTop (mkF m 31 #[.val (.int p0), .val (.int p1), .val (.int p2), .val (.int ((p2 &&& (255 : Int32)).toUInt32.toUInt16.toUInt32.toInt32)), .val (.int ((((p2.toUInt32 >>> ((8 : Int32) &&& 31).toUInt32).toInt32) &&& (255 : Int32)).toUInt32.toUInt16.toUInt32.toInt32)), .val (.int ((((p2.toUInt32 >>> ((16 : Int32) &&& 31).toUInt32).toInt32) &&& (255 : Int32)).toUInt32.toUInt16.toUInt32.toInt32)), .unset, .unset, .unset, .unset, .unset, .unset] [(.int (3 : Int32)), (.int p1)]))
  refine bk (fun t k => XS.iand X0.here hx rfl (hb hby at_31) rfl k) ?_
  show F (s₁.setTop (mkF m 32 #[.val (.int p0), .val (.int p1), .val (.int p2), .val (.int ((p2 &&& (255 : Int32)).toUInt32.toUInt16.toUInt32.toInt32)), .val (.int ((((p2.toUInt32 >>> ((8 : Int32) &&& 31).toUInt32).toInt32) &&& (255 : Int32)).toUInt32.toUInt16.toUInt32.toInt32)), .val (.int ((((p2.toUInt32 >>> ((16 : Int32) &&& 31).toUInt32).toInt32) &&& (255 : Int32)).toUInt32.toUInt16.toUInt32.toInt32)), .unset, .unset, .unset, .unset, .unset, .unset] [(.int (p1 &&& (3 : Int32)))]))
  refine bk (fun t k => XS.istore X0.here hx rfl (hb hby at_32) rfl (l' := #[.val (.int p0), .val (.int p1), .val (.int p2), .val (.int ((p2 &&& (255 : Int32)).toUInt32.toUInt16.toUInt32.toInt32)), .val (.int ((((p2.toUInt32 >>> ((8 : Int32) &&& 31).toUInt32).toInt32) &&& (255 : Int32)).toUInt32.toUInt16.toUInt32.toInt32)), .val (.int ((((p2.toUInt32 >>> ((16 : Int32) &&& 31).toUInt32).toInt32) &&& (255 : Int32)).toUInt32.toUInt16.toUInt32.toInt32)), .val (.int (p1 &&& (3 : Int32))), .unset, .unset, .unset, .unset, .unset]) rfl k) ?_
  show F (s₁.setTop (mkF m 34 #[.val (.int p0), .val (.int p1), .val (.int p2), .val (.int ((p2 &&& (255 : Int32)).toUInt32.toUInt16.toUInt32.toInt32)), .val (.int ((((p2.toUInt32 >>> ((8 : Int32) &&& 31).toUInt32).toInt32) &&& (255 : Int32)).toUInt32.toUInt16.toUInt32.toInt32)), .val (.int ((((p2.toUInt32 >>> ((16 : Int32) &&& 31).toUInt32).toInt32) &&& (255 : Int32)).toUInt32.toUInt16.toUInt32.toInt32)), .val (.int (p1 &&& (3 : Int32))), .unset, .unset, .unset, .unset, .unset] []))
  refine bk (fun t k => XS.iload X0.here hx rfl (hb hby at_34) rfl k) ?_
  show F (s₁.setTop (mkF m 36 #[.val (.int p0), .val (.int p1), .val (.int p2), .val (.int ((p2 &&& (255 : Int32)).toUInt32.toUInt16.toUInt32.toInt32)), .val (.int ((((p2.toUInt32 >>> ((8 : Int32) &&& 31).toUInt32).toInt32) &&& (255 : Int32)).toUInt32.toUInt16.toUInt32.toInt32)), .val (.int ((((p2.toUInt32 >>> ((16 : Int32) &&& 31).toUInt32).toInt32) &&& (255 : Int32)).toUInt32.toUInt16.toUInt32.toInt32)), .val (.int (p1 &&& (3 : Int32))), .unset, .unset, .unset, .unset, .unset] [(.int (p1 &&& (3 : Int32)))]))
  by_cases hc36_1 : (p1 &&& (3 : Int32)) = (0 : Int32)
  · refine bk (fun t k => XS.ifNo X0.here hx rfl (hb hby at_36) rfl ((if0 _ _).trans (teq hc36_1).2) k) ?_
    show F (s₁.setTop (mkF m 39 #[.val (.int p0), .val (.int p1), .val (.int p2), .val (.int ((p2 &&& (255 : Int32)).toUInt32.toUInt16.toUInt32.toInt32)), .val (.int ((((p2.toUInt32 >>> ((8 : Int32) &&& 31).toUInt32).toInt32) &&& (255 : Int32)).toUInt32.toUInt16.toUInt32.toInt32)), .val (.int ((((p2.toUInt32 >>> ((16 : Int32) &&& 31).toUInt32).toInt32) &&& (255 : Int32)).toUInt32.toUInt16.toUInt32.toInt32)), .val (.int (p1 &&& (3 : Int32))), .unset, .unset, .unset, .unset, .unset] []))
    refine bk (fun t k => XS.iconst X0.here hx rfl (hb hby at_39) k) ?_
    show F (s₁.setTop (mkF m 40 #[.val (.int p0), .val (.int p1), .val (.int p2), .val (.int ((p2 &&& (255 : Int32)).toUInt32.toUInt16.toUInt32.toInt32)), .val (.int ((((p2.toUInt32 >>> ((8 : Int32) &&& 31).toUInt32).toInt32) &&& (255 : Int32)).toUInt32.toUInt16.toUInt32.toInt32)), .val (.int ((((p2.toUInt32 >>> ((16 : Int32) &&& 31).toUInt32).toInt32) &&& (255 : Int32)).toUInt32.toUInt16.toUInt32.toInt32)), .val (.int (p1 &&& (3 : Int32))), .unset, .unset, .unset, .unset, .unset] [(.int (0 : Int32))]))
    obtain ⟨T2, h2, k2, X2, e2, E2, A2, st2⟩ := newP (aty := .char) X0 hx hZ w_0 e0 (g := (mkF m 40 #[.val (.int p0), .val (.int p1), .val (.int p2), .val (.int ((p2 &&& (255 : Int32)).toUInt32.toUInt16.toUInt32.toInt32)), .val (.int ((((p2.toUInt32 >>> ((8 : Int32) &&& 31).toUInt32).toInt32) &&& (255 : Int32)).toUInt32.toUInt16.toUInt32.toInt32)), .val (.int ((((p2.toUInt32 >>> ((16 : Int32) &&& 31).toUInt32).toInt32) &&& (255 : Int32)).toUInt32.toUInt16.toUInt32.toInt32)), .val (.int (p1 &&& (3 : Int32))), .unset, .unset, .unset, .unset, .unset] [(.int (0 : Int32))])) rfl (hb hby at_40) rfl (by decide) (cap := 0) (by decide) (by decide) (by decide) (by decide)
    obtain ⟨b2, g2⟩ : ∃ z, z = h0.size := ⟨_, rfl⟩
    rw [← g2] at A2 st2
    have Gb2 : n0 ≤ b2 := Nat.le_trans Z0 (Nat.le_of_eq g2.symm)
    have f3 := Nat.le_trans (Nat.zero_le _) E2.1
    have f4 := Nat.le_trans Z0 E2.1
    have f5 := O0.ext E2
    have f6 := S_cs.ext E2
    have V_b2 : Arv Z h2 b2 k2 .char (0 : Int32) [] (.int (0 : Int32)) := (Arv.new A2 (by decide)).pad (pad_rep [] (.int (0 : Int32)) 0)
    refine bk (fun t k => st2 t k) ?_
    show F (T2.setTop (mkF m 42 #[.val (.int p0), .val (.int p1), .val (.int p2), .val (.int ((p2 &&& (255 : Int32)).toUInt32.toUInt16.toUInt32.toInt32)), .val (.int ((((p2.toUInt32 >>> ((8 : Int32) &&& 31).toUInt32).toInt32) &&& (255 : Int32)).toUInt32.toUInt16.toUInt32.toInt32)), .val (.int ((((p2.toUInt32 >>> ((16 : Int32) &&& 31).toUInt32).toInt32) &&& (255 : Int32)).toUInt32.toUInt16.toUInt32.toInt32)), .val (.int (p1 &&& (3 : Int32))), .unset, .unset, .unset, .unset, .unset] [(.ref b2)]))
    refine bk (fun t k => XS.astore X2.here hx rfl (hb hby at_42) rfl rfl (l' := #[.val (.int p0), .val (.int p1), .val (.int p2), .val (.int ((p2 &&& (255 : Int32)).toUInt32.toUInt16.toUInt32.toInt32)), .val (.int ((((p2.toUInt32 >>> ((8 : Int32) &&& 31).toUInt32).toInt32) &&& (255 : Int32)).toUInt32.toUInt16.toUInt32.toInt32)), .val (.int ((((p2.toUInt32 >>> ((16 : Int32) &&& 31).toUInt32).toInt32) &&& (255 : Int32)).toUInt32.toUInt16.toUInt32.toInt32)), .val (.int (p1 &&& (3 : Int32))), .val (.ref b2), .unset, .unset, .unset, .unset]) rfl k) ?_
    show F (T2.setTop (mkF m 44 #[.val (.int p0), .val (.int p1), .val (.int p2), .val (.int ((p2 &&& (255 : Int32)).toUInt32.toUInt16.toUInt32.toInt32)), .val (.int ((((p2.toUInt32 >>> ((8 : Int32) &&& 31).toUInt32).toInt32) &&& (255 : Int32)).toUInt32.toUInt16.toUInt32.toInt32)), .val (.int ((((p2.toUInt32 >>> ((16 : Int32) &&& 31).toUInt32).toInt32) &&& (255 : Int32)).toUInt32.toUInt16.toUInt32.toInt32)), .val (.int (p1 &&& (3 : Int32))), .val (.ref b2), .unset, .unset, .unset, .unset] []))
    refine bk (fun t k => XS.goto X2.here hx rfl (pc0 := 44) (pc' := 107) rfl (hb hby at_44) (by decide) (by decide) k) ?_
    show F (T2.setTop (mkF m 107 #[.val (.int p0), .val (.int p1), .val (.int p2), .val (.int ((p2 &&& (255 : Int32)).toUInt32.toUInt16.toUInt32.toInt32)), .val (.int ((((p2.toUInt32 >>> ((8 : Int32) &&& 31).toUInt32).toInt32) &&& (255 : Int32)).toUInt32.toUInt16.toUInt32.toInt32)), .val (.int ((((p2.toUInt32 >>> ((16 : Int32) &&& 31).toUInt32).toInt32) &&& (255 : Int32)).toUInt32.toUInt16.toUInt32.toInt32)), .val (.int (p1 &&& (3 : Int32))), .val (.ref b2), .unset, .unset, .unset, .unset] []))
    refine bk (fun t k => XS.iloadN X2.here hx rfl (hb hby at_107) rfl k) ?_
    show F (T2.setTop (mkF m 108 #[.val (.int p0), .val (.int p1), .val (.int p2), .val (.int ((p2 &&& (255 : Int32)).toUInt32.toUInt16.toUInt32.toInt32)), .val (.int ((((p2.toUInt32 >>> ((8 : Int32) &&& 31).toUInt32).toInt32) &&& (255 : Int32)).toUInt32.toUInt16.toUInt32.toInt32)), .val (.int ((((p2.toUInt32 >>> ((16 : Int32) &&& 31).toUInt32).toInt32) &&& (255 : Int32)).toUInt32.toUInt16.toUInt32.toInt32)), .val (.int (p1 &&& (3 : Int32))), .val (.ref b2), .unset, .unset, .unset, .unset] [(.int p1)]))
    refine bk (fun t k => XS.iconst X2.here hx rfl (hb hby at_108) k) ?_
    show F (T2.setTop (mkF m 109 #[.val (.int p0), .val (.int p1), .val (.int p2), .val (.int ((p2 &&& (255 : Int32)).toUInt32.toUInt16.toUInt32.toInt32)), .val (.int ((((p2.toUInt32 >>> ((8 : Int32) &&& 31).toUInt32).toInt32) &&& (255 : Int32)).toUInt32.toUInt16.toUInt32.toInt32)), .val (.int ((((p2.toUInt32 >>> ((16 : Int32) &&& 31).toUInt32).toInt32) &&& (255 : Int32)).toUInt32.toUInt16.toUInt32.toInt32)), .val (.int (p1 &&& (3 : Int32))), .val (.ref b2), .unset, .unset, .unset, .unset] [(.int (4 : Int32)), (.int p1)]))
    refine bk (fun t k => XS.iand X2.here hx rfl (hb hby at_109) rfl k) ?_
    show F (T2.setTop (mkF m 110 #[.val (.int p0), .val (.int p1), .val (.int p2), .val (.int ((p2 &&& (255 : Int32)).toUInt32.toUInt16.toUInt32.toInt32)), .val (.int ((((p2.toUInt32 >>> ((8 : Int32) &&& 31).toUInt32).toInt32) &&& (255 : Int32)).toUInt32.toUInt16.toUInt32.toInt32)), .val (.int ((((p2.toUInt32 >>> ((16 : Int32) &&& 31).toUInt32).toInt32) &&& (255 : Int32)).toUInt32.toUInt16.toUInt32.toInt32)), .val (.int (p1 &&& (3 : Int32))), .val (.ref b2), .unset, .unset, .unset, .unset] [(.int (p1 &&& (4 : Int32)))]))
    by_cases hc110_7 : (p1 &&& (4 : Int32)) = (0 : Int32)
    · refine bk (fun t k => XS.ifYes X2.here hx rfl (pc0 := 110) (pc' := 117) rfl (hb hby at_110) rfl ((if0 _ _).trans (teq hc110_7).1) (by decide) (by decide) k) ?_
      show F (T2.setTop (mkF m 117 #[.val (.int p0), .val (.int p1), .val (.int p2), .val (.int ((p2 &&& (255 : Int32)).toUInt32.toUInt16.toUInt32.toInt32)), .val (.int ((((p2.toUInt32 >>> ((8 : Int32) &&& 31).toUInt32).toInt32) &&& (255 : Int32)).toUInt32.toUInt16.toUInt32.toInt32)), .val (.int ((((p2.toUInt32 >>> ((16 : Int32) &&& 31).toUInt32).toInt32) &&& (255 : Int32)).toUInt32.toUInt16.toUInt32.toInt32)), .val (.int (p1 &&& (3 : Int32))), .val (.ref b2), .unset, .unset, .unset, .unset] []))
      obtain ⟨T8, h8, X8, e8, E8, A8, D8, -, st8⟩ := newO X2 hx hZ hown w_1 w_2 w_3 e2 (g := (mkF m 117 #[.val (.int p0), .val (.int p1), .val (.int p2), .val (.int ((p2 &&& (255 : Int32)).toUInt32.toUInt16.toUInt32.toInt32)), .val (.int ((((p2.toUInt32 >>> ((8 : Int32) &&& 31).toUInt32).toInt32) &&& (255 : Int32)).toUInt32.toUInt16.toUInt32.toInt32)), .val (.int ((((p2.toUInt32 >>> ((16 : Int32) &&& 31).toUInt32).toInt32) &&& (255 : Int32)).toUInt32.toUInt16.toUInt32.toInt32)), .val (.int (p1 &&& (3 : Int32))), .val (.ref b2), .unset, .unset, .unset, .unset] [])) rfl (hb hby at_117) (by decide) (by decide)
      obtain ⟨b8, g8⟩ : ∃ z, z = h2.size := ⟨_, rfl⟩
      rw [← g8] at A8 D8 st8
      have Gb8 : n0 ≤ b8 := Nat.le_trans f4 (Nat.le_of_eq g8.symm)
      have ne_b2_b8 : b2 ≠ b8 := Nat.ne_of_lt (Nat.lt_of_lt_of_le V_b2.lt (Nat.le_of_eq g8.symm))
      have f9 := Nat.le_trans f3 E8.1
      have f10 := Nat.le_trans f4 E8.1
      have f11 := f5.ext E8
      have f12 := f6.ext E8
      have f13 := V_b2.ext E8
      have F_coder_b8 : Fld Z h8 b8 "java/lang/String" "coder" "B" (.int (0 : Int32)) := D8 (Or.inr w_27) (ty := .byte) (by decide)
      have F_value_b8 : Fld Z h8 b8 "java/lang/String" "value" "[B" .null := D8 (Or.inr w_29) (ty := (.array .byte)) (by decide)
      refine bk (fun t k => st8 t k) ?_
      show F (T8.setTop (mkF m 120 #[.val (.int p0), .val (.int p1), .val (.int p2), .val (.int ((p2 &&& (255 : Int32)).toUInt32.toUInt16.toUInt32.toInt32)), .val (.int ((((p2.toUInt32 >>> ((8 : Int32) &&& 31).toUInt32).toInt32) &&& (255 : Int32)).toUInt32.toUInt16.toUInt32.toInt32)), .val (.int ((((p2.toUInt32 >>> ((16 : Int32) &&& 31).toUInt32).toInt32) &&& (255 : Int32)).toUInt32.toUInt16.toUInt32.toInt32)), .val (.int (p1 &&& (3 : Int32))), .val (.ref b2), .unset, .unset, .unset, .unset] [(.ref b8)]))
      refine bk (fun t k => XS.dup X8.here hx rfl (hb hby at_120) rfl rfl k) ?_
      show F (T8.setTop (mkF m 121 #[.val (.int p0), .val (.int p1), .val (.int p2), .val (.int ((p2 &&& (255 : Int32)).toUInt32.toUInt16.toUInt32.toInt32)), .val (.int ((((p2.toUInt32 >>> ((8 : Int32) &&& 31).toUInt32).toInt32) &&& (255 : Int32)).toUInt32.toUInt16.toUInt32.toInt32)), .val (.int ((((p2.toUInt32 >>> ((16 : Int32) &&& 31).toUInt32).toInt32) &&& (255 : Int32)).toUInt32.toUInt16.toUInt32.toInt32)), .val (.int (p1 &&& (3 : Int32))), .val (.ref b2), .unset, .unset, .unset, .unset] [(.ref b8), (.ref b8)]))
      refine bk (fun t k => XS.aload X8.here hx rfl (hb hby at_121) rfl rfl k) ?_
      show F (T8.setTop (mkF m 123 #[.val (.int p0), .val (.int p1), .val (.int p2), .val (.int ((p2 &&& (255 : Int32)).toUInt32.toUInt16.toUInt32.toInt32)), .val (.int ((((p2.toUInt32 >>> ((8 : Int32) &&& 31).toUInt32).toInt32) &&& (255 : Int32)).toUInt32.toUInt16.toUInt32.toInt32)), .val (.int ((((p2.toUInt32 >>> ((16 : Int32) &&& 31).toUInt32).toInt32) &&& (255 : Int32)).toUInt32.toUInt16.toUInt32.toInt32)), .val (.int (p1 &&& (3 : Int32))), .val (.ref b2), .unset, .unset, .unset, .unset] [(.ref b2), (.ref b8), (.ref b8)]))
      obtain ⟨_, _, ⟨T14, L14, k14, n14⟩, -, Y14, hs14, gr14, ⟨Lc14, hQ14, l14, y14, z14⟩, st14⟩ := X8.specialBackS hx (y := (⟨"java/lang/String", "<init>", "([C)V"⟩ : MethodName)) rfl hown (mvT hZ w_4) (mvT hZ w_5) (mvT hZ w_6) (by decide) (own_backOfSI (W := 1) (rm1_0 l Z a0 hw [] b8 b2 k2 h8 n0 f10 A8 F_value_b8 F_coder_b8 Gb8 f13 (Ne.symm ne_b2_b8) f11 own_held own_hc) hZ hI w_6 w_3 (by decide) (by decide)) (g := (mkF m 123 #[.val (.int p0), .val (.int p1), .val (.int p2), .val (.int ((p2 &&& (255 : Int32)).toUInt32.toUInt16.toUInt32.toInt32)), .val (.int ((((p2.toUInt32 >>> ((8 : Int32) &&& 31).toUInt32).toInt32) &&& (255 : Int32)).toUInt32.toUInt16.toUInt32.toInt32)), .val (.int ((((p2.toUInt32 >>> ((16 : Int32) &&& 31).toUInt32).toInt32) &&& (255 : Int32)).toUInt32.toUInt16.toUInt32.toInt32)), .val (.int (p1 &&& (3 : Int32))), .val (.ref b2), .unset, .unset, .unset, .unset] [(.ref b2), (.ref b8), (.ref b8)])) rfl (by rw [hml]; rfl) (Steps.refl _) (a := b8) (argsL := [(.ref b2)]) (rest := [(.ref b8)]) (lenOf pd0___C_V rfl) rfl (by show 2 * 0 + _ ≤ _; exact Nat.le_of_eq rfl) (hb hby at_123) (fun _ _ => ⟨rfl, e8, (by decide : 2 + 2 ≤ _), (by decide : 4 + 4 ≤ _)⟩)
      dsimp only [Pt.U, Pt.locs, Pt.cells, Pt.slots] at Y14 hs14 gr14 l14 y14 z14 st14 hQ14
      subst l14 y14 z14
      obtain ⟨X14, hS14, hZ14, hown14⟩ := rebS hS0 (by rw [e8]; exact f9) Y14 hs14 gr14 hZ hown
      obtain ⟨rfl, N14q, K14, gE14, gC14, r14, kd14, gF14, gV14⟩ := hQ14
      have N14 := Fr.app N0 N14q
      have f15 := Nat.le_trans f9 K14.1
      have f16 := Nat.le_trans f10 K14.1
      have f17 := f11.keep K14 (allS Gb8 all0)
      have f18 := own_sta1 f12 K14 A8
      have f19 := f13.keep K14 (ninS ne_b2_b8 nin0)
      have f20 := A8.keep K14
      refine bk (fun t k => st14.trans k) ?_
      show F (T14.setTop (mkF m 126 #[.val (.int p0), .val (.int p1), .val (.int p2), .val (.int ((p2 &&& (255 : Int32)).toUInt32.toUInt16.toUInt32.toInt32)), .val (.int ((((p2.toUInt32 >>> ((8 : Int32) &&& 31).toUInt32).toInt32) &&& (255 : Int32)).toUInt32.toUInt16.toUInt32.toInt32)), .val (.int ((((p2.toUInt32 >>> ((16 : Int32) &&& 31).toUInt32).toInt32) &&& (255 : Int32)).toUInt32.toUInt16.toUInt32.toInt32)), .val (.int (p1 &&& (3 : Int32))), .val (.ref b2), .unset, .unset, .unset, .unset] [(.ref b8)]))
      refine bk (fun t k => XS.astore X14.here hx rfl (hb hby at_126) rfl rfl (l' := #[.val (.int p0), .val (.int p1), .val (.int p2), .val (.int ((p2 &&& (255 : Int32)).toUInt32.toUInt16.toUInt32.toInt32)), .val (.int ((((p2.toUInt32 >>> ((8 : Int32) &&& 31).toUInt32).toInt32) &&& (255 : Int32)).toUInt32.toUInt16.toUInt32.toInt32)), .val (.int ((((p2.toUInt32 >>> ((16 : Int32) &&& 31).toUInt32).toInt32) &&& (255 : Int32)).toUInt32.toUInt16.toUInt32.toInt32)), .val (.int (p1 &&& (3 : Int32))), .val (.ref b2), .val (.ref b8), .unset, .unset, .unset]) rfl k) ?_
      show F (T14.setTop (mkF m 128 #[.val (.int p0), .val (.int p1), .val (.int p2), .val (.int ((p2 &&& (255 : Int32)).toUInt32.toUInt16.toUInt32.toInt32)), .val (.int ((((p2.toUInt32 >>> ((8 : Int32) &&& 31).toUInt32).toInt32) &&& (255 : Int32)).toUInt32.toUInt16.toUInt32.toInt32)), .val (.int ((((p2.toUInt32 >>> ((16 : Int32) &&& 31).toUInt32).toInt32) &&& (255 : Int32)).toUInt32.toUInt16.toUInt32.toInt32)), .val (.int (p1 &&& (3 : Int32))), .val (.ref b2), .val (.ref b8), .unset, .unset, .unset] []))
      refine bk (fun t k => XS.iloadN X14.here hx rfl (hb hby at_128) rfl k) ?_
      show F (T14.setTop (mkF m 129 #[.val (.int p0), .val (.int p1), .val (.int p2), .val (.int ((p2 &&& (255 : Int32)).toUInt32.toUInt16.toUInt32.toInt32)), .val (.int ((((p2.toUInt32 >>> ((8 : Int32) &&& 31).toUInt32).toInt32) &&& (255 : Int32)).toUInt32.toUInt16.toUInt32.toInt32)), .val (.int ((((p2.toUInt32 >>> ((16 : Int32) &&& 31).toUInt32).toInt32) &&& (255 : Int32)).toUInt32.toUInt16.toUInt32.toInt32)), .val (.int (p1 &&& (3 : Int32))), .val (.ref b2), .val (.ref b8), .unset, .unset, .unset] [(.int p0)]))
      refine bk (fun t k => XS.aload X14.here hx rfl (hb hby at_129) rfl rfl k) ?_
      show F (T14.setTop (mkF m 131 #[.val (.int p0), .val (.int p1), .val (.int p2), .val (.int ((p2 &&& (255 : Int32)).toUInt32.toUInt16.toUInt32.toInt32)), .val (.int ((((p2.toUInt32 >>> ((8 : Int32) &&& 31).toUInt32).toInt32) &&& (255 : Int32)).toUInt32.toUInt16.toUInt32.toInt32)), .val (.int ((((p2.toUInt32 >>> ((16 : Int32) &&& 31).toUInt32).toInt32) &&& (255 : Int32)).toUInt32.toUInt16.toUInt32.toInt32)), .val (.int (p1 &&& (3 : Int32))), .val (.ref b2), .val (.ref b8), .unset, .unset, .unset] [(.ref b8), (.int p0)]))
      obtain ⟨_, _, ⟨T21, L21, k21, n21⟩, -, X21, ⟨Lc21, hQ21, l21, y21, z21⟩, st21⟩ := Jvm.LawKit.callS X14 hx (y := (⟨"com/example/unabridged_index/unabridgedindex/server/Answer", "error", "(ILjava/lang/String;)Lcom/example/unabridged_index/unabridgedindex/server/Answer;"⟩ : MethodName)) hown14 (mvT hZ14 w_30) (mvT hZ14 w_31) (mvT hZ14 w_32) (mvT hZ14 w_33) (by decide) (backOf (W := 0) (rm7s l Z a0 hw [] p0 b8 T14.heap n0 f16) hZ14 w_33 w_32 (by decide) (by decide)) (g := (mkF m 131 #[.val (.int p0), .val (.int p1), .val (.int p2), .val (.int ((p2 &&& (255 : Int32)).toUInt32.toUInt16.toUInt32.toInt32)), .val (.int ((((p2.toUInt32 >>> ((8 : Int32) &&& 31).toUInt32).toInt32) &&& (255 : Int32)).toUInt32.toUInt16.toUInt32.toInt32)), .val (.int ((((p2.toUInt32 >>> ((16 : Int32) &&& 31).toUInt32).toInt32) &&& (255 : Int32)).toUInt32.toUInt16.toUInt32.toInt32)), .val (.int (p1 &&& (3 : Int32))), .val (.ref b2), .val (.ref b8), .unset, .unset, .unset] [(.ref b8), (.int p0)])) rfl (by rw [hml]; rfl) (argsL := [(.int p0), (.ref b8)]) (rest := []) (lenOf pd0__ILjava_lang_String__Lcom_example_unabridged_index_unabridgedindex_server_Answer_ rfl) rfl (by show 2 * 0 + _ ≤ _; exact Nat.le_of_eq rfl) (hb hby at_131) (fun _ _ => ⟨rfl, rfl, (by decide : 4 + 2 ≤ _), (by decide : 8 + 3 ≤ _)⟩)
      dsimp only [Pt.U, Pt.locs, Pt.cells, Pt.slots] at X21 l21 y21 z21 st21 hQ21
      subst l21 y21 z21
      obtain ⟨r21, em21, rfl, N21q, K21, gE21, gS21, gB21, gM21, gR21⟩ := hQ21
      have N21 := Fr.app N14 N21q
      have f22 := Nat.le_trans (Nat.le_refl _) K21.1
      have f23 := Nat.le_trans f16 K21.1
      have f24 := f17.keep K21 all0
      have f25 := own_sta0 f18 K21
      have f26 := f19.keep K21 nin0
      have f27 := gE14.keep K21
      have f28 := gC14.keep K21 nin0
      have f29 := gF14.keep K21 nin0
      have f30 := gV14.keep K21 nin0
      refine bk (fun t k => st21 t k) ?_
      show F (T21.setTop (mkF m 134 #[.val (.int p0), .val (.int p1), .val (.int p2), .val (.int ((p2 &&& (255 : Int32)).toUInt32.toUInt16.toUInt32.toInt32)), .val (.int ((((p2.toUInt32 >>> ((8 : Int32) &&& 31).toUInt32).toInt32) &&& (255 : Int32)).toUInt32.toUInt16.toUInt32.toInt32)), .val (.int ((((p2.toUInt32 >>> ((16 : Int32) &&& 31).toUInt32).toInt32) &&& (255 : Int32)).toUInt32.toUInt16.toUInt32.toInt32)), .val (.int (p1 &&& (3 : Int32))), .val (.ref b2), .val (.ref b8), .unset, .unset, .unset] [(.ref r21)]))
      refine bk (fun t k => XS.astore X21.here hx rfl (hb hby at_134) rfl rfl (l' := #[.val (.int p0), .val (.int p1), .val (.int p2), .val (.int ((p2 &&& (255 : Int32)).toUInt32.toUInt16.toUInt32.toInt32)), .val (.int ((((p2.toUInt32 >>> ((8 : Int32) &&& 31).toUInt32).toInt32) &&& (255 : Int32)).toUInt32.toUInt16.toUInt32.toInt32)), .val (.int ((((p2.toUInt32 >>> ((16 : Int32) &&& 31).toUInt32).toInt32) &&& (255 : Int32)).toUInt32.toUInt16.toUInt32.toInt32)), .val (.int (p1 &&& (3 : Int32))), .val (.ref b2), .val (.ref b8), .val (.ref r21), .unset, .unset]) rfl k) ?_
      show F (T21.setTop (mkF m 136 #[.val (.int p0), .val (.int p1), .val (.int p2), .val (.int ((p2 &&& (255 : Int32)).toUInt32.toUInt16.toUInt32.toInt32)), .val (.int ((((p2.toUInt32 >>> ((8 : Int32) &&& 31).toUInt32).toInt32) &&& (255 : Int32)).toUInt32.toUInt16.toUInt32.toInt32)), .val (.int ((((p2.toUInt32 >>> ((16 : Int32) &&& 31).toUInt32).toInt32) &&& (255 : Int32)).toUInt32.toUInt16.toUInt32.toInt32)), .val (.int (p1 &&& (3 : Int32))), .val (.ref b2), .val (.ref b8), .val (.ref r21), .unset, .unset] []))
      refine bk (fun t k => XS.aload X21.here hx rfl (hb hby at_136) rfl rfl k) ?_
      show F (T21.setTop (mkF m 138 #[.val (.int p0), .val (.int p1), .val (.int p2), .val (.int ((p2 &&& (255 : Int32)).toUInt32.toUInt16.toUInt32.toInt32)), .val (.int ((((p2.toUInt32 >>> ((8 : Int32) &&& 31).toUInt32).toInt32) &&& (255 : Int32)).toUInt32.toUInt16.toUInt32.toInt32)), .val (.int ((((p2.toUInt32 >>> ((16 : Int32) &&& 31).toUInt32).toInt32) &&& (255 : Int32)).toUInt32.toUInt16.toUInt32.toInt32)), .val (.int (p1 &&& (3 : Int32))), .val (.ref b2), .val (.ref b8), .val (.ref r21), .unset, .unset] [(.ref r21)]))
      refine bk (fun t k => XS.ifnonnullYes X21.here hx rfl (pc0 := 138) (pc' := 143) rfl (hb hby at_138) rfl (by decide) (by decide) k) ?_
      show F (T21.setTop (mkF m 143 #[.val (.int p0), .val (.int p1), .val (.int p2), .val (.int ((p2 &&& (255 : Int32)).toUInt32.toUInt16.toUInt32.toInt32)), .val (.int ((((p2.toUInt32 >>> ((8 : Int32) &&& 31).toUInt32).toInt32) &&& (255 : Int32)).toUInt32.toUInt16.toUInt32.toInt32)), .val (.int ((((p2.toUInt32 >>> ((16 : Int32) &&& 31).toUInt32).toInt32) &&& (255 : Int32)).toUInt32.toUInt16.toUInt32.toInt32)), .val (.int (p1 &&& (3 : Int32))), .val (.ref b2), .val (.ref b8), .val (.ref r21), .unset, .unset] []))
      refine bk (fun t k => XS.aload X21.here hx rfl (hb hby at_143) rfl rfl k) ?_
      show F (T21.setTop (mkF m 145 #[.val (.int p0), .val (.int p1), .val (.int p2), .val (.int ((p2 &&& (255 : Int32)).toUInt32.toUInt16.toUInt32.toInt32)), .val (.int ((((p2.toUInt32 >>> ((8 : Int32) &&& 31).toUInt32).toInt32) &&& (255 : Int32)).toUInt32.toUInt16.toUInt32.toInt32)), .val (.int ((((p2.toUInt32 >>> ((16 : Int32) &&& 31).toUInt32).toInt32) &&& (255 : Int32)).toUInt32.toUInt16.toUInt32.toInt32)), .val (.int (p1 &&& (3 : Int32))), .val (.ref b2), .val (.ref b8), .val (.ref r21), .unset, .unset] [(.ref r21)]))
      obtain ⟨cq31, kq31, q31a, q31b, q31c⟩ := isOf hZ14 rfl (gE21)
      obtain ⟨_, _, ⟨T31, L31, k31, n31⟩, -, X31, ⟨Lc31, hQ31, l31, y31, z31⟩, st31⟩ := X21.virtualBack hx (y := (⟨"com/example/unabridged_index/unabridgedindex/server/Answer", "status", "()I"⟩ : MethodName)) (z := (⟨"com/example/unabridged_index/unabridgedindex/server/Answer", "status", "()I"⟩ : MethodName)) hown14 (mvT hZ14 w_58) (mvT hZ14 w_59) (notFace_of_selects (args := #[]) (mvT hZ14 w_61)) (mvT hZ14 w_61) (mvT hZ14 w_60) (by decide) (backOf (W := 0) (rm11 l Z a0 hw [] r21 p0 T21.heap n0 f23 gS21) hZ14 w_62 w_32 (by decide) (by decide)) q31a q31c (g := (mkF m 145 #[.val (.int p0), .val (.int p1), .val (.int p2), .val (.int ((p2 &&& (255 : Int32)).toUInt32.toUInt16.toUInt32.toInt32)), .val (.int ((((p2.toUInt32 >>> ((8 : Int32) &&& 31).toUInt32).toInt32) &&& (255 : Int32)).toUInt32.toUInt16.toUInt32.toInt32)), .val (.int ((((p2.toUInt32 >>> ((16 : Int32) &&& 31).toUInt32).toInt32) &&& (255 : Int32)).toUInt32.toUInt16.toUInt32.toInt32)), .val (.int (p1 &&& (3 : Int32))), .val (.ref b2), .val (.ref b8), .val (.ref r21), .unset, .unset] [(.ref r21)])) rfl (by rw [hml]; rfl) (Steps.refl _) (argsL := []) (rest := []) (lenOf pd0___I rfl) rfl (by show 2 * 0 + _ ≤ _; exact Nat.le_of_eq rfl) (hb hby at_145) (fun _ _ => ⟨rfl, rfl, (by decide : 6 + 0 ≤ _), (by decide : 11 + 0 ≤ _)⟩)
      dsimp only [Pt.U, Pt.locs, Pt.cells, Pt.slots] at X31 l31 y31 z31 st31 hQ31
      subst l31 y31 z31
      obtain ⟨rfl, N31q, e31⟩ := hQ31
      have N31 := Fr.app N21 N31q
      refine bk (fun t k => st31.trans k) ?_
      show F (T31.setTop (mkF m 148 #[.val (.int p0), .val (.int p1), .val (.int p2), .val (.int ((p2 &&& (255 : Int32)).toUInt32.toUInt16.toUInt32.toInt32)), .val (.int ((((p2.toUInt32 >>> ((8 : Int32) &&& 31).toUInt32).toInt32) &&& (255 : Int32)).toUInt32.toUInt16.toUInt32.toInt32)), .val (.int ((((p2.toUInt32 >>> ((16 : Int32) &&& 31).toUInt32).toInt32) &&& (255 : Int32)).toUInt32.toUInt16.toUInt32.toInt32)), .val (.int (p1 &&& (3 : Int32))), .val (.ref b2), .val (.ref b8), .val (.ref r21), .unset, .unset] [(.int p0)]))
      refine bk (fun t k => XS.iloadN X31.here hx rfl (hb hby at_148) rfl k) ?_
      show F (T31.setTop (mkF m 149 #[.val (.int p0), .val (.int p1), .val (.int p2), .val (.int ((p2 &&& (255 : Int32)).toUInt32.toUInt16.toUInt32.toInt32)), .val (.int ((((p2.toUInt32 >>> ((8 : Int32) &&& 31).toUInt32).toInt32) &&& (255 : Int32)).toUInt32.toUInt16.toUInt32.toInt32)), .val (.int ((((p2.toUInt32 >>> ((16 : Int32) &&& 31).toUInt32).toInt32) &&& (255 : Int32)).toUInt32.toUInt16.toUInt32.toInt32)), .val (.int (p1 &&& (3 : Int32))), .val (.ref b2), .val (.ref b8), .val (.ref r21), .unset, .unset] [(.int p0), (.int p0)]))
      refine bk (fun t k => XS.icmpYes X31.here hx rfl (pc0 := 149) (pc' := 154) rfl (hb hby at_149) rfl (teq (rfl : p0 = p0)).1 (by decide) (by decide) k) ?_
      show F (T31.setTop (mkF m 154 #[.val (.int p0), .val (.int p1), .val (.int p2), .val (.int ((p2 &&& (255 : Int32)).toUInt32.toUInt16.toUInt32.toInt32)), .val (.int ((((p2.toUInt32 >>> ((8 : Int32) &&& 31).toUInt32).toInt32) &&& (255 : Int32)).toUInt32.toUInt16.toUInt32.toInt32)), .val (.int ((((p2.toUInt32 >>> ((16 : Int32) &&& 31).toUInt32).toInt32) &&& (255 : Int32)).toUInt32.toUInt16.toUInt32.toInt32)), .val (.int (p1 &&& (3 : Int32))), .val (.ref b2), .val (.ref b8), .val (.ref r21), .unset, .unset] []))
      refine bk (fun t k => XS.aload X31.here hx rfl (hb hby at_154) rfl rfl k) ?_
      show F (T31.setTop (mkF m 156 #[.val (.int p0), .val (.int p1), .val (.int p2), .val (.int ((p2 &&& (255 : Int32)).toUInt32.toUInt16.toUInt32.toInt32)), .val (.int ((((p2.toUInt32 >>> ((8 : Int32) &&& 31).toUInt32).toInt32) &&& (255 : Int32)).toUInt32.toUInt16.toUInt32.toInt32)), .val (.int ((((p2.toUInt32 >>> ((16 : Int32) &&& 31).toUInt32).toInt32) &&& (255 : Int32)).toUInt32.toUInt16.toUInt32.toInt32)), .val (.int (p1 &&& (3 : Int32))), .val (.ref b2), .val (.ref b8), .val (.ref r21), .unset, .unset] [(.ref r21)]))
      obtain ⟨cq32, kq32, q32a, q32b, q32c⟩ := isOf hZ14 e31 (gE21)
      obtain ⟨_, _, ⟨T32, L32, k32, n32⟩, -, X32, ⟨Lc32, hQ32, l32, y32, z32⟩, st32⟩ := X31.virtualBack hx (y := (⟨"com/example/unabridged_index/unabridgedindex/server/Answer", "body", "()Ljava/lang/Object;"⟩ : MethodName)) (z := (⟨"com/example/unabridged_index/unabridgedindex/server/Answer", "body", "()Ljava/lang/Object;"⟩ : MethodName)) hown14 (mvT hZ14 w_63) (mvT hZ14 w_64) (notFace_of_selects (args := #[]) (mvT hZ14 w_66)) (mvT hZ14 w_66) (mvT hZ14 w_65) (by decide) (backOf (W := 0) (rm12 l Z a0 hw [] r21 em21 T21.heap n0 f23 gB21) hZ14 w_67 w_32 (by decide) (by decide)) q32a q32c (g := (mkF m 156 #[.val (.int p0), .val (.int p1), .val (.int p2), .val (.int ((p2 &&& (255 : Int32)).toUInt32.toUInt16.toUInt32.toInt32)), .val (.int ((((p2.toUInt32 >>> ((8 : Int32) &&& 31).toUInt32).toInt32) &&& (255 : Int32)).toUInt32.toUInt16.toUInt32.toInt32)), .val (.int ((((p2.toUInt32 >>> ((16 : Int32) &&& 31).toUInt32).toInt32) &&& (255 : Int32)).toUInt32.toUInt16.toUInt32.toInt32)), .val (.int (p1 &&& (3 : Int32))), .val (.ref b2), .val (.ref b8), .val (.ref r21), .unset, .unset] [(.ref r21)])) rfl (by rw [hml]; rfl) (Steps.refl _) (argsL := []) (rest := []) (lenOf pd0___Ljava_lang_Object_ rfl) rfl (by show 2 * 0 + _ ≤ _; exact Nat.le_of_eq rfl) (hb hby at_156) (fun _ _ => ⟨rfl, e31, (by decide : 6 + 0 ≤ _), (by decide : 11 + 0 ≤ _)⟩)
      dsimp only [Pt.U, Pt.locs, Pt.cells, Pt.slots] at X32 l32 y32 z32 st32 hQ32
      subst l32 y32 z32
      obtain ⟨rfl, N32q, e32⟩ := hQ32
      have N32 := Fr.app N31 N32q
      refine bk (fun t k => st32.trans k) ?_
      show F (T32.setTop (mkF m 159 #[.val (.int p0), .val (.int p1), .val (.int p2), .val (.int ((p2 &&& (255 : Int32)).toUInt32.toUInt16.toUInt32.toInt32)), .val (.int ((((p2.toUInt32 >>> ((8 : Int32) &&& 31).toUInt32).toInt32) &&& (255 : Int32)).toUInt32.toUInt16.toUInt32.toInt32)), .val (.int ((((p2.toUInt32 >>> ((16 : Int32) &&& 31).toUInt32).toInt32) &&& (255 : Int32)).toUInt32.toUInt16.toUInt32.toInt32)), .val (.int (p1 &&& (3 : Int32))), .val (.ref b2), .val (.ref b8), .val (.ref r21), .unset, .unset] [(.ref em21)]))
      refine bk (fun t k => XS.astore X32.here hx rfl (hb hby at_159) rfl rfl (l' := #[.val (.int p0), .val (.int p1), .val (.int p2), .val (.int ((p2 &&& (255 : Int32)).toUInt32.toUInt16.toUInt32.toInt32)), .val (.int ((((p2.toUInt32 >>> ((8 : Int32) &&& 31).toUInt32).toInt32) &&& (255 : Int32)).toUInt32.toUInt16.toUInt32.toInt32)), .val (.int ((((p2.toUInt32 >>> ((16 : Int32) &&& 31).toUInt32).toInt32) &&& (255 : Int32)).toUInt32.toUInt16.toUInt32.toInt32)), .val (.int (p1 &&& (3 : Int32))), .val (.ref b2), .val (.ref b8), .val (.ref r21), .val (.ref em21), .unset]) rfl k) ?_
      show F (T32.setTop (mkF m 161 #[.val (.int p0), .val (.int p1), .val (.int p2), .val (.int ((p2 &&& (255 : Int32)).toUInt32.toUInt16.toUInt32.toInt32)), .val (.int ((((p2.toUInt32 >>> ((8 : Int32) &&& 31).toUInt32).toInt32) &&& (255 : Int32)).toUInt32.toUInt16.toUInt32.toInt32)), .val (.int ((((p2.toUInt32 >>> ((16 : Int32) &&& 31).toUInt32).toInt32) &&& (255 : Int32)).toUInt32.toUInt16.toUInt32.toInt32)), .val (.int (p1 &&& (3 : Int32))), .val (.ref b2), .val (.ref b8), .val (.ref r21), .val (.ref em21), .unset] []))
      refine bk (fun t k => XS.aload X32.here hx rfl (hb hby at_161) rfl rfl k) ?_
      show F (T32.setTop (mkF m 163 #[.val (.int p0), .val (.int p1), .val (.int p2), .val (.int ((p2 &&& (255 : Int32)).toUInt32.toUInt16.toUInt32.toInt32)), .val (.int ((((p2.toUInt32 >>> ((8 : Int32) &&& 31).toUInt32).toInt32) &&& (255 : Int32)).toUInt32.toUInt16.toUInt32.toInt32)), .val (.int ((((p2.toUInt32 >>> ((16 : Int32) &&& 31).toUInt32).toInt32) &&& (255 : Int32)).toUInt32.toUInt16.toUInt32.toInt32)), .val (.int (p1 &&& (3 : Int32))), .val (.ref b2), .val (.ref b8), .val (.ref r21), .val (.ref em21), .unset] [(.ref em21)]))
      obtain ⟨T33, X33, e33, st33⟩ := instY X32 hx hZ14 hown14 w_68 e32 (Ins.self gM21) (g := (mkF m 163 #[.val (.int p0), .val (.int p1), .val (.int p2), .val (.int ((p2 &&& (255 : Int32)).toUInt32.toUInt16.toUInt32.toInt32)), .val (.int ((((p2.toUInt32 >>> ((8 : Int32) &&& 31).toUInt32).toInt32) &&& (255 : Int32)).toUInt32.toUInt16.toUInt32.toInt32)), .val (.int ((((p2.toUInt32 >>> ((16 : Int32) &&& 31).toUInt32).toInt32) &&& (255 : Int32)).toUInt32.toUInt16.toUInt32.toInt32)), .val (.int (p1 &&& (3 : Int32))), .val (.ref b2), .val (.ref b8), .val (.ref r21), .val (.ref em21), .unset] [(.ref em21)])) rfl rfl (hb hby at_163)
      refine bk (fun t k => st33 t k) ?_
      show F (T33.setTop (mkF m 166 #[.val (.int p0), .val (.int p1), .val (.int p2), .val (.int ((p2 &&& (255 : Int32)).toUInt32.toUInt16.toUInt32.toInt32)), .val (.int ((((p2.toUInt32 >>> ((8 : Int32) &&& 31).toUInt32).toInt32) &&& (255 : Int32)).toUInt32.toUInt16.toUInt32.toInt32)), .val (.int ((((p2.toUInt32 >>> ((16 : Int32) &&& 31).toUInt32).toInt32) &&& (255 : Int32)).toUInt32.toUInt16.toUInt32.toInt32)), .val (.int (p1 &&& (3 : Int32))), .val (.ref b2), .val (.ref b8), .val (.ref r21), .val (.ref em21), .unset] [(.int (1 : Int32))]))
      refine bk (fun t k => XS.ifYes X33.here hx rfl (pc0 := 166) (pc' := 171) rfl (hb hby at_166) rfl ((if0 _ _).trans (feq (by decide : ¬ ((1 : Int32) = (0 : Int32)))).2) (by decide) (by decide) k) ?_
      show F (T33.setTop (mkF m 171 #[.val (.int p0), .val (.int p1), .val (.int p2), .val (.int ((p2 &&& (255 : Int32)).toUInt32.toUInt16.toUInt32.toInt32)), .val (.int ((((p2.toUInt32 >>> ((8 : Int32) &&& 31).toUInt32).toInt32) &&& (255 : Int32)).toUInt32.toUInt16.toUInt32.toInt32)), .val (.int ((((p2.toUInt32 >>> ((16 : Int32) &&& 31).toUInt32).toInt32) &&& (255 : Int32)).toUInt32.toUInt16.toUInt32.toInt32)), .val (.int (p1 &&& (3 : Int32))), .val (.ref b2), .val (.ref b8), .val (.ref r21), .val (.ref em21), .unset] []))
      refine bk (fun t k => XS.aload X33.here hx rfl (hb hby at_171) rfl rfl k) ?_
      show F (T33.setTop (mkF m 173 #[.val (.int p0), .val (.int p1), .val (.int p2), .val (.int ((p2 &&& (255 : Int32)).toUInt32.toUInt16.toUInt32.toInt32)), .val (.int ((((p2.toUInt32 >>> ((8 : Int32) &&& 31).toUInt32).toInt32) &&& (255 : Int32)).toUInt32.toUInt16.toUInt32.toInt32)), .val (.int ((((p2.toUInt32 >>> ((16 : Int32) &&& 31).toUInt32).toInt32) &&& (255 : Int32)).toUInt32.toUInt16.toUInt32.toInt32)), .val (.int (p1 &&& (3 : Int32))), .val (.ref b2), .val (.ref b8), .val (.ref r21), .val (.ref em21), .unset] [(.ref em21)]))
      obtain ⟨T34, X34, e34, st34⟩ := castY X33 hx hZ14 hown14 w_68 e33 (Ins.self gM21) (g := (mkF m 173 #[.val (.int p0), .val (.int p1), .val (.int p2), .val (.int ((p2 &&& (255 : Int32)).toUInt32.toUInt16.toUInt32.toInt32)), .val (.int ((((p2.toUInt32 >>> ((8 : Int32) &&& 31).toUInt32).toInt32) &&& (255 : Int32)).toUInt32.toUInt16.toUInt32.toInt32)), .val (.int ((((p2.toUInt32 >>> ((16 : Int32) &&& 31).toUInt32).toInt32) &&& (255 : Int32)).toUInt32.toUInt16.toUInt32.toInt32)), .val (.int (p1 &&& (3 : Int32))), .val (.ref b2), .val (.ref b8), .val (.ref r21), .val (.ref em21), .unset] [(.ref em21)])) rfl rfl (hb hby at_173)
      refine bk (fun t k => st34 t k) ?_
      show F (T34.setTop (mkF m 176 #[.val (.int p0), .val (.int p1), .val (.int p2), .val (.int ((p2 &&& (255 : Int32)).toUInt32.toUInt16.toUInt32.toInt32)), .val (.int ((((p2.toUInt32 >>> ((8 : Int32) &&& 31).toUInt32).toInt32) &&& (255 : Int32)).toUInt32.toUInt16.toUInt32.toInt32)), .val (.int ((((p2.toUInt32 >>> ((16 : Int32) &&& 31).toUInt32).toInt32) &&& (255 : Int32)).toUInt32.toUInt16.toUInt32.toInt32)), .val (.int (p1 &&& (3 : Int32))), .val (.ref b2), .val (.ref b8), .val (.ref r21), .val (.ref em21), .unset] [(.ref em21)]))
      obtain ⟨cq35, kq35, q35a, q35b, q35c⟩ := isOf hZ14 e34 (gM21)
      obtain ⟨_, _, ⟨T35, L35, k35, n35⟩, -, X35, ⟨Lc35, hQ35, l35, y35, z35⟩, st35⟩ := X34.virtualBack hx (y := (⟨"com/example/unabridged_index/unabridgedindex/server/Answer$ErrorMessage", "error", "()Ljava/lang/String;"⟩ : MethodName)) (z := (⟨"com/example/unabridged_index/unabridgedindex/server/Answer$ErrorMessage", "error", "()Ljava/lang/String;"⟩ : MethodName)) hown14 (mvT hZ14 w_70) (mvT hZ14 w_71) (notFace_of_selects (args := #[]) (mvT hZ14 w_73)) (mvT hZ14 w_73) (mvT hZ14 w_72) (by decide) (backOf (W := 0) (rm13s l Z a0 hw [] em21 b8 T21.heap n0 f23 gR21) hZ14 w_74 w_38 (by decide) (by decide)) q35a q35c (g := (mkF m 176 #[.val (.int p0), .val (.int p1), .val (.int p2), .val (.int ((p2 &&& (255 : Int32)).toUInt32.toUInt16.toUInt32.toInt32)), .val (.int ((((p2.toUInt32 >>> ((8 : Int32) &&& 31).toUInt32).toInt32) &&& (255 : Int32)).toUInt32.toUInt16.toUInt32.toInt32)), .val (.int ((((p2.toUInt32 >>> ((16 : Int32) &&& 31).toUInt32).toInt32) &&& (255 : Int32)).toUInt32.toUInt16.toUInt32.toInt32)), .val (.int (p1 &&& (3 : Int32))), .val (.ref b2), .val (.ref b8), .val (.ref r21), .val (.ref em21), .unset] [(.ref em21)])) rfl (by rw [hml]; rfl) (Steps.refl _) (argsL := []) (rest := []) (lenOf pd0___Ljava_lang_String_ rfl) rfl (by show 2 * 0 + _ ≤ _; exact Nat.le_of_eq rfl) (hb hby at_176) (fun _ _ => ⟨rfl, e34, (by decide : 6 + 0 ≤ _), (by decide : 11 + 0 ≤ _)⟩)
      dsimp only [Pt.U, Pt.locs, Pt.cells, Pt.slots] at X35 l35 y35 z35 st35 hQ35
      subst l35 y35 z35
      obtain ⟨rfl, N35q, e35⟩ := hQ35
      have N35 := Fr.app N32 N35q
      refine bk (fun t k => st35.trans k) ?_
      show F (T35.setTop (mkF m 179 #[.val (.int p0), .val (.int p1), .val (.int p2), .val (.int ((p2 &&& (255 : Int32)).toUInt32.toUInt16.toUInt32.toInt32)), .val (.int ((((p2.toUInt32 >>> ((8 : Int32) &&& 31).toUInt32).toInt32) &&& (255 : Int32)).toUInt32.toUInt16.toUInt32.toInt32)), .val (.int ((((p2.toUInt32 >>> ((16 : Int32) &&& 31).toUInt32).toInt32) &&& (255 : Int32)).toUInt32.toUInt16.toUInt32.toInt32)), .val (.int (p1 &&& (3 : Int32))), .val (.ref b2), .val (.ref b8), .val (.ref r21), .val (.ref em21), .unset] [(.ref b8)]))
      refine bk (fun t k => XS.astore X35.here hx rfl (hb hby at_179) rfl rfl (l' := #[.val (.int p0), .val (.int p1), .val (.int p2), .val (.int ((p2 &&& (255 : Int32)).toUInt32.toUInt16.toUInt32.toInt32)), .val (.int ((((p2.toUInt32 >>> ((8 : Int32) &&& 31).toUInt32).toInt32) &&& (255 : Int32)).toUInt32.toUInt16.toUInt32.toInt32)), .val (.int ((((p2.toUInt32 >>> ((16 : Int32) &&& 31).toUInt32).toInt32) &&& (255 : Int32)).toUInt32.toUInt16.toUInt32.toInt32)), .val (.int (p1 &&& (3 : Int32))), .val (.ref b2), .val (.ref b8), .val (.ref r21), .val (.ref em21), .val (.ref b8)]) rfl k) ?_
      show F (T35.setTop (mkF m 181 #[.val (.int p0), .val (.int p1), .val (.int p2), .val (.int ((p2 &&& (255 : Int32)).toUInt32.toUInt16.toUInt32.toInt32)), .val (.int ((((p2.toUInt32 >>> ((8 : Int32) &&& 31).toUInt32).toInt32) &&& (255 : Int32)).toUInt32.toUInt16.toUInt32.toInt32)), .val (.int ((((p2.toUInt32 >>> ((16 : Int32) &&& 31).toUInt32).toInt32) &&& (255 : Int32)).toUInt32.toUInt16.toUInt32.toInt32)), .val (.int (p1 &&& (3 : Int32))), .val (.ref b2), .val (.ref b8), .val (.ref r21), .val (.ref em21), .val (.ref b8)] []))
      refine bk (fun t k => XS.aload X35.here hx rfl (hb hby at_181) rfl rfl k) ?_
      show F (T35.setTop (mkF m 183 #[.val (.int p0), .val (.int p1), .val (.int p2), .val (.int ((p2 &&& (255 : Int32)).toUInt32.toUInt16.toUInt32.toInt32)), .val (.int ((((p2.toUInt32 >>> ((8 : Int32) &&& 31).toUInt32).toInt32) &&& (255 : Int32)).toUInt32.toUInt16.toUInt32.toInt32)), .val (.int ((((p2.toUInt32 >>> ((16 : Int32) &&& 31).toUInt32).toInt32) &&& (255 : Int32)).toUInt32.toUInt16.toUInt32.toInt32)), .val (.int (p1 &&& (3 : Int32))), .val (.ref b2), .val (.ref b8), .val (.ref r21), .val (.ref em21), .val (.ref b8)] [(.ref b8)]))
      refine bk (fun t k => XS.ifnonnullYes X35.here hx rfl (pc0 := 183) (pc' := 197) rfl (hb hby at_183) rfl (by decide) (by decide) k) ?_
      show F (T35.setTop (mkF m 197 #[.val (.int p0), .val (.int p1), .val (.int p2), .val (.int ((p2 &&& (255 : Int32)).toUInt32.toUInt16.toUInt32.toInt32)), .val (.int ((((p2.toUInt32 >>> ((8 : Int32) &&& 31).toUInt32).toInt32) &&& (255 : Int32)).toUInt32.toUInt16.toUInt32.toInt32)), .val (.int ((((p2.toUInt32 >>> ((16 : Int32) &&& 31).toUInt32).toInt32) &&& (255 : Int32)).toUInt32.toUInt16.toUInt32.toInt32)), .val (.int (p1 &&& (3 : Int32))), .val (.ref b2), .val (.ref b8), .val (.ref r21), .val (.ref em21), .val (.ref b8)] []))
      refine bk (fun t k => XS.aload X35.here hx rfl (hb hby at_197) rfl rfl k) ?_
      show F (T35.setTop (mkF m 199 #[.val (.int p0), .val (.int p1), .val (.int p2), .val (.int ((p2 &&& (255 : Int32)).toUInt32.toUInt16.toUInt32.toInt32)), .val (.int ((((p2.toUInt32 >>> ((8 : Int32) &&& 31).toUInt32).toInt32) &&& (255 : Int32)).toUInt32.toUInt16.toUInt32.toInt32)), .val (.int ((((p2.toUInt32 >>> ((16 : Int32) &&& 31).toUInt32).toInt32) &&& (255 : Int32)).toUInt32.toUInt16.toUInt32.toInt32)), .val (.int (p1 &&& (3 : Int32))), .val (.ref b2), .val (.ref b8), .val (.ref r21), .val (.ref em21), .val (.ref b8)] [(.ref b8)]))
      refine bk (fun t k => XS.ifnullNo X35.here hx rfl (hb hby at_199) rfl k) ?_
      show F (T35.setTop (mkF m 202 #[.val (.int p0), .val (.int p1), .val (.int p2), .val (.int ((p2 &&& (255 : Int32)).toUInt32.toUInt16.toUInt32.toInt32)), .val (.int ((((p2.toUInt32 >>> ((8 : Int32) &&& 31).toUInt32).toInt32) &&& (255 : Int32)).toUInt32.toUInt16.toUInt32.toInt32)), .val (.int ((((p2.toUInt32 >>> ((16 : Int32) &&& 31).toUInt32).toInt32) &&& (255 : Int32)).toUInt32.toUInt16.toUInt32.toInt32)), .val (.int (p1 &&& (3 : Int32))), .val (.ref b2), .val (.ref b8), .val (.ref r21), .val (.ref em21), .val (.ref b8)] []))
      refine bk (fun t k => XS.aload X35.here hx rfl (hb hby at_202) rfl rfl k) ?_
      show F (T35.setTop (mkF m 204 #[.val (.int p0), .val (.int p1), .val (.int p2), .val (.int ((p2 &&& (255 : Int32)).toUInt32.toUInt16.toUInt32.toInt32)), .val (.int ((((p2.toUInt32 >>> ((8 : Int32) &&& 31).toUInt32).toInt32) &&& (255 : Int32)).toUInt32.toUInt16.toUInt32.toInt32)), .val (.int ((((p2.toUInt32 >>> ((16 : Int32) &&& 31).toUInt32).toInt32) &&& (255 : Int32)).toUInt32.toUInt16.toUInt32.toInt32)), .val (.int (p1 &&& (3 : Int32))), .val (.ref b2), .val (.ref b8), .val (.ref r21), .val (.ref em21), .val (.ref b8)] [(.ref b8)]))
      obtain ⟨cq36, kq36, q36a, q36b, q36c⟩ := isOf hZ14 e35 (f27)
      obtain ⟨_, _, ⟨T36, L36, k36, n36⟩, -, X36, ⟨Lc36, hQ36, l36, y36, z36⟩, st36⟩ := X35.virtualBack hx (y := (⟨"java/lang/String", "length", "()I"⟩ : MethodName)) (z := (⟨"java/lang/String", "length", "()I"⟩ : MethodName)) hown14 (mvT hZ14 w_75) (mvT hZ14 w_76) (notFace_of_selects (args := #[]) (mvT hZ14 w_78)) (mvT hZ14 w_78) (mvT hZ14 w_77) (by decide) (backOf (W := 0) (rm14_0 l Z a0 hw [] b8 r14 kd14 _ cs T21.heap n0 f23 f27 f29 f30 f28 f25 hcs) hZ14 w_79 w_3 (by decide) (by decide)) q36a q36c (g := (mkF m 204 #[.val (.int p0), .val (.int p1), .val (.int p2), .val (.int ((p2 &&& (255 : Int32)).toUInt32.toUInt16.toUInt32.toInt32)), .val (.int ((((p2.toUInt32 >>> ((8 : Int32) &&& 31).toUInt32).toInt32) &&& (255 : Int32)).toUInt32.toUInt16.toUInt32.toInt32)), .val (.int ((((p2.toUInt32 >>> ((16 : Int32) &&& 31).toUInt32).toInt32) &&& (255 : Int32)).toUInt32.toUInt16.toUInt32.toInt32)), .val (.int (p1 &&& (3 : Int32))), .val (.ref b2), .val (.ref b8), .val (.ref r21), .val (.ref em21), .val (.ref b8)] [(.ref b8)])) rfl (by rw [hml]; rfl) (Steps.refl _) (argsL := []) (rest := []) (lenOf pd0___I rfl) rfl (by show 2 * 0 + _ ≤ _; exact Nat.le_of_eq rfl) (hb hby at_204) (fun _ _ => ⟨rfl, e35, (by decide : 6 + 0 ≤ _), (by decide : 11 + 0 ≤ _)⟩)
      dsimp only [Pt.U, Pt.locs, Pt.cells, Pt.slots] at X36 l36 y36 z36 st36 hQ36
      subst l36 y36 z36
      obtain ⟨rfl, N36q, e36⟩ := hQ36
      have N36 := Fr.app N35 N36q
      refine bk (fun t k => st36.trans k) ?_
      show F (T36.setTop (mkF m 207 #[.val (.int p0), .val (.int p1), .val (.int p2), .val (.int ((p2 &&& (255 : Int32)).toUInt32.toUInt16.toUInt32.toInt32)), .val (.int ((((p2.toUInt32 >>> ((8 : Int32) &&& 31).toUInt32).toInt32) &&& (255 : Int32)).toUInt32.toUInt16.toUInt32.toInt32)), .val (.int ((((p2.toUInt32 >>> ((16 : Int32) &&& 31).toUInt32).toInt32) &&& (255 : Int32)).toUInt32.toUInt16.toUInt32.toInt32)), .val (.int (p1 &&& (3 : Int32))), .val (.ref b2), .val (.ref b8), .val (.ref r21), .val (.ref em21), .val (.ref b8)] [(.int (0 : Int32))]))
      refine bk (fun t k => XS.iload X36.here hx rfl (hb hby at_207) rfl k) ?_
      show F (T36.setTop (mkF m 209 #[.val (.int p0), .val (.int p1), .val (.int p2), .val (.int ((p2 &&& (255 : Int32)).toUInt32.toUInt16.toUInt32.toInt32)), .val (.int ((((p2.toUInt32 >>> ((8 : Int32) &&& 31).toUInt32).toInt32) &&& (255 : Int32)).toUInt32.toUInt16.toUInt32.toInt32)), .val (.int ((((p2.toUInt32 >>> ((16 : Int32) &&& 31).toUInt32).toInt32) &&& (255 : Int32)).toUInt32.toUInt16.toUInt32.toInt32)), .val (.int (p1 &&& (3 : Int32))), .val (.ref b2), .val (.ref b8), .val (.ref r21), .val (.ref em21), .val (.ref b8)] [(.int (p1 &&& (3 : Int32))), (.int (0 : Int32))]))
      refine bk (fun t k => XS.icmpYes X36.here hx rfl (pc0 := 209) (pc' := 214) rfl (hb hby at_209) rfl (teq hc36_1.symm).1 (by decide) (by decide) k) ?_
      show F (T36.setTop (mkF m 214 #[.val (.int p0), .val (.int p1), .val (.int p2), .val (.int ((p2 &&& (255 : Int32)).toUInt32.toUInt16.toUInt32.toInt32)), .val (.int ((((p2.toUInt32 >>> ((8 : Int32) &&& 31).toUInt32).toInt32) &&& (255 : Int32)).toUInt32.toUInt16.toUInt32.toInt32)), .val (.int ((((p2.toUInt32 >>> ((16 : Int32) &&& 31).toUInt32).toInt32) &&& (255 : Int32)).toUInt32.toUInt16.toUInt32.toInt32)), .val (.int (p1 &&& (3 : Int32))), .val (.ref b2), .val (.ref b8), .val (.ref r21), .val (.ref em21), .val (.ref b8)] []))
      refine bk (fun t k => XS.aload X36.here hx rfl (hb hby at_214) rfl rfl k) ?_
      show F (T36.setTop (mkF m 216 #[.val (.int p0), .val (.int p1), .val (.int p2), .val (.int ((p2 &&& (255 : Int32)).toUInt32.toUInt16.toUInt32.toInt32)), .val (.int ((((p2.toUInt32 >>> ((8 : Int32) &&& 31).toUInt32).toInt32) &&& (255 : Int32)).toUInt32.toUInt16.toUInt32.toInt32)), .val (.int ((((p2.toUInt32 >>> ((16 : Int32) &&& 31).toUInt32).toInt32) &&& (255 : Int32)).toUInt32.toUInt16.toUInt32.toInt32)), .val (.int (p1 &&& (3 : Int32))), .val (.ref b2), .val (.ref b8), .val (.ref r21), .val (.ref em21), .val (.ref b8)] [(.ref b8)]))
      refine bk (fun t k => XS.aload X36.here hx rfl (hb hby at_216) rfl rfl k) ?_
      show F (T36.setTop (mkF m 218 #[.val (.int p0), .val (.int p1), .val (.int p2), .val (.int ((p2 &&& (255 : Int32)).toUInt32.toUInt16.toUInt32.toInt32)), .val (.int ((((p2.toUInt32 >>> ((8 : Int32) &&& 31).toUInt32).toInt32) &&& (255 : Int32)).toUInt32.toUInt16.toUInt32.toInt32)), .val (.int ((((p2.toUInt32 >>> ((16 : Int32) &&& 31).toUInt32).toInt32) &&& (255 : Int32)).toUInt32.toUInt16.toUInt32.toInt32)), .val (.int (p1 &&& (3 : Int32))), .val (.ref b2), .val (.ref b8), .val (.ref r21), .val (.ref em21), .val (.ref b8)] [(.ref b8), (.ref b8)]))
      obtain ⟨cq37, kq37, q37a, q37b, q37c⟩ := isOf hZ14 e36 (f27)
      obtain ⟨_, _, ⟨T37, L37, k37, n37⟩, -, X37, ⟨Lc37, hQ37, l37, y37, z37⟩, st37⟩ := X36.virtualBack hx (y := (⟨"java/lang/String", "equals", "(Ljava/lang/Object;)Z"⟩ : MethodName)) (z := (⟨"java/lang/String", "equals", "(Ljava/lang/Object;)Z"⟩ : MethodName)) hown14 (mvT hZ14 w_85) (mvT hZ14 w_86) (notFace_of_selects (args := #[]) (mvT hZ14 w_88)) (mvT hZ14 w_88) (mvT hZ14 w_87) (by decide) (backOf (W := 0) (rm16 l Z a0 hw [] b8 T21.heap n0 f23) hZ14 w_89 w_3 (by decide) (by decide)) q37a q37c (g := (mkF m 218 #[.val (.int p0), .val (.int p1), .val (.int p2), .val (.int ((p2 &&& (255 : Int32)).toUInt32.toUInt16.toUInt32.toInt32)), .val (.int ((((p2.toUInt32 >>> ((8 : Int32) &&& 31).toUInt32).toInt32) &&& (255 : Int32)).toUInt32.toUInt16.toUInt32.toInt32)), .val (.int ((((p2.toUInt32 >>> ((16 : Int32) &&& 31).toUInt32).toInt32) &&& (255 : Int32)).toUInt32.toUInt16.toUInt32.toInt32)), .val (.int (p1 &&& (3 : Int32))), .val (.ref b2), .val (.ref b8), .val (.ref r21), .val (.ref em21), .val (.ref b8)] [(.ref b8), (.ref b8)])) rfl (by rw [hml]; rfl) (Steps.refl _) (argsL := [(.ref b8)]) (rest := []) (lenOf pd0__Ljava_lang_Object__Z rfl) rfl (by show 2 * 0 + _ ≤ _; exact Nat.le_of_eq rfl) (hb hby at_218) (fun _ _ => ⟨rfl, e36, (by decide : 6 + 0 ≤ _), (by decide : 11 + 0 ≤ _)⟩)
      dsimp only [Pt.U, Pt.locs, Pt.cells, Pt.slots] at X37 l37 y37 z37 st37 hQ37
      subst l37 y37 z37
      obtain ⟨rfl, N37q, e37⟩ := hQ37
      have N37 := Fr.app N36 N37q
      refine bk (fun t k => st37.trans k) ?_
      show F (T37.setTop (mkF m 221 #[.val (.int p0), .val (.int p1), .val (.int p2), .val (.int ((p2 &&& (255 : Int32)).toUInt32.toUInt16.toUInt32.toInt32)), .val (.int ((((p2.toUInt32 >>> ((8 : Int32) &&& 31).toUInt32).toInt32) &&& (255 : Int32)).toUInt32.toUInt16.toUInt32.toInt32)), .val (.int ((((p2.toUInt32 >>> ((16 : Int32) &&& 31).toUInt32).toInt32) &&& (255 : Int32)).toUInt32.toUInt16.toUInt32.toInt32)), .val (.int (p1 &&& (3 : Int32))), .val (.ref b2), .val (.ref b8), .val (.ref r21), .val (.ref em21), .val (.ref b8)] [(.int (1 : Int32))]))
      rw [hF]
      refine own_retZW X37 hx hS14 (by rw [e37]; exact f22) Bd.notSynchronized Bd.returns (hb hby at_221) (by decide) (by decide) ?_
      rw [e37]
      exact ⟨rfl, N37⟩
    · refine bk (fun t k => XS.ifNo X2.here hx rfl (hb hby at_110) rfl ((if0 _ _).trans (feq hc110_7).1) k) ?_
      show F (T2.setTop (mkF m 113 #[.val (.int p0), .val (.int p1), .val (.int p2), .val (.int ((p2 &&& (255 : Int32)).toUInt32.toUInt16.toUInt32.toInt32)), .val (.int ((((p2.toUInt32 >>> ((8 : Int32) &&& 31).toUInt32).toInt32) &&& (255 : Int32)).toUInt32.toUInt16.toUInt32.toInt32)), .val (.int ((((p2.toUInt32 >>> ((16 : Int32) &&& 31).toUInt32).toInt32) &&& (255 : Int32)).toUInt32.toUInt16.toUInt32.toInt32)), .val (.int (p1 &&& (3 : Int32))), .val (.ref b2), .unset, .unset, .unset, .unset] []))
      refine bk (fun t k => XS.aconstNull X2.here hx rfl (hb hby at_113) k) ?_
      show F (T2.setTop (mkF m 114 #[.val (.int p0), .val (.int p1), .val (.int p2), .val (.int ((p2 &&& (255 : Int32)).toUInt32.toUInt16.toUInt32.toInt32)), .val (.int ((((p2.toUInt32 >>> ((8 : Int32) &&& 31).toUInt32).toInt32) &&& (255 : Int32)).toUInt32.toUInt16.toUInt32.toInt32)), .val (.int ((((p2.toUInt32 >>> ((16 : Int32) &&& 31).toUInt32).toInt32) &&& (255 : Int32)).toUInt32.toUInt16.toUInt32.toInt32)), .val (.int (p1 &&& (3 : Int32))), .val (.ref b2), .unset, .unset, .unset, .unset] [.null]))
      refine bk (fun t k => XS.goto X2.here hx rfl (pc0 := 114) (pc' := 126) rfl (hb hby at_114) (by decide) (by decide) k) ?_
      show F (T2.setTop (mkF m 126 #[.val (.int p0), .val (.int p1), .val (.int p2), .val (.int ((p2 &&& (255 : Int32)).toUInt32.toUInt16.toUInt32.toInt32)), .val (.int ((((p2.toUInt32 >>> ((8 : Int32) &&& 31).toUInt32).toInt32) &&& (255 : Int32)).toUInt32.toUInt16.toUInt32.toInt32)), .val (.int ((((p2.toUInt32 >>> ((16 : Int32) &&& 31).toUInt32).toInt32) &&& (255 : Int32)).toUInt32.toUInt16.toUInt32.toInt32)), .val (.int (p1 &&& (3 : Int32))), .val (.ref b2), .unset, .unset, .unset, .unset] [.null]))
      refine bk (fun t k => XS.astore X2.here hx rfl (hb hby at_126) rfl rfl (l' := #[.val (.int p0), .val (.int p1), .val (.int p2), .val (.int ((p2 &&& (255 : Int32)).toUInt32.toUInt16.toUInt32.toInt32)), .val (.int ((((p2.toUInt32 >>> ((8 : Int32) &&& 31).toUInt32).toInt32) &&& (255 : Int32)).toUInt32.toUInt16.toUInt32.toInt32)), .val (.int ((((p2.toUInt32 >>> ((16 : Int32) &&& 31).toUInt32).toInt32) &&& (255 : Int32)).toUInt32.toUInt16.toUInt32.toInt32)), .val (.int (p1 &&& (3 : Int32))), .val (.ref b2), .val .null, .unset, .unset, .unset]) rfl k) ?_
      show F (T2.setTop (mkF m 128 #[.val (.int p0), .val (.int p1), .val (.int p2), .val (.int ((p2 &&& (255 : Int32)).toUInt32.toUInt16.toUInt32.toInt32)), .val (.int ((((p2.toUInt32 >>> ((8 : Int32) &&& 31).toUInt32).toInt32) &&& (255 : Int32)).toUInt32.toUInt16.toUInt32.toInt32)), .val (.int ((((p2.toUInt32 >>> ((16 : Int32) &&& 31).toUInt32).toInt32) &&& (255 : Int32)).toUInt32.toUInt16.toUInt32.toInt32)), .val (.int (p1 &&& (3 : Int32))), .val (.ref b2), .val .null, .unset, .unset, .unset] []))
      refine bk (fun t k => XS.iloadN X2.here hx rfl (hb hby at_128) rfl k) ?_
      show F (T2.setTop (mkF m 129 #[.val (.int p0), .val (.int p1), .val (.int p2), .val (.int ((p2 &&& (255 : Int32)).toUInt32.toUInt16.toUInt32.toInt32)), .val (.int ((((p2.toUInt32 >>> ((8 : Int32) &&& 31).toUInt32).toInt32) &&& (255 : Int32)).toUInt32.toUInt16.toUInt32.toInt32)), .val (.int ((((p2.toUInt32 >>> ((16 : Int32) &&& 31).toUInt32).toInt32) &&& (255 : Int32)).toUInt32.toUInt16.toUInt32.toInt32)), .val (.int (p1 &&& (3 : Int32))), .val (.ref b2), .val .null, .unset, .unset, .unset] [(.int p0)]))
      refine bk (fun t k => XS.aload X2.here hx rfl (hb hby at_129) rfl rfl k) ?_
      show F (T2.setTop (mkF m 131 #[.val (.int p0), .val (.int p1), .val (.int p2), .val (.int ((p2 &&& (255 : Int32)).toUInt32.toUInt16.toUInt32.toInt32)), .val (.int ((((p2.toUInt32 >>> ((8 : Int32) &&& 31).toUInt32).toInt32) &&& (255 : Int32)).toUInt32.toUInt16.toUInt32.toInt32)), .val (.int ((((p2.toUInt32 >>> ((16 : Int32) &&& 31).toUInt32).toInt32) &&& (255 : Int32)).toUInt32.toUInt16.toUInt32.toInt32)), .val (.int (p1 &&& (3 : Int32))), .val (.ref b2), .val .null, .unset, .unset, .unset] [.null, (.int p0)]))
      obtain ⟨_, _, ⟨T38, L38, k38, n38⟩, -, X38, ⟨Lc38, hQ38, l38, y38, z38⟩, st38⟩ := Jvm.LawKit.callS X2 hx (y := (⟨"com/example/unabridged_index/unabridgedindex/server/Answer", "error", "(ILjava/lang/String;)Lcom/example/unabridged_index/unabridgedindex/server/Answer;"⟩ : MethodName)) hown (mvT hZ w_30) (mvT hZ w_31) (mvT hZ w_32) (mvT hZ w_33) (by decide) (backOf (W := 0) (rm7n l Z a0 hw [] p0  h2 n0 f4) hZ w_33 w_32 (by decide) (by decide)) (g := (mkF m 131 #[.val (.int p0), .val (.int p1), .val (.int p2), .val (.int ((p2 &&& (255 : Int32)).toUInt32.toUInt16.toUInt32.toInt32)), .val (.int ((((p2.toUInt32 >>> ((8 : Int32) &&& 31).toUInt32).toInt32) &&& (255 : Int32)).toUInt32.toUInt16.toUInt32.toInt32)), .val (.int ((((p2.toUInt32 >>> ((16 : Int32) &&& 31).toUInt32).toInt32) &&& (255 : Int32)).toUInt32.toUInt16.toUInt32.toInt32)), .val (.int (p1 &&& (3 : Int32))), .val (.ref b2), .val .null, .unset, .unset, .unset] [.null, (.int p0)])) rfl (by rw [hml]; rfl) (argsL := [(.int p0), .null]) (rest := []) (lenOf pd0__ILjava_lang_String__Lcom_example_unabridged_index_unabridgedindex_server_Answer_ rfl) rfl (by show 2 * 0 + _ ≤ _; exact Nat.le_of_eq rfl) (hb hby at_131) (fun _ _ => ⟨rfl, e2, (by decide : 1 + 2 ≤ _), (by decide : 0 + 3 ≤ _)⟩)
      dsimp only [Pt.U, Pt.locs, Pt.cells, Pt.slots] at X38 l38 y38 z38 st38 hQ38
      subst l38 y38 z38
      obtain ⟨r38, em38, rfl, N38q, K38, gE38, gS38, gB38, gM38, gR38⟩ := hQ38
      have N38 := Fr.app N0 N38q
      have f39 := Nat.le_trans f3 K38.1
      have f40 := Nat.le_trans f4 K38.1
      have f41 := f5.keep K38 all0
      have f42 := own_sta0 f6 K38
      have f43 := V_b2.keep K38 nin0
      refine bk (fun t k => st38 t k) ?_
      show F (T38.setTop (mkF m 134 #[.val (.int p0), .val (.int p1), .val (.int p2), .val (.int ((p2 &&& (255 : Int32)).toUInt32.toUInt16.toUInt32.toInt32)), .val (.int ((((p2.toUInt32 >>> ((8 : Int32) &&& 31).toUInt32).toInt32) &&& (255 : Int32)).toUInt32.toUInt16.toUInt32.toInt32)), .val (.int ((((p2.toUInt32 >>> ((16 : Int32) &&& 31).toUInt32).toInt32) &&& (255 : Int32)).toUInt32.toUInt16.toUInt32.toInt32)), .val (.int (p1 &&& (3 : Int32))), .val (.ref b2), .val .null, .unset, .unset, .unset] [(.ref r38)]))
      refine bk (fun t k => XS.astore X38.here hx rfl (hb hby at_134) rfl rfl (l' := #[.val (.int p0), .val (.int p1), .val (.int p2), .val (.int ((p2 &&& (255 : Int32)).toUInt32.toUInt16.toUInt32.toInt32)), .val (.int ((((p2.toUInt32 >>> ((8 : Int32) &&& 31).toUInt32).toInt32) &&& (255 : Int32)).toUInt32.toUInt16.toUInt32.toInt32)), .val (.int ((((p2.toUInt32 >>> ((16 : Int32) &&& 31).toUInt32).toInt32) &&& (255 : Int32)).toUInt32.toUInt16.toUInt32.toInt32)), .val (.int (p1 &&& (3 : Int32))), .val (.ref b2), .val .null, .val (.ref r38), .unset, .unset]) rfl k) ?_
      show F (T38.setTop (mkF m 136 #[.val (.int p0), .val (.int p1), .val (.int p2), .val (.int ((p2 &&& (255 : Int32)).toUInt32.toUInt16.toUInt32.toInt32)), .val (.int ((((p2.toUInt32 >>> ((8 : Int32) &&& 31).toUInt32).toInt32) &&& (255 : Int32)).toUInt32.toUInt16.toUInt32.toInt32)), .val (.int ((((p2.toUInt32 >>> ((16 : Int32) &&& 31).toUInt32).toInt32) &&& (255 : Int32)).toUInt32.toUInt16.toUInt32.toInt32)), .val (.int (p1 &&& (3 : Int32))), .val (.ref b2), .val .null, .val (.ref r38), .unset, .unset] []))
      refine bk (fun t k => XS.aload X38.here hx rfl (hb hby at_136) rfl rfl k) ?_
      show F (T38.setTop (mkF m 138 #[.val (.int p0), .val (.int p1), .val (.int p2), .val (.int ((p2 &&& (255 : Int32)).toUInt32.toUInt16.toUInt32.toInt32)), .val (.int ((((p2.toUInt32 >>> ((8 : Int32) &&& 31).toUInt32).toInt32) &&& (255 : Int32)).toUInt32.toUInt16.toUInt32.toInt32)), .val (.int ((((p2.toUInt32 >>> ((16 : Int32) &&& 31).toUInt32).toInt32) &&& (255 : Int32)).toUInt32.toUInt16.toUInt32.toInt32)), .val (.int (p1 &&& (3 : Int32))), .val (.ref b2), .val .null, .val (.ref r38), .unset, .unset] [(.ref r38)]))
      refine bk (fun t k => XS.ifnonnullYes X38.here hx rfl (pc0 := 138) (pc' := 143) rfl (hb hby at_138) rfl (by decide) (by decide) k) ?_
      show F (T38.setTop (mkF m 143 #[.val (.int p0), .val (.int p1), .val (.int p2), .val (.int ((p2 &&& (255 : Int32)).toUInt32.toUInt16.toUInt32.toInt32)), .val (.int ((((p2.toUInt32 >>> ((8 : Int32) &&& 31).toUInt32).toInt32) &&& (255 : Int32)).toUInt32.toUInt16.toUInt32.toInt32)), .val (.int ((((p2.toUInt32 >>> ((16 : Int32) &&& 31).toUInt32).toInt32) &&& (255 : Int32)).toUInt32.toUInt16.toUInt32.toInt32)), .val (.int (p1 &&& (3 : Int32))), .val (.ref b2), .val .null, .val (.ref r38), .unset, .unset] []))
      refine bk (fun t k => XS.aload X38.here hx rfl (hb hby at_143) rfl rfl k) ?_
      show F (T38.setTop (mkF m 145 #[.val (.int p0), .val (.int p1), .val (.int p2), .val (.int ((p2 &&& (255 : Int32)).toUInt32.toUInt16.toUInt32.toInt32)), .val (.int ((((p2.toUInt32 >>> ((8 : Int32) &&& 31).toUInt32).toInt32) &&& (255 : Int32)).toUInt32.toUInt16.toUInt32.toInt32)), .val (.int ((((p2.toUInt32 >>> ((16 : Int32) &&& 31).toUInt32).toInt32) &&& (255 : Int32)).toUInt32.toUInt16.toUInt32.toInt32)), .val (.int (p1 &&& (3 : Int32))), .val (.ref b2), .val .null, .val (.ref r38), .unset, .unset] [(.ref r38)]))
      obtain ⟨cq44, kq44, q44a, q44b, q44c⟩ := isOf hZ rfl (gE38)
      obtain ⟨_, _, ⟨T44, L44, k44, n44⟩, -, X44, ⟨Lc44, hQ44, l44, y44, z44⟩, st44⟩ := X38.virtualBack hx (y := (⟨"com/example/unabridged_index/unabridgedindex/server/Answer", "status", "()I"⟩ : MethodName)) (z := (⟨"com/example/unabridged_index/unabridgedindex/server/Answer", "status", "()I"⟩ : MethodName)) hown (mvT hZ w_58) (mvT hZ w_59) (notFace_of_selects (args := #[]) (mvT hZ w_61)) (mvT hZ w_61) (mvT hZ w_60) (by decide) (backOf (W := 0) (rm11 l Z a0 hw [] r38 p0 T38.heap n0 f40 gS38) hZ w_62 w_32 (by decide) (by decide)) q44a q44c (g := (mkF m 145 #[.val (.int p0), .val (.int p1), .val (.int p2), .val (.int ((p2 &&& (255 : Int32)).toUInt32.toUInt16.toUInt32.toInt32)), .val (.int ((((p2.toUInt32 >>> ((8 : Int32) &&& 31).toUInt32).toInt32) &&& (255 : Int32)).toUInt32.toUInt16.toUInt32.toInt32)), .val (.int ((((p2.toUInt32 >>> ((16 : Int32) &&& 31).toUInt32).toInt32) &&& (255 : Int32)).toUInt32.toUInt16.toUInt32.toInt32)), .val (.int (p1 &&& (3 : Int32))), .val (.ref b2), .val .null, .val (.ref r38), .unset, .unset] [(.ref r38)])) rfl (by rw [hml]; rfl) (Steps.refl _) (argsL := []) (rest := []) (lenOf pd0___I rfl) rfl (by show 2 * 0 + _ ≤ _; exact Nat.le_of_eq rfl) (hb hby at_145) (fun _ _ => ⟨rfl, rfl, (by decide : 3 + 0 ≤ _), (by decide : 3 + 0 ≤ _)⟩)
      dsimp only [Pt.U, Pt.locs, Pt.cells, Pt.slots] at X44 l44 y44 z44 st44 hQ44
      subst l44 y44 z44
      obtain ⟨rfl, N44q, e44⟩ := hQ44
      have N44 := Fr.app N38 N44q
      refine bk (fun t k => st44.trans k) ?_
      show F (T44.setTop (mkF m 148 #[.val (.int p0), .val (.int p1), .val (.int p2), .val (.int ((p2 &&& (255 : Int32)).toUInt32.toUInt16.toUInt32.toInt32)), .val (.int ((((p2.toUInt32 >>> ((8 : Int32) &&& 31).toUInt32).toInt32) &&& (255 : Int32)).toUInt32.toUInt16.toUInt32.toInt32)), .val (.int ((((p2.toUInt32 >>> ((16 : Int32) &&& 31).toUInt32).toInt32) &&& (255 : Int32)).toUInt32.toUInt16.toUInt32.toInt32)), .val (.int (p1 &&& (3 : Int32))), .val (.ref b2), .val .null, .val (.ref r38), .unset, .unset] [(.int p0)]))
      refine bk (fun t k => XS.iloadN X44.here hx rfl (hb hby at_148) rfl k) ?_
      show F (T44.setTop (mkF m 149 #[.val (.int p0), .val (.int p1), .val (.int p2), .val (.int ((p2 &&& (255 : Int32)).toUInt32.toUInt16.toUInt32.toInt32)), .val (.int ((((p2.toUInt32 >>> ((8 : Int32) &&& 31).toUInt32).toInt32) &&& (255 : Int32)).toUInt32.toUInt16.toUInt32.toInt32)), .val (.int ((((p2.toUInt32 >>> ((16 : Int32) &&& 31).toUInt32).toInt32) &&& (255 : Int32)).toUInt32.toUInt16.toUInt32.toInt32)), .val (.int (p1 &&& (3 : Int32))), .val (.ref b2), .val .null, .val (.ref r38), .unset, .unset] [(.int p0), (.int p0)]))
      refine bk (fun t k => XS.icmpYes X44.here hx rfl (pc0 := 149) (pc' := 154) rfl (hb hby at_149) rfl (teq (rfl : p0 = p0)).1 (by decide) (by decide) k) ?_
      show F (T44.setTop (mkF m 154 #[.val (.int p0), .val (.int p1), .val (.int p2), .val (.int ((p2 &&& (255 : Int32)).toUInt32.toUInt16.toUInt32.toInt32)), .val (.int ((((p2.toUInt32 >>> ((8 : Int32) &&& 31).toUInt32).toInt32) &&& (255 : Int32)).toUInt32.toUInt16.toUInt32.toInt32)), .val (.int ((((p2.toUInt32 >>> ((16 : Int32) &&& 31).toUInt32).toInt32) &&& (255 : Int32)).toUInt32.toUInt16.toUInt32.toInt32)), .val (.int (p1 &&& (3 : Int32))), .val (.ref b2), .val .null, .val (.ref r38), .unset, .unset] []))
      refine bk (fun t k => XS.aload X44.here hx rfl (hb hby at_154) rfl rfl k) ?_
      show F (T44.setTop (mkF m 156 #[.val (.int p0), .val (.int p1), .val (.int p2), .val (.int ((p2 &&& (255 : Int32)).toUInt32.toUInt16.toUInt32.toInt32)), .val (.int ((((p2.toUInt32 >>> ((8 : Int32) &&& 31).toUInt32).toInt32) &&& (255 : Int32)).toUInt32.toUInt16.toUInt32.toInt32)), .val (.int ((((p2.toUInt32 >>> ((16 : Int32) &&& 31).toUInt32).toInt32) &&& (255 : Int32)).toUInt32.toUInt16.toUInt32.toInt32)), .val (.int (p1 &&& (3 : Int32))), .val (.ref b2), .val .null, .val (.ref r38), .unset, .unset] [(.ref r38)]))
      obtain ⟨cq45, kq45, q45a, q45b, q45c⟩ := isOf hZ e44 (gE38)
      obtain ⟨_, _, ⟨T45, L45, k45, n45⟩, -, X45, ⟨Lc45, hQ45, l45, y45, z45⟩, st45⟩ := X44.virtualBack hx (y := (⟨"com/example/unabridged_index/unabridgedindex/server/Answer", "body", "()Ljava/lang/Object;"⟩ : MethodName)) (z := (⟨"com/example/unabridged_index/unabridgedindex/server/Answer", "body", "()Ljava/lang/Object;"⟩ : MethodName)) hown (mvT hZ w_63) (mvT hZ w_64) (notFace_of_selects (args := #[]) (mvT hZ w_66)) (mvT hZ w_66) (mvT hZ w_65) (by decide) (backOf (W := 0) (rm12 l Z a0 hw [] r38 em38 T38.heap n0 f40 gB38) hZ w_67 w_32 (by decide) (by decide)) q45a q45c (g := (mkF m 156 #[.val (.int p0), .val (.int p1), .val (.int p2), .val (.int ((p2 &&& (255 : Int32)).toUInt32.toUInt16.toUInt32.toInt32)), .val (.int ((((p2.toUInt32 >>> ((8 : Int32) &&& 31).toUInt32).toInt32) &&& (255 : Int32)).toUInt32.toUInt16.toUInt32.toInt32)), .val (.int ((((p2.toUInt32 >>> ((16 : Int32) &&& 31).toUInt32).toInt32) &&& (255 : Int32)).toUInt32.toUInt16.toUInt32.toInt32)), .val (.int (p1 &&& (3 : Int32))), .val (.ref b2), .val .null, .val (.ref r38), .unset, .unset] [(.ref r38)])) rfl (by rw [hml]; rfl) (Steps.refl _) (argsL := []) (rest := []) (lenOf pd0___Ljava_lang_Object_ rfl) rfl (by show 2 * 0 + _ ≤ _; exact Nat.le_of_eq rfl) (hb hby at_156) (fun _ _ => ⟨rfl, e44, (by decide : 3 + 0 ≤ _), (by decide : 3 + 0 ≤ _)⟩)
      dsimp only [Pt.U, Pt.locs, Pt.cells, Pt.slots] at X45 l45 y45 z45 st45 hQ45
      subst l45 y45 z45
      obtain ⟨rfl, N45q, e45⟩ := hQ45
      have N45 := Fr.app N44 N45q
      refine bk (fun t k => st45.trans k) ?_
      show F (T45.setTop (mkF m 159 #[.val (.int p0), .val (.int p1), .val (.int p2), .val (.int ((p2 &&& (255 : Int32)).toUInt32.toUInt16.toUInt32.toInt32)), .val (.int ((((p2.toUInt32 >>> ((8 : Int32) &&& 31).toUInt32).toInt32) &&& (255 : Int32)).toUInt32.toUInt16.toUInt32.toInt32)), .val (.int ((((p2.toUInt32 >>> ((16 : Int32) &&& 31).toUInt32).toInt32) &&& (255 : Int32)).toUInt32.toUInt16.toUInt32.toInt32)), .val (.int (p1 &&& (3 : Int32))), .val (.ref b2), .val .null, .val (.ref r38), .unset, .unset] [(.ref em38)]))
      refine bk (fun t k => XS.astore X45.here hx rfl (hb hby at_159) rfl rfl (l' := #[.val (.int p0), .val (.int p1), .val (.int p2), .val (.int ((p2 &&& (255 : Int32)).toUInt32.toUInt16.toUInt32.toInt32)), .val (.int ((((p2.toUInt32 >>> ((8 : Int32) &&& 31).toUInt32).toInt32) &&& (255 : Int32)).toUInt32.toUInt16.toUInt32.toInt32)), .val (.int ((((p2.toUInt32 >>> ((16 : Int32) &&& 31).toUInt32).toInt32) &&& (255 : Int32)).toUInt32.toUInt16.toUInt32.toInt32)), .val (.int (p1 &&& (3 : Int32))), .val (.ref b2), .val .null, .val (.ref r38), .val (.ref em38), .unset]) rfl k) ?_
      show F (T45.setTop (mkF m 161 #[.val (.int p0), .val (.int p1), .val (.int p2), .val (.int ((p2 &&& (255 : Int32)).toUInt32.toUInt16.toUInt32.toInt32)), .val (.int ((((p2.toUInt32 >>> ((8 : Int32) &&& 31).toUInt32).toInt32) &&& (255 : Int32)).toUInt32.toUInt16.toUInt32.toInt32)), .val (.int ((((p2.toUInt32 >>> ((16 : Int32) &&& 31).toUInt32).toInt32) &&& (255 : Int32)).toUInt32.toUInt16.toUInt32.toInt32)), .val (.int (p1 &&& (3 : Int32))), .val (.ref b2), .val .null, .val (.ref r38), .val (.ref em38), .unset] []))
      refine bk (fun t k => XS.aload X45.here hx rfl (hb hby at_161) rfl rfl k) ?_
      show F (T45.setTop (mkF m 163 #[.val (.int p0), .val (.int p1), .val (.int p2), .val (.int ((p2 &&& (255 : Int32)).toUInt32.toUInt16.toUInt32.toInt32)), .val (.int ((((p2.toUInt32 >>> ((8 : Int32) &&& 31).toUInt32).toInt32) &&& (255 : Int32)).toUInt32.toUInt16.toUInt32.toInt32)), .val (.int ((((p2.toUInt32 >>> ((16 : Int32) &&& 31).toUInt32).toInt32) &&& (255 : Int32)).toUInt32.toUInt16.toUInt32.toInt32)), .val (.int (p1 &&& (3 : Int32))), .val (.ref b2), .val .null, .val (.ref r38), .val (.ref em38), .unset] [(.ref em38)]))
      obtain ⟨T46, X46, e46, st46⟩ := instY X45 hx hZ hown w_68 e45 (Ins.self gM38) (g := (mkF m 163 #[.val (.int p0), .val (.int p1), .val (.int p2), .val (.int ((p2 &&& (255 : Int32)).toUInt32.toUInt16.toUInt32.toInt32)), .val (.int ((((p2.toUInt32 >>> ((8 : Int32) &&& 31).toUInt32).toInt32) &&& (255 : Int32)).toUInt32.toUInt16.toUInt32.toInt32)), .val (.int ((((p2.toUInt32 >>> ((16 : Int32) &&& 31).toUInt32).toInt32) &&& (255 : Int32)).toUInt32.toUInt16.toUInt32.toInt32)), .val (.int (p1 &&& (3 : Int32))), .val (.ref b2), .val .null, .val (.ref r38), .val (.ref em38), .unset] [(.ref em38)])) rfl rfl (hb hby at_163)
      refine bk (fun t k => st46 t k) ?_
      show F (T46.setTop (mkF m 166 #[.val (.int p0), .val (.int p1), .val (.int p2), .val (.int ((p2 &&& (255 : Int32)).toUInt32.toUInt16.toUInt32.toInt32)), .val (.int ((((p2.toUInt32 >>> ((8 : Int32) &&& 31).toUInt32).toInt32) &&& (255 : Int32)).toUInt32.toUInt16.toUInt32.toInt32)), .val (.int ((((p2.toUInt32 >>> ((16 : Int32) &&& 31).toUInt32).toInt32) &&& (255 : Int32)).toUInt32.toUInt16.toUInt32.toInt32)), .val (.int (p1 &&& (3 : Int32))), .val (.ref b2), .val .null, .val (.ref r38), .val (.ref em38), .unset] [(.int (1 : Int32))]))
      refine bk (fun t k => XS.ifYes X46.here hx rfl (pc0 := 166) (pc' := 171) rfl (hb hby at_166) rfl ((if0 _ _).trans (feq (by decide : ¬ ((1 : Int32) = (0 : Int32)))).2) (by decide) (by decide) k) ?_
      show F (T46.setTop (mkF m 171 #[.val (.int p0), .val (.int p1), .val (.int p2), .val (.int ((p2 &&& (255 : Int32)).toUInt32.toUInt16.toUInt32.toInt32)), .val (.int ((((p2.toUInt32 >>> ((8 : Int32) &&& 31).toUInt32).toInt32) &&& (255 : Int32)).toUInt32.toUInt16.toUInt32.toInt32)), .val (.int ((((p2.toUInt32 >>> ((16 : Int32) &&& 31).toUInt32).toInt32) &&& (255 : Int32)).toUInt32.toUInt16.toUInt32.toInt32)), .val (.int (p1 &&& (3 : Int32))), .val (.ref b2), .val .null, .val (.ref r38), .val (.ref em38), .unset] []))
      refine bk (fun t k => XS.aload X46.here hx rfl (hb hby at_171) rfl rfl k) ?_
      show F (T46.setTop (mkF m 173 #[.val (.int p0), .val (.int p1), .val (.int p2), .val (.int ((p2 &&& (255 : Int32)).toUInt32.toUInt16.toUInt32.toInt32)), .val (.int ((((p2.toUInt32 >>> ((8 : Int32) &&& 31).toUInt32).toInt32) &&& (255 : Int32)).toUInt32.toUInt16.toUInt32.toInt32)), .val (.int ((((p2.toUInt32 >>> ((16 : Int32) &&& 31).toUInt32).toInt32) &&& (255 : Int32)).toUInt32.toUInt16.toUInt32.toInt32)), .val (.int (p1 &&& (3 : Int32))), .val (.ref b2), .val .null, .val (.ref r38), .val (.ref em38), .unset] [(.ref em38)]))
      obtain ⟨T47, X47, e47, st47⟩ := castY X46 hx hZ hown w_68 e46 (Ins.self gM38) (g := (mkF m 173 #[.val (.int p0), .val (.int p1), .val (.int p2), .val (.int ((p2 &&& (255 : Int32)).toUInt32.toUInt16.toUInt32.toInt32)), .val (.int ((((p2.toUInt32 >>> ((8 : Int32) &&& 31).toUInt32).toInt32) &&& (255 : Int32)).toUInt32.toUInt16.toUInt32.toInt32)), .val (.int ((((p2.toUInt32 >>> ((16 : Int32) &&& 31).toUInt32).toInt32) &&& (255 : Int32)).toUInt32.toUInt16.toUInt32.toInt32)), .val (.int (p1 &&& (3 : Int32))), .val (.ref b2), .val .null, .val (.ref r38), .val (.ref em38), .unset] [(.ref em38)])) rfl rfl (hb hby at_173)
      refine bk (fun t k => st47 t k) ?_
      show F (T47.setTop (mkF m 176 #[.val (.int p0), .val (.int p1), .val (.int p2), .val (.int ((p2 &&& (255 : Int32)).toUInt32.toUInt16.toUInt32.toInt32)), .val (.int ((((p2.toUInt32 >>> ((8 : Int32) &&& 31).toUInt32).toInt32) &&& (255 : Int32)).toUInt32.toUInt16.toUInt32.toInt32)), .val (.int ((((p2.toUInt32 >>> ((16 : Int32) &&& 31).toUInt32).toInt32) &&& (255 : Int32)).toUInt32.toUInt16.toUInt32.toInt32)), .val (.int (p1 &&& (3 : Int32))), .val (.ref b2), .val .null, .val (.ref r38), .val (.ref em38), .unset] [(.ref em38)]))
      obtain ⟨cq48, kq48, q48a, q48b, q48c⟩ := isOf hZ e47 (gM38)
      obtain ⟨_, _, ⟨T48, L48, k48, n48⟩, -, X48, ⟨Lc48, hQ48, l48, y48, z48⟩, st48⟩ := X47.virtualBack hx (y := (⟨"com/example/unabridged_index/unabridgedindex/server/Answer$ErrorMessage", "error", "()Ljava/lang/String;"⟩ : MethodName)) (z := (⟨"com/example/unabridged_index/unabridgedindex/server/Answer$ErrorMessage", "error", "()Ljava/lang/String;"⟩ : MethodName)) hown (mvT hZ w_70) (mvT hZ w_71) (notFace_of_selects (args := #[]) (mvT hZ w_73)) (mvT hZ w_73) (mvT hZ w_72) (by decide) (backOf (W := 0) (rm13n l Z a0 hw [] em38  T38.heap n0 f40 gR38) hZ w_74 w_38 (by decide) (by decide)) q48a q48c (g := (mkF m 176 #[.val (.int p0), .val (.int p1), .val (.int p2), .val (.int ((p2 &&& (255 : Int32)).toUInt32.toUInt16.toUInt32.toInt32)), .val (.int ((((p2.toUInt32 >>> ((8 : Int32) &&& 31).toUInt32).toInt32) &&& (255 : Int32)).toUInt32.toUInt16.toUInt32.toInt32)), .val (.int ((((p2.toUInt32 >>> ((16 : Int32) &&& 31).toUInt32).toInt32) &&& (255 : Int32)).toUInt32.toUInt16.toUInt32.toInt32)), .val (.int (p1 &&& (3 : Int32))), .val (.ref b2), .val .null, .val (.ref r38), .val (.ref em38), .unset] [(.ref em38)])) rfl (by rw [hml]; rfl) (Steps.refl _) (argsL := []) (rest := []) (lenOf pd0___Ljava_lang_String_ rfl) rfl (by show 2 * 0 + _ ≤ _; exact Nat.le_of_eq rfl) (hb hby at_176) (fun _ _ => ⟨rfl, e47, (by decide : 3 + 0 ≤ _), (by decide : 3 + 0 ≤ _)⟩)
      dsimp only [Pt.U, Pt.locs, Pt.cells, Pt.slots] at X48 l48 y48 z48 st48 hQ48
      subst l48 y48 z48
      obtain ⟨rfl, N48q, e48⟩ := hQ48
      have N48 := Fr.app N45 N48q
      refine bk (fun t k => st48.trans k) ?_
      show F (T48.setTop (mkF m 179 #[.val (.int p0), .val (.int p1), .val (.int p2), .val (.int ((p2 &&& (255 : Int32)).toUInt32.toUInt16.toUInt32.toInt32)), .val (.int ((((p2.toUInt32 >>> ((8 : Int32) &&& 31).toUInt32).toInt32) &&& (255 : Int32)).toUInt32.toUInt16.toUInt32.toInt32)), .val (.int ((((p2.toUInt32 >>> ((16 : Int32) &&& 31).toUInt32).toInt32) &&& (255 : Int32)).toUInt32.toUInt16.toUInt32.toInt32)), .val (.int (p1 &&& (3 : Int32))), .val (.ref b2), .val .null, .val (.ref r38), .val (.ref em38), .unset] [.null]))
      refine bk (fun t k => XS.astore X48.here hx rfl (hb hby at_179) rfl rfl (l' := #[.val (.int p0), .val (.int p1), .val (.int p2), .val (.int ((p2 &&& (255 : Int32)).toUInt32.toUInt16.toUInt32.toInt32)), .val (.int ((((p2.toUInt32 >>> ((8 : Int32) &&& 31).toUInt32).toInt32) &&& (255 : Int32)).toUInt32.toUInt16.toUInt32.toInt32)), .val (.int ((((p2.toUInt32 >>> ((16 : Int32) &&& 31).toUInt32).toInt32) &&& (255 : Int32)).toUInt32.toUInt16.toUInt32.toInt32)), .val (.int (p1 &&& (3 : Int32))), .val (.ref b2), .val .null, .val (.ref r38), .val (.ref em38), .val .null]) rfl k) ?_
      show F (T48.setTop (mkF m 181 #[.val (.int p0), .val (.int p1), .val (.int p2), .val (.int ((p2 &&& (255 : Int32)).toUInt32.toUInt16.toUInt32.toInt32)), .val (.int ((((p2.toUInt32 >>> ((8 : Int32) &&& 31).toUInt32).toInt32) &&& (255 : Int32)).toUInt32.toUInt16.toUInt32.toInt32)), .val (.int ((((p2.toUInt32 >>> ((16 : Int32) &&& 31).toUInt32).toInt32) &&& (255 : Int32)).toUInt32.toUInt16.toUInt32.toInt32)), .val (.int (p1 &&& (3 : Int32))), .val (.ref b2), .val .null, .val (.ref r38), .val (.ref em38), .val .null] []))
      refine bk (fun t k => XS.aload X48.here hx rfl (hb hby at_181) rfl rfl k) ?_
      show F (T48.setTop (mkF m 183 #[.val (.int p0), .val (.int p1), .val (.int p2), .val (.int ((p2 &&& (255 : Int32)).toUInt32.toUInt16.toUInt32.toInt32)), .val (.int ((((p2.toUInt32 >>> ((8 : Int32) &&& 31).toUInt32).toInt32) &&& (255 : Int32)).toUInt32.toUInt16.toUInt32.toInt32)), .val (.int ((((p2.toUInt32 >>> ((16 : Int32) &&& 31).toUInt32).toInt32) &&& (255 : Int32)).toUInt32.toUInt16.toUInt32.toInt32)), .val (.int (p1 &&& (3 : Int32))), .val (.ref b2), .val .null, .val (.ref r38), .val (.ref em38), .val .null] [.null]))
      refine bk (fun t k => XS.ifnonnullNo X48.here hx rfl (hb hby at_183) rfl k) ?_
      show F (T48.setTop (mkF m 186 #[.val (.int p0), .val (.int p1), .val (.int p2), .val (.int ((p2 &&& (255 : Int32)).toUInt32.toUInt16.toUInt32.toInt32)), .val (.int ((((p2.toUInt32 >>> ((8 : Int32) &&& 31).toUInt32).toInt32) &&& (255 : Int32)).toUInt32.toUInt16.toUInt32.toInt32)), .val (.int ((((p2.toUInt32 >>> ((16 : Int32) &&& 31).toUInt32).toInt32) &&& (255 : Int32)).toUInt32.toUInt16.toUInt32.toInt32)), .val (.int (p1 &&& (3 : Int32))), .val (.ref b2), .val .null, .val (.ref r38), .val (.ref em38), .val .null] []))
      refine bk (fun t k => XS.aload X48.here hx rfl (hb hby at_186) rfl rfl k) ?_
      show F (T48.setTop (mkF m 188 #[.val (.int p0), .val (.int p1), .val (.int p2), .val (.int ((p2 &&& (255 : Int32)).toUInt32.toUInt16.toUInt32.toInt32)), .val (.int ((((p2.toUInt32 >>> ((8 : Int32) &&& 31).toUInt32).toInt32) &&& (255 : Int32)).toUInt32.toUInt16.toUInt32.toInt32)), .val (.int ((((p2.toUInt32 >>> ((16 : Int32) &&& 31).toUInt32).toInt32) &&& (255 : Int32)).toUInt32.toUInt16.toUInt32.toInt32)), .val (.int (p1 &&& (3 : Int32))), .val (.ref b2), .val .null, .val (.ref r38), .val (.ref em38), .val .null] [.null]))
      refine bk (fun t k => XS.ifnonnullNo X48.here hx rfl (hb hby at_188) rfl k) ?_
      show F (T48.setTop (mkF m 191 #[.val (.int p0), .val (.int p1), .val (.int p2), .val (.int ((p2 &&& (255 : Int32)).toUInt32.toUInt16.toUInt32.toInt32)), .val (.int ((((p2.toUInt32 >>> ((8 : Int32) &&& 31).toUInt32).toInt32) &&& (255 : Int32)).toUInt32.toUInt16.toUInt32.toInt32)), .val (.int ((((p2.toUInt32 >>> ((16 : Int32) &&& 31).toUInt32).toInt32) &&& (255 : Int32)).toUInt32.toUInt16.toUInt32.toInt32)), .val (.int (p1 &&& (3 : Int32))), .val (.ref b2), .val .null, .val (.ref r38), .val (.ref em38), .val .null] []))
      refine bk (fun t k => XS.iconst X48.here hx rfl (hb hby at_191) k) ?_
      show F (T48.setTop (mkF m 192 #[.val (.int p0), .val (.int p1), .val (.int p2), .val (.int ((p2 &&& (255 : Int32)).toUInt32.toUInt16.toUInt32.toInt32)), .val (.int ((((p2.toUInt32 >>> ((8 : Int32) &&& 31).toUInt32).toInt32) &&& (255 : Int32)).toUInt32.toUInt16.toUInt32.toInt32)), .val (.int ((((p2.toUInt32 >>> ((16 : Int32) &&& 31).toUInt32).toInt32) &&& (255 : Int32)).toUInt32.toUInt16.toUInt32.toInt32)), .val (.int (p1 &&& (3 : Int32))), .val (.ref b2), .val .null, .val (.ref r38), .val (.ref em38), .val .null] [(.int (1 : Int32))]))
      refine bk (fun t k => XS.goto X48.here hx rfl (pc0 := 192) (pc' := 196) rfl (hb hby at_192) (by decide) (by decide) k) ?_
      show F (T48.setTop (mkF m 196 #[.val (.int p0), .val (.int p1), .val (.int p2), .val (.int ((p2 &&& (255 : Int32)).toUInt32.toUInt16.toUInt32.toInt32)), .val (.int ((((p2.toUInt32 >>> ((8 : Int32) &&& 31).toUInt32).toInt32) &&& (255 : Int32)).toUInt32.toUInt16.toUInt32.toInt32)), .val (.int ((((p2.toUInt32 >>> ((16 : Int32) &&& 31).toUInt32).toInt32) &&& (255 : Int32)).toUInt32.toUInt16.toUInt32.toInt32)), .val (.int (p1 &&& (3 : Int32))), .val (.ref b2), .val .null, .val (.ref r38), .val (.ref em38), .val .null] [(.int (1 : Int32))]))
      rw [hF]
      refine own_retZW X48 hx hS0 (by rw [e48]; exact f39) Bd.notSynchronized Bd.returns (hb hby at_196) (by decide) (by decide) ?_
      rw [e48]
      exact ⟨rfl, N48⟩
  · refine bk (fun t k => XS.ifYes X0.here hx rfl (pc0 := 36) (pc' := 47) rfl (hb hby at_36) rfl ((if0 _ _).trans (feq hc36_1).2) (by decide) (by decide) k) ?_
    show F (s₁.setTop (mkF m 47 #[.val (.int p0), .val (.int p1), .val (.int p2), .val (.int ((p2 &&& (255 : Int32)).toUInt32.toUInt16.toUInt32.toInt32)), .val (.int ((((p2.toUInt32 >>> ((8 : Int32) &&& 31).toUInt32).toInt32) &&& (255 : Int32)).toUInt32.toUInt16.toUInt32.toInt32)), .val (.int ((((p2.toUInt32 >>> ((16 : Int32) &&& 31).toUInt32).toInt32) &&& (255 : Int32)).toUInt32.toUInt16.toUInt32.toInt32)), .val (.int (p1 &&& (3 : Int32))), .unset, .unset, .unset, .unset, .unset] []))
    refine bk (fun t k => XS.iload X0.here hx rfl (hb hby at_47) rfl k) ?_
    show F (s₁.setTop (mkF m 49 #[.val (.int p0), .val (.int p1), .val (.int p2), .val (.int ((p2 &&& (255 : Int32)).toUInt32.toUInt16.toUInt32.toInt32)), .val (.int ((((p2.toUInt32 >>> ((8 : Int32) &&& 31).toUInt32).toInt32) &&& (255 : Int32)).toUInt32.toUInt16.toUInt32.toInt32)), .val (.int ((((p2.toUInt32 >>> ((16 : Int32) &&& 31).toUInt32).toInt32) &&& (255 : Int32)).toUInt32.toUInt16.toUInt32.toInt32)), .val (.int (p1 &&& (3 : Int32))), .unset, .unset, .unset, .unset, .unset] [(.int (p1 &&& (3 : Int32)))]))
    refine bk (fun t k => XS.iconst X0.here hx rfl (hb hby at_49) k) ?_
    show F (s₁.setTop (mkF m 50 #[.val (.int p0), .val (.int p1), .val (.int p2), .val (.int ((p2 &&& (255 : Int32)).toUInt32.toUInt16.toUInt32.toInt32)), .val (.int ((((p2.toUInt32 >>> ((8 : Int32) &&& 31).toUInt32).toInt32) &&& (255 : Int32)).toUInt32.toUInt16.toUInt32.toInt32)), .val (.int ((((p2.toUInt32 >>> ((16 : Int32) &&& 31).toUInt32).toInt32) &&& (255 : Int32)).toUInt32.toUInt16.toUInt32.toInt32)), .val (.int (p1 &&& (3 : Int32))), .unset, .unset, .unset, .unset, .unset] [(.int (1 : Int32)), (.int (p1 &&& (3 : Int32)))]))
    by_cases hc50_49 : (p1 &&& (3 : Int32)) = (1 : Int32)
    · refine bk (fun t k => XS.icmpNo X0.here hx rfl (hb hby at_50) rfl (teq hc50_49).2 k) ?_
      show F (s₁.setTop (mkF m 53 #[.val (.int p0), .val (.int p1), .val (.int p2), .val (.int ((p2 &&& (255 : Int32)).toUInt32.toUInt16.toUInt32.toInt32)), .val (.int ((((p2.toUInt32 >>> ((8 : Int32) &&& 31).toUInt32).toInt32) &&& (255 : Int32)).toUInt32.toUInt16.toUInt32.toInt32)), .val (.int ((((p2.toUInt32 >>> ((16 : Int32) &&& 31).toUInt32).toInt32) &&& (255 : Int32)).toUInt32.toUInt16.toUInt32.toInt32)), .val (.int (p1 &&& (3 : Int32))), .unset, .unset, .unset, .unset, .unset] []))
      refine bk (fun t k => XS.iconst X0.here hx rfl (hb hby at_53) k) ?_
      show F (s₁.setTop (mkF m 54 #[.val (.int p0), .val (.int p1), .val (.int p2), .val (.int ((p2 &&& (255 : Int32)).toUInt32.toUInt16.toUInt32.toInt32)), .val (.int ((((p2.toUInt32 >>> ((8 : Int32) &&& 31).toUInt32).toInt32) &&& (255 : Int32)).toUInt32.toUInt16.toUInt32.toInt32)), .val (.int ((((p2.toUInt32 >>> ((16 : Int32) &&& 31).toUInt32).toInt32) &&& (255 : Int32)).toUInt32.toUInt16.toUInt32.toInt32)), .val (.int (p1 &&& (3 : Int32))), .unset, .unset, .unset, .unset, .unset] [(.int (1 : Int32))]))
      obtain ⟨T50, h50, k50, X50, e50, E50, A50, st50⟩ := newP (aty := .char) X0 hx hZ w_0 e0 (g := (mkF m 54 #[.val (.int p0), .val (.int p1), .val (.int p2), .val (.int ((p2 &&& (255 : Int32)).toUInt32.toUInt16.toUInt32.toInt32)), .val (.int ((((p2.toUInt32 >>> ((8 : Int32) &&& 31).toUInt32).toInt32) &&& (255 : Int32)).toUInt32.toUInt16.toUInt32.toInt32)), .val (.int ((((p2.toUInt32 >>> ((16 : Int32) &&& 31).toUInt32).toInt32) &&& (255 : Int32)).toUInt32.toUInt16.toUInt32.toInt32)), .val (.int (p1 &&& (3 : Int32))), .unset, .unset, .unset, .unset, .unset] [(.int (1 : Int32))])) rfl (hb hby at_54) rfl (by decide) (cap := 1) (by decide) (by decide) (by decide) (by decide)
      obtain ⟨b50, g50⟩ : ∃ z, z = h0.size := ⟨_, rfl⟩
      rw [← g50] at A50 st50
      have Gb50 : n0 ≤ b50 := Nat.le_trans Z0 (Nat.le_of_eq g50.symm)
      have f51 := Nat.le_trans (Nat.zero_le _) E50.1
      have f52 := Nat.le_trans Z0 E50.1
      have f53 := O0.ext E50
      have f54 := S_cs.ext E50
      have V_b50 : Arv Z h50 b50 k50 .char (1 : Int32) [(.int (0 : Int32))] (.int (0 : Int32)) := (Arv.new A50 (by decide)).pad (pad_rep [] (.int (0 : Int32)) 1)
      refine bk (fun t k => st50 t k) ?_
      show F (T50.setTop (mkF m 56 #[.val (.int p0), .val (.int p1), .val (.int p2), .val (.int ((p2 &&& (255 : Int32)).toUInt32.toUInt16.toUInt32.toInt32)), .val (.int ((((p2.toUInt32 >>> ((8 : Int32) &&& 31).toUInt32).toInt32) &&& (255 : Int32)).toUInt32.toUInt16.toUInt32.toInt32)), .val (.int ((((p2.toUInt32 >>> ((16 : Int32) &&& 31).toUInt32).toInt32) &&& (255 : Int32)).toUInt32.toUInt16.toUInt32.toInt32)), .val (.int (p1 &&& (3 : Int32))), .unset, .unset, .unset, .unset, .unset] [(.ref b50)]))
      refine bk (fun t k => XS.dup X50.here hx rfl (hb hby at_56) rfl rfl k) ?_
      show F (T50.setTop (mkF m 57 #[.val (.int p0), .val (.int p1), .val (.int p2), .val (.int ((p2 &&& (255 : Int32)).toUInt32.toUInt16.toUInt32.toInt32)), .val (.int ((((p2.toUInt32 >>> ((8 : Int32) &&& 31).toUInt32).toInt32) &&& (255 : Int32)).toUInt32.toUInt16.toUInt32.toInt32)), .val (.int ((((p2.toUInt32 >>> ((16 : Int32) &&& 31).toUInt32).toInt32) &&& (255 : Int32)).toUInt32.toUInt16.toUInt32.toInt32)), .val (.int (p1 &&& (3 : Int32))), .unset, .unset, .unset, .unset, .unset] [(.ref b50), (.ref b50)]))
      refine bk (fun t k => XS.iconst X50.here hx rfl (hb hby at_57) k) ?_
      show F (T50.setTop (mkF m 58 #[.val (.int p0), .val (.int p1), .val (.int p2), .val (.int ((p2 &&& (255 : Int32)).toUInt32.toUInt16.toUInt32.toInt32)), .val (.int ((((p2.toUInt32 >>> ((8 : Int32) &&& 31).toUInt32).toInt32) &&& (255 : Int32)).toUInt32.toUInt16.toUInt32.toInt32)), .val (.int ((((p2.toUInt32 >>> ((16 : Int32) &&& 31).toUInt32).toInt32) &&& (255 : Int32)).toUInt32.toUInt16.toUInt32.toInt32)), .val (.int (p1 &&& (3 : Int32))), .unset, .unset, .unset, .unset, .unset] [(.int (0 : Int32)), (.ref b50), (.ref b50)]))
      refine bk (fun t k => XS.iloadN X50.here hx rfl (hb hby at_58) rfl k) ?_
      show F (T50.setTop (mkF m 59 #[.val (.int p0), .val (.int p1), .val (.int p2), .val (.int ((p2 &&& (255 : Int32)).toUInt32.toUInt16.toUInt32.toInt32)), .val (.int ((((p2.toUInt32 >>> ((8 : Int32) &&& 31).toUInt32).toInt32) &&& (255 : Int32)).toUInt32.toUInt16.toUInt32.toInt32)), .val (.int ((((p2.toUInt32 >>> ((16 : Int32) &&& 31).toUInt32).toInt32) &&& (255 : Int32)).toUInt32.toUInt16.toUInt32.toInt32)), .val (.int (p1 &&& (3 : Int32))), .unset, .unset, .unset, .unset, .unset] [(.int ((p2 &&& (255 : Int32)).toUInt32.toUInt16.toUInt32.toInt32)), (.int (0 : Int32)), (.ref b50), (.ref b50)]))
      have vv55 := V_b50
      obtain ⟨cl55, Ar55, q55, S55, M55, H55, G55⟩ := vv55
      have hin55 : ¬ ((0 : Int32) < 0 ∨ cl55.slots.size ≤ ((0 : Int32)).toNatClampNeg) := inb_of S55 ⟨by decide, by decide⟩
      obtain ⟨T55, h55, X55, e55, W55, st55⟩ := stC X50 hx hZ e50 Ar55 (j := (0 : Int32)) hin55 (g := (mkF m 59 #[.val (.int p0), .val (.int p1), .val (.int p2), .val (.int ((p2 &&& (255 : Int32)).toUInt32.toUInt16.toUInt32.toInt32)), .val (.int ((((p2.toUInt32 >>> ((8 : Int32) &&& 31).toUInt32).toInt32) &&& (255 : Int32)).toUInt32.toUInt16.toUInt32.toInt32)), .val (.int ((((p2.toUInt32 >>> ((16 : Int32) &&& 31).toUInt32).toInt32) &&& (255 : Int32)).toUInt32.toUInt16.toUInt32.toInt32)), .val (.int (p1 &&& (3 : Int32))), .unset, .unset, .unset, .unset, .unset] [(.int ((p2 &&& (255 : Int32)).toUInt32.toUInt16.toUInt32.toInt32)), (.int (0 : Int32)), (.ref b50), (.ref b50)])) rfl rfl (hb hby at_59)
      have V_b50_55 : Arv Z h55 b50 k50 .char (1 : Int32) [(.int (nar .char ((p2 &&& (255 : Int32)).toUInt32.toUInt16.toUInt32.toInt32)))] (.int (0 : Int32)) := Arv.set Ar55 q55 S55 M55 H55 G55 (fits_nar_char _) W55 0 rfl (Nat.le_of_ble_eq_true rfl)
      have f56 := Nat.le_trans f51 (Keep.of_wr W55).1
      have f57 := Nat.le_trans f52 (Keep.of_wr W55).1
      have f58 := f53.wr W55 Gb50
      have f59 := f54.wr W55
      have N55 := Fr.snoc X55 N0 Gb50
      refine bk (fun t k => st55 t k) ?_
      show F (T55.setTop (mkF m 60 #[.val (.int p0), .val (.int p1), .val (.int p2), .val (.int ((p2 &&& (255 : Int32)).toUInt32.toUInt16.toUInt32.toInt32)), .val (.int ((((p2.toUInt32 >>> ((8 : Int32) &&& 31).toUInt32).toInt32) &&& (255 : Int32)).toUInt32.toUInt16.toUInt32.toInt32)), .val (.int ((((p2.toUInt32 >>> ((16 : Int32) &&& 31).toUInt32).toInt32) &&& (255 : Int32)).toUInt32.toUInt16.toUInt32.toInt32)), .val (.int (p1 &&& (3 : Int32))), .unset, .unset, .unset, .unset, .unset] [(.ref b50)]))
      refine bk (fun t k => XS.astore X55.here hx rfl (hb hby at_60) rfl rfl (l' := #[.val (.int p0), .val (.int p1), .val (.int p2), .val (.int ((p2 &&& (255 : Int32)).toUInt32.toUInt16.toUInt32.toInt32)), .val (.int ((((p2.toUInt32 >>> ((8 : Int32) &&& 31).toUInt32).toInt32) &&& (255 : Int32)).toUInt32.toUInt16.toUInt32.toInt32)), .val (.int ((((p2.toUInt32 >>> ((16 : Int32) &&& 31).toUInt32).toInt32) &&& (255 : Int32)).toUInt32.toUInt16.toUInt32.toInt32)), .val (.int (p1 &&& (3 : Int32))), .val (.ref b50), .unset, .unset, .unset, .unset]) rfl k) ?_
      show F (T55.setTop (mkF m 62 #[.val (.int p0), .val (.int p1), .val (.int p2), .val (.int ((p2 &&& (255 : Int32)).toUInt32.toUInt16.toUInt32.toInt32)), .val (.int ((((p2.toUInt32 >>> ((8 : Int32) &&& 31).toUInt32).toInt32) &&& (255 : Int32)).toUInt32.toUInt16.toUInt32.toInt32)), .val (.int ((((p2.toUInt32 >>> ((16 : Int32) &&& 31).toUInt32).toInt32) &&& (255 : Int32)).toUInt32.toUInt16.toUInt32.toInt32)), .val (.int (p1 &&& (3 : Int32))), .val (.ref b50), .unset, .unset, .unset, .unset] []))
      refine bk (fun t k => XS.goto X55.here hx rfl (pc0 := 62) (pc' := 107) rfl (hb hby at_62) (by decide) (by decide) k) ?_
      show F (T55.setTop (mkF m 107 #[.val (.int p0), .val (.int p1), .val (.int p2), .val (.int ((p2 &&& (255 : Int32)).toUInt32.toUInt16.toUInt32.toInt32)), .val (.int ((((p2.toUInt32 >>> ((8 : Int32) &&& 31).toUInt32).toInt32) &&& (255 : Int32)).toUInt32.toUInt16.toUInt32.toInt32)), .val (.int ((((p2.toUInt32 >>> ((16 : Int32) &&& 31).toUInt32).toInt32) &&& (255 : Int32)).toUInt32.toUInt16.toUInt32.toInt32)), .val (.int (p1 &&& (3 : Int32))), .val (.ref b50), .unset, .unset, .unset, .unset] []))
      refine bk (fun t k => XS.iloadN X55.here hx rfl (hb hby at_107) rfl k) ?_
      show F (T55.setTop (mkF m 108 #[.val (.int p0), .val (.int p1), .val (.int p2), .val (.int ((p2 &&& (255 : Int32)).toUInt32.toUInt16.toUInt32.toInt32)), .val (.int ((((p2.toUInt32 >>> ((8 : Int32) &&& 31).toUInt32).toInt32) &&& (255 : Int32)).toUInt32.toUInt16.toUInt32.toInt32)), .val (.int ((((p2.toUInt32 >>> ((16 : Int32) &&& 31).toUInt32).toInt32) &&& (255 : Int32)).toUInt32.toUInt16.toUInt32.toInt32)), .val (.int (p1 &&& (3 : Int32))), .val (.ref b50), .unset, .unset, .unset, .unset] [(.int p1)]))
      refine bk (fun t k => XS.iconst X55.here hx rfl (hb hby at_108) k) ?_
      show F (T55.setTop (mkF m 109 #[.val (.int p0), .val (.int p1), .val (.int p2), .val (.int ((p2 &&& (255 : Int32)).toUInt32.toUInt16.toUInt32.toInt32)), .val (.int ((((p2.toUInt32 >>> ((8 : Int32) &&& 31).toUInt32).toInt32) &&& (255 : Int32)).toUInt32.toUInt16.toUInt32.toInt32)), .val (.int ((((p2.toUInt32 >>> ((16 : Int32) &&& 31).toUInt32).toInt32) &&& (255 : Int32)).toUInt32.toUInt16.toUInt32.toInt32)), .val (.int (p1 &&& (3 : Int32))), .val (.ref b50), .unset, .unset, .unset, .unset] [(.int (4 : Int32)), (.int p1)]))
      refine bk (fun t k => XS.iand X55.here hx rfl (hb hby at_109) rfl k) ?_
      show F (T55.setTop (mkF m 110 #[.val (.int p0), .val (.int p1), .val (.int p2), .val (.int ((p2 &&& (255 : Int32)).toUInt32.toUInt16.toUInt32.toInt32)), .val (.int ((((p2.toUInt32 >>> ((8 : Int32) &&& 31).toUInt32).toInt32) &&& (255 : Int32)).toUInt32.toUInt16.toUInt32.toInt32)), .val (.int ((((p2.toUInt32 >>> ((16 : Int32) &&& 31).toUInt32).toInt32) &&& (255 : Int32)).toUInt32.toUInt16.toUInt32.toInt32)), .val (.int (p1 &&& (3 : Int32))), .val (.ref b50), .unset, .unset, .unset, .unset] [(.int (p1 &&& (4 : Int32)))]))
      by_cases hc110_60 : (p1 &&& (4 : Int32)) = (0 : Int32)
      · refine bk (fun t k => XS.ifYes X55.here hx rfl (pc0 := 110) (pc' := 117) rfl (hb hby at_110) rfl ((if0 _ _).trans (teq hc110_60).1) (by decide) (by decide) k) ?_
        show F (T55.setTop (mkF m 117 #[.val (.int p0), .val (.int p1), .val (.int p2), .val (.int ((p2 &&& (255 : Int32)).toUInt32.toUInt16.toUInt32.toInt32)), .val (.int ((((p2.toUInt32 >>> ((8 : Int32) &&& 31).toUInt32).toInt32) &&& (255 : Int32)).toUInt32.toUInt16.toUInt32.toInt32)), .val (.int ((((p2.toUInt32 >>> ((16 : Int32) &&& 31).toUInt32).toInt32) &&& (255 : Int32)).toUInt32.toUInt16.toUInt32.toInt32)), .val (.int (p1 &&& (3 : Int32))), .val (.ref b50), .unset, .unset, .unset, .unset] []))
        obtain ⟨T61, h61, X61, e61, E61, A61, D61, -, st61⟩ := newO X55 hx hZ hown w_1 w_2 w_3 e55 (g := (mkF m 117 #[.val (.int p0), .val (.int p1), .val (.int p2), .val (.int ((p2 &&& (255 : Int32)).toUInt32.toUInt16.toUInt32.toInt32)), .val (.int ((((p2.toUInt32 >>> ((8 : Int32) &&& 31).toUInt32).toInt32) &&& (255 : Int32)).toUInt32.toUInt16.toUInt32.toInt32)), .val (.int ((((p2.toUInt32 >>> ((16 : Int32) &&& 31).toUInt32).toInt32) &&& (255 : Int32)).toUInt32.toUInt16.toUInt32.toInt32)), .val (.int (p1 &&& (3 : Int32))), .val (.ref b50), .unset, .unset, .unset, .unset] [])) rfl (hb hby at_117) (by decide) (by decide)
        obtain ⟨b61, g61⟩ : ∃ z, z = h55.size := ⟨_, rfl⟩
        rw [← g61] at A61 D61 st61
        have Gb61 : n0 ≤ b61 := Nat.le_trans f57 (Nat.le_of_eq g61.symm)
        have ne_b50_b61 : b50 ≠ b61 := Nat.ne_of_lt (Nat.lt_of_lt_of_le V_b50_55.lt (Nat.le_of_eq g61.symm))
        have f62 := Nat.le_trans f56 E61.1
        have f63 := Nat.le_trans f57 E61.1
        have f64 := f58.ext E61
        have f65 := f59.ext E61
        have f66 := V_b50_55.ext E61
        have F_coder_b61 : Fld Z h61 b61 "java/lang/String" "coder" "B" (.int (0 : Int32)) := D61 (Or.inr w_27) (ty := .byte) (by decide)
        have F_value_b61 : Fld Z h61 b61 "java/lang/String" "value" "[B" .null := D61 (Or.inr w_29) (ty := (.array .byte)) (by decide)
        refine bk (fun t k => st61 t k) ?_
        show F (T61.setTop (mkF m 120 #[.val (.int p0), .val (.int p1), .val (.int p2), .val (.int ((p2 &&& (255 : Int32)).toUInt32.toUInt16.toUInt32.toInt32)), .val (.int ((((p2.toUInt32 >>> ((8 : Int32) &&& 31).toUInt32).toInt32) &&& (255 : Int32)).toUInt32.toUInt16.toUInt32.toInt32)), .val (.int ((((p2.toUInt32 >>> ((16 : Int32) &&& 31).toUInt32).toInt32) &&& (255 : Int32)).toUInt32.toUInt16.toUInt32.toInt32)), .val (.int (p1 &&& (3 : Int32))), .val (.ref b50), .unset, .unset, .unset, .unset] [(.ref b61)]))
        refine bk (fun t k => XS.dup X61.here hx rfl (hb hby at_120) rfl rfl k) ?_
        show F (T61.setTop (mkF m 121 #[.val (.int p0), .val (.int p1), .val (.int p2), .val (.int ((p2 &&& (255 : Int32)).toUInt32.toUInt16.toUInt32.toInt32)), .val (.int ((((p2.toUInt32 >>> ((8 : Int32) &&& 31).toUInt32).toInt32) &&& (255 : Int32)).toUInt32.toUInt16.toUInt32.toInt32)), .val (.int ((((p2.toUInt32 >>> ((16 : Int32) &&& 31).toUInt32).toInt32) &&& (255 : Int32)).toUInt32.toUInt16.toUInt32.toInt32)), .val (.int (p1 &&& (3 : Int32))), .val (.ref b50), .unset, .unset, .unset, .unset] [(.ref b61), (.ref b61)]))
        refine bk (fun t k => XS.aload X61.here hx rfl (hb hby at_121) rfl rfl k) ?_
        show F (T61.setTop (mkF m 123 #[.val (.int p0), .val (.int p1), .val (.int p2), .val (.int ((p2 &&& (255 : Int32)).toUInt32.toUInt16.toUInt32.toInt32)), .val (.int ((((p2.toUInt32 >>> ((8 : Int32) &&& 31).toUInt32).toInt32) &&& (255 : Int32)).toUInt32.toUInt16.toUInt32.toInt32)), .val (.int ((((p2.toUInt32 >>> ((16 : Int32) &&& 31).toUInt32).toInt32) &&& (255 : Int32)).toUInt32.toUInt16.toUInt32.toInt32)), .val (.int (p1 &&& (3 : Int32))), .val (.ref b50), .unset, .unset, .unset, .unset] [(.ref b50), (.ref b61), (.ref b61)]))
        obtain ⟨_, _, ⟨T67, L67, k67, n67⟩, -, X67, ⟨Lc67, hQ67, l67, y67, z67⟩, st67⟩ := X61.specialBack hx (y := (⟨"java/lang/String", "<init>", "([C)V"⟩ : MethodName)) rfl hown (mvT hZ w_4) (mvT hZ w_5) (mvT hZ w_6) (by decide) (backOf (W := 1) (rm1_1 l Z a0 hw [] b61 b50 k50 cs (nar .char ((p2 &&& (255 : Int32)).toUInt32.toUInt16.toUInt32.toInt32)) h61 n0 f63 A61 F_value_b61 F_coder_b61 Gb61 f66 (Ne.symm ne_b50_b61) f65 hcs (own_ch _)) hZ w_6 w_3 (by decide) (by decide)) (g := (mkF m 123 #[.val (.int p0), .val (.int p1), .val (.int p2), .val (.int ((p2 &&& (255 : Int32)).toUInt32.toUInt16.toUInt32.toInt32)), .val (.int ((((p2.toUInt32 >>> ((8 : Int32) &&& 31).toUInt32).toInt32) &&& (255 : Int32)).toUInt32.toUInt16.toUInt32.toInt32)), .val (.int ((((p2.toUInt32 >>> ((16 : Int32) &&& 31).toUInt32).toInt32) &&& (255 : Int32)).toUInt32.toUInt16.toUInt32.toInt32)), .val (.int (p1 &&& (3 : Int32))), .val (.ref b50), .unset, .unset, .unset, .unset] [(.ref b50), (.ref b61), (.ref b61)])) rfl (by rw [hml]; rfl) (Steps.refl _) (a := b61) (argsL := [(.ref b50)]) (rest := [(.ref b61)]) (lenOf pd0___C_V rfl) rfl (by show 2 * 0 + _ ≤ _; exact Nat.le_of_eq rfl) (hb hby at_123) (fun _ _ => ⟨rfl, e61, (by decide : 2 + 1 ≤ _), (by decide : 5 + 1 ≤ _)⟩)
        dsimp only [Pt.U, Pt.locs, Pt.cells, Pt.slots] at X67 l67 y67 z67 st67 hQ67
        subst l67 y67 z67
        obtain ⟨rfl, N67q, K67, gE67, gC67, r67, kd67, gF67, gV67⟩ := hQ67
        have N67 := Fr.app N55 N67q
        have f68 := Nat.le_trans f62 K67.1
        have f69 := Nat.le_trans f63 K67.1
        have f70 := f64.keep K67 (allS Gb61 all0)
        have f71 := own_sta1 f65 K67 A61
        have f72 := f66.keep K67 (ninS ne_b50_b61 nin0)
        have f73 := A61.keep K67
        refine bk (fun t k => st67.trans k) ?_
        show F (T67.setTop (mkF m 126 #[.val (.int p0), .val (.int p1), .val (.int p2), .val (.int ((p2 &&& (255 : Int32)).toUInt32.toUInt16.toUInt32.toInt32)), .val (.int ((((p2.toUInt32 >>> ((8 : Int32) &&& 31).toUInt32).toInt32) &&& (255 : Int32)).toUInt32.toUInt16.toUInt32.toInt32)), .val (.int ((((p2.toUInt32 >>> ((16 : Int32) &&& 31).toUInt32).toInt32) &&& (255 : Int32)).toUInt32.toUInt16.toUInt32.toInt32)), .val (.int (p1 &&& (3 : Int32))), .val (.ref b50), .unset, .unset, .unset, .unset] [(.ref b61)]))
        refine bk (fun t k => XS.astore X67.here hx rfl (hb hby at_126) rfl rfl (l' := #[.val (.int p0), .val (.int p1), .val (.int p2), .val (.int ((p2 &&& (255 : Int32)).toUInt32.toUInt16.toUInt32.toInt32)), .val (.int ((((p2.toUInt32 >>> ((8 : Int32) &&& 31).toUInt32).toInt32) &&& (255 : Int32)).toUInt32.toUInt16.toUInt32.toInt32)), .val (.int ((((p2.toUInt32 >>> ((16 : Int32) &&& 31).toUInt32).toInt32) &&& (255 : Int32)).toUInt32.toUInt16.toUInt32.toInt32)), .val (.int (p1 &&& (3 : Int32))), .val (.ref b50), .val (.ref b61), .unset, .unset, .unset]) rfl k) ?_
        show F (T67.setTop (mkF m 128 #[.val (.int p0), .val (.int p1), .val (.int p2), .val (.int ((p2 &&& (255 : Int32)).toUInt32.toUInt16.toUInt32.toInt32)), .val (.int ((((p2.toUInt32 >>> ((8 : Int32) &&& 31).toUInt32).toInt32) &&& (255 : Int32)).toUInt32.toUInt16.toUInt32.toInt32)), .val (.int ((((p2.toUInt32 >>> ((16 : Int32) &&& 31).toUInt32).toInt32) &&& (255 : Int32)).toUInt32.toUInt16.toUInt32.toInt32)), .val (.int (p1 &&& (3 : Int32))), .val (.ref b50), .val (.ref b61), .unset, .unset, .unset] []))
        refine bk (fun t k => XS.iloadN X67.here hx rfl (hb hby at_128) rfl k) ?_
        show F (T67.setTop (mkF m 129 #[.val (.int p0), .val (.int p1), .val (.int p2), .val (.int ((p2 &&& (255 : Int32)).toUInt32.toUInt16.toUInt32.toInt32)), .val (.int ((((p2.toUInt32 >>> ((8 : Int32) &&& 31).toUInt32).toInt32) &&& (255 : Int32)).toUInt32.toUInt16.toUInt32.toInt32)), .val (.int ((((p2.toUInt32 >>> ((16 : Int32) &&& 31).toUInt32).toInt32) &&& (255 : Int32)).toUInt32.toUInt16.toUInt32.toInt32)), .val (.int (p1 &&& (3 : Int32))), .val (.ref b50), .val (.ref b61), .unset, .unset, .unset] [(.int p0)]))
        refine bk (fun t k => XS.aload X67.here hx rfl (hb hby at_129) rfl rfl k) ?_
        show F (T67.setTop (mkF m 131 #[.val (.int p0), .val (.int p1), .val (.int p2), .val (.int ((p2 &&& (255 : Int32)).toUInt32.toUInt16.toUInt32.toInt32)), .val (.int ((((p2.toUInt32 >>> ((8 : Int32) &&& 31).toUInt32).toInt32) &&& (255 : Int32)).toUInt32.toUInt16.toUInt32.toInt32)), .val (.int ((((p2.toUInt32 >>> ((16 : Int32) &&& 31).toUInt32).toInt32) &&& (255 : Int32)).toUInt32.toUInt16.toUInt32.toInt32)), .val (.int (p1 &&& (3 : Int32))), .val (.ref b50), .val (.ref b61), .unset, .unset, .unset] [(.ref b61), (.int p0)]))
        obtain ⟨_, _, ⟨T74, L74, k74, n74⟩, -, X74, ⟨Lc74, hQ74, l74, y74, z74⟩, st74⟩ := Jvm.LawKit.callS X67 hx (y := (⟨"com/example/unabridged_index/unabridgedindex/server/Answer", "error", "(ILjava/lang/String;)Lcom/example/unabridged_index/unabridgedindex/server/Answer;"⟩ : MethodName)) hown (mvT hZ w_30) (mvT hZ w_31) (mvT hZ w_32) (mvT hZ w_33) (by decide) (backOf (W := 0) (rm7s l Z a0 hw [] p0 b61 T67.heap n0 f69) hZ w_33 w_32 (by decide) (by decide)) (g := (mkF m 131 #[.val (.int p0), .val (.int p1), .val (.int p2), .val (.int ((p2 &&& (255 : Int32)).toUInt32.toUInt16.toUInt32.toInt32)), .val (.int ((((p2.toUInt32 >>> ((8 : Int32) &&& 31).toUInt32).toInt32) &&& (255 : Int32)).toUInt32.toUInt16.toUInt32.toInt32)), .val (.int ((((p2.toUInt32 >>> ((16 : Int32) &&& 31).toUInt32).toInt32) &&& (255 : Int32)).toUInt32.toUInt16.toUInt32.toInt32)), .val (.int (p1 &&& (3 : Int32))), .val (.ref b50), .val (.ref b61), .unset, .unset, .unset] [(.ref b61), (.int p0)])) rfl (by rw [hml]; rfl) (argsL := [(.int p0), (.ref b61)]) (rest := []) (lenOf pd0__ILjava_lang_String__Lcom_example_unabridged_index_unabridgedindex_server_Answer_ rfl) rfl (by show 2 * 0 + _ ≤ _; exact Nat.le_of_eq rfl) (hb hby at_131) (fun _ _ => ⟨rfl, rfl, (by decide : 3 + 2 ≤ _), (by decide : 6 + 3 ≤ _)⟩)
        dsimp only [Pt.U, Pt.locs, Pt.cells, Pt.slots] at X74 l74 y74 z74 st74 hQ74
        subst l74 y74 z74
        obtain ⟨r74, em74, rfl, N74q, K74, gE74, gS74, gB74, gM74, gR74⟩ := hQ74
        have N74 := Fr.app N67 N74q
        have f75 := Nat.le_trans f68 K74.1
        have f76 := Nat.le_trans f69 K74.1
        have f77 := f70.keep K74 all0
        have f78 := own_sta0 f71 K74
        have f79 := f72.keep K74 nin0
        have f80 := gE67.keep K74
        have f81 := gC67.keep K74 nin0
        have f82 := gF67.keep K74 nin0
        have f83 := gV67.keep K74 nin0
        refine bk (fun t k => st74 t k) ?_
        show F (T74.setTop (mkF m 134 #[.val (.int p0), .val (.int p1), .val (.int p2), .val (.int ((p2 &&& (255 : Int32)).toUInt32.toUInt16.toUInt32.toInt32)), .val (.int ((((p2.toUInt32 >>> ((8 : Int32) &&& 31).toUInt32).toInt32) &&& (255 : Int32)).toUInt32.toUInt16.toUInt32.toInt32)), .val (.int ((((p2.toUInt32 >>> ((16 : Int32) &&& 31).toUInt32).toInt32) &&& (255 : Int32)).toUInt32.toUInt16.toUInt32.toInt32)), .val (.int (p1 &&& (3 : Int32))), .val (.ref b50), .val (.ref b61), .unset, .unset, .unset] [(.ref r74)]))
        refine bk (fun t k => XS.astore X74.here hx rfl (hb hby at_134) rfl rfl (l' := #[.val (.int p0), .val (.int p1), .val (.int p2), .val (.int ((p2 &&& (255 : Int32)).toUInt32.toUInt16.toUInt32.toInt32)), .val (.int ((((p2.toUInt32 >>> ((8 : Int32) &&& 31).toUInt32).toInt32) &&& (255 : Int32)).toUInt32.toUInt16.toUInt32.toInt32)), .val (.int ((((p2.toUInt32 >>> ((16 : Int32) &&& 31).toUInt32).toInt32) &&& (255 : Int32)).toUInt32.toUInt16.toUInt32.toInt32)), .val (.int (p1 &&& (3 : Int32))), .val (.ref b50), .val (.ref b61), .val (.ref r74), .unset, .unset]) rfl k) ?_
        show F (T74.setTop (mkF m 136 #[.val (.int p0), .val (.int p1), .val (.int p2), .val (.int ((p2 &&& (255 : Int32)).toUInt32.toUInt16.toUInt32.toInt32)), .val (.int ((((p2.toUInt32 >>> ((8 : Int32) &&& 31).toUInt32).toInt32) &&& (255 : Int32)).toUInt32.toUInt16.toUInt32.toInt32)), .val (.int ((((p2.toUInt32 >>> ((16 : Int32) &&& 31).toUInt32).toInt32) &&& (255 : Int32)).toUInt32.toUInt16.toUInt32.toInt32)), .val (.int (p1 &&& (3 : Int32))), .val (.ref b50), .val (.ref b61), .val (.ref r74), .unset, .unset] []))
        refine bk (fun t k => XS.aload X74.here hx rfl (hb hby at_136) rfl rfl k) ?_
        show F (T74.setTop (mkF m 138 #[.val (.int p0), .val (.int p1), .val (.int p2), .val (.int ((p2 &&& (255 : Int32)).toUInt32.toUInt16.toUInt32.toInt32)), .val (.int ((((p2.toUInt32 >>> ((8 : Int32) &&& 31).toUInt32).toInt32) &&& (255 : Int32)).toUInt32.toUInt16.toUInt32.toInt32)), .val (.int ((((p2.toUInt32 >>> ((16 : Int32) &&& 31).toUInt32).toInt32) &&& (255 : Int32)).toUInt32.toUInt16.toUInt32.toInt32)), .val (.int (p1 &&& (3 : Int32))), .val (.ref b50), .val (.ref b61), .val (.ref r74), .unset, .unset] [(.ref r74)]))
        refine bk (fun t k => XS.ifnonnullYes X74.here hx rfl (pc0 := 138) (pc' := 143) rfl (hb hby at_138) rfl (by decide) (by decide) k) ?_
        show F (T74.setTop (mkF m 143 #[.val (.int p0), .val (.int p1), .val (.int p2), .val (.int ((p2 &&& (255 : Int32)).toUInt32.toUInt16.toUInt32.toInt32)), .val (.int ((((p2.toUInt32 >>> ((8 : Int32) &&& 31).toUInt32).toInt32) &&& (255 : Int32)).toUInt32.toUInt16.toUInt32.toInt32)), .val (.int ((((p2.toUInt32 >>> ((16 : Int32) &&& 31).toUInt32).toInt32) &&& (255 : Int32)).toUInt32.toUInt16.toUInt32.toInt32)), .val (.int (p1 &&& (3 : Int32))), .val (.ref b50), .val (.ref b61), .val (.ref r74), .unset, .unset] []))
        refine bk (fun t k => XS.aload X74.here hx rfl (hb hby at_143) rfl rfl k) ?_
        show F (T74.setTop (mkF m 145 #[.val (.int p0), .val (.int p1), .val (.int p2), .val (.int ((p2 &&& (255 : Int32)).toUInt32.toUInt16.toUInt32.toInt32)), .val (.int ((((p2.toUInt32 >>> ((8 : Int32) &&& 31).toUInt32).toInt32) &&& (255 : Int32)).toUInt32.toUInt16.toUInt32.toInt32)), .val (.int ((((p2.toUInt32 >>> ((16 : Int32) &&& 31).toUInt32).toInt32) &&& (255 : Int32)).toUInt32.toUInt16.toUInt32.toInt32)), .val (.int (p1 &&& (3 : Int32))), .val (.ref b50), .val (.ref b61), .val (.ref r74), .unset, .unset] [(.ref r74)]))
        obtain ⟨cq84, kq84, q84a, q84b, q84c⟩ := isOf hZ rfl (gE74)
        obtain ⟨_, _, ⟨T84, L84, k84, n84⟩, -, X84, ⟨Lc84, hQ84, l84, y84, z84⟩, st84⟩ := X74.virtualBack hx (y := (⟨"com/example/unabridged_index/unabridgedindex/server/Answer", "status", "()I"⟩ : MethodName)) (z := (⟨"com/example/unabridged_index/unabridgedindex/server/Answer", "status", "()I"⟩ : MethodName)) hown (mvT hZ w_58) (mvT hZ w_59) (notFace_of_selects (args := #[]) (mvT hZ w_61)) (mvT hZ w_61) (mvT hZ w_60) (by decide) (backOf (W := 0) (rm11 l Z a0 hw [] r74 p0 T74.heap n0 f76 gS74) hZ w_62 w_32 (by decide) (by decide)) q84a q84c (g := (mkF m 145 #[.val (.int p0), .val (.int p1), .val (.int p2), .val (.int ((p2 &&& (255 : Int32)).toUInt32.toUInt16.toUInt32.toInt32)), .val (.int ((((p2.toUInt32 >>> ((8 : Int32) &&& 31).toUInt32).toInt32) &&& (255 : Int32)).toUInt32.toUInt16.toUInt32.toInt32)), .val (.int ((((p2.toUInt32 >>> ((16 : Int32) &&& 31).toUInt32).toInt32) &&& (255 : Int32)).toUInt32.toUInt16.toUInt32.toInt32)), .val (.int (p1 &&& (3 : Int32))), .val (.ref b50), .val (.ref b61), .val (.ref r74), .unset, .unset] [(.ref r74)])) rfl (by rw [hml]; rfl) (Steps.refl _) (argsL := []) (rest := []) (lenOf pd0___I rfl) rfl (by show 2 * 0 + _ ≤ _; exact Nat.le_of_eq rfl) (hb hby at_145) (fun _ _ => ⟨rfl, rfl, (by decide : 5 + 0 ≤ _), (by decide : 9 + 0 ≤ _)⟩)
        dsimp only [Pt.U, Pt.locs, Pt.cells, Pt.slots] at X84 l84 y84 z84 st84 hQ84
        subst l84 y84 z84
        obtain ⟨rfl, N84q, e84⟩ := hQ84
        have N84 := Fr.app N74 N84q
        refine bk (fun t k => st84.trans k) ?_
        show F (T84.setTop (mkF m 148 #[.val (.int p0), .val (.int p1), .val (.int p2), .val (.int ((p2 &&& (255 : Int32)).toUInt32.toUInt16.toUInt32.toInt32)), .val (.int ((((p2.toUInt32 >>> ((8 : Int32) &&& 31).toUInt32).toInt32) &&& (255 : Int32)).toUInt32.toUInt16.toUInt32.toInt32)), .val (.int ((((p2.toUInt32 >>> ((16 : Int32) &&& 31).toUInt32).toInt32) &&& (255 : Int32)).toUInt32.toUInt16.toUInt32.toInt32)), .val (.int (p1 &&& (3 : Int32))), .val (.ref b50), .val (.ref b61), .val (.ref r74), .unset, .unset] [(.int p0)]))
        refine bk (fun t k => XS.iloadN X84.here hx rfl (hb hby at_148) rfl k) ?_
        show F (T84.setTop (mkF m 149 #[.val (.int p0), .val (.int p1), .val (.int p2), .val (.int ((p2 &&& (255 : Int32)).toUInt32.toUInt16.toUInt32.toInt32)), .val (.int ((((p2.toUInt32 >>> ((8 : Int32) &&& 31).toUInt32).toInt32) &&& (255 : Int32)).toUInt32.toUInt16.toUInt32.toInt32)), .val (.int ((((p2.toUInt32 >>> ((16 : Int32) &&& 31).toUInt32).toInt32) &&& (255 : Int32)).toUInt32.toUInt16.toUInt32.toInt32)), .val (.int (p1 &&& (3 : Int32))), .val (.ref b50), .val (.ref b61), .val (.ref r74), .unset, .unset] [(.int p0), (.int p0)]))
        refine bk (fun t k => XS.icmpYes X84.here hx rfl (pc0 := 149) (pc' := 154) rfl (hb hby at_149) rfl (teq (rfl : p0 = p0)).1 (by decide) (by decide) k) ?_
        show F (T84.setTop (mkF m 154 #[.val (.int p0), .val (.int p1), .val (.int p2), .val (.int ((p2 &&& (255 : Int32)).toUInt32.toUInt16.toUInt32.toInt32)), .val (.int ((((p2.toUInt32 >>> ((8 : Int32) &&& 31).toUInt32).toInt32) &&& (255 : Int32)).toUInt32.toUInt16.toUInt32.toInt32)), .val (.int ((((p2.toUInt32 >>> ((16 : Int32) &&& 31).toUInt32).toInt32) &&& (255 : Int32)).toUInt32.toUInt16.toUInt32.toInt32)), .val (.int (p1 &&& (3 : Int32))), .val (.ref b50), .val (.ref b61), .val (.ref r74), .unset, .unset] []))
        refine bk (fun t k => XS.aload X84.here hx rfl (hb hby at_154) rfl rfl k) ?_
        show F (T84.setTop (mkF m 156 #[.val (.int p0), .val (.int p1), .val (.int p2), .val (.int ((p2 &&& (255 : Int32)).toUInt32.toUInt16.toUInt32.toInt32)), .val (.int ((((p2.toUInt32 >>> ((8 : Int32) &&& 31).toUInt32).toInt32) &&& (255 : Int32)).toUInt32.toUInt16.toUInt32.toInt32)), .val (.int ((((p2.toUInt32 >>> ((16 : Int32) &&& 31).toUInt32).toInt32) &&& (255 : Int32)).toUInt32.toUInt16.toUInt32.toInt32)), .val (.int (p1 &&& (3 : Int32))), .val (.ref b50), .val (.ref b61), .val (.ref r74), .unset, .unset] [(.ref r74)]))
        obtain ⟨cq85, kq85, q85a, q85b, q85c⟩ := isOf hZ e84 (gE74)
        obtain ⟨_, _, ⟨T85, L85, k85, n85⟩, -, X85, ⟨Lc85, hQ85, l85, y85, z85⟩, st85⟩ := X84.virtualBack hx (y := (⟨"com/example/unabridged_index/unabridgedindex/server/Answer", "body", "()Ljava/lang/Object;"⟩ : MethodName)) (z := (⟨"com/example/unabridged_index/unabridgedindex/server/Answer", "body", "()Ljava/lang/Object;"⟩ : MethodName)) hown (mvT hZ w_63) (mvT hZ w_64) (notFace_of_selects (args := #[]) (mvT hZ w_66)) (mvT hZ w_66) (mvT hZ w_65) (by decide) (backOf (W := 0) (rm12 l Z a0 hw [] r74 em74 T74.heap n0 f76 gB74) hZ w_67 w_32 (by decide) (by decide)) q85a q85c (g := (mkF m 156 #[.val (.int p0), .val (.int p1), .val (.int p2), .val (.int ((p2 &&& (255 : Int32)).toUInt32.toUInt16.toUInt32.toInt32)), .val (.int ((((p2.toUInt32 >>> ((8 : Int32) &&& 31).toUInt32).toInt32) &&& (255 : Int32)).toUInt32.toUInt16.toUInt32.toInt32)), .val (.int ((((p2.toUInt32 >>> ((16 : Int32) &&& 31).toUInt32).toInt32) &&& (255 : Int32)).toUInt32.toUInt16.toUInt32.toInt32)), .val (.int (p1 &&& (3 : Int32))), .val (.ref b50), .val (.ref b61), .val (.ref r74), .unset, .unset] [(.ref r74)])) rfl (by rw [hml]; rfl) (Steps.refl _) (argsL := []) (rest := []) (lenOf pd0___Ljava_lang_Object_ rfl) rfl (by show 2 * 0 + _ ≤ _; exact Nat.le_of_eq rfl) (hb hby at_156) (fun _ _ => ⟨rfl, e84, (by decide : 5 + 0 ≤ _), (by decide : 9 + 0 ≤ _)⟩)
        dsimp only [Pt.U, Pt.locs, Pt.cells, Pt.slots] at X85 l85 y85 z85 st85 hQ85
        subst l85 y85 z85
        obtain ⟨rfl, N85q, e85⟩ := hQ85
        have N85 := Fr.app N84 N85q
        refine bk (fun t k => st85.trans k) ?_
        show F (T85.setTop (mkF m 159 #[.val (.int p0), .val (.int p1), .val (.int p2), .val (.int ((p2 &&& (255 : Int32)).toUInt32.toUInt16.toUInt32.toInt32)), .val (.int ((((p2.toUInt32 >>> ((8 : Int32) &&& 31).toUInt32).toInt32) &&& (255 : Int32)).toUInt32.toUInt16.toUInt32.toInt32)), .val (.int ((((p2.toUInt32 >>> ((16 : Int32) &&& 31).toUInt32).toInt32) &&& (255 : Int32)).toUInt32.toUInt16.toUInt32.toInt32)), .val (.int (p1 &&& (3 : Int32))), .val (.ref b50), .val (.ref b61), .val (.ref r74), .unset, .unset] [(.ref em74)]))
        refine bk (fun t k => XS.astore X85.here hx rfl (hb hby at_159) rfl rfl (l' := #[.val (.int p0), .val (.int p1), .val (.int p2), .val (.int ((p2 &&& (255 : Int32)).toUInt32.toUInt16.toUInt32.toInt32)), .val (.int ((((p2.toUInt32 >>> ((8 : Int32) &&& 31).toUInt32).toInt32) &&& (255 : Int32)).toUInt32.toUInt16.toUInt32.toInt32)), .val (.int ((((p2.toUInt32 >>> ((16 : Int32) &&& 31).toUInt32).toInt32) &&& (255 : Int32)).toUInt32.toUInt16.toUInt32.toInt32)), .val (.int (p1 &&& (3 : Int32))), .val (.ref b50), .val (.ref b61), .val (.ref r74), .val (.ref em74), .unset]) rfl k) ?_
        show F (T85.setTop (mkF m 161 #[.val (.int p0), .val (.int p1), .val (.int p2), .val (.int ((p2 &&& (255 : Int32)).toUInt32.toUInt16.toUInt32.toInt32)), .val (.int ((((p2.toUInt32 >>> ((8 : Int32) &&& 31).toUInt32).toInt32) &&& (255 : Int32)).toUInt32.toUInt16.toUInt32.toInt32)), .val (.int ((((p2.toUInt32 >>> ((16 : Int32) &&& 31).toUInt32).toInt32) &&& (255 : Int32)).toUInt32.toUInt16.toUInt32.toInt32)), .val (.int (p1 &&& (3 : Int32))), .val (.ref b50), .val (.ref b61), .val (.ref r74), .val (.ref em74), .unset] []))
        refine bk (fun t k => XS.aload X85.here hx rfl (hb hby at_161) rfl rfl k) ?_
        show F (T85.setTop (mkF m 163 #[.val (.int p0), .val (.int p1), .val (.int p2), .val (.int ((p2 &&& (255 : Int32)).toUInt32.toUInt16.toUInt32.toInt32)), .val (.int ((((p2.toUInt32 >>> ((8 : Int32) &&& 31).toUInt32).toInt32) &&& (255 : Int32)).toUInt32.toUInt16.toUInt32.toInt32)), .val (.int ((((p2.toUInt32 >>> ((16 : Int32) &&& 31).toUInt32).toInt32) &&& (255 : Int32)).toUInt32.toUInt16.toUInt32.toInt32)), .val (.int (p1 &&& (3 : Int32))), .val (.ref b50), .val (.ref b61), .val (.ref r74), .val (.ref em74), .unset] [(.ref em74)]))
        obtain ⟨T86, X86, e86, st86⟩ := instY X85 hx hZ hown w_68 e85 (Ins.self gM74) (g := (mkF m 163 #[.val (.int p0), .val (.int p1), .val (.int p2), .val (.int ((p2 &&& (255 : Int32)).toUInt32.toUInt16.toUInt32.toInt32)), .val (.int ((((p2.toUInt32 >>> ((8 : Int32) &&& 31).toUInt32).toInt32) &&& (255 : Int32)).toUInt32.toUInt16.toUInt32.toInt32)), .val (.int ((((p2.toUInt32 >>> ((16 : Int32) &&& 31).toUInt32).toInt32) &&& (255 : Int32)).toUInt32.toUInt16.toUInt32.toInt32)), .val (.int (p1 &&& (3 : Int32))), .val (.ref b50), .val (.ref b61), .val (.ref r74), .val (.ref em74), .unset] [(.ref em74)])) rfl rfl (hb hby at_163)
        refine bk (fun t k => st86 t k) ?_
        show F (T86.setTop (mkF m 166 #[.val (.int p0), .val (.int p1), .val (.int p2), .val (.int ((p2 &&& (255 : Int32)).toUInt32.toUInt16.toUInt32.toInt32)), .val (.int ((((p2.toUInt32 >>> ((8 : Int32) &&& 31).toUInt32).toInt32) &&& (255 : Int32)).toUInt32.toUInt16.toUInt32.toInt32)), .val (.int ((((p2.toUInt32 >>> ((16 : Int32) &&& 31).toUInt32).toInt32) &&& (255 : Int32)).toUInt32.toUInt16.toUInt32.toInt32)), .val (.int (p1 &&& (3 : Int32))), .val (.ref b50), .val (.ref b61), .val (.ref r74), .val (.ref em74), .unset] [(.int (1 : Int32))]))
        refine bk (fun t k => XS.ifYes X86.here hx rfl (pc0 := 166) (pc' := 171) rfl (hb hby at_166) rfl ((if0 _ _).trans (feq (by decide : ¬ ((1 : Int32) = (0 : Int32)))).2) (by decide) (by decide) k) ?_
        show F (T86.setTop (mkF m 171 #[.val (.int p0), .val (.int p1), .val (.int p2), .val (.int ((p2 &&& (255 : Int32)).toUInt32.toUInt16.toUInt32.toInt32)), .val (.int ((((p2.toUInt32 >>> ((8 : Int32) &&& 31).toUInt32).toInt32) &&& (255 : Int32)).toUInt32.toUInt16.toUInt32.toInt32)), .val (.int ((((p2.toUInt32 >>> ((16 : Int32) &&& 31).toUInt32).toInt32) &&& (255 : Int32)).toUInt32.toUInt16.toUInt32.toInt32)), .val (.int (p1 &&& (3 : Int32))), .val (.ref b50), .val (.ref b61), .val (.ref r74), .val (.ref em74), .unset] []))
        refine bk (fun t k => XS.aload X86.here hx rfl (hb hby at_171) rfl rfl k) ?_
        show F (T86.setTop (mkF m 173 #[.val (.int p0), .val (.int p1), .val (.int p2), .val (.int ((p2 &&& (255 : Int32)).toUInt32.toUInt16.toUInt32.toInt32)), .val (.int ((((p2.toUInt32 >>> ((8 : Int32) &&& 31).toUInt32).toInt32) &&& (255 : Int32)).toUInt32.toUInt16.toUInt32.toInt32)), .val (.int ((((p2.toUInt32 >>> ((16 : Int32) &&& 31).toUInt32).toInt32) &&& (255 : Int32)).toUInt32.toUInt16.toUInt32.toInt32)), .val (.int (p1 &&& (3 : Int32))), .val (.ref b50), .val (.ref b61), .val (.ref r74), .val (.ref em74), .unset] [(.ref em74)]))
        obtain ⟨T87, X87, e87, st87⟩ := castY X86 hx hZ hown w_68 e86 (Ins.self gM74) (g := (mkF m 173 #[.val (.int p0), .val (.int p1), .val (.int p2), .val (.int ((p2 &&& (255 : Int32)).toUInt32.toUInt16.toUInt32.toInt32)), .val (.int ((((p2.toUInt32 >>> ((8 : Int32) &&& 31).toUInt32).toInt32) &&& (255 : Int32)).toUInt32.toUInt16.toUInt32.toInt32)), .val (.int ((((p2.toUInt32 >>> ((16 : Int32) &&& 31).toUInt32).toInt32) &&& (255 : Int32)).toUInt32.toUInt16.toUInt32.toInt32)), .val (.int (p1 &&& (3 : Int32))), .val (.ref b50), .val (.ref b61), .val (.ref r74), .val (.ref em74), .unset] [(.ref em74)])) rfl rfl (hb hby at_173)
        refine bk (fun t k => st87 t k) ?_
        show F (T87.setTop (mkF m 176 #[.val (.int p0), .val (.int p1), .val (.int p2), .val (.int ((p2 &&& (255 : Int32)).toUInt32.toUInt16.toUInt32.toInt32)), .val (.int ((((p2.toUInt32 >>> ((8 : Int32) &&& 31).toUInt32).toInt32) &&& (255 : Int32)).toUInt32.toUInt16.toUInt32.toInt32)), .val (.int ((((p2.toUInt32 >>> ((16 : Int32) &&& 31).toUInt32).toInt32) &&& (255 : Int32)).toUInt32.toUInt16.toUInt32.toInt32)), .val (.int (p1 &&& (3 : Int32))), .val (.ref b50), .val (.ref b61), .val (.ref r74), .val (.ref em74), .unset] [(.ref em74)]))
        obtain ⟨cq88, kq88, q88a, q88b, q88c⟩ := isOf hZ e87 (gM74)
        obtain ⟨_, _, ⟨T88, L88, k88, n88⟩, -, X88, ⟨Lc88, hQ88, l88, y88, z88⟩, st88⟩ := X87.virtualBack hx (y := (⟨"com/example/unabridged_index/unabridgedindex/server/Answer$ErrorMessage", "error", "()Ljava/lang/String;"⟩ : MethodName)) (z := (⟨"com/example/unabridged_index/unabridgedindex/server/Answer$ErrorMessage", "error", "()Ljava/lang/String;"⟩ : MethodName)) hown (mvT hZ w_70) (mvT hZ w_71) (notFace_of_selects (args := #[]) (mvT hZ w_73)) (mvT hZ w_73) (mvT hZ w_72) (by decide) (backOf (W := 0) (rm13s l Z a0 hw [] em74 b61 T74.heap n0 f76 gR74) hZ w_74 w_38 (by decide) (by decide)) q88a q88c (g := (mkF m 176 #[.val (.int p0), .val (.int p1), .val (.int p2), .val (.int ((p2 &&& (255 : Int32)).toUInt32.toUInt16.toUInt32.toInt32)), .val (.int ((((p2.toUInt32 >>> ((8 : Int32) &&& 31).toUInt32).toInt32) &&& (255 : Int32)).toUInt32.toUInt16.toUInt32.toInt32)), .val (.int ((((p2.toUInt32 >>> ((16 : Int32) &&& 31).toUInt32).toInt32) &&& (255 : Int32)).toUInt32.toUInt16.toUInt32.toInt32)), .val (.int (p1 &&& (3 : Int32))), .val (.ref b50), .val (.ref b61), .val (.ref r74), .val (.ref em74), .unset] [(.ref em74)])) rfl (by rw [hml]; rfl) (Steps.refl _) (argsL := []) (rest := []) (lenOf pd0___Ljava_lang_String_ rfl) rfl (by show 2 * 0 + _ ≤ _; exact Nat.le_of_eq rfl) (hb hby at_176) (fun _ _ => ⟨rfl, e87, (by decide : 5 + 0 ≤ _), (by decide : 9 + 0 ≤ _)⟩)
        dsimp only [Pt.U, Pt.locs, Pt.cells, Pt.slots] at X88 l88 y88 z88 st88 hQ88
        subst l88 y88 z88
        obtain ⟨rfl, N88q, e88⟩ := hQ88
        have N88 := Fr.app N85 N88q
        refine bk (fun t k => st88.trans k) ?_
        show F (T88.setTop (mkF m 179 #[.val (.int p0), .val (.int p1), .val (.int p2), .val (.int ((p2 &&& (255 : Int32)).toUInt32.toUInt16.toUInt32.toInt32)), .val (.int ((((p2.toUInt32 >>> ((8 : Int32) &&& 31).toUInt32).toInt32) &&& (255 : Int32)).toUInt32.toUInt16.toUInt32.toInt32)), .val (.int ((((p2.toUInt32 >>> ((16 : Int32) &&& 31).toUInt32).toInt32) &&& (255 : Int32)).toUInt32.toUInt16.toUInt32.toInt32)), .val (.int (p1 &&& (3 : Int32))), .val (.ref b50), .val (.ref b61), .val (.ref r74), .val (.ref em74), .unset] [(.ref b61)]))
        refine bk (fun t k => XS.astore X88.here hx rfl (hb hby at_179) rfl rfl (l' := #[.val (.int p0), .val (.int p1), .val (.int p2), .val (.int ((p2 &&& (255 : Int32)).toUInt32.toUInt16.toUInt32.toInt32)), .val (.int ((((p2.toUInt32 >>> ((8 : Int32) &&& 31).toUInt32).toInt32) &&& (255 : Int32)).toUInt32.toUInt16.toUInt32.toInt32)), .val (.int ((((p2.toUInt32 >>> ((16 : Int32) &&& 31).toUInt32).toInt32) &&& (255 : Int32)).toUInt32.toUInt16.toUInt32.toInt32)), .val (.int (p1 &&& (3 : Int32))), .val (.ref b50), .val (.ref b61), .val (.ref r74), .val (.ref em74), .val (.ref b61)]) rfl k) ?_
        show F (T88.setTop (mkF m 181 #[.val (.int p0), .val (.int p1), .val (.int p2), .val (.int ((p2 &&& (255 : Int32)).toUInt32.toUInt16.toUInt32.toInt32)), .val (.int ((((p2.toUInt32 >>> ((8 : Int32) &&& 31).toUInt32).toInt32) &&& (255 : Int32)).toUInt32.toUInt16.toUInt32.toInt32)), .val (.int ((((p2.toUInt32 >>> ((16 : Int32) &&& 31).toUInt32).toInt32) &&& (255 : Int32)).toUInt32.toUInt16.toUInt32.toInt32)), .val (.int (p1 &&& (3 : Int32))), .val (.ref b50), .val (.ref b61), .val (.ref r74), .val (.ref em74), .val (.ref b61)] []))
        refine bk (fun t k => XS.aload X88.here hx rfl (hb hby at_181) rfl rfl k) ?_
        show F (T88.setTop (mkF m 183 #[.val (.int p0), .val (.int p1), .val (.int p2), .val (.int ((p2 &&& (255 : Int32)).toUInt32.toUInt16.toUInt32.toInt32)), .val (.int ((((p2.toUInt32 >>> ((8 : Int32) &&& 31).toUInt32).toInt32) &&& (255 : Int32)).toUInt32.toUInt16.toUInt32.toInt32)), .val (.int ((((p2.toUInt32 >>> ((16 : Int32) &&& 31).toUInt32).toInt32) &&& (255 : Int32)).toUInt32.toUInt16.toUInt32.toInt32)), .val (.int (p1 &&& (3 : Int32))), .val (.ref b50), .val (.ref b61), .val (.ref r74), .val (.ref em74), .val (.ref b61)] [(.ref b61)]))
        refine bk (fun t k => XS.ifnonnullYes X88.here hx rfl (pc0 := 183) (pc' := 197) rfl (hb hby at_183) rfl (by decide) (by decide) k) ?_
        show F (T88.setTop (mkF m 197 #[.val (.int p0), .val (.int p1), .val (.int p2), .val (.int ((p2 &&& (255 : Int32)).toUInt32.toUInt16.toUInt32.toInt32)), .val (.int ((((p2.toUInt32 >>> ((8 : Int32) &&& 31).toUInt32).toInt32) &&& (255 : Int32)).toUInt32.toUInt16.toUInt32.toInt32)), .val (.int ((((p2.toUInt32 >>> ((16 : Int32) &&& 31).toUInt32).toInt32) &&& (255 : Int32)).toUInt32.toUInt16.toUInt32.toInt32)), .val (.int (p1 &&& (3 : Int32))), .val (.ref b50), .val (.ref b61), .val (.ref r74), .val (.ref em74), .val (.ref b61)] []))
        refine bk (fun t k => XS.aload X88.here hx rfl (hb hby at_197) rfl rfl k) ?_
        show F (T88.setTop (mkF m 199 #[.val (.int p0), .val (.int p1), .val (.int p2), .val (.int ((p2 &&& (255 : Int32)).toUInt32.toUInt16.toUInt32.toInt32)), .val (.int ((((p2.toUInt32 >>> ((8 : Int32) &&& 31).toUInt32).toInt32) &&& (255 : Int32)).toUInt32.toUInt16.toUInt32.toInt32)), .val (.int ((((p2.toUInt32 >>> ((16 : Int32) &&& 31).toUInt32).toInt32) &&& (255 : Int32)).toUInt32.toUInt16.toUInt32.toInt32)), .val (.int (p1 &&& (3 : Int32))), .val (.ref b50), .val (.ref b61), .val (.ref r74), .val (.ref em74), .val (.ref b61)] [(.ref b61)]))
        refine bk (fun t k => XS.ifnullNo X88.here hx rfl (hb hby at_199) rfl k) ?_
        show F (T88.setTop (mkF m 202 #[.val (.int p0), .val (.int p1), .val (.int p2), .val (.int ((p2 &&& (255 : Int32)).toUInt32.toUInt16.toUInt32.toInt32)), .val (.int ((((p2.toUInt32 >>> ((8 : Int32) &&& 31).toUInt32).toInt32) &&& (255 : Int32)).toUInt32.toUInt16.toUInt32.toInt32)), .val (.int ((((p2.toUInt32 >>> ((16 : Int32) &&& 31).toUInt32).toInt32) &&& (255 : Int32)).toUInt32.toUInt16.toUInt32.toInt32)), .val (.int (p1 &&& (3 : Int32))), .val (.ref b50), .val (.ref b61), .val (.ref r74), .val (.ref em74), .val (.ref b61)] []))
        refine bk (fun t k => XS.aload X88.here hx rfl (hb hby at_202) rfl rfl k) ?_
        show F (T88.setTop (mkF m 204 #[.val (.int p0), .val (.int p1), .val (.int p2), .val (.int ((p2 &&& (255 : Int32)).toUInt32.toUInt16.toUInt32.toInt32)), .val (.int ((((p2.toUInt32 >>> ((8 : Int32) &&& 31).toUInt32).toInt32) &&& (255 : Int32)).toUInt32.toUInt16.toUInt32.toInt32)), .val (.int ((((p2.toUInt32 >>> ((16 : Int32) &&& 31).toUInt32).toInt32) &&& (255 : Int32)).toUInt32.toUInt16.toUInt32.toInt32)), .val (.int (p1 &&& (3 : Int32))), .val (.ref b50), .val (.ref b61), .val (.ref r74), .val (.ref em74), .val (.ref b61)] [(.ref b61)]))
        obtain ⟨cq89, kq89, q89a, q89b, q89c⟩ := isOf hZ e88 (f80)
        obtain ⟨_, _, ⟨T89, L89, k89, n89⟩, -, X89, ⟨Lc89, hQ89, l89, y89, z89⟩, st89⟩ := X88.virtualBack hx (y := (⟨"java/lang/String", "length", "()I"⟩ : MethodName)) (z := (⟨"java/lang/String", "length", "()I"⟩ : MethodName)) hown (mvT hZ w_75) (mvT hZ w_76) (notFace_of_selects (args := #[]) (mvT hZ w_78)) (mvT hZ w_78) (mvT hZ w_77) (by decide) (backOf (W := 0) (rm14_1 l Z a0 hw [] b61 r67 kd67 _ cs T74.heap n0 f76 f80 f82 f83 f81 f78 hcs) hZ w_79 w_3 (by decide) (by decide)) q89a q89c (g := (mkF m 204 #[.val (.int p0), .val (.int p1), .val (.int p2), .val (.int ((p2 &&& (255 : Int32)).toUInt32.toUInt16.toUInt32.toInt32)), .val (.int ((((p2.toUInt32 >>> ((8 : Int32) &&& 31).toUInt32).toInt32) &&& (255 : Int32)).toUInt32.toUInt16.toUInt32.toInt32)), .val (.int ((((p2.toUInt32 >>> ((16 : Int32) &&& 31).toUInt32).toInt32) &&& (255 : Int32)).toUInt32.toUInt16.toUInt32.toInt32)), .val (.int (p1 &&& (3 : Int32))), .val (.ref b50), .val (.ref b61), .val (.ref r74), .val (.ref em74), .val (.ref b61)] [(.ref b61)])) rfl (by rw [hml]; rfl) (Steps.refl _) (argsL := []) (rest := []) (lenOf pd0___I rfl) rfl (by show 2 * 0 + _ ≤ _; exact Nat.le_of_eq rfl) (hb hby at_204) (fun _ _ => ⟨rfl, e88, (by decide : 5 + 0 ≤ _), (by decide : 9 + 0 ≤ _)⟩)
        dsimp only [Pt.U, Pt.locs, Pt.cells, Pt.slots] at X89 l89 y89 z89 st89 hQ89
        subst l89 y89 z89
        obtain ⟨rfl, N89q, e89⟩ := hQ89
        have N89 := Fr.app N88 N89q
        refine bk (fun t k => st89.trans k) ?_
        show F (T89.setTop (mkF m 207 #[.val (.int p0), .val (.int p1), .val (.int p2), .val (.int ((p2 &&& (255 : Int32)).toUInt32.toUInt16.toUInt32.toInt32)), .val (.int ((((p2.toUInt32 >>> ((8 : Int32) &&& 31).toUInt32).toInt32) &&& (255 : Int32)).toUInt32.toUInt16.toUInt32.toInt32)), .val (.int ((((p2.toUInt32 >>> ((16 : Int32) &&& 31).toUInt32).toInt32) &&& (255 : Int32)).toUInt32.toUInt16.toUInt32.toInt32)), .val (.int (p1 &&& (3 : Int32))), .val (.ref b50), .val (.ref b61), .val (.ref r74), .val (.ref em74), .val (.ref b61)] [(.int (1 : Int32))]))
        refine bk (fun t k => XS.iload X89.here hx rfl (hb hby at_207) rfl k) ?_
        show F (T89.setTop (mkF m 209 #[.val (.int p0), .val (.int p1), .val (.int p2), .val (.int ((p2 &&& (255 : Int32)).toUInt32.toUInt16.toUInt32.toInt32)), .val (.int ((((p2.toUInt32 >>> ((8 : Int32) &&& 31).toUInt32).toInt32) &&& (255 : Int32)).toUInt32.toUInt16.toUInt32.toInt32)), .val (.int ((((p2.toUInt32 >>> ((16 : Int32) &&& 31).toUInt32).toInt32) &&& (255 : Int32)).toUInt32.toUInt16.toUInt32.toInt32)), .val (.int (p1 &&& (3 : Int32))), .val (.ref b50), .val (.ref b61), .val (.ref r74), .val (.ref em74), .val (.ref b61)] [(.int (p1 &&& (3 : Int32))), (.int (1 : Int32))]))
        refine bk (fun t k => XS.icmpYes X89.here hx rfl (pc0 := 209) (pc' := 214) rfl (hb hby at_209) rfl (teq hc50_49.symm).1 (by decide) (by decide) k) ?_
        show F (T89.setTop (mkF m 214 #[.val (.int p0), .val (.int p1), .val (.int p2), .val (.int ((p2 &&& (255 : Int32)).toUInt32.toUInt16.toUInt32.toInt32)), .val (.int ((((p2.toUInt32 >>> ((8 : Int32) &&& 31).toUInt32).toInt32) &&& (255 : Int32)).toUInt32.toUInt16.toUInt32.toInt32)), .val (.int ((((p2.toUInt32 >>> ((16 : Int32) &&& 31).toUInt32).toInt32) &&& (255 : Int32)).toUInt32.toUInt16.toUInt32.toInt32)), .val (.int (p1 &&& (3 : Int32))), .val (.ref b50), .val (.ref b61), .val (.ref r74), .val (.ref em74), .val (.ref b61)] []))
        refine bk (fun t k => XS.aload X89.here hx rfl (hb hby at_214) rfl rfl k) ?_
        show F (T89.setTop (mkF m 216 #[.val (.int p0), .val (.int p1), .val (.int p2), .val (.int ((p2 &&& (255 : Int32)).toUInt32.toUInt16.toUInt32.toInt32)), .val (.int ((((p2.toUInt32 >>> ((8 : Int32) &&& 31).toUInt32).toInt32) &&& (255 : Int32)).toUInt32.toUInt16.toUInt32.toInt32)), .val (.int ((((p2.toUInt32 >>> ((16 : Int32) &&& 31).toUInt32).toInt32) &&& (255 : Int32)).toUInt32.toUInt16.toUInt32.toInt32)), .val (.int (p1 &&& (3 : Int32))), .val (.ref b50), .val (.ref b61), .val (.ref r74), .val (.ref em74), .val (.ref b61)] [(.ref b61)]))
        refine bk (fun t k => XS.aload X89.here hx rfl (hb hby at_216) rfl rfl k) ?_
        show F (T89.setTop (mkF m 218 #[.val (.int p0), .val (.int p1), .val (.int p2), .val (.int ((p2 &&& (255 : Int32)).toUInt32.toUInt16.toUInt32.toInt32)), .val (.int ((((p2.toUInt32 >>> ((8 : Int32) &&& 31).toUInt32).toInt32) &&& (255 : Int32)).toUInt32.toUInt16.toUInt32.toInt32)), .val (.int ((((p2.toUInt32 >>> ((16 : Int32) &&& 31).toUInt32).toInt32) &&& (255 : Int32)).toUInt32.toUInt16.toUInt32.toInt32)), .val (.int (p1 &&& (3 : Int32))), .val (.ref b50), .val (.ref b61), .val (.ref r74), .val (.ref em74), .val (.ref b61)] [(.ref b61), (.ref b61)]))
        obtain ⟨cq90, kq90, q90a, q90b, q90c⟩ := isOf hZ e89 (f80)
        obtain ⟨_, _, ⟨T90, L90, k90, n90⟩, -, X90, ⟨Lc90, hQ90, l90, y90, z90⟩, st90⟩ := X89.virtualBack hx (y := (⟨"java/lang/String", "equals", "(Ljava/lang/Object;)Z"⟩ : MethodName)) (z := (⟨"java/lang/String", "equals", "(Ljava/lang/Object;)Z"⟩ : MethodName)) hown (mvT hZ w_85) (mvT hZ w_86) (notFace_of_selects (args := #[]) (mvT hZ w_88)) (mvT hZ w_88) (mvT hZ w_87) (by decide) (backOf (W := 0) (rm16 l Z a0 hw [] b61 T74.heap n0 f76) hZ w_89 w_3 (by decide) (by decide)) q90a q90c (g := (mkF m 218 #[.val (.int p0), .val (.int p1), .val (.int p2), .val (.int ((p2 &&& (255 : Int32)).toUInt32.toUInt16.toUInt32.toInt32)), .val (.int ((((p2.toUInt32 >>> ((8 : Int32) &&& 31).toUInt32).toInt32) &&& (255 : Int32)).toUInt32.toUInt16.toUInt32.toInt32)), .val (.int ((((p2.toUInt32 >>> ((16 : Int32) &&& 31).toUInt32).toInt32) &&& (255 : Int32)).toUInt32.toUInt16.toUInt32.toInt32)), .val (.int (p1 &&& (3 : Int32))), .val (.ref b50), .val (.ref b61), .val (.ref r74), .val (.ref em74), .val (.ref b61)] [(.ref b61), (.ref b61)])) rfl (by rw [hml]; rfl) (Steps.refl _) (argsL := [(.ref b61)]) (rest := []) (lenOf pd0__Ljava_lang_Object__Z rfl) rfl (by show 2 * 0 + _ ≤ _; exact Nat.le_of_eq rfl) (hb hby at_218) (fun _ _ => ⟨rfl, e89, (by decide : 5 + 0 ≤ _), (by decide : 9 + 0 ≤ _)⟩)
        dsimp only [Pt.U, Pt.locs, Pt.cells, Pt.slots] at X90 l90 y90 z90 st90 hQ90
        subst l90 y90 z90
        obtain ⟨rfl, N90q, e90⟩ := hQ90
        have N90 := Fr.app N89 N90q
        refine bk (fun t k => st90.trans k) ?_
        show F (T90.setTop (mkF m 221 #[.val (.int p0), .val (.int p1), .val (.int p2), .val (.int ((p2 &&& (255 : Int32)).toUInt32.toUInt16.toUInt32.toInt32)), .val (.int ((((p2.toUInt32 >>> ((8 : Int32) &&& 31).toUInt32).toInt32) &&& (255 : Int32)).toUInt32.toUInt16.toUInt32.toInt32)), .val (.int ((((p2.toUInt32 >>> ((16 : Int32) &&& 31).toUInt32).toInt32) &&& (255 : Int32)).toUInt32.toUInt16.toUInt32.toInt32)), .val (.int (p1 &&& (3 : Int32))), .val (.ref b50), .val (.ref b61), .val (.ref r74), .val (.ref em74), .val (.ref b61)] [(.int (1 : Int32))]))
        rw [hF]
        refine own_retZW X90 hx hS0 (by rw [e90]; exact f75) Bd.notSynchronized Bd.returns (hb hby at_221) (by decide) (by decide) ?_
        rw [e90]
        exact ⟨rfl, N90⟩
      · refine bk (fun t k => XS.ifNo X55.here hx rfl (hb hby at_110) rfl ((if0 _ _).trans (feq hc110_60).1) k) ?_
        show F (T55.setTop (mkF m 113 #[.val (.int p0), .val (.int p1), .val (.int p2), .val (.int ((p2 &&& (255 : Int32)).toUInt32.toUInt16.toUInt32.toInt32)), .val (.int ((((p2.toUInt32 >>> ((8 : Int32) &&& 31).toUInt32).toInt32) &&& (255 : Int32)).toUInt32.toUInt16.toUInt32.toInt32)), .val (.int ((((p2.toUInt32 >>> ((16 : Int32) &&& 31).toUInt32).toInt32) &&& (255 : Int32)).toUInt32.toUInt16.toUInt32.toInt32)), .val (.int (p1 &&& (3 : Int32))), .val (.ref b50), .unset, .unset, .unset, .unset] []))
        refine bk (fun t k => XS.aconstNull X55.here hx rfl (hb hby at_113) k) ?_
        show F (T55.setTop (mkF m 114 #[.val (.int p0), .val (.int p1), .val (.int p2), .val (.int ((p2 &&& (255 : Int32)).toUInt32.toUInt16.toUInt32.toInt32)), .val (.int ((((p2.toUInt32 >>> ((8 : Int32) &&& 31).toUInt32).toInt32) &&& (255 : Int32)).toUInt32.toUInt16.toUInt32.toInt32)), .val (.int ((((p2.toUInt32 >>> ((16 : Int32) &&& 31).toUInt32).toInt32) &&& (255 : Int32)).toUInt32.toUInt16.toUInt32.toInt32)), .val (.int (p1 &&& (3 : Int32))), .val (.ref b50), .unset, .unset, .unset, .unset] [.null]))
        refine bk (fun t k => XS.goto X55.here hx rfl (pc0 := 114) (pc' := 126) rfl (hb hby at_114) (by decide) (by decide) k) ?_
        show F (T55.setTop (mkF m 126 #[.val (.int p0), .val (.int p1), .val (.int p2), .val (.int ((p2 &&& (255 : Int32)).toUInt32.toUInt16.toUInt32.toInt32)), .val (.int ((((p2.toUInt32 >>> ((8 : Int32) &&& 31).toUInt32).toInt32) &&& (255 : Int32)).toUInt32.toUInt16.toUInt32.toInt32)), .val (.int ((((p2.toUInt32 >>> ((16 : Int32) &&& 31).toUInt32).toInt32) &&& (255 : Int32)).toUInt32.toUInt16.toUInt32.toInt32)), .val (.int (p1 &&& (3 : Int32))), .val (.ref b50), .unset, .unset, .unset, .unset] [.null]))
        refine bk (fun t k => XS.astore X55.here hx rfl (hb hby at_126) rfl rfl (l' := #[.val (.int p0), .val (.int p1), .val (.int p2), .val (.int ((p2 &&& (255 : Int32)).toUInt32.toUInt16.toUInt32.toInt32)), .val (.int ((((p2.toUInt32 >>> ((8 : Int32) &&& 31).toUInt32).toInt32) &&& (255 : Int32)).toUInt32.toUInt16.toUInt32.toInt32)), .val (.int ((((p2.toUInt32 >>> ((16 : Int32) &&& 31).toUInt32).toInt32) &&& (255 : Int32)).toUInt32.toUInt16.toUInt32.toInt32)), .val (.int (p1 &&& (3 : Int32))), .val (.ref b50), .val .null, .unset, .unset, .unset]) rfl k) ?_
        show F (T55.setTop (mkF m 128 #[.val (.int p0), .val (.int p1), .val (.int p2), .val (.int ((p2 &&& (255 : Int32)).toUInt32.toUInt16.toUInt32.toInt32)), .val (.int ((((p2.toUInt32 >>> ((8 : Int32) &&& 31).toUInt32).toInt32) &&& (255 : Int32)).toUInt32.toUInt16.toUInt32.toInt32)), .val (.int ((((p2.toUInt32 >>> ((16 : Int32) &&& 31).toUInt32).toInt32) &&& (255 : Int32)).toUInt32.toUInt16.toUInt32.toInt32)), .val (.int (p1 &&& (3 : Int32))), .val (.ref b50), .val .null, .unset, .unset, .unset] []))
        refine bk (fun t k => XS.iloadN X55.here hx rfl (hb hby at_128) rfl k) ?_
        show F (T55.setTop (mkF m 129 #[.val (.int p0), .val (.int p1), .val (.int p2), .val (.int ((p2 &&& (255 : Int32)).toUInt32.toUInt16.toUInt32.toInt32)), .val (.int ((((p2.toUInt32 >>> ((8 : Int32) &&& 31).toUInt32).toInt32) &&& (255 : Int32)).toUInt32.toUInt16.toUInt32.toInt32)), .val (.int ((((p2.toUInt32 >>> ((16 : Int32) &&& 31).toUInt32).toInt32) &&& (255 : Int32)).toUInt32.toUInt16.toUInt32.toInt32)), .val (.int (p1 &&& (3 : Int32))), .val (.ref b50), .val .null, .unset, .unset, .unset] [(.int p0)]))
        refine bk (fun t k => XS.aload X55.here hx rfl (hb hby at_129) rfl rfl k) ?_
        show F (T55.setTop (mkF m 131 #[.val (.int p0), .val (.int p1), .val (.int p2), .val (.int ((p2 &&& (255 : Int32)).toUInt32.toUInt16.toUInt32.toInt32)), .val (.int ((((p2.toUInt32 >>> ((8 : Int32) &&& 31).toUInt32).toInt32) &&& (255 : Int32)).toUInt32.toUInt16.toUInt32.toInt32)), .val (.int ((((p2.toUInt32 >>> ((16 : Int32) &&& 31).toUInt32).toInt32) &&& (255 : Int32)).toUInt32.toUInt16.toUInt32.toInt32)), .val (.int (p1 &&& (3 : Int32))), .val (.ref b50), .val .null, .unset, .unset, .unset] [.null, (.int p0)]))
        obtain ⟨_, _, ⟨T91, L91, k91, n91⟩, -, X91, ⟨Lc91, hQ91, l91, y91, z91⟩, st91⟩ := Jvm.LawKit.callS X55 hx (y := (⟨"com/example/unabridged_index/unabridgedindex/server/Answer", "error", "(ILjava/lang/String;)Lcom/example/unabridged_index/unabridgedindex/server/Answer;"⟩ : MethodName)) hown (mvT hZ w_30) (mvT hZ w_31) (mvT hZ w_32) (mvT hZ w_33) (by decide) (backOf (W := 0) (rm7n l Z a0 hw [] p0  h55 n0 f57) hZ w_33 w_32 (by decide) (by decide)) (g := (mkF m 131 #[.val (.int p0), .val (.int p1), .val (.int p2), .val (.int ((p2 &&& (255 : Int32)).toUInt32.toUInt16.toUInt32.toInt32)), .val (.int ((((p2.toUInt32 >>> ((8 : Int32) &&& 31).toUInt32).toInt32) &&& (255 : Int32)).toUInt32.toUInt16.toUInt32.toInt32)), .val (.int ((((p2.toUInt32 >>> ((16 : Int32) &&& 31).toUInt32).toInt32) &&& (255 : Int32)).toUInt32.toUInt16.toUInt32.toInt32)), .val (.int (p1 &&& (3 : Int32))), .val (.ref b50), .val .null, .unset, .unset, .unset] [.null, (.int p0)])) rfl (by rw [hml]; rfl) (argsL := [(.int p0), .null]) (rest := []) (lenOf pd0__ILjava_lang_String__Lcom_example_unabridged_index_unabridgedindex_server_Answer_ rfl) rfl (by show 2 * 0 + _ ≤ _; exact Nat.le_of_eq rfl) (hb hby at_131) (fun _ _ => ⟨rfl, e55, (by decide : 1 + 2 ≤ _), (by decide : 1 + 3 ≤ _)⟩)
        dsimp only [Pt.U, Pt.locs, Pt.cells, Pt.slots] at X91 l91 y91 z91 st91 hQ91
        subst l91 y91 z91
        obtain ⟨r91, em91, rfl, N91q, K91, gE91, gS91, gB91, gM91, gR91⟩ := hQ91
        have N91 := Fr.app N55 N91q
        have f92 := Nat.le_trans f56 K91.1
        have f93 := Nat.le_trans f57 K91.1
        have f94 := f58.keep K91 all0
        have f95 := own_sta0 f59 K91
        have f96 := V_b50_55.keep K91 nin0
        refine bk (fun t k => st91 t k) ?_
        show F (T91.setTop (mkF m 134 #[.val (.int p0), .val (.int p1), .val (.int p2), .val (.int ((p2 &&& (255 : Int32)).toUInt32.toUInt16.toUInt32.toInt32)), .val (.int ((((p2.toUInt32 >>> ((8 : Int32) &&& 31).toUInt32).toInt32) &&& (255 : Int32)).toUInt32.toUInt16.toUInt32.toInt32)), .val (.int ((((p2.toUInt32 >>> ((16 : Int32) &&& 31).toUInt32).toInt32) &&& (255 : Int32)).toUInt32.toUInt16.toUInt32.toInt32)), .val (.int (p1 &&& (3 : Int32))), .val (.ref b50), .val .null, .unset, .unset, .unset] [(.ref r91)]))
        refine bk (fun t k => XS.astore X91.here hx rfl (hb hby at_134) rfl rfl (l' := #[.val (.int p0), .val (.int p1), .val (.int p2), .val (.int ((p2 &&& (255 : Int32)).toUInt32.toUInt16.toUInt32.toInt32)), .val (.int ((((p2.toUInt32 >>> ((8 : Int32) &&& 31).toUInt32).toInt32) &&& (255 : Int32)).toUInt32.toUInt16.toUInt32.toInt32)), .val (.int ((((p2.toUInt32 >>> ((16 : Int32) &&& 31).toUInt32).toInt32) &&& (255 : Int32)).toUInt32.toUInt16.toUInt32.toInt32)), .val (.int (p1 &&& (3 : Int32))), .val (.ref b50), .val .null, .val (.ref r91), .unset, .unset]) rfl k) ?_
        show F (T91.setTop (mkF m 136 #[.val (.int p0), .val (.int p1), .val (.int p2), .val (.int ((p2 &&& (255 : Int32)).toUInt32.toUInt16.toUInt32.toInt32)), .val (.int ((((p2.toUInt32 >>> ((8 : Int32) &&& 31).toUInt32).toInt32) &&& (255 : Int32)).toUInt32.toUInt16.toUInt32.toInt32)), .val (.int ((((p2.toUInt32 >>> ((16 : Int32) &&& 31).toUInt32).toInt32) &&& (255 : Int32)).toUInt32.toUInt16.toUInt32.toInt32)), .val (.int (p1 &&& (3 : Int32))), .val (.ref b50), .val .null, .val (.ref r91), .unset, .unset] []))
        refine bk (fun t k => XS.aload X91.here hx rfl (hb hby at_136) rfl rfl k) ?_
        show F (T91.setTop (mkF m 138 #[.val (.int p0), .val (.int p1), .val (.int p2), .val (.int ((p2 &&& (255 : Int32)).toUInt32.toUInt16.toUInt32.toInt32)), .val (.int ((((p2.toUInt32 >>> ((8 : Int32) &&& 31).toUInt32).toInt32) &&& (255 : Int32)).toUInt32.toUInt16.toUInt32.toInt32)), .val (.int ((((p2.toUInt32 >>> ((16 : Int32) &&& 31).toUInt32).toInt32) &&& (255 : Int32)).toUInt32.toUInt16.toUInt32.toInt32)), .val (.int (p1 &&& (3 : Int32))), .val (.ref b50), .val .null, .val (.ref r91), .unset, .unset] [(.ref r91)]))
        refine bk (fun t k => XS.ifnonnullYes X91.here hx rfl (pc0 := 138) (pc' := 143) rfl (hb hby at_138) rfl (by decide) (by decide) k) ?_
        show F (T91.setTop (mkF m 143 #[.val (.int p0), .val (.int p1), .val (.int p2), .val (.int ((p2 &&& (255 : Int32)).toUInt32.toUInt16.toUInt32.toInt32)), .val (.int ((((p2.toUInt32 >>> ((8 : Int32) &&& 31).toUInt32).toInt32) &&& (255 : Int32)).toUInt32.toUInt16.toUInt32.toInt32)), .val (.int ((((p2.toUInt32 >>> ((16 : Int32) &&& 31).toUInt32).toInt32) &&& (255 : Int32)).toUInt32.toUInt16.toUInt32.toInt32)), .val (.int (p1 &&& (3 : Int32))), .val (.ref b50), .val .null, .val (.ref r91), .unset, .unset] []))
        refine bk (fun t k => XS.aload X91.here hx rfl (hb hby at_143) rfl rfl k) ?_
        show F (T91.setTop (mkF m 145 #[.val (.int p0), .val (.int p1), .val (.int p2), .val (.int ((p2 &&& (255 : Int32)).toUInt32.toUInt16.toUInt32.toInt32)), .val (.int ((((p2.toUInt32 >>> ((8 : Int32) &&& 31).toUInt32).toInt32) &&& (255 : Int32)).toUInt32.toUInt16.toUInt32.toInt32)), .val (.int ((((p2.toUInt32 >>> ((16 : Int32) &&& 31).toUInt32).toInt32) &&& (255 : Int32)).toUInt32.toUInt16.toUInt32.toInt32)), .val (.int (p1 &&& (3 : Int32))), .val (.ref b50), .val .null, .val (.ref r91), .unset, .unset] [(.ref r91)]))
        obtain ⟨cq97, kq97, q97a, q97b, q97c⟩ := isOf hZ rfl (gE91)
        obtain ⟨_, _, ⟨T97, L97, k97, n97⟩, -, X97, ⟨Lc97, hQ97, l97, y97, z97⟩, st97⟩ := X91.virtualBack hx (y := (⟨"com/example/unabridged_index/unabridgedindex/server/Answer", "status", "()I"⟩ : MethodName)) (z := (⟨"com/example/unabridged_index/unabridgedindex/server/Answer", "status", "()I"⟩ : MethodName)) hown (mvT hZ w_58) (mvT hZ w_59) (notFace_of_selects (args := #[]) (mvT hZ w_61)) (mvT hZ w_61) (mvT hZ w_60) (by decide) (backOf (W := 0) (rm11 l Z a0 hw [] r91 p0 T91.heap n0 f93 gS91) hZ w_62 w_32 (by decide) (by decide)) q97a q97c (g := (mkF m 145 #[.val (.int p0), .val (.int p1), .val (.int p2), .val (.int ((p2 &&& (255 : Int32)).toUInt32.toUInt16.toUInt32.toInt32)), .val (.int ((((p2.toUInt32 >>> ((8 : Int32) &&& 31).toUInt32).toInt32) &&& (255 : Int32)).toUInt32.toUInt16.toUInt32.toInt32)), .val (.int ((((p2.toUInt32 >>> ((16 : Int32) &&& 31).toUInt32).toInt32) &&& (255 : Int32)).toUInt32.toUInt16.toUInt32.toInt32)), .val (.int (p1 &&& (3 : Int32))), .val (.ref b50), .val .null, .val (.ref r91), .unset, .unset] [(.ref r91)])) rfl (by rw [hml]; rfl) (Steps.refl _) (argsL := []) (rest := []) (lenOf pd0___I rfl) rfl (by show 2 * 0 + _ ≤ _; exact Nat.le_of_eq rfl) (hb hby at_145) (fun _ _ => ⟨rfl, rfl, (by decide : 3 + 0 ≤ _), (by decide : 4 + 0 ≤ _)⟩)
        dsimp only [Pt.U, Pt.locs, Pt.cells, Pt.slots] at X97 l97 y97 z97 st97 hQ97
        subst l97 y97 z97
        obtain ⟨rfl, N97q, e97⟩ := hQ97
        have N97 := Fr.app N91 N97q
        refine bk (fun t k => st97.trans k) ?_
        show F (T97.setTop (mkF m 148 #[.val (.int p0), .val (.int p1), .val (.int p2), .val (.int ((p2 &&& (255 : Int32)).toUInt32.toUInt16.toUInt32.toInt32)), .val (.int ((((p2.toUInt32 >>> ((8 : Int32) &&& 31).toUInt32).toInt32) &&& (255 : Int32)).toUInt32.toUInt16.toUInt32.toInt32)), .val (.int ((((p2.toUInt32 >>> ((16 : Int32) &&& 31).toUInt32).toInt32) &&& (255 : Int32)).toUInt32.toUInt16.toUInt32.toInt32)), .val (.int (p1 &&& (3 : Int32))), .val (.ref b50), .val .null, .val (.ref r91), .unset, .unset] [(.int p0)]))
        refine bk (fun t k => XS.iloadN X97.here hx rfl (hb hby at_148) rfl k) ?_
        show F (T97.setTop (mkF m 149 #[.val (.int p0), .val (.int p1), .val (.int p2), .val (.int ((p2 &&& (255 : Int32)).toUInt32.toUInt16.toUInt32.toInt32)), .val (.int ((((p2.toUInt32 >>> ((8 : Int32) &&& 31).toUInt32).toInt32) &&& (255 : Int32)).toUInt32.toUInt16.toUInt32.toInt32)), .val (.int ((((p2.toUInt32 >>> ((16 : Int32) &&& 31).toUInt32).toInt32) &&& (255 : Int32)).toUInt32.toUInt16.toUInt32.toInt32)), .val (.int (p1 &&& (3 : Int32))), .val (.ref b50), .val .null, .val (.ref r91), .unset, .unset] [(.int p0), (.int p0)]))
        refine bk (fun t k => XS.icmpYes X97.here hx rfl (pc0 := 149) (pc' := 154) rfl (hb hby at_149) rfl (teq (rfl : p0 = p0)).1 (by decide) (by decide) k) ?_
        show F (T97.setTop (mkF m 154 #[.val (.int p0), .val (.int p1), .val (.int p2), .val (.int ((p2 &&& (255 : Int32)).toUInt32.toUInt16.toUInt32.toInt32)), .val (.int ((((p2.toUInt32 >>> ((8 : Int32) &&& 31).toUInt32).toInt32) &&& (255 : Int32)).toUInt32.toUInt16.toUInt32.toInt32)), .val (.int ((((p2.toUInt32 >>> ((16 : Int32) &&& 31).toUInt32).toInt32) &&& (255 : Int32)).toUInt32.toUInt16.toUInt32.toInt32)), .val (.int (p1 &&& (3 : Int32))), .val (.ref b50), .val .null, .val (.ref r91), .unset, .unset] []))
        refine bk (fun t k => XS.aload X97.here hx rfl (hb hby at_154) rfl rfl k) ?_
        show F (T97.setTop (mkF m 156 #[.val (.int p0), .val (.int p1), .val (.int p2), .val (.int ((p2 &&& (255 : Int32)).toUInt32.toUInt16.toUInt32.toInt32)), .val (.int ((((p2.toUInt32 >>> ((8 : Int32) &&& 31).toUInt32).toInt32) &&& (255 : Int32)).toUInt32.toUInt16.toUInt32.toInt32)), .val (.int ((((p2.toUInt32 >>> ((16 : Int32) &&& 31).toUInt32).toInt32) &&& (255 : Int32)).toUInt32.toUInt16.toUInt32.toInt32)), .val (.int (p1 &&& (3 : Int32))), .val (.ref b50), .val .null, .val (.ref r91), .unset, .unset] [(.ref r91)]))
        obtain ⟨cq98, kq98, q98a, q98b, q98c⟩ := isOf hZ e97 (gE91)
        obtain ⟨_, _, ⟨T98, L98, k98, n98⟩, -, X98, ⟨Lc98, hQ98, l98, y98, z98⟩, st98⟩ := X97.virtualBack hx (y := (⟨"com/example/unabridged_index/unabridgedindex/server/Answer", "body", "()Ljava/lang/Object;"⟩ : MethodName)) (z := (⟨"com/example/unabridged_index/unabridgedindex/server/Answer", "body", "()Ljava/lang/Object;"⟩ : MethodName)) hown (mvT hZ w_63) (mvT hZ w_64) (notFace_of_selects (args := #[]) (mvT hZ w_66)) (mvT hZ w_66) (mvT hZ w_65) (by decide) (backOf (W := 0) (rm12 l Z a0 hw [] r91 em91 T91.heap n0 f93 gB91) hZ w_67 w_32 (by decide) (by decide)) q98a q98c (g := (mkF m 156 #[.val (.int p0), .val (.int p1), .val (.int p2), .val (.int ((p2 &&& (255 : Int32)).toUInt32.toUInt16.toUInt32.toInt32)), .val (.int ((((p2.toUInt32 >>> ((8 : Int32) &&& 31).toUInt32).toInt32) &&& (255 : Int32)).toUInt32.toUInt16.toUInt32.toInt32)), .val (.int ((((p2.toUInt32 >>> ((16 : Int32) &&& 31).toUInt32).toInt32) &&& (255 : Int32)).toUInt32.toUInt16.toUInt32.toInt32)), .val (.int (p1 &&& (3 : Int32))), .val (.ref b50), .val .null, .val (.ref r91), .unset, .unset] [(.ref r91)])) rfl (by rw [hml]; rfl) (Steps.refl _) (argsL := []) (rest := []) (lenOf pd0___Ljava_lang_Object_ rfl) rfl (by show 2 * 0 + _ ≤ _; exact Nat.le_of_eq rfl) (hb hby at_156) (fun _ _ => ⟨rfl, e97, (by decide : 3 + 0 ≤ _), (by decide : 4 + 0 ≤ _)⟩)
        dsimp only [Pt.U, Pt.locs, Pt.cells, Pt.slots] at X98 l98 y98 z98 st98 hQ98
        subst l98 y98 z98
        obtain ⟨rfl, N98q, e98⟩ := hQ98
        have N98 := Fr.app N97 N98q
        refine bk (fun t k => st98.trans k) ?_
        show F (T98.setTop (mkF m 159 #[.val (.int p0), .val (.int p1), .val (.int p2), .val (.int ((p2 &&& (255 : Int32)).toUInt32.toUInt16.toUInt32.toInt32)), .val (.int ((((p2.toUInt32 >>> ((8 : Int32) &&& 31).toUInt32).toInt32) &&& (255 : Int32)).toUInt32.toUInt16.toUInt32.toInt32)), .val (.int ((((p2.toUInt32 >>> ((16 : Int32) &&& 31).toUInt32).toInt32) &&& (255 : Int32)).toUInt32.toUInt16.toUInt32.toInt32)), .val (.int (p1 &&& (3 : Int32))), .val (.ref b50), .val .null, .val (.ref r91), .unset, .unset] [(.ref em91)]))
        refine bk (fun t k => XS.astore X98.here hx rfl (hb hby at_159) rfl rfl (l' := #[.val (.int p0), .val (.int p1), .val (.int p2), .val (.int ((p2 &&& (255 : Int32)).toUInt32.toUInt16.toUInt32.toInt32)), .val (.int ((((p2.toUInt32 >>> ((8 : Int32) &&& 31).toUInt32).toInt32) &&& (255 : Int32)).toUInt32.toUInt16.toUInt32.toInt32)), .val (.int ((((p2.toUInt32 >>> ((16 : Int32) &&& 31).toUInt32).toInt32) &&& (255 : Int32)).toUInt32.toUInt16.toUInt32.toInt32)), .val (.int (p1 &&& (3 : Int32))), .val (.ref b50), .val .null, .val (.ref r91), .val (.ref em91), .unset]) rfl k) ?_
        show F (T98.setTop (mkF m 161 #[.val (.int p0), .val (.int p1), .val (.int p2), .val (.int ((p2 &&& (255 : Int32)).toUInt32.toUInt16.toUInt32.toInt32)), .val (.int ((((p2.toUInt32 >>> ((8 : Int32) &&& 31).toUInt32).toInt32) &&& (255 : Int32)).toUInt32.toUInt16.toUInt32.toInt32)), .val (.int ((((p2.toUInt32 >>> ((16 : Int32) &&& 31).toUInt32).toInt32) &&& (255 : Int32)).toUInt32.toUInt16.toUInt32.toInt32)), .val (.int (p1 &&& (3 : Int32))), .val (.ref b50), .val .null, .val (.ref r91), .val (.ref em91), .unset] []))
        refine bk (fun t k => XS.aload X98.here hx rfl (hb hby at_161) rfl rfl k) ?_
        show F (T98.setTop (mkF m 163 #[.val (.int p0), .val (.int p1), .val (.int p2), .val (.int ((p2 &&& (255 : Int32)).toUInt32.toUInt16.toUInt32.toInt32)), .val (.int ((((p2.toUInt32 >>> ((8 : Int32) &&& 31).toUInt32).toInt32) &&& (255 : Int32)).toUInt32.toUInt16.toUInt32.toInt32)), .val (.int ((((p2.toUInt32 >>> ((16 : Int32) &&& 31).toUInt32).toInt32) &&& (255 : Int32)).toUInt32.toUInt16.toUInt32.toInt32)), .val (.int (p1 &&& (3 : Int32))), .val (.ref b50), .val .null, .val (.ref r91), .val (.ref em91), .unset] [(.ref em91)]))
        obtain ⟨T99, X99, e99, st99⟩ := instY X98 hx hZ hown w_68 e98 (Ins.self gM91) (g := (mkF m 163 #[.val (.int p0), .val (.int p1), .val (.int p2), .val (.int ((p2 &&& (255 : Int32)).toUInt32.toUInt16.toUInt32.toInt32)), .val (.int ((((p2.toUInt32 >>> ((8 : Int32) &&& 31).toUInt32).toInt32) &&& (255 : Int32)).toUInt32.toUInt16.toUInt32.toInt32)), .val (.int ((((p2.toUInt32 >>> ((16 : Int32) &&& 31).toUInt32).toInt32) &&& (255 : Int32)).toUInt32.toUInt16.toUInt32.toInt32)), .val (.int (p1 &&& (3 : Int32))), .val (.ref b50), .val .null, .val (.ref r91), .val (.ref em91), .unset] [(.ref em91)])) rfl rfl (hb hby at_163)
        refine bk (fun t k => st99 t k) ?_
        show F (T99.setTop (mkF m 166 #[.val (.int p0), .val (.int p1), .val (.int p2), .val (.int ((p2 &&& (255 : Int32)).toUInt32.toUInt16.toUInt32.toInt32)), .val (.int ((((p2.toUInt32 >>> ((8 : Int32) &&& 31).toUInt32).toInt32) &&& (255 : Int32)).toUInt32.toUInt16.toUInt32.toInt32)), .val (.int ((((p2.toUInt32 >>> ((16 : Int32) &&& 31).toUInt32).toInt32) &&& (255 : Int32)).toUInt32.toUInt16.toUInt32.toInt32)), .val (.int (p1 &&& (3 : Int32))), .val (.ref b50), .val .null, .val (.ref r91), .val (.ref em91), .unset] [(.int (1 : Int32))]))
        refine bk (fun t k => XS.ifYes X99.here hx rfl (pc0 := 166) (pc' := 171) rfl (hb hby at_166) rfl ((if0 _ _).trans (feq (by decide : ¬ ((1 : Int32) = (0 : Int32)))).2) (by decide) (by decide) k) ?_
        show F (T99.setTop (mkF m 171 #[.val (.int p0), .val (.int p1), .val (.int p2), .val (.int ((p2 &&& (255 : Int32)).toUInt32.toUInt16.toUInt32.toInt32)), .val (.int ((((p2.toUInt32 >>> ((8 : Int32) &&& 31).toUInt32).toInt32) &&& (255 : Int32)).toUInt32.toUInt16.toUInt32.toInt32)), .val (.int ((((p2.toUInt32 >>> ((16 : Int32) &&& 31).toUInt32).toInt32) &&& (255 : Int32)).toUInt32.toUInt16.toUInt32.toInt32)), .val (.int (p1 &&& (3 : Int32))), .val (.ref b50), .val .null, .val (.ref r91), .val (.ref em91), .unset] []))
        refine bk (fun t k => XS.aload X99.here hx rfl (hb hby at_171) rfl rfl k) ?_
        show F (T99.setTop (mkF m 173 #[.val (.int p0), .val (.int p1), .val (.int p2), .val (.int ((p2 &&& (255 : Int32)).toUInt32.toUInt16.toUInt32.toInt32)), .val (.int ((((p2.toUInt32 >>> ((8 : Int32) &&& 31).toUInt32).toInt32) &&& (255 : Int32)).toUInt32.toUInt16.toUInt32.toInt32)), .val (.int ((((p2.toUInt32 >>> ((16 : Int32) &&& 31).toUInt32).toInt32) &&& (255 : Int32)).toUInt32.toUInt16.toUInt32.toInt32)), .val (.int (p1 &&& (3 : Int32))), .val (.ref b50), .val .null, .val (.ref r91), .val (.ref em91), .unset] [(.ref em91)]))
        obtain ⟨T100, X100, e100, st100⟩ := castY X99 hx hZ hown w_68 e99 (Ins.self gM91) (g := (mkF m 173 #[.val (.int p0), .val (.int p1), .val (.int p2), .val (.int ((p2 &&& (255 : Int32)).toUInt32.toUInt16.toUInt32.toInt32)), .val (.int ((((p2.toUInt32 >>> ((8 : Int32) &&& 31).toUInt32).toInt32) &&& (255 : Int32)).toUInt32.toUInt16.toUInt32.toInt32)), .val (.int ((((p2.toUInt32 >>> ((16 : Int32) &&& 31).toUInt32).toInt32) &&& (255 : Int32)).toUInt32.toUInt16.toUInt32.toInt32)), .val (.int (p1 &&& (3 : Int32))), .val (.ref b50), .val .null, .val (.ref r91), .val (.ref em91), .unset] [(.ref em91)])) rfl rfl (hb hby at_173)
        refine bk (fun t k => st100 t k) ?_
        show F (T100.setTop (mkF m 176 #[.val (.int p0), .val (.int p1), .val (.int p2), .val (.int ((p2 &&& (255 : Int32)).toUInt32.toUInt16.toUInt32.toInt32)), .val (.int ((((p2.toUInt32 >>> ((8 : Int32) &&& 31).toUInt32).toInt32) &&& (255 : Int32)).toUInt32.toUInt16.toUInt32.toInt32)), .val (.int ((((p2.toUInt32 >>> ((16 : Int32) &&& 31).toUInt32).toInt32) &&& (255 : Int32)).toUInt32.toUInt16.toUInt32.toInt32)), .val (.int (p1 &&& (3 : Int32))), .val (.ref b50), .val .null, .val (.ref r91), .val (.ref em91), .unset] [(.ref em91)]))
        obtain ⟨cq101, kq101, q101a, q101b, q101c⟩ := isOf hZ e100 (gM91)
        obtain ⟨_, _, ⟨T101, L101, k101, n101⟩, -, X101, ⟨Lc101, hQ101, l101, y101, z101⟩, st101⟩ := X100.virtualBack hx (y := (⟨"com/example/unabridged_index/unabridgedindex/server/Answer$ErrorMessage", "error", "()Ljava/lang/String;"⟩ : MethodName)) (z := (⟨"com/example/unabridged_index/unabridgedindex/server/Answer$ErrorMessage", "error", "()Ljava/lang/String;"⟩ : MethodName)) hown (mvT hZ w_70) (mvT hZ w_71) (notFace_of_selects (args := #[]) (mvT hZ w_73)) (mvT hZ w_73) (mvT hZ w_72) (by decide) (backOf (W := 0) (rm13n l Z a0 hw [] em91  T91.heap n0 f93 gR91) hZ w_74 w_38 (by decide) (by decide)) q101a q101c (g := (mkF m 176 #[.val (.int p0), .val (.int p1), .val (.int p2), .val (.int ((p2 &&& (255 : Int32)).toUInt32.toUInt16.toUInt32.toInt32)), .val (.int ((((p2.toUInt32 >>> ((8 : Int32) &&& 31).toUInt32).toInt32) &&& (255 : Int32)).toUInt32.toUInt16.toUInt32.toInt32)), .val (.int ((((p2.toUInt32 >>> ((16 : Int32) &&& 31).toUInt32).toInt32) &&& (255 : Int32)).toUInt32.toUInt16.toUInt32.toInt32)), .val (.int (p1 &&& (3 : Int32))), .val (.ref b50), .val .null, .val (.ref r91), .val (.ref em91), .unset] [(.ref em91)])) rfl (by rw [hml]; rfl) (Steps.refl _) (argsL := []) (rest := []) (lenOf pd0___Ljava_lang_String_ rfl) rfl (by show 2 * 0 + _ ≤ _; exact Nat.le_of_eq rfl) (hb hby at_176) (fun _ _ => ⟨rfl, e100, (by decide : 3 + 0 ≤ _), (by decide : 4 + 0 ≤ _)⟩)
        dsimp only [Pt.U, Pt.locs, Pt.cells, Pt.slots] at X101 l101 y101 z101 st101 hQ101
        subst l101 y101 z101
        obtain ⟨rfl, N101q, e101⟩ := hQ101
        have N101 := Fr.app N98 N101q
        refine bk (fun t k => st101.trans k) ?_
        show F (T101.setTop (mkF m 179 #[.val (.int p0), .val (.int p1), .val (.int p2), .val (.int ((p2 &&& (255 : Int32)).toUInt32.toUInt16.toUInt32.toInt32)), .val (.int ((((p2.toUInt32 >>> ((8 : Int32) &&& 31).toUInt32).toInt32) &&& (255 : Int32)).toUInt32.toUInt16.toUInt32.toInt32)), .val (.int ((((p2.toUInt32 >>> ((16 : Int32) &&& 31).toUInt32).toInt32) &&& (255 : Int32)).toUInt32.toUInt16.toUInt32.toInt32)), .val (.int (p1 &&& (3 : Int32))), .val (.ref b50), .val .null, .val (.ref r91), .val (.ref em91), .unset] [.null]))
        refine bk (fun t k => XS.astore X101.here hx rfl (hb hby at_179) rfl rfl (l' := #[.val (.int p0), .val (.int p1), .val (.int p2), .val (.int ((p2 &&& (255 : Int32)).toUInt32.toUInt16.toUInt32.toInt32)), .val (.int ((((p2.toUInt32 >>> ((8 : Int32) &&& 31).toUInt32).toInt32) &&& (255 : Int32)).toUInt32.toUInt16.toUInt32.toInt32)), .val (.int ((((p2.toUInt32 >>> ((16 : Int32) &&& 31).toUInt32).toInt32) &&& (255 : Int32)).toUInt32.toUInt16.toUInt32.toInt32)), .val (.int (p1 &&& (3 : Int32))), .val (.ref b50), .val .null, .val (.ref r91), .val (.ref em91), .val .null]) rfl k) ?_
        show F (T101.setTop (mkF m 181 #[.val (.int p0), .val (.int p1), .val (.int p2), .val (.int ((p2 &&& (255 : Int32)).toUInt32.toUInt16.toUInt32.toInt32)), .val (.int ((((p2.toUInt32 >>> ((8 : Int32) &&& 31).toUInt32).toInt32) &&& (255 : Int32)).toUInt32.toUInt16.toUInt32.toInt32)), .val (.int ((((p2.toUInt32 >>> ((16 : Int32) &&& 31).toUInt32).toInt32) &&& (255 : Int32)).toUInt32.toUInt16.toUInt32.toInt32)), .val (.int (p1 &&& (3 : Int32))), .val (.ref b50), .val .null, .val (.ref r91), .val (.ref em91), .val .null] []))
        refine bk (fun t k => XS.aload X101.here hx rfl (hb hby at_181) rfl rfl k) ?_
        show F (T101.setTop (mkF m 183 #[.val (.int p0), .val (.int p1), .val (.int p2), .val (.int ((p2 &&& (255 : Int32)).toUInt32.toUInt16.toUInt32.toInt32)), .val (.int ((((p2.toUInt32 >>> ((8 : Int32) &&& 31).toUInt32).toInt32) &&& (255 : Int32)).toUInt32.toUInt16.toUInt32.toInt32)), .val (.int ((((p2.toUInt32 >>> ((16 : Int32) &&& 31).toUInt32).toInt32) &&& (255 : Int32)).toUInt32.toUInt16.toUInt32.toInt32)), .val (.int (p1 &&& (3 : Int32))), .val (.ref b50), .val .null, .val (.ref r91), .val (.ref em91), .val .null] [.null]))
        refine bk (fun t k => XS.ifnonnullNo X101.here hx rfl (hb hby at_183) rfl k) ?_
        show F (T101.setTop (mkF m 186 #[.val (.int p0), .val (.int p1), .val (.int p2), .val (.int ((p2 &&& (255 : Int32)).toUInt32.toUInt16.toUInt32.toInt32)), .val (.int ((((p2.toUInt32 >>> ((8 : Int32) &&& 31).toUInt32).toInt32) &&& (255 : Int32)).toUInt32.toUInt16.toUInt32.toInt32)), .val (.int ((((p2.toUInt32 >>> ((16 : Int32) &&& 31).toUInt32).toInt32) &&& (255 : Int32)).toUInt32.toUInt16.toUInt32.toInt32)), .val (.int (p1 &&& (3 : Int32))), .val (.ref b50), .val .null, .val (.ref r91), .val (.ref em91), .val .null] []))
        refine bk (fun t k => XS.aload X101.here hx rfl (hb hby at_186) rfl rfl k) ?_
        show F (T101.setTop (mkF m 188 #[.val (.int p0), .val (.int p1), .val (.int p2), .val (.int ((p2 &&& (255 : Int32)).toUInt32.toUInt16.toUInt32.toInt32)), .val (.int ((((p2.toUInt32 >>> ((8 : Int32) &&& 31).toUInt32).toInt32) &&& (255 : Int32)).toUInt32.toUInt16.toUInt32.toInt32)), .val (.int ((((p2.toUInt32 >>> ((16 : Int32) &&& 31).toUInt32).toInt32) &&& (255 : Int32)).toUInt32.toUInt16.toUInt32.toInt32)), .val (.int (p1 &&& (3 : Int32))), .val (.ref b50), .val .null, .val (.ref r91), .val (.ref em91), .val .null] [.null]))
        refine bk (fun t k => XS.ifnonnullNo X101.here hx rfl (hb hby at_188) rfl k) ?_
        show F (T101.setTop (mkF m 191 #[.val (.int p0), .val (.int p1), .val (.int p2), .val (.int ((p2 &&& (255 : Int32)).toUInt32.toUInt16.toUInt32.toInt32)), .val (.int ((((p2.toUInt32 >>> ((8 : Int32) &&& 31).toUInt32).toInt32) &&& (255 : Int32)).toUInt32.toUInt16.toUInt32.toInt32)), .val (.int ((((p2.toUInt32 >>> ((16 : Int32) &&& 31).toUInt32).toInt32) &&& (255 : Int32)).toUInt32.toUInt16.toUInt32.toInt32)), .val (.int (p1 &&& (3 : Int32))), .val (.ref b50), .val .null, .val (.ref r91), .val (.ref em91), .val .null] []))
        refine bk (fun t k => XS.iconst X101.here hx rfl (hb hby at_191) k) ?_
        show F (T101.setTop (mkF m 192 #[.val (.int p0), .val (.int p1), .val (.int p2), .val (.int ((p2 &&& (255 : Int32)).toUInt32.toUInt16.toUInt32.toInt32)), .val (.int ((((p2.toUInt32 >>> ((8 : Int32) &&& 31).toUInt32).toInt32) &&& (255 : Int32)).toUInt32.toUInt16.toUInt32.toInt32)), .val (.int ((((p2.toUInt32 >>> ((16 : Int32) &&& 31).toUInt32).toInt32) &&& (255 : Int32)).toUInt32.toUInt16.toUInt32.toInt32)), .val (.int (p1 &&& (3 : Int32))), .val (.ref b50), .val .null, .val (.ref r91), .val (.ref em91), .val .null] [(.int (1 : Int32))]))
        refine bk (fun t k => XS.goto X101.here hx rfl (pc0 := 192) (pc' := 196) rfl (hb hby at_192) (by decide) (by decide) k) ?_
        show F (T101.setTop (mkF m 196 #[.val (.int p0), .val (.int p1), .val (.int p2), .val (.int ((p2 &&& (255 : Int32)).toUInt32.toUInt16.toUInt32.toInt32)), .val (.int ((((p2.toUInt32 >>> ((8 : Int32) &&& 31).toUInt32).toInt32) &&& (255 : Int32)).toUInt32.toUInt16.toUInt32.toInt32)), .val (.int ((((p2.toUInt32 >>> ((16 : Int32) &&& 31).toUInt32).toInt32) &&& (255 : Int32)).toUInt32.toUInt16.toUInt32.toInt32)), .val (.int (p1 &&& (3 : Int32))), .val (.ref b50), .val .null, .val (.ref r91), .val (.ref em91), .val .null] [(.int (1 : Int32))]))
        rw [hF]
        refine own_retZW X101 hx hS0 (by rw [e101]; exact f92) Bd.notSynchronized Bd.returns (hb hby at_196) (by decide) (by decide) ?_
        rw [e101]
        exact ⟨rfl, N101⟩
    · refine bk (fun t k => XS.icmpYes X0.here hx rfl (pc0 := 50) (pc' := 65) rfl (hb hby at_50) rfl (feq hc50_49).2 (by decide) (by decide) k) ?_
      show F (s₁.setTop (mkF m 65 #[.val (.int p0), .val (.int p1), .val (.int p2), .val (.int ((p2 &&& (255 : Int32)).toUInt32.toUInt16.toUInt32.toInt32)), .val (.int ((((p2.toUInt32 >>> ((8 : Int32) &&& 31).toUInt32).toInt32) &&& (255 : Int32)).toUInt32.toUInt16.toUInt32.toInt32)), .val (.int ((((p2.toUInt32 >>> ((16 : Int32) &&& 31).toUInt32).toInt32) &&& (255 : Int32)).toUInt32.toUInt16.toUInt32.toInt32)), .val (.int (p1 &&& (3 : Int32))), .unset, .unset, .unset, .unset, .unset] []))
      refine bk (fun t k => XS.iload X0.here hx rfl (hb hby at_65) rfl k) ?_
      show F (s₁.setTop (mkF m 67 #[.val (.int p0), .val (.int p1), .val (.int p2), .val (.int ((p2 &&& (255 : Int32)).toUInt32.toUInt16.toUInt32.toInt32)), .val (.int ((((p2.toUInt32 >>> ((8 : Int32) &&& 31).toUInt32).toInt32) &&& (255 : Int32)).toUInt32.toUInt16.toUInt32.toInt32)), .val (.int ((((p2.toUInt32 >>> ((16 : Int32) &&& 31).toUInt32).toInt32) &&& (255 : Int32)).toUInt32.toUInt16.toUInt32.toInt32)), .val (.int (p1 &&& (3 : Int32))), .unset, .unset, .unset, .unset, .unset] [(.int (p1 &&& (3 : Int32)))]))
      refine bk (fun t k => XS.iconst X0.here hx rfl (hb hby at_67) k) ?_
      show F (s₁.setTop (mkF m 68 #[.val (.int p0), .val (.int p1), .val (.int p2), .val (.int ((p2 &&& (255 : Int32)).toUInt32.toUInt16.toUInt32.toInt32)), .val (.int ((((p2.toUInt32 >>> ((8 : Int32) &&& 31).toUInt32).toInt32) &&& (255 : Int32)).toUInt32.toUInt16.toUInt32.toInt32)), .val (.int ((((p2.toUInt32 >>> ((16 : Int32) &&& 31).toUInt32).toInt32) &&& (255 : Int32)).toUInt32.toUInt16.toUInt32.toInt32)), .val (.int (p1 &&& (3 : Int32))), .unset, .unset, .unset, .unset, .unset] [(.int (2 : Int32)), (.int (p1 &&& (3 : Int32)))]))
      by_cases hc68_102 : (p1 &&& (3 : Int32)) = (2 : Int32)
      · refine bk (fun t k => XS.icmpNo X0.here hx rfl (hb hby at_68) rfl (teq hc68_102).2 k) ?_
        show F (s₁.setTop (mkF m 71 #[.val (.int p0), .val (.int p1), .val (.int p2), .val (.int ((p2 &&& (255 : Int32)).toUInt32.toUInt16.toUInt32.toInt32)), .val (.int ((((p2.toUInt32 >>> ((8 : Int32) &&& 31).toUInt32).toInt32) &&& (255 : Int32)).toUInt32.toUInt16.toUInt32.toInt32)), .val (.int ((((p2.toUInt32 >>> ((16 : Int32) &&& 31).toUInt32).toInt32) &&& (255 : Int32)).toUInt32.toUInt16.toUInt32.toInt32)), .val (.int (p1 &&& (3 : Int32))), .unset, .unset, .unset, .unset, .unset] []))
        refine bk (fun t k => XS.iconst X0.here hx rfl (hb hby at_71) k) ?_
        show F (s₁.setTop (mkF m 72 #[.val (.int p0), .val (.int p1), .val (.int p2), .val (.int ((p2 &&& (255 : Int32)).toUInt32.toUInt16.toUInt32.toInt32)), .val (.int ((((p2.toUInt32 >>> ((8 : Int32) &&& 31).toUInt32).toInt32) &&& (255 : Int32)).toUInt32.toUInt16.toUInt32.toInt32)), .val (.int ((((p2.toUInt32 >>> ((16 : Int32) &&& 31).toUInt32).toInt32) &&& (255 : Int32)).toUInt32.toUInt16.toUInt32.toInt32)), .val (.int (p1 &&& (3 : Int32))), .unset, .unset, .unset, .unset, .unset] [(.int (2 : Int32))]))
        obtain ⟨T103, h103, k103, X103, e103, E103, A103, st103⟩ := newP (aty := .char) X0 hx hZ w_0 e0 (g := (mkF m 72 #[.val (.int p0), .val (.int p1), .val (.int p2), .val (.int ((p2 &&& (255 : Int32)).toUInt32.toUInt16.toUInt32.toInt32)), .val (.int ((((p2.toUInt32 >>> ((8 : Int32) &&& 31).toUInt32).toInt32) &&& (255 : Int32)).toUInt32.toUInt16.toUInt32.toInt32)), .val (.int ((((p2.toUInt32 >>> ((16 : Int32) &&& 31).toUInt32).toInt32) &&& (255 : Int32)).toUInt32.toUInt16.toUInt32.toInt32)), .val (.int (p1 &&& (3 : Int32))), .unset, .unset, .unset, .unset, .unset] [(.int (2 : Int32))])) rfl (hb hby at_72) rfl (by decide) (cap := 2) (by decide) (by decide) (by decide) (by decide)
        obtain ⟨b103, g103⟩ : ∃ z, z = h0.size := ⟨_, rfl⟩
        rw [← g103] at A103 st103
        have Gb103 : n0 ≤ b103 := Nat.le_trans Z0 (Nat.le_of_eq g103.symm)
        have f104 := Nat.le_trans (Nat.zero_le _) E103.1
        have f105 := Nat.le_trans Z0 E103.1
        have f106 := O0.ext E103
        have f107 := S_cs.ext E103
        have V_b103 : Arv Z h103 b103 k103 .char (2 : Int32) [(.int (0 : Int32)), (.int (0 : Int32))] (.int (0 : Int32)) := (Arv.new A103 (by decide)).pad (pad_rep [] (.int (0 : Int32)) 2)
        refine bk (fun t k => st103 t k) ?_
        show F (T103.setTop (mkF m 74 #[.val (.int p0), .val (.int p1), .val (.int p2), .val (.int ((p2 &&& (255 : Int32)).toUInt32.toUInt16.toUInt32.toInt32)), .val (.int ((((p2.toUInt32 >>> ((8 : Int32) &&& 31).toUInt32).toInt32) &&& (255 : Int32)).toUInt32.toUInt16.toUInt32.toInt32)), .val (.int ((((p2.toUInt32 >>> ((16 : Int32) &&& 31).toUInt32).toInt32) &&& (255 : Int32)).toUInt32.toUInt16.toUInt32.toInt32)), .val (.int (p1 &&& (3 : Int32))), .unset, .unset, .unset, .unset, .unset] [(.ref b103)]))
        refine bk (fun t k => XS.dup X103.here hx rfl (hb hby at_74) rfl rfl k) ?_
        show F (T103.setTop (mkF m 75 #[.val (.int p0), .val (.int p1), .val (.int p2), .val (.int ((p2 &&& (255 : Int32)).toUInt32.toUInt16.toUInt32.toInt32)), .val (.int ((((p2.toUInt32 >>> ((8 : Int32) &&& 31).toUInt32).toInt32) &&& (255 : Int32)).toUInt32.toUInt16.toUInt32.toInt32)), .val (.int ((((p2.toUInt32 >>> ((16 : Int32) &&& 31).toUInt32).toInt32) &&& (255 : Int32)).toUInt32.toUInt16.toUInt32.toInt32)), .val (.int (p1 &&& (3 : Int32))), .unset, .unset, .unset, .unset, .unset] [(.ref b103), (.ref b103)]))
        refine bk (fun t k => XS.iconst X103.here hx rfl (hb hby at_75) k) ?_
        show F (T103.setTop (mkF m 76 #[.val (.int p0), .val (.int p1), .val (.int p2), .val (.int ((p2 &&& (255 : Int32)).toUInt32.toUInt16.toUInt32.toInt32)), .val (.int ((((p2.toUInt32 >>> ((8 : Int32) &&& 31).toUInt32).toInt32) &&& (255 : Int32)).toUInt32.toUInt16.toUInt32.toInt32)), .val (.int ((((p2.toUInt32 >>> ((16 : Int32) &&& 31).toUInt32).toInt32) &&& (255 : Int32)).toUInt32.toUInt16.toUInt32.toInt32)), .val (.int (p1 &&& (3 : Int32))), .unset, .unset, .unset, .unset, .unset] [(.int (0 : Int32)), (.ref b103), (.ref b103)]))
        refine bk (fun t k => XS.iloadN X103.here hx rfl (hb hby at_76) rfl k) ?_
        show F (T103.setTop (mkF m 77 #[.val (.int p0), .val (.int p1), .val (.int p2), .val (.int ((p2 &&& (255 : Int32)).toUInt32.toUInt16.toUInt32.toInt32)), .val (.int ((((p2.toUInt32 >>> ((8 : Int32) &&& 31).toUInt32).toInt32) &&& (255 : Int32)).toUInt32.toUInt16.toUInt32.toInt32)), .val (.int ((((p2.toUInt32 >>> ((16 : Int32) &&& 31).toUInt32).toInt32) &&& (255 : Int32)).toUInt32.toUInt16.toUInt32.toInt32)), .val (.int (p1 &&& (3 : Int32))), .unset, .unset, .unset, .unset, .unset] [(.int ((p2 &&& (255 : Int32)).toUInt32.toUInt16.toUInt32.toInt32)), (.int (0 : Int32)), (.ref b103), (.ref b103)]))
        have vv108 := V_b103
        obtain ⟨cl108, Ar108, q108, S108, M108, H108, G108⟩ := vv108
        have hin108 : ¬ ((0 : Int32) < 0 ∨ cl108.slots.size ≤ ((0 : Int32)).toNatClampNeg) := inb_of S108 ⟨by decide, by decide⟩
        obtain ⟨T108, h108, X108, e108, W108, st108⟩ := stC X103 hx hZ e103 Ar108 (j := (0 : Int32)) hin108 (g := (mkF m 77 #[.val (.int p0), .val (.int p1), .val (.int p2), .val (.int ((p2 &&& (255 : Int32)).toUInt32.toUInt16.toUInt32.toInt32)), .val (.int ((((p2.toUInt32 >>> ((8 : Int32) &&& 31).toUInt32).toInt32) &&& (255 : Int32)).toUInt32.toUInt16.toUInt32.toInt32)), .val (.int ((((p2.toUInt32 >>> ((16 : Int32) &&& 31).toUInt32).toInt32) &&& (255 : Int32)).toUInt32.toUInt16.toUInt32.toInt32)), .val (.int (p1 &&& (3 : Int32))), .unset, .unset, .unset, .unset, .unset] [(.int ((p2 &&& (255 : Int32)).toUInt32.toUInt16.toUInt32.toInt32)), (.int (0 : Int32)), (.ref b103), (.ref b103)])) rfl rfl (hb hby at_77)
        have V_b103_108 : Arv Z h108 b103 k103 .char (2 : Int32) [(.int (nar .char ((p2 &&& (255 : Int32)).toUInt32.toUInt16.toUInt32.toInt32))), (.int (0 : Int32))] (.int (0 : Int32)) := Arv.set Ar108 q108 S108 M108 H108 G108 (fits_nar_char _) W108 0 rfl (Nat.le_of_ble_eq_true rfl)
        have f109 := Nat.le_trans f104 (Keep.of_wr W108).1
        have f110 := Nat.le_trans f105 (Keep.of_wr W108).1
        have f111 := f106.wr W108 Gb103
        have f112 := f107.wr W108
        have N108 := Fr.snoc X108 N0 Gb103
        refine bk (fun t k => st108 t k) ?_
        show F (T108.setTop (mkF m 78 #[.val (.int p0), .val (.int p1), .val (.int p2), .val (.int ((p2 &&& (255 : Int32)).toUInt32.toUInt16.toUInt32.toInt32)), .val (.int ((((p2.toUInt32 >>> ((8 : Int32) &&& 31).toUInt32).toInt32) &&& (255 : Int32)).toUInt32.toUInt16.toUInt32.toInt32)), .val (.int ((((p2.toUInt32 >>> ((16 : Int32) &&& 31).toUInt32).toInt32) &&& (255 : Int32)).toUInt32.toUInt16.toUInt32.toInt32)), .val (.int (p1 &&& (3 : Int32))), .unset, .unset, .unset, .unset, .unset] [(.ref b103)]))
        refine bk (fun t k => XS.dup X108.here hx rfl (hb hby at_78) rfl rfl k) ?_
        show F (T108.setTop (mkF m 79 #[.val (.int p0), .val (.int p1), .val (.int p2), .val (.int ((p2 &&& (255 : Int32)).toUInt32.toUInt16.toUInt32.toInt32)), .val (.int ((((p2.toUInt32 >>> ((8 : Int32) &&& 31).toUInt32).toInt32) &&& (255 : Int32)).toUInt32.toUInt16.toUInt32.toInt32)), .val (.int ((((p2.toUInt32 >>> ((16 : Int32) &&& 31).toUInt32).toInt32) &&& (255 : Int32)).toUInt32.toUInt16.toUInt32.toInt32)), .val (.int (p1 &&& (3 : Int32))), .unset, .unset, .unset, .unset, .unset] [(.ref b103), (.ref b103)]))
        refine bk (fun t k => XS.iconst X108.here hx rfl (hb hby at_79) k) ?_
        show F (T108.setTop (mkF m 80 #[.val (.int p0), .val (.int p1), .val (.int p2), .val (.int ((p2 &&& (255 : Int32)).toUInt32.toUInt16.toUInt32.toInt32)), .val (.int ((((p2.toUInt32 >>> ((8 : Int32) &&& 31).toUInt32).toInt32) &&& (255 : Int32)).toUInt32.toUInt16.toUInt32.toInt32)), .val (.int ((((p2.toUInt32 >>> ((16 : Int32) &&& 31).toUInt32).toInt32) &&& (255 : Int32)).toUInt32.toUInt16.toUInt32.toInt32)), .val (.int (p1 &&& (3 : Int32))), .unset, .unset, .unset, .unset, .unset] [(.int (1 : Int32)), (.ref b103), (.ref b103)]))
        refine bk (fun t k => XS.iload X108.here hx rfl (hb hby at_80) rfl k) ?_
        show F (T108.setTop (mkF m 82 #[.val (.int p0), .val (.int p1), .val (.int p2), .val (.int ((p2 &&& (255 : Int32)).toUInt32.toUInt16.toUInt32.toInt32)), .val (.int ((((p2.toUInt32 >>> ((8 : Int32) &&& 31).toUInt32).toInt32) &&& (255 : Int32)).toUInt32.toUInt16.toUInt32.toInt32)), .val (.int ((((p2.toUInt32 >>> ((16 : Int32) &&& 31).toUInt32).toInt32) &&& (255 : Int32)).toUInt32.toUInt16.toUInt32.toInt32)), .val (.int (p1 &&& (3 : Int32))), .unset, .unset, .unset, .unset, .unset] [(.int ((((p2.toUInt32 >>> ((8 : Int32) &&& 31).toUInt32).toInt32) &&& (255 : Int32)).toUInt32.toUInt16.toUInt32.toInt32)), (.int (1 : Int32)), (.ref b103), (.ref b103)]))
        have vv113 := V_b103_108
        obtain ⟨cl113, Ar113, q113, S113, M113, H113, G113⟩ := vv113
        have hin113 : ¬ ((1 : Int32) < 0 ∨ cl113.slots.size ≤ ((1 : Int32)).toNatClampNeg) := inb_of S113 ⟨by decide, by decide⟩
        obtain ⟨T113, h113, X113, e113, W113, st113⟩ := stC X108 hx hZ e108 Ar113 (j := (1 : Int32)) hin113 (g := (mkF m 82 #[.val (.int p0), .val (.int p1), .val (.int p2), .val (.int ((p2 &&& (255 : Int32)).toUInt32.toUInt16.toUInt32.toInt32)), .val (.int ((((p2.toUInt32 >>> ((8 : Int32) &&& 31).toUInt32).toInt32) &&& (255 : Int32)).toUInt32.toUInt16.toUInt32.toInt32)), .val (.int ((((p2.toUInt32 >>> ((16 : Int32) &&& 31).toUInt32).toInt32) &&& (255 : Int32)).toUInt32.toUInt16.toUInt32.toInt32)), .val (.int (p1 &&& (3 : Int32))), .unset, .unset, .unset, .unset, .unset] [(.int ((((p2.toUInt32 >>> ((8 : Int32) &&& 31).toUInt32).toInt32) &&& (255 : Int32)).toUInt32.toUInt16.toUInt32.toInt32)), (.int (1 : Int32)), (.ref b103), (.ref b103)])) rfl rfl (hb hby at_82)
        have V_b103_113 : Arv Z h113 b103 k103 .char (2 : Int32) [(.int (nar .char ((p2 &&& (255 : Int32)).toUInt32.toUInt16.toUInt32.toInt32))), (.int (nar .char ((((p2.toUInt32 >>> ((8 : Int32) &&& 31).toUInt32).toInt32) &&& (255 : Int32)).toUInt32.toUInt16.toUInt32.toInt32)))] (.int (0 : Int32)) := Arv.set Ar113 q113 S113 M113 H113 G113 (fits_nar_char _) W113 1 rfl (Nat.le_of_ble_eq_true rfl)
        have f114 := Nat.le_trans f109 (Keep.of_wr W113).1
        have f115 := Nat.le_trans f110 (Keep.of_wr W113).1
        have f116 := f111.wr W113 Gb103
        have f117 := f112.wr W113
        have N113 := Fr.snoc X113 N108 Gb103
        refine bk (fun t k => st113 t k) ?_
        show F (T113.setTop (mkF m 83 #[.val (.int p0), .val (.int p1), .val (.int p2), .val (.int ((p2 &&& (255 : Int32)).toUInt32.toUInt16.toUInt32.toInt32)), .val (.int ((((p2.toUInt32 >>> ((8 : Int32) &&& 31).toUInt32).toInt32) &&& (255 : Int32)).toUInt32.toUInt16.toUInt32.toInt32)), .val (.int ((((p2.toUInt32 >>> ((16 : Int32) &&& 31).toUInt32).toInt32) &&& (255 : Int32)).toUInt32.toUInt16.toUInt32.toInt32)), .val (.int (p1 &&& (3 : Int32))), .unset, .unset, .unset, .unset, .unset] [(.ref b103)]))
        refine bk (fun t k => XS.astore X113.here hx rfl (hb hby at_83) rfl rfl (l' := #[.val (.int p0), .val (.int p1), .val (.int p2), .val (.int ((p2 &&& (255 : Int32)).toUInt32.toUInt16.toUInt32.toInt32)), .val (.int ((((p2.toUInt32 >>> ((8 : Int32) &&& 31).toUInt32).toInt32) &&& (255 : Int32)).toUInt32.toUInt16.toUInt32.toInt32)), .val (.int ((((p2.toUInt32 >>> ((16 : Int32) &&& 31).toUInt32).toInt32) &&& (255 : Int32)).toUInt32.toUInt16.toUInt32.toInt32)), .val (.int (p1 &&& (3 : Int32))), .val (.ref b103), .unset, .unset, .unset, .unset]) rfl k) ?_
        show F (T113.setTop (mkF m 85 #[.val (.int p0), .val (.int p1), .val (.int p2), .val (.int ((p2 &&& (255 : Int32)).toUInt32.toUInt16.toUInt32.toInt32)), .val (.int ((((p2.toUInt32 >>> ((8 : Int32) &&& 31).toUInt32).toInt32) &&& (255 : Int32)).toUInt32.toUInt16.toUInt32.toInt32)), .val (.int ((((p2.toUInt32 >>> ((16 : Int32) &&& 31).toUInt32).toInt32) &&& (255 : Int32)).toUInt32.toUInt16.toUInt32.toInt32)), .val (.int (p1 &&& (3 : Int32))), .val (.ref b103), .unset, .unset, .unset, .unset] []))
        refine bk (fun t k => XS.goto X113.here hx rfl (pc0 := 85) (pc' := 107) rfl (hb hby at_85) (by decide) (by decide) k) ?_
        show F (T113.setTop (mkF m 107 #[.val (.int p0), .val (.int p1), .val (.int p2), .val (.int ((p2 &&& (255 : Int32)).toUInt32.toUInt16.toUInt32.toInt32)), .val (.int ((((p2.toUInt32 >>> ((8 : Int32) &&& 31).toUInt32).toInt32) &&& (255 : Int32)).toUInt32.toUInt16.toUInt32.toInt32)), .val (.int ((((p2.toUInt32 >>> ((16 : Int32) &&& 31).toUInt32).toInt32) &&& (255 : Int32)).toUInt32.toUInt16.toUInt32.toInt32)), .val (.int (p1 &&& (3 : Int32))), .val (.ref b103), .unset, .unset, .unset, .unset] []))
        refine bk (fun t k => XS.iloadN X113.here hx rfl (hb hby at_107) rfl k) ?_
        show F (T113.setTop (mkF m 108 #[.val (.int p0), .val (.int p1), .val (.int p2), .val (.int ((p2 &&& (255 : Int32)).toUInt32.toUInt16.toUInt32.toInt32)), .val (.int ((((p2.toUInt32 >>> ((8 : Int32) &&& 31).toUInt32).toInt32) &&& (255 : Int32)).toUInt32.toUInt16.toUInt32.toInt32)), .val (.int ((((p2.toUInt32 >>> ((16 : Int32) &&& 31).toUInt32).toInt32) &&& (255 : Int32)).toUInt32.toUInt16.toUInt32.toInt32)), .val (.int (p1 &&& (3 : Int32))), .val (.ref b103), .unset, .unset, .unset, .unset] [(.int p1)]))
        refine bk (fun t k => XS.iconst X113.here hx rfl (hb hby at_108) k) ?_
        show F (T113.setTop (mkF m 109 #[.val (.int p0), .val (.int p1), .val (.int p2), .val (.int ((p2 &&& (255 : Int32)).toUInt32.toUInt16.toUInt32.toInt32)), .val (.int ((((p2.toUInt32 >>> ((8 : Int32) &&& 31).toUInt32).toInt32) &&& (255 : Int32)).toUInt32.toUInt16.toUInt32.toInt32)), .val (.int ((((p2.toUInt32 >>> ((16 : Int32) &&& 31).toUInt32).toInt32) &&& (255 : Int32)).toUInt32.toUInt16.toUInt32.toInt32)), .val (.int (p1 &&& (3 : Int32))), .val (.ref b103), .unset, .unset, .unset, .unset] [(.int (4 : Int32)), (.int p1)]))
        refine bk (fun t k => XS.iand X113.here hx rfl (hb hby at_109) rfl k) ?_
        show F (T113.setTop (mkF m 110 #[.val (.int p0), .val (.int p1), .val (.int p2), .val (.int ((p2 &&& (255 : Int32)).toUInt32.toUInt16.toUInt32.toInt32)), .val (.int ((((p2.toUInt32 >>> ((8 : Int32) &&& 31).toUInt32).toInt32) &&& (255 : Int32)).toUInt32.toUInt16.toUInt32.toInt32)), .val (.int ((((p2.toUInt32 >>> ((16 : Int32) &&& 31).toUInt32).toInt32) &&& (255 : Int32)).toUInt32.toUInt16.toUInt32.toInt32)), .val (.int (p1 &&& (3 : Int32))), .val (.ref b103), .unset, .unset, .unset, .unset] [(.int (p1 &&& (4 : Int32)))]))
        by_cases hc110_118 : (p1 &&& (4 : Int32)) = (0 : Int32)
        · refine bk (fun t k => XS.ifYes X113.here hx rfl (pc0 := 110) (pc' := 117) rfl (hb hby at_110) rfl ((if0 _ _).trans (teq hc110_118).1) (by decide) (by decide) k) ?_
          show F (T113.setTop (mkF m 117 #[.val (.int p0), .val (.int p1), .val (.int p2), .val (.int ((p2 &&& (255 : Int32)).toUInt32.toUInt16.toUInt32.toInt32)), .val (.int ((((p2.toUInt32 >>> ((8 : Int32) &&& 31).toUInt32).toInt32) &&& (255 : Int32)).toUInt32.toUInt16.toUInt32.toInt32)), .val (.int ((((p2.toUInt32 >>> ((16 : Int32) &&& 31).toUInt32).toInt32) &&& (255 : Int32)).toUInt32.toUInt16.toUInt32.toInt32)), .val (.int (p1 &&& (3 : Int32))), .val (.ref b103), .unset, .unset, .unset, .unset] []))
          obtain ⟨T119, h119, X119, e119, E119, A119, D119, -, st119⟩ := newO X113 hx hZ hown w_1 w_2 w_3 e113 (g := (mkF m 117 #[.val (.int p0), .val (.int p1), .val (.int p2), .val (.int ((p2 &&& (255 : Int32)).toUInt32.toUInt16.toUInt32.toInt32)), .val (.int ((((p2.toUInt32 >>> ((8 : Int32) &&& 31).toUInt32).toInt32) &&& (255 : Int32)).toUInt32.toUInt16.toUInt32.toInt32)), .val (.int ((((p2.toUInt32 >>> ((16 : Int32) &&& 31).toUInt32).toInt32) &&& (255 : Int32)).toUInt32.toUInt16.toUInt32.toInt32)), .val (.int (p1 &&& (3 : Int32))), .val (.ref b103), .unset, .unset, .unset, .unset] [])) rfl (hb hby at_117) (by decide) (by decide)
          obtain ⟨b119, g119⟩ : ∃ z, z = h113.size := ⟨_, rfl⟩
          rw [← g119] at A119 D119 st119
          have Gb119 : n0 ≤ b119 := Nat.le_trans f115 (Nat.le_of_eq g119.symm)
          have ne_b103_b119 : b103 ≠ b119 := Nat.ne_of_lt (Nat.lt_of_lt_of_le V_b103_113.lt (Nat.le_of_eq g119.symm))
          have f120 := Nat.le_trans f114 E119.1
          have f121 := Nat.le_trans f115 E119.1
          have f122 := f116.ext E119
          have f123 := f117.ext E119
          have f124 := V_b103_113.ext E119
          have F_coder_b119 : Fld Z h119 b119 "java/lang/String" "coder" "B" (.int (0 : Int32)) := D119 (Or.inr w_27) (ty := .byte) (by decide)
          have F_value_b119 : Fld Z h119 b119 "java/lang/String" "value" "[B" .null := D119 (Or.inr w_29) (ty := (.array .byte)) (by decide)
          refine bk (fun t k => st119 t k) ?_
          show F (T119.setTop (mkF m 120 #[.val (.int p0), .val (.int p1), .val (.int p2), .val (.int ((p2 &&& (255 : Int32)).toUInt32.toUInt16.toUInt32.toInt32)), .val (.int ((((p2.toUInt32 >>> ((8 : Int32) &&& 31).toUInt32).toInt32) &&& (255 : Int32)).toUInt32.toUInt16.toUInt32.toInt32)), .val (.int ((((p2.toUInt32 >>> ((16 : Int32) &&& 31).toUInt32).toInt32) &&& (255 : Int32)).toUInt32.toUInt16.toUInt32.toInt32)), .val (.int (p1 &&& (3 : Int32))), .val (.ref b103), .unset, .unset, .unset, .unset] [(.ref b119)]))
          refine bk (fun t k => XS.dup X119.here hx rfl (hb hby at_120) rfl rfl k) ?_
          show F (T119.setTop (mkF m 121 #[.val (.int p0), .val (.int p1), .val (.int p2), .val (.int ((p2 &&& (255 : Int32)).toUInt32.toUInt16.toUInt32.toInt32)), .val (.int ((((p2.toUInt32 >>> ((8 : Int32) &&& 31).toUInt32).toInt32) &&& (255 : Int32)).toUInt32.toUInt16.toUInt32.toInt32)), .val (.int ((((p2.toUInt32 >>> ((16 : Int32) &&& 31).toUInt32).toInt32) &&& (255 : Int32)).toUInt32.toUInt16.toUInt32.toInt32)), .val (.int (p1 &&& (3 : Int32))), .val (.ref b103), .unset, .unset, .unset, .unset] [(.ref b119), (.ref b119)]))
          refine bk (fun t k => XS.aload X119.here hx rfl (hb hby at_121) rfl rfl k) ?_
          show F (T119.setTop (mkF m 123 #[.val (.int p0), .val (.int p1), .val (.int p2), .val (.int ((p2 &&& (255 : Int32)).toUInt32.toUInt16.toUInt32.toInt32)), .val (.int ((((p2.toUInt32 >>> ((8 : Int32) &&& 31).toUInt32).toInt32) &&& (255 : Int32)).toUInt32.toUInt16.toUInt32.toInt32)), .val (.int ((((p2.toUInt32 >>> ((16 : Int32) &&& 31).toUInt32).toInt32) &&& (255 : Int32)).toUInt32.toUInt16.toUInt32.toInt32)), .val (.int (p1 &&& (3 : Int32))), .val (.ref b103), .unset, .unset, .unset, .unset] [(.ref b103), (.ref b119), (.ref b119)]))
          obtain ⟨_, _, ⟨T125, L125, k125, n125⟩, -, X125, ⟨Lc125, hQ125, l125, y125, z125⟩, st125⟩ := X119.specialBack hx (y := (⟨"java/lang/String", "<init>", "([C)V"⟩ : MethodName)) rfl hown (mvT hZ w_4) (mvT hZ w_5) (mvT hZ w_6) (by decide) (backOf (W := 1) (rm1_2 l Z a0 hw [] b119 b103 k103 cs (nar .char ((p2 &&& (255 : Int32)).toUInt32.toUInt16.toUInt32.toInt32)) (nar .char ((((p2.toUInt32 >>> ((8 : Int32) &&& 31).toUInt32).toInt32) &&& (255 : Int32)).toUInt32.toUInt16.toUInt32.toInt32)) h119 n0 f121 A119 F_value_b119 F_coder_b119 Gb119 f124 (Ne.symm ne_b103_b119) f123 hcs (own_ch _) (own_ch _)) hZ w_6 w_3 (by decide) (by decide)) (g := (mkF m 123 #[.val (.int p0), .val (.int p1), .val (.int p2), .val (.int ((p2 &&& (255 : Int32)).toUInt32.toUInt16.toUInt32.toInt32)), .val (.int ((((p2.toUInt32 >>> ((8 : Int32) &&& 31).toUInt32).toInt32) &&& (255 : Int32)).toUInt32.toUInt16.toUInt32.toInt32)), .val (.int ((((p2.toUInt32 >>> ((16 : Int32) &&& 31).toUInt32).toInt32) &&& (255 : Int32)).toUInt32.toUInt16.toUInt32.toInt32)), .val (.int (p1 &&& (3 : Int32))), .val (.ref b103), .unset, .unset, .unset, .unset] [(.ref b103), (.ref b119), (.ref b119)])) rfl (by rw [hml]; rfl) (Steps.refl _) (a := b119) (argsL := [(.ref b103)]) (rest := [(.ref b119)]) (lenOf pd0___C_V rfl) rfl (by show 2 * 0 + _ ≤ _; exact Nat.le_of_eq rfl) (hb hby at_123) (fun _ _ => ⟨rfl, e119, (by decide : 2 + 1 ≤ _), (by decide : 6 + 2 ≤ _)⟩)
          dsimp only [Pt.U, Pt.locs, Pt.cells, Pt.slots] at X125 l125 y125 z125 st125 hQ125
          subst l125 y125 z125
          obtain ⟨rfl, N125q, K125, gE125, gC125, r125, kd125, gF125, gV125⟩ := hQ125
          have N125 := Fr.app N113 N125q
          have f126 := Nat.le_trans f120 K125.1
          have f127 := Nat.le_trans f121 K125.1
          have f128 := f122.keep K125 (allS Gb119 all0)
          have f129 := own_sta1 f123 K125 A119
          have f130 := f124.keep K125 (ninS ne_b103_b119 nin0)
          have f131 := A119.keep K125
          refine bk (fun t k => st125.trans k) ?_
          show F (T125.setTop (mkF m 126 #[.val (.int p0), .val (.int p1), .val (.int p2), .val (.int ((p2 &&& (255 : Int32)).toUInt32.toUInt16.toUInt32.toInt32)), .val (.int ((((p2.toUInt32 >>> ((8 : Int32) &&& 31).toUInt32).toInt32) &&& (255 : Int32)).toUInt32.toUInt16.toUInt32.toInt32)), .val (.int ((((p2.toUInt32 >>> ((16 : Int32) &&& 31).toUInt32).toInt32) &&& (255 : Int32)).toUInt32.toUInt16.toUInt32.toInt32)), .val (.int (p1 &&& (3 : Int32))), .val (.ref b103), .unset, .unset, .unset, .unset] [(.ref b119)]))
          refine bk (fun t k => XS.astore X125.here hx rfl (hb hby at_126) rfl rfl (l' := #[.val (.int p0), .val (.int p1), .val (.int p2), .val (.int ((p2 &&& (255 : Int32)).toUInt32.toUInt16.toUInt32.toInt32)), .val (.int ((((p2.toUInt32 >>> ((8 : Int32) &&& 31).toUInt32).toInt32) &&& (255 : Int32)).toUInt32.toUInt16.toUInt32.toInt32)), .val (.int ((((p2.toUInt32 >>> ((16 : Int32) &&& 31).toUInt32).toInt32) &&& (255 : Int32)).toUInt32.toUInt16.toUInt32.toInt32)), .val (.int (p1 &&& (3 : Int32))), .val (.ref b103), .val (.ref b119), .unset, .unset, .unset]) rfl k) ?_
          show F (T125.setTop (mkF m 128 #[.val (.int p0), .val (.int p1), .val (.int p2), .val (.int ((p2 &&& (255 : Int32)).toUInt32.toUInt16.toUInt32.toInt32)), .val (.int ((((p2.toUInt32 >>> ((8 : Int32) &&& 31).toUInt32).toInt32) &&& (255 : Int32)).toUInt32.toUInt16.toUInt32.toInt32)), .val (.int ((((p2.toUInt32 >>> ((16 : Int32) &&& 31).toUInt32).toInt32) &&& (255 : Int32)).toUInt32.toUInt16.toUInt32.toInt32)), .val (.int (p1 &&& (3 : Int32))), .val (.ref b103), .val (.ref b119), .unset, .unset, .unset] []))
          refine bk (fun t k => XS.iloadN X125.here hx rfl (hb hby at_128) rfl k) ?_
          show F (T125.setTop (mkF m 129 #[.val (.int p0), .val (.int p1), .val (.int p2), .val (.int ((p2 &&& (255 : Int32)).toUInt32.toUInt16.toUInt32.toInt32)), .val (.int ((((p2.toUInt32 >>> ((8 : Int32) &&& 31).toUInt32).toInt32) &&& (255 : Int32)).toUInt32.toUInt16.toUInt32.toInt32)), .val (.int ((((p2.toUInt32 >>> ((16 : Int32) &&& 31).toUInt32).toInt32) &&& (255 : Int32)).toUInt32.toUInt16.toUInt32.toInt32)), .val (.int (p1 &&& (3 : Int32))), .val (.ref b103), .val (.ref b119), .unset, .unset, .unset] [(.int p0)]))
          refine bk (fun t k => XS.aload X125.here hx rfl (hb hby at_129) rfl rfl k) ?_
          show F (T125.setTop (mkF m 131 #[.val (.int p0), .val (.int p1), .val (.int p2), .val (.int ((p2 &&& (255 : Int32)).toUInt32.toUInt16.toUInt32.toInt32)), .val (.int ((((p2.toUInt32 >>> ((8 : Int32) &&& 31).toUInt32).toInt32) &&& (255 : Int32)).toUInt32.toUInt16.toUInt32.toInt32)), .val (.int ((((p2.toUInt32 >>> ((16 : Int32) &&& 31).toUInt32).toInt32) &&& (255 : Int32)).toUInt32.toUInt16.toUInt32.toInt32)), .val (.int (p1 &&& (3 : Int32))), .val (.ref b103), .val (.ref b119), .unset, .unset, .unset] [(.ref b119), (.int p0)]))
          obtain ⟨_, _, ⟨T132, L132, k132, n132⟩, -, X132, ⟨Lc132, hQ132, l132, y132, z132⟩, st132⟩ := Jvm.LawKit.callS X125 hx (y := (⟨"com/example/unabridged_index/unabridgedindex/server/Answer", "error", "(ILjava/lang/String;)Lcom/example/unabridged_index/unabridgedindex/server/Answer;"⟩ : MethodName)) hown (mvT hZ w_30) (mvT hZ w_31) (mvT hZ w_32) (mvT hZ w_33) (by decide) (backOf (W := 0) (rm7s l Z a0 hw [] p0 b119 T125.heap n0 f127) hZ w_33 w_32 (by decide) (by decide)) (g := (mkF m 131 #[.val (.int p0), .val (.int p1), .val (.int p2), .val (.int ((p2 &&& (255 : Int32)).toUInt32.toUInt16.toUInt32.toInt32)), .val (.int ((((p2.toUInt32 >>> ((8 : Int32) &&& 31).toUInt32).toInt32) &&& (255 : Int32)).toUInt32.toUInt16.toUInt32.toInt32)), .val (.int ((((p2.toUInt32 >>> ((16 : Int32) &&& 31).toUInt32).toInt32) &&& (255 : Int32)).toUInt32.toUInt16.toUInt32.toInt32)), .val (.int (p1 &&& (3 : Int32))), .val (.ref b103), .val (.ref b119), .unset, .unset, .unset] [(.ref b119), (.int p0)])) rfl (by rw [hml]; rfl) (argsL := [(.int p0), (.ref b119)]) (rest := []) (lenOf pd0__ILjava_lang_String__Lcom_example_unabridged_index_unabridgedindex_server_Answer_ rfl) rfl (by show 2 * 0 + _ ≤ _; exact Nat.le_of_eq rfl) (hb hby at_131) (fun _ _ => ⟨rfl, rfl, (by decide : 3 + 2 ≤ _), (by decide : 8 + 3 ≤ _)⟩)
          dsimp only [Pt.U, Pt.locs, Pt.cells, Pt.slots] at X132 l132 y132 z132 st132 hQ132
          subst l132 y132 z132
          obtain ⟨r132, em132, rfl, N132q, K132, gE132, gS132, gB132, gM132, gR132⟩ := hQ132
          have N132 := Fr.app N125 N132q
          have f133 := Nat.le_trans f126 K132.1
          have f134 := Nat.le_trans f127 K132.1
          have f135 := f128.keep K132 all0
          have f136 := own_sta0 f129 K132
          have f137 := f130.keep K132 nin0
          have f138 := gE125.keep K132
          have f139 := gC125.keep K132 nin0
          have f140 := gF125.keep K132 nin0
          have f141 := gV125.keep K132 nin0
          refine bk (fun t k => st132 t k) ?_
          show F (T132.setTop (mkF m 134 #[.val (.int p0), .val (.int p1), .val (.int p2), .val (.int ((p2 &&& (255 : Int32)).toUInt32.toUInt16.toUInt32.toInt32)), .val (.int ((((p2.toUInt32 >>> ((8 : Int32) &&& 31).toUInt32).toInt32) &&& (255 : Int32)).toUInt32.toUInt16.toUInt32.toInt32)), .val (.int ((((p2.toUInt32 >>> ((16 : Int32) &&& 31).toUInt32).toInt32) &&& (255 : Int32)).toUInt32.toUInt16.toUInt32.toInt32)), .val (.int (p1 &&& (3 : Int32))), .val (.ref b103), .val (.ref b119), .unset, .unset, .unset] [(.ref r132)]))
          refine bk (fun t k => XS.astore X132.here hx rfl (hb hby at_134) rfl rfl (l' := #[.val (.int p0), .val (.int p1), .val (.int p2), .val (.int ((p2 &&& (255 : Int32)).toUInt32.toUInt16.toUInt32.toInt32)), .val (.int ((((p2.toUInt32 >>> ((8 : Int32) &&& 31).toUInt32).toInt32) &&& (255 : Int32)).toUInt32.toUInt16.toUInt32.toInt32)), .val (.int ((((p2.toUInt32 >>> ((16 : Int32) &&& 31).toUInt32).toInt32) &&& (255 : Int32)).toUInt32.toUInt16.toUInt32.toInt32)), .val (.int (p1 &&& (3 : Int32))), .val (.ref b103), .val (.ref b119), .val (.ref r132), .unset, .unset]) rfl k) ?_
          show F (T132.setTop (mkF m 136 #[.val (.int p0), .val (.int p1), .val (.int p2), .val (.int ((p2 &&& (255 : Int32)).toUInt32.toUInt16.toUInt32.toInt32)), .val (.int ((((p2.toUInt32 >>> ((8 : Int32) &&& 31).toUInt32).toInt32) &&& (255 : Int32)).toUInt32.toUInt16.toUInt32.toInt32)), .val (.int ((((p2.toUInt32 >>> ((16 : Int32) &&& 31).toUInt32).toInt32) &&& (255 : Int32)).toUInt32.toUInt16.toUInt32.toInt32)), .val (.int (p1 &&& (3 : Int32))), .val (.ref b103), .val (.ref b119), .val (.ref r132), .unset, .unset] []))
          refine bk (fun t k => XS.aload X132.here hx rfl (hb hby at_136) rfl rfl k) ?_
          show F (T132.setTop (mkF m 138 #[.val (.int p0), .val (.int p1), .val (.int p2), .val (.int ((p2 &&& (255 : Int32)).toUInt32.toUInt16.toUInt32.toInt32)), .val (.int ((((p2.toUInt32 >>> ((8 : Int32) &&& 31).toUInt32).toInt32) &&& (255 : Int32)).toUInt32.toUInt16.toUInt32.toInt32)), .val (.int ((((p2.toUInt32 >>> ((16 : Int32) &&& 31).toUInt32).toInt32) &&& (255 : Int32)).toUInt32.toUInt16.toUInt32.toInt32)), .val (.int (p1 &&& (3 : Int32))), .val (.ref b103), .val (.ref b119), .val (.ref r132), .unset, .unset] [(.ref r132)]))
          refine bk (fun t k => XS.ifnonnullYes X132.here hx rfl (pc0 := 138) (pc' := 143) rfl (hb hby at_138) rfl (by decide) (by decide) k) ?_
          show F (T132.setTop (mkF m 143 #[.val (.int p0), .val (.int p1), .val (.int p2), .val (.int ((p2 &&& (255 : Int32)).toUInt32.toUInt16.toUInt32.toInt32)), .val (.int ((((p2.toUInt32 >>> ((8 : Int32) &&& 31).toUInt32).toInt32) &&& (255 : Int32)).toUInt32.toUInt16.toUInt32.toInt32)), .val (.int ((((p2.toUInt32 >>> ((16 : Int32) &&& 31).toUInt32).toInt32) &&& (255 : Int32)).toUInt32.toUInt16.toUInt32.toInt32)), .val (.int (p1 &&& (3 : Int32))), .val (.ref b103), .val (.ref b119), .val (.ref r132), .unset, .unset] []))
          refine bk (fun t k => XS.aload X132.here hx rfl (hb hby at_143) rfl rfl k) ?_
          show F (T132.setTop (mkF m 145 #[.val (.int p0), .val (.int p1), .val (.int p2), .val (.int ((p2 &&& (255 : Int32)).toUInt32.toUInt16.toUInt32.toInt32)), .val (.int ((((p2.toUInt32 >>> ((8 : Int32) &&& 31).toUInt32).toInt32) &&& (255 : Int32)).toUInt32.toUInt16.toUInt32.toInt32)), .val (.int ((((p2.toUInt32 >>> ((16 : Int32) &&& 31).toUInt32).toInt32) &&& (255 : Int32)).toUInt32.toUInt16.toUInt32.toInt32)), .val (.int (p1 &&& (3 : Int32))), .val (.ref b103), .val (.ref b119), .val (.ref r132), .unset, .unset] [(.ref r132)]))
          obtain ⟨cq142, kq142, q142a, q142b, q142c⟩ := isOf hZ rfl (gE132)
          obtain ⟨_, _, ⟨T142, L142, k142, n142⟩, -, X142, ⟨Lc142, hQ142, l142, y142, z142⟩, st142⟩ := X132.virtualBack hx (y := (⟨"com/example/unabridged_index/unabridgedindex/server/Answer", "status", "()I"⟩ : MethodName)) (z := (⟨"com/example/unabridged_index/unabridgedindex/server/Answer", "status", "()I"⟩ : MethodName)) hown (mvT hZ w_58) (mvT hZ w_59) (notFace_of_selects (args := #[]) (mvT hZ w_61)) (mvT hZ w_61) (mvT hZ w_60) (by decide) (backOf (W := 0) (rm11 l Z a0 hw [] r132 p0 T132.heap n0 f134 gS132) hZ w_62 w_32 (by decide) (by decide)) q142a q142c (g := (mkF m 145 #[.val (.int p0), .val (.int p1), .val (.int p2), .val (.int ((p2 &&& (255 : Int32)).toUInt32.toUInt16.toUInt32.toInt32)), .val (.int ((((p2.toUInt32 >>> ((8 : Int32) &&& 31).toUInt32).toInt32) &&& (255 : Int32)).toUInt32.toUInt16.toUInt32.toInt32)), .val (.int ((((p2.toUInt32 >>> ((16 : Int32) &&& 31).toUInt32).toInt32) &&& (255 : Int32)).toUInt32.toUInt16.toUInt32.toInt32)), .val (.int (p1 &&& (3 : Int32))), .val (.ref b103), .val (.ref b119), .val (.ref r132), .unset, .unset] [(.ref r132)])) rfl (by rw [hml]; rfl) (Steps.refl _) (argsL := []) (rest := []) (lenOf pd0___I rfl) rfl (by show 2 * 0 + _ ≤ _; exact Nat.le_of_eq rfl) (hb hby at_145) (fun _ _ => ⟨rfl, rfl, (by decide : 5 + 0 ≤ _), (by decide : 11 + 0 ≤ _)⟩)
          dsimp only [Pt.U, Pt.locs, Pt.cells, Pt.slots] at X142 l142 y142 z142 st142 hQ142
          subst l142 y142 z142
          obtain ⟨rfl, N142q, e142⟩ := hQ142
          have N142 := Fr.app N132 N142q
          refine bk (fun t k => st142.trans k) ?_
          show F (T142.setTop (mkF m 148 #[.val (.int p0), .val (.int p1), .val (.int p2), .val (.int ((p2 &&& (255 : Int32)).toUInt32.toUInt16.toUInt32.toInt32)), .val (.int ((((p2.toUInt32 >>> ((8 : Int32) &&& 31).toUInt32).toInt32) &&& (255 : Int32)).toUInt32.toUInt16.toUInt32.toInt32)), .val (.int ((((p2.toUInt32 >>> ((16 : Int32) &&& 31).toUInt32).toInt32) &&& (255 : Int32)).toUInt32.toUInt16.toUInt32.toInt32)), .val (.int (p1 &&& (3 : Int32))), .val (.ref b103), .val (.ref b119), .val (.ref r132), .unset, .unset] [(.int p0)]))
          refine bk (fun t k => XS.iloadN X142.here hx rfl (hb hby at_148) rfl k) ?_
          show F (T142.setTop (mkF m 149 #[.val (.int p0), .val (.int p1), .val (.int p2), .val (.int ((p2 &&& (255 : Int32)).toUInt32.toUInt16.toUInt32.toInt32)), .val (.int ((((p2.toUInt32 >>> ((8 : Int32) &&& 31).toUInt32).toInt32) &&& (255 : Int32)).toUInt32.toUInt16.toUInt32.toInt32)), .val (.int ((((p2.toUInt32 >>> ((16 : Int32) &&& 31).toUInt32).toInt32) &&& (255 : Int32)).toUInt32.toUInt16.toUInt32.toInt32)), .val (.int (p1 &&& (3 : Int32))), .val (.ref b103), .val (.ref b119), .val (.ref r132), .unset, .unset] [(.int p0), (.int p0)]))
          refine bk (fun t k => XS.icmpYes X142.here hx rfl (pc0 := 149) (pc' := 154) rfl (hb hby at_149) rfl (teq (rfl : p0 = p0)).1 (by decide) (by decide) k) ?_
          show F (T142.setTop (mkF m 154 #[.val (.int p0), .val (.int p1), .val (.int p2), .val (.int ((p2 &&& (255 : Int32)).toUInt32.toUInt16.toUInt32.toInt32)), .val (.int ((((p2.toUInt32 >>> ((8 : Int32) &&& 31).toUInt32).toInt32) &&& (255 : Int32)).toUInt32.toUInt16.toUInt32.toInt32)), .val (.int ((((p2.toUInt32 >>> ((16 : Int32) &&& 31).toUInt32).toInt32) &&& (255 : Int32)).toUInt32.toUInt16.toUInt32.toInt32)), .val (.int (p1 &&& (3 : Int32))), .val (.ref b103), .val (.ref b119), .val (.ref r132), .unset, .unset] []))
          refine bk (fun t k => XS.aload X142.here hx rfl (hb hby at_154) rfl rfl k) ?_
          show F (T142.setTop (mkF m 156 #[.val (.int p0), .val (.int p1), .val (.int p2), .val (.int ((p2 &&& (255 : Int32)).toUInt32.toUInt16.toUInt32.toInt32)), .val (.int ((((p2.toUInt32 >>> ((8 : Int32) &&& 31).toUInt32).toInt32) &&& (255 : Int32)).toUInt32.toUInt16.toUInt32.toInt32)), .val (.int ((((p2.toUInt32 >>> ((16 : Int32) &&& 31).toUInt32).toInt32) &&& (255 : Int32)).toUInt32.toUInt16.toUInt32.toInt32)), .val (.int (p1 &&& (3 : Int32))), .val (.ref b103), .val (.ref b119), .val (.ref r132), .unset, .unset] [(.ref r132)]))
          obtain ⟨cq143, kq143, q143a, q143b, q143c⟩ := isOf hZ e142 (gE132)
          obtain ⟨_, _, ⟨T143, L143, k143, n143⟩, -, X143, ⟨Lc143, hQ143, l143, y143, z143⟩, st143⟩ := X142.virtualBack hx (y := (⟨"com/example/unabridged_index/unabridgedindex/server/Answer", "body", "()Ljava/lang/Object;"⟩ : MethodName)) (z := (⟨"com/example/unabridged_index/unabridgedindex/server/Answer", "body", "()Ljava/lang/Object;"⟩ : MethodName)) hown (mvT hZ w_63) (mvT hZ w_64) (notFace_of_selects (args := #[]) (mvT hZ w_66)) (mvT hZ w_66) (mvT hZ w_65) (by decide) (backOf (W := 0) (rm12 l Z a0 hw [] r132 em132 T132.heap n0 f134 gB132) hZ w_67 w_32 (by decide) (by decide)) q143a q143c (g := (mkF m 156 #[.val (.int p0), .val (.int p1), .val (.int p2), .val (.int ((p2 &&& (255 : Int32)).toUInt32.toUInt16.toUInt32.toInt32)), .val (.int ((((p2.toUInt32 >>> ((8 : Int32) &&& 31).toUInt32).toInt32) &&& (255 : Int32)).toUInt32.toUInt16.toUInt32.toInt32)), .val (.int ((((p2.toUInt32 >>> ((16 : Int32) &&& 31).toUInt32).toInt32) &&& (255 : Int32)).toUInt32.toUInt16.toUInt32.toInt32)), .val (.int (p1 &&& (3 : Int32))), .val (.ref b103), .val (.ref b119), .val (.ref r132), .unset, .unset] [(.ref r132)])) rfl (by rw [hml]; rfl) (Steps.refl _) (argsL := []) (rest := []) (lenOf pd0___Ljava_lang_Object_ rfl) rfl (by show 2 * 0 + _ ≤ _; exact Nat.le_of_eq rfl) (hb hby at_156) (fun _ _ => ⟨rfl, e142, (by decide : 5 + 0 ≤ _), (by decide : 11 + 0 ≤ _)⟩)
          dsimp only [Pt.U, Pt.locs, Pt.cells, Pt.slots] at X143 l143 y143 z143 st143 hQ143
          subst l143 y143 z143
          obtain ⟨rfl, N143q, e143⟩ := hQ143
          have N143 := Fr.app N142 N143q
          refine bk (fun t k => st143.trans k) ?_
          show F (T143.setTop (mkF m 159 #[.val (.int p0), .val (.int p1), .val (.int p2), .val (.int ((p2 &&& (255 : Int32)).toUInt32.toUInt16.toUInt32.toInt32)), .val (.int ((((p2.toUInt32 >>> ((8 : Int32) &&& 31).toUInt32).toInt32) &&& (255 : Int32)).toUInt32.toUInt16.toUInt32.toInt32)), .val (.int ((((p2.toUInt32 >>> ((16 : Int32) &&& 31).toUInt32).toInt32) &&& (255 : Int32)).toUInt32.toUInt16.toUInt32.toInt32)), .val (.int (p1 &&& (3 : Int32))), .val (.ref b103), .val (.ref b119), .val (.ref r132), .unset, .unset] [(.ref em132)]))
          refine bk (fun t k => XS.astore X143.here hx rfl (hb hby at_159) rfl rfl (l' := #[.val (.int p0), .val (.int p1), .val (.int p2), .val (.int ((p2 &&& (255 : Int32)).toUInt32.toUInt16.toUInt32.toInt32)), .val (.int ((((p2.toUInt32 >>> ((8 : Int32) &&& 31).toUInt32).toInt32) &&& (255 : Int32)).toUInt32.toUInt16.toUInt32.toInt32)), .val (.int ((((p2.toUInt32 >>> ((16 : Int32) &&& 31).toUInt32).toInt32) &&& (255 : Int32)).toUInt32.toUInt16.toUInt32.toInt32)), .val (.int (p1 &&& (3 : Int32))), .val (.ref b103), .val (.ref b119), .val (.ref r132), .val (.ref em132), .unset]) rfl k) ?_
          show F (T143.setTop (mkF m 161 #[.val (.int p0), .val (.int p1), .val (.int p2), .val (.int ((p2 &&& (255 : Int32)).toUInt32.toUInt16.toUInt32.toInt32)), .val (.int ((((p2.toUInt32 >>> ((8 : Int32) &&& 31).toUInt32).toInt32) &&& (255 : Int32)).toUInt32.toUInt16.toUInt32.toInt32)), .val (.int ((((p2.toUInt32 >>> ((16 : Int32) &&& 31).toUInt32).toInt32) &&& (255 : Int32)).toUInt32.toUInt16.toUInt32.toInt32)), .val (.int (p1 &&& (3 : Int32))), .val (.ref b103), .val (.ref b119), .val (.ref r132), .val (.ref em132), .unset] []))
          refine bk (fun t k => XS.aload X143.here hx rfl (hb hby at_161) rfl rfl k) ?_
          show F (T143.setTop (mkF m 163 #[.val (.int p0), .val (.int p1), .val (.int p2), .val (.int ((p2 &&& (255 : Int32)).toUInt32.toUInt16.toUInt32.toInt32)), .val (.int ((((p2.toUInt32 >>> ((8 : Int32) &&& 31).toUInt32).toInt32) &&& (255 : Int32)).toUInt32.toUInt16.toUInt32.toInt32)), .val (.int ((((p2.toUInt32 >>> ((16 : Int32) &&& 31).toUInt32).toInt32) &&& (255 : Int32)).toUInt32.toUInt16.toUInt32.toInt32)), .val (.int (p1 &&& (3 : Int32))), .val (.ref b103), .val (.ref b119), .val (.ref r132), .val (.ref em132), .unset] [(.ref em132)]))
          obtain ⟨T144, X144, e144, st144⟩ := instY X143 hx hZ hown w_68 e143 (Ins.self gM132) (g := (mkF m 163 #[.val (.int p0), .val (.int p1), .val (.int p2), .val (.int ((p2 &&& (255 : Int32)).toUInt32.toUInt16.toUInt32.toInt32)), .val (.int ((((p2.toUInt32 >>> ((8 : Int32) &&& 31).toUInt32).toInt32) &&& (255 : Int32)).toUInt32.toUInt16.toUInt32.toInt32)), .val (.int ((((p2.toUInt32 >>> ((16 : Int32) &&& 31).toUInt32).toInt32) &&& (255 : Int32)).toUInt32.toUInt16.toUInt32.toInt32)), .val (.int (p1 &&& (3 : Int32))), .val (.ref b103), .val (.ref b119), .val (.ref r132), .val (.ref em132), .unset] [(.ref em132)])) rfl rfl (hb hby at_163)
          refine bk (fun t k => st144 t k) ?_
          show F (T144.setTop (mkF m 166 #[.val (.int p0), .val (.int p1), .val (.int p2), .val (.int ((p2 &&& (255 : Int32)).toUInt32.toUInt16.toUInt32.toInt32)), .val (.int ((((p2.toUInt32 >>> ((8 : Int32) &&& 31).toUInt32).toInt32) &&& (255 : Int32)).toUInt32.toUInt16.toUInt32.toInt32)), .val (.int ((((p2.toUInt32 >>> ((16 : Int32) &&& 31).toUInt32).toInt32) &&& (255 : Int32)).toUInt32.toUInt16.toUInt32.toInt32)), .val (.int (p1 &&& (3 : Int32))), .val (.ref b103), .val (.ref b119), .val (.ref r132), .val (.ref em132), .unset] [(.int (1 : Int32))]))
          refine bk (fun t k => XS.ifYes X144.here hx rfl (pc0 := 166) (pc' := 171) rfl (hb hby at_166) rfl ((if0 _ _).trans (feq (by decide : ¬ ((1 : Int32) = (0 : Int32)))).2) (by decide) (by decide) k) ?_
          show F (T144.setTop (mkF m 171 #[.val (.int p0), .val (.int p1), .val (.int p2), .val (.int ((p2 &&& (255 : Int32)).toUInt32.toUInt16.toUInt32.toInt32)), .val (.int ((((p2.toUInt32 >>> ((8 : Int32) &&& 31).toUInt32).toInt32) &&& (255 : Int32)).toUInt32.toUInt16.toUInt32.toInt32)), .val (.int ((((p2.toUInt32 >>> ((16 : Int32) &&& 31).toUInt32).toInt32) &&& (255 : Int32)).toUInt32.toUInt16.toUInt32.toInt32)), .val (.int (p1 &&& (3 : Int32))), .val (.ref b103), .val (.ref b119), .val (.ref r132), .val (.ref em132), .unset] []))
          refine bk (fun t k => XS.aload X144.here hx rfl (hb hby at_171) rfl rfl k) ?_
          show F (T144.setTop (mkF m 173 #[.val (.int p0), .val (.int p1), .val (.int p2), .val (.int ((p2 &&& (255 : Int32)).toUInt32.toUInt16.toUInt32.toInt32)), .val (.int ((((p2.toUInt32 >>> ((8 : Int32) &&& 31).toUInt32).toInt32) &&& (255 : Int32)).toUInt32.toUInt16.toUInt32.toInt32)), .val (.int ((((p2.toUInt32 >>> ((16 : Int32) &&& 31).toUInt32).toInt32) &&& (255 : Int32)).toUInt32.toUInt16.toUInt32.toInt32)), .val (.int (p1 &&& (3 : Int32))), .val (.ref b103), .val (.ref b119), .val (.ref r132), .val (.ref em132), .unset] [(.ref em132)]))
          obtain ⟨T145, X145, e145, st145⟩ := castY X144 hx hZ hown w_68 e144 (Ins.self gM132) (g := (mkF m 173 #[.val (.int p0), .val (.int p1), .val (.int p2), .val (.int ((p2 &&& (255 : Int32)).toUInt32.toUInt16.toUInt32.toInt32)), .val (.int ((((p2.toUInt32 >>> ((8 : Int32) &&& 31).toUInt32).toInt32) &&& (255 : Int32)).toUInt32.toUInt16.toUInt32.toInt32)), .val (.int ((((p2.toUInt32 >>> ((16 : Int32) &&& 31).toUInt32).toInt32) &&& (255 : Int32)).toUInt32.toUInt16.toUInt32.toInt32)), .val (.int (p1 &&& (3 : Int32))), .val (.ref b103), .val (.ref b119), .val (.ref r132), .val (.ref em132), .unset] [(.ref em132)])) rfl rfl (hb hby at_173)
          refine bk (fun t k => st145 t k) ?_
          show F (T145.setTop (mkF m 176 #[.val (.int p0), .val (.int p1), .val (.int p2), .val (.int ((p2 &&& (255 : Int32)).toUInt32.toUInt16.toUInt32.toInt32)), .val (.int ((((p2.toUInt32 >>> ((8 : Int32) &&& 31).toUInt32).toInt32) &&& (255 : Int32)).toUInt32.toUInt16.toUInt32.toInt32)), .val (.int ((((p2.toUInt32 >>> ((16 : Int32) &&& 31).toUInt32).toInt32) &&& (255 : Int32)).toUInt32.toUInt16.toUInt32.toInt32)), .val (.int (p1 &&& (3 : Int32))), .val (.ref b103), .val (.ref b119), .val (.ref r132), .val (.ref em132), .unset] [(.ref em132)]))
          obtain ⟨cq146, kq146, q146a, q146b, q146c⟩ := isOf hZ e145 (gM132)
          obtain ⟨_, _, ⟨T146, L146, k146, n146⟩, -, X146, ⟨Lc146, hQ146, l146, y146, z146⟩, st146⟩ := X145.virtualBack hx (y := (⟨"com/example/unabridged_index/unabridgedindex/server/Answer$ErrorMessage", "error", "()Ljava/lang/String;"⟩ : MethodName)) (z := (⟨"com/example/unabridged_index/unabridgedindex/server/Answer$ErrorMessage", "error", "()Ljava/lang/String;"⟩ : MethodName)) hown (mvT hZ w_70) (mvT hZ w_71) (notFace_of_selects (args := #[]) (mvT hZ w_73)) (mvT hZ w_73) (mvT hZ w_72) (by decide) (backOf (W := 0) (rm13s l Z a0 hw [] em132 b119 T132.heap n0 f134 gR132) hZ w_74 w_38 (by decide) (by decide)) q146a q146c (g := (mkF m 176 #[.val (.int p0), .val (.int p1), .val (.int p2), .val (.int ((p2 &&& (255 : Int32)).toUInt32.toUInt16.toUInt32.toInt32)), .val (.int ((((p2.toUInt32 >>> ((8 : Int32) &&& 31).toUInt32).toInt32) &&& (255 : Int32)).toUInt32.toUInt16.toUInt32.toInt32)), .val (.int ((((p2.toUInt32 >>> ((16 : Int32) &&& 31).toUInt32).toInt32) &&& (255 : Int32)).toUInt32.toUInt16.toUInt32.toInt32)), .val (.int (p1 &&& (3 : Int32))), .val (.ref b103), .val (.ref b119), .val (.ref r132), .val (.ref em132), .unset] [(.ref em132)])) rfl (by rw [hml]; rfl) (Steps.refl _) (argsL := []) (rest := []) (lenOf pd0___Ljava_lang_String_ rfl) rfl (by show 2 * 0 + _ ≤ _; exact Nat.le_of_eq rfl) (hb hby at_176) (fun _ _ => ⟨rfl, e145, (by decide : 5 + 0 ≤ _), (by decide : 11 + 0 ≤ _)⟩)
          dsimp only [Pt.U, Pt.locs, Pt.cells, Pt.slots] at X146 l146 y146 z146 st146 hQ146
          subst l146 y146 z146
          obtain ⟨rfl, N146q, e146⟩ := hQ146
          have N146 := Fr.app N143 N146q
          refine bk (fun t k => st146.trans k) ?_
          show F (T146.setTop (mkF m 179 #[.val (.int p0), .val (.int p1), .val (.int p2), .val (.int ((p2 &&& (255 : Int32)).toUInt32.toUInt16.toUInt32.toInt32)), .val (.int ((((p2.toUInt32 >>> ((8 : Int32) &&& 31).toUInt32).toInt32) &&& (255 : Int32)).toUInt32.toUInt16.toUInt32.toInt32)), .val (.int ((((p2.toUInt32 >>> ((16 : Int32) &&& 31).toUInt32).toInt32) &&& (255 : Int32)).toUInt32.toUInt16.toUInt32.toInt32)), .val (.int (p1 &&& (3 : Int32))), .val (.ref b103), .val (.ref b119), .val (.ref r132), .val (.ref em132), .unset] [(.ref b119)]))
          refine bk (fun t k => XS.astore X146.here hx rfl (hb hby at_179) rfl rfl (l' := #[.val (.int p0), .val (.int p1), .val (.int p2), .val (.int ((p2 &&& (255 : Int32)).toUInt32.toUInt16.toUInt32.toInt32)), .val (.int ((((p2.toUInt32 >>> ((8 : Int32) &&& 31).toUInt32).toInt32) &&& (255 : Int32)).toUInt32.toUInt16.toUInt32.toInt32)), .val (.int ((((p2.toUInt32 >>> ((16 : Int32) &&& 31).toUInt32).toInt32) &&& (255 : Int32)).toUInt32.toUInt16.toUInt32.toInt32)), .val (.int (p1 &&& (3 : Int32))), .val (.ref b103), .val (.ref b119), .val (.ref r132), .val (.ref em132), .val (.ref b119)]) rfl k) ?_
          show F (T146.setTop (mkF m 181 #[.val (.int p0), .val (.int p1), .val (.int p2), .val (.int ((p2 &&& (255 : Int32)).toUInt32.toUInt16.toUInt32.toInt32)), .val (.int ((((p2.toUInt32 >>> ((8 : Int32) &&& 31).toUInt32).toInt32) &&& (255 : Int32)).toUInt32.toUInt16.toUInt32.toInt32)), .val (.int ((((p2.toUInt32 >>> ((16 : Int32) &&& 31).toUInt32).toInt32) &&& (255 : Int32)).toUInt32.toUInt16.toUInt32.toInt32)), .val (.int (p1 &&& (3 : Int32))), .val (.ref b103), .val (.ref b119), .val (.ref r132), .val (.ref em132), .val (.ref b119)] []))
          refine bk (fun t k => XS.aload X146.here hx rfl (hb hby at_181) rfl rfl k) ?_
          show F (T146.setTop (mkF m 183 #[.val (.int p0), .val (.int p1), .val (.int p2), .val (.int ((p2 &&& (255 : Int32)).toUInt32.toUInt16.toUInt32.toInt32)), .val (.int ((((p2.toUInt32 >>> ((8 : Int32) &&& 31).toUInt32).toInt32) &&& (255 : Int32)).toUInt32.toUInt16.toUInt32.toInt32)), .val (.int ((((p2.toUInt32 >>> ((16 : Int32) &&& 31).toUInt32).toInt32) &&& (255 : Int32)).toUInt32.toUInt16.toUInt32.toInt32)), .val (.int (p1 &&& (3 : Int32))), .val (.ref b103), .val (.ref b119), .val (.ref r132), .val (.ref em132), .val (.ref b119)] [(.ref b119)]))
          refine bk (fun t k => XS.ifnonnullYes X146.here hx rfl (pc0 := 183) (pc' := 197) rfl (hb hby at_183) rfl (by decide) (by decide) k) ?_
          show F (T146.setTop (mkF m 197 #[.val (.int p0), .val (.int p1), .val (.int p2), .val (.int ((p2 &&& (255 : Int32)).toUInt32.toUInt16.toUInt32.toInt32)), .val (.int ((((p2.toUInt32 >>> ((8 : Int32) &&& 31).toUInt32).toInt32) &&& (255 : Int32)).toUInt32.toUInt16.toUInt32.toInt32)), .val (.int ((((p2.toUInt32 >>> ((16 : Int32) &&& 31).toUInt32).toInt32) &&& (255 : Int32)).toUInt32.toUInt16.toUInt32.toInt32)), .val (.int (p1 &&& (3 : Int32))), .val (.ref b103), .val (.ref b119), .val (.ref r132), .val (.ref em132), .val (.ref b119)] []))
          refine bk (fun t k => XS.aload X146.here hx rfl (hb hby at_197) rfl rfl k) ?_
          show F (T146.setTop (mkF m 199 #[.val (.int p0), .val (.int p1), .val (.int p2), .val (.int ((p2 &&& (255 : Int32)).toUInt32.toUInt16.toUInt32.toInt32)), .val (.int ((((p2.toUInt32 >>> ((8 : Int32) &&& 31).toUInt32).toInt32) &&& (255 : Int32)).toUInt32.toUInt16.toUInt32.toInt32)), .val (.int ((((p2.toUInt32 >>> ((16 : Int32) &&& 31).toUInt32).toInt32) &&& (255 : Int32)).toUInt32.toUInt16.toUInt32.toInt32)), .val (.int (p1 &&& (3 : Int32))), .val (.ref b103), .val (.ref b119), .val (.ref r132), .val (.ref em132), .val (.ref b119)] [(.ref b119)]))
          refine bk (fun t k => XS.ifnullNo X146.here hx rfl (hb hby at_199) rfl k) ?_
          show F (T146.setTop (mkF m 202 #[.val (.int p0), .val (.int p1), .val (.int p2), .val (.int ((p2 &&& (255 : Int32)).toUInt32.toUInt16.toUInt32.toInt32)), .val (.int ((((p2.toUInt32 >>> ((8 : Int32) &&& 31).toUInt32).toInt32) &&& (255 : Int32)).toUInt32.toUInt16.toUInt32.toInt32)), .val (.int ((((p2.toUInt32 >>> ((16 : Int32) &&& 31).toUInt32).toInt32) &&& (255 : Int32)).toUInt32.toUInt16.toUInt32.toInt32)), .val (.int (p1 &&& (3 : Int32))), .val (.ref b103), .val (.ref b119), .val (.ref r132), .val (.ref em132), .val (.ref b119)] []))
          refine bk (fun t k => XS.aload X146.here hx rfl (hb hby at_202) rfl rfl k) ?_
          show F (T146.setTop (mkF m 204 #[.val (.int p0), .val (.int p1), .val (.int p2), .val (.int ((p2 &&& (255 : Int32)).toUInt32.toUInt16.toUInt32.toInt32)), .val (.int ((((p2.toUInt32 >>> ((8 : Int32) &&& 31).toUInt32).toInt32) &&& (255 : Int32)).toUInt32.toUInt16.toUInt32.toInt32)), .val (.int ((((p2.toUInt32 >>> ((16 : Int32) &&& 31).toUInt32).toInt32) &&& (255 : Int32)).toUInt32.toUInt16.toUInt32.toInt32)), .val (.int (p1 &&& (3 : Int32))), .val (.ref b103), .val (.ref b119), .val (.ref r132), .val (.ref em132), .val (.ref b119)] [(.ref b119)]))
          obtain ⟨cq147, kq147, q147a, q147b, q147c⟩ := isOf hZ e146 (f138)
          obtain ⟨_, _, ⟨T147, L147, k147, n147⟩, -, X147, ⟨Lc147, hQ147, l147, y147, z147⟩, st147⟩ := X146.virtualBack hx (y := (⟨"java/lang/String", "length", "()I"⟩ : MethodName)) (z := (⟨"java/lang/String", "length", "()I"⟩ : MethodName)) hown (mvT hZ w_75) (mvT hZ w_76) (notFace_of_selects (args := #[]) (mvT hZ w_78)) (mvT hZ w_78) (mvT hZ w_77) (by decide) (backOf (W := 0) (rm14_2 l Z a0 hw [] b119 r125 kd125 _ cs T132.heap n0 f134 f138 f140 f141 f139 f136 hcs) hZ w_79 w_3 (by decide) (by decide)) q147a q147c (g := (mkF m 204 #[.val (.int p0), .val (.int p1), .val (.int p2), .val (.int ((p2 &&& (255 : Int32)).toUInt32.toUInt16.toUInt32.toInt32)), .val (.int ((((p2.toUInt32 >>> ((8 : Int32) &&& 31).toUInt32).toInt32) &&& (255 : Int32)).toUInt32.toUInt16.toUInt32.toInt32)), .val (.int ((((p2.toUInt32 >>> ((16 : Int32) &&& 31).toUInt32).toInt32) &&& (255 : Int32)).toUInt32.toUInt16.toUInt32.toInt32)), .val (.int (p1 &&& (3 : Int32))), .val (.ref b103), .val (.ref b119), .val (.ref r132), .val (.ref em132), .val (.ref b119)] [(.ref b119)])) rfl (by rw [hml]; rfl) (Steps.refl _) (argsL := []) (rest := []) (lenOf pd0___I rfl) rfl (by show 2 * 0 + _ ≤ _; exact Nat.le_of_eq rfl) (hb hby at_204) (fun _ _ => ⟨rfl, e146, (by decide : 5 + 0 ≤ _), (by decide : 11 + 0 ≤ _)⟩)
          dsimp only [Pt.U, Pt.locs, Pt.cells, Pt.slots] at X147 l147 y147 z147 st147 hQ147
          subst l147 y147 z147
          obtain ⟨rfl, N147q, e147⟩ := hQ147
          have N147 := Fr.app N146 N147q
          refine bk (fun t k => st147.trans k) ?_
          show F (T147.setTop (mkF m 207 #[.val (.int p0), .val (.int p1), .val (.int p2), .val (.int ((p2 &&& (255 : Int32)).toUInt32.toUInt16.toUInt32.toInt32)), .val (.int ((((p2.toUInt32 >>> ((8 : Int32) &&& 31).toUInt32).toInt32) &&& (255 : Int32)).toUInt32.toUInt16.toUInt32.toInt32)), .val (.int ((((p2.toUInt32 >>> ((16 : Int32) &&& 31).toUInt32).toInt32) &&& (255 : Int32)).toUInt32.toUInt16.toUInt32.toInt32)), .val (.int (p1 &&& (3 : Int32))), .val (.ref b103), .val (.ref b119), .val (.ref r132), .val (.ref em132), .val (.ref b119)] [(.int (2 : Int32))]))
          refine bk (fun t k => XS.iload X147.here hx rfl (hb hby at_207) rfl k) ?_
          show F (T147.setTop (mkF m 209 #[.val (.int p0), .val (.int p1), .val (.int p2), .val (.int ((p2 &&& (255 : Int32)).toUInt32.toUInt16.toUInt32.toInt32)), .val (.int ((((p2.toUInt32 >>> ((8 : Int32) &&& 31).toUInt32).toInt32) &&& (255 : Int32)).toUInt32.toUInt16.toUInt32.toInt32)), .val (.int ((((p2.toUInt32 >>> ((16 : Int32) &&& 31).toUInt32).toInt32) &&& (255 : Int32)).toUInt32.toUInt16.toUInt32.toInt32)), .val (.int (p1 &&& (3 : Int32))), .val (.ref b103), .val (.ref b119), .val (.ref r132), .val (.ref em132), .val (.ref b119)] [(.int (p1 &&& (3 : Int32))), (.int (2 : Int32))]))
          refine bk (fun t k => XS.icmpYes X147.here hx rfl (pc0 := 209) (pc' := 214) rfl (hb hby at_209) rfl (teq hc68_102.symm).1 (by decide) (by decide) k) ?_
          show F (T147.setTop (mkF m 214 #[.val (.int p0), .val (.int p1), .val (.int p2), .val (.int ((p2 &&& (255 : Int32)).toUInt32.toUInt16.toUInt32.toInt32)), .val (.int ((((p2.toUInt32 >>> ((8 : Int32) &&& 31).toUInt32).toInt32) &&& (255 : Int32)).toUInt32.toUInt16.toUInt32.toInt32)), .val (.int ((((p2.toUInt32 >>> ((16 : Int32) &&& 31).toUInt32).toInt32) &&& (255 : Int32)).toUInt32.toUInt16.toUInt32.toInt32)), .val (.int (p1 &&& (3 : Int32))), .val (.ref b103), .val (.ref b119), .val (.ref r132), .val (.ref em132), .val (.ref b119)] []))
          refine bk (fun t k => XS.aload X147.here hx rfl (hb hby at_214) rfl rfl k) ?_
          show F (T147.setTop (mkF m 216 #[.val (.int p0), .val (.int p1), .val (.int p2), .val (.int ((p2 &&& (255 : Int32)).toUInt32.toUInt16.toUInt32.toInt32)), .val (.int ((((p2.toUInt32 >>> ((8 : Int32) &&& 31).toUInt32).toInt32) &&& (255 : Int32)).toUInt32.toUInt16.toUInt32.toInt32)), .val (.int ((((p2.toUInt32 >>> ((16 : Int32) &&& 31).toUInt32).toInt32) &&& (255 : Int32)).toUInt32.toUInt16.toUInt32.toInt32)), .val (.int (p1 &&& (3 : Int32))), .val (.ref b103), .val (.ref b119), .val (.ref r132), .val (.ref em132), .val (.ref b119)] [(.ref b119)]))
          refine bk (fun t k => XS.aload X147.here hx rfl (hb hby at_216) rfl rfl k) ?_
          show F (T147.setTop (mkF m 218 #[.val (.int p0), .val (.int p1), .val (.int p2), .val (.int ((p2 &&& (255 : Int32)).toUInt32.toUInt16.toUInt32.toInt32)), .val (.int ((((p2.toUInt32 >>> ((8 : Int32) &&& 31).toUInt32).toInt32) &&& (255 : Int32)).toUInt32.toUInt16.toUInt32.toInt32)), .val (.int ((((p2.toUInt32 >>> ((16 : Int32) &&& 31).toUInt32).toInt32) &&& (255 : Int32)).toUInt32.toUInt16.toUInt32.toInt32)), .val (.int (p1 &&& (3 : Int32))), .val (.ref b103), .val (.ref b119), .val (.ref r132), .val (.ref em132), .val (.ref b119)] [(.ref b119), (.ref b119)]))
          obtain ⟨cq148, kq148, q148a, q148b, q148c⟩ := isOf hZ e147 (f138)
          obtain ⟨_, _, ⟨T148, L148, k148, n148⟩, -, X148, ⟨Lc148, hQ148, l148, y148, z148⟩, st148⟩ := X147.virtualBack hx (y := (⟨"java/lang/String", "equals", "(Ljava/lang/Object;)Z"⟩ : MethodName)) (z := (⟨"java/lang/String", "equals", "(Ljava/lang/Object;)Z"⟩ : MethodName)) hown (mvT hZ w_85) (mvT hZ w_86) (notFace_of_selects (args := #[]) (mvT hZ w_88)) (mvT hZ w_88) (mvT hZ w_87) (by decide) (backOf (W := 0) (rm16 l Z a0 hw [] b119 T132.heap n0 f134) hZ w_89 w_3 (by decide) (by decide)) q148a q148c (g := (mkF m 218 #[.val (.int p0), .val (.int p1), .val (.int p2), .val (.int ((p2 &&& (255 : Int32)).toUInt32.toUInt16.toUInt32.toInt32)), .val (.int ((((p2.toUInt32 >>> ((8 : Int32) &&& 31).toUInt32).toInt32) &&& (255 : Int32)).toUInt32.toUInt16.toUInt32.toInt32)), .val (.int ((((p2.toUInt32 >>> ((16 : Int32) &&& 31).toUInt32).toInt32) &&& (255 : Int32)).toUInt32.toUInt16.toUInt32.toInt32)), .val (.int (p1 &&& (3 : Int32))), .val (.ref b103), .val (.ref b119), .val (.ref r132), .val (.ref em132), .val (.ref b119)] [(.ref b119), (.ref b119)])) rfl (by rw [hml]; rfl) (Steps.refl _) (argsL := [(.ref b119)]) (rest := []) (lenOf pd0__Ljava_lang_Object__Z rfl) rfl (by show 2 * 0 + _ ≤ _; exact Nat.le_of_eq rfl) (hb hby at_218) (fun _ _ => ⟨rfl, e147, (by decide : 5 + 0 ≤ _), (by decide : 11 + 0 ≤ _)⟩)
          dsimp only [Pt.U, Pt.locs, Pt.cells, Pt.slots] at X148 l148 y148 z148 st148 hQ148
          subst l148 y148 z148
          obtain ⟨rfl, N148q, e148⟩ := hQ148
          have N148 := Fr.app N147 N148q
          refine bk (fun t k => st148.trans k) ?_
          show F (T148.setTop (mkF m 221 #[.val (.int p0), .val (.int p1), .val (.int p2), .val (.int ((p2 &&& (255 : Int32)).toUInt32.toUInt16.toUInt32.toInt32)), .val (.int ((((p2.toUInt32 >>> ((8 : Int32) &&& 31).toUInt32).toInt32) &&& (255 : Int32)).toUInt32.toUInt16.toUInt32.toInt32)), .val (.int ((((p2.toUInt32 >>> ((16 : Int32) &&& 31).toUInt32).toInt32) &&& (255 : Int32)).toUInt32.toUInt16.toUInt32.toInt32)), .val (.int (p1 &&& (3 : Int32))), .val (.ref b103), .val (.ref b119), .val (.ref r132), .val (.ref em132), .val (.ref b119)] [(.int (1 : Int32))]))
          rw [hF]
          refine own_retZW X148 hx hS0 (by rw [e148]; exact f133) Bd.notSynchronized Bd.returns (hb hby at_221) (by decide) (by decide) ?_
          rw [e148]
          exact ⟨rfl, N148⟩
        · refine bk (fun t k => XS.ifNo X113.here hx rfl (hb hby at_110) rfl ((if0 _ _).trans (feq hc110_118).1) k) ?_
          show F (T113.setTop (mkF m 113 #[.val (.int p0), .val (.int p1), .val (.int p2), .val (.int ((p2 &&& (255 : Int32)).toUInt32.toUInt16.toUInt32.toInt32)), .val (.int ((((p2.toUInt32 >>> ((8 : Int32) &&& 31).toUInt32).toInt32) &&& (255 : Int32)).toUInt32.toUInt16.toUInt32.toInt32)), .val (.int ((((p2.toUInt32 >>> ((16 : Int32) &&& 31).toUInt32).toInt32) &&& (255 : Int32)).toUInt32.toUInt16.toUInt32.toInt32)), .val (.int (p1 &&& (3 : Int32))), .val (.ref b103), .unset, .unset, .unset, .unset] []))
          refine bk (fun t k => XS.aconstNull X113.here hx rfl (hb hby at_113) k) ?_
          show F (T113.setTop (mkF m 114 #[.val (.int p0), .val (.int p1), .val (.int p2), .val (.int ((p2 &&& (255 : Int32)).toUInt32.toUInt16.toUInt32.toInt32)), .val (.int ((((p2.toUInt32 >>> ((8 : Int32) &&& 31).toUInt32).toInt32) &&& (255 : Int32)).toUInt32.toUInt16.toUInt32.toInt32)), .val (.int ((((p2.toUInt32 >>> ((16 : Int32) &&& 31).toUInt32).toInt32) &&& (255 : Int32)).toUInt32.toUInt16.toUInt32.toInt32)), .val (.int (p1 &&& (3 : Int32))), .val (.ref b103), .unset, .unset, .unset, .unset] [.null]))
          refine bk (fun t k => XS.goto X113.here hx rfl (pc0 := 114) (pc' := 126) rfl (hb hby at_114) (by decide) (by decide) k) ?_
          show F (T113.setTop (mkF m 126 #[.val (.int p0), .val (.int p1), .val (.int p2), .val (.int ((p2 &&& (255 : Int32)).toUInt32.toUInt16.toUInt32.toInt32)), .val (.int ((((p2.toUInt32 >>> ((8 : Int32) &&& 31).toUInt32).toInt32) &&& (255 : Int32)).toUInt32.toUInt16.toUInt32.toInt32)), .val (.int ((((p2.toUInt32 >>> ((16 : Int32) &&& 31).toUInt32).toInt32) &&& (255 : Int32)).toUInt32.toUInt16.toUInt32.toInt32)), .val (.int (p1 &&& (3 : Int32))), .val (.ref b103), .unset, .unset, .unset, .unset] [.null]))
          refine bk (fun t k => XS.astore X113.here hx rfl (hb hby at_126) rfl rfl (l' := #[.val (.int p0), .val (.int p1), .val (.int p2), .val (.int ((p2 &&& (255 : Int32)).toUInt32.toUInt16.toUInt32.toInt32)), .val (.int ((((p2.toUInt32 >>> ((8 : Int32) &&& 31).toUInt32).toInt32) &&& (255 : Int32)).toUInt32.toUInt16.toUInt32.toInt32)), .val (.int ((((p2.toUInt32 >>> ((16 : Int32) &&& 31).toUInt32).toInt32) &&& (255 : Int32)).toUInt32.toUInt16.toUInt32.toInt32)), .val (.int (p1 &&& (3 : Int32))), .val (.ref b103), .val .null, .unset, .unset, .unset]) rfl k) ?_
          show F (T113.setTop (mkF m 128 #[.val (.int p0), .val (.int p1), .val (.int p2), .val (.int ((p2 &&& (255 : Int32)).toUInt32.toUInt16.toUInt32.toInt32)), .val (.int ((((p2.toUInt32 >>> ((8 : Int32) &&& 31).toUInt32).toInt32) &&& (255 : Int32)).toUInt32.toUInt16.toUInt32.toInt32)), .val (.int ((((p2.toUInt32 >>> ((16 : Int32) &&& 31).toUInt32).toInt32) &&& (255 : Int32)).toUInt32.toUInt16.toUInt32.toInt32)), .val (.int (p1 &&& (3 : Int32))), .val (.ref b103), .val .null, .unset, .unset, .unset] []))
          refine bk (fun t k => XS.iloadN X113.here hx rfl (hb hby at_128) rfl k) ?_
          show F (T113.setTop (mkF m 129 #[.val (.int p0), .val (.int p1), .val (.int p2), .val (.int ((p2 &&& (255 : Int32)).toUInt32.toUInt16.toUInt32.toInt32)), .val (.int ((((p2.toUInt32 >>> ((8 : Int32) &&& 31).toUInt32).toInt32) &&& (255 : Int32)).toUInt32.toUInt16.toUInt32.toInt32)), .val (.int ((((p2.toUInt32 >>> ((16 : Int32) &&& 31).toUInt32).toInt32) &&& (255 : Int32)).toUInt32.toUInt16.toUInt32.toInt32)), .val (.int (p1 &&& (3 : Int32))), .val (.ref b103), .val .null, .unset, .unset, .unset] [(.int p0)]))
          refine bk (fun t k => XS.aload X113.here hx rfl (hb hby at_129) rfl rfl k) ?_
          show F (T113.setTop (mkF m 131 #[.val (.int p0), .val (.int p1), .val (.int p2), .val (.int ((p2 &&& (255 : Int32)).toUInt32.toUInt16.toUInt32.toInt32)), .val (.int ((((p2.toUInt32 >>> ((8 : Int32) &&& 31).toUInt32).toInt32) &&& (255 : Int32)).toUInt32.toUInt16.toUInt32.toInt32)), .val (.int ((((p2.toUInt32 >>> ((16 : Int32) &&& 31).toUInt32).toInt32) &&& (255 : Int32)).toUInt32.toUInt16.toUInt32.toInt32)), .val (.int (p1 &&& (3 : Int32))), .val (.ref b103), .val .null, .unset, .unset, .unset] [.null, (.int p0)]))
          obtain ⟨_, _, ⟨T149, L149, k149, n149⟩, -, X149, ⟨Lc149, hQ149, l149, y149, z149⟩, st149⟩ := Jvm.LawKit.callS X113 hx (y := (⟨"com/example/unabridged_index/unabridgedindex/server/Answer", "error", "(ILjava/lang/String;)Lcom/example/unabridged_index/unabridgedindex/server/Answer;"⟩ : MethodName)) hown (mvT hZ w_30) (mvT hZ w_31) (mvT hZ w_32) (mvT hZ w_33) (by decide) (backOf (W := 0) (rm7n l Z a0 hw [] p0  h113 n0 f115) hZ w_33 w_32 (by decide) (by decide)) (g := (mkF m 131 #[.val (.int p0), .val (.int p1), .val (.int p2), .val (.int ((p2 &&& (255 : Int32)).toUInt32.toUInt16.toUInt32.toInt32)), .val (.int ((((p2.toUInt32 >>> ((8 : Int32) &&& 31).toUInt32).toInt32) &&& (255 : Int32)).toUInt32.toUInt16.toUInt32.toInt32)), .val (.int ((((p2.toUInt32 >>> ((16 : Int32) &&& 31).toUInt32).toInt32) &&& (255 : Int32)).toUInt32.toUInt16.toUInt32.toInt32)), .val (.int (p1 &&& (3 : Int32))), .val (.ref b103), .val .null, .unset, .unset, .unset] [.null, (.int p0)])) rfl (by rw [hml]; rfl) (argsL := [(.int p0), .null]) (rest := []) (lenOf pd0__ILjava_lang_String__Lcom_example_unabridged_index_unabridgedindex_server_Answer_ rfl) rfl (by show 2 * 0 + _ ≤ _; exact Nat.le_of_eq rfl) (hb hby at_131) (fun _ _ => ⟨rfl, e113, (by decide : 1 + 2 ≤ _), (by decide : 2 + 3 ≤ _)⟩)
          dsimp only [Pt.U, Pt.locs, Pt.cells, Pt.slots] at X149 l149 y149 z149 st149 hQ149
          subst l149 y149 z149
          obtain ⟨r149, em149, rfl, N149q, K149, gE149, gS149, gB149, gM149, gR149⟩ := hQ149
          have N149 := Fr.app N113 N149q
          have f150 := Nat.le_trans f114 K149.1
          have f151 := Nat.le_trans f115 K149.1
          have f152 := f116.keep K149 all0
          have f153 := own_sta0 f117 K149
          have f154 := V_b103_113.keep K149 nin0
          refine bk (fun t k => st149 t k) ?_
          show F (T149.setTop (mkF m 134 #[.val (.int p0), .val (.int p1), .val (.int p2), .val (.int ((p2 &&& (255 : Int32)).toUInt32.toUInt16.toUInt32.toInt32)), .val (.int ((((p2.toUInt32 >>> ((8 : Int32) &&& 31).toUInt32).toInt32) &&& (255 : Int32)).toUInt32.toUInt16.toUInt32.toInt32)), .val (.int ((((p2.toUInt32 >>> ((16 : Int32) &&& 31).toUInt32).toInt32) &&& (255 : Int32)).toUInt32.toUInt16.toUInt32.toInt32)), .val (.int (p1 &&& (3 : Int32))), .val (.ref b103), .val .null, .unset, .unset, .unset] [(.ref r149)]))
          refine bk (fun t k => XS.astore X149.here hx rfl (hb hby at_134) rfl rfl (l' := #[.val (.int p0), .val (.int p1), .val (.int p2), .val (.int ((p2 &&& (255 : Int32)).toUInt32.toUInt16.toUInt32.toInt32)), .val (.int ((((p2.toUInt32 >>> ((8 : Int32) &&& 31).toUInt32).toInt32) &&& (255 : Int32)).toUInt32.toUInt16.toUInt32.toInt32)), .val (.int ((((p2.toUInt32 >>> ((16 : Int32) &&& 31).toUInt32).toInt32) &&& (255 : Int32)).toUInt32.toUInt16.toUInt32.toInt32)), .val (.int (p1 &&& (3 : Int32))), .val (.ref b103), .val .null, .val (.ref r149), .unset, .unset]) rfl k) ?_
          show F (T149.setTop (mkF m 136 #[.val (.int p0), .val (.int p1), .val (.int p2), .val (.int ((p2 &&& (255 : Int32)).toUInt32.toUInt16.toUInt32.toInt32)), .val (.int ((((p2.toUInt32 >>> ((8 : Int32) &&& 31).toUInt32).toInt32) &&& (255 : Int32)).toUInt32.toUInt16.toUInt32.toInt32)), .val (.int ((((p2.toUInt32 >>> ((16 : Int32) &&& 31).toUInt32).toInt32) &&& (255 : Int32)).toUInt32.toUInt16.toUInt32.toInt32)), .val (.int (p1 &&& (3 : Int32))), .val (.ref b103), .val .null, .val (.ref r149), .unset, .unset] []))
          refine bk (fun t k => XS.aload X149.here hx rfl (hb hby at_136) rfl rfl k) ?_
          show F (T149.setTop (mkF m 138 #[.val (.int p0), .val (.int p1), .val (.int p2), .val (.int ((p2 &&& (255 : Int32)).toUInt32.toUInt16.toUInt32.toInt32)), .val (.int ((((p2.toUInt32 >>> ((8 : Int32) &&& 31).toUInt32).toInt32) &&& (255 : Int32)).toUInt32.toUInt16.toUInt32.toInt32)), .val (.int ((((p2.toUInt32 >>> ((16 : Int32) &&& 31).toUInt32).toInt32) &&& (255 : Int32)).toUInt32.toUInt16.toUInt32.toInt32)), .val (.int (p1 &&& (3 : Int32))), .val (.ref b103), .val .null, .val (.ref r149), .unset, .unset] [(.ref r149)]))
          refine bk (fun t k => XS.ifnonnullYes X149.here hx rfl (pc0 := 138) (pc' := 143) rfl (hb hby at_138) rfl (by decide) (by decide) k) ?_
          show F (T149.setTop (mkF m 143 #[.val (.int p0), .val (.int p1), .val (.int p2), .val (.int ((p2 &&& (255 : Int32)).toUInt32.toUInt16.toUInt32.toInt32)), .val (.int ((((p2.toUInt32 >>> ((8 : Int32) &&& 31).toUInt32).toInt32) &&& (255 : Int32)).toUInt32.toUInt16.toUInt32.toInt32)), .val (.int ((((p2.toUInt32 >>> ((16 : Int32) &&& 31).toUInt32).toInt32) &&& (255 : Int32)).toUInt32.toUInt16.toUInt32.toInt32)), .val (.int (p1 &&& (3 : Int32))), .val (.ref b103), .val .null, .val (.ref r149), .unset, .unset] []))
          refine bk (fun t k => XS.aload X149.here hx rfl (hb hby at_143) rfl rfl k) ?_
          show F (T149.setTop (mkF m 145 #[.val (.int p0), .val (.int p1), .val (.int p2), .val (.int ((p2 &&& (255 : Int32)).toUInt32.toUInt16.toUInt32.toInt32)), .val (.int ((((p2.toUInt32 >>> ((8 : Int32) &&& 31).toUInt32).toInt32) &&& (255 : Int32)).toUInt32.toUInt16.toUInt32.toInt32)), .val (.int ((((p2.toUInt32 >>> ((16 : Int32) &&& 31).toUInt32).toInt32) &&& (255 : Int32)).toUInt32.toUInt16.toUInt32.toInt32)), .val (.int (p1 &&& (3 : Int32))), .val (.ref b103), .val .null, .val (.ref r149), .unset, .unset] [(.ref r149)]))
          obtain ⟨cq155, kq155, q155a, q155b, q155c⟩ := isOf hZ rfl (gE149)
          obtain ⟨_, _, ⟨T155, L155, k155, n155⟩, -, X155, ⟨Lc155, hQ155, l155, y155, z155⟩, st155⟩ := X149.virtualBack hx (y := (⟨"com/example/unabridged_index/unabridgedindex/server/Answer", "status", "()I"⟩ : MethodName)) (z := (⟨"com/example/unabridged_index/unabridgedindex/server/Answer", "status", "()I"⟩ : MethodName)) hown (mvT hZ w_58) (mvT hZ w_59) (notFace_of_selects (args := #[]) (mvT hZ w_61)) (mvT hZ w_61) (mvT hZ w_60) (by decide) (backOf (W := 0) (rm11 l Z a0 hw [] r149 p0 T149.heap n0 f151 gS149) hZ w_62 w_32 (by decide) (by decide)) q155a q155c (g := (mkF m 145 #[.val (.int p0), .val (.int p1), .val (.int p2), .val (.int ((p2 &&& (255 : Int32)).toUInt32.toUInt16.toUInt32.toInt32)), .val (.int ((((p2.toUInt32 >>> ((8 : Int32) &&& 31).toUInt32).toInt32) &&& (255 : Int32)).toUInt32.toUInt16.toUInt32.toInt32)), .val (.int ((((p2.toUInt32 >>> ((16 : Int32) &&& 31).toUInt32).toInt32) &&& (255 : Int32)).toUInt32.toUInt16.toUInt32.toInt32)), .val (.int (p1 &&& (3 : Int32))), .val (.ref b103), .val .null, .val (.ref r149), .unset, .unset] [(.ref r149)])) rfl (by rw [hml]; rfl) (Steps.refl _) (argsL := []) (rest := []) (lenOf pd0___I rfl) rfl (by show 2 * 0 + _ ≤ _; exact Nat.le_of_eq rfl) (hb hby at_145) (fun _ _ => ⟨rfl, rfl, (by decide : 3 + 0 ≤ _), (by decide : 5 + 0 ≤ _)⟩)
          dsimp only [Pt.U, Pt.locs, Pt.cells, Pt.slots] at X155 l155 y155 z155 st155 hQ155
          subst l155 y155 z155
          obtain ⟨rfl, N155q, e155⟩ := hQ155
          have N155 := Fr.app N149 N155q
          refine bk (fun t k => st155.trans k) ?_
          show F (T155.setTop (mkF m 148 #[.val (.int p0), .val (.int p1), .val (.int p2), .val (.int ((p2 &&& (255 : Int32)).toUInt32.toUInt16.toUInt32.toInt32)), .val (.int ((((p2.toUInt32 >>> ((8 : Int32) &&& 31).toUInt32).toInt32) &&& (255 : Int32)).toUInt32.toUInt16.toUInt32.toInt32)), .val (.int ((((p2.toUInt32 >>> ((16 : Int32) &&& 31).toUInt32).toInt32) &&& (255 : Int32)).toUInt32.toUInt16.toUInt32.toInt32)), .val (.int (p1 &&& (3 : Int32))), .val (.ref b103), .val .null, .val (.ref r149), .unset, .unset] [(.int p0)]))
          refine bk (fun t k => XS.iloadN X155.here hx rfl (hb hby at_148) rfl k) ?_
          show F (T155.setTop (mkF m 149 #[.val (.int p0), .val (.int p1), .val (.int p2), .val (.int ((p2 &&& (255 : Int32)).toUInt32.toUInt16.toUInt32.toInt32)), .val (.int ((((p2.toUInt32 >>> ((8 : Int32) &&& 31).toUInt32).toInt32) &&& (255 : Int32)).toUInt32.toUInt16.toUInt32.toInt32)), .val (.int ((((p2.toUInt32 >>> ((16 : Int32) &&& 31).toUInt32).toInt32) &&& (255 : Int32)).toUInt32.toUInt16.toUInt32.toInt32)), .val (.int (p1 &&& (3 : Int32))), .val (.ref b103), .val .null, .val (.ref r149), .unset, .unset] [(.int p0), (.int p0)]))
          refine bk (fun t k => XS.icmpYes X155.here hx rfl (pc0 := 149) (pc' := 154) rfl (hb hby at_149) rfl (teq (rfl : p0 = p0)).1 (by decide) (by decide) k) ?_
          show F (T155.setTop (mkF m 154 #[.val (.int p0), .val (.int p1), .val (.int p2), .val (.int ((p2 &&& (255 : Int32)).toUInt32.toUInt16.toUInt32.toInt32)), .val (.int ((((p2.toUInt32 >>> ((8 : Int32) &&& 31).toUInt32).toInt32) &&& (255 : Int32)).toUInt32.toUInt16.toUInt32.toInt32)), .val (.int ((((p2.toUInt32 >>> ((16 : Int32) &&& 31).toUInt32).toInt32) &&& (255 : Int32)).toUInt32.toUInt16.toUInt32.toInt32)), .val (.int (p1 &&& (3 : Int32))), .val (.ref b103), .val .null, .val (.ref r149), .unset, .unset] []))
          refine bk (fun t k => XS.aload X155.here hx rfl (hb hby at_154) rfl rfl k) ?_
          show F (T155.setTop (mkF m 156 #[.val (.int p0), .val (.int p1), .val (.int p2), .val (.int ((p2 &&& (255 : Int32)).toUInt32.toUInt16.toUInt32.toInt32)), .val (.int ((((p2.toUInt32 >>> ((8 : Int32) &&& 31).toUInt32).toInt32) &&& (255 : Int32)).toUInt32.toUInt16.toUInt32.toInt32)), .val (.int ((((p2.toUInt32 >>> ((16 : Int32) &&& 31).toUInt32).toInt32) &&& (255 : Int32)).toUInt32.toUInt16.toUInt32.toInt32)), .val (.int (p1 &&& (3 : Int32))), .val (.ref b103), .val .null, .val (.ref r149), .unset, .unset] [(.ref r149)]))
          obtain ⟨cq156, kq156, q156a, q156b, q156c⟩ := isOf hZ e155 (gE149)
          obtain ⟨_, _, ⟨T156, L156, k156, n156⟩, -, X156, ⟨Lc156, hQ156, l156, y156, z156⟩, st156⟩ := X155.virtualBack hx (y := (⟨"com/example/unabridged_index/unabridgedindex/server/Answer", "body", "()Ljava/lang/Object;"⟩ : MethodName)) (z := (⟨"com/example/unabridged_index/unabridgedindex/server/Answer", "body", "()Ljava/lang/Object;"⟩ : MethodName)) hown (mvT hZ w_63) (mvT hZ w_64) (notFace_of_selects (args := #[]) (mvT hZ w_66)) (mvT hZ w_66) (mvT hZ w_65) (by decide) (backOf (W := 0) (rm12 l Z a0 hw [] r149 em149 T149.heap n0 f151 gB149) hZ w_67 w_32 (by decide) (by decide)) q156a q156c (g := (mkF m 156 #[.val (.int p0), .val (.int p1), .val (.int p2), .val (.int ((p2 &&& (255 : Int32)).toUInt32.toUInt16.toUInt32.toInt32)), .val (.int ((((p2.toUInt32 >>> ((8 : Int32) &&& 31).toUInt32).toInt32) &&& (255 : Int32)).toUInt32.toUInt16.toUInt32.toInt32)), .val (.int ((((p2.toUInt32 >>> ((16 : Int32) &&& 31).toUInt32).toInt32) &&& (255 : Int32)).toUInt32.toUInt16.toUInt32.toInt32)), .val (.int (p1 &&& (3 : Int32))), .val (.ref b103), .val .null, .val (.ref r149), .unset, .unset] [(.ref r149)])) rfl (by rw [hml]; rfl) (Steps.refl _) (argsL := []) (rest := []) (lenOf pd0___Ljava_lang_Object_ rfl) rfl (by show 2 * 0 + _ ≤ _; exact Nat.le_of_eq rfl) (hb hby at_156) (fun _ _ => ⟨rfl, e155, (by decide : 3 + 0 ≤ _), (by decide : 5 + 0 ≤ _)⟩)
          dsimp only [Pt.U, Pt.locs, Pt.cells, Pt.slots] at X156 l156 y156 z156 st156 hQ156
          subst l156 y156 z156
          obtain ⟨rfl, N156q, e156⟩ := hQ156
          have N156 := Fr.app N155 N156q
          refine bk (fun t k => st156.trans k) ?_
          show F (T156.setTop (mkF m 159 #[.val (.int p0), .val (.int p1), .val (.int p2), .val (.int ((p2 &&& (255 : Int32)).toUInt32.toUInt16.toUInt32.toInt32)), .val (.int ((((p2.toUInt32 >>> ((8 : Int32) &&& 31).toUInt32).toInt32) &&& (255 : Int32)).toUInt32.toUInt16.toUInt32.toInt32)), .val (.int ((((p2.toUInt32 >>> ((16 : Int32) &&& 31).toUInt32).toInt32) &&& (255 : Int32)).toUInt32.toUInt16.toUInt32.toInt32)), .val (.int (p1 &&& (3 : Int32))), .val (.ref b103), .val .null, .val (.ref r149), .unset, .unset] [(.ref em149)]))
          refine bk (fun t k => XS.astore X156.here hx rfl (hb hby at_159) rfl rfl (l' := #[.val (.int p0), .val (.int p1), .val (.int p2), .val (.int ((p2 &&& (255 : Int32)).toUInt32.toUInt16.toUInt32.toInt32)), .val (.int ((((p2.toUInt32 >>> ((8 : Int32) &&& 31).toUInt32).toInt32) &&& (255 : Int32)).toUInt32.toUInt16.toUInt32.toInt32)), .val (.int ((((p2.toUInt32 >>> ((16 : Int32) &&& 31).toUInt32).toInt32) &&& (255 : Int32)).toUInt32.toUInt16.toUInt32.toInt32)), .val (.int (p1 &&& (3 : Int32))), .val (.ref b103), .val .null, .val (.ref r149), .val (.ref em149), .unset]) rfl k) ?_
          show F (T156.setTop (mkF m 161 #[.val (.int p0), .val (.int p1), .val (.int p2), .val (.int ((p2 &&& (255 : Int32)).toUInt32.toUInt16.toUInt32.toInt32)), .val (.int ((((p2.toUInt32 >>> ((8 : Int32) &&& 31).toUInt32).toInt32) &&& (255 : Int32)).toUInt32.toUInt16.toUInt32.toInt32)), .val (.int ((((p2.toUInt32 >>> ((16 : Int32) &&& 31).toUInt32).toInt32) &&& (255 : Int32)).toUInt32.toUInt16.toUInt32.toInt32)), .val (.int (p1 &&& (3 : Int32))), .val (.ref b103), .val .null, .val (.ref r149), .val (.ref em149), .unset] []))
          refine bk (fun t k => XS.aload X156.here hx rfl (hb hby at_161) rfl rfl k) ?_
          show F (T156.setTop (mkF m 163 #[.val (.int p0), .val (.int p1), .val (.int p2), .val (.int ((p2 &&& (255 : Int32)).toUInt32.toUInt16.toUInt32.toInt32)), .val (.int ((((p2.toUInt32 >>> ((8 : Int32) &&& 31).toUInt32).toInt32) &&& (255 : Int32)).toUInt32.toUInt16.toUInt32.toInt32)), .val (.int ((((p2.toUInt32 >>> ((16 : Int32) &&& 31).toUInt32).toInt32) &&& (255 : Int32)).toUInt32.toUInt16.toUInt32.toInt32)), .val (.int (p1 &&& (3 : Int32))), .val (.ref b103), .val .null, .val (.ref r149), .val (.ref em149), .unset] [(.ref em149)]))
          obtain ⟨T157, X157, e157, st157⟩ := instY X156 hx hZ hown w_68 e156 (Ins.self gM149) (g := (mkF m 163 #[.val (.int p0), .val (.int p1), .val (.int p2), .val (.int ((p2 &&& (255 : Int32)).toUInt32.toUInt16.toUInt32.toInt32)), .val (.int ((((p2.toUInt32 >>> ((8 : Int32) &&& 31).toUInt32).toInt32) &&& (255 : Int32)).toUInt32.toUInt16.toUInt32.toInt32)), .val (.int ((((p2.toUInt32 >>> ((16 : Int32) &&& 31).toUInt32).toInt32) &&& (255 : Int32)).toUInt32.toUInt16.toUInt32.toInt32)), .val (.int (p1 &&& (3 : Int32))), .val (.ref b103), .val .null, .val (.ref r149), .val (.ref em149), .unset] [(.ref em149)])) rfl rfl (hb hby at_163)
          refine bk (fun t k => st157 t k) ?_
          show F (T157.setTop (mkF m 166 #[.val (.int p0), .val (.int p1), .val (.int p2), .val (.int ((p2 &&& (255 : Int32)).toUInt32.toUInt16.toUInt32.toInt32)), .val (.int ((((p2.toUInt32 >>> ((8 : Int32) &&& 31).toUInt32).toInt32) &&& (255 : Int32)).toUInt32.toUInt16.toUInt32.toInt32)), .val (.int ((((p2.toUInt32 >>> ((16 : Int32) &&& 31).toUInt32).toInt32) &&& (255 : Int32)).toUInt32.toUInt16.toUInt32.toInt32)), .val (.int (p1 &&& (3 : Int32))), .val (.ref b103), .val .null, .val (.ref r149), .val (.ref em149), .unset] [(.int (1 : Int32))]))
          refine bk (fun t k => XS.ifYes X157.here hx rfl (pc0 := 166) (pc' := 171) rfl (hb hby at_166) rfl ((if0 _ _).trans (feq (by decide : ¬ ((1 : Int32) = (0 : Int32)))).2) (by decide) (by decide) k) ?_
          show F (T157.setTop (mkF m 171 #[.val (.int p0), .val (.int p1), .val (.int p2), .val (.int ((p2 &&& (255 : Int32)).toUInt32.toUInt16.toUInt32.toInt32)), .val (.int ((((p2.toUInt32 >>> ((8 : Int32) &&& 31).toUInt32).toInt32) &&& (255 : Int32)).toUInt32.toUInt16.toUInt32.toInt32)), .val (.int ((((p2.toUInt32 >>> ((16 : Int32) &&& 31).toUInt32).toInt32) &&& (255 : Int32)).toUInt32.toUInt16.toUInt32.toInt32)), .val (.int (p1 &&& (3 : Int32))), .val (.ref b103), .val .null, .val (.ref r149), .val (.ref em149), .unset] []))
          refine bk (fun t k => XS.aload X157.here hx rfl (hb hby at_171) rfl rfl k) ?_
          show F (T157.setTop (mkF m 173 #[.val (.int p0), .val (.int p1), .val (.int p2), .val (.int ((p2 &&& (255 : Int32)).toUInt32.toUInt16.toUInt32.toInt32)), .val (.int ((((p2.toUInt32 >>> ((8 : Int32) &&& 31).toUInt32).toInt32) &&& (255 : Int32)).toUInt32.toUInt16.toUInt32.toInt32)), .val (.int ((((p2.toUInt32 >>> ((16 : Int32) &&& 31).toUInt32).toInt32) &&& (255 : Int32)).toUInt32.toUInt16.toUInt32.toInt32)), .val (.int (p1 &&& (3 : Int32))), .val (.ref b103), .val .null, .val (.ref r149), .val (.ref em149), .unset] [(.ref em149)]))
          obtain ⟨T158, X158, e158, st158⟩ := castY X157 hx hZ hown w_68 e157 (Ins.self gM149) (g := (mkF m 173 #[.val (.int p0), .val (.int p1), .val (.int p2), .val (.int ((p2 &&& (255 : Int32)).toUInt32.toUInt16.toUInt32.toInt32)), .val (.int ((((p2.toUInt32 >>> ((8 : Int32) &&& 31).toUInt32).toInt32) &&& (255 : Int32)).toUInt32.toUInt16.toUInt32.toInt32)), .val (.int ((((p2.toUInt32 >>> ((16 : Int32) &&& 31).toUInt32).toInt32) &&& (255 : Int32)).toUInt32.toUInt16.toUInt32.toInt32)), .val (.int (p1 &&& (3 : Int32))), .val (.ref b103), .val .null, .val (.ref r149), .val (.ref em149), .unset] [(.ref em149)])) rfl rfl (hb hby at_173)
          refine bk (fun t k => st158 t k) ?_
          show F (T158.setTop (mkF m 176 #[.val (.int p0), .val (.int p1), .val (.int p2), .val (.int ((p2 &&& (255 : Int32)).toUInt32.toUInt16.toUInt32.toInt32)), .val (.int ((((p2.toUInt32 >>> ((8 : Int32) &&& 31).toUInt32).toInt32) &&& (255 : Int32)).toUInt32.toUInt16.toUInt32.toInt32)), .val (.int ((((p2.toUInt32 >>> ((16 : Int32) &&& 31).toUInt32).toInt32) &&& (255 : Int32)).toUInt32.toUInt16.toUInt32.toInt32)), .val (.int (p1 &&& (3 : Int32))), .val (.ref b103), .val .null, .val (.ref r149), .val (.ref em149), .unset] [(.ref em149)]))
          obtain ⟨cq159, kq159, q159a, q159b, q159c⟩ := isOf hZ e158 (gM149)
          obtain ⟨_, _, ⟨T159, L159, k159, n159⟩, -, X159, ⟨Lc159, hQ159, l159, y159, z159⟩, st159⟩ := X158.virtualBack hx (y := (⟨"com/example/unabridged_index/unabridgedindex/server/Answer$ErrorMessage", "error", "()Ljava/lang/String;"⟩ : MethodName)) (z := (⟨"com/example/unabridged_index/unabridgedindex/server/Answer$ErrorMessage", "error", "()Ljava/lang/String;"⟩ : MethodName)) hown (mvT hZ w_70) (mvT hZ w_71) (notFace_of_selects (args := #[]) (mvT hZ w_73)) (mvT hZ w_73) (mvT hZ w_72) (by decide) (backOf (W := 0) (rm13n l Z a0 hw [] em149  T149.heap n0 f151 gR149) hZ w_74 w_38 (by decide) (by decide)) q159a q159c (g := (mkF m 176 #[.val (.int p0), .val (.int p1), .val (.int p2), .val (.int ((p2 &&& (255 : Int32)).toUInt32.toUInt16.toUInt32.toInt32)), .val (.int ((((p2.toUInt32 >>> ((8 : Int32) &&& 31).toUInt32).toInt32) &&& (255 : Int32)).toUInt32.toUInt16.toUInt32.toInt32)), .val (.int ((((p2.toUInt32 >>> ((16 : Int32) &&& 31).toUInt32).toInt32) &&& (255 : Int32)).toUInt32.toUInt16.toUInt32.toInt32)), .val (.int (p1 &&& (3 : Int32))), .val (.ref b103), .val .null, .val (.ref r149), .val (.ref em149), .unset] [(.ref em149)])) rfl (by rw [hml]; rfl) (Steps.refl _) (argsL := []) (rest := []) (lenOf pd0___Ljava_lang_String_ rfl) rfl (by show 2 * 0 + _ ≤ _; exact Nat.le_of_eq rfl) (hb hby at_176) (fun _ _ => ⟨rfl, e158, (by decide : 3 + 0 ≤ _), (by decide : 5 + 0 ≤ _)⟩)
          dsimp only [Pt.U, Pt.locs, Pt.cells, Pt.slots] at X159 l159 y159 z159 st159 hQ159
          subst l159 y159 z159
          obtain ⟨rfl, N159q, e159⟩ := hQ159
          have N159 := Fr.app N156 N159q
          refine bk (fun t k => st159.trans k) ?_
          show F (T159.setTop (mkF m 179 #[.val (.int p0), .val (.int p1), .val (.int p2), .val (.int ((p2 &&& (255 : Int32)).toUInt32.toUInt16.toUInt32.toInt32)), .val (.int ((((p2.toUInt32 >>> ((8 : Int32) &&& 31).toUInt32).toInt32) &&& (255 : Int32)).toUInt32.toUInt16.toUInt32.toInt32)), .val (.int ((((p2.toUInt32 >>> ((16 : Int32) &&& 31).toUInt32).toInt32) &&& (255 : Int32)).toUInt32.toUInt16.toUInt32.toInt32)), .val (.int (p1 &&& (3 : Int32))), .val (.ref b103), .val .null, .val (.ref r149), .val (.ref em149), .unset] [.null]))
          refine bk (fun t k => XS.astore X159.here hx rfl (hb hby at_179) rfl rfl (l' := #[.val (.int p0), .val (.int p1), .val (.int p2), .val (.int ((p2 &&& (255 : Int32)).toUInt32.toUInt16.toUInt32.toInt32)), .val (.int ((((p2.toUInt32 >>> ((8 : Int32) &&& 31).toUInt32).toInt32) &&& (255 : Int32)).toUInt32.toUInt16.toUInt32.toInt32)), .val (.int ((((p2.toUInt32 >>> ((16 : Int32) &&& 31).toUInt32).toInt32) &&& (255 : Int32)).toUInt32.toUInt16.toUInt32.toInt32)), .val (.int (p1 &&& (3 : Int32))), .val (.ref b103), .val .null, .val (.ref r149), .val (.ref em149), .val .null]) rfl k) ?_
          show F (T159.setTop (mkF m 181 #[.val (.int p0), .val (.int p1), .val (.int p2), .val (.int ((p2 &&& (255 : Int32)).toUInt32.toUInt16.toUInt32.toInt32)), .val (.int ((((p2.toUInt32 >>> ((8 : Int32) &&& 31).toUInt32).toInt32) &&& (255 : Int32)).toUInt32.toUInt16.toUInt32.toInt32)), .val (.int ((((p2.toUInt32 >>> ((16 : Int32) &&& 31).toUInt32).toInt32) &&& (255 : Int32)).toUInt32.toUInt16.toUInt32.toInt32)), .val (.int (p1 &&& (3 : Int32))), .val (.ref b103), .val .null, .val (.ref r149), .val (.ref em149), .val .null] []))
          refine bk (fun t k => XS.aload X159.here hx rfl (hb hby at_181) rfl rfl k) ?_
          show F (T159.setTop (mkF m 183 #[.val (.int p0), .val (.int p1), .val (.int p2), .val (.int ((p2 &&& (255 : Int32)).toUInt32.toUInt16.toUInt32.toInt32)), .val (.int ((((p2.toUInt32 >>> ((8 : Int32) &&& 31).toUInt32).toInt32) &&& (255 : Int32)).toUInt32.toUInt16.toUInt32.toInt32)), .val (.int ((((p2.toUInt32 >>> ((16 : Int32) &&& 31).toUInt32).toInt32) &&& (255 : Int32)).toUInt32.toUInt16.toUInt32.toInt32)), .val (.int (p1 &&& (3 : Int32))), .val (.ref b103), .val .null, .val (.ref r149), .val (.ref em149), .val .null] [.null]))
          refine bk (fun t k => XS.ifnonnullNo X159.here hx rfl (hb hby at_183) rfl k) ?_
          show F (T159.setTop (mkF m 186 #[.val (.int p0), .val (.int p1), .val (.int p2), .val (.int ((p2 &&& (255 : Int32)).toUInt32.toUInt16.toUInt32.toInt32)), .val (.int ((((p2.toUInt32 >>> ((8 : Int32) &&& 31).toUInt32).toInt32) &&& (255 : Int32)).toUInt32.toUInt16.toUInt32.toInt32)), .val (.int ((((p2.toUInt32 >>> ((16 : Int32) &&& 31).toUInt32).toInt32) &&& (255 : Int32)).toUInt32.toUInt16.toUInt32.toInt32)), .val (.int (p1 &&& (3 : Int32))), .val (.ref b103), .val .null, .val (.ref r149), .val (.ref em149), .val .null] []))
          refine bk (fun t k => XS.aload X159.here hx rfl (hb hby at_186) rfl rfl k) ?_
          show F (T159.setTop (mkF m 188 #[.val (.int p0), .val (.int p1), .val (.int p2), .val (.int ((p2 &&& (255 : Int32)).toUInt32.toUInt16.toUInt32.toInt32)), .val (.int ((((p2.toUInt32 >>> ((8 : Int32) &&& 31).toUInt32).toInt32) &&& (255 : Int32)).toUInt32.toUInt16.toUInt32.toInt32)), .val (.int ((((p2.toUInt32 >>> ((16 : Int32) &&& 31).toUInt32).toInt32) &&& (255 : Int32)).toUInt32.toUInt16.toUInt32.toInt32)), .val (.int (p1 &&& (3 : Int32))), .val (.ref b103), .val .null, .val (.ref r149), .val (.ref em149), .val .null] [.null]))
          refine bk (fun t k => XS.ifnonnullNo X159.here hx rfl (hb hby at_188) rfl k) ?_
          show F (T159.setTop (mkF m 191 #[.val (.int p0), .val (.int p1), .val (.int p2), .val (.int ((p2 &&& (255 : Int32)).toUInt32.toUInt16.toUInt32.toInt32)), .val (.int ((((p2.toUInt32 >>> ((8 : Int32) &&& 31).toUInt32).toInt32) &&& (255 : Int32)).toUInt32.toUInt16.toUInt32.toInt32)), .val (.int ((((p2.toUInt32 >>> ((16 : Int32) &&& 31).toUInt32).toInt32) &&& (255 : Int32)).toUInt32.toUInt16.toUInt32.toInt32)), .val (.int (p1 &&& (3 : Int32))), .val (.ref b103), .val .null, .val (.ref r149), .val (.ref em149), .val .null] []))
          refine bk (fun t k => XS.iconst X159.here hx rfl (hb hby at_191) k) ?_
          show F (T159.setTop (mkF m 192 #[.val (.int p0), .val (.int p1), .val (.int p2), .val (.int ((p2 &&& (255 : Int32)).toUInt32.toUInt16.toUInt32.toInt32)), .val (.int ((((p2.toUInt32 >>> ((8 : Int32) &&& 31).toUInt32).toInt32) &&& (255 : Int32)).toUInt32.toUInt16.toUInt32.toInt32)), .val (.int ((((p2.toUInt32 >>> ((16 : Int32) &&& 31).toUInt32).toInt32) &&& (255 : Int32)).toUInt32.toUInt16.toUInt32.toInt32)), .val (.int (p1 &&& (3 : Int32))), .val (.ref b103), .val .null, .val (.ref r149), .val (.ref em149), .val .null] [(.int (1 : Int32))]))
          refine bk (fun t k => XS.goto X159.here hx rfl (pc0 := 192) (pc' := 196) rfl (hb hby at_192) (by decide) (by decide) k) ?_
          show F (T159.setTop (mkF m 196 #[.val (.int p0), .val (.int p1), .val (.int p2), .val (.int ((p2 &&& (255 : Int32)).toUInt32.toUInt16.toUInt32.toInt32)), .val (.int ((((p2.toUInt32 >>> ((8 : Int32) &&& 31).toUInt32).toInt32) &&& (255 : Int32)).toUInt32.toUInt16.toUInt32.toInt32)), .val (.int ((((p2.toUInt32 >>> ((16 : Int32) &&& 31).toUInt32).toInt32) &&& (255 : Int32)).toUInt32.toUInt16.toUInt32.toInt32)), .val (.int (p1 &&& (3 : Int32))), .val (.ref b103), .val .null, .val (.ref r149), .val (.ref em149), .val .null] [(.int (1 : Int32))]))
          rw [hF]
          refine own_retZW X159 hx hS0 (by rw [e159]; exact f150) Bd.notSynchronized Bd.returns (hb hby at_196) (by decide) (by decide) ?_
          rw [e159]
          exact ⟨rfl, N159⟩
      · refine bk (fun t k => XS.icmpYes X0.here hx rfl (pc0 := 68) (pc' := 88) rfl (hb hby at_68) rfl (feq hc68_102).2 (by decide) (by decide) k) ?_
        show F (s₁.setTop (mkF m 88 #[.val (.int p0), .val (.int p1), .val (.int p2), .val (.int ((p2 &&& (255 : Int32)).toUInt32.toUInt16.toUInt32.toInt32)), .val (.int ((((p2.toUInt32 >>> ((8 : Int32) &&& 31).toUInt32).toInt32) &&& (255 : Int32)).toUInt32.toUInt16.toUInt32.toInt32)), .val (.int ((((p2.toUInt32 >>> ((16 : Int32) &&& 31).toUInt32).toInt32) &&& (255 : Int32)).toUInt32.toUInt16.toUInt32.toInt32)), .val (.int (p1 &&& (3 : Int32))), .unset, .unset, .unset, .unset, .unset] []))
        refine bk (fun t k => XS.iconst X0.here hx rfl (hb hby at_88) k) ?_
        show F (s₁.setTop (mkF m 89 #[.val (.int p0), .val (.int p1), .val (.int p2), .val (.int ((p2 &&& (255 : Int32)).toUInt32.toUInt16.toUInt32.toInt32)), .val (.int ((((p2.toUInt32 >>> ((8 : Int32) &&& 31).toUInt32).toInt32) &&& (255 : Int32)).toUInt32.toUInt16.toUInt32.toInt32)), .val (.int ((((p2.toUInt32 >>> ((16 : Int32) &&& 31).toUInt32).toInt32) &&& (255 : Int32)).toUInt32.toUInt16.toUInt32.toInt32)), .val (.int (p1 &&& (3 : Int32))), .unset, .unset, .unset, .unset, .unset] [(.int (3 : Int32))]))
        obtain ⟨T160, h160, k160, X160, e160, E160, A160, st160⟩ := newP (aty := .char) X0 hx hZ w_0 e0 (g := (mkF m 89 #[.val (.int p0), .val (.int p1), .val (.int p2), .val (.int ((p2 &&& (255 : Int32)).toUInt32.toUInt16.toUInt32.toInt32)), .val (.int ((((p2.toUInt32 >>> ((8 : Int32) &&& 31).toUInt32).toInt32) &&& (255 : Int32)).toUInt32.toUInt16.toUInt32.toInt32)), .val (.int ((((p2.toUInt32 >>> ((16 : Int32) &&& 31).toUInt32).toInt32) &&& (255 : Int32)).toUInt32.toUInt16.toUInt32.toInt32)), .val (.int (p1 &&& (3 : Int32))), .unset, .unset, .unset, .unset, .unset] [(.int (3 : Int32))])) rfl (hb hby at_89) rfl (by decide) (cap := 3) (by decide) (by decide) (by decide) (by decide)
        obtain ⟨b160, g160⟩ : ∃ z, z = h0.size := ⟨_, rfl⟩
        rw [← g160] at A160 st160
        have Gb160 : n0 ≤ b160 := Nat.le_trans Z0 (Nat.le_of_eq g160.symm)
        have f161 := Nat.le_trans (Nat.zero_le _) E160.1
        have f162 := Nat.le_trans Z0 E160.1
        have f163 := O0.ext E160
        have f164 := S_cs.ext E160
        have V_b160 : Arv Z h160 b160 k160 .char (3 : Int32) [(.int (0 : Int32)), (.int (0 : Int32)), (.int (0 : Int32))] (.int (0 : Int32)) := (Arv.new A160 (by decide)).pad (pad_rep [] (.int (0 : Int32)) 3)
        refine bk (fun t k => st160 t k) ?_
        show F (T160.setTop (mkF m 91 #[.val (.int p0), .val (.int p1), .val (.int p2), .val (.int ((p2 &&& (255 : Int32)).toUInt32.toUInt16.toUInt32.toInt32)), .val (.int ((((p2.toUInt32 >>> ((8 : Int32) &&& 31).toUInt32).toInt32) &&& (255 : Int32)).toUInt32.toUInt16.toUInt32.toInt32)), .val (.int ((((p2.toUInt32 >>> ((16 : Int32) &&& 31).toUInt32).toInt32) &&& (255 : Int32)).toUInt32.toUInt16.toUInt32.toInt32)), .val (.int (p1 &&& (3 : Int32))), .unset, .unset, .unset, .unset, .unset] [(.ref b160)]))
        refine bk (fun t k => XS.dup X160.here hx rfl (hb hby at_91) rfl rfl k) ?_
        show F (T160.setTop (mkF m 92 #[.val (.int p0), .val (.int p1), .val (.int p2), .val (.int ((p2 &&& (255 : Int32)).toUInt32.toUInt16.toUInt32.toInt32)), .val (.int ((((p2.toUInt32 >>> ((8 : Int32) &&& 31).toUInt32).toInt32) &&& (255 : Int32)).toUInt32.toUInt16.toUInt32.toInt32)), .val (.int ((((p2.toUInt32 >>> ((16 : Int32) &&& 31).toUInt32).toInt32) &&& (255 : Int32)).toUInt32.toUInt16.toUInt32.toInt32)), .val (.int (p1 &&& (3 : Int32))), .unset, .unset, .unset, .unset, .unset] [(.ref b160), (.ref b160)]))
        refine bk (fun t k => XS.iconst X160.here hx rfl (hb hby at_92) k) ?_
        show F (T160.setTop (mkF m 93 #[.val (.int p0), .val (.int p1), .val (.int p2), .val (.int ((p2 &&& (255 : Int32)).toUInt32.toUInt16.toUInt32.toInt32)), .val (.int ((((p2.toUInt32 >>> ((8 : Int32) &&& 31).toUInt32).toInt32) &&& (255 : Int32)).toUInt32.toUInt16.toUInt32.toInt32)), .val (.int ((((p2.toUInt32 >>> ((16 : Int32) &&& 31).toUInt32).toInt32) &&& (255 : Int32)).toUInt32.toUInt16.toUInt32.toInt32)), .val (.int (p1 &&& (3 : Int32))), .unset, .unset, .unset, .unset, .unset] [(.int (0 : Int32)), (.ref b160), (.ref b160)]))
        refine bk (fun t k => XS.iloadN X160.here hx rfl (hb hby at_93) rfl k) ?_
        show F (T160.setTop (mkF m 94 #[.val (.int p0), .val (.int p1), .val (.int p2), .val (.int ((p2 &&& (255 : Int32)).toUInt32.toUInt16.toUInt32.toInt32)), .val (.int ((((p2.toUInt32 >>> ((8 : Int32) &&& 31).toUInt32).toInt32) &&& (255 : Int32)).toUInt32.toUInt16.toUInt32.toInt32)), .val (.int ((((p2.toUInt32 >>> ((16 : Int32) &&& 31).toUInt32).toInt32) &&& (255 : Int32)).toUInt32.toUInt16.toUInt32.toInt32)), .val (.int (p1 &&& (3 : Int32))), .unset, .unset, .unset, .unset, .unset] [(.int ((p2 &&& (255 : Int32)).toUInt32.toUInt16.toUInt32.toInt32)), (.int (0 : Int32)), (.ref b160), (.ref b160)]))
        have vv165 := V_b160
        obtain ⟨cl165, Ar165, q165, S165, M165, H165, G165⟩ := vv165
        have hin165 : ¬ ((0 : Int32) < 0 ∨ cl165.slots.size ≤ ((0 : Int32)).toNatClampNeg) := inb_of S165 ⟨by decide, by decide⟩
        obtain ⟨T165, h165, X165, e165, W165, st165⟩ := stC X160 hx hZ e160 Ar165 (j := (0 : Int32)) hin165 (g := (mkF m 94 #[.val (.int p0), .val (.int p1), .val (.int p2), .val (.int ((p2 &&& (255 : Int32)).toUInt32.toUInt16.toUInt32.toInt32)), .val (.int ((((p2.toUInt32 >>> ((8 : Int32) &&& 31).toUInt32).toInt32) &&& (255 : Int32)).toUInt32.toUInt16.toUInt32.toInt32)), .val (.int ((((p2.toUInt32 >>> ((16 : Int32) &&& 31).toUInt32).toInt32) &&& (255 : Int32)).toUInt32.toUInt16.toUInt32.toInt32)), .val (.int (p1 &&& (3 : Int32))), .unset, .unset, .unset, .unset, .unset] [(.int ((p2 &&& (255 : Int32)).toUInt32.toUInt16.toUInt32.toInt32)), (.int (0 : Int32)), (.ref b160), (.ref b160)])) rfl rfl (hb hby at_94)
        have V_b160_165 : Arv Z h165 b160 k160 .char (3 : Int32) [(.int (nar .char ((p2 &&& (255 : Int32)).toUInt32.toUInt16.toUInt32.toInt32))), (.int (0 : Int32)), (.int (0 : Int32))] (.int (0 : Int32)) := Arv.set Ar165 q165 S165 M165 H165 G165 (fits_nar_char _) W165 0 rfl (Nat.le_of_ble_eq_true rfl)
        have f166 := Nat.le_trans f161 (Keep.of_wr W165).1
        have f167 := Nat.le_trans f162 (Keep.of_wr W165).1
        have f168 := f163.wr W165 Gb160
        have f169 := f164.wr W165
        have N165 := Fr.snoc X165 N0 Gb160
        refine bk (fun t k => st165 t k) ?_
        show F (T165.setTop (mkF m 95 #[.val (.int p0), .val (.int p1), .val (.int p2), .val (.int ((p2 &&& (255 : Int32)).toUInt32.toUInt16.toUInt32.toInt32)), .val (.int ((((p2.toUInt32 >>> ((8 : Int32) &&& 31).toUInt32).toInt32) &&& (255 : Int32)).toUInt32.toUInt16.toUInt32.toInt32)), .val (.int ((((p2.toUInt32 >>> ((16 : Int32) &&& 31).toUInt32).toInt32) &&& (255 : Int32)).toUInt32.toUInt16.toUInt32.toInt32)), .val (.int (p1 &&& (3 : Int32))), .unset, .unset, .unset, .unset, .unset] [(.ref b160)]))
        refine bk (fun t k => XS.dup X165.here hx rfl (hb hby at_95) rfl rfl k) ?_
        show F (T165.setTop (mkF m 96 #[.val (.int p0), .val (.int p1), .val (.int p2), .val (.int ((p2 &&& (255 : Int32)).toUInt32.toUInt16.toUInt32.toInt32)), .val (.int ((((p2.toUInt32 >>> ((8 : Int32) &&& 31).toUInt32).toInt32) &&& (255 : Int32)).toUInt32.toUInt16.toUInt32.toInt32)), .val (.int ((((p2.toUInt32 >>> ((16 : Int32) &&& 31).toUInt32).toInt32) &&& (255 : Int32)).toUInt32.toUInt16.toUInt32.toInt32)), .val (.int (p1 &&& (3 : Int32))), .unset, .unset, .unset, .unset, .unset] [(.ref b160), (.ref b160)]))
        refine bk (fun t k => XS.iconst X165.here hx rfl (hb hby at_96) k) ?_
        show F (T165.setTop (mkF m 97 #[.val (.int p0), .val (.int p1), .val (.int p2), .val (.int ((p2 &&& (255 : Int32)).toUInt32.toUInt16.toUInt32.toInt32)), .val (.int ((((p2.toUInt32 >>> ((8 : Int32) &&& 31).toUInt32).toInt32) &&& (255 : Int32)).toUInt32.toUInt16.toUInt32.toInt32)), .val (.int ((((p2.toUInt32 >>> ((16 : Int32) &&& 31).toUInt32).toInt32) &&& (255 : Int32)).toUInt32.toUInt16.toUInt32.toInt32)), .val (.int (p1 &&& (3 : Int32))), .unset, .unset, .unset, .unset, .unset] [(.int (1 : Int32)), (.ref b160), (.ref b160)]))
        refine bk (fun t k => XS.iload X165.here hx rfl (hb hby at_97) rfl k) ?_
        show F (T165.setTop (mkF m 99 #[.val (.int p0), .val (.int p1), .val (.int p2), .val (.int ((p2 &&& (255 : Int32)).toUInt32.toUInt16.toUInt32.toInt32)), .val (.int ((((p2.toUInt32 >>> ((8 : Int32) &&& 31).toUInt32).toInt32) &&& (255 : Int32)).toUInt32.toUInt16.toUInt32.toInt32)), .val (.int ((((p2.toUInt32 >>> ((16 : Int32) &&& 31).toUInt32).toInt32) &&& (255 : Int32)).toUInt32.toUInt16.toUInt32.toInt32)), .val (.int (p1 &&& (3 : Int32))), .unset, .unset, .unset, .unset, .unset] [(.int ((((p2.toUInt32 >>> ((8 : Int32) &&& 31).toUInt32).toInt32) &&& (255 : Int32)).toUInt32.toUInt16.toUInt32.toInt32)), (.int (1 : Int32)), (.ref b160), (.ref b160)]))
        have vv170 := V_b160_165
        obtain ⟨cl170, Ar170, q170, S170, M170, H170, G170⟩ := vv170
        have hin170 : ¬ ((1 : Int32) < 0 ∨ cl170.slots.size ≤ ((1 : Int32)).toNatClampNeg) := inb_of S170 ⟨by decide, by decide⟩
        obtain ⟨T170, h170, X170, e170, W170, st170⟩ := stC X165 hx hZ e165 Ar170 (j := (1 : Int32)) hin170 (g := (mkF m 99 #[.val (.int p0), .val (.int p1), .val (.int p2), .val (.int ((p2 &&& (255 : Int32)).toUInt32.toUInt16.toUInt32.toInt32)), .val (.int ((((p2.toUInt32 >>> ((8 : Int32) &&& 31).toUInt32).toInt32) &&& (255 : Int32)).toUInt32.toUInt16.toUInt32.toInt32)), .val (.int ((((p2.toUInt32 >>> ((16 : Int32) &&& 31).toUInt32).toInt32) &&& (255 : Int32)).toUInt32.toUInt16.toUInt32.toInt32)), .val (.int (p1 &&& (3 : Int32))), .unset, .unset, .unset, .unset, .unset] [(.int ((((p2.toUInt32 >>> ((8 : Int32) &&& 31).toUInt32).toInt32) &&& (255 : Int32)).toUInt32.toUInt16.toUInt32.toInt32)), (.int (1 : Int32)), (.ref b160), (.ref b160)])) rfl rfl (hb hby at_99)
        have V_b160_170 : Arv Z h170 b160 k160 .char (3 : Int32) [(.int (nar .char ((p2 &&& (255 : Int32)).toUInt32.toUInt16.toUInt32.toInt32))), (.int (nar .char ((((p2.toUInt32 >>> ((8 : Int32) &&& 31).toUInt32).toInt32) &&& (255 : Int32)).toUInt32.toUInt16.toUInt32.toInt32))), (.int (0 : Int32))] (.int (0 : Int32)) := Arv.set Ar170 q170 S170 M170 H170 G170 (fits_nar_char _) W170 1 rfl (Nat.le_of_ble_eq_true rfl)
        have f171 := Nat.le_trans f166 (Keep.of_wr W170).1
        have f172 := Nat.le_trans f167 (Keep.of_wr W170).1
        have f173 := f168.wr W170 Gb160
        have f174 := f169.wr W170
        have N170 := Fr.snoc X170 N165 Gb160
        refine bk (fun t k => st170 t k) ?_
        show F (T170.setTop (mkF m 100 #[.val (.int p0), .val (.int p1), .val (.int p2), .val (.int ((p2 &&& (255 : Int32)).toUInt32.toUInt16.toUInt32.toInt32)), .val (.int ((((p2.toUInt32 >>> ((8 : Int32) &&& 31).toUInt32).toInt32) &&& (255 : Int32)).toUInt32.toUInt16.toUInt32.toInt32)), .val (.int ((((p2.toUInt32 >>> ((16 : Int32) &&& 31).toUInt32).toInt32) &&& (255 : Int32)).toUInt32.toUInt16.toUInt32.toInt32)), .val (.int (p1 &&& (3 : Int32))), .unset, .unset, .unset, .unset, .unset] [(.ref b160)]))
        refine bk (fun t k => XS.dup X170.here hx rfl (hb hby at_100) rfl rfl k) ?_
        show F (T170.setTop (mkF m 101 #[.val (.int p0), .val (.int p1), .val (.int p2), .val (.int ((p2 &&& (255 : Int32)).toUInt32.toUInt16.toUInt32.toInt32)), .val (.int ((((p2.toUInt32 >>> ((8 : Int32) &&& 31).toUInt32).toInt32) &&& (255 : Int32)).toUInt32.toUInt16.toUInt32.toInt32)), .val (.int ((((p2.toUInt32 >>> ((16 : Int32) &&& 31).toUInt32).toInt32) &&& (255 : Int32)).toUInt32.toUInt16.toUInt32.toInt32)), .val (.int (p1 &&& (3 : Int32))), .unset, .unset, .unset, .unset, .unset] [(.ref b160), (.ref b160)]))
        refine bk (fun t k => XS.iconst X170.here hx rfl (hb hby at_101) k) ?_
        show F (T170.setTop (mkF m 102 #[.val (.int p0), .val (.int p1), .val (.int p2), .val (.int ((p2 &&& (255 : Int32)).toUInt32.toUInt16.toUInt32.toInt32)), .val (.int ((((p2.toUInt32 >>> ((8 : Int32) &&& 31).toUInt32).toInt32) &&& (255 : Int32)).toUInt32.toUInt16.toUInt32.toInt32)), .val (.int ((((p2.toUInt32 >>> ((16 : Int32) &&& 31).toUInt32).toInt32) &&& (255 : Int32)).toUInt32.toUInt16.toUInt32.toInt32)), .val (.int (p1 &&& (3 : Int32))), .unset, .unset, .unset, .unset, .unset] [(.int (2 : Int32)), (.ref b160), (.ref b160)]))
        refine bk (fun t k => XS.iload X170.here hx rfl (hb hby at_102) rfl k) ?_
        show F (T170.setTop (mkF m 104 #[.val (.int p0), .val (.int p1), .val (.int p2), .val (.int ((p2 &&& (255 : Int32)).toUInt32.toUInt16.toUInt32.toInt32)), .val (.int ((((p2.toUInt32 >>> ((8 : Int32) &&& 31).toUInt32).toInt32) &&& (255 : Int32)).toUInt32.toUInt16.toUInt32.toInt32)), .val (.int ((((p2.toUInt32 >>> ((16 : Int32) &&& 31).toUInt32).toInt32) &&& (255 : Int32)).toUInt32.toUInt16.toUInt32.toInt32)), .val (.int (p1 &&& (3 : Int32))), .unset, .unset, .unset, .unset, .unset] [(.int ((((p2.toUInt32 >>> ((16 : Int32) &&& 31).toUInt32).toInt32) &&& (255 : Int32)).toUInt32.toUInt16.toUInt32.toInt32)), (.int (2 : Int32)), (.ref b160), (.ref b160)]))
        have vv175 := V_b160_170
        obtain ⟨cl175, Ar175, q175, S175, M175, H175, G175⟩ := vv175
        have hin175 : ¬ ((2 : Int32) < 0 ∨ cl175.slots.size ≤ ((2 : Int32)).toNatClampNeg) := inb_of S175 ⟨by decide, by decide⟩
        obtain ⟨T175, h175, X175, e175, W175, st175⟩ := stC X170 hx hZ e170 Ar175 (j := (2 : Int32)) hin175 (g := (mkF m 104 #[.val (.int p0), .val (.int p1), .val (.int p2), .val (.int ((p2 &&& (255 : Int32)).toUInt32.toUInt16.toUInt32.toInt32)), .val (.int ((((p2.toUInt32 >>> ((8 : Int32) &&& 31).toUInt32).toInt32) &&& (255 : Int32)).toUInt32.toUInt16.toUInt32.toInt32)), .val (.int ((((p2.toUInt32 >>> ((16 : Int32) &&& 31).toUInt32).toInt32) &&& (255 : Int32)).toUInt32.toUInt16.toUInt32.toInt32)), .val (.int (p1 &&& (3 : Int32))), .unset, .unset, .unset, .unset, .unset] [(.int ((((p2.toUInt32 >>> ((16 : Int32) &&& 31).toUInt32).toInt32) &&& (255 : Int32)).toUInt32.toUInt16.toUInt32.toInt32)), (.int (2 : Int32)), (.ref b160), (.ref b160)])) rfl rfl (hb hby at_104)
        have V_b160_175 : Arv Z h175 b160 k160 .char (3 : Int32) [(.int (nar .char ((p2 &&& (255 : Int32)).toUInt32.toUInt16.toUInt32.toInt32))), (.int (nar .char ((((p2.toUInt32 >>> ((8 : Int32) &&& 31).toUInt32).toInt32) &&& (255 : Int32)).toUInt32.toUInt16.toUInt32.toInt32))), (.int (nar .char ((((p2.toUInt32 >>> ((16 : Int32) &&& 31).toUInt32).toInt32) &&& (255 : Int32)).toUInt32.toUInt16.toUInt32.toInt32)))] (.int (0 : Int32)) := Arv.set Ar175 q175 S175 M175 H175 G175 (fits_nar_char _) W175 2 rfl (Nat.le_of_ble_eq_true rfl)
        have f176 := Nat.le_trans f171 (Keep.of_wr W175).1
        have f177 := Nat.le_trans f172 (Keep.of_wr W175).1
        have f178 := f173.wr W175 Gb160
        have f179 := f174.wr W175
        have N175 := Fr.snoc X175 N170 Gb160
        refine bk (fun t k => st175 t k) ?_
        show F (T175.setTop (mkF m 105 #[.val (.int p0), .val (.int p1), .val (.int p2), .val (.int ((p2 &&& (255 : Int32)).toUInt32.toUInt16.toUInt32.toInt32)), .val (.int ((((p2.toUInt32 >>> ((8 : Int32) &&& 31).toUInt32).toInt32) &&& (255 : Int32)).toUInt32.toUInt16.toUInt32.toInt32)), .val (.int ((((p2.toUInt32 >>> ((16 : Int32) &&& 31).toUInt32).toInt32) &&& (255 : Int32)).toUInt32.toUInt16.toUInt32.toInt32)), .val (.int (p1 &&& (3 : Int32))), .unset, .unset, .unset, .unset, .unset] [(.ref b160)]))
        refine bk (fun t k => XS.astore X175.here hx rfl (hb hby at_105) rfl rfl (l' := #[.val (.int p0), .val (.int p1), .val (.int p2), .val (.int ((p2 &&& (255 : Int32)).toUInt32.toUInt16.toUInt32.toInt32)), .val (.int ((((p2.toUInt32 >>> ((8 : Int32) &&& 31).toUInt32).toInt32) &&& (255 : Int32)).toUInt32.toUInt16.toUInt32.toInt32)), .val (.int ((((p2.toUInt32 >>> ((16 : Int32) &&& 31).toUInt32).toInt32) &&& (255 : Int32)).toUInt32.toUInt16.toUInt32.toInt32)), .val (.int (p1 &&& (3 : Int32))), .val (.ref b160), .unset, .unset, .unset, .unset]) rfl k) ?_
        show F (T175.setTop (mkF m 107 #[.val (.int p0), .val (.int p1), .val (.int p2), .val (.int ((p2 &&& (255 : Int32)).toUInt32.toUInt16.toUInt32.toInt32)), .val (.int ((((p2.toUInt32 >>> ((8 : Int32) &&& 31).toUInt32).toInt32) &&& (255 : Int32)).toUInt32.toUInt16.toUInt32.toInt32)), .val (.int ((((p2.toUInt32 >>> ((16 : Int32) &&& 31).toUInt32).toInt32) &&& (255 : Int32)).toUInt32.toUInt16.toUInt32.toInt32)), .val (.int (p1 &&& (3 : Int32))), .val (.ref b160), .unset, .unset, .unset, .unset] []))
        refine bk (fun t k => XS.iloadN X175.here hx rfl (hb hby at_107) rfl k) ?_
        show F (T175.setTop (mkF m 108 #[.val (.int p0), .val (.int p1), .val (.int p2), .val (.int ((p2 &&& (255 : Int32)).toUInt32.toUInt16.toUInt32.toInt32)), .val (.int ((((p2.toUInt32 >>> ((8 : Int32) &&& 31).toUInt32).toInt32) &&& (255 : Int32)).toUInt32.toUInt16.toUInt32.toInt32)), .val (.int ((((p2.toUInt32 >>> ((16 : Int32) &&& 31).toUInt32).toInt32) &&& (255 : Int32)).toUInt32.toUInt16.toUInt32.toInt32)), .val (.int (p1 &&& (3 : Int32))), .val (.ref b160), .unset, .unset, .unset, .unset] [(.int p1)]))
        refine bk (fun t k => XS.iconst X175.here hx rfl (hb hby at_108) k) ?_
        show F (T175.setTop (mkF m 109 #[.val (.int p0), .val (.int p1), .val (.int p2), .val (.int ((p2 &&& (255 : Int32)).toUInt32.toUInt16.toUInt32.toInt32)), .val (.int ((((p2.toUInt32 >>> ((8 : Int32) &&& 31).toUInt32).toInt32) &&& (255 : Int32)).toUInt32.toUInt16.toUInt32.toInt32)), .val (.int ((((p2.toUInt32 >>> ((16 : Int32) &&& 31).toUInt32).toInt32) &&& (255 : Int32)).toUInt32.toUInt16.toUInt32.toInt32)), .val (.int (p1 &&& (3 : Int32))), .val (.ref b160), .unset, .unset, .unset, .unset] [(.int (4 : Int32)), (.int p1)]))
        refine bk (fun t k => XS.iand X175.here hx rfl (hb hby at_109) rfl k) ?_
        show F (T175.setTop (mkF m 110 #[.val (.int p0), .val (.int p1), .val (.int p2), .val (.int ((p2 &&& (255 : Int32)).toUInt32.toUInt16.toUInt32.toInt32)), .val (.int ((((p2.toUInt32 >>> ((8 : Int32) &&& 31).toUInt32).toInt32) &&& (255 : Int32)).toUInt32.toUInt16.toUInt32.toInt32)), .val (.int ((((p2.toUInt32 >>> ((16 : Int32) &&& 31).toUInt32).toInt32) &&& (255 : Int32)).toUInt32.toUInt16.toUInt32.toInt32)), .val (.int (p1 &&& (3 : Int32))), .val (.ref b160), .unset, .unset, .unset, .unset] [(.int (p1 &&& (4 : Int32)))]))
        by_cases hc110_180 : (p1 &&& (4 : Int32)) = (0 : Int32)
        · refine bk (fun t k => XS.ifYes X175.here hx rfl (pc0 := 110) (pc' := 117) rfl (hb hby at_110) rfl ((if0 _ _).trans (teq hc110_180).1) (by decide) (by decide) k) ?_
          show F (T175.setTop (mkF m 117 #[.val (.int p0), .val (.int p1), .val (.int p2), .val (.int ((p2 &&& (255 : Int32)).toUInt32.toUInt16.toUInt32.toInt32)), .val (.int ((((p2.toUInt32 >>> ((8 : Int32) &&& 31).toUInt32).toInt32) &&& (255 : Int32)).toUInt32.toUInt16.toUInt32.toInt32)), .val (.int ((((p2.toUInt32 >>> ((16 : Int32) &&& 31).toUInt32).toInt32) &&& (255 : Int32)).toUInt32.toUInt16.toUInt32.toInt32)), .val (.int (p1 &&& (3 : Int32))), .val (.ref b160), .unset, .unset, .unset, .unset] []))
          obtain ⟨T181, h181, X181, e181, E181, A181, D181, -, st181⟩ := newO X175 hx hZ hown w_1 w_2 w_3 e175 (g := (mkF m 117 #[.val (.int p0), .val (.int p1), .val (.int p2), .val (.int ((p2 &&& (255 : Int32)).toUInt32.toUInt16.toUInt32.toInt32)), .val (.int ((((p2.toUInt32 >>> ((8 : Int32) &&& 31).toUInt32).toInt32) &&& (255 : Int32)).toUInt32.toUInt16.toUInt32.toInt32)), .val (.int ((((p2.toUInt32 >>> ((16 : Int32) &&& 31).toUInt32).toInt32) &&& (255 : Int32)).toUInt32.toUInt16.toUInt32.toInt32)), .val (.int (p1 &&& (3 : Int32))), .val (.ref b160), .unset, .unset, .unset, .unset] [])) rfl (hb hby at_117) (by decide) (by decide)
          obtain ⟨b181, g181⟩ : ∃ z, z = h175.size := ⟨_, rfl⟩
          rw [← g181] at A181 D181 st181
          have Gb181 : n0 ≤ b181 := Nat.le_trans f177 (Nat.le_of_eq g181.symm)
          have ne_b160_b181 : b160 ≠ b181 := Nat.ne_of_lt (Nat.lt_of_lt_of_le V_b160_175.lt (Nat.le_of_eq g181.symm))
          have f182 := Nat.le_trans f176 E181.1
          have f183 := Nat.le_trans f177 E181.1
          have f184 := f178.ext E181
          have f185 := f179.ext E181
          have f186 := V_b160_175.ext E181
          have F_coder_b181 : Fld Z h181 b181 "java/lang/String" "coder" "B" (.int (0 : Int32)) := D181 (Or.inr w_27) (ty := .byte) (by decide)
          have F_value_b181 : Fld Z h181 b181 "java/lang/String" "value" "[B" .null := D181 (Or.inr w_29) (ty := (.array .byte)) (by decide)
          refine bk (fun t k => st181 t k) ?_
          show F (T181.setTop (mkF m 120 #[.val (.int p0), .val (.int p1), .val (.int p2), .val (.int ((p2 &&& (255 : Int32)).toUInt32.toUInt16.toUInt32.toInt32)), .val (.int ((((p2.toUInt32 >>> ((8 : Int32) &&& 31).toUInt32).toInt32) &&& (255 : Int32)).toUInt32.toUInt16.toUInt32.toInt32)), .val (.int ((((p2.toUInt32 >>> ((16 : Int32) &&& 31).toUInt32).toInt32) &&& (255 : Int32)).toUInt32.toUInt16.toUInt32.toInt32)), .val (.int (p1 &&& (3 : Int32))), .val (.ref b160), .unset, .unset, .unset, .unset] [(.ref b181)]))
          refine bk (fun t k => XS.dup X181.here hx rfl (hb hby at_120) rfl rfl k) ?_
          show F (T181.setTop (mkF m 121 #[.val (.int p0), .val (.int p1), .val (.int p2), .val (.int ((p2 &&& (255 : Int32)).toUInt32.toUInt16.toUInt32.toInt32)), .val (.int ((((p2.toUInt32 >>> ((8 : Int32) &&& 31).toUInt32).toInt32) &&& (255 : Int32)).toUInt32.toUInt16.toUInt32.toInt32)), .val (.int ((((p2.toUInt32 >>> ((16 : Int32) &&& 31).toUInt32).toInt32) &&& (255 : Int32)).toUInt32.toUInt16.toUInt32.toInt32)), .val (.int (p1 &&& (3 : Int32))), .val (.ref b160), .unset, .unset, .unset, .unset] [(.ref b181), (.ref b181)]))
          refine bk (fun t k => XS.aload X181.here hx rfl (hb hby at_121) rfl rfl k) ?_
          show F (T181.setTop (mkF m 123 #[.val (.int p0), .val (.int p1), .val (.int p2), .val (.int ((p2 &&& (255 : Int32)).toUInt32.toUInt16.toUInt32.toInt32)), .val (.int ((((p2.toUInt32 >>> ((8 : Int32) &&& 31).toUInt32).toInt32) &&& (255 : Int32)).toUInt32.toUInt16.toUInt32.toInt32)), .val (.int ((((p2.toUInt32 >>> ((16 : Int32) &&& 31).toUInt32).toInt32) &&& (255 : Int32)).toUInt32.toUInt16.toUInt32.toInt32)), .val (.int (p1 &&& (3 : Int32))), .val (.ref b160), .unset, .unset, .unset, .unset] [(.ref b160), (.ref b181), (.ref b181)]))
          obtain ⟨_, _, ⟨T187, L187, k187, n187⟩, -, X187, ⟨Lc187, hQ187, l187, y187, z187⟩, st187⟩ := X181.specialBack hx (y := (⟨"java/lang/String", "<init>", "([C)V"⟩ : MethodName)) rfl hown (mvT hZ w_4) (mvT hZ w_5) (mvT hZ w_6) (by decide) (backOf (W := 1) (rm1_3 l Z a0 hw [] b181 b160 k160 cs (nar .char ((p2 &&& (255 : Int32)).toUInt32.toUInt16.toUInt32.toInt32)) (nar .char ((((p2.toUInt32 >>> ((8 : Int32) &&& 31).toUInt32).toInt32) &&& (255 : Int32)).toUInt32.toUInt16.toUInt32.toInt32)) (nar .char ((((p2.toUInt32 >>> ((16 : Int32) &&& 31).toUInt32).toInt32) &&& (255 : Int32)).toUInt32.toUInt16.toUInt32.toInt32)) h181 n0 f183 A181 F_value_b181 F_coder_b181 Gb181 f186 (Ne.symm ne_b160_b181) f185 hcs (own_ch _) (own_ch _) (own_ch _)) hZ w_6 w_3 (by decide) (by decide)) (g := (mkF m 123 #[.val (.int p0), .val (.int p1), .val (.int p2), .val (.int ((p2 &&& (255 : Int32)).toUInt32.toUInt16.toUInt32.toInt32)), .val (.int ((((p2.toUInt32 >>> ((8 : Int32) &&& 31).toUInt32).toInt32) &&& (255 : Int32)).toUInt32.toUInt16.toUInt32.toInt32)), .val (.int ((((p2.toUInt32 >>> ((16 : Int32) &&& 31).toUInt32).toInt32) &&& (255 : Int32)).toUInt32.toUInt16.toUInt32.toInt32)), .val (.int (p1 &&& (3 : Int32))), .val (.ref b160), .unset, .unset, .unset, .unset] [(.ref b160), (.ref b181), (.ref b181)])) rfl (by rw [hml]; rfl) (Steps.refl _) (a := b181) (argsL := [(.ref b160)]) (rest := [(.ref b181)]) (lenOf pd0___C_V rfl) rfl (by show 2 * 0 + _ ≤ _; exact Nat.le_of_eq rfl) (hb hby at_123) (fun _ _ => ⟨rfl, e181, (by decide : 2 + 1 ≤ _), (by decide : 7 + 3 ≤ _)⟩)
          dsimp only [Pt.U, Pt.locs, Pt.cells, Pt.slots] at X187 l187 y187 z187 st187 hQ187
          subst l187 y187 z187
          obtain ⟨rfl, N187q, K187, gE187, gC187, r187, kd187, gF187, gV187⟩ := hQ187
          have N187 := Fr.app N175 N187q
          have f188 := Nat.le_trans f182 K187.1
          have f189 := Nat.le_trans f183 K187.1
          have f190 := f184.keep K187 (allS Gb181 all0)
          have f191 := own_sta1 f185 K187 A181
          have f192 := f186.keep K187 (ninS ne_b160_b181 nin0)
          have f193 := A181.keep K187
          refine bk (fun t k => st187.trans k) ?_
          show F (T187.setTop (mkF m 126 #[.val (.int p0), .val (.int p1), .val (.int p2), .val (.int ((p2 &&& (255 : Int32)).toUInt32.toUInt16.toUInt32.toInt32)), .val (.int ((((p2.toUInt32 >>> ((8 : Int32) &&& 31).toUInt32).toInt32) &&& (255 : Int32)).toUInt32.toUInt16.toUInt32.toInt32)), .val (.int ((((p2.toUInt32 >>> ((16 : Int32) &&& 31).toUInt32).toInt32) &&& (255 : Int32)).toUInt32.toUInt16.toUInt32.toInt32)), .val (.int (p1 &&& (3 : Int32))), .val (.ref b160), .unset, .unset, .unset, .unset] [(.ref b181)]))
          refine bk (fun t k => XS.astore X187.here hx rfl (hb hby at_126) rfl rfl (l' := #[.val (.int p0), .val (.int p1), .val (.int p2), .val (.int ((p2 &&& (255 : Int32)).toUInt32.toUInt16.toUInt32.toInt32)), .val (.int ((((p2.toUInt32 >>> ((8 : Int32) &&& 31).toUInt32).toInt32) &&& (255 : Int32)).toUInt32.toUInt16.toUInt32.toInt32)), .val (.int ((((p2.toUInt32 >>> ((16 : Int32) &&& 31).toUInt32).toInt32) &&& (255 : Int32)).toUInt32.toUInt16.toUInt32.toInt32)), .val (.int (p1 &&& (3 : Int32))), .val (.ref b160), .val (.ref b181), .unset, .unset, .unset]) rfl k) ?_
          show F (T187.setTop (mkF m 128 #[.val (.int p0), .val (.int p1), .val (.int p2), .val (.int ((p2 &&& (255 : Int32)).toUInt32.toUInt16.toUInt32.toInt32)), .val (.int ((((p2.toUInt32 >>> ((8 : Int32) &&& 31).toUInt32).toInt32) &&& (255 : Int32)).toUInt32.toUInt16.toUInt32.toInt32)), .val (.int ((((p2.toUInt32 >>> ((16 : Int32) &&& 31).toUInt32).toInt32) &&& (255 : Int32)).toUInt32.toUInt16.toUInt32.toInt32)), .val (.int (p1 &&& (3 : Int32))), .val (.ref b160), .val (.ref b181), .unset, .unset, .unset] []))
          refine bk (fun t k => XS.iloadN X187.here hx rfl (hb hby at_128) rfl k) ?_
          show F (T187.setTop (mkF m 129 #[.val (.int p0), .val (.int p1), .val (.int p2), .val (.int ((p2 &&& (255 : Int32)).toUInt32.toUInt16.toUInt32.toInt32)), .val (.int ((((p2.toUInt32 >>> ((8 : Int32) &&& 31).toUInt32).toInt32) &&& (255 : Int32)).toUInt32.toUInt16.toUInt32.toInt32)), .val (.int ((((p2.toUInt32 >>> ((16 : Int32) &&& 31).toUInt32).toInt32) &&& (255 : Int32)).toUInt32.toUInt16.toUInt32.toInt32)), .val (.int (p1 &&& (3 : Int32))), .val (.ref b160), .val (.ref b181), .unset, .unset, .unset] [(.int p0)]))
          refine bk (fun t k => XS.aload X187.here hx rfl (hb hby at_129) rfl rfl k) ?_
          show F (T187.setTop (mkF m 131 #[.val (.int p0), .val (.int p1), .val (.int p2), .val (.int ((p2 &&& (255 : Int32)).toUInt32.toUInt16.toUInt32.toInt32)), .val (.int ((((p2.toUInt32 >>> ((8 : Int32) &&& 31).toUInt32).toInt32) &&& (255 : Int32)).toUInt32.toUInt16.toUInt32.toInt32)), .val (.int ((((p2.toUInt32 >>> ((16 : Int32) &&& 31).toUInt32).toInt32) &&& (255 : Int32)).toUInt32.toUInt16.toUInt32.toInt32)), .val (.int (p1 &&& (3 : Int32))), .val (.ref b160), .val (.ref b181), .unset, .unset, .unset] [(.ref b181), (.int p0)]))
          obtain ⟨_, _, ⟨T194, L194, k194, n194⟩, -, X194, ⟨Lc194, hQ194, l194, y194, z194⟩, st194⟩ := Jvm.LawKit.callS X187 hx (y := (⟨"com/example/unabridged_index/unabridgedindex/server/Answer", "error", "(ILjava/lang/String;)Lcom/example/unabridged_index/unabridgedindex/server/Answer;"⟩ : MethodName)) hown (mvT hZ w_30) (mvT hZ w_31) (mvT hZ w_32) (mvT hZ w_33) (by decide) (backOf (W := 0) (rm7s l Z a0 hw [] p0 b181 T187.heap n0 f189) hZ w_33 w_32 (by decide) (by decide)) (g := (mkF m 131 #[.val (.int p0), .val (.int p1), .val (.int p2), .val (.int ((p2 &&& (255 : Int32)).toUInt32.toUInt16.toUInt32.toInt32)), .val (.int ((((p2.toUInt32 >>> ((8 : Int32) &&& 31).toUInt32).toInt32) &&& (255 : Int32)).toUInt32.toUInt16.toUInt32.toInt32)), .val (.int ((((p2.toUInt32 >>> ((16 : Int32) &&& 31).toUInt32).toInt32) &&& (255 : Int32)).toUInt32.toUInt16.toUInt32.toInt32)), .val (.int (p1 &&& (3 : Int32))), .val (.ref b160), .val (.ref b181), .unset, .unset, .unset] [(.ref b181), (.int p0)])) rfl (by rw [hml]; rfl) (argsL := [(.int p0), (.ref b181)]) (rest := []) (lenOf pd0__ILjava_lang_String__Lcom_example_unabridged_index_unabridgedindex_server_Answer_ rfl) rfl (by show 2 * 0 + _ ≤ _; exact Nat.le_of_eq rfl) (hb hby at_131) (fun _ _ => ⟨rfl, rfl, (by decide : 3 + 2 ≤ _), (by decide : 10 + 3 ≤ _)⟩)
          dsimp only [Pt.U, Pt.locs, Pt.cells, Pt.slots] at X194 l194 y194 z194 st194 hQ194
          subst l194 y194 z194
          obtain ⟨r194, em194, rfl, N194q, K194, gE194, gS194, gB194, gM194, gR194⟩ := hQ194
          have N194 := Fr.app N187 N194q
          have f195 := Nat.le_trans f188 K194.1
          have f196 := Nat.le_trans f189 K194.1
          have f197 := f190.keep K194 all0
          have f198 := own_sta0 f191 K194
          have f199 := f192.keep K194 nin0
          have f200 := gE187.keep K194
          have f201 := gC187.keep K194 nin0
          have f202 := gF187.keep K194 nin0
          have f203 := gV187.keep K194 nin0
          refine bk (fun t k => st194 t k) ?_
          show F (T194.setTop (mkF m 134 #[.val (.int p0), .val (.int p1), .val (.int p2), .val (.int ((p2 &&& (255 : Int32)).toUInt32.toUInt16.toUInt32.toInt32)), .val (.int ((((p2.toUInt32 >>> ((8 : Int32) &&& 31).toUInt32).toInt32) &&& (255 : Int32)).toUInt32.toUInt16.toUInt32.toInt32)), .val (.int ((((p2.toUInt32 >>> ((16 : Int32) &&& 31).toUInt32).toInt32) &&& (255 : Int32)).toUInt32.toUInt16.toUInt32.toInt32)), .val (.int (p1 &&& (3 : Int32))), .val (.ref b160), .val (.ref b181), .unset, .unset, .unset] [(.ref r194)]))
          refine bk (fun t k => XS.astore X194.here hx rfl (hb hby at_134) rfl rfl (l' := #[.val (.int p0), .val (.int p1), .val (.int p2), .val (.int ((p2 &&& (255 : Int32)).toUInt32.toUInt16.toUInt32.toInt32)), .val (.int ((((p2.toUInt32 >>> ((8 : Int32) &&& 31).toUInt32).toInt32) &&& (255 : Int32)).toUInt32.toUInt16.toUInt32.toInt32)), .val (.int ((((p2.toUInt32 >>> ((16 : Int32) &&& 31).toUInt32).toInt32) &&& (255 : Int32)).toUInt32.toUInt16.toUInt32.toInt32)), .val (.int (p1 &&& (3 : Int32))), .val (.ref b160), .val (.ref b181), .val (.ref r194), .unset, .unset]) rfl k) ?_
          show F (T194.setTop (mkF m 136 #[.val (.int p0), .val (.int p1), .val (.int p2), .val (.int ((p2 &&& (255 : Int32)).toUInt32.toUInt16.toUInt32.toInt32)), .val (.int ((((p2.toUInt32 >>> ((8 : Int32) &&& 31).toUInt32).toInt32) &&& (255 : Int32)).toUInt32.toUInt16.toUInt32.toInt32)), .val (.int ((((p2.toUInt32 >>> ((16 : Int32) &&& 31).toUInt32).toInt32) &&& (255 : Int32)).toUInt32.toUInt16.toUInt32.toInt32)), .val (.int (p1 &&& (3 : Int32))), .val (.ref b160), .val (.ref b181), .val (.ref r194), .unset, .unset] []))
          refine bk (fun t k => XS.aload X194.here hx rfl (hb hby at_136) rfl rfl k) ?_
          show F (T194.setTop (mkF m 138 #[.val (.int p0), .val (.int p1), .val (.int p2), .val (.int ((p2 &&& (255 : Int32)).toUInt32.toUInt16.toUInt32.toInt32)), .val (.int ((((p2.toUInt32 >>> ((8 : Int32) &&& 31).toUInt32).toInt32) &&& (255 : Int32)).toUInt32.toUInt16.toUInt32.toInt32)), .val (.int ((((p2.toUInt32 >>> ((16 : Int32) &&& 31).toUInt32).toInt32) &&& (255 : Int32)).toUInt32.toUInt16.toUInt32.toInt32)), .val (.int (p1 &&& (3 : Int32))), .val (.ref b160), .val (.ref b181), .val (.ref r194), .unset, .unset] [(.ref r194)]))
          refine bk (fun t k => XS.ifnonnullYes X194.here hx rfl (pc0 := 138) (pc' := 143) rfl (hb hby at_138) rfl (by decide) (by decide) k) ?_
          show F (T194.setTop (mkF m 143 #[.val (.int p0), .val (.int p1), .val (.int p2), .val (.int ((p2 &&& (255 : Int32)).toUInt32.toUInt16.toUInt32.toInt32)), .val (.int ((((p2.toUInt32 >>> ((8 : Int32) &&& 31).toUInt32).toInt32) &&& (255 : Int32)).toUInt32.toUInt16.toUInt32.toInt32)), .val (.int ((((p2.toUInt32 >>> ((16 : Int32) &&& 31).toUInt32).toInt32) &&& (255 : Int32)).toUInt32.toUInt16.toUInt32.toInt32)), .val (.int (p1 &&& (3 : Int32))), .val (.ref b160), .val (.ref b181), .val (.ref r194), .unset, .unset] []))
          refine bk (fun t k => XS.aload X194.here hx rfl (hb hby at_143) rfl rfl k) ?_
          show F (T194.setTop (mkF m 145 #[.val (.int p0), .val (.int p1), .val (.int p2), .val (.int ((p2 &&& (255 : Int32)).toUInt32.toUInt16.toUInt32.toInt32)), .val (.int ((((p2.toUInt32 >>> ((8 : Int32) &&& 31).toUInt32).toInt32) &&& (255 : Int32)).toUInt32.toUInt16.toUInt32.toInt32)), .val (.int ((((p2.toUInt32 >>> ((16 : Int32) &&& 31).toUInt32).toInt32) &&& (255 : Int32)).toUInt32.toUInt16.toUInt32.toInt32)), .val (.int (p1 &&& (3 : Int32))), .val (.ref b160), .val (.ref b181), .val (.ref r194), .unset, .unset] [(.ref r194)]))
          obtain ⟨cq204, kq204, q204a, q204b, q204c⟩ := isOf hZ rfl (gE194)
          obtain ⟨_, _, ⟨T204, L204, k204, n204⟩, -, X204, ⟨Lc204, hQ204, l204, y204, z204⟩, st204⟩ := X194.virtualBack hx (y := (⟨"com/example/unabridged_index/unabridgedindex/server/Answer", "status", "()I"⟩ : MethodName)) (z := (⟨"com/example/unabridged_index/unabridgedindex/server/Answer", "status", "()I"⟩ : MethodName)) hown (mvT hZ w_58) (mvT hZ w_59) (notFace_of_selects (args := #[]) (mvT hZ w_61)) (mvT hZ w_61) (mvT hZ w_60) (by decide) (backOf (W := 0) (rm11 l Z a0 hw [] r194 p0 T194.heap n0 f196 gS194) hZ w_62 w_32 (by decide) (by decide)) q204a q204c (g := (mkF m 145 #[.val (.int p0), .val (.int p1), .val (.int p2), .val (.int ((p2 &&& (255 : Int32)).toUInt32.toUInt16.toUInt32.toInt32)), .val (.int ((((p2.toUInt32 >>> ((8 : Int32) &&& 31).toUInt32).toInt32) &&& (255 : Int32)).toUInt32.toUInt16.toUInt32.toInt32)), .val (.int ((((p2.toUInt32 >>> ((16 : Int32) &&& 31).toUInt32).toInt32) &&& (255 : Int32)).toUInt32.toUInt16.toUInt32.toInt32)), .val (.int (p1 &&& (3 : Int32))), .val (.ref b160), .val (.ref b181), .val (.ref r194), .unset, .unset] [(.ref r194)])) rfl (by rw [hml]; rfl) (Steps.refl _) (argsL := []) (rest := []) (lenOf pd0___I rfl) rfl (by show 2 * 0 + _ ≤ _; exact Nat.le_of_eq rfl) (hb hby at_145) (fun _ _ => ⟨rfl, rfl, (by decide : 5 + 0 ≤ _), (by decide : 13 + 0 ≤ _)⟩)
          dsimp only [Pt.U, Pt.locs, Pt.cells, Pt.slots] at X204 l204 y204 z204 st204 hQ204
          subst l204 y204 z204
          obtain ⟨rfl, N204q, e204⟩ := hQ204
          have N204 := Fr.app N194 N204q
          refine bk (fun t k => st204.trans k) ?_
          show F (T204.setTop (mkF m 148 #[.val (.int p0), .val (.int p1), .val (.int p2), .val (.int ((p2 &&& (255 : Int32)).toUInt32.toUInt16.toUInt32.toInt32)), .val (.int ((((p2.toUInt32 >>> ((8 : Int32) &&& 31).toUInt32).toInt32) &&& (255 : Int32)).toUInt32.toUInt16.toUInt32.toInt32)), .val (.int ((((p2.toUInt32 >>> ((16 : Int32) &&& 31).toUInt32).toInt32) &&& (255 : Int32)).toUInt32.toUInt16.toUInt32.toInt32)), .val (.int (p1 &&& (3 : Int32))), .val (.ref b160), .val (.ref b181), .val (.ref r194), .unset, .unset] [(.int p0)]))
          refine bk (fun t k => XS.iloadN X204.here hx rfl (hb hby at_148) rfl k) ?_
          show F (T204.setTop (mkF m 149 #[.val (.int p0), .val (.int p1), .val (.int p2), .val (.int ((p2 &&& (255 : Int32)).toUInt32.toUInt16.toUInt32.toInt32)), .val (.int ((((p2.toUInt32 >>> ((8 : Int32) &&& 31).toUInt32).toInt32) &&& (255 : Int32)).toUInt32.toUInt16.toUInt32.toInt32)), .val (.int ((((p2.toUInt32 >>> ((16 : Int32) &&& 31).toUInt32).toInt32) &&& (255 : Int32)).toUInt32.toUInt16.toUInt32.toInt32)), .val (.int (p1 &&& (3 : Int32))), .val (.ref b160), .val (.ref b181), .val (.ref r194), .unset, .unset] [(.int p0), (.int p0)]))
          refine bk (fun t k => XS.icmpYes X204.here hx rfl (pc0 := 149) (pc' := 154) rfl (hb hby at_149) rfl (teq (rfl : p0 = p0)).1 (by decide) (by decide) k) ?_
          show F (T204.setTop (mkF m 154 #[.val (.int p0), .val (.int p1), .val (.int p2), .val (.int ((p2 &&& (255 : Int32)).toUInt32.toUInt16.toUInt32.toInt32)), .val (.int ((((p2.toUInt32 >>> ((8 : Int32) &&& 31).toUInt32).toInt32) &&& (255 : Int32)).toUInt32.toUInt16.toUInt32.toInt32)), .val (.int ((((p2.toUInt32 >>> ((16 : Int32) &&& 31).toUInt32).toInt32) &&& (255 : Int32)).toUInt32.toUInt16.toUInt32.toInt32)), .val (.int (p1 &&& (3 : Int32))), .val (.ref b160), .val (.ref b181), .val (.ref r194), .unset, .unset] []))
          refine bk (fun t k => XS.aload X204.here hx rfl (hb hby at_154) rfl rfl k) ?_
          show F (T204.setTop (mkF m 156 #[.val (.int p0), .val (.int p1), .val (.int p2), .val (.int ((p2 &&& (255 : Int32)).toUInt32.toUInt16.toUInt32.toInt32)), .val (.int ((((p2.toUInt32 >>> ((8 : Int32) &&& 31).toUInt32).toInt32) &&& (255 : Int32)).toUInt32.toUInt16.toUInt32.toInt32)), .val (.int ((((p2.toUInt32 >>> ((16 : Int32) &&& 31).toUInt32).toInt32) &&& (255 : Int32)).toUInt32.toUInt16.toUInt32.toInt32)), .val (.int (p1 &&& (3 : Int32))), .val (.ref b160), .val (.ref b181), .val (.ref r194), .unset, .unset] [(.ref r194)]))
          obtain ⟨cq205, kq205, q205a, q205b, q205c⟩ := isOf hZ e204 (gE194)
          obtain ⟨_, _, ⟨T205, L205, k205, n205⟩, -, X205, ⟨Lc205, hQ205, l205, y205, z205⟩, st205⟩ := X204.virtualBack hx (y := (⟨"com/example/unabridged_index/unabridgedindex/server/Answer", "body", "()Ljava/lang/Object;"⟩ : MethodName)) (z := (⟨"com/example/unabridged_index/unabridgedindex/server/Answer", "body", "()Ljava/lang/Object;"⟩ : MethodName)) hown (mvT hZ w_63) (mvT hZ w_64) (notFace_of_selects (args := #[]) (mvT hZ w_66)) (mvT hZ w_66) (mvT hZ w_65) (by decide) (backOf (W := 0) (rm12 l Z a0 hw [] r194 em194 T194.heap n0 f196 gB194) hZ w_67 w_32 (by decide) (by decide)) q205a q205c (g := (mkF m 156 #[.val (.int p0), .val (.int p1), .val (.int p2), .val (.int ((p2 &&& (255 : Int32)).toUInt32.toUInt16.toUInt32.toInt32)), .val (.int ((((p2.toUInt32 >>> ((8 : Int32) &&& 31).toUInt32).toInt32) &&& (255 : Int32)).toUInt32.toUInt16.toUInt32.toInt32)), .val (.int ((((p2.toUInt32 >>> ((16 : Int32) &&& 31).toUInt32).toInt32) &&& (255 : Int32)).toUInt32.toUInt16.toUInt32.toInt32)), .val (.int (p1 &&& (3 : Int32))), .val (.ref b160), .val (.ref b181), .val (.ref r194), .unset, .unset] [(.ref r194)])) rfl (by rw [hml]; rfl) (Steps.refl _) (argsL := []) (rest := []) (lenOf pd0___Ljava_lang_Object_ rfl) rfl (by show 2 * 0 + _ ≤ _; exact Nat.le_of_eq rfl) (hb hby at_156) (fun _ _ => ⟨rfl, e204, (by decide : 5 + 0 ≤ _), (by decide : 13 + 0 ≤ _)⟩)
          dsimp only [Pt.U, Pt.locs, Pt.cells, Pt.slots] at X205 l205 y205 z205 st205 hQ205
          subst l205 y205 z205
          obtain ⟨rfl, N205q, e205⟩ := hQ205
          have N205 := Fr.app N204 N205q
          refine bk (fun t k => st205.trans k) ?_
          show F (T205.setTop (mkF m 159 #[.val (.int p0), .val (.int p1), .val (.int p2), .val (.int ((p2 &&& (255 : Int32)).toUInt32.toUInt16.toUInt32.toInt32)), .val (.int ((((p2.toUInt32 >>> ((8 : Int32) &&& 31).toUInt32).toInt32) &&& (255 : Int32)).toUInt32.toUInt16.toUInt32.toInt32)), .val (.int ((((p2.toUInt32 >>> ((16 : Int32) &&& 31).toUInt32).toInt32) &&& (255 : Int32)).toUInt32.toUInt16.toUInt32.toInt32)), .val (.int (p1 &&& (3 : Int32))), .val (.ref b160), .val (.ref b181), .val (.ref r194), .unset, .unset] [(.ref em194)]))
          refine bk (fun t k => XS.astore X205.here hx rfl (hb hby at_159) rfl rfl (l' := #[.val (.int p0), .val (.int p1), .val (.int p2), .val (.int ((p2 &&& (255 : Int32)).toUInt32.toUInt16.toUInt32.toInt32)), .val (.int ((((p2.toUInt32 >>> ((8 : Int32) &&& 31).toUInt32).toInt32) &&& (255 : Int32)).toUInt32.toUInt16.toUInt32.toInt32)), .val (.int ((((p2.toUInt32 >>> ((16 : Int32) &&& 31).toUInt32).toInt32) &&& (255 : Int32)).toUInt32.toUInt16.toUInt32.toInt32)), .val (.int (p1 &&& (3 : Int32))), .val (.ref b160), .val (.ref b181), .val (.ref r194), .val (.ref em194), .unset]) rfl k) ?_
          show F (T205.setTop (mkF m 161 #[.val (.int p0), .val (.int p1), .val (.int p2), .val (.int ((p2 &&& (255 : Int32)).toUInt32.toUInt16.toUInt32.toInt32)), .val (.int ((((p2.toUInt32 >>> ((8 : Int32) &&& 31).toUInt32).toInt32) &&& (255 : Int32)).toUInt32.toUInt16.toUInt32.toInt32)), .val (.int ((((p2.toUInt32 >>> ((16 : Int32) &&& 31).toUInt32).toInt32) &&& (255 : Int32)).toUInt32.toUInt16.toUInt32.toInt32)), .val (.int (p1 &&& (3 : Int32))), .val (.ref b160), .val (.ref b181), .val (.ref r194), .val (.ref em194), .unset] []))
          refine bk (fun t k => XS.aload X205.here hx rfl (hb hby at_161) rfl rfl k) ?_
          show F (T205.setTop (mkF m 163 #[.val (.int p0), .val (.int p1), .val (.int p2), .val (.int ((p2 &&& (255 : Int32)).toUInt32.toUInt16.toUInt32.toInt32)), .val (.int ((((p2.toUInt32 >>> ((8 : Int32) &&& 31).toUInt32).toInt32) &&& (255 : Int32)).toUInt32.toUInt16.toUInt32.toInt32)), .val (.int ((((p2.toUInt32 >>> ((16 : Int32) &&& 31).toUInt32).toInt32) &&& (255 : Int32)).toUInt32.toUInt16.toUInt32.toInt32)), .val (.int (p1 &&& (3 : Int32))), .val (.ref b160), .val (.ref b181), .val (.ref r194), .val (.ref em194), .unset] [(.ref em194)]))
          obtain ⟨T206, X206, e206, st206⟩ := instY X205 hx hZ hown w_68 e205 (Ins.self gM194) (g := (mkF m 163 #[.val (.int p0), .val (.int p1), .val (.int p2), .val (.int ((p2 &&& (255 : Int32)).toUInt32.toUInt16.toUInt32.toInt32)), .val (.int ((((p2.toUInt32 >>> ((8 : Int32) &&& 31).toUInt32).toInt32) &&& (255 : Int32)).toUInt32.toUInt16.toUInt32.toInt32)), .val (.int ((((p2.toUInt32 >>> ((16 : Int32) &&& 31).toUInt32).toInt32) &&& (255 : Int32)).toUInt32.toUInt16.toUInt32.toInt32)), .val (.int (p1 &&& (3 : Int32))), .val (.ref b160), .val (.ref b181), .val (.ref r194), .val (.ref em194), .unset] [(.ref em194)])) rfl rfl (hb hby at_163)
          refine bk (fun t k => st206 t k) ?_
          show F (T206.setTop (mkF m 166 #[.val (.int p0), .val (.int p1), .val (.int p2), .val (.int ((p2 &&& (255 : Int32)).toUInt32.toUInt16.toUInt32.toInt32)), .val (.int ((((p2.toUInt32 >>> ((8 : Int32) &&& 31).toUInt32).toInt32) &&& (255 : Int32)).toUInt32.toUInt16.toUInt32.toInt32)), .val (.int ((((p2.toUInt32 >>> ((16 : Int32) &&& 31).toUInt32).toInt32) &&& (255 : Int32)).toUInt32.toUInt16.toUInt32.toInt32)), .val (.int (p1 &&& (3 : Int32))), .val (.ref b160), .val (.ref b181), .val (.ref r194), .val (.ref em194), .unset] [(.int (1 : Int32))]))
          refine bk (fun t k => XS.ifYes X206.here hx rfl (pc0 := 166) (pc' := 171) rfl (hb hby at_166) rfl ((if0 _ _).trans (feq (by decide : ¬ ((1 : Int32) = (0 : Int32)))).2) (by decide) (by decide) k) ?_
          show F (T206.setTop (mkF m 171 #[.val (.int p0), .val (.int p1), .val (.int p2), .val (.int ((p2 &&& (255 : Int32)).toUInt32.toUInt16.toUInt32.toInt32)), .val (.int ((((p2.toUInt32 >>> ((8 : Int32) &&& 31).toUInt32).toInt32) &&& (255 : Int32)).toUInt32.toUInt16.toUInt32.toInt32)), .val (.int ((((p2.toUInt32 >>> ((16 : Int32) &&& 31).toUInt32).toInt32) &&& (255 : Int32)).toUInt32.toUInt16.toUInt32.toInt32)), .val (.int (p1 &&& (3 : Int32))), .val (.ref b160), .val (.ref b181), .val (.ref r194), .val (.ref em194), .unset] []))
          refine bk (fun t k => XS.aload X206.here hx rfl (hb hby at_171) rfl rfl k) ?_
          show F (T206.setTop (mkF m 173 #[.val (.int p0), .val (.int p1), .val (.int p2), .val (.int ((p2 &&& (255 : Int32)).toUInt32.toUInt16.toUInt32.toInt32)), .val (.int ((((p2.toUInt32 >>> ((8 : Int32) &&& 31).toUInt32).toInt32) &&& (255 : Int32)).toUInt32.toUInt16.toUInt32.toInt32)), .val (.int ((((p2.toUInt32 >>> ((16 : Int32) &&& 31).toUInt32).toInt32) &&& (255 : Int32)).toUInt32.toUInt16.toUInt32.toInt32)), .val (.int (p1 &&& (3 : Int32))), .val (.ref b160), .val (.ref b181), .val (.ref r194), .val (.ref em194), .unset] [(.ref em194)]))
          obtain ⟨T207, X207, e207, st207⟩ := castY X206 hx hZ hown w_68 e206 (Ins.self gM194) (g := (mkF m 173 #[.val (.int p0), .val (.int p1), .val (.int p2), .val (.int ((p2 &&& (255 : Int32)).toUInt32.toUInt16.toUInt32.toInt32)), .val (.int ((((p2.toUInt32 >>> ((8 : Int32) &&& 31).toUInt32).toInt32) &&& (255 : Int32)).toUInt32.toUInt16.toUInt32.toInt32)), .val (.int ((((p2.toUInt32 >>> ((16 : Int32) &&& 31).toUInt32).toInt32) &&& (255 : Int32)).toUInt32.toUInt16.toUInt32.toInt32)), .val (.int (p1 &&& (3 : Int32))), .val (.ref b160), .val (.ref b181), .val (.ref r194), .val (.ref em194), .unset] [(.ref em194)])) rfl rfl (hb hby at_173)
          refine bk (fun t k => st207 t k) ?_
          show F (T207.setTop (mkF m 176 #[.val (.int p0), .val (.int p1), .val (.int p2), .val (.int ((p2 &&& (255 : Int32)).toUInt32.toUInt16.toUInt32.toInt32)), .val (.int ((((p2.toUInt32 >>> ((8 : Int32) &&& 31).toUInt32).toInt32) &&& (255 : Int32)).toUInt32.toUInt16.toUInt32.toInt32)), .val (.int ((((p2.toUInt32 >>> ((16 : Int32) &&& 31).toUInt32).toInt32) &&& (255 : Int32)).toUInt32.toUInt16.toUInt32.toInt32)), .val (.int (p1 &&& (3 : Int32))), .val (.ref b160), .val (.ref b181), .val (.ref r194), .val (.ref em194), .unset] [(.ref em194)]))
          obtain ⟨cq208, kq208, q208a, q208b, q208c⟩ := isOf hZ e207 (gM194)
          obtain ⟨_, _, ⟨T208, L208, k208, n208⟩, -, X208, ⟨Lc208, hQ208, l208, y208, z208⟩, st208⟩ := X207.virtualBack hx (y := (⟨"com/example/unabridged_index/unabridgedindex/server/Answer$ErrorMessage", "error", "()Ljava/lang/String;"⟩ : MethodName)) (z := (⟨"com/example/unabridged_index/unabridgedindex/server/Answer$ErrorMessage", "error", "()Ljava/lang/String;"⟩ : MethodName)) hown (mvT hZ w_70) (mvT hZ w_71) (notFace_of_selects (args := #[]) (mvT hZ w_73)) (mvT hZ w_73) (mvT hZ w_72) (by decide) (backOf (W := 0) (rm13s l Z a0 hw [] em194 b181 T194.heap n0 f196 gR194) hZ w_74 w_38 (by decide) (by decide)) q208a q208c (g := (mkF m 176 #[.val (.int p0), .val (.int p1), .val (.int p2), .val (.int ((p2 &&& (255 : Int32)).toUInt32.toUInt16.toUInt32.toInt32)), .val (.int ((((p2.toUInt32 >>> ((8 : Int32) &&& 31).toUInt32).toInt32) &&& (255 : Int32)).toUInt32.toUInt16.toUInt32.toInt32)), .val (.int ((((p2.toUInt32 >>> ((16 : Int32) &&& 31).toUInt32).toInt32) &&& (255 : Int32)).toUInt32.toUInt16.toUInt32.toInt32)), .val (.int (p1 &&& (3 : Int32))), .val (.ref b160), .val (.ref b181), .val (.ref r194), .val (.ref em194), .unset] [(.ref em194)])) rfl (by rw [hml]; rfl) (Steps.refl _) (argsL := []) (rest := []) (lenOf pd0___Ljava_lang_String_ rfl) rfl (by show 2 * 0 + _ ≤ _; exact Nat.le_of_eq rfl) (hb hby at_176) (fun _ _ => ⟨rfl, e207, (by decide : 5 + 0 ≤ _), (by decide : 13 + 0 ≤ _)⟩)
          dsimp only [Pt.U, Pt.locs, Pt.cells, Pt.slots] at X208 l208 y208 z208 st208 hQ208
          subst l208 y208 z208
          obtain ⟨rfl, N208q, e208⟩ := hQ208
          have N208 := Fr.app N205 N208q
          refine bk (fun t k => st208.trans k) ?_
          show F (T208.setTop (mkF m 179 #[.val (.int p0), .val (.int p1), .val (.int p2), .val (.int ((p2 &&& (255 : Int32)).toUInt32.toUInt16.toUInt32.toInt32)), .val (.int ((((p2.toUInt32 >>> ((8 : Int32) &&& 31).toUInt32).toInt32) &&& (255 : Int32)).toUInt32.toUInt16.toUInt32.toInt32)), .val (.int ((((p2.toUInt32 >>> ((16 : Int32) &&& 31).toUInt32).toInt32) &&& (255 : Int32)).toUInt32.toUInt16.toUInt32.toInt32)), .val (.int (p1 &&& (3 : Int32))), .val (.ref b160), .val (.ref b181), .val (.ref r194), .val (.ref em194), .unset] [(.ref b181)]))
          refine bk (fun t k => XS.astore X208.here hx rfl (hb hby at_179) rfl rfl (l' := #[.val (.int p0), .val (.int p1), .val (.int p2), .val (.int ((p2 &&& (255 : Int32)).toUInt32.toUInt16.toUInt32.toInt32)), .val (.int ((((p2.toUInt32 >>> ((8 : Int32) &&& 31).toUInt32).toInt32) &&& (255 : Int32)).toUInt32.toUInt16.toUInt32.toInt32)), .val (.int ((((p2.toUInt32 >>> ((16 : Int32) &&& 31).toUInt32).toInt32) &&& (255 : Int32)).toUInt32.toUInt16.toUInt32.toInt32)), .val (.int (p1 &&& (3 : Int32))), .val (.ref b160), .val (.ref b181), .val (.ref r194), .val (.ref em194), .val (.ref b181)]) rfl k) ?_
          show F (T208.setTop (mkF m 181 #[.val (.int p0), .val (.int p1), .val (.int p2), .val (.int ((p2 &&& (255 : Int32)).toUInt32.toUInt16.toUInt32.toInt32)), .val (.int ((((p2.toUInt32 >>> ((8 : Int32) &&& 31).toUInt32).toInt32) &&& (255 : Int32)).toUInt32.toUInt16.toUInt32.toInt32)), .val (.int ((((p2.toUInt32 >>> ((16 : Int32) &&& 31).toUInt32).toInt32) &&& (255 : Int32)).toUInt32.toUInt16.toUInt32.toInt32)), .val (.int (p1 &&& (3 : Int32))), .val (.ref b160), .val (.ref b181), .val (.ref r194), .val (.ref em194), .val (.ref b181)] []))
          refine bk (fun t k => XS.aload X208.here hx rfl (hb hby at_181) rfl rfl k) ?_
          show F (T208.setTop (mkF m 183 #[.val (.int p0), .val (.int p1), .val (.int p2), .val (.int ((p2 &&& (255 : Int32)).toUInt32.toUInt16.toUInt32.toInt32)), .val (.int ((((p2.toUInt32 >>> ((8 : Int32) &&& 31).toUInt32).toInt32) &&& (255 : Int32)).toUInt32.toUInt16.toUInt32.toInt32)), .val (.int ((((p2.toUInt32 >>> ((16 : Int32) &&& 31).toUInt32).toInt32) &&& (255 : Int32)).toUInt32.toUInt16.toUInt32.toInt32)), .val (.int (p1 &&& (3 : Int32))), .val (.ref b160), .val (.ref b181), .val (.ref r194), .val (.ref em194), .val (.ref b181)] [(.ref b181)]))
          refine bk (fun t k => XS.ifnonnullYes X208.here hx rfl (pc0 := 183) (pc' := 197) rfl (hb hby at_183) rfl (by decide) (by decide) k) ?_
          show F (T208.setTop (mkF m 197 #[.val (.int p0), .val (.int p1), .val (.int p2), .val (.int ((p2 &&& (255 : Int32)).toUInt32.toUInt16.toUInt32.toInt32)), .val (.int ((((p2.toUInt32 >>> ((8 : Int32) &&& 31).toUInt32).toInt32) &&& (255 : Int32)).toUInt32.toUInt16.toUInt32.toInt32)), .val (.int ((((p2.toUInt32 >>> ((16 : Int32) &&& 31).toUInt32).toInt32) &&& (255 : Int32)).toUInt32.toUInt16.toUInt32.toInt32)), .val (.int (p1 &&& (3 : Int32))), .val (.ref b160), .val (.ref b181), .val (.ref r194), .val (.ref em194), .val (.ref b181)] []))
          refine bk (fun t k => XS.aload X208.here hx rfl (hb hby at_197) rfl rfl k) ?_
          show F (T208.setTop (mkF m 199 #[.val (.int p0), .val (.int p1), .val (.int p2), .val (.int ((p2 &&& (255 : Int32)).toUInt32.toUInt16.toUInt32.toInt32)), .val (.int ((((p2.toUInt32 >>> ((8 : Int32) &&& 31).toUInt32).toInt32) &&& (255 : Int32)).toUInt32.toUInt16.toUInt32.toInt32)), .val (.int ((((p2.toUInt32 >>> ((16 : Int32) &&& 31).toUInt32).toInt32) &&& (255 : Int32)).toUInt32.toUInt16.toUInt32.toInt32)), .val (.int (p1 &&& (3 : Int32))), .val (.ref b160), .val (.ref b181), .val (.ref r194), .val (.ref em194), .val (.ref b181)] [(.ref b181)]))
          refine bk (fun t k => XS.ifnullNo X208.here hx rfl (hb hby at_199) rfl k) ?_
          show F (T208.setTop (mkF m 202 #[.val (.int p0), .val (.int p1), .val (.int p2), .val (.int ((p2 &&& (255 : Int32)).toUInt32.toUInt16.toUInt32.toInt32)), .val (.int ((((p2.toUInt32 >>> ((8 : Int32) &&& 31).toUInt32).toInt32) &&& (255 : Int32)).toUInt32.toUInt16.toUInt32.toInt32)), .val (.int ((((p2.toUInt32 >>> ((16 : Int32) &&& 31).toUInt32).toInt32) &&& (255 : Int32)).toUInt32.toUInt16.toUInt32.toInt32)), .val (.int (p1 &&& (3 : Int32))), .val (.ref b160), .val (.ref b181), .val (.ref r194), .val (.ref em194), .val (.ref b181)] []))
          refine bk (fun t k => XS.aload X208.here hx rfl (hb hby at_202) rfl rfl k) ?_
          show F (T208.setTop (mkF m 204 #[.val (.int p0), .val (.int p1), .val (.int p2), .val (.int ((p2 &&& (255 : Int32)).toUInt32.toUInt16.toUInt32.toInt32)), .val (.int ((((p2.toUInt32 >>> ((8 : Int32) &&& 31).toUInt32).toInt32) &&& (255 : Int32)).toUInt32.toUInt16.toUInt32.toInt32)), .val (.int ((((p2.toUInt32 >>> ((16 : Int32) &&& 31).toUInt32).toInt32) &&& (255 : Int32)).toUInt32.toUInt16.toUInt32.toInt32)), .val (.int (p1 &&& (3 : Int32))), .val (.ref b160), .val (.ref b181), .val (.ref r194), .val (.ref em194), .val (.ref b181)] [(.ref b181)]))
          obtain ⟨cq209, kq209, q209a, q209b, q209c⟩ := isOf hZ e208 (f200)
          obtain ⟨_, _, ⟨T209, L209, k209, n209⟩, -, X209, ⟨Lc209, hQ209, l209, y209, z209⟩, st209⟩ := X208.virtualBack hx (y := (⟨"java/lang/String", "length", "()I"⟩ : MethodName)) (z := (⟨"java/lang/String", "length", "()I"⟩ : MethodName)) hown (mvT hZ w_75) (mvT hZ w_76) (notFace_of_selects (args := #[]) (mvT hZ w_78)) (mvT hZ w_78) (mvT hZ w_77) (by decide) (backOf (W := 0) (rm14_3 l Z a0 hw [] b181 r187 kd187 _ cs T194.heap n0 f196 f200 f202 f203 f201 f198 hcs) hZ w_79 w_3 (by decide) (by decide)) q209a q209c (g := (mkF m 204 #[.val (.int p0), .val (.int p1), .val (.int p2), .val (.int ((p2 &&& (255 : Int32)).toUInt32.toUInt16.toUInt32.toInt32)), .val (.int ((((p2.toUInt32 >>> ((8 : Int32) &&& 31).toUInt32).toInt32) &&& (255 : Int32)).toUInt32.toUInt16.toUInt32.toInt32)), .val (.int ((((p2.toUInt32 >>> ((16 : Int32) &&& 31).toUInt32).toInt32) &&& (255 : Int32)).toUInt32.toUInt16.toUInt32.toInt32)), .val (.int (p1 &&& (3 : Int32))), .val (.ref b160), .val (.ref b181), .val (.ref r194), .val (.ref em194), .val (.ref b181)] [(.ref b181)])) rfl (by rw [hml]; rfl) (Steps.refl _) (argsL := []) (rest := []) (lenOf pd0___I rfl) rfl (by show 2 * 0 + _ ≤ _; exact Nat.le_of_eq rfl) (hb hby at_204) (fun _ _ => ⟨rfl, e208, (by decide : 5 + 0 ≤ _), (by decide : 13 + 0 ≤ _)⟩)
          dsimp only [Pt.U, Pt.locs, Pt.cells, Pt.slots] at X209 l209 y209 z209 st209 hQ209
          subst l209 y209 z209
          obtain ⟨rfl, N209q, e209⟩ := hQ209
          have N209 := Fr.app N208 N209q
          refine bk (fun t k => st209.trans k) ?_
          show F (T209.setTop (mkF m 207 #[.val (.int p0), .val (.int p1), .val (.int p2), .val (.int ((p2 &&& (255 : Int32)).toUInt32.toUInt16.toUInt32.toInt32)), .val (.int ((((p2.toUInt32 >>> ((8 : Int32) &&& 31).toUInt32).toInt32) &&& (255 : Int32)).toUInt32.toUInt16.toUInt32.toInt32)), .val (.int ((((p2.toUInt32 >>> ((16 : Int32) &&& 31).toUInt32).toInt32) &&& (255 : Int32)).toUInt32.toUInt16.toUInt32.toInt32)), .val (.int (p1 &&& (3 : Int32))), .val (.ref b160), .val (.ref b181), .val (.ref r194), .val (.ref em194), .val (.ref b181)] [(.int (3 : Int32))]))
          refine bk (fun t k => XS.iload X209.here hx rfl (hb hby at_207) rfl k) ?_
          show F (T209.setTop (mkF m 209 #[.val (.int p0), .val (.int p1), .val (.int p2), .val (.int ((p2 &&& (255 : Int32)).toUInt32.toUInt16.toUInt32.toInt32)), .val (.int ((((p2.toUInt32 >>> ((8 : Int32) &&& 31).toUInt32).toInt32) &&& (255 : Int32)).toUInt32.toUInt16.toUInt32.toInt32)), .val (.int ((((p2.toUInt32 >>> ((16 : Int32) &&& 31).toUInt32).toInt32) &&& (255 : Int32)).toUInt32.toUInt16.toUInt32.toInt32)), .val (.int (p1 &&& (3 : Int32))), .val (.ref b160), .val (.ref b181), .val (.ref r194), .val (.ref em194), .val (.ref b181)] [(.int (p1 &&& (3 : Int32))), (.int (3 : Int32))]))
          refine bk (fun t k => XS.icmpYes X209.here hx rfl (pc0 := 209) (pc' := 214) rfl (hb hby at_209) rfl (teq (own_and3 hc36_1 hc50_49 hc68_102).symm).1 (by decide) (by decide) k) ?_
          show F (T209.setTop (mkF m 214 #[.val (.int p0), .val (.int p1), .val (.int p2), .val (.int ((p2 &&& (255 : Int32)).toUInt32.toUInt16.toUInt32.toInt32)), .val (.int ((((p2.toUInt32 >>> ((8 : Int32) &&& 31).toUInt32).toInt32) &&& (255 : Int32)).toUInt32.toUInt16.toUInt32.toInt32)), .val (.int ((((p2.toUInt32 >>> ((16 : Int32) &&& 31).toUInt32).toInt32) &&& (255 : Int32)).toUInt32.toUInt16.toUInt32.toInt32)), .val (.int (p1 &&& (3 : Int32))), .val (.ref b160), .val (.ref b181), .val (.ref r194), .val (.ref em194), .val (.ref b181)] []))
          refine bk (fun t k => XS.aload X209.here hx rfl (hb hby at_214) rfl rfl k) ?_
          show F (T209.setTop (mkF m 216 #[.val (.int p0), .val (.int p1), .val (.int p2), .val (.int ((p2 &&& (255 : Int32)).toUInt32.toUInt16.toUInt32.toInt32)), .val (.int ((((p2.toUInt32 >>> ((8 : Int32) &&& 31).toUInt32).toInt32) &&& (255 : Int32)).toUInt32.toUInt16.toUInt32.toInt32)), .val (.int ((((p2.toUInt32 >>> ((16 : Int32) &&& 31).toUInt32).toInt32) &&& (255 : Int32)).toUInt32.toUInt16.toUInt32.toInt32)), .val (.int (p1 &&& (3 : Int32))), .val (.ref b160), .val (.ref b181), .val (.ref r194), .val (.ref em194), .val (.ref b181)] [(.ref b181)]))
          refine bk (fun t k => XS.aload X209.here hx rfl (hb hby at_216) rfl rfl k) ?_
          show F (T209.setTop (mkF m 218 #[.val (.int p0), .val (.int p1), .val (.int p2), .val (.int ((p2 &&& (255 : Int32)).toUInt32.toUInt16.toUInt32.toInt32)), .val (.int ((((p2.toUInt32 >>> ((8 : Int32) &&& 31).toUInt32).toInt32) &&& (255 : Int32)).toUInt32.toUInt16.toUInt32.toInt32)), .val (.int ((((p2.toUInt32 >>> ((16 : Int32) &&& 31).toUInt32).toInt32) &&& (255 : Int32)).toUInt32.toUInt16.toUInt32.toInt32)), .val (.int (p1 &&& (3 : Int32))), .val (.ref b160), .val (.ref b181), .val (.ref r194), .val (.ref em194), .val (.ref b181)] [(.ref b181), (.ref b181)]))
          obtain ⟨cq210, kq210, q210a, q210b, q210c⟩ := isOf hZ e209 (f200)
          obtain ⟨_, _, ⟨T210, L210, k210, n210⟩, -, X210, ⟨Lc210, hQ210, l210, y210, z210⟩, st210⟩ := X209.virtualBack hx (y := (⟨"java/lang/String", "equals", "(Ljava/lang/Object;)Z"⟩ : MethodName)) (z := (⟨"java/lang/String", "equals", "(Ljava/lang/Object;)Z"⟩ : MethodName)) hown (mvT hZ w_85) (mvT hZ w_86) (notFace_of_selects (args := #[]) (mvT hZ w_88)) (mvT hZ w_88) (mvT hZ w_87) (by decide) (backOf (W := 0) (rm16 l Z a0 hw [] b181 T194.heap n0 f196) hZ w_89 w_3 (by decide) (by decide)) q210a q210c (g := (mkF m 218 #[.val (.int p0), .val (.int p1), .val (.int p2), .val (.int ((p2 &&& (255 : Int32)).toUInt32.toUInt16.toUInt32.toInt32)), .val (.int ((((p2.toUInt32 >>> ((8 : Int32) &&& 31).toUInt32).toInt32) &&& (255 : Int32)).toUInt32.toUInt16.toUInt32.toInt32)), .val (.int ((((p2.toUInt32 >>> ((16 : Int32) &&& 31).toUInt32).toInt32) &&& (255 : Int32)).toUInt32.toUInt16.toUInt32.toInt32)), .val (.int (p1 &&& (3 : Int32))), .val (.ref b160), .val (.ref b181), .val (.ref r194), .val (.ref em194), .val (.ref b181)] [(.ref b181), (.ref b181)])) rfl (by rw [hml]; rfl) (Steps.refl _) (argsL := [(.ref b181)]) (rest := []) (lenOf pd0__Ljava_lang_Object__Z rfl) rfl (by show 2 * 0 + _ ≤ _; exact Nat.le_of_eq rfl) (hb hby at_218) (fun _ _ => ⟨rfl, e209, (by decide : 5 + 0 ≤ _), (by decide : 13 + 0 ≤ _)⟩)
          dsimp only [Pt.U, Pt.locs, Pt.cells, Pt.slots] at X210 l210 y210 z210 st210 hQ210
          subst l210 y210 z210
          obtain ⟨rfl, N210q, e210⟩ := hQ210
          have N210 := Fr.app N209 N210q
          refine bk (fun t k => st210.trans k) ?_
          show F (T210.setTop (mkF m 221 #[.val (.int p0), .val (.int p1), .val (.int p2), .val (.int ((p2 &&& (255 : Int32)).toUInt32.toUInt16.toUInt32.toInt32)), .val (.int ((((p2.toUInt32 >>> ((8 : Int32) &&& 31).toUInt32).toInt32) &&& (255 : Int32)).toUInt32.toUInt16.toUInt32.toInt32)), .val (.int ((((p2.toUInt32 >>> ((16 : Int32) &&& 31).toUInt32).toInt32) &&& (255 : Int32)).toUInt32.toUInt16.toUInt32.toInt32)), .val (.int (p1 &&& (3 : Int32))), .val (.ref b160), .val (.ref b181), .val (.ref r194), .val (.ref em194), .val (.ref b181)] [(.int (1 : Int32))]))
          rw [hF]
          refine own_retZW X210 hx hS0 (by rw [e210]; exact f195) Bd.notSynchronized Bd.returns (hb hby at_221) (by decide) (by decide) ?_
          rw [e210]
          exact ⟨rfl, N210⟩
        · refine bk (fun t k => XS.ifNo X175.here hx rfl (hb hby at_110) rfl ((if0 _ _).trans (feq hc110_180).1) k) ?_
          show F (T175.setTop (mkF m 113 #[.val (.int p0), .val (.int p1), .val (.int p2), .val (.int ((p2 &&& (255 : Int32)).toUInt32.toUInt16.toUInt32.toInt32)), .val (.int ((((p2.toUInt32 >>> ((8 : Int32) &&& 31).toUInt32).toInt32) &&& (255 : Int32)).toUInt32.toUInt16.toUInt32.toInt32)), .val (.int ((((p2.toUInt32 >>> ((16 : Int32) &&& 31).toUInt32).toInt32) &&& (255 : Int32)).toUInt32.toUInt16.toUInt32.toInt32)), .val (.int (p1 &&& (3 : Int32))), .val (.ref b160), .unset, .unset, .unset, .unset] []))
          refine bk (fun t k => XS.aconstNull X175.here hx rfl (hb hby at_113) k) ?_
          show F (T175.setTop (mkF m 114 #[.val (.int p0), .val (.int p1), .val (.int p2), .val (.int ((p2 &&& (255 : Int32)).toUInt32.toUInt16.toUInt32.toInt32)), .val (.int ((((p2.toUInt32 >>> ((8 : Int32) &&& 31).toUInt32).toInt32) &&& (255 : Int32)).toUInt32.toUInt16.toUInt32.toInt32)), .val (.int ((((p2.toUInt32 >>> ((16 : Int32) &&& 31).toUInt32).toInt32) &&& (255 : Int32)).toUInt32.toUInt16.toUInt32.toInt32)), .val (.int (p1 &&& (3 : Int32))), .val (.ref b160), .unset, .unset, .unset, .unset] [.null]))
          refine bk (fun t k => XS.goto X175.here hx rfl (pc0 := 114) (pc' := 126) rfl (hb hby at_114) (by decide) (by decide) k) ?_
          show F (T175.setTop (mkF m 126 #[.val (.int p0), .val (.int p1), .val (.int p2), .val (.int ((p2 &&& (255 : Int32)).toUInt32.toUInt16.toUInt32.toInt32)), .val (.int ((((p2.toUInt32 >>> ((8 : Int32) &&& 31).toUInt32).toInt32) &&& (255 : Int32)).toUInt32.toUInt16.toUInt32.toInt32)), .val (.int ((((p2.toUInt32 >>> ((16 : Int32) &&& 31).toUInt32).toInt32) &&& (255 : Int32)).toUInt32.toUInt16.toUInt32.toInt32)), .val (.int (p1 &&& (3 : Int32))), .val (.ref b160), .unset, .unset, .unset, .unset] [.null]))
          refine bk (fun t k => XS.astore X175.here hx rfl (hb hby at_126) rfl rfl (l' := #[.val (.int p0), .val (.int p1), .val (.int p2), .val (.int ((p2 &&& (255 : Int32)).toUInt32.toUInt16.toUInt32.toInt32)), .val (.int ((((p2.toUInt32 >>> ((8 : Int32) &&& 31).toUInt32).toInt32) &&& (255 : Int32)).toUInt32.toUInt16.toUInt32.toInt32)), .val (.int ((((p2.toUInt32 >>> ((16 : Int32) &&& 31).toUInt32).toInt32) &&& (255 : Int32)).toUInt32.toUInt16.toUInt32.toInt32)), .val (.int (p1 &&& (3 : Int32))), .val (.ref b160), .val .null, .unset, .unset, .unset]) rfl k) ?_
          show F (T175.setTop (mkF m 128 #[.val (.int p0), .val (.int p1), .val (.int p2), .val (.int ((p2 &&& (255 : Int32)).toUInt32.toUInt16.toUInt32.toInt32)), .val (.int ((((p2.toUInt32 >>> ((8 : Int32) &&& 31).toUInt32).toInt32) &&& (255 : Int32)).toUInt32.toUInt16.toUInt32.toInt32)), .val (.int ((((p2.toUInt32 >>> ((16 : Int32) &&& 31).toUInt32).toInt32) &&& (255 : Int32)).toUInt32.toUInt16.toUInt32.toInt32)), .val (.int (p1 &&& (3 : Int32))), .val (.ref b160), .val .null, .unset, .unset, .unset] []))
          refine bk (fun t k => XS.iloadN X175.here hx rfl (hb hby at_128) rfl k) ?_
          show F (T175.setTop (mkF m 129 #[.val (.int p0), .val (.int p1), .val (.int p2), .val (.int ((p2 &&& (255 : Int32)).toUInt32.toUInt16.toUInt32.toInt32)), .val (.int ((((p2.toUInt32 >>> ((8 : Int32) &&& 31).toUInt32).toInt32) &&& (255 : Int32)).toUInt32.toUInt16.toUInt32.toInt32)), .val (.int ((((p2.toUInt32 >>> ((16 : Int32) &&& 31).toUInt32).toInt32) &&& (255 : Int32)).toUInt32.toUInt16.toUInt32.toInt32)), .val (.int (p1 &&& (3 : Int32))), .val (.ref b160), .val .null, .unset, .unset, .unset] [(.int p0)]))
          refine bk (fun t k => XS.aload X175.here hx rfl (hb hby at_129) rfl rfl k) ?_
          show F (T175.setTop (mkF m 131 #[.val (.int p0), .val (.int p1), .val (.int p2), .val (.int ((p2 &&& (255 : Int32)).toUInt32.toUInt16.toUInt32.toInt32)), .val (.int ((((p2.toUInt32 >>> ((8 : Int32) &&& 31).toUInt32).toInt32) &&& (255 : Int32)).toUInt32.toUInt16.toUInt32.toInt32)), .val (.int ((((p2.toUInt32 >>> ((16 : Int32) &&& 31).toUInt32).toInt32) &&& (255 : Int32)).toUInt32.toUInt16.toUInt32.toInt32)), .val (.int (p1 &&& (3 : Int32))), .val (.ref b160), .val .null, .unset, .unset, .unset] [.null, (.int p0)]))
          obtain ⟨_, _, ⟨T211, L211, k211, n211⟩, -, X211, ⟨Lc211, hQ211, l211, y211, z211⟩, st211⟩ := Jvm.LawKit.callS X175 hx (y := (⟨"com/example/unabridged_index/unabridgedindex/server/Answer", "error", "(ILjava/lang/String;)Lcom/example/unabridged_index/unabridgedindex/server/Answer;"⟩ : MethodName)) hown (mvT hZ w_30) (mvT hZ w_31) (mvT hZ w_32) (mvT hZ w_33) (by decide) (backOf (W := 0) (rm7n l Z a0 hw [] p0  h175 n0 f177) hZ w_33 w_32 (by decide) (by decide)) (g := (mkF m 131 #[.val (.int p0), .val (.int p1), .val (.int p2), .val (.int ((p2 &&& (255 : Int32)).toUInt32.toUInt16.toUInt32.toInt32)), .val (.int ((((p2.toUInt32 >>> ((8 : Int32) &&& 31).toUInt32).toInt32) &&& (255 : Int32)).toUInt32.toUInt16.toUInt32.toInt32)), .val (.int ((((p2.toUInt32 >>> ((16 : Int32) &&& 31).toUInt32).toInt32) &&& (255 : Int32)).toUInt32.toUInt16.toUInt32.toInt32)), .val (.int (p1 &&& (3 : Int32))), .val (.ref b160), .val .null, .unset, .unset, .unset] [.null, (.int p0)])) rfl (by rw [hml]; rfl) (argsL := [(.int p0), .null]) (rest := []) (lenOf pd0__ILjava_lang_String__Lcom_example_unabridged_index_unabridgedindex_server_Answer_ rfl) rfl (by show 2 * 0 + _ ≤ _; exact Nat.le_of_eq rfl) (hb hby at_131) (fun _ _ => ⟨rfl, e175, (by decide : 1 + 2 ≤ _), (by decide : 3 + 3 ≤ _)⟩)
          dsimp only [Pt.U, Pt.locs, Pt.cells, Pt.slots] at X211 l211 y211 z211 st211 hQ211
          subst l211 y211 z211
          obtain ⟨r211, em211, rfl, N211q, K211, gE211, gS211, gB211, gM211, gR211⟩ := hQ211
          have N211 := Fr.app N175 N211q
          have f212 := Nat.le_trans f176 K211.1
          have f213 := Nat.le_trans f177 K211.1
          have f214 := f178.keep K211 all0
          have f215 := own_sta0 f179 K211
          have f216 := V_b160_175.keep K211 nin0
          refine bk (fun t k => st211 t k) ?_
          show F (T211.setTop (mkF m 134 #[.val (.int p0), .val (.int p1), .val (.int p2), .val (.int ((p2 &&& (255 : Int32)).toUInt32.toUInt16.toUInt32.toInt32)), .val (.int ((((p2.toUInt32 >>> ((8 : Int32) &&& 31).toUInt32).toInt32) &&& (255 : Int32)).toUInt32.toUInt16.toUInt32.toInt32)), .val (.int ((((p2.toUInt32 >>> ((16 : Int32) &&& 31).toUInt32).toInt32) &&& (255 : Int32)).toUInt32.toUInt16.toUInt32.toInt32)), .val (.int (p1 &&& (3 : Int32))), .val (.ref b160), .val .null, .unset, .unset, .unset] [(.ref r211)]))
          refine bk (fun t k => XS.astore X211.here hx rfl (hb hby at_134) rfl rfl (l' := #[.val (.int p0), .val (.int p1), .val (.int p2), .val (.int ((p2 &&& (255 : Int32)).toUInt32.toUInt16.toUInt32.toInt32)), .val (.int ((((p2.toUInt32 >>> ((8 : Int32) &&& 31).toUInt32).toInt32) &&& (255 : Int32)).toUInt32.toUInt16.toUInt32.toInt32)), .val (.int ((((p2.toUInt32 >>> ((16 : Int32) &&& 31).toUInt32).toInt32) &&& (255 : Int32)).toUInt32.toUInt16.toUInt32.toInt32)), .val (.int (p1 &&& (3 : Int32))), .val (.ref b160), .val .null, .val (.ref r211), .unset, .unset]) rfl k) ?_
          show F (T211.setTop (mkF m 136 #[.val (.int p0), .val (.int p1), .val (.int p2), .val (.int ((p2 &&& (255 : Int32)).toUInt32.toUInt16.toUInt32.toInt32)), .val (.int ((((p2.toUInt32 >>> ((8 : Int32) &&& 31).toUInt32).toInt32) &&& (255 : Int32)).toUInt32.toUInt16.toUInt32.toInt32)), .val (.int ((((p2.toUInt32 >>> ((16 : Int32) &&& 31).toUInt32).toInt32) &&& (255 : Int32)).toUInt32.toUInt16.toUInt32.toInt32)), .val (.int (p1 &&& (3 : Int32))), .val (.ref b160), .val .null, .val (.ref r211), .unset, .unset] []))
          refine bk (fun t k => XS.aload X211.here hx rfl (hb hby at_136) rfl rfl k) ?_
          show F (T211.setTop (mkF m 138 #[.val (.int p0), .val (.int p1), .val (.int p2), .val (.int ((p2 &&& (255 : Int32)).toUInt32.toUInt16.toUInt32.toInt32)), .val (.int ((((p2.toUInt32 >>> ((8 : Int32) &&& 31).toUInt32).toInt32) &&& (255 : Int32)).toUInt32.toUInt16.toUInt32.toInt32)), .val (.int ((((p2.toUInt32 >>> ((16 : Int32) &&& 31).toUInt32).toInt32) &&& (255 : Int32)).toUInt32.toUInt16.toUInt32.toInt32)), .val (.int (p1 &&& (3 : Int32))), .val (.ref b160), .val .null, .val (.ref r211), .unset, .unset] [(.ref r211)]))
          refine bk (fun t k => XS.ifnonnullYes X211.here hx rfl (pc0 := 138) (pc' := 143) rfl (hb hby at_138) rfl (by decide) (by decide) k) ?_
          show F (T211.setTop (mkF m 143 #[.val (.int p0), .val (.int p1), .val (.int p2), .val (.int ((p2 &&& (255 : Int32)).toUInt32.toUInt16.toUInt32.toInt32)), .val (.int ((((p2.toUInt32 >>> ((8 : Int32) &&& 31).toUInt32).toInt32) &&& (255 : Int32)).toUInt32.toUInt16.toUInt32.toInt32)), .val (.int ((((p2.toUInt32 >>> ((16 : Int32) &&& 31).toUInt32).toInt32) &&& (255 : Int32)).toUInt32.toUInt16.toUInt32.toInt32)), .val (.int (p1 &&& (3 : Int32))), .val (.ref b160), .val .null, .val (.ref r211), .unset, .unset] []))
          refine bk (fun t k => XS.aload X211.here hx rfl (hb hby at_143) rfl rfl k) ?_
          show F (T211.setTop (mkF m 145 #[.val (.int p0), .val (.int p1), .val (.int p2), .val (.int ((p2 &&& (255 : Int32)).toUInt32.toUInt16.toUInt32.toInt32)), .val (.int ((((p2.toUInt32 >>> ((8 : Int32) &&& 31).toUInt32).toInt32) &&& (255 : Int32)).toUInt32.toUInt16.toUInt32.toInt32)), .val (.int ((((p2.toUInt32 >>> ((16 : Int32) &&& 31).toUInt32).toInt32) &&& (255 : Int32)).toUInt32.toUInt16.toUInt32.toInt32)), .val (.int (p1 &&& (3 : Int32))), .val (.ref b160), .val .null, .val (.ref r211), .unset, .unset] [(.ref r211)]))
          obtain ⟨cq217, kq217, q217a, q217b, q217c⟩ := isOf hZ rfl (gE211)
          obtain ⟨_, _, ⟨T217, L217, k217, n217⟩, -, X217, ⟨Lc217, hQ217, l217, y217, z217⟩, st217⟩ := X211.virtualBack hx (y := (⟨"com/example/unabridged_index/unabridgedindex/server/Answer", "status", "()I"⟩ : MethodName)) (z := (⟨"com/example/unabridged_index/unabridgedindex/server/Answer", "status", "()I"⟩ : MethodName)) hown (mvT hZ w_58) (mvT hZ w_59) (notFace_of_selects (args := #[]) (mvT hZ w_61)) (mvT hZ w_61) (mvT hZ w_60) (by decide) (backOf (W := 0) (rm11 l Z a0 hw [] r211 p0 T211.heap n0 f213 gS211) hZ w_62 w_32 (by decide) (by decide)) q217a q217c (g := (mkF m 145 #[.val (.int p0), .val (.int p1), .val (.int p2), .val (.int ((p2 &&& (255 : Int32)).toUInt32.toUInt16.toUInt32.toInt32)), .val (.int ((((p2.toUInt32 >>> ((8 : Int32) &&& 31).toUInt32).toInt32) &&& (255 : Int32)).toUInt32.toUInt16.toUInt32.toInt32)), .val (.int ((((p2.toUInt32 >>> ((16 : Int32) &&& 31).toUInt32).toInt32) &&& (255 : Int32)).toUInt32.toUInt16.toUInt32.toInt32)), .val (.int (p1 &&& (3 : Int32))), .val (.ref b160), .val .null, .val (.ref r211), .unset, .unset] [(.ref r211)])) rfl (by rw [hml]; rfl) (Steps.refl _) (argsL := []) (rest := []) (lenOf pd0___I rfl) rfl (by show 2 * 0 + _ ≤ _; exact Nat.le_of_eq rfl) (hb hby at_145) (fun _ _ => ⟨rfl, rfl, (by decide : 3 + 0 ≤ _), (by decide : 6 + 0 ≤ _)⟩)
          dsimp only [Pt.U, Pt.locs, Pt.cells, Pt.slots] at X217 l217 y217 z217 st217 hQ217
          subst l217 y217 z217
          obtain ⟨rfl, N217q, e217⟩ := hQ217
          have N217 := Fr.app N211 N217q
          refine bk (fun t k => st217.trans k) ?_
          show F (T217.setTop (mkF m 148 #[.val (.int p0), .val (.int p1), .val (.int p2), .val (.int ((p2 &&& (255 : Int32)).toUInt32.toUInt16.toUInt32.toInt32)), .val (.int ((((p2.toUInt32 >>> ((8 : Int32) &&& 31).toUInt32).toInt32) &&& (255 : Int32)).toUInt32.toUInt16.toUInt32.toInt32)), .val (.int ((((p2.toUInt32 >>> ((16 : Int32) &&& 31).toUInt32).toInt32) &&& (255 : Int32)).toUInt32.toUInt16.toUInt32.toInt32)), .val (.int (p1 &&& (3 : Int32))), .val (.ref b160), .val .null, .val (.ref r211), .unset, .unset] [(.int p0)]))
          refine bk (fun t k => XS.iloadN X217.here hx rfl (hb hby at_148) rfl k) ?_
          show F (T217.setTop (mkF m 149 #[.val (.int p0), .val (.int p1), .val (.int p2), .val (.int ((p2 &&& (255 : Int32)).toUInt32.toUInt16.toUInt32.toInt32)), .val (.int ((((p2.toUInt32 >>> ((8 : Int32) &&& 31).toUInt32).toInt32) &&& (255 : Int32)).toUInt32.toUInt16.toUInt32.toInt32)), .val (.int ((((p2.toUInt32 >>> ((16 : Int32) &&& 31).toUInt32).toInt32) &&& (255 : Int32)).toUInt32.toUInt16.toUInt32.toInt32)), .val (.int (p1 &&& (3 : Int32))), .val (.ref b160), .val .null, .val (.ref r211), .unset, .unset] [(.int p0), (.int p0)]))
          refine bk (fun t k => XS.icmpYes X217.here hx rfl (pc0 := 149) (pc' := 154) rfl (hb hby at_149) rfl (teq (rfl : p0 = p0)).1 (by decide) (by decide) k) ?_
          show F (T217.setTop (mkF m 154 #[.val (.int p0), .val (.int p1), .val (.int p2), .val (.int ((p2 &&& (255 : Int32)).toUInt32.toUInt16.toUInt32.toInt32)), .val (.int ((((p2.toUInt32 >>> ((8 : Int32) &&& 31).toUInt32).toInt32) &&& (255 : Int32)).toUInt32.toUInt16.toUInt32.toInt32)), .val (.int ((((p2.toUInt32 >>> ((16 : Int32) &&& 31).toUInt32).toInt32) &&& (255 : Int32)).toUInt32.toUInt16.toUInt32.toInt32)), .val (.int (p1 &&& (3 : Int32))), .val (.ref b160), .val .null, .val (.ref r211), .unset, .unset] []))
          refine bk (fun t k => XS.aload X217.here hx rfl (hb hby at_154) rfl rfl k) ?_
          show F (T217.setTop (mkF m 156 #[.val (.int p0), .val (.int p1), .val (.int p2), .val (.int ((p2 &&& (255 : Int32)).toUInt32.toUInt16.toUInt32.toInt32)), .val (.int ((((p2.toUInt32 >>> ((8 : Int32) &&& 31).toUInt32).toInt32) &&& (255 : Int32)).toUInt32.toUInt16.toUInt32.toInt32)), .val (.int ((((p2.toUInt32 >>> ((16 : Int32) &&& 31).toUInt32).toInt32) &&& (255 : Int32)).toUInt32.toUInt16.toUInt32.toInt32)), .val (.int (p1 &&& (3 : Int32))), .val (.ref b160), .val .null, .val (.ref r211), .unset, .unset] [(.ref r211)]))
          obtain ⟨cq218, kq218, q218a, q218b, q218c⟩ := isOf hZ e217 (gE211)
          obtain ⟨_, _, ⟨T218, L218, k218, n218⟩, -, X218, ⟨Lc218, hQ218, l218, y218, z218⟩, st218⟩ := X217.virtualBack hx (y := (⟨"com/example/unabridged_index/unabridgedindex/server/Answer", "body", "()Ljava/lang/Object;"⟩ : MethodName)) (z := (⟨"com/example/unabridged_index/unabridgedindex/server/Answer", "body", "()Ljava/lang/Object;"⟩ : MethodName)) hown (mvT hZ w_63) (mvT hZ w_64) (notFace_of_selects (args := #[]) (mvT hZ w_66)) (mvT hZ w_66) (mvT hZ w_65) (by decide) (backOf (W := 0) (rm12 l Z a0 hw [] r211 em211 T211.heap n0 f213 gB211) hZ w_67 w_32 (by decide) (by decide)) q218a q218c (g := (mkF m 156 #[.val (.int p0), .val (.int p1), .val (.int p2), .val (.int ((p2 &&& (255 : Int32)).toUInt32.toUInt16.toUInt32.toInt32)), .val (.int ((((p2.toUInt32 >>> ((8 : Int32) &&& 31).toUInt32).toInt32) &&& (255 : Int32)).toUInt32.toUInt16.toUInt32.toInt32)), .val (.int ((((p2.toUInt32 >>> ((16 : Int32) &&& 31).toUInt32).toInt32) &&& (255 : Int32)).toUInt32.toUInt16.toUInt32.toInt32)), .val (.int (p1 &&& (3 : Int32))), .val (.ref b160), .val .null, .val (.ref r211), .unset, .unset] [(.ref r211)])) rfl (by rw [hml]; rfl) (Steps.refl _) (argsL := []) (rest := []) (lenOf pd0___Ljava_lang_Object_ rfl) rfl (by show 2 * 0 + _ ≤ _; exact Nat.le_of_eq rfl) (hb hby at_156) (fun _ _ => ⟨rfl, e217, (by decide : 3 + 0 ≤ _), (by decide : 6 + 0 ≤ _)⟩)
          dsimp only [Pt.U, Pt.locs, Pt.cells, Pt.slots] at X218 l218 y218 z218 st218 hQ218
          subst l218 y218 z218
          obtain ⟨rfl, N218q, e218⟩ := hQ218
          have N218 := Fr.app N217 N218q
          refine bk (fun t k => st218.trans k) ?_
          show F (T218.setTop (mkF m 159 #[.val (.int p0), .val (.int p1), .val (.int p2), .val (.int ((p2 &&& (255 : Int32)).toUInt32.toUInt16.toUInt32.toInt32)), .val (.int ((((p2.toUInt32 >>> ((8 : Int32) &&& 31).toUInt32).toInt32) &&& (255 : Int32)).toUInt32.toUInt16.toUInt32.toInt32)), .val (.int ((((p2.toUInt32 >>> ((16 : Int32) &&& 31).toUInt32).toInt32) &&& (255 : Int32)).toUInt32.toUInt16.toUInt32.toInt32)), .val (.int (p1 &&& (3 : Int32))), .val (.ref b160), .val .null, .val (.ref r211), .unset, .unset] [(.ref em211)]))
          refine bk (fun t k => XS.astore X218.here hx rfl (hb hby at_159) rfl rfl (l' := #[.val (.int p0), .val (.int p1), .val (.int p2), .val (.int ((p2 &&& (255 : Int32)).toUInt32.toUInt16.toUInt32.toInt32)), .val (.int ((((p2.toUInt32 >>> ((8 : Int32) &&& 31).toUInt32).toInt32) &&& (255 : Int32)).toUInt32.toUInt16.toUInt32.toInt32)), .val (.int ((((p2.toUInt32 >>> ((16 : Int32) &&& 31).toUInt32).toInt32) &&& (255 : Int32)).toUInt32.toUInt16.toUInt32.toInt32)), .val (.int (p1 &&& (3 : Int32))), .val (.ref b160), .val .null, .val (.ref r211), .val (.ref em211), .unset]) rfl k) ?_
          show F (T218.setTop (mkF m 161 #[.val (.int p0), .val (.int p1), .val (.int p2), .val (.int ((p2 &&& (255 : Int32)).toUInt32.toUInt16.toUInt32.toInt32)), .val (.int ((((p2.toUInt32 >>> ((8 : Int32) &&& 31).toUInt32).toInt32) &&& (255 : Int32)).toUInt32.toUInt16.toUInt32.toInt32)), .val (.int ((((p2.toUInt32 >>> ((16 : Int32) &&& 31).toUInt32).toInt32) &&& (255 : Int32)).toUInt32.toUInt16.toUInt32.toInt32)), .val (.int (p1 &&& (3 : Int32))), .val (.ref b160), .val .null, .val (.ref r211), .val (.ref em211), .unset] []))
          refine bk (fun t k => XS.aload X218.here hx rfl (hb hby at_161) rfl rfl k) ?_
          show F (T218.setTop (mkF m 163 #[.val (.int p0), .val (.int p1), .val (.int p2), .val (.int ((p2 &&& (255 : Int32)).toUInt32.toUInt16.toUInt32.toInt32)), .val (.int ((((p2.toUInt32 >>> ((8 : Int32) &&& 31).toUInt32).toInt32) &&& (255 : Int32)).toUInt32.toUInt16.toUInt32.toInt32)), .val (.int ((((p2.toUInt32 >>> ((16 : Int32) &&& 31).toUInt32).toInt32) &&& (255 : Int32)).toUInt32.toUInt16.toUInt32.toInt32)), .val (.int (p1 &&& (3 : Int32))), .val (.ref b160), .val .null, .val (.ref r211), .val (.ref em211), .unset] [(.ref em211)]))
          obtain ⟨T219, X219, e219, st219⟩ := instY X218 hx hZ hown w_68 e218 (Ins.self gM211) (g := (mkF m 163 #[.val (.int p0), .val (.int p1), .val (.int p2), .val (.int ((p2 &&& (255 : Int32)).toUInt32.toUInt16.toUInt32.toInt32)), .val (.int ((((p2.toUInt32 >>> ((8 : Int32) &&& 31).toUInt32).toInt32) &&& (255 : Int32)).toUInt32.toUInt16.toUInt32.toInt32)), .val (.int ((((p2.toUInt32 >>> ((16 : Int32) &&& 31).toUInt32).toInt32) &&& (255 : Int32)).toUInt32.toUInt16.toUInt32.toInt32)), .val (.int (p1 &&& (3 : Int32))), .val (.ref b160), .val .null, .val (.ref r211), .val (.ref em211), .unset] [(.ref em211)])) rfl rfl (hb hby at_163)
          refine bk (fun t k => st219 t k) ?_
          show F (T219.setTop (mkF m 166 #[.val (.int p0), .val (.int p1), .val (.int p2), .val (.int ((p2 &&& (255 : Int32)).toUInt32.toUInt16.toUInt32.toInt32)), .val (.int ((((p2.toUInt32 >>> ((8 : Int32) &&& 31).toUInt32).toInt32) &&& (255 : Int32)).toUInt32.toUInt16.toUInt32.toInt32)), .val (.int ((((p2.toUInt32 >>> ((16 : Int32) &&& 31).toUInt32).toInt32) &&& (255 : Int32)).toUInt32.toUInt16.toUInt32.toInt32)), .val (.int (p1 &&& (3 : Int32))), .val (.ref b160), .val .null, .val (.ref r211), .val (.ref em211), .unset] [(.int (1 : Int32))]))
          refine bk (fun t k => XS.ifYes X219.here hx rfl (pc0 := 166) (pc' := 171) rfl (hb hby at_166) rfl ((if0 _ _).trans (feq (by decide : ¬ ((1 : Int32) = (0 : Int32)))).2) (by decide) (by decide) k) ?_
          show F (T219.setTop (mkF m 171 #[.val (.int p0), .val (.int p1), .val (.int p2), .val (.int ((p2 &&& (255 : Int32)).toUInt32.toUInt16.toUInt32.toInt32)), .val (.int ((((p2.toUInt32 >>> ((8 : Int32) &&& 31).toUInt32).toInt32) &&& (255 : Int32)).toUInt32.toUInt16.toUInt32.toInt32)), .val (.int ((((p2.toUInt32 >>> ((16 : Int32) &&& 31).toUInt32).toInt32) &&& (255 : Int32)).toUInt32.toUInt16.toUInt32.toInt32)), .val (.int (p1 &&& (3 : Int32))), .val (.ref b160), .val .null, .val (.ref r211), .val (.ref em211), .unset] []))
          refine bk (fun t k => XS.aload X219.here hx rfl (hb hby at_171) rfl rfl k) ?_
          show F (T219.setTop (mkF m 173 #[.val (.int p0), .val (.int p1), .val (.int p2), .val (.int ((p2 &&& (255 : Int32)).toUInt32.toUInt16.toUInt32.toInt32)), .val (.int ((((p2.toUInt32 >>> ((8 : Int32) &&& 31).toUInt32).toInt32) &&& (255 : Int32)).toUInt32.toUInt16.toUInt32.toInt32)), .val (.int ((((p2.toUInt32 >>> ((16 : Int32) &&& 31).toUInt32).toInt32) &&& (255 : Int32)).toUInt32.toUInt16.toUInt32.toInt32)), .val (.int (p1 &&& (3 : Int32))), .val (.ref b160), .val .null, .val (.ref r211), .val (.ref em211), .unset] [(.ref em211)]))
          obtain ⟨T220, X220, e220, st220⟩ := castY X219 hx hZ hown w_68 e219 (Ins.self gM211) (g := (mkF m 173 #[.val (.int p0), .val (.int p1), .val (.int p2), .val (.int ((p2 &&& (255 : Int32)).toUInt32.toUInt16.toUInt32.toInt32)), .val (.int ((((p2.toUInt32 >>> ((8 : Int32) &&& 31).toUInt32).toInt32) &&& (255 : Int32)).toUInt32.toUInt16.toUInt32.toInt32)), .val (.int ((((p2.toUInt32 >>> ((16 : Int32) &&& 31).toUInt32).toInt32) &&& (255 : Int32)).toUInt32.toUInt16.toUInt32.toInt32)), .val (.int (p1 &&& (3 : Int32))), .val (.ref b160), .val .null, .val (.ref r211), .val (.ref em211), .unset] [(.ref em211)])) rfl rfl (hb hby at_173)
          refine bk (fun t k => st220 t k) ?_
          show F (T220.setTop (mkF m 176 #[.val (.int p0), .val (.int p1), .val (.int p2), .val (.int ((p2 &&& (255 : Int32)).toUInt32.toUInt16.toUInt32.toInt32)), .val (.int ((((p2.toUInt32 >>> ((8 : Int32) &&& 31).toUInt32).toInt32) &&& (255 : Int32)).toUInt32.toUInt16.toUInt32.toInt32)), .val (.int ((((p2.toUInt32 >>> ((16 : Int32) &&& 31).toUInt32).toInt32) &&& (255 : Int32)).toUInt32.toUInt16.toUInt32.toInt32)), .val (.int (p1 &&& (3 : Int32))), .val (.ref b160), .val .null, .val (.ref r211), .val (.ref em211), .unset] [(.ref em211)]))
          obtain ⟨cq221, kq221, q221a, q221b, q221c⟩ := isOf hZ e220 (gM211)
          obtain ⟨_, _, ⟨T221, L221, k221, n221⟩, -, X221, ⟨Lc221, hQ221, l221, y221, z221⟩, st221⟩ := X220.virtualBack hx (y := (⟨"com/example/unabridged_index/unabridgedindex/server/Answer$ErrorMessage", "error", "()Ljava/lang/String;"⟩ : MethodName)) (z := (⟨"com/example/unabridged_index/unabridgedindex/server/Answer$ErrorMessage", "error", "()Ljava/lang/String;"⟩ : MethodName)) hown (mvT hZ w_70) (mvT hZ w_71) (notFace_of_selects (args := #[]) (mvT hZ w_73)) (mvT hZ w_73) (mvT hZ w_72) (by decide) (backOf (W := 0) (rm13n l Z a0 hw [] em211  T211.heap n0 f213 gR211) hZ w_74 w_38 (by decide) (by decide)) q221a q221c (g := (mkF m 176 #[.val (.int p0), .val (.int p1), .val (.int p2), .val (.int ((p2 &&& (255 : Int32)).toUInt32.toUInt16.toUInt32.toInt32)), .val (.int ((((p2.toUInt32 >>> ((8 : Int32) &&& 31).toUInt32).toInt32) &&& (255 : Int32)).toUInt32.toUInt16.toUInt32.toInt32)), .val (.int ((((p2.toUInt32 >>> ((16 : Int32) &&& 31).toUInt32).toInt32) &&& (255 : Int32)).toUInt32.toUInt16.toUInt32.toInt32)), .val (.int (p1 &&& (3 : Int32))), .val (.ref b160), .val .null, .val (.ref r211), .val (.ref em211), .unset] [(.ref em211)])) rfl (by rw [hml]; rfl) (Steps.refl _) (argsL := []) (rest := []) (lenOf pd0___Ljava_lang_String_ rfl) rfl (by show 2 * 0 + _ ≤ _; exact Nat.le_of_eq rfl) (hb hby at_176) (fun _ _ => ⟨rfl, e220, (by decide : 3 + 0 ≤ _), (by decide : 6 + 0 ≤ _)⟩)
          dsimp only [Pt.U, Pt.locs, Pt.cells, Pt.slots] at X221 l221 y221 z221 st221 hQ221
          subst l221 y221 z221
          obtain ⟨rfl, N221q, e221⟩ := hQ221
          have N221 := Fr.app N218 N221q
          refine bk (fun t k => st221.trans k) ?_
          show F (T221.setTop (mkF m 179 #[.val (.int p0), .val (.int p1), .val (.int p2), .val (.int ((p2 &&& (255 : Int32)).toUInt32.toUInt16.toUInt32.toInt32)), .val (.int ((((p2.toUInt32 >>> ((8 : Int32) &&& 31).toUInt32).toInt32) &&& (255 : Int32)).toUInt32.toUInt16.toUInt32.toInt32)), .val (.int ((((p2.toUInt32 >>> ((16 : Int32) &&& 31).toUInt32).toInt32) &&& (255 : Int32)).toUInt32.toUInt16.toUInt32.toInt32)), .val (.int (p1 &&& (3 : Int32))), .val (.ref b160), .val .null, .val (.ref r211), .val (.ref em211), .unset] [.null]))
          refine bk (fun t k => XS.astore X221.here hx rfl (hb hby at_179) rfl rfl (l' := #[.val (.int p0), .val (.int p1), .val (.int p2), .val (.int ((p2 &&& (255 : Int32)).toUInt32.toUInt16.toUInt32.toInt32)), .val (.int ((((p2.toUInt32 >>> ((8 : Int32) &&& 31).toUInt32).toInt32) &&& (255 : Int32)).toUInt32.toUInt16.toUInt32.toInt32)), .val (.int ((((p2.toUInt32 >>> ((16 : Int32) &&& 31).toUInt32).toInt32) &&& (255 : Int32)).toUInt32.toUInt16.toUInt32.toInt32)), .val (.int (p1 &&& (3 : Int32))), .val (.ref b160), .val .null, .val (.ref r211), .val (.ref em211), .val .null]) rfl k) ?_
          show F (T221.setTop (mkF m 181 #[.val (.int p0), .val (.int p1), .val (.int p2), .val (.int ((p2 &&& (255 : Int32)).toUInt32.toUInt16.toUInt32.toInt32)), .val (.int ((((p2.toUInt32 >>> ((8 : Int32) &&& 31).toUInt32).toInt32) &&& (255 : Int32)).toUInt32.toUInt16.toUInt32.toInt32)), .val (.int ((((p2.toUInt32 >>> ((16 : Int32) &&& 31).toUInt32).toInt32) &&& (255 : Int32)).toUInt32.toUInt16.toUInt32.toInt32)), .val (.int (p1 &&& (3 : Int32))), .val (.ref b160), .val .null, .val (.ref r211), .val (.ref em211), .val .null] []))
          refine bk (fun t k => XS.aload X221.here hx rfl (hb hby at_181) rfl rfl k) ?_
          show F (T221.setTop (mkF m 183 #[.val (.int p0), .val (.int p1), .val (.int p2), .val (.int ((p2 &&& (255 : Int32)).toUInt32.toUInt16.toUInt32.toInt32)), .val (.int ((((p2.toUInt32 >>> ((8 : Int32) &&& 31).toUInt32).toInt32) &&& (255 : Int32)).toUInt32.toUInt16.toUInt32.toInt32)), .val (.int ((((p2.toUInt32 >>> ((16 : Int32) &&& 31).toUInt32).toInt32) &&& (255 : Int32)).toUInt32.toUInt16.toUInt32.toInt32)), .val (.int (p1 &&& (3 : Int32))), .val (.ref b160), .val .null, .val (.ref r211), .val (.ref em211), .val .null] [.null]))
          refine bk (fun t k => XS.ifnonnullNo X221.here hx rfl (hb hby at_183) rfl k) ?_
          show F (T221.setTop (mkF m 186 #[.val (.int p0), .val (.int p1), .val (.int p2), .val (.int ((p2 &&& (255 : Int32)).toUInt32.toUInt16.toUInt32.toInt32)), .val (.int ((((p2.toUInt32 >>> ((8 : Int32) &&& 31).toUInt32).toInt32) &&& (255 : Int32)).toUInt32.toUInt16.toUInt32.toInt32)), .val (.int ((((p2.toUInt32 >>> ((16 : Int32) &&& 31).toUInt32).toInt32) &&& (255 : Int32)).toUInt32.toUInt16.toUInt32.toInt32)), .val (.int (p1 &&& (3 : Int32))), .val (.ref b160), .val .null, .val (.ref r211), .val (.ref em211), .val .null] []))
          refine bk (fun t k => XS.aload X221.here hx rfl (hb hby at_186) rfl rfl k) ?_
          show F (T221.setTop (mkF m 188 #[.val (.int p0), .val (.int p1), .val (.int p2), .val (.int ((p2 &&& (255 : Int32)).toUInt32.toUInt16.toUInt32.toInt32)), .val (.int ((((p2.toUInt32 >>> ((8 : Int32) &&& 31).toUInt32).toInt32) &&& (255 : Int32)).toUInt32.toUInt16.toUInt32.toInt32)), .val (.int ((((p2.toUInt32 >>> ((16 : Int32) &&& 31).toUInt32).toInt32) &&& (255 : Int32)).toUInt32.toUInt16.toUInt32.toInt32)), .val (.int (p1 &&& (3 : Int32))), .val (.ref b160), .val .null, .val (.ref r211), .val (.ref em211), .val .null] [.null]))
          refine bk (fun t k => XS.ifnonnullNo X221.here hx rfl (hb hby at_188) rfl k) ?_
          show F (T221.setTop (mkF m 191 #[.val (.int p0), .val (.int p1), .val (.int p2), .val (.int ((p2 &&& (255 : Int32)).toUInt32.toUInt16.toUInt32.toInt32)), .val (.int ((((p2.toUInt32 >>> ((8 : Int32) &&& 31).toUInt32).toInt32) &&& (255 : Int32)).toUInt32.toUInt16.toUInt32.toInt32)), .val (.int ((((p2.toUInt32 >>> ((16 : Int32) &&& 31).toUInt32).toInt32) &&& (255 : Int32)).toUInt32.toUInt16.toUInt32.toInt32)), .val (.int (p1 &&& (3 : Int32))), .val (.ref b160), .val .null, .val (.ref r211), .val (.ref em211), .val .null] []))
          refine bk (fun t k => XS.iconst X221.here hx rfl (hb hby at_191) k) ?_
          show F (T221.setTop (mkF m 192 #[.val (.int p0), .val (.int p1), .val (.int p2), .val (.int ((p2 &&& (255 : Int32)).toUInt32.toUInt16.toUInt32.toInt32)), .val (.int ((((p2.toUInt32 >>> ((8 : Int32) &&& 31).toUInt32).toInt32) &&& (255 : Int32)).toUInt32.toUInt16.toUInt32.toInt32)), .val (.int ((((p2.toUInt32 >>> ((16 : Int32) &&& 31).toUInt32).toInt32) &&& (255 : Int32)).toUInt32.toUInt16.toUInt32.toInt32)), .val (.int (p1 &&& (3 : Int32))), .val (.ref b160), .val .null, .val (.ref r211), .val (.ref em211), .val .null] [(.int (1 : Int32))]))
          refine bk (fun t k => XS.goto X221.here hx rfl (pc0 := 192) (pc' := 196) rfl (hb hby at_192) (by decide) (by decide) k) ?_
          show F (T221.setTop (mkF m 196 #[.val (.int p0), .val (.int p1), .val (.int p2), .val (.int ((p2 &&& (255 : Int32)).toUInt32.toUInt16.toUInt32.toInt32)), .val (.int ((((p2.toUInt32 >>> ((8 : Int32) &&& 31).toUInt32).toInt32) &&& (255 : Int32)).toUInt32.toUInt16.toUInt32.toInt32)), .val (.int ((((p2.toUInt32 >>> ((16 : Int32) &&& 31).toUInt32).toInt32) &&& (255 : Int32)).toUInt32.toUInt16.toUInt32.toInt32)), .val (.int (p1 &&& (3 : Int32))), .val (.ref b160), .val .null, .val (.ref r211), .val (.ref em211), .val .null] [(.int (1 : Int32))]))
          rw [hF]
          refine own_retZW X221 hx hS0 (by rw [e221]; exact f212) Bd.notSynchronized Bd.returns (hb hby at_196) (by decide) (by decide) ?_
          rw [e221]
          exact ⟨rfl, N221⟩
set_option maxRecDepth 65536 in
set_option maxHeartbeats 40000000 in
theorem comes_1 {Post : Tables → Env → Array Value → State → Outcome → State → Prop} (hpost : ∀ tb e args s v u, (limb_1_1.after args s (.returned v) u = true ∧ limb_1_2.after args s (.returned v) u = true ∧ True) → ReturnedEndW s (.returned v) u (Jvm.fieldLocs frame_1_writes args s ++ Jvm.arrayLocs frame_1_arrays args s ++ Jvm.staticLocs frame_1_statics s) 24 1152 → Post tb e args s (.returned v) u) :
    ArmFor flags0 classFile x code maxLocals ret World_1 tables_1 room_1 Calls_1 rest_1 Pre_1 Post := by
  intro l hfl _ _ p e ha hc hk s m args below hf hA hF happ hP
  obtain ⟨hcalls, hrest, hpre⟩ := hP
  obtain ⟨-, -, -, hnamed, -, -, -, hat⟩ := (Spec.applies_iff hf).mp happ
  obtain ⟨hg, hn⟩ := and_e (Cond.before_iff.mp (show (Jvm.Cond.and given_1 narrow_1).before args s = true from hpre))
  obtain ⟨hcount, hk0⟩ := and_e hg
  obtain ⟨hi0, hk1⟩ := and_e hk0
  obtain ⟨hi1, hk2⟩ := and_e hk1
  have hi2 := hk2
  obtain ⟨w0, w1, w2, rfl⟩ : ∃ w0 w1 w2 : Value, args = #[w0, w1, w2] := by
    have hs : args.size = 3 := by simpa [Cond.value, given_1] using hcount
    obtain ⟨L⟩ := args
    match L, hs with
    | [w0, w1, w2], _ => exact ⟨w0, w1, w2, rfl⟩
  have hw := fun d (hd : d ∈ tables_1) => atoms_spec (ws := Jvm.Cond.code x code maxLocals ret :: tables_1) hat d (List.mem_cons_of_mem _ hd)
  obtain ⟨i0, ei0⟩ := is_v hi0
  obtain rfl : w0 = (.int i0) := Option.some.inj ei0
  obtain ⟨i1, ei1⟩ := is_v hi1
  obtain rfl : w1 = (.int i1) := Option.some.inj ei1
  obtain ⟨i2, ei2⟩ := is_v hi2
  obtain rfl : w2 = (.int i2) := Option.some.inj ei2
  obtain ⟨hsets, hown0⟩ := atoms_of _ (rest_1_c_eq ▸ (show rest_1_c.before _ s = true from hrest))
  obtain ⟨cs, ecs⟩ := is_v (Cond.before_iff.mp (hsets _ (List.mem_of_getElem? (i := 1) rfl)))
  have S_cs : Sta s s.heap "java/lang/String" "COMPACT_STRINGS" "Z" (.int cs) := Sta.start ecs (Or.inl (hsets _ (List.mem_of_getElem? (i := 0) rfl)))
  have own_hc := hsets _ (List.mem_of_getElem? (i := 2) rfl)
  have hcs : ¬ cs = (0 : Int32) := gotF (P := cs = (0 : Int32)) (by simp [Cond.value, ecs, Term.int_eval]) (not_v (Cond.before_iff.mp own_hc))
  have own_held : Jvm.Lit.constHeld s "java/lang/String" 7 := hcalls.1 ("java/lang/String", 7) (by simp [consts_1])
  obtain ⟨n, o, h1, h2, h3, _, L, rfl, ⟨rfl, N⟩, hq⟩ := rm0 l s _ hw tables_1 i0 i1 i2 cs s.heap s.heap.size (Nat.le_refl _) (Old.start s) own_held own_hc S_cs hcs p e ha hc hk s m _ below hf ((Spec.applies_iff_loose hf).mp happ).1 ⟨rfl, State.Warmed39.refl s, rfl, IB.start⟩ trivial
  refine ⟨n, _, h1, h2, h3, hpost _ _ _ _ _ _ ⟨Cond.after_iff.mpr rfl, Cond.after_iff.mpr (eq_i res_at (Term.int_eval (1)) rfl), trivial⟩ ⟨hq.1, hq.2.1, hq.2.2.1, (hq.2.2.2.sift fun y hy => Or.inr (N y hy)).mono (by decide) (by decide)⟩⟩
theorem main_1_1 : Claimed_1_1 := comes_1 fun _ _ _ _ _ _ h hF => ⟨h.1, hF⟩
theorem main_1_2 : Claimed_1_2 := comes_1 fun _ _ _ _ _ _ h hF => ⟨h.2.1, hF⟩
end Jvm.Pilot.@@N@@
namespace Jvm.Pilot.@@N@@
open Jvm Jvm.ClassFile Sem Op Lib Jvm.Free Jvm.Stand Jvm.Pilot.@@N@@.Jvm.D
/-! MADE BY PROGRAM (witnessworld.py) out of the Statement's table words and the real class files: 22 classes; the members and pool entries that the words name. The judged class is class 1, her method 1. -/
namespace start1
open Jvm.ClassFile
def u (s : String) : CpInfo := .utf8 (stringToUtf16 s)
/-- a pool by its gaps: so many unusable entries, then the entry; so many at the end -/
def gap : Nat → List CpInfo → List CpInfo
  | 0, r => r
  | n + 1, r => .unusable :: gap n r
def poolList (es : List (Nat × CpInfo)) (last : Nat) : List CpInfo := es.foldr (fun e r => gap e.1 (e.2 :: r)) (gap last [])
def pool (es : List (Nat × CpInfo)) (last : Nat) : Array CpInfo := ⟨poolList es last⟩
def fileOf (pool : Array CpInfo) (this : Nat) (attrs : Array Attribute := #[]) (ms : Array MethodInfo := #[]) (fl : Nat := 33) (sup : Nat := 0) (ifs : Array Nat := #[]) (fds : Array FieldInfo := #[]) : ClassFile where
  minorVersion := 0
  majorVersion := 65
  constantPool := pool
  accessFlags := fl
  thisClass := this
  superClass := sup
  interfaces := ifs
  fields := fds
  methods := ms
  attributes := attrs
def plain (name : String) (sup : Option ClassId) : Class where
  name := name
  kind := .ordinary
  loader := none
  accessFlags := 33
  super := sup
  interfaces := #[]
  cf := none
  fields := #[]
  methods := #[]
  instanceTypes := #[]
  staticTypes := #[]
  resolved := #[]
  callSites := []
  init := .initialized
  statics := none
  mirror := none

def pool0 : Array CpInfo := pool [(5, u "<init>"), (0, u "()V"), (1, .class_ 10), (1, u "java/lang/Object")] 113

def k0c0 : Code := { maxStack := 0, maxLocals := 1, code := object_method_1_code, exceptionTable := #[], attributes := #[] }
def k0m0 : Method := { name := "<init>", desc := "()V", sig := { parameters := [], returnType := none }, accessFlags := 1, code := some k0c0 }
/-- java/lang/Object -/
def k0 : Class := { plain "java/lang/Object" none with
  accessFlags := 33
  interfaces := #[]
  cf := some (fileOf pool0 8 #[] #[{ accessFlags := 1, nameIndex := 5, descriptorIndex := 6, attributes := #[] }] 33 0 #[] #[])
  fields := #[]
  methods := #[k0m0]
  instanceTypes := #[]
  staticTypes := #[]
  resolved := Array.replicate 124 none
  statics := none }

def pool1 : Array CpInfo := pool [(2, .class_ 4), (1, u "java/lang/Object"), (0, u "<init>"), (0, u "()V"), (0, .class_ 8), (0, u "java/lang/String"), (0, .methodref 7 10), (0, .nameAndType 5 11), (0, u "([C)V"), (0, .methodref 13 14), (0, .class_ 15), (0, .nameAndType 16 17), (0, u "com/example/unabridged_index/unabridgedindex/server/Answer"), (0, u "error"), (0, u "(ILjava/lang/String;)Lcom/example/unabridged_index/unabridgedindex/server/Answer;"), (0, .methodref 13 19), (0, .nameAndType 20 21), (0, u "status"), (0, u "()I"), (0, .methodref 13 23), (0, .nameAndType 24 25), (0, u "body"), (0, u "()Ljava/lang/Object;"), (0, .class_ 27), (0, u "com/example/unabridged_index/unabridgedindex/server/Answer$ErrorMessage"), (0, .methodref 26 29), (0, .nameAndType 16 30), (0, u "()Ljava/lang/String;"), (0, .methodref 7 32), (0, .nameAndType 33 21), (0, u "length"), (0, .methodref 7 35), (0, .nameAndType 36 37), (0, u "equals"), (0, u "(Ljava/lang/Object;)Z"), (0, .class_ 39), (0, u "com/example/unabridged_index/unabridgedindex/server/AnswerErrorPinLaw"), (2, u "law"), (0, u "(III)Z")] 7

def k1m0 : Method := { name := "<init>", desc := "()V", sig := { parameters := [], returnType := none }, accessFlags := 1, code := none }
def k1c1 : Code := { maxStack := 4, maxLocals := 12, code := code, exceptionTable := #[], attributes := #[] }
def k1m1 : Method := { name := "law", desc := "(III)Z", sig := { parameters := [.int, .int, .int], returnType := some .boolean }, accessFlags := 9, code := some k1c1 }
/-- com/example/unabridged_index/unabridgedindex/server/AnswerErrorPinLaw -/
def k1 : Class := { plain "com/example/unabridged_index/unabridgedindex/server/AnswerErrorPinLaw" (some 0) with
  accessFlags := 49
  interfaces := #[]
  cf := some (fileOf pool1 38 #[] #[{ accessFlags := 1, nameIndex := 5, descriptorIndex := 6, attributes := #[] }, { accessFlags := 9, nameIndex := 42, descriptorIndex := 43, attributes := #[] }] 49 2 #[] #[])
  fields := #[]
  methods := #[k1m0, k1m1]
  instanceTypes := #[]
  staticTypes := #[]
  resolved := Array.replicate 51 none
  statics := none }

def pool2 : Array CpInfo := pool [(1, .class_ 2), (0, u "java/io/Serializable"), (0, .class_ 4), (0, u "java/lang/Object")] 2

/-- java/io/Serializable -/
def k2 : Class := { plain "java/io/Serializable" (some 0) with
  accessFlags := 1537
  interfaces := #[]
  cf := some (fileOf pool2 1 #[] #[] 1537 3 #[] #[])
  fields := #[]
  methods := #[]
  instanceTypes := #[]
  staticTypes := #[]
  resolved := Array.replicate 7 none
  statics := none }

def pool3 : Array CpInfo := pool [(1, .class_ 2), (0, u "java/lang/Comparable"), (0, .class_ 4), (0, u "java/lang/Object")] 7

/-- java/lang/Comparable -/
def k3 : Class := { plain "java/lang/Comparable" (some 0) with
  accessFlags := 1537
  interfaces := #[]
  cf := some (fileOf pool3 1 #[] #[] 1537 3 #[] #[])
  fields := #[]
  methods := #[]
  instanceTypes := #[]
  staticTypes := #[]
  resolved := Array.replicate 12 none
  statics := none }

def pool4 : Array CpInfo := pool [(2, .class_ 4), (1, u "java/lang/CharSequence"), (42, .class_ 48), (0, u "java/lang/CharSequence$1CodePointIterator"), (10, .class_ 60), (0, u "java/lang/CharSequence$1CharIterator"), (5, .class_ 67), (0, u "java/lang/Object")] 63

/-- java/lang/CharSequence -/
def k4 : Class := { plain "java/lang/CharSequence" (some 0) with
  accessFlags := 1537
  interfaces := #[]
  cf := some (fileOf pool4 2 #[.nestMembers #[47, 59]] #[] 1537 66 #[] #[])
  fields := #[]
  methods := #[]
  instanceTypes := #[]
  staticTypes := #[]
  resolved := Array.replicate 131 none
  statics := none }

def pool5 : Array CpInfo := pool [(1, .class_ 2), (0, u "java/lang/constant/Constable"), (0, .class_ 4), (0, u "java/lang/Object")] 6

/-- java/lang/constant/Constable -/
def k5 : Class := { plain "java/lang/constant/Constable" (some 0) with
  accessFlags := 1537
  interfaces := #[]
  cf := some (fileOf pool5 1 #[] #[] 1537 3 #[] #[])
  fields := #[]
  methods := #[]
  instanceTypes := #[]
  staticTypes := #[]
  resolved := Array.replicate 11 none
  statics := none }

def pool6 : Array CpInfo := pool [(1, .class_ 2), (0, u "java/lang/constant/ConstantDesc"), (0, .class_ 4), (0, u "java/lang/Object")] 32

/-- java/lang/constant/ConstantDesc -/
def k6 : Class := { plain "java/lang/constant/ConstantDesc" (some 0) with
  accessFlags := 1537
  interfaces := #[]
  cf := some (fileOf pool6 1 #[] #[] 1537 3 #[] #[])
  fields := #[]
  methods := #[]
  instanceTypes := #[]
  staticTypes := #[]
  resolved := Array.replicate 37 none
  statics := none }

def pool7 : Array CpInfo := pool [(1, .methodref 2 3), (0, .class_ 4), (0, .nameAndType 5 6), (0, u "java/lang/Object"), (0, u "<init>"), (0, u "()V"), (0, .string 8), (0, u ""), (0, .fieldref 10 11), (0, .class_ 12), (0, .nameAndType 13 14), (0, u "java/lang/String"), (0, u "value"), (0, u "[B"), (0, .fieldref 10 16), (0, .nameAndType 17 18), (0, u "coder"), (0, u "B"), (2, u "hash"), (0, u "I"), (2, u "hashIsZero"), (0, u "Z"), (0, .methodref 10 28), (0, .nameAndType 5 29), (0, u "([CIILjava/lang/Void;)V"), (8, .fieldref 10 39), (0, .nameAndType 40 26), (0, u "COMPACT_STRINGS"), (1, .class_ 44), (1, u "java/lang/StringUTF16"), (0, u "compress"), (1, .methodref 42 48), (0, .nameAndType 49 50), (0, u "coderFromArrayLen"), (0, u "([BI)B"), (126, .methodref 42 178), (0, .nameAndType 45 179), (0, u "([CII)[B"), (154, u "()I"), (0, .methodref 10 336), (0, .nameAndType 17 337), (0, u "()B"), (169, u "length"), (35, u "equals"), (29, u "(Ljava/lang/Object;)Z"), (1, .class_ 576), (0, u "java/lang/CharSequence"), (22, u "CASE_INSENSITIVE_ORDER"), (0, u "Ljava/util/Comparator;"), (409, u "([C)V"), (90, u "serialPersistentFields"), (0, u "[Ljava/io/ObjectStreamField;"), (0, .class_ 1104), (0, u "java/lang/String$CaseInsensitiveComparator"), (1, .class_ 1107), (0, u "java/io/Serializable"), (0, .class_ 1109), (0, u "java/lang/Comparable"), (0, .class_ 1111), (0, u "java/lang/constant/Constable"), (0, .class_ 1113), (0, u "java/lang/constant/ConstantDesc"), (2, u "serialVersionUID"), (0, u "J"), (3, u "REPL"), (0, u "C"), (2, u "LATIN1"), (1, u "UTF16")] 323

def k7m0 : Method := { name := "<init>", desc := "()V", sig := { parameters := [], returnType := none }, accessFlags := 1, code := none }
def k7c1 : Code := { maxStack := 5, maxLocals := 2, code := jdk_42_method_3_code, exceptionTable := #[], attributes := #[] }
def k7m1 : Method := { name := "<init>", desc := "([C)V", sig := { parameters := [(.array .char)], returnType := none }, accessFlags := 1, code := some k7c1 }
def k7c2 : Code := { maxStack := 2, maxLocals := 1, code := jdk_42_method_54_code, exceptionTable := #[], attributes := #[] }
def k7m2 : Method := { name := "length", desc := "()I", sig := { parameters := [], returnType := some .int }, accessFlags := 1, code := some k7c2 }
def k7c3 : Code := { maxStack := 2, maxLocals := 3, code := jdk_42_method_66_code, exceptionTable := #[], attributes := #[] }
def k7m3 : Method := { name := "equals", desc := "(Ljava/lang/Object;)Z", sig := { parameters := [(.object "java/lang/Object")], returnType := some .boolean }, accessFlags := 1, code := some k7c3 }
def k7c4 : Code := { maxStack := 4, maxLocals := 6, code := jdk_42_method_149_code, exceptionTable := #[], attributes := #[] }
def k7m4 : Method := { name := "<init>", desc := "([CIILjava/lang/Void;)V", sig := { parameters := [(.array .char), .int, .int, (.object "java/lang/Void")], returnType := none }, accessFlags := 2, code := some k7c4 }
def k7c5 : Code := { maxStack := 1, maxLocals := 1, code := jdk_42_method_152_code, exceptionTable := #[], attributes := #[] }
def k7m5 : Method := { name := "coder", desc := "()B", sig := { parameters := [], returnType := some .byte }, accessFlags := 0, code := some k7c5 }
/-- java/lang/String -/
def k7 : Class := { plain "java/lang/String" (some 0) with
  accessFlags := 49
  interfaces := #[2, 3, 4, 5, 6]
  cf := some (fileOf pool7 10 #[.nestMembers #[1103]] #[{ accessFlags := 1, nameIndex := 5, descriptorIndex := 6, attributes := #[] }, { accessFlags := 1, nameIndex := 5, descriptorIndex := 1010, attributes := #[] }, { accessFlags := 1, nameIndex := 507, descriptorIndex := 334, attributes := #[] }, { accessFlags := 1, nameIndex := 543, descriptorIndex := 573, attributes := #[] }, { accessFlags := 2, nameIndex := 5, descriptorIndex := 29, attributes := #[] }, { accessFlags := 0, nameIndex := 17, descriptorIndex := 337, attributes := #[] }] 49 2 #[1106, 1108, 575, 1110, 1112] #[{ accessFlags := 18, nameIndex := 13, descriptorIndex := 14, attributes := #[] }, { accessFlags := 18, nameIndex := 17, descriptorIndex := 18, attributes := #[] }, { accessFlags := 2, nameIndex := 21, descriptorIndex := 22, attributes := #[] }, { accessFlags := 2, nameIndex := 25, descriptorIndex := 26, attributes := #[] }, { accessFlags := 26, nameIndex := 1116, descriptorIndex := 1117, attributes := #[] }, { accessFlags := 24, nameIndex := 40, descriptorIndex := 26, attributes := #[] }, { accessFlags := 26, nameIndex := 1101, descriptorIndex := 1102, attributes := #[] }, { accessFlags := 26, nameIndex := 1121, descriptorIndex := 1122, attributes := #[] }, { accessFlags := 25, nameIndex := 599, descriptorIndex := 600, attributes := #[] }, { accessFlags := 24, nameIndex := 1125, descriptorIndex := 18, attributes := #[] }, { accessFlags := 24, nameIndex := 1127, descriptorIndex := 18, attributes := #[] }])
  fields := #[{ name := "value", type := (.array .byte), accessFlags := 18, slot := 0, constantValue := 0 }, { name := "coder", type := .byte, accessFlags := 18, slot := 1, constantValue := 0 }, { name := "hash", type := .int, accessFlags := 2, slot := 2, constantValue := 0 }, { name := "hashIsZero", type := .boolean, accessFlags := 2, slot := 3, constantValue := 0 }, { name := "serialVersionUID", type := .long, accessFlags := 26, slot := 0, constantValue := 0 }, { name := "COMPACT_STRINGS", type := .boolean, accessFlags := 24, slot := 1, constantValue := 0 }, { name := "serialPersistentFields", type := (.array (.object "java/io/ObjectStreamField")), accessFlags := 26, slot := 2, constantValue := 0 }, { name := "REPL", type := .char, accessFlags := 26, slot := 3, constantValue := 0 }, { name := "CASE_INSENSITIVE_ORDER", type := (.object "java/util/Comparator"), accessFlags := 25, slot := 4, constantValue := 0 }, { name := "LATIN1", type := .byte, accessFlags := 24, slot := 5, constantValue := 0 }, { name := "UTF16", type := .byte, accessFlags := 24, slot := 6, constantValue := 0 }]
  methods := #[k7m0, k7m1, k7m2, k7m3, k7m4, k7m5]
  instanceTypes := #[(.array .byte), .byte, .int, .boolean]
  staticTypes := #[.long, .boolean, (.array (.object "java/io/ObjectStreamField")), .char, (.object "java/util/Comparator"), .byte, .byte]
  resolved := Array.replicate 1451 none
  statics := some 0 }

def pool8 : Array CpInfo := pool [(6, .class_ 8), (1, u "java/lang/Object"), (0, u "<init>"), (0, u "()V"), (1, .class_ 14), (1, u "java/lang/StringUTF16"), (31, u "$assertionsDisabled"), (0, u "Z"), (13, u "HI_BYTE_SHIFT"), (0, u "I"), (2, u "LO_BYTE_SHIFT"), (49, .methodref 12 116), (0, .nameAndType 117 118), (0, u "compress"), (0, u "([CI[BII)I"), (3, u "([CII)[B"), (138, u "coderFromArrayLen"), (0, u "([BI)B"), (106, .class_ 371), (1, u "java/lang/StringUTF16$LinesSpliterator"), (58, u "MAX_LENGTH"), (196, .class_ 628), (0, u "java/lang/StringUTF16$CodePointsSpliterator"), (0, .class_ 630), (0, u "java/lang/StringUTF16$CharsSpliterator")] 4

def k8m0 : Method := { name := "<init>", desc := "()V", sig := { parameters := [], returnType := none }, accessFlags := 0, code := none }
def k8c1 : Code := { maxStack := 2, maxLocals := 2, code := jdk_52_method_15_code, exceptionTable := #[], attributes := #[] }
def k8m1 : Method := { name := "coderFromArrayLen", desc := "([BI)B", sig := { parameters := [(.array .byte), .int], returnType := some .byte }, accessFlags := 8, code := some k8c1 }
def k8c2 : Code := { maxStack := 5, maxLocals := 6, code := jdk_52_method_16_code, exceptionTable := #[], attributes := #[] }
def k8m2 : Method := { name := "compress", desc := "([CII)[B", sig := { parameters := [(.array .char), .int, .int], returnType := some (.array .byte) }, accessFlags := 9, code := some k8c2 }
def k8c3 : Code := { maxStack := 3, maxLocals := 7, code := jdk_52_method_21_code, exceptionTable := #[], attributes := #[] }
def k8m3 : Method := { name := "compress", desc := "([CI[BII)I", sig := { parameters := [(.array .char), .int, (.array .byte), .int, .int], returnType := some .int }, accessFlags := 9, code := some k8c3 }
/-- java/lang/StringUTF16 -/
def k8 : Class := { plain "java/lang/StringUTF16" (some 0) with
  accessFlags := 48
  interfaces := #[]
  cf := some (fileOf pool8 12 #[.nestMembers #[627, 629, 369]] #[{ accessFlags := 0, nameIndex := 9, descriptorIndex := 10, attributes := #[] }, { accessFlags := 8, nameIndex := 261, descriptorIndex := 262, attributes := #[] }, { accessFlags := 9, nameIndex := 117, descriptorIndex := 122, attributes := #[] }, { accessFlags := 9, nameIndex := 117, descriptorIndex := 118, attributes := #[] }] 48 6 #[] #[{ accessFlags := 26, nameIndex := 61, descriptorIndex := 62, attributes := #[] }, { accessFlags := 26, nameIndex := 65, descriptorIndex := 62, attributes := #[] }, { accessFlags := 24, nameIndex := 430, descriptorIndex := 62, attributes := #[] }, { accessFlags := 4120, nameIndex := 46, descriptorIndex := 47, attributes := #[] }])
  fields := #[{ name := "HI_BYTE_SHIFT", type := .int, accessFlags := 26, slot := 0, constantValue := 0 }, { name := "LO_BYTE_SHIFT", type := .int, accessFlags := 26, slot := 1, constantValue := 0 }, { name := "MAX_LENGTH", type := .int, accessFlags := 24, slot := 2, constantValue := 0 }, { name := "$assertionsDisabled", type := .boolean, accessFlags := 4120, slot := 3, constantValue := 0 }]
  methods := #[k8m0, k8m1, k8m2, k8m3]
  instanceTypes := #[]
  staticTypes := #[.int, .int, .int, .boolean]
  resolved := Array.replicate 635 none
  statics := none }

def pool9 : Array CpInfo := pool [(1, .methodref 2 3), (0, .class_ 4), (0, .nameAndType 5 6), (0, u "java/lang/Object"), (0, u "<init>"), (0, u "()V"), (0, .class_ 8), (0, u "java/lang/Record")] 13

def k9c0 : Code := { maxStack := 1, maxLocals := 1, code := jdk_30_method_1_code, exceptionTable := #[], attributes := #[] }
def k9m0 : Method := { name := "<init>", desc := "()V", sig := { parameters := [], returnType := none }, accessFlags := 4, code := some k9c0 }
/-- java/lang/Record -/
def k9 : Class := { plain "java/lang/Record" (some 0) with
  accessFlags := 1057
  interfaces := #[]
  cf := some (fileOf pool9 7 #[] #[{ accessFlags := 4, nameIndex := 5, descriptorIndex := 6, attributes := #[] }] 1057 2 #[] #[])
  fields := #[]
  methods := #[k9m0]
  instanceTypes := #[]
  staticTypes := #[]
  resolved := Array.replicate 22 none
  statics := none }

def pool10 : Array CpInfo := pool [(1, .methodref 2 3), (0, .class_ 4), (0, .nameAndType 5 6), (0, u "java/lang/Record"), (0, u "<init>"), (0, u "()V"), (0, .fieldref 8 9), (0, .class_ 10), (0, .nameAndType 11 12), (0, u "com/example/unabridged_index/unabridgedindex/server/Answer"), (0, u "status"), (0, u "I"), (0, .fieldref 8 14), (0, .nameAndType 15 16), (0, u "body"), (0, u "Ljava/lang/Object;"), (0, .class_ 18), (0, u "com/example/unabridged_index/unabridgedindex/server/Answer$ErrorMessage"), (0, .methodref 17 20), (0, .nameAndType 5 21), (0, u "(Ljava/lang/String;)V"), (0, .methodref 8 23), (0, .nameAndType 5 24), (0, u "(ILjava/lang/Object;)V"), (15, u "error"), (0, u "(ILjava/lang/String;)Lcom/example/unabridged_index/unabridgedindex/server/Answer;"), (1, u "()I"), (1, u "()Ljava/lang/Object;"), (3, .class_ 50), (0, u "com/example/unabridged_index/unabridgedindex/server/Answer$PageFile")] 21

def k10c0 : Code := { maxStack := 2, maxLocals := 3, code := prog_52_method_1_code, exceptionTable := #[], attributes := #[] }
def k10m0 : Method := { name := "<init>", desc := "(ILjava/lang/Object;)V", sig := { parameters := [.int, (.object "java/lang/Object")], returnType := none }, accessFlags := 0, code := some k10c0 }
def k10c1 : Code := { maxStack := 6, maxLocals := 2, code := prog_52_method_2_code, exceptionTable := #[], attributes := #[] }
def k10m1 : Method := { name := "error", desc := "(ILjava/lang/String;)Lcom/example/unabridged_index/unabridgedindex/server/Answer;", sig := { parameters := [.int, (.object "java/lang/String")], returnType := some (.object "com/example/unabridged_index/unabridgedindex/server/Answer") }, accessFlags := 8, code := some k10c1 }
def k10c2 : Code := { maxStack := 1, maxLocals := 1, code := prog_52_method_6_code, exceptionTable := #[], attributes := #[] }
def k10m2 : Method := { name := "status", desc := "()I", sig := { parameters := [], returnType := some .int }, accessFlags := 1, code := some k10c2 }
def k10c3 : Code := { maxStack := 1, maxLocals := 1, code := prog_52_method_7_code, exceptionTable := #[], attributes := #[] }
def k10m3 : Method := { name := "body", desc := "()Ljava/lang/Object;", sig := { parameters := [], returnType := some (.object "java/lang/Object") }, accessFlags := 1, code := some k10c3 }
/-- com/example/unabridged_index/unabridgedindex/server/Answer -/
def k10 : Class := { plain "com/example/unabridged_index/unabridgedindex/server/Answer" (some 9) with
  accessFlags := 48
  interfaces := #[]
  cf := some (fileOf pool10 8 #[.nestMembers #[49, 17]] #[{ accessFlags := 0, nameIndex := 5, descriptorIndex := 24, attributes := #[] }, { accessFlags := 8, nameIndex := 40, descriptorIndex := 41, attributes := #[] }, { accessFlags := 1, nameIndex := 11, descriptorIndex := 43, attributes := #[] }, { accessFlags := 1, nameIndex := 15, descriptorIndex := 45, attributes := #[] }] 48 2 #[] #[{ accessFlags := 18, nameIndex := 11, descriptorIndex := 12, attributes := #[] }, { accessFlags := 18, nameIndex := 15, descriptorIndex := 16, attributes := #[] }])
  fields := #[{ name := "status", type := .int, accessFlags := 18, slot := 0, constantValue := 0 }, { name := "body", type := (.object "java/lang/Object"), accessFlags := 18, slot := 1, constantValue := 0 }]
  methods := #[k10m0, k10m1, k10m2, k10m3]
  instanceTypes := #[.int, (.object "java/lang/Object")]
  staticTypes := #[]
  resolved := Array.replicate 72 none
  statics := none }

def pool11 : Array CpInfo := pool [(1, .methodref 2 3), (0, .class_ 4), (0, .nameAndType 5 6), (0, u "java/lang/Record"), (0, u "<init>"), (0, u "()V"), (0, .fieldref 8 9), (0, .class_ 10), (0, .nameAndType 11 12), (0, u "com/example/unabridged_index/unabridgedindex/server/Answer$ErrorMessage"), (0, u "error"), (0, u "Ljava/lang/String;"), (12, u "(Ljava/lang/String;)V"), (3, u "()Ljava/lang/String;"), (5, .class_ 36), (0, u "com/example/unabridged_index/unabridgedindex/server/Answer")] 18

def k11c0 : Code := { maxStack := 2, maxLocals := 2, code := prog_53_method_1_code, exceptionTable := #[], attributes := #[] }
def k11m0 : Method := { name := "<init>", desc := "(Ljava/lang/String;)V", sig := { parameters := [(.object "java/lang/String")], returnType := none }, accessFlags := 0, code := some k11c0 }
def k11c1 : Code := { maxStack := 1, maxLocals := 1, code := prog_53_method_5_code, exceptionTable := #[], attributes := #[] }
def k11m1 : Method := { name := "error", desc := "()Ljava/lang/String;", sig := { parameters := [], returnType := some (.object "java/lang/String") }, accessFlags := 1, code := some k11c1 }
/-- com/example/unabridged_index/unabridgedindex/server/Answer$ErrorMessage -/
def k11 : Class := { plain "com/example/unabridged_index/unabridgedindex/server/Answer$ErrorMessage" (some 9) with
  accessFlags := 48
  interfaces := #[]
  cf := some (fileOf pool11 8 #[.nestHost 35] #[{ accessFlags := 0, nameIndex := 5, descriptorIndex := 25, attributes := #[] }, { accessFlags := 1, nameIndex := 11, descriptorIndex := 29, attributes := #[] }] 48 2 #[] #[{ accessFlags := 18, nameIndex := 11, descriptorIndex := 12, attributes := #[] }])
  fields := #[{ name := "error", type := (.object "java/lang/String"), accessFlags := 18, slot := 0, constantValue := 0 }]
  methods := #[k11m0, k11m1]
  instanceTypes := #[(.object "java/lang/String")]
  staticTypes := #[]
  resolved := Array.replicate 55 none
  statics := none }

def pool12 : Array CpInfo := pool [(4, .class_ 6), (1, u "java/lang/Object"), (0, u "<init>"), (0, u "()V"), (5, .class_ 16), (1, u "java/lang/StringLatin1"), (104, u "$assertionsDisabled"), (0, u "Z"), (98, .class_ 223), (1, u "java/lang/StringLatin1$LinesSpliterator"), (166, .class_ 391), (0, u "java/lang/StringLatin1$CharsSpliterator")] 3

def k12m0 : Method := { name := "<init>", desc := "()V", sig := { parameters := [], returnType := none }, accessFlags := 0, code := none }
/-- java/lang/StringLatin1 -/
def k12 : Class := { plain "java/lang/StringLatin1" (some 0) with
  accessFlags := 48
  interfaces := #[]
  cf := some (fileOf pool12 14 #[.nestMembers #[390, 221]] #[{ accessFlags := 0, nameIndex := 7, descriptorIndex := 8, attributes := #[] }] 48 4 #[] #[{ accessFlags := 4120, nameIndex := 121, descriptorIndex := 122, attributes := #[] }])
  fields := #[{ name := "$assertionsDisabled", type := .boolean, accessFlags := 4120, slot := 0, constantValue := 0 }]
  methods := #[k12m0]
  instanceTypes := #[]
  staticTypes := #[.boolean]
  resolved := Array.replicate 395 none
  statics := none }

def pool13 : Array CpInfo := pool [(2, .class_ 4), (1, u "java/lang/Object"), (0, u "<init>"), (0, u "()V"), (17, .class_ 26), (1, u "jdk/internal/util/Preconditions"), (28, .class_ 56), (0, u "jdk/internal/util/Preconditions$4"), (57, .class_ 115), (0, u "jdk/internal/util/Preconditions$1"), (7, u "SIOOBE_FORMATTER"), (0, u "Ljava/util/function/BiFunction;"), (0, .class_ 126), (0, u "jdk/internal/util/Preconditions$2"), (3, u "AIOOBE_FORMATTER"), (0, .class_ 132), (0, u "jdk/internal/util/Preconditions$3"), (3, u "IOOBE_FORMATTER")] 57

def k13m0 : Method := { name := "<init>", desc := "()V", sig := { parameters := [], returnType := none }, accessFlags := 1, code := none }
/-- jdk/internal/util/Preconditions -/
def k13 : Class := { plain "jdk/internal/util/Preconditions" (some 0) with
  accessFlags := 33
  interfaces := #[]
  cf := some (fileOf pool13 24 #[.nestMembers #[55, 131, 125, 114]] #[{ accessFlags := 1, nameIndex := 5, descriptorIndex := 6, attributes := #[] }] 33 2 #[] #[{ accessFlags := 25, nameIndex := 123, descriptorIndex := 124, attributes := #[] }, { accessFlags := 25, nameIndex := 130, descriptorIndex := 124, attributes := #[] }, { accessFlags := 25, nameIndex := 136, descriptorIndex := 124, attributes := #[] }])
  fields := #[{ name := "SIOOBE_FORMATTER", type := (.object "java/util/function/BiFunction"), accessFlags := 25, slot := 0, constantValue := 0 }, { name := "AIOOBE_FORMATTER", type := (.object "java/util/function/BiFunction"), accessFlags := 25, slot := 1, constantValue := 0 }, { name := "IOOBE_FORMATTER", type := (.object "java/util/function/BiFunction"), accessFlags := 25, slot := 2, constantValue := 0 }]
  methods := #[k13m0]
  instanceTypes := #[]
  staticTypes := #[(.object "java/util/function/BiFunction"), (.object "java/util/function/BiFunction"), (.object "java/util/function/BiFunction")]
  resolved := Array.replicate 194 none
  statics := some 1 }

def pool14 : Array CpInfo := pool [(9, u "<init>"), (6, .class_ 18), (1, u "java/lang/Object"), (0, u "()V"), (1, .class_ 23), (1, u "jdk/internal/util/ArraysSupport"), (0, u "LOG2_ARRAY_LONG_INDEX_SCALE"), (0, u "I"), (2, u "U"), (0, u "Ljdk/internal/misc/Unsafe;"), (8, u "BIG_ENDIAN"), (0, u "Z"), (8, u "LOG2_BYTE_BIT_SIZE"), (4, u "LOG2_ARRAY_INT_INDEX_SCALE"), (54, u "JLA"), (0, u "Ljdk/internal/access/JavaLangAccess;"), (11, u "LOG2_ARRAY_BOOLEAN_INDEX_SCALE"), (9, u "LOG2_ARRAY_BYTE_INDEX_SCALE"), (5, u "LOG2_ARRAY_CHAR_INDEX_SCALE"), (5, u "LOG2_ARRAY_SHORT_INDEX_SCALE"), (18, u "LOG2_ARRAY_FLOAT_INDEX_SCALE"), (24, u "LOG2_ARRAY_DOUBLE_INDEX_SCALE"), (89, u "T_BOOLEAN"), (2, u "T_CHAR"), (1, u "T_FLOAT"), (1, u "T_DOUBLE"), (1, u "T_BYTE"), (1, u "T_SHORT"), (1, u "T_INT"), (1, u "T_LONG"), (1, u "SOFT_MAX_ARRAY_LENGTH")] 83

def k14m0 : Method := { name := "<init>", desc := "()V", sig := { parameters := [], returnType := none }, accessFlags := 2, code := none }
/-- jdk/internal/util/ArraysSupport -/
def k14 : Class := { plain "jdk/internal/util/ArraysSupport" (some 0) with
  accessFlags := 33
  interfaces := #[]
  cf := some (fileOf pool14 21 #[] #[{ accessFlags := 2, nameIndex := 9, descriptorIndex := 19, attributes := #[] }] 33 16 #[] #[{ accessFlags := 24, nameIndex := 28, descriptorIndex := 29, attributes := #[] }, { accessFlags := 26, nameIndex := 38, descriptorIndex := 39, attributes := #[] }, { accessFlags := 25, nameIndex := 121, descriptorIndex := 25, attributes := #[] }, { accessFlags := 25, nameIndex := 131, descriptorIndex := 25, attributes := #[] }, { accessFlags := 25, nameIndex := 137, descriptorIndex := 25, attributes := #[] }, { accessFlags := 25, nameIndex := 143, descriptorIndex := 25, attributes := #[] }, { accessFlags := 25, nameIndex := 53, descriptorIndex := 25, attributes := #[] }, { accessFlags := 25, nameIndex := 24, descriptorIndex := 25, attributes := #[] }, { accessFlags := 25, nameIndex := 162, descriptorIndex := 25, attributes := #[] }, { accessFlags := 25, nameIndex := 187, descriptorIndex := 25, attributes := #[] }, { accessFlags := 26, nameIndex := 48, descriptorIndex := 25, attributes := #[] }, { accessFlags := 25, nameIndex := 277, descriptorIndex := 25, attributes := #[] }, { accessFlags := 25, nameIndex := 280, descriptorIndex := 25, attributes := #[] }, { accessFlags := 25, nameIndex := 282, descriptorIndex := 25, attributes := #[] }, { accessFlags := 25, nameIndex := 284, descriptorIndex := 25, attributes := #[] }, { accessFlags := 25, nameIndex := 286, descriptorIndex := 25, attributes := #[] }, { accessFlags := 25, nameIndex := 288, descriptorIndex := 25, attributes := #[] }, { accessFlags := 25, nameIndex := 290, descriptorIndex := 25, attributes := #[] }, { accessFlags := 25, nameIndex := 292, descriptorIndex := 25, attributes := #[] }, { accessFlags := 26, nameIndex := 108, descriptorIndex := 109, attributes := #[] }, { accessFlags := 25, nameIndex := 294, descriptorIndex := 25, attributes := #[] }])
  fields := #[{ name := "U", type := (.object "jdk/internal/misc/Unsafe"), accessFlags := 24, slot := 0, constantValue := 0 }, { name := "BIG_ENDIAN", type := .boolean, accessFlags := 26, slot := 1, constantValue := 0 }, { name := "LOG2_ARRAY_BOOLEAN_INDEX_SCALE", type := .int, accessFlags := 25, slot := 2, constantValue := 0 }, { name := "LOG2_ARRAY_BYTE_INDEX_SCALE", type := .int, accessFlags := 25, slot := 3, constantValue := 0 }, { name := "LOG2_ARRAY_CHAR_INDEX_SCALE", type := .int, accessFlags := 25, slot := 4, constantValue := 0 }, { name := "LOG2_ARRAY_SHORT_INDEX_SCALE", type := .int, accessFlags := 25, slot := 5, constantValue := 0 }, { name := "LOG2_ARRAY_INT_INDEX_SCALE", type := .int, accessFlags := 25, slot := 6, constantValue := 0 }, { name := "LOG2_ARRAY_LONG_INDEX_SCALE", type := .int, accessFlags := 25, slot := 7, constantValue := 0 }, { name := "LOG2_ARRAY_FLOAT_INDEX_SCALE", type := .int, accessFlags := 25, slot := 8, constantValue := 0 }, { name := "LOG2_ARRAY_DOUBLE_INDEX_SCALE", type := .int, accessFlags := 25, slot := 9, constantValue := 0 }, { name := "LOG2_BYTE_BIT_SIZE", type := .int, accessFlags := 26, slot := 10, constantValue := 0 }, { name := "T_BOOLEAN", type := .int, accessFlags := 25, slot := 11, constantValue := 0 }, { name := "T_CHAR", type := .int, accessFlags := 25, slot := 12, constantValue := 0 }, { name := "T_FLOAT", type := .int, accessFlags := 25, slot := 13, constantValue := 0 }, { name := "T_DOUBLE", type := .int, accessFlags := 25, slot := 14, constantValue := 0 }, { name := "T_BYTE", type := .int, accessFlags := 25, slot := 15, constantValue := 0 }, { name := "T_SHORT", type := .int, accessFlags := 25, slot := 16, constantValue := 0 }, { name := "T_INT", type := .int, accessFlags := 25, slot := 17, constantValue := 0 }, { name := "T_LONG", type := .int, accessFlags := 25, slot := 18, constantValue := 0 }, { name := "JLA", type := (.object "jdk/internal/access/JavaLangAccess"), accessFlags := 26, slot := 19, constantValue := 0 }, { name := "SOFT_MAX_ARRAY_LENGTH", type := .int, accessFlags := 25, slot := 20, constantValue := 0 }]
  methods := #[k14m0]
  instanceTypes := #[]
  staticTypes := #[(.object "jdk/internal/misc/Unsafe"), .boolean, .int, .int, .int, .int, .int, .int, .int, .int, .int, .int, .int, .int, .int, .int, .int, .int, .int, (.object "jdk/internal/access/JavaLangAccess"), .int]
  resolved := Array.replicate 378 none
  statics := none }

def pool15 : Array CpInfo := pool [(1, u "java/lang/Cloneable"), (0, .class_ 1), (0, u "java/lang/Object"), (0, .class_ 3)] 3

/-- java/lang/Cloneable -/
def k15 : Class := { plain "java/lang/Cloneable" (some 0) with
  accessFlags := 1537
  interfaces := #[]
  cf := some (fileOf pool15 2 #[] #[] 1537 4 #[] #[])
  fields := #[]
  methods := #[]
  instanceTypes := #[]
  staticTypes := #[]
  resolved := Array.replicate 8 none
  statics := none }

/-- the primitive byte -/
def k16 : Class := { plain "byte" none with kind := .primitive 'B', accessFlags := 0x411 }
/-- [B -/
def k17 : Class := { plain "[B" (some 0) with kind := .array 16 .byte, interfaces := #[15, 2], accessFlags := 1041 }

/-- the primitive char -/
def k18 : Class := { plain "char" none with kind := .primitive 'C', accessFlags := 0x411 }
/-- [C -/
def k19 : Class := { plain "[C" (some 0) with kind := .array 18 .char, interfaces := #[15, 2], accessFlags := 1041 }

/-- the primitive int -/
def k20 : Class := { plain "int" none with kind := .primitive 'I', accessFlags := 0x411 }
/-- [I -/
def k21 : Class := { plain "[I" (some 0) with kind := .array 20 .int, interfaces := #[15, 2], accessFlags := 1041 }

def heap : Heap := #[{ cls := 7, slots := #[.long 0, .int 1, .null, .int 0, .null, .int 0, .int 0], vm := .statics 7 },
  { cls := 13, slots := #[.null, .null, .null], vm := .statics 13 }]
def classes : Array Class := #[k0, k1, k2, k3, k4, k5, k6, k7, k8, k9, k10, k11, k12, k13, k14, k15, k16, k17, k18, k19, k20, k21]
def interned : List (Array UInt16 × Addr) := []
def slotsUsed : Nat := 10
def theMethod : MethodId := ⟨1, 1⟩
def args0 : Array Value := #[.int 200, .int 2, .int 16961]
def aboutOver (below : List Frame) : State where
  vm := { classes := classes, interned := interned.toArray }
  heap := heap
  slotsUsed := slotsUsed
  threads := #[{ frames := .invoking theMethod args0 :: below }]
def below0 : List Frame := [.native { method := ⟨0, 0⟩, args := #[] }]
def about1 : State := aboutOver below0
def p0 : Program := .bare "" "" ""
def e0 : Env := launch0.env 0 0 0
theorem w_frames : about1.frames = Frame.invoking theMethod args0 :: below0 := rfl
set_option maxRecDepth 65536 in
theorem w_args : argsFit about1.vm theMethod args0 = true := by decide +kernel
set_option maxRecDepth 65536 in
theorem w_heap : heapFits about1 = true := by decide +kernel
set_option maxRecDepth 65536 in
theorem w_runnable : about1.curStatus? = some .runnable := by decide +kernel
set_option maxRecDepth 65536 in
theorem w_alone : about1.alone = true := by decide +kernel
set_option maxRecDepth 65536 in
theorem w_named : about1.methodNamed? x = some theMethod := by decide +kernel
set_option maxRecDepth 65536 in
theorem w_hears : about1.hears theMethod below0 = true := by decide +kernel
set_option maxRecDepth 65536 in
theorem w_ripe : about1.ripe theMethod args0 below0 = true := by decide +kernel
theorem w_running : about1.status = .running := rfl
set_option maxRecDepth 65536 in
theorem w_room : about1.hasRoom e0.platform room_1 = true :=
  launch0.hasRoom_least _ room_1 (by decide +kernel) (by decide +kernel) (by decide +kernel) (by decide +kernel) (by decide +kernel) (by decide +kernel)
theorem allAtoms_all (ts : List Jvm.Cond) (a : Array Jvm.Value) (st : Jvm.State) : (allAtoms ts).before a st = ts.all (fun c => c.before a st) := by
  induction ts with
  | nil => rfl
  | cons c t ih =>
    show (Jvm.Cond.and c (allAtoms t)).before a st = _
    rw [Jvm.Cond.before_and, ih, List.all_cons]
def words1 : List Jvm.Cond := Jvm.Cond.code x code maxLocals ret :: tables_1
/-- a 'code' word, met by the world's own term for the bytes: nothing is compared byte by byte -/
theorem code_word {y : MethodName} {bytes : ByteArray} {mx : Nat} {rt : Option FieldType} {a : Array Value} {s : State} {m : MethodId} {meth : Method} {c : Code} (h1 : s.methodNamed? y = some m) (h2 : s.vm.method? m = some meth) (h3 : meth.code = some c) (h4 : c.code = bytes)
    (h5 : (c.maxLocals == mx && c.exceptionTable.isEmpty && decide (c.maxStack ≤ mostOperands) && decide (meth.sig.returnType = rt) && !meth.locks && decide (parseMethodDescriptor y.desc = some meth.sig)) = true) : (Jvm.Cond.code y bytes mx rt).before a s = true := by
  simp only [Bool.and_eq_true, beq_iff_eq, Bool.not_eq_true', decide_eq_true_eq] at h5
  obtain ⟨⟨⟨⟨⟨g1, g2⟩, g3⟩, g4⟩, g5⟩, g6⟩ := h5
  simp [Cond.before, Cond.holds, Cond.value, h1, h2, h3, h4, g1, g2, g3, g4, g5, g6]
def isCode : Jvm.Cond → Bool
  | .code _ _ _ _ => true
  | _ => false
theorem all_split {L : List Jvm.Cond} {P : Jvm.Cond → Bool} (h1 : L.all (fun c => isCode c || P c) = true) (h2 : ∀ c ∈ L.filter isCode, P c = true) : L.all P = true := by
  refine List.all_eq_true.mpr fun c hc => ?_
  have h := List.all_eq_true.mp h1 c hc
  rcases Bool.eq_false_or_eq_true (isCode c) with hi | hi
  · exact h2 c (List.mem_filter.mpr ⟨hc, hi⟩)
  · simpa [hi] using h
set_option maxRecDepth 65536 in
theorem w_c0 : (Jvm.Cond.code x code maxLocals ret).before args0 about1 = true := code_word (m := ⟨1, 1⟩) (meth := k1m1) (c := k1c1) (by decide +kernel) rfl rfl rfl (by decide +kernel)
set_option maxRecDepth 65536 in
theorem w_c1 : (Jvm.Cond.code ({ cls := "java/lang/String", name := "<init>", desc := "([C)V" } : Jvm.MethodName) jdk_42_method_3_code (2 : Nat) (Option.none : Option Jvm.ClassFile.FieldType)).before args0 about1 = true := code_word (m := ⟨7, 1⟩) (meth := k7m1) (c := k7c1) (by decide +kernel) rfl rfl rfl (by decide +kernel)
set_option maxRecDepth 65536 in
theorem w_c2 : (Jvm.Cond.code ({ cls := "java/lang/String", name := "<init>", desc := "([CIILjava/lang/Void;)V" } : Jvm.MethodName) jdk_42_method_149_code (6 : Nat) (Option.none : Option Jvm.ClassFile.FieldType)).before args0 about1 = true := code_word (m := ⟨7, 4⟩) (meth := k7m4) (c := k7c4) (by decide +kernel) rfl rfl rfl (by decide +kernel)
set_option maxRecDepth 65536 in
theorem w_c3 : (Jvm.Cond.code ({ cls := "java/lang/Object", name := "<init>", desc := "()V" } : Jvm.MethodName) object_method_1_code (1 : Nat) (Option.none : Option Jvm.ClassFile.FieldType)).before args0 about1 = true := code_word (m := ⟨0, 0⟩) (meth := k0m0) (c := k0c0) (by decide +kernel) rfl rfl rfl (by decide +kernel)
set_option maxRecDepth 65536 in
theorem w_c4 : (Jvm.Cond.code ({ cls := "java/lang/StringUTF16", name := "compress", desc := "([CII)[B" } : Jvm.MethodName) jdk_52_method_16_code (6 : Nat) (Option.some (Jvm.ClassFile.FieldType.array Jvm.ClassFile.FieldType.byte))).before args0 about1 = true := code_word (m := ⟨8, 2⟩) (meth := k8m2) (c := k8c2) (by decide +kernel) rfl rfl rfl (by decide +kernel)
set_option maxRecDepth 65536 in
theorem w_c5 : (Jvm.Cond.code ({ cls := "java/lang/StringUTF16", name := "compress", desc := "([CI[BII)I" } : Jvm.MethodName) jdk_52_method_21_code (7 : Nat) (Option.some Jvm.ClassFile.FieldType.int)).before args0 about1 = true := code_word (m := ⟨8, 3⟩) (meth := k8m3) (c := k8c3) (by decide +kernel) rfl rfl rfl (by decide +kernel)
set_option maxRecDepth 65536 in
theorem w_c6 : (Jvm.Cond.code ({ cls := "java/lang/StringUTF16", name := "coderFromArrayLen", desc := "([BI)B" } : Jvm.MethodName) jdk_52_method_15_code (2 : Nat) (Option.some Jvm.ClassFile.FieldType.byte)).before args0 about1 = true := code_word (m := ⟨8, 1⟩) (meth := k8m1) (c := k8c1) (by decide +kernel) rfl rfl rfl (by decide +kernel)
set_option maxRecDepth 65536 in
theorem w_c7 : (Jvm.Cond.code ({ cls := "com/example/unabridged_index/unabridgedindex/server/Answer", name := "error", desc := "(ILjava/lang/String;)Lcom/example/unabridged_index/unabridgedindex/server/Answer;" } : Jvm.MethodName) prog_52_method_2_code (2 : Nat) (Option.some (Jvm.ClassFile.FieldType.object "com/example/unabridged_index/unabridgedindex/server/Answer"))).before args0 about1 = true := code_word (m := ⟨10, 1⟩) (meth := k10m1) (c := k10c1) (by decide +kernel) rfl rfl rfl (by decide +kernel)
set_option maxRecDepth 65536 in
theorem w_c8 : (Jvm.Cond.code ({ cls := "com/example/unabridged_index/unabridgedindex/server/Answer$ErrorMessage", name := "<init>", desc := "(Ljava/lang/String;)V" } : Jvm.MethodName) prog_53_method_1_code (2 : Nat) (Option.none : Option Jvm.ClassFile.FieldType)).before args0 about1 = true := code_word (m := ⟨11, 0⟩) (meth := k11m0) (c := k11c0) (by decide +kernel) rfl rfl rfl (by decide +kernel)
set_option maxRecDepth 65536 in
theorem w_c9 : (Jvm.Cond.code ({ cls := "java/lang/Record", name := "<init>", desc := "()V" } : Jvm.MethodName) jdk_30_method_1_code (1 : Nat) (Option.none : Option Jvm.ClassFile.FieldType)).before args0 about1 = true := code_word (m := ⟨9, 0⟩) (meth := k9m0) (c := k9c0) (by decide +kernel) rfl rfl rfl (by decide +kernel)
set_option maxRecDepth 65536 in
theorem w_c10 : (Jvm.Cond.code ({ cls := "com/example/unabridged_index/unabridgedindex/server/Answer", name := "<init>", desc := "(ILjava/lang/Object;)V" } : Jvm.MethodName) prog_52_method_1_code (3 : Nat) (Option.none : Option Jvm.ClassFile.FieldType)).before args0 about1 = true := code_word (m := ⟨10, 0⟩) (meth := k10m0) (c := k10c0) (by decide +kernel) rfl rfl rfl (by decide +kernel)
set_option maxRecDepth 65536 in
theorem w_c11 : (Jvm.Cond.code ({ cls := "com/example/unabridged_index/unabridgedindex/server/Answer", name := "status", desc := "()I" } : Jvm.MethodName) prog_52_method_6_code (1 : Nat) (Option.some Jvm.ClassFile.FieldType.int)).before args0 about1 = true := code_word (m := ⟨10, 2⟩) (meth := k10m2) (c := k10c2) (by decide +kernel) rfl rfl rfl (by decide +kernel)
set_option maxRecDepth 65536 in
theorem w_c12 : (Jvm.Cond.code ({ cls := "com/example/unabridged_index/unabridgedindex/server/Answer", name := "body", desc := "()Ljava/lang/Object;" } : Jvm.MethodName) prog_52_method_7_code (1 : Nat) (Option.some (Jvm.ClassFile.FieldType.object "java/lang/Object"))).before args0 about1 = true := code_word (m := ⟨10, 3⟩) (meth := k10m3) (c := k10c3) (by decide +kernel) rfl rfl rfl (by decide +kernel)
set_option maxRecDepth 65536 in
theorem w_c13 : (Jvm.Cond.code ({ cls := "com/example/unabridged_index/unabridgedindex/server/Answer$ErrorMessage", name := "error", desc := "()Ljava/lang/String;" } : Jvm.MethodName) prog_53_method_5_code (1 : Nat) (Option.some (Jvm.ClassFile.FieldType.object "java/lang/String"))).before args0 about1 = true := code_word (m := ⟨11, 1⟩) (meth := k11m1) (c := k11c1) (by decide +kernel) rfl rfl rfl (by decide +kernel)
set_option maxRecDepth 65536 in
theorem w_c14 : (Jvm.Cond.code ({ cls := "java/lang/String", name := "length", desc := "()I" } : Jvm.MethodName) jdk_42_method_54_code (1 : Nat) (Option.some Jvm.ClassFile.FieldType.int)).before args0 about1 = true := code_word (m := ⟨7, 2⟩) (meth := k7m2) (c := k7c2) (by decide +kernel) rfl rfl rfl (by decide +kernel)
set_option maxRecDepth 65536 in
theorem w_c15 : (Jvm.Cond.code ({ cls := "java/lang/String", name := "coder", desc := "()B" } : Jvm.MethodName) jdk_42_method_152_code (1 : Nat) (Option.some Jvm.ClassFile.FieldType.byte)).before args0 about1 = true := code_word (m := ⟨7, 5⟩) (meth := k7m5) (c := k7c5) (by decide +kernel) rfl rfl rfl (by decide +kernel)
set_option maxRecDepth 65536 in
theorem w_c16 : (Jvm.Cond.code ({ cls := "java/lang/String", name := "equals", desc := "(Ljava/lang/Object;)Z" } : Jvm.MethodName) jdk_42_method_66_code (3 : Nat) (Option.some Jvm.ClassFile.FieldType.boolean)).before args0 about1 = true := code_word (m := ⟨7, 3⟩) (meth := k7m3) (c := k7c3) (by decide +kernel) rfl rfl rfl (by decide +kernel)
def codes1 : List Jvm.Cond := [Jvm.Cond.code x code maxLocals ret, Jvm.Cond.code ({ cls := "java/lang/String", name := "<init>", desc := "([C)V" } : Jvm.MethodName) jdk_42_method_3_code (2 : Nat) (Option.none : Option Jvm.ClassFile.FieldType), Jvm.Cond.code ({ cls := "java/lang/String", name := "<init>", desc := "([CIILjava/lang/Void;)V" } : Jvm.MethodName) jdk_42_method_149_code (6 : Nat) (Option.none : Option Jvm.ClassFile.FieldType), Jvm.Cond.code ({ cls := "java/lang/Object", name := "<init>", desc := "()V" } : Jvm.MethodName) object_method_1_code (1 : Nat) (Option.none : Option Jvm.ClassFile.FieldType), Jvm.Cond.code ({ cls := "java/lang/StringUTF16", name := "compress", desc := "([CII)[B" } : Jvm.MethodName) jdk_52_method_16_code (6 : Nat) (Option.some (Jvm.ClassFile.FieldType.array Jvm.ClassFile.FieldType.byte)), Jvm.Cond.code ({ cls := "java/lang/StringUTF16", name := "compress", desc := "([CI[BII)I" } : Jvm.MethodName) jdk_52_method_21_code (7 : Nat) (Option.some Jvm.ClassFile.FieldType.int), Jvm.Cond.code ({ cls := "java/lang/StringUTF16", name := "coderFromArrayLen", desc := "([BI)B" } : Jvm.MethodName) jdk_52_method_15_code (2 : Nat) (Option.some Jvm.ClassFile.FieldType.byte), Jvm.Cond.code ({ cls := "com/example/unabridged_index/unabridgedindex/server/Answer", name := "error", desc := "(ILjava/lang/String;)Lcom/example/unabridged_index/unabridgedindex/server/Answer;" } : Jvm.MethodName) prog_52_method_2_code (2 : Nat) (Option.some (Jvm.ClassFile.FieldType.object "com/example/unabridged_index/unabridgedindex/server/Answer")), Jvm.Cond.code ({ cls := "com/example/unabridged_index/unabridgedindex/server/Answer$ErrorMessage", name := "<init>", desc := "(Ljava/lang/String;)V" } : Jvm.MethodName) prog_53_method_1_code (2 : Nat) (Option.none : Option Jvm.ClassFile.FieldType), Jvm.Cond.code ({ cls := "java/lang/Record", name := "<init>", desc := "()V" } : Jvm.MethodName) jdk_30_method_1_code (1 : Nat) (Option.none : Option Jvm.ClassFile.FieldType), Jvm.Cond.code ({ cls := "com/example/unabridged_index/unabridgedindex/server/Answer", name := "<init>", desc := "(ILjava/lang/Object;)V" } : Jvm.MethodName) prog_52_method_1_code (3 : Nat) (Option.none : Option Jvm.ClassFile.FieldType), Jvm.Cond.code ({ cls := "com/example/unabridged_index/unabridgedindex/server/Answer", name := "status", desc := "()I" } : Jvm.MethodName) prog_52_method_6_code (1 : Nat) (Option.some Jvm.ClassFile.FieldType.int), Jvm.Cond.code ({ cls := "com/example/unabridged_index/unabridgedindex/server/Answer", name := "body", desc := "()Ljava/lang/Object;" } : Jvm.MethodName) prog_52_method_7_code (1 : Nat) (Option.some (Jvm.ClassFile.FieldType.object "java/lang/Object")), Jvm.Cond.code ({ cls := "com/example/unabridged_index/unabridgedindex/server/Answer$ErrorMessage", name := "error", desc := "()Ljava/lang/String;" } : Jvm.MethodName) prog_53_method_5_code (1 : Nat) (Option.some (Jvm.ClassFile.FieldType.object "java/lang/String")), Jvm.Cond.code ({ cls := "java/lang/String", name := "length", desc := "()I" } : Jvm.MethodName) jdk_42_method_54_code (1 : Nat) (Option.some Jvm.ClassFile.FieldType.int), Jvm.Cond.code ({ cls := "java/lang/String", name := "coder", desc := "()B" } : Jvm.MethodName) jdk_42_method_152_code (1 : Nat) (Option.some Jvm.ClassFile.FieldType.byte), Jvm.Cond.code ({ cls := "java/lang/String", name := "equals", desc := "(Ljava/lang/Object;)Z" } : Jvm.MethodName) jdk_42_method_66_code (3 : Nat) (Option.some Jvm.ClassFile.FieldType.boolean)]
set_option maxRecDepth 65536 in
theorem codes_eq : words1.filter isCode = codes1 := rfl
theorem w_codes : ∀ c ∈ words1.filter isCode, c.before args0 about1 = true := by
  rw [codes_eq]
  intro c hc
  simp only [codes1, List.mem_cons, List.not_mem_nil, or_false] at hc
  rcases hc with rfl | rfl | rfl | rfl | rfl | rfl | rfl | rfl | rfl | rfl | rfl | rfl | rfl | rfl | rfl | rfl | rfl
  · exact w_c0
  · exact w_c1
  · exact w_c2
  · exact w_c3
  · exact w_c4
  · exact w_c5
  · exact w_c6
  · exact w_c7
  · exact w_c8
  · exact w_c9
  · exact w_c10
  · exact w_c11
  · exact w_c12
  · exact w_c13
  · exact w_c14
  · exact w_c15
  · exact w_c16
set_option maxRecDepth 65536 in
theorem w_t1 : (words1.take 24).all (fun c => isCode c || c.before args0 about1) = true := by decide +kernel
set_option maxRecDepth 65536 in
theorem w_t2 : ((words1.drop 24).take 24).all (fun c => isCode c || c.before args0 about1) = true := by decide +kernel
set_option maxRecDepth 65536 in
theorem w_t3 : (((words1.drop 24).drop 24).take 24).all (fun c => isCode c || c.before args0 about1) = true := by decide +kernel
set_option maxRecDepth 65536 in
theorem w_t4 : (((words1.drop 24).drop 24).drop 24).all (fun c => isCode c || c.before args0 about1) = true := by decide +kernel
theorem w_tables : (allAtoms (Jvm.Cond.code x code maxLocals ret :: tables_1)).before args0 about1 = true := by
  rw [allAtoms_all]
  show words1.all (fun c => c.before args0 about1) = true
  refine all_split ?_ w_codes
  rw [← List.take_append_drop 24 words1, List.all_append, w_t1, ← List.take_append_drop 24 (words1.drop 24), List.all_append, w_t2, ← List.take_append_drop 24 ((words1.drop 24).drop 24), List.all_append, w_t3, w_t4]
  rfl
set_option maxRecDepth 65536 in
theorem w_rest : rest_1_c.before args0 about1 = true := by decide +kernel
set_option maxRecDepth 65536 in
theorem w_case : (Jvm.Cond.and given_1 narrow_1).before args0 about1 = true := by decide +kernel
set_option maxRecDepth 65536 in
theorem w_consts : constsHeld consts_1 about1 := Jvm.Lit.constsHeldB_iff.mp (by decide +kernel)
theorem w_applies : (headSpec (Jvm.Cond.code x code maxLocals ret :: tables_1) room_1).applies x e0.platform about1 = true :=
  (Spec.applies_iff w_frames).mpr ⟨w_running, w_runnable, w_alone, w_named, w_hears, w_ripe, w_room, w_tables⟩
theorem atStart : AtStart classFile x code maxLocals ret World_1 tables_1 room_1 Calls_1 rest_1 Pre_1 launch0 p0 e0 about1 theMethod args0 below0 :=
  ⟨lists_1, trivial, launch0.admits_env _ _ _, launch0.least_env, fairChoices_fair.cas, fairChoices_fair.clock, w_frames, w_args, w_heap, w_applies, ⟨w_consts, trivial⟩, w_rest, w_case⟩
end start1
theorem witness_1 : WitnessClaimed_1 := ⟨start1.p0, start1.e0, start1.about1, start1.theMethod, start1.args0, start1.below0, start1.atStart⟩
end Jvm.Pilot.@@N@@
