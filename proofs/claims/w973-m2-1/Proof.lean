import JvmDerived
import JvmDerived.Pilot.@@N@@Statement
import JvmDerived.Pilot.@@N@@Code
set_option linter.unusedVariables false
set_option linter.unusedSimpArgs false
namespace Jvm.Pilot.@@N@@
open Jvm Jvm.ClassFile Sem Op Lib Jvm.Free Jvm.Stand Jvm.LawKit Jvm.RoadKit Bundle Jvm.Pilot.@@N@@.Jvm.D
/-- the run from A comes to a return that Q speaks of -/
def own_Fin (p : Program) (e : Env) (below : List Frame) (s : State) (kc ks : Nat) (Q : Option Value → Heap → List Loc → Prop) (A : State) : Prop :=
  ∃ s₂ o, Steps p.tables e below A s₂ ∧ s₂.status = .running ∧ Ended s₂ below o ∧ ∃ v L, o = .returned v ∧ Q v s₂.heap L ∧ FrameEnd s o s₂ L kc ks
section Own
variable {p : Program} {l : Launch} {e : Env} {R : Room} {s : State} {m : MethodId} {args : Array Value} {below : List Frame} {meth : Method} {c : Code} {T : State} {locs : List Loc} {cells slots kc ks : Nat} {Q : Option Value → Heap → List Loc → Prop}
theorem own_back {A B : State} (h : ∀ t, Steps p.tables e below B t → Steps p.tables e below A t) (k : own_Fin p e below s kc ks Q B) : own_Fin p e below s kc ks Q A := by
  obtain ⟨s2, o, h1, r⟩ := k
  exact ⟨s2, o, h _ h1, r⟩
theorem own_retN (X : Stand p l e R s m args below meth c T locs cells slots) (hx : p.tables.exec = Jvm.exec) (hlk : meth.locks = false) {t : FieldType} (ht : t = .boolean ∨ t = .byte ∨ t = .char ∨ t = .short) {pc : Nat} {Ls : Array Slot} {z : Int32} {rest : List Value} (hret : meth.sig.returnType = some t) (hd : decode c.code pc = .ok (.ireturn, 1)) (hc : cells ≤ kc) (hs : slots ≤ ks)
    (hQ : Q (some (.int (nar t z))) T.heap locs) : own_Fin p e below s kc ks Q (T.setTop (mkF m pc Ls (.int z :: rest))) := by
  obtain ⟨fs, hr, hrun, hended, hW, hsame⟩ := X.leave (v := some (.int (nar t z))) (fun h => by rw [hret] at h; cases h) hlk
  exact ⟨_, _, retN X hx hret ht hd hr, hrun, hended, _, _, rfl, hQ, ⟨_, rfl⟩, hW, hsame.mono hc hs⟩
theorem own_retZ (X : Stand p l e R s m args below meth c T locs cells slots) (hx : p.tables.exec = Jvm.exec) (hlk : meth.locks = false) {pc : Nat} {Ls : Array Slot} {z : Int32} {rest : List Value} (hret : meth.sig.returnType = some .boolean) (hd : decode c.code pc = .ok (.ireturn, 1)) (hc : cells ≤ kc) (hs : slots ≤ ks)
    (hQ : Q (some (.int (z &&& 1))) T.heap locs) : own_Fin p e below s kc ks Q (T.setTop (mkF m pc Ls (.int z :: rest))) := own_retN X hx hlk (Or.inl rfl) hret hd hc hs hQ
theorem own_retB (X : Stand p l e R s m args below meth c T locs cells slots) (hx : p.tables.exec = Jvm.exec) (hlk : meth.locks = false) {pc : Nat} {Ls : Array Slot} {z : Int32} {rest : List Value} (hret : meth.sig.returnType = some .byte) (hd : decode c.code pc = .ok (.ireturn, 1)) (hc : cells ≤ kc) (hs : slots ≤ ks)
    (hQ : Q (some (.int (nar .byte z))) T.heap locs) : own_Fin p e below s kc ks Q (T.setTop (mkF m pc Ls (.int z :: rest))) := own_retN X hx hlk (Or.inr (Or.inl rfl)) hret hd hc hs hQ
theorem own_retI (X : Stand p l e R s m args below meth c T locs cells slots) (hx : p.tables.exec = Jvm.exec) (hlk : meth.locks = false) {pc : Nat} {Ls : Array Slot} {z : Int32} {rest : List Value} (hret : meth.sig.returnType = some .int) (hd : decode c.code pc = .ok (.ireturn, 1)) (hc : cells ≤ kc) (hs : slots ≤ ks)
    (hQ : Q (some (.int z)) T.heap locs) : own_Fin p e below s kc ks Q (T.setTop (mkF m pc Ls (.int z :: rest))) := by
  obtain ⟨fs, hr, hrun, hended, hW, hsame⟩ := X.leave (v := some (.int z)) (fun h => by rw [hret] at h; cases h) hlk
  exact ⟨_, _, retOut X hx hret rfl (Or.inl ⟨rfl, Or.inl rfl, z, rfl⟩) hd hr, hrun, hended, _, _, rfl, hQ, ⟨_, rfl⟩, hW, hsame.mono hc hs⟩
theorem own_retJ (X : Stand p l e R s m args below meth c T locs cells slots) (hx : p.tables.exec = Jvm.exec) (hlk : meth.locks = false) {pc : Nat} {Ls : Array Slot} {z : Int64} {rest : List Value} (hret : meth.sig.returnType = some .long) (hd : decode c.code pc = .ok (.lreturn, 1)) (hc : cells ≤ kc) (hs : slots ≤ ks)
    (hQ : Q (some (.long z)) T.heap locs) : own_Fin p e below s kc ks Q (T.setTop (mkF m pc Ls (.long z :: rest))) := by
  obtain ⟨fs, hr, hrun, hended, hW, hsame⟩ := X.leave (v := some (.long z)) (fun h => by rw [hret] at h; cases h) hlk
  exact ⟨_, _, retOut X hx hret rfl (Or.inr (Or.inl ⟨rfl, rfl, z, rfl⟩)) hd hr, hrun, hended, _, _, rfl, hQ, ⟨_, rfl⟩, hW, hsame.mono hc hs⟩
theorem own_retA (X : Stand p l e R s m args below meth c T locs cells slots) (hx : p.tables.exec = Jvm.exec) (hlk : meth.locks = false) {pc : Nat} {Ls : Array Slot} {w : Value} {rest : List Value} {t : FieldType} (hret : meth.sig.returnType = some t) (ht : t.isReference = true) (hw : w.isRef = true) (hd : decode c.code pc = .ok (.areturn, 1)) (hc : cells ≤ kc) (hs : slots ≤ ks)
    (hQ : Q (some w) T.heap locs) : own_Fin p e below s kc ks Q (T.setTop (mkF m pc Ls (w :: rest))) := by
  obtain ⟨fs, hr, hrun, hended, hW, hsame⟩ := X.leave (v := some w) (fun h => by rw [hret] at h; cases h) hlk
  have hn : narrow t w = w := by cases t <;> first | rfl | cases ht
  exact ⟨_, _, retOut X hx hret hn (Or.inr (Or.inr (Or.inr (Or.inr ⟨rfl, ht, hw⟩)))) hd hr, hrun, hended, _, _, rfl, hQ, ⟨_, rfl⟩, hW, hsame.mono hc hs⟩
theorem own_ret0 (X : Stand p l e R s m args below meth c T locs cells slots) (hx : p.tables.exec = Jvm.exec) (hlk : meth.locks = false) {pc : Nat} {Ls : Array Slot} (hret : meth.sig.returnType = none) (hd : decode c.code pc = .ok (.return_, 1)) (hc : cells ≤ kc) (hs : slots ≤ ks)
    (hQ : Q none T.heap locs) : own_Fin p e below s kc ks Q (T.setTop (mkF m pc Ls [])) := by
  obtain ⟨fs, hr, hrun, hended, hW, hsame⟩ := X.leave (v := none) (fun _ => rfl) hlk
  exact ⟨_, _, X.returnOut hx hret hd hr, hrun, hended, _, _, rfl, hQ, ⟨_, rfl⟩, hW, hsame.mono hc hs⟩
end Own
/-- the same, where the run may have interned -/
def own_FinW (p : Program) (e : Env) (below : List Frame) (s : State) (kc ks : Nat) (Q : Option Value → Heap → List Loc → Prop) (A : State) : Prop :=
  ∃ s₂ o, Steps p.tables e below A s₂ ∧ s₂.status = .running ∧ Ended s₂ below o ∧ ∃ v L, o = .returned v ∧ Q v s₂.heap L ∧ ReturnedEndW s o s₂ L kc ks
section OwnW
variable {p : Program} {l : Launch} {e : Env} {R : Room} {s Z : State} {vm0 : Vm} {k0 : Nat} {m : MethodId} {args a0 : Array Value} {below : List Frame} {meth : Method} {c : Code} {T : State} {locs : List Loc} {cells slots kc ks : Nat} {h h' : Heap} {C n d : String} {v : Value} {Q : Option Value → Heap → List Loc → Prop}
theorem own_backW {A B : State} (h : ∀ t, Steps p.tables e below B t → Steps p.tables e below A t) (k : own_FinW p e below s kc ks Q B) : own_FinW p e below s kc ks Q A := by
  obtain ⟨s2, o, h1, r⟩ := k
  exact ⟨s2, o, h _ h1, r⟩
theorem own_retZW (X : Stand p l e R (s.setVm vm0) m args below meth c T locs cells slots) (hx : p.tables.exec = Jvm.exec) (hS : s.Since vm0 k0) (hk : k0 ≤ T.heap.size) (hlk : meth.locks = false) {pc : Nat} {Ls : Array Slot} {z : Int32} {rest : List Value} (hret : meth.sig.returnType = some .boolean) (hd : decode c.code pc = .ok (.ireturn, 1)) (hc : cells ≤ kc) (hs : slots ≤ ks)
    (hQ : Q (some (.int (z &&& 1))) T.heap locs) : own_FinW p e below s kc ks Q (T.setTop (mkF m pc Ls (.int z :: rest))) := by
  obtain ⟨fs, hr, hrun, hended, hW⟩ := X.leaveW hS hk (v := some (.int (nar .boolean z))) (fun h => by rw [hret] at h; cases h) hlk
  exact ⟨_, _, retN X hx hret (Or.inl rfl) hd hr, hrun, hended, _, _, rfl, hQ, hW.1, hW.2.1, hW.2.2.1, hW.2.2.2.mono hc hs⟩
theorem own_retAW (X : Stand p l e R (s.setVm vm0) m args below meth c T locs cells slots) (hx : p.tables.exec = Jvm.exec) (hS : s.Since vm0 k0) (hk : k0 ≤ T.heap.size) (hlk : meth.locks = false) {pc : Nat} {Ls : Array Slot} {w : Value} {rest : List Value} {t : FieldType} (hret : meth.sig.returnType = some t) (ht : t.isReference = true) (hw : w.isRef = true) (hd : decode c.code pc = .ok (.areturn, 1)) (hc : cells ≤ kc) (hs : slots ≤ ks)
    (hQ : Q (some w) T.heap locs) : own_FinW p e below s kc ks Q (T.setTop (mkF m pc Ls (w :: rest))) := by
  obtain ⟨fs, hr, hrun, hended, hW⟩ := X.leaveW hS hk (v := some w) (fun h => by rw [hret] at h; cases h) hlk
  have hn : narrow t w = w := by cases t <;> first | rfl | cases ht
  exact ⟨_, _, retOut X hx hret hn (Or.inr (Or.inr (Or.inr (Or.inr ⟨rfl, ht, hw⟩)))) hd hr, hrun, hended, _, _, rfl, hQ, hW.1, hW.2.1, hW.2.2.1, hW.2.2.2.mono hc hs⟩
theorem own_ret0W (X : Stand p l e R (s.setVm vm0) m args below meth c T locs cells slots) (hx : p.tables.exec = Jvm.exec) (hS : s.Since vm0 k0) (hk : k0 ≤ T.heap.size) (hlk : meth.locks = false) {pc : Nat} {Ls : Array Slot} (hret : meth.sig.returnType = none) (hd : decode c.code pc = .ok (.return_, 1)) (hc : cells ≤ kc) (hs : slots ≤ ks)
    (hQ : Q none T.heap locs) : own_FinW p e below s kc ks Q (T.setTop (mkF m pc Ls [])) := by
  obtain ⟨fs, hr, hrun, hended, hW⟩ := X.leaveW hS hk (v := none) (fun _ => rfl) hlk
  exact ⟨_, _, X.returnOut hx hret hd hr, hrun, hended, _, _, rfl, hQ, hW.1, hW.2.1, hW.2.2.1, hW.2.2.2.mono hc hs⟩
theorem own_ib {U : State} {Ts : List String} (hW : s.WarmedH U.vm) (I : IB Z s.vm Ts) : IB Z U.vm Ts := by
  obtain ⟨more, e, h⟩ := I
  exact ⟨more, hW.interned_eq.trans e, h⟩
theorem own_backOfSI {Ts : List String} {y : MethodName} {bytes : ByteArray} {maxL : Nat} {ret : Option FieldType} {rm : Room} {len W : Nat} {as' : Array Value}
    (hM : MetFree l y (head1 [Cond.code y bytes maxL ret] rm) (fun a U => a = as' ∧ Z.Warmed39 U.vm ∧ U.heap = h ∧ IB Z U.vm Ts) (fun _ _ _ _ _ => True) (fun _ U o U' => ∃ v L, o = .returned v ∧ Q v U'.heap L ∧ ReturnedEndW U o U' L rm.cells rm.slots))
    (hZ : Z.Warmed39 s.vm) (I : IB Z s.vm Ts) (wc : (Cond.code y bytes maxL ret).before a0 Z = true) (wz : (Cond.initialized y.cls).before a0 Z = true) (hf : rm.frames + 1 ≤ R.frames) (hl : W + (maxL + 11) + rm.locals ≤ R.locals) :
    BackS l R p e below s args y len W (fun A a => a = as' ∧ A.U.heap = h ∧ A.cells + rm.cells ≤ R.cells ∧ A.slots + rm.slots ≤ R.slots)
      (fun A _ v B => ∃ L, Q v B.U.heap L ∧ B.locs = A.locs ++ L ∧ B.cells = A.cells + rm.cells ∧ B.slots = A.slots + rm.slots) :=
  BackS.of_freeW (bytes := bytes) (maxL := maxL) (ret := ret) (E := fun _ _ o t L k n => k = rm.cells ∧ n = rm.slots ∧ ∃ v, o = .returned v ∧ Q v t.heap L) hM hf hl
    (fun m meth c A a Y hp => have hU : Z.Warmed39 A.U.vm := wtrans hZ Y.warmed
      ⟨by show (Cond.and _ .tt).before a A.U = true; rw [Cond.before_and, mv hU wc]; rfl, mv hU wc, mv hU wz, hp.2.2.1, hp.2.2.2⟩)
    (fun m meth c A a g mk Y hp => ⟨hp.1, wtrans hZ Y.warmed, hp.2.1, own_ib Y.warmed I⟩) (fun _ _ _ _ _ _ _ _ _ => trivial)
    (fun _ _ _ _ ⟨v, L, h1, h2, h3⟩ => ⟨L, _, _, h3, rfl, rfl, v, h1, h2⟩)
    (fun m meth c A a g mk v t L k n Y hp _ _ ⟨e1, e2, v', e3, e4⟩ => by cases e3; subst e1 e2; exact ⟨L, e4, rfl, rfl, rfl⟩)
theorem own_sta0 (F : Sta Z h C n d v) (K : Keep h h' []) : Sta Z h' C n d v := by
  obtain ⟨cf, i, k, f, st, cell, h1, h2, h3, h4, h5, r⟩ := F
  exact ⟨cf, i, k, f, st, cell, h1, h2, h3, h4, K.2.1 st cell h5 nin0, r⟩
theorem own_sta1 {x : Addr} {D : String} (F : Sta Z h C n d v) (K : Keep h h' [x]) (E : Exa Z h x D) : Sta Z h' C n d v := by
  obtain ⟨cf, i, k, f, st, cell, h1, h2, h3, h4, h5, h6, r⟩ := F
  refine ⟨cf, i, k, f, st, cell, h1, h2, h3, h4, K.2.1 st cell h5 (ninS (fun q => ?_) nin0), h6, r⟩
  subst q
  obtain ⟨c2, k2, g1, -, -, g4, -⟩ := E
  cases h5.symm.trans g1
  rw [h6] at g4
  cases g4
end OwnW
/-- the same, with the invariant on the String constants (RW14) -/
def own_FinH (Z : State) (EL : List (String × Nat)) (p : Program) (e : Env) (below : List Frame) (s : State) (kc ks : Nat) (Q : Option Value → Heap → List Loc → Prop) (A : State) : Prop :=
  ∃ s₂ o, Steps p.tables e below A s₂ ∧ s₂.status = .running ∧ Ended s₂ below o ∧ ∃ v L, o = .returned v ∧ Q v s₂.heap L ∧ CHr Z EL s.vm s.heap s₂.vm s₂.heap ∧ ReturnedEndW s o s₂ L kc ks
section OwnH
variable {p : Program} {l : Launch} {e : Env} {R : Room} {s Z : State} {vm0 : Vm} {k0 : Nat} {m : MethodId} {args a0 : Array Value} {below : List Frame} {meth : Method} {c : Code} {T : State} {locs : List Loc} {cells slots kc ks : Nat} {h h' : Heap} {C n d : String} {v : Value} {Q : Option Value → Heap → List Loc → Prop} {EL : List (String × Nat)}
theorem own_backH {A B : State} (h : ∀ t, Steps p.tables e below B t → Steps p.tables e below A t) (k : own_FinH Z EL p e below s kc ks Q B) : own_FinH Z EL p e below s kc ks Q A := by
  obtain ⟨s2, o, h1, r⟩ := k
  exact ⟨s2, o, h _ h1, r⟩
theorem own_retZH (X : Stand p l e R (s.setVm vm0) m args below meth c T locs cells slots) (hx : p.tables.exec = Jvm.exec) (hS : s.Since vm0 k0) (hk : k0 ≤ T.heap.size) (hZ : Z.Warmed39 vm0) (hEL : EW Z a0 EL) (hC : CHr Z EL s.vm s.heap vm0 T.heap) (hlk : meth.locks = false) {pc : Nat} {Ls : Array Slot} {z : Int32} {rest : List Value} (hret : meth.sig.returnType = some .boolean) (hd : decode c.code pc = .ok (.ireturn, 1)) (hc : cells ≤ kc) (hs : slots ≤ ks)
    (hQ : Q (some (.int (z &&& 1))) T.heap locs) : own_FinH Z EL p e below s kc ks Q (T.setTop (mkF m pc Ls (.int z :: rest))) := by
  obtain ⟨fs, hr, hrun, hended, hW⟩ := X.leaveW hS hk (v := some (.int (nar .boolean z))) (fun h => by rw [hret] at h; cases h) hlk
  have hC2 : CHr Z EL s.vm s.heap T.vm T.heap := hC.trans (CHv.at X hZ hEL hC.1)
  exact ⟨_, _, retN X hx hret (Or.inl rfl) hd hr, hrun, hended, _, _, rfl, hQ, hC2, hW.1, hW.2.1, hW.2.2.1, hW.2.2.2.mono hc hs⟩
theorem own_retAH (X : Stand p l e R (s.setVm vm0) m args below meth c T locs cells slots) (hx : p.tables.exec = Jvm.exec) (hS : s.Since vm0 k0) (hk : k0 ≤ T.heap.size) (hZ : Z.Warmed39 vm0) (hEL : EW Z a0 EL) (hC : CHr Z EL s.vm s.heap vm0 T.heap) (hlk : meth.locks = false) {pc : Nat} {Ls : Array Slot} {w : Value} {rest : List Value} {t : FieldType} (hret : meth.sig.returnType = some t) (ht : t.isReference = true) (hw : w.isRef = true) (hd : decode c.code pc = .ok (.areturn, 1)) (hc : cells ≤ kc) (hs : slots ≤ ks)
    (hQ : Q (some w) T.heap locs) : own_FinH Z EL p e below s kc ks Q (T.setTop (mkF m pc Ls (w :: rest))) := by
  obtain ⟨fs, hr, hrun, hended, hW⟩ := X.leaveW hS hk (v := some w) (fun h => by rw [hret] at h; cases h) hlk
  have hn : narrow t w = w := by cases t <;> first | rfl | cases ht
  have hC2 : CHr Z EL s.vm s.heap T.vm T.heap := hC.trans (CHv.at X hZ hEL hC.1)
  exact ⟨_, _, retOut X hx hret hn (Or.inr (Or.inr (Or.inr (Or.inr ⟨rfl, ht, hw⟩)))) hd hr, hrun, hended, _, _, rfl, hQ, hC2, hW.1, hW.2.1, hW.2.2.1, hW.2.2.2.mono hc hs⟩
end OwnH
theorem own_safeV {Z : State} {EL : List (String × Nat)} {vm : Vm} {h : Heap} {a : Addr} {k : ClassId} {ty : FieldType} {z : Int32} {vs : List Value} {dv : Value} (hal : Z.vm.Alike vm) (F : Arv Z h a k ty z vs dv) (ht : ty ≠ .byte) : Safe Z EL vm h a := by
  obtain ⟨c, A, -⟩ := F
  exact Safe.arr hal A ht
theorem own_neV {Z : State} {h : Heap} {a b : Addr} {k k' : ClassId} {ty ty' : FieldType} {z z' : Int32} {vs vs' : List Value} {dv dv' : Value} (F : Arv Z h a k ty z vs dv) (G : Arv Z h b k' ty' z' vs' dv') (ht : ty ≠ ty') : a ≠ b := fun q => by
  subst q
  obtain ⟨c, A, -⟩ := F
  obtain ⟨c', A', -⟩ := G
  cases A.1.symm.trans A'.1
  obtain ⟨-, k1, h1, comp, h2⟩ := A.2.1
  obtain ⟨-, k2, g1, comp', g2⟩ := A'.2.1
  cases h1.symm.trans g1
  rw [h2] at g2
  cases g2
  exact ht rfl
/-- a local that holds a reference -/
abbrev oR (a : Addr) : Slot := .val (.ref a)
/-- w is no String and no byte array -/
def own_NS (Z : State) (h : Heap) (w : Addr) : Prop := (∀ s : Addr, Exa Z h s "java/lang/String" → s ≠ w) ∧ ∀ (r : Addr) (k : ClassId) (z : Int32) (vs : List Value) (dv : Value), Arv Z h r k .byte z vs dv → r ≠ w
section OwnB
variable {Z : State} {h h' : Heap} {w s c : Addr} {C : String} {k : ClassId} {ty : FieldType} {z : Int32} {vs : List Value} {dv : Value} {a0 : Array Value} {n : Nat} {ws : List Addr}
theorem own_nsE (E : Exa Z h w C) (hC : "java/lang/String" ≠ C) (wi : (Cond.instantiable C n).before a0 Z = true) : own_NS Z h w :=
  ⟨fun _ F => Exa.ne F E hC, fun _ _ _ _ _ V => (Exa.neArv E V wi).symm⟩
theorem own_nsV (V : Arv Z h w k ty z vs dv) (ht : FieldType.byte ≠ ty) (wi : (Cond.instantiable "java/lang/String" n).before a0 Z = true) : own_NS Z h w :=
  ⟨fun _ F => Exa.neArv F V wi, fun _ _ _ _ _ A => own_neV A V ht⟩
/-- a Latin-1 String of z bytes, vs -/
def own_St (Z : State) (h : Heap) (s : Addr) (z : Int32) (vs : List Value) : Prop := ∃ (r : Addr) (k : ClassId), Exa Z h s "java/lang/String" ∧ Fld Z h s "java/lang/String" "coder" "B" (.int (0 : Int32)) ∧ Fld Z h s "java/lang/String" "value" "[B" (.ref r) ∧ Arv Z h r k .byte z vs (.int (0 : Int32))
theorem own_St.keep (F : own_St Z h s z vs) (K : Keep h h' ws) (q : ∀ w ∈ ws, own_NS Z h w) : own_St Z h' s z vs := by
  obtain ⟨r, k, E, C, V, A⟩ := F
  have h1 : s ∉ ws := fun m => (q s m).1 s E rfl
  have h2 : r ∉ ws := fun m => (q r m).2 r k _ _ _ A rfl
  exact ⟨r, k, E.keep K, C.keep K h1, V.keep K h1, A.keep K h2⟩
theorem own_St.ext (F : own_St Z h s z vs) (E : Ext h h') : own_St Z h' s z vs := F.keep ((Keep.refl h []).ext E) all0
theorem own_St.exa (F : own_St Z h s z vs) : Exa Z h s "java/lang/String" := by
  obtain ⟨r, k, E, -⟩ := F
  exact E
/-- a child: its name is the one byte x, its namespace is empty -/
def own_Ch (Z : State) (h : Heap) (c s : Addr) (x : Int32) : Prop := Exa Z h c "com/example/quire/quire/readers/Element" ∧ Fld Z h c "com/example/quire/quire/readers/Element" "name" "Ljava/lang/String;" (.ref s) ∧ own_St Z h s (1 : Int32) [(.int x)] ∧ ∃ ns : Addr, Fld Z h c "com/example/quire/quire/readers/Element" "namespace" "Ljava/lang/String;" (.ref ns) ∧ own_St Z h ns (0 : Int32) []
theorem own_Ch.keep {x : Int32} (F : own_Ch Z h c s x) (K : Keep h h' ws) (qc : c ∉ ws) (q : ∀ w ∈ ws, own_NS Z h w) : own_Ch Z h' c s x := by
  obtain ⟨E, N, S, ns, M, T⟩ := F
  exact ⟨E.keep K, N.keep K qc, S.keep K q, ns, M.keep K qc, T.keep K q⟩
theorem own_Ch.ext {x : Int32} (F : own_Ch Z h c s x) (E : Ext h h') : own_Ch Z h' c s x := F.keep ((Keep.refl h []).ext E) nin0 all0
/-- w is no Element -/
def own_NE (Z : State) (h : Heap) (w : Addr) : Prop := ∀ c : Addr, Exa Z h c "com/example/quire/quire/readers/Element" → c ≠ w
theorem own_neE (E : Exa Z h w C) (hC : "com/example/quire/quire/readers/Element" ≠ C) : own_NE Z h w := fun _ F => Exa.ne F E hC
theorem own_neW (V : Arv Z h w k ty z vs dv) (wi : (Cond.instantiable "com/example/quire/quire/readers/Element" n).before a0 Z = true) : own_NE Z h w := fun _ F => Exa.neArv F V wi
abbrev own_KT := List (Addr × Addr × Int32)
/-- the children (with their names and the names' bytes) from v on -/
def own_Chain (Z : State) (h : Heap) : Value → own_KT → Prop
  | v, [] => v = .null
  | v, (c, s, x) :: r => v = .ref c ∧ own_Ch Z h c s x ∧ ∃ w : Value, Fld Z h c "com/example/quire/quire/readers/Element" "nextSibling" "Lcom/example/quire/quire/readers/Element;" w ∧ own_Chain Z h w r
theorem own_Chain.keep (K : Keep h h' ws) (q : ∀ w ∈ ws, own_NS Z h w) (q' : ∀ w ∈ ws, own_NE Z h w) : ∀ (ks : own_KT) (v : Value), own_Chain Z h v ks → own_Chain Z h' v ks
  | [], _, F => F
  | (c, s, x) :: r, v, F => by
    obtain ⟨e, C, w, N, R⟩ := F
    have hc : c ∉ ws := fun m => q' c m c C.1 rfl
    exact ⟨e, C.keep K hc q, w, N.keep K hc, own_Chain.keep K q q' r w R⟩
/-- the element o and its children -/
def own_Kids (Z : State) (h : Heap) (o : Addr) (ks : own_KT) : Prop := Exa Z h o "com/example/quire/quire/readers/Element" ∧ ∃ v : Value, Fld Z h o "com/example/quire/quire/readers/Element" "firstChild" "Lcom/example/quire/quire/readers/Element;" v ∧ own_Chain Z h v ks
theorem own_Kids.keep {o : Addr} {ks : own_KT} (F : own_Kids Z h o ks) (K : Keep h h' ws) (q : ∀ w ∈ ws, own_NS Z h w) (q' : ∀ w ∈ ws, own_NE Z h w) : own_Kids Z h' o ks := by
  obtain ⟨E, v, N, R⟩ := F
  have hc : o ∉ ws := fun m => q' o m o E rfl
  exact ⟨E.keep K, v, N.keep K hc, own_Chain.keep K q q' ks v R⟩
theorem own_Kids.ext {o : Addr} {ks : own_KT} (F : own_Kids Z h o ks) (E : Ext h h') : own_Kids Z h' o ks := F.keep ((Keep.refl h []).ext E) all0 all0
theorem own_Chain.ch : ∀ (ks : own_KT) (v : Value), own_Chain Z h v ks → ∀ (c s : Addr) (x : Int32), (c, s, x) ∈ ks → own_Ch Z h c s x
  | [], _, _, _, _, _, hm => nomatch hm
  | (c', s', x') :: r, v, F, c, s, x, hm => by
    obtain ⟨-, C, w, -, R⟩ := F
    rcases List.mem_cons.mp hm with q | q
    · cases q
      exact C
    · exact own_Chain.ch r w R c s x q
theorem own_Kids.ch {o : Addr} {ks : own_KT} (F : own_Kids Z h o ks) {c s : Addr} {x : Int32} (i : Nat) (hm : ks[i]? = some (c, s, x)) : own_Ch Z h c s x := by
  obtain ⟨-, v, -, R⟩ := F
  exact own_Chain.ch ks v R c s x (List.mem_of_getElem? hm)
/-- an ArrayList that holds L (up to three) -/
def own_AL (Z : State) (h : Heap) (o d : Addr) : List Addr → Prop
  | [] => Exa Z h o "java/util/ArrayList" ∧ Fld Z h o "java/util/ArrayList" "size" "I" (.int (0 : Int32)) ∧ Fld Z h o "java/util/ArrayList" "elementData" "[Ljava/lang/Object;" (.ref d)
  | [a] => ∃ (r : Addr) (k : ClassId), Exa Z h o "java/util/ArrayList" ∧ Fld Z h o "java/util/ArrayList" "size" "I" (.int (1 : Int32)) ∧ Fld Z h o "java/util/ArrayList" "elementData" "[Ljava/lang/Object;" (.ref r) ∧ Arv Z h r k (.object "java/lang/Object") (10 : Int32) [(.ref a), .null, .null] .null
  | [a, b] => ∃ (r : Addr) (k : ClassId), Exa Z h o "java/util/ArrayList" ∧ Fld Z h o "java/util/ArrayList" "size" "I" (.int (2 : Int32)) ∧ Fld Z h o "java/util/ArrayList" "elementData" "[Ljava/lang/Object;" (.ref r) ∧ Arv Z h r k (.object "java/lang/Object") (10 : Int32) [(.ref a), (.ref b), .null] .null
  | [a, b, c] => ∃ (r : Addr) (k : ClassId), Exa Z h o "java/util/ArrayList" ∧ Fld Z h o "java/util/ArrayList" "size" "I" (.int (3 : Int32)) ∧ Fld Z h o "java/util/ArrayList" "elementData" "[Ljava/lang/Object;" (.ref r) ∧ Arv Z h r k (.object "java/lang/Object") (10 : Int32) [(.ref a), (.ref b), (.ref c)] .null
  | _ => False
/-- 1 where the bytes are one, else 0 -/
def own_beq (x y : Int32) : Int32 := if x = y then 1 else 0
/-- c joins the list where its bit b is not 0 -/
def own_pick (b : Int32) (c : Addr) (L : List Addr) : List Addr := if b = (0 : Int32) then L else L ++ [c]
theorem own_pickF {b : Int32} {c : Addr} {L : List Addr} (q : b = (0 : Int32)) : own_pick b c L = L := if_pos q
theorem own_pickT {b : Int32} {c : Addr} {L : List Addr} (q : ¬ b = (0 : Int32)) : own_pick b c L = L ++ [c] := if_neg q
/-- which children are named by the byte y -/
def own_sel (y : Int32) : own_KT → List Addr → List Addr
  | [], a => a
  | (c, _, x) :: r, a => own_sel y r (own_pick (own_beq x y) c a)
theorem own_staK {n d : String} {v : Value} (F : Sta Z h C n d v) (K : Keep h h' ws) (q : ∀ x ∈ ws, ∀ cell : Cell, h[x]? = some cell → cell.vm.isStatics = false) : Sta Z h' C n d v := by
  obtain ⟨cf, i, k, f, st, cell, h1, h2, h3, h4, h5, h6, r⟩ := F
  refine ⟨cf, i, k, f, st, cell, h1, h2, h3, h4, K.2.1 st cell h5 (fun m => ?_), h6, r⟩
  have e := q st m cell h5
  rw [h6] at e
  cases e
/-- the model's own selection picks a private method itself -/
theorem own_selP {s : State} {args : Array Value} {y : MethodName} (hy : y.cls ≠ "java/lang/invoke/MethodHandle" ∧ y.cls ≠ "java/lang/invoke/VarHandle") (hins : (Cond.instantiable y.cls n).before args s = true) (hpriv : (Cond.privateMethod y).before args s = true) (hinst : (Cond.instanceMethod y).before args s = true) :
    (Cond.selects y.cls y y).before args s = true := by
  obtain ⟨c, k, hc, hk, -, hniab, -, -⟩ := Cond.instantiable_spec hins
  have hni : k.isInterface = false := (Bool.or_eq_false_iff.mp hniab).1
  obtain ⟨mk, methM, hnamed, hmethM, -, -⟩ := Cond.instanceMethod_spec hinst
  have hfound : s.methodFound? y.cls y.name y.desc = some mk := State.methodFound?_of_named hnamed hy
  have hcls : mk.cls = c := Option.some.inj ((findClass_of_methodNamed hnamed).symm.trans hc)
  have hsel : selectMethod {} s.vm c mk = .method mk := selectMethod_private hmethM (Cond.privateMethod_at hpriv mk methM hnamed hmethM)
  simp only [Cond.before, Cond.holds, Cond.value, hc, hfound, hnamed, hsel, hcls, hk]
  simp; exact hni
/-- an array that the sheet says is empty -/
theorem own_arv0 {args : Array Value} {s : State} {t : Term} {a : Addr} {ty : FieldType} (ev : t.eval args s none [] s = some (.ref a)) (ha : (Cond.arrayOf t ty).value args s none s [] = some true) (hl : (Cond.eq (Term.length t) (Term.int (0 : Int32))).value args s none s [] = some true) : ∃ k : ClassId, Arv s s.heap a k ty (0 : Int32) [] .null := by
  obtain ⟨c, A⟩ := Arr.start ev ha
  obtain ⟨x, y, h1, h2, k1, k2⟩ := cmp_v (Or.inl hl)
  obtain ⟨b, cell, e1, e2, e3, e4⟩ := Jvm.Lib.length_spec h1
  cases Option.some.inj (ev.symm.trans e1)
  have e5 : s.arrayAt? a = some c := Arr.fin (State.Warmed39.refl s).alike A
  have ec : cell = c := Option.some.inj (e2.symm.trans e5)
  rw [ec] at e3 e4
  subst e4
  have hv : (Cond.eq (Term.length t) (Term.int (0 : Int32))).value args s none s [] = some (decide (c.slots.size.toInt32 = (0 : Int32))) := by simp [Cond.value, h1, Term.int_eval]
  have hz : c.slots.size.toInt32 = (0 : Int32) := gotT hv hl
  have S : c.slots.size = 0 := by
    have q := len_toInt e3
    rw [hz] at q
    have q0 : ((0 : Int32)).toInt = 0 := rfl
    omega
  exact ⟨c.cls, c, A, rfl, by rw [S]; rfl, by decide, fun k hk => by omega, fun i hi => by omega⟩
theorem own_bit (z : Int32) : z &&& (1 : Int32) = 0 ∨ z &&& (1 : Int32) = 1 := by
  have hb : (z &&& (1 : Int32)).toBitVec.toNat ≤ 1 := by
    simp only [Int32.toBitVec_and, BitVec.toNat_and]
    exact Nat.and_le_right
  have e : (z &&& (1 : Int32)) = Int32.ofNat (z &&& (1 : Int32)).toBitVec.toNat := by
    apply Int32.toBitVec_inj.mp
    show _ = BitVec.ofNat 32 _
    rw [BitVec.ofNat_toNat]; simp
  rw [e]
  have h2 : (z &&& (1 : Int32)).toBitVec.toNat = 0 ∨ (z &&& (1 : Int32)).toBitVec.toNat = 1 := by omega
  rcases h2 with q | q
  · left; rw [q]; rfl
  · right; rw [q]; rfl
theorem own_chr (z : Int32) : ¬ (255 : Int32) < (((97 : Int32) + (z &&& (1 : Int32))).toUInt32.toUInt16.toUInt32.toInt32) := by
  rcases own_bit z with q | q
  · rw [q]; decide
  · rw [q]; decide
theorem own_mod4 (z : Int32) : (z &&& (2147483647 : Int32)) % (4 : Int32) = 0 ∨ (z &&& (2147483647 : Int32)) % (4 : Int32) = 1 ∨ (z &&& (2147483647 : Int32)) % (4 : Int32) = 2 ∨ (z &&& (2147483647 : Int32)) % (4 : Int32) = 3 := by
  have h0 : 0 ≤ (z &&& (2147483647 : Int32)).toInt := by
    have hb : (z &&& (2147483647 : Int32)).toBitVec.toNat ≤ 2147483647 := by
      simp only [Int32.toBitVec_and, BitVec.toNat_and]
      exact Nat.and_le_right
    show 0 ≤ (z &&& (2147483647 : Int32)).toBitVec.toInt
    rw [BitVec.toInt_eq_toNat_of_lt (by omega)]
    omega
  have h4 : ((z &&& (2147483647 : Int32)) % (4 : Int32)).toInt = (z &&& (2147483647 : Int32)).toInt % 4 := by
    rw [Int32.toInt_mod]
    exact Int.tmod_eq_emod_of_nonneg h0
  have h5 : (z &&& (2147483647 : Int32)).toInt % 4 = 0 ∨ (z &&& (2147483647 : Int32)).toInt % 4 = 1 ∨ (z &&& (2147483647 : Int32)).toInt % 4 = 2 ∨ (z &&& (2147483647 : Int32)).toInt % 4 = 3 := by omega
  rcases h5 with q | q | q | q <;> rw [q] at h4
  · exact Or.inl (Int32.toInt_inj.mp (by rw [h4]; rfl))
  · exact Or.inr (Or.inl (Int32.toInt_inj.mp (by rw [h4]; rfl)))
  · exact Or.inr (Or.inr (Or.inl (Int32.toInt_inj.mp (by rw [h4]; rfl))))
  · exact Or.inr (Or.inr (Or.inr (Int32.toInt_inj.mp (by rw [h4]; rfl))))
end OwnB
abbrev oN0 : MethodName := ⟨"java/lang/StringLatin1", "canEncode", "(C)Z"⟩
abbrev oM2 : Room := { frames := 0, cells := 0, slots := 0, locals := 0 }
theorem d2_0 : decode jdk_43_method_3_code 0 = .ok (.iload_n 0, 1) := by decide +kernel
theorem d2_1 : decode jdk_43_method_3_code 1 = .ok (.sipush 255, 3) := by decide +kernel
theorem d2_4 : decode jdk_43_method_3_code 4 = .ok (.if_icmp .gt 7, 3) := by decide +kernel
theorem d2_7 : decode jdk_43_method_3_code 7 = .ok (.iconst 1, 1) := by decide +kernel
theorem d2_8 : decode jdk_43_method_3_code 8 = .ok (.goto 4, 3) := by decide +kernel
theorem d2_12 : decode jdk_43_method_3_code 12 = .ok (.ireturn, 1) := by decide +kernel
theorem pn_2 : plainName "java/lang/StringLatin1" = true := by first | (simp [plainName, overriddenIn]; done) | decide +kernel
theorem ef_2 (m : MethodId) (x0 : Int32) : entryFrame m #[(.int x0)] 1 = mkF m 0 #[.val (.int x0)] [] := by first | (simp [entryFrame, mkF, argsToLocals, Value.category]; done) | rfl
def Q2 (Z : State) (p0 : Int32) (h0 : Heap) (n0 : Nat) (v : Option Value) (h : Heap) (L : List Loc) : Prop := v = some (.int (1 : Int32)) ∧ Fr n0 L ∧ h = h0
set_option maxRecDepth 65536 in
set_option maxHeartbeats 40000000 in
theorem rm2 (l : Launch) (Z : State) (a0 : Array Value) (hw : ∀ d ∈ tables_1, d.before a0 Z = true) (ws : List Jvm.Cond) (p0 : Int32) (h0 : Heap) (n0 : Nat) (Z0 : n0 ≤ h0.size) (hx0 : ¬ (255 : Int32) < p0) :
    MetFree l oN0 (head1 (Jvm.Cond.code oN0 jdk_43_method_3_code 1 (some .boolean) :: ws) oM2) (fun a U => a = #[(.int p0)] ∧ Z.Warmed39 U.vm ∧ U.heap = h0) (fun _ _ _ _ _ => True) (fun _ U o U' => ∃ v L, o = .returned v ∧ Q2 Z p0 h0 n0 v U'.heap L ∧ FrameEnd U o U' L oM2.cells oM2.slots) := by
  refine MetFree.of_bodySF (plainFor_of_name pn_2) hisR ?_
  intro p e s m args below meth c s₁ Bd hml0 hP hK
  obtain ⟨rfl, hZ, hh⟩ := hP
  have hx := Bd.exec
  have hby := Bd.bytes
  have hml : c.maxLocals = 1 := hml0
  have hown : s.vm.findClass "java/lang/StringLatin1" = some m.cls := findClass_of_methodNamed Bd.named
  have hnm := (name_of_methodNamed Bd.named Bd.method).1
  have X0 : Stand p l e oM2 s m #[(.int p0)] below meth c s₁ [] 0 0 := Stand.of_body Bd
  have e0 : s₁.heap = h0 := by rw [← hh, Bd.state]; rfl
  have N0 := Fr.nil n0
  obtain ⟨F, hF⟩ : ∃ F : State → Prop, F = own_Fin p e below s oM2.cells oM2.slots (fun v h L => Q2 Z p0 h0 n0 v h L) := ⟨_, rfl⟩
  have bk : ∀ {A B : State}, (∀ t, Steps p.tables e below B t → Steps p.tables e below A t) → F B → F A := by
    intro A B h k
    rw [hF] at k ⊢
    exact own_back h k
  suffices hgo : F (s₁.setTop (mkF m 0 #[.val (.int p0)] [])) by
    have hgo' := bk (fun t k => castTop (T := s₁) (ef_2 m p0) k) hgo
    rw [hF] at hgo'
    exact hgo'
  refine bk (fun t k => XS.iloadN X0.here hx rfl (hb hby d2_0) rfl k) ?_
  refine bk (fun t k => XS.sipush X0.here hx rfl (hb hby d2_1) k) ?_
  refine bk (fun t k => XS.icmpNo X0.here hx rfl (hb hby d2_4) rfl (flt hx0).2.2.1 k) ?_
  refine bk (fun t k => XS.iconst X0.here hx rfl (hb hby d2_7) k) ?_
  refine bk (fun t k => XS.goto X0.here hx rfl (pc0 := 8) (pc' := 12) rfl (hb hby d2_8) (by decide) (by decide) k) ?_
  show F (s₁.setTop (mkF m 12 #[.val (.int p0)] [(.int (1 : Int32))]))
  rw [hF]
  refine own_retZ X0 hx Bd.notSynchronized Bd.returns (hb hby d2_12) (by decide) (by decide) ?_
  rw [e0]
  exact ⟨rfl, N0, rfl⟩
abbrev oN1 : MethodName := ⟨"java/lang/StringLatin1", "toBytes", "(C)[B"⟩
abbrev oM3 : Room := { frames := 0, cells := 1, slots := 1, locals := 0 }
theorem d3_0 : decode jdk_43_method_46_code 0 = .ok (.iconst 1, 1) := by decide +kernel
theorem d3_1 : decode jdk_43_method_46_code 1 = .ok (.newarray .byte, 2) := by decide +kernel
theorem d3_3 : decode jdk_43_method_46_code 3 = .ok (.dup, 1) := by decide +kernel
theorem d3_4 : decode jdk_43_method_46_code 4 = .ok (.iconst 0, 1) := by decide +kernel
theorem d3_5 : decode jdk_43_method_46_code 5 = .ok (.iload_n 0, 1) := by decide +kernel
theorem d3_6 : decode jdk_43_method_46_code 6 = .ok (.i2b, 1) := by decide +kernel
theorem d3_7 : decode jdk_43_method_46_code 7 = .ok (.bastore, 1) := by decide +kernel
theorem d3_8 : decode jdk_43_method_46_code 8 = .ok (.areturn, 1) := by decide +kernel
theorem pn_3 : plainName "java/lang/StringLatin1" = true := by first | (simp [plainName, overriddenIn]; done) | decide +kernel
theorem ef_3 (m : MethodId) (x0 : Int32) : entryFrame m #[(.int x0)] 1 = mkF m 0 #[.val (.int x0)] [] := by first | (simp [entryFrame, mkF, argsToLocals, Value.category]; done) | rfl
def Q3 (Z : State) (p0 : Int32) (h0 : Heap) (n0 : Nat) (v : Option Value) (h : Heap) (L : List Loc) : Prop := ∃ (r : Addr) (kd : ClassId), v = some (.ref r) ∧ Fr n0 L ∧ Keep h0 h [] ∧ Arv Z h r kd .byte (1 : Int32) [(.int (nar .byte (p0.toInt8.toInt32)))] (.int (0 : Int32)) ∧ n0 ≤ r
set_option maxRecDepth 65536 in
set_option maxHeartbeats 40000000 in
theorem rm3 (l : Launch) (Z : State) (a0 : Array Value) (hw : ∀ d ∈ tables_1, d.before a0 Z = true) (ws : List Jvm.Cond) (p0 : Int32) (h0 : Heap) (n0 : Nat) (Z0 : n0 ≤ h0.size) :
    MetFree l oN1 (head1 (Jvm.Cond.code oN1 jdk_43_method_46_code 1 (some (.array .byte)) :: ws) oM3) (fun a U => a = #[(.int p0)] ∧ Z.Warmed39 U.vm ∧ U.heap = h0) (fun _ _ _ _ _ => True) (fun _ U o U' => ∃ v L, o = .returned v ∧ Q3 Z p0 h0 n0 v U'.heap L ∧ FrameEnd U o U' L oM3.cells oM3.slots) := by
  refine MetFree.of_bodySF (plainFor_of_name pn_3) hisR ?_
  intro p e s m args below meth c s₁ Bd hml0 hP hK
  obtain ⟨rfl, hZ, hh⟩ := hP
  have hx := Bd.exec
  have hby := Bd.bytes
  have hml : c.maxLocals = 1 := hml0
  have hown : s.vm.findClass "java/lang/StringLatin1" = some m.cls := findClass_of_methodNamed Bd.named
  have hnm := (name_of_methodNamed Bd.named Bd.method).1
  have X0 : Stand p l e oM3 s m #[(.int p0)] below meth c s₁ [] 0 0 := Stand.of_body Bd
  have e0 : s₁.heap = h0 := by rw [← hh, Bd.state]; rfl
  have N0 := Fr.nil n0
  obtain ⟨F, hF⟩ : ∃ F : State → Prop, F = own_Fin p e below s oM3.cells oM3.slots (fun v h L => Q3 Z p0 h0 n0 v h L) := ⟨_, rfl⟩
  have bk : ∀ {A B : State}, (∀ t, Steps p.tables e below B t → Steps p.tables e below A t) → F B → F A := by
    intro A B h k
    rw [hF] at k ⊢
    exact own_back h k
  suffices hgo : F (s₁.setTop (mkF m 0 #[.val (.int p0)] [])) by
    have hgo' := bk (fun t k => castTop (T := s₁) (ef_3 m p0) k) hgo
    rw [hF] at hgo'
    exact hgo'
  refine bk (fun t k => XS.iconst X0.here hx rfl (hb hby d3_0) k) ?_
  obtain ⟨T1, h1, k1, X1, e1, E1, A1, st1⟩ := newP (aty := .byte) X0 hx hZ (hw _ (List.mem_of_getElem? (i := 15) rfl)) e0 (g := (mkF m 1 #[.val (.int p0)] [(.int (1 : Int32))])) rfl (hb hby d3_1) rfl (by decide) (cap := 1) (by decide) (by decide) (by decide) (by decide)
  obtain ⟨b1, g1⟩ : ∃ z, z = h0.size := ⟨_, rfl⟩
  rw [← g1] at A1 st1
  have Gb1 : n0 ≤ b1 := Nat.le_trans Z0 (Nat.le_of_eq g1.symm)
  have sz_b1 : h0.size ≤ b1 := Nat.le_trans (Keep.refl h0 []).1 (Nat.le_of_eq g1.symm)
  have f2 := Nat.le_trans Z0 E1.1
  have f3 := (Keep.refl h0 []).ext E1
  have V_b1 : Arv Z h1 b1 k1 .byte (1 : Int32) [(.int (0 : Int32))] (.int (0 : Int32)) := (Arv.new A1 (by decide)).pad (pad_rep [] (.int (0 : Int32)) 1)
  refine bk (fun t k => st1 t k) ?_
  refine bk (fun t k => XS.dup X1.here hx rfl (hb hby d3_3) rfl rfl k) ?_
  refine bk (fun t k => XS.iconst X1.here hx rfl (hb hby d3_4) k) ?_
  refine bk (fun t k => XS.iloadN X1.here hx rfl (hb hby d3_5) rfl k) ?_
  show F (T1.setTop (mkF m 6 #[.val (.int p0)] [(.int p0), (.int (0 : Int32)), (.ref b1), (.ref b1)]))
  refine bk (fun t k => XS.i2b X1.here hx rfl (hb hby d3_6) rfl k) ?_
  have vv4 := V_b1
  obtain ⟨cl4, Ar4, q4, S4, M4, H4, G4⟩ := vv4
  have hin4 : ¬ ((0 : Int32) < 0 ∨ cl4.slots.size ≤ ((0 : Int32)).toNatClampNeg) := inb_of S4 ⟨by decide, by decide⟩
  obtain ⟨T4, h4, X4, e4, W4, st4⟩ := stB X1 hx hZ e1 Ar4 (j := (0 : Int32)) hin4 (g := (mkF m 7 #[.val (.int p0)] [(.int (p0.toInt8.toInt32)), (.int (0 : Int32)), (.ref b1), (.ref b1)])) rfl rfl (hb hby d3_7)
  have V_b1_4 : Arv Z h4 b1 k1 .byte (1 : Int32) [(.int (nar .byte (p0.toInt8.toInt32)))] (.int (0 : Int32)) := Arv.set Ar4 q4 S4 M4 H4 G4 (fits_nar_byte _) W4 0 rfl (Nat.le_of_ble_eq_true rfl)
  have f5 := Nat.le_trans f2 (Keep.of_wr W4).1
  have f6 := f3.wr W4 (Or.inr sz_b1)
  have N4 := Fr.snoc X4 N0 Gb1
  refine bk (fun t k => st4 t k) ?_
  show F (T4.setTop (mkF m 8 #[.val (.int p0)] [(.ref b1)]))
  rw [hF]
  refine own_retA X4 hx Bd.notSynchronized Bd.returns rfl rfl (hb hby d3_8) (by decide) (by decide) ?_
  rw [e4]
  exact ⟨_, _, rfl, N4, f6, V_b1_4, Gb1⟩
abbrev oN2 : MethodName := ⟨"java/lang/String", "<init>", "([BB)V"⟩
abbrev oM4 : Room := { frames := 1, cells := 0, slots := 0, locals := 12 }
theorem d4_0 : decode jdk_42_method_151_code 0 = .ok (.aload_n 0, 1) := by decide +kernel
theorem d4_1 : decode jdk_42_method_151_code 1 = .ok (.invokespecial 1, 3) := by decide +kernel
theorem d4_4 : decode jdk_42_method_151_code 4 = .ok (.aload_n 0, 1) := by decide +kernel
theorem d4_5 : decode jdk_42_method_151_code 5 = .ok (.aload_n 1, 1) := by decide +kernel
theorem d4_6 : decode jdk_42_method_151_code 6 = .ok (.putfield 9, 3) := by decide +kernel
theorem d4_9 : decode jdk_42_method_151_code 9 = .ok (.aload_n 0, 1) := by decide +kernel
theorem d4_10 : decode jdk_42_method_151_code 10 = .ok (.iload_n 2, 1) := by decide +kernel
theorem d4_11 : decode jdk_42_method_151_code 11 = .ok (.putfield 15, 3) := by decide +kernel
theorem d4_14 : decode jdk_42_method_151_code 14 = .ok (.return_, 1) := by decide +kernel
theorem pn_4 : plainName "java/lang/String" = true := by first | (simp [plainName, overriddenIn]; done) | decide +kernel
theorem ef_4 (m : MethodId) (x0 : Addr) (x1 : Addr) (x2 : Int32) : entryFrame m #[(.ref x0), (.ref x1), (.int x2)] 3 = mkF m 0 #[.val (.ref x0), .val (.ref x1), .val (.int x2)] [] := by first | (simp [entryFrame, mkF, argsToLocals, Value.category]; done) | rfl
def Q4 (Z : State) (o0 : Addr) (o1 : Addr) (h0 : Heap) (n0 : Nat) (v : Option Value) (h : Heap) (L : List Loc) : Prop := v = none ∧ Fr n0 L ∧ Keep h0 h [o0] ∧ Exa Z h o0 "java/lang/String" ∧ Fld Z h o0 "java/lang/String" "coder" "B" (.int (0 : Int32)) ∧ Fld Z h o0 "java/lang/String" "value" "[B" (.ref o1)
set_option maxRecDepth 65536 in
set_option maxHeartbeats 40000000 in
theorem rm4 (l : Launch) (Z : State) (a0 : Array Value) (hw : ∀ d ∈ tables_1, d.before a0 Z = true) (ws : List Jvm.Cond) (o0 : Addr) (o1 : Addr) (h0 : Heap) (n0 : Nat) (Z0 : n0 ≤ h0.size) (E_o0 : Exa Z h0 o0 "java/lang/String") (F_v : Fld Z h0 o0 "java/lang/String" "value" "[B" .null) (F_c : Fld Z h0 o0 "java/lang/String" "coder" "B" (.int (0 : Int32))) (g_o0 : n0 ≤ o0) :
    MetFree l oN2 (head1 (Jvm.Cond.code oN2 jdk_42_method_151_code 3 none :: ws) oM4) (fun a U => a = #[(.ref o0), (.ref o1), (.int (0 : Int32))] ∧ Z.Warmed39 U.vm ∧ U.heap = h0) (fun _ _ _ _ _ => True) (fun _ U o U' => ∃ v L, o = .returned v ∧ Q4 Z o0 o1 h0 n0 v U'.heap L ∧ FrameEnd U o U' L oM4.cells oM4.slots) := by
  refine MetFree.of_bodySF (plainFor_of_name pn_4) hisR ?_
  intro p e s m args below meth c s₁ Bd hml0 hP hK
  obtain ⟨rfl, hZ, hh⟩ := hP
  have hx := Bd.exec
  have hby := Bd.bytes
  have hml : c.maxLocals = 3 := hml0
  have hown : s.vm.findClass "java/lang/String" = some m.cls := findClass_of_methodNamed Bd.named
  have hnm := (name_of_methodNamed Bd.named Bd.method).1
  have X0 : Stand p l e oM4 s m #[(.ref o0), (.ref o1), (.int (0 : Int32))] below meth c s₁ [] 0 0 := Stand.of_body Bd
  have e0 : s₁.heap = h0 := by rw [← hh, Bd.state]; rfl
  have N0 := Fr.nil n0
  obtain ⟨F, hF⟩ : ∃ F : State → Prop, F = own_Fin p e below s oM4.cells oM4.slots (fun v h L => Q4 Z o0 o1 h0 n0 v h L) := ⟨_, rfl⟩
  have bk : ∀ {A B : State}, (∀ t, Steps p.tables e below B t → Steps p.tables e below A t) → F B → F A := by
    intro A B h k
    rw [hF] at k ⊢
    exact own_back h k
  suffices hgo : F (s₁.setTop (mkF m 0 #[.val (.ref o0), .val (.ref o1), .val (.int (0 : Int32))] [])) by
    have hgo' := bk (fun t k => castTop (T := s₁) (ef_4 m o0 o1 (0 : Int32)) k) hgo
    rw [hF] at hgo'
    exact hgo'
  refine bk (fun t k => XS.aloadN X0.here hx rfl (hb hby d4_0) rfl rfl k) ?_
  obtain ⟨T1, X1, e1, st1⟩ := initO X0 hx hZ hown (hw _ (List.mem_of_getElem? (i := 20) rfl)) (hw _ (List.mem_of_getElem? (i := 21) rfl)) (hw _ (List.mem_of_getElem? (i := 22) rfl)) e0 (g := (mkF m 1 #[oR o0, oR o1, .val (.int (0 : Int32))] [(.ref o0)])) rfl (by rw [hml]; rfl) rfl (hb hby d4_1) (by decide) (W := 0) (by show 2 * 0 + _ ≤ _; exact Nat.le_of_eq rfl) (by decide)
  refine bk (fun t k => st1 t k) ?_
  refine bk (fun t k => XS.aloadN X1.here hx rfl (hb hby d4_4) rfl rfl k) ?_
  refine bk (fun t k => XS.aloadN X1.here hx rfl (hb hby d4_5) rfl rfl k) ?_
  show F (T1.setTop (mkF m 6 #[oR o0, oR o1, .val (.int (0 : Int32))] [(.ref o1), (.ref o0)]))
  obtain ⟨T2, h2, X2, e2, W2, st2⟩ := putF X1 hx hZ hown (host := "") (Or.inl (hw _ (List.mem_of_getElem? (i := 23) rfl))) Via.refl e1 F_v E_o0 (Or.inr ⟨(hw _ (List.mem_of_getElem? (i := 24) rfl)), rfl, hnm⟩) (hw _ (List.mem_of_getElem? (i := 11) rfl)) (ty := (.array .byte)) (by decide) rfl rfl (g := (mkF m 6 #[oR o0, oR o1, .val (.int (0 : Int32))] [(.ref o1), (.ref o0)])) rfl rfl (hb hby d4_6)
  have f3 := E_o0.wr W2
  have f4 := F_v.same W2
  have f5 := F_c.other W2 (Or.inr (slot_ne (Or.inr (hw _ (List.mem_of_getElem? (i := 26) rfl))) (Or.inr (hw _ (List.mem_of_getElem? (i := 24) rfl))) (by decide) (t := .byte) (t' := (.array .byte)) (by decide) (by decide)))
  have f6 := Nat.le_trans Z0 (Keep.of_wr W2).1
  have f7 := (Keep.refl h0 [o0]).wr W2 (Or.inl (List.mem_of_getElem? (i := 0) rfl))
  have N2 := Fr.snoc X2 N0 g_o0
  refine bk (fun t k => st2 t k) ?_
  refine bk (fun t k => XS.aloadN X2.here hx rfl (hb hby d4_9) rfl rfl k) ?_
  refine bk (fun t k => XS.iloadN X2.here hx rfl (hb hby d4_10) rfl k) ?_
  show F (T2.setTop (mkF m 11 #[oR o0, oR o1, .val (.int (0 : Int32))] [(.int (0 : Int32)), (.ref o0)]))
  obtain ⟨T8, h8, X8, e8, W8, st8⟩ := putFN X2 hx hZ hown (hw _ (List.mem_of_getElem? (i := 25) rfl)) Via.refl e2 f5 f3 (Or.inr ⟨(hw _ (List.mem_of_getElem? (i := 26) rfl)), rfl, hnm⟩) (hw _ (List.mem_of_getElem? (i := 11) rfl)) (ty := .byte) (v' := .int (0 : Int32)) (by decide) rfl (by decide) (g := (mkF m 11 #[oR o0, oR o1, .val (.int (0 : Int32))] [(.int (0 : Int32)), (.ref o0)])) rfl rfl (hb hby d4_11)
  have f9 := f3.wr W8
  have f10 := f4.other W8 (Or.inr (slot_ne (Or.inr (hw _ (List.mem_of_getElem? (i := 24) rfl))) (Or.inr (hw _ (List.mem_of_getElem? (i := 26) rfl))) (by decide) (t := (.array .byte)) (t' := .byte) (by decide) (by decide)))
  have f11 := f5.same W8
  have f12 := Nat.le_trans f6 (Keep.of_wr W8).1
  have f13 := f7.wr W8 (Or.inl (List.mem_of_getElem? (i := 0) rfl))
  have N8 := Fr.snoc X8 N2 g_o0
  refine bk (fun t k => st8 t k) ?_
  show F (T8.setTop (mkF m 14 #[oR o0, oR o1, .val (.int (0 : Int32))] []))
  rw [hF]
  refine own_ret0 X8 hx Bd.notSynchronized Bd.returns (hb hby d4_14) (by decide) (by decide) ?_
  rw [e8]
  exact ⟨rfl, N8, f13, f9, f11, f10⟩
abbrev oN3 : MethodName := ⟨"java/lang/String", "valueOf", "(C)Ljava/lang/String;"⟩
abbrev oM1 : Room := { frames := 2, cells := 2, slots := 5, locals := 27 }
theorem d1_0 : decode jdk_42_method_139_code 0 = .ok (.getstatic 38, 3) := by decide +kernel
theorem d1_3 : decode jdk_42_method_139_code 3 = .ok (.ifCond .eq 23, 3) := by decide +kernel
theorem d1_6 : decode jdk_42_method_139_code 6 = .ok (.iload_n 0, 1) := by decide +kernel
theorem d1_7 : decode jdk_42_method_139_code 7 = .ok (.invokestatic 1015, 3) := by decide +kernel
theorem d1_10 : decode jdk_42_method_139_code 10 = .ok (.ifCond .eq 16, 3) := by decide +kernel
theorem d1_13 : decode jdk_42_method_139_code 13 = .ok (.new 10, 3) := by decide +kernel
theorem d1_16 : decode jdk_42_method_139_code 16 = .ok (.dup, 1) := by decide +kernel
theorem d1_17 : decode jdk_42_method_139_code 17 = .ok (.iload_n 0, 1) := by decide +kernel
theorem d1_18 : decode jdk_42_method_139_code 18 = .ok (.invokestatic 1018, 3) := by decide +kernel
theorem d1_21 : decode jdk_42_method_139_code 21 = .ok (.iconst 0, 1) := by decide +kernel
theorem d1_22 : decode jdk_42_method_139_code 22 = .ok (.invokespecial 209, 3) := by decide +kernel
theorem d1_25 : decode jdk_42_method_139_code 25 = .ok (.areturn, 1) := by decide +kernel
theorem pd1__C_Z : parseMethodDescriptor "(C)Z" = some ⟨[.char], some .boolean⟩ := by decide +kernel
theorem pd1__C__B : parseMethodDescriptor "(C)[B" = some ⟨[.char], some (.array .byte)⟩ := by decide +kernel
theorem pd1___BB_V : parseMethodDescriptor "([BB)V" = some ⟨[(.array .byte), .byte], none⟩ := by decide +kernel
theorem pn_1 : plainName "java/lang/String" = true := by first | (simp [plainName, overriddenIn]; done) | decide +kernel
theorem ef_1 (m : MethodId) (x0 : Int32) : entryFrame m #[(.int x0)] 1 = mkF m 0 #[.val (.int x0)] [] := by first | (simp [entryFrame, mkF, argsToLocals, Value.category]; done) | rfl
def Q1 (Z : State) (p0 : Int32) (cs : Int32) (h0 : Heap) (n0 : Nat) (v : Option Value) (h : Heap) (L : List Loc) : Prop := ∃ (s r : Addr) (kd : ClassId), v = some (.ref s) ∧ Fr n0 L ∧ Keep h0 h [] ∧ Exa Z h s "java/lang/String" ∧ Fld Z h s "java/lang/String" "coder" "B" (.int (0 : Int32)) ∧ Fld Z h s "java/lang/String" "value" "[B" (.ref r) ∧ Arv Z h r kd .byte (1 : Int32) [(.int (nar .byte (p0.toInt8.toInt32)))] (.int (0 : Int32)) ∧ n0 ≤ s
set_option maxRecDepth 65536 in
set_option maxHeartbeats 40000000 in
theorem rm1 (l : Launch) (Z : State) (a0 : Array Value) (hw : ∀ d ∈ tables_1, d.before a0 Z = true) (ws : List Jvm.Cond) (p0 : Int32) (cs : Int32) (h0 : Heap) (n0 : Nat) (Z0 : n0 ≤ h0.size) (S_cs : Sta Z h0 "java/lang/String" "COMPACT_STRINGS" "Z" (.int cs)) (hcs : ¬ cs = (0 : Int32)) (hx0 : ¬ (255 : Int32) < p0) :
    MetFree l oN3 (head1 (Jvm.Cond.code oN3 jdk_42_method_139_code 1 (some (.object "java/lang/String")) :: ws) oM1) (fun a U => a = #[(.int p0)] ∧ Z.Warmed39 U.vm ∧ U.heap = h0) (fun _ _ _ _ _ => True) (fun _ U o U' => ∃ v L, o = .returned v ∧ Q1 Z p0 cs h0 n0 v U'.heap L ∧ FrameEnd U o U' L oM1.cells oM1.slots) := by
  refine MetFree.of_bodySF (plainFor_of_name pn_1) hisR ?_
  intro p e s m args below meth c s₁ Bd hml0 hP hK
  obtain ⟨rfl, hZ, hh⟩ := hP
  have hx := Bd.exec
  have hby := Bd.bytes
  have hml : c.maxLocals = 1 := hml0
  have hown : s.vm.findClass "java/lang/String" = some m.cls := findClass_of_methodNamed Bd.named
  have hnm := (name_of_methodNamed Bd.named Bd.method).1
  have X0 : Stand p l e oM1 s m #[(.int p0)] below meth c s₁ [] 0 0 := Stand.of_body Bd
  have e0 : s₁.heap = h0 := by rw [← hh, Bd.state]; rfl
  have N0 := Fr.nil n0
  obtain ⟨F, hF⟩ : ∃ F : State → Prop, F = own_Fin p e below s oM1.cells oM1.slots (fun v h L => Q1 Z p0 cs h0 n0 v h L) := ⟨_, rfl⟩
  have bk : ∀ {A B : State}, (∀ t, Steps p.tables e below B t → Steps p.tables e below A t) → F B → F A := by
    intro A B h k
    rw [hF] at k ⊢
    exact own_back h k
  suffices hgo : F (s₁.setTop (mkF m 0 #[.val (.int p0)] [])) by
    have hgo' := bk (fun t k => castTop (T := s₁) (ef_1 m p0) k) hgo
    rw [hF] at hgo'
    exact hgo'
  have w_3 := hw _ (List.mem_of_getElem? (i := 3) rfl)
  have w_5 := hw _ (List.mem_of_getElem? (i := 5) rfl)
  have w_6 := hw _ (List.mem_of_getElem? (i := 6) rfl)
  have w_7 := hw _ (List.mem_of_getElem? (i := 7) rfl)
  have w_8 := hw _ (List.mem_of_getElem? (i := 8) rfl)
  have w_9 := hw _ (List.mem_of_getElem? (i := 9) rfl)
  have w_10 := hw _ (List.mem_of_getElem? (i := 10) rfl)
  have w_11 := hw _ (List.mem_of_getElem? (i := 11) rfl)
  have w_12 := hw _ (List.mem_of_getElem? (i := 12) rfl)
  have w_13 := hw _ (List.mem_of_getElem? (i := 13) rfl)
  have w_14 := hw _ (List.mem_of_getElem? (i := 14) rfl)
  have w_16 := hw _ (List.mem_of_getElem? (i := 16) rfl)
  have w_17 := hw _ (List.mem_of_getElem? (i := 17) rfl)
  have w_19 := hw _ (List.mem_of_getElem? (i := 19) rfl)
  have w_24 := hw _ (List.mem_of_getElem? (i := 24) rfl)
  have w_26 := hw _ (List.mem_of_getElem? (i := 26) rfl)
  obtain ⟨T1, X1, e1, st1⟩ := getS2 X0 hx hZ hown (host := "") (Or.inl w_5) Via.refl e0 S_cs (g := (mkF m 0 #[.val (.int p0)] [])) rfl (hb hby d1_0)
  refine bk (fun t k => st1 t k) ?_
  show F (T1.setTop (mkF m 3 #[.val (.int p0)] [(.int cs)]))
  refine bk (fun t k => XS.ifNo X1.here hx rfl (hb hby d1_3) rfl ((if0 _ _).trans (feq hcs).1) k) ?_
  refine bk (fun t k => XS.iloadN X1.here hx rfl (hb hby d1_6) rfl k) ?_
  obtain ⟨_, _, ⟨T2, L2, k2, n2⟩, -, X2, ⟨Lc2, hQ2, l2, y2, z2⟩, st2⟩ := Jvm.LawKit.callS X1 hx (y := oN0) hown (mvT hZ w_6) (mvT hZ w_7) (mvT hZ w_8) (mvT hZ w_9) (by decide) (backOf (W := 0) (rm2 l Z a0 hw [] p0 h0 n0 Z0 hx0) hZ w_9 w_8 (by decide) (by decide)) (g := (mkF m 7 #[.val (.int p0)] [(.int p0)])) rfl (by rw [hml]; rfl) (argsL := [(.int p0)]) (rest := []) (lenOf pd1__C_Z rfl) rfl (by show 2 * 0 + _ ≤ _; exact Nat.le_of_eq rfl) (hb hby d1_7) (fun _ _ => ⟨rfl, e1, (by decide : 0 + 0 ≤ _), (by decide : 0 + 0 ≤ _)⟩)
  dsimp only [Pt.U, Pt.locs, Pt.cells, Pt.slots, oM2] at X2 l2 y2 z2 st2 hQ2
  subst l2 y2 z2
  obtain ⟨rfl, N2q, e2⟩ := hQ2
  have N2 := Fr.app N0 N2q
  refine bk (fun t k => st2 t k) ?_
  show F (T2.setTop (mkF m 10 #[.val (.int p0)] [(.int (1 : Int32))]))
  refine bk (fun t k => XS.ifNo X2.here hx rfl (hb hby d1_10) rfl ((if0 _ _).trans (feq (by decide : ¬ ((1 : Int32) = (0 : Int32)))).1) k) ?_
  obtain ⟨T3, h3, X3, e3, E3, A3, D3, -, st3⟩ := newO X2 hx hZ hown w_10 w_11 w_3 e2 (g := (mkF m 13 #[.val (.int p0)] [])) rfl (hb hby d1_13) (by decide) (by decide)
  obtain ⟨b3, g3⟩ : ∃ z, z = h0.size := ⟨_, rfl⟩
  rw [← g3] at A3 D3 st3
  have Gb3 : n0 ≤ b3 := Nat.le_trans Z0 (Nat.le_of_eq g3.symm)
  have sz_b3 : h0.size ≤ b3 := Nat.le_trans (Keep.refl h0 []).1 (Nat.le_of_eq g3.symm)
  have f4 := Nat.le_trans Z0 E3.1
  have f5 := (Keep.refl h0 []).ext E3
  have f6 := S_cs.ext E3
  have F_value_b3 : Fld Z h3 b3 "java/lang/String" "value" "[B" .null := D3 (Or.inr w_24) (ty := (.array .byte)) (by decide)
  have F_coder_b3 : Fld Z h3 b3 "java/lang/String" "coder" "B" (.int (0 : Int32)) := D3 (Or.inr w_26) (ty := .byte) (by decide)
  refine bk (fun t k => st3 t k) ?_
  refine bk (fun t k => XS.dup X3.here hx rfl (hb hby d1_16) rfl rfl k) ?_
  refine bk (fun t k => XS.iloadN X3.here hx rfl (hb hby d1_17) rfl k) ?_
  show F (T3.setTop (mkF m 18 #[.val (.int p0)] [(.int p0), (.ref b3), (.ref b3)]))
  obtain ⟨_, _, ⟨T7, L7, k7, n7⟩, -, X7, ⟨Lc7, hQ7, l7, y7, z7⟩, st7⟩ := Jvm.LawKit.callS X3 hx (y := oN1) hown (mvT hZ w_12) (mvT hZ w_13) (mvT hZ w_8) (mvT hZ w_14) (by decide) (backOf (W := 2) (rm3 l Z a0 hw [] p0 h3 n0 f4) hZ w_14 w_8 (by decide) (by decide)) (g := (mkF m 18 #[.val (.int p0)] [(.int p0), (.ref b3), (.ref b3)])) rfl (by rw [hml]; rfl) (argsL := [(.int p0)]) (rest := [(.ref b3), (.ref b3)]) (lenOf pd1__C__B rfl) rfl (by show 2 * 0 + _ ≤ _; exact Nat.le_of_eq rfl) (hb hby d1_18) (fun _ _ => ⟨rfl, e3, (by decide : 1 + 1 ≤ _), (by decide : 4 + 1 ≤ _)⟩)
  dsimp only [Pt.U, Pt.locs, Pt.cells, Pt.slots, oM3] at X7 l7 y7 z7 st7 hQ7
  subst l7 y7 z7
  obtain ⟨r7, kd7, rfl, N7q, K7, gV7, gG7⟩ := hQ7
  have N7 := Fr.app N2 N7q
  have f8 := Nat.le_trans f4 K7.1
  have f9 := f5.trans K7 all0
  have f10 := own_sta0 f6 K7
  have f11 := A3.keep K7
  have f12 := F_value_b3.keep K7 nin0
  have f13 := F_coder_b3.keep K7 nin0
  refine bk (fun t k => st7 t k) ?_
  refine bk (fun t k => XS.iconst X7.here hx rfl (hb hby d1_21) k) ?_
  show F (T7.setTop (mkF m 22 #[.val (.int p0)] [(.int (0 : Int32)), (.ref r7), (.ref b3), (.ref b3)]))
  obtain ⟨_, _, ⟨T14, L14, k14, n14⟩, -, X14, ⟨Lc14, hQ14, l14, y14, z14⟩, st14⟩ := X7.specialBack hx (y := oN2) rfl hown (mvT hZ w_16) (mvT hZ w_17) (mvT hZ w_19) (by decide) (backOf (W := 1) (rm4 l Z a0 hw [] b3 r7 T7.heap n0 f8 f11 f12 f13 Gb3) hZ w_19 w_3 (by decide) (by decide)) (g := (mkF m 22 #[.val (.int p0)] [(.int (0 : Int32)), (.ref r7), (.ref b3), (.ref b3)])) rfl (by rw [hml]; rfl) (Steps.refl _) (a := b3) (argsL := [(.ref r7), (.int (0 : Int32))]) (rest := [(.ref b3)]) (lenOf pd1___BB_V rfl) rfl (by show 2 * 0 + _ ≤ _; exact Nat.le_of_eq rfl) (hb hby d1_22) (fun _ _ => ⟨rfl, rfl, (by decide : 2 + 0 ≤ _), (by decide : 5 + 0 ≤ _)⟩)
  dsimp only [Pt.U, Pt.locs, Pt.cells, Pt.slots, oM4] at X14 l14 y14 z14 st14 hQ14
  subst l14 y14 z14
  obtain ⟨rfl, N14q, K14, gE14, gC14, gF14⟩ := hQ14
  have N14 := Fr.app N7 N14q
  have f15 := Nat.le_trans f8 K14.1
  have f16 := f9.trans K14 (allS (Or.inr sz_b3) all0)
  have f17 := own_sta1 f10 K14 f11
  have f18 := f11.keep K14
  have f19 := gV7.keep K14 (ninS (Ne.symm (Exa.neArv f11 gV7 w_11)) nin0)
  refine bk (fun t k => st14.trans k) ?_
  show F (T14.setTop (mkF m 25 #[.val (.int p0)] [(.ref b3)]))
  rw [hF]
  refine own_retA X14 hx Bd.notSynchronized Bd.returns rfl rfl (hb hby d1_25) (by decide) (by decide) ?_
  exact ⟨_, _, _, rfl, N14, f16, gE14, gC14, gF14, f19, Gb3⟩
theorem own_beq1 {x y : Int32} (h : ¬ own_beq x y = (0 : Int32)) : own_beq x y = (1 : Int32) := by
  unfold own_beq at h ⊢
  split at h
  · rename_i q
    rw [if_pos q]
  · exact absurd rfl h
theorem own_fldInj {Z : State} {h : Heap} {o : Addr} {C f d : String} {v w : Value} (F : Fld Z h o C f d v) (G : Fld Z h o C f d w) : v = w := Classical.byContradiction fun q => Fld.ne F G q rfl
theorem own_arvInj {Z : State} {h : Heap} {r : Addr} {k k' : ClassId} {x y : Int32} (A : Arv Z h r k .byte (1 : Int32) [(.int x)] (.int (0 : Int32))) (B : Arv Z h r k' .byte (1 : Int32) [(.int y)] (.int (0 : Int32))) : x = y := by
  obtain ⟨c, A1, -, S1, -, H1, -⟩ := A
  obtain ⟨c', B1, -, S2, -, H2, -⟩ := B
  cases A1.1.symm.trans B1.1
  have e1 := H1 0 (by rw [S1]; decide)
  have e2 := H2 0 (by rw [S1]; decide)
  have q := e1.symm.trans e2
  simpa using q
theorem own_strInj {Z : State} {h : Heap} {o r r' : Addr} {k k' : ClassId} {x y : Int32} (F : Fld Z h o "java/lang/String" "value" "[B" (.ref r)) (G : Fld Z h o "java/lang/String" "value" "[B" (.ref r')) (A : Arv Z h r k .byte (1 : Int32) [(.int x)] (.int (0 : Int32))) (B : Arv Z h r' k' .byte (1 : Int32) [(.int y)] (.int (0 : Int32))) : x = y := by
  have q := own_fldInj F G
  cases q
  exact own_arvInj A B
abbrev oN4 : MethodName := ⟨"java/lang/StringLatin1", "equals", "([B[B)Z"⟩
abbrev oM25_1 : Room := { frames := 0, cells := 0, slots := 0, locals := 0 }
theorem d25_0 : decode jdk_43_method_13_code 0 = .ok (.aload_n 0, 1) := by decide +kernel
theorem d25_1 : decode jdk_43_method_13_code 1 = .ok (.arraylength, 1) := by decide +kernel
theorem d25_2 : decode jdk_43_method_13_code 2 = .ok (.aload_n 1, 1) := by decide +kernel
theorem d25_3 : decode jdk_43_method_13_code 3 = .ok (.arraylength, 1) := by decide +kernel
theorem d25_4 : decode jdk_43_method_13_code 4 = .ok (.if_icmp .ne 30, 3) := by decide +kernel
theorem d25_7 : decode jdk_43_method_13_code 7 = .ok (.iconst 0, 1) := by decide +kernel
theorem d25_8 : decode jdk_43_method_13_code 8 = .ok (.istore_n 2, 1) := by decide +kernel
theorem d25_9 : decode jdk_43_method_13_code 9 = .ok (.iload_n 2, 1) := by decide +kernel
theorem d25_10 : decode jdk_43_method_13_code 10 = .ok (.aload_n 0, 1) := by decide +kernel
theorem d25_11 : decode jdk_43_method_13_code 11 = .ok (.arraylength, 1) := by decide +kernel
theorem d25_12 : decode jdk_43_method_13_code 12 = .ok (.if_icmp .ge 20, 3) := by decide +kernel
theorem d25_15 : decode jdk_43_method_13_code 15 = .ok (.aload_n 0, 1) := by decide +kernel
theorem d25_16 : decode jdk_43_method_13_code 16 = .ok (.iload_n 2, 1) := by decide +kernel
theorem d25_17 : decode jdk_43_method_13_code 17 = .ok (.baload, 1) := by decide +kernel
theorem d25_18 : decode jdk_43_method_13_code 18 = .ok (.aload_n 1, 1) := by decide +kernel
theorem d25_19 : decode jdk_43_method_13_code 19 = .ok (.iload_n 2, 1) := by decide +kernel
theorem d25_20 : decode jdk_43_method_13_code 20 = .ok (.baload, 1) := by decide +kernel
theorem d25_21 : decode jdk_43_method_13_code 21 = .ok (.if_icmp .eq 5, 3) := by decide +kernel
theorem d25_24 : decode jdk_43_method_13_code 24 = .ok (.iconst 0, 1) := by decide +kernel
theorem d25_25 : decode jdk_43_method_13_code 25 = .ok (.ireturn, 1) := by decide +kernel
theorem d25_26 : decode jdk_43_method_13_code 26 = .ok (.iinc 2 1, 3) := by decide +kernel
theorem d25_29 : decode jdk_43_method_13_code 29 = .ok (.goto (-20), 3) := by decide +kernel
theorem d25_32 : decode jdk_43_method_13_code 32 = .ok (.iconst 1, 1) := by decide +kernel
theorem d25_33 : decode jdk_43_method_13_code 33 = .ok (.ireturn, 1) := by decide +kernel
theorem pn_25 : plainName "java/lang/StringLatin1" = true := by first | (simp [plainName, overriddenIn]; done) | decide +kernel
theorem ef_25 (m : MethodId) (x0 : Addr) (x1 : Addr) : entryFrame m #[(.ref x0), (.ref x1)] 3 = mkF m 0 #[.val (.ref x0), .val (.ref x1), .unset] [] := by first | (simp [entryFrame, mkF, argsToLocals, Value.category]; done) | rfl
def Q25_1 (Z : State) (o0 : Addr) (o1 : Addr) (k0 : ClassId) (k1 : ClassId) (x : Int32) (y : Int32) (h0 : Heap) (n0 : Nat) (v : Option Value) (h : Heap) (L : List Loc) : Prop := v = some (.int (own_beq x y)) ∧ Fr n0 L ∧ h = h0
set_option maxRecDepth 65536 in
set_option maxHeartbeats 40000000 in
theorem rm25_1 (l : Launch) (Z : State) (a0 : Array Value) (hw : ∀ d ∈ tables_1, d.before a0 Z = true) (ws : List Jvm.Cond) (o0 : Addr) (o1 : Addr) (k0 : ClassId) (k1 : ClassId) (x : Int32) (y : Int32) (h0 : Heap) (n0 : Nat) (Z0 : n0 ≤ h0.size) (V_0 : Arv Z h0 o0 k0 .byte (1 : Int32) [(.int x)] (.int (0 : Int32))) (V_1 : Arv Z h0 o1 k1 .byte (1 : Int32) [(.int y)] (.int (0 : Int32))) :
    MetFree l oN4 (head1 (Jvm.Cond.code oN4 jdk_43_method_13_code 3 (some .boolean) :: ws) oM25_1) (fun a U => a = #[(.ref o0), (.ref o1)] ∧ Z.Warmed39 U.vm ∧ U.heap = h0) (fun _ _ _ _ _ => True) (fun _ U o U' => ∃ v L, o = .returned v ∧ Q25_1 Z o0 o1 k0 k1 x y h0 n0 v U'.heap L ∧ FrameEnd U o U' L oM25_1.cells oM25_1.slots) := by
  refine MetFree.of_bodySF (plainFor_of_name pn_25) hisR ?_
  intro p e s m args below meth c s₁ Bd hml0 hP hK
  obtain ⟨rfl, hZ, hh⟩ := hP
  have hx := Bd.exec
  have hby := Bd.bytes
  have hml : c.maxLocals = 3 := hml0
  have hown : s.vm.findClass "java/lang/StringLatin1" = some m.cls := findClass_of_methodNamed Bd.named
  have hnm := (name_of_methodNamed Bd.named Bd.method).1
  have X0 : Stand p l e oM25_1 s m #[(.ref o0), (.ref o1)] below meth c s₁ [] 0 0 := Stand.of_body Bd
  have e0 : s₁.heap = h0 := by rw [← hh, Bd.state]; rfl
  have N0 := Fr.nil n0
  obtain ⟨F, hF⟩ : ∃ F : State → Prop, F = own_Fin p e below s oM25_1.cells oM25_1.slots (fun v h L => Q25_1 Z o0 o1 k0 k1 x y h0 n0 v h L) := ⟨_, rfl⟩
  have bk : ∀ {A B : State}, (∀ t, Steps p.tables e below B t → Steps p.tables e below A t) → F B → F A := by
    intro A B h k
    rw [hF] at k ⊢
    exact own_back h k
  suffices hgo : F (s₁.setTop (mkF m 0 #[.val (.ref o0), .val (.ref o1), .unset] [])) by
    have hgo' := bk (fun t k => castTop (T := s₁) (ef_25 m o0 o1) k) hgo
    rw [hF] at hgo'
    exact hgo'
  refine bk (fun t k => XS.aloadN X0.here hx rfl (hb hby d25_0) rfl rfl k) ?_
  have vv1 := V_0
  obtain ⟨cl1, Ar1, q1, S1, M1, H1, G1⟩ := vv1
  refine bk (fun t k => X0.arraylength hx (by rw [e0]; exact Ar1.1) (State.isArrayOf_alike hZ.alike Ar1.2.1) (g := (mkF m 1 #[oR o0, oR o1, .unset] [(.ref o0)])) rfl rfl (hb hby d25_1) t k) ?_
  rw [len_of S1 M1]
  refine bk (fun t k => XS.aloadN X0.here hx rfl (hb hby d25_2) rfl rfl k) ?_
  show F (s₁.setTop (mkF m 3 #[oR o0, oR o1, .unset] [(.ref o1), (.int (1 : Int32))]))
  have vv2 := V_1
  obtain ⟨cl2, Ar2, q2, S2, M2, H2, G2⟩ := vv2
  refine bk (fun t k => X0.arraylength hx (by rw [e0]; exact Ar2.1) (State.isArrayOf_alike hZ.alike Ar2.2.1) (g := (mkF m 3 #[oR o0, oR o1, .unset] [(.ref o1), (.int (1 : Int32))])) rfl rfl (hb hby d25_3) t k) ?_
  rw [len_of S2 M2]
  show F (s₁.setTop (mkF m 4 #[oR o0, oR o1, .unset] [(.int (1 : Int32)), (.int (1 : Int32))]))
  refine bk (fun t k => XS.icmpNo X0.here hx rfl (hb hby d25_4) rfl (teq (by decide : (1 : Int32) = (1 : Int32))).2 k) ?_
  refine bk (fun t k => XS.iconst X0.here hx rfl (hb hby d25_7) k) ?_
  refine bk (fun t k => XS.istoreN X0.here hx rfl (hb hby d25_8) rfl (l' := #[oR o0, oR o1, .val (.int (0 : Int32))]) rfl k) ?_
  refine bk (fun t k => XS.iloadN X0.here hx rfl (hb hby d25_9) rfl k) ?_
  refine bk (fun t k => XS.aloadN X0.here hx rfl (hb hby d25_10) rfl rfl k) ?_
  show F (s₁.setTop (mkF m 11 #[oR o0, oR o1, .val (.int (0 : Int32))] [(.ref o0), (.int (0 : Int32))]))
  have vv3 := V_0
  obtain ⟨cl3, Ar3, q3, S3, M3, H3, G3⟩ := vv3
  refine bk (fun t k => X0.arraylength hx (by rw [e0]; exact Ar3.1) (State.isArrayOf_alike hZ.alike Ar3.2.1) (g := (mkF m 11 #[oR o0, oR o1, .val (.int (0 : Int32))] [(.ref o0), (.int (0 : Int32))])) rfl rfl (hb hby d25_11) t k) ?_
  rw [len_of S3 M3]
  show F (s₁.setTop (mkF m 12 #[oR o0, oR o1, .val (.int (0 : Int32))] [(.int (1 : Int32)), (.int (0 : Int32))]))
  refine bk (fun t k => XS.icmpNo X0.here hx rfl (hb hby d25_12) rfl (tlt (by decide : (0 : Int32) < (1 : Int32))).2.1 k) ?_
  refine bk (fun t k => XS.aloadN X0.here hx rfl (hb hby d25_15) rfl rfl k) ?_
  refine bk (fun t k => XS.iloadN X0.here hx rfl (hb hby d25_16) rfl k) ?_
  show F (s₁.setTop (mkF m 17 #[oR o0, oR o1, .val (.int (0 : Int32))] [(.int (0 : Int32)), (.ref o0)]))
  have vv4 := V_0
  obtain ⟨cl4, Ar4, q4, S4, M4, H4, G4⟩ := vv4
  have hin4 : ¬ ((0 : Int32) < 0 ∨ cl4.slots.size ≤ ((0 : Int32)).toNatClampNeg) := inb_of S4 ⟨by decide, by decide⟩
  refine bk (fun t k => X0.baloadBytes hx (j := (0 : Int32)) (v := (.int x)) (by rw [e0]; exact Ar4.1) (State.isArrayOf_alike hZ.alike Ar4.2.1) Ar4.2.2 hin4 (Has.at H4 hin4 rfl) (g := (mkF m 17 #[oR o0, oR o1, .val (.int (0 : Int32))] [(.int (0 : Int32)), (.ref o0)])) rfl rfl (hb hby d25_17) t k) ?_
  refine bk (fun t k => XS.aloadN X0.here hx rfl (hb hby d25_18) rfl rfl k) ?_
  refine bk (fun t k => XS.iloadN X0.here hx rfl (hb hby d25_19) rfl k) ?_
  show F (s₁.setTop (mkF m 20 #[oR o0, oR o1, .val (.int (0 : Int32))] [(.int (0 : Int32)), (.ref o1), (.int x)]))
  have vv5 := V_1
  obtain ⟨cl5, Ar5, q5, S5, M5, H5, G5⟩ := vv5
  have hin5 : ¬ ((0 : Int32) < 0 ∨ cl5.slots.size ≤ ((0 : Int32)).toNatClampNeg) := inb_of S5 ⟨by decide, by decide⟩
  refine bk (fun t k => X0.baloadBytes hx (j := (0 : Int32)) (v := (.int y)) (by rw [e0]; exact Ar5.1) (State.isArrayOf_alike hZ.alike Ar5.2.1) Ar5.2.2 hin5 (Has.at H5 hin5 rfl) (g := (mkF m 20 #[oR o0, oR o1, .val (.int (0 : Int32))] [(.int (0 : Int32)), (.ref o1), (.int x)])) rfl rfl (hb hby d25_20) t k) ?_
  show F (s₁.setTop (mkF m 21 #[oR o0, oR o1, .val (.int (0 : Int32))] [(.int y), (.int x)]))
  by_cases hc21_6 : x = y
  · refine bk (fun t k => XS.icmpYes X0.here hx rfl (pc0 := 21) (pc' := 26) rfl (hb hby d25_21) rfl (teq hc21_6).1 (by decide) (by decide) k) ?_
    refine bk (fun t k => XS.iinc X0.here hx rfl (hb hby d25_26) rfl (l' := #[oR o0, oR o1, .val (.int (1 : Int32))]) rfl k) ?_
    refine bk (fun t k => XS.goto X0.here hx rfl (pc0 := 29) (pc' := 9) rfl (hb hby d25_29) (by decide) (by decide) k) ?_
    refine bk (fun t k => XS.iloadN X0.here hx rfl (hb hby d25_9) rfl k) ?_
    refine bk (fun t k => XS.aloadN X0.here hx rfl (hb hby d25_10) rfl rfl k) ?_
    show F (s₁.setTop (mkF m 11 #[oR o0, oR o1, .val (.int (1 : Int32))] [(.ref o0), (.int (1 : Int32))]))
    have vv7 := V_0
    obtain ⟨cl7, Ar7, q7, S7, M7, H7, G7⟩ := vv7
    refine bk (fun t k => X0.arraylength hx (by rw [e0]; exact Ar7.1) (State.isArrayOf_alike hZ.alike Ar7.2.1) (g := (mkF m 11 #[oR o0, oR o1, .val (.int (1 : Int32))] [(.ref o0), (.int (1 : Int32))])) rfl rfl (hb hby d25_11) t k) ?_
    rw [len_of S7 M7]
    show F (s₁.setTop (mkF m 12 #[oR o0, oR o1, .val (.int (1 : Int32))] [(.int (1 : Int32)), (.int (1 : Int32))]))
    refine bk (fun t k => XS.icmpYes X0.here hx rfl (pc0 := 12) (pc' := 32) rfl (hb hby d25_12) rfl (flt (by decide : ¬ ((1 : Int32) < (1 : Int32)))).2.1 (by decide) (by decide) k) ?_
    refine bk (fun t k => XS.iconst X0.here hx rfl (hb hby d25_32) k) ?_
    rw [hF]
    refine own_retZ X0 hx Bd.notSynchronized Bd.returns (hb hby d25_33) (by decide) (by decide) ?_
    rw [e0]
    refine ⟨?_, N0, rfl⟩
    show some (Value.int (1 : Int32)) = some (Value.int (own_beq x y))
    simp [own_beq, hc21_6]
  refine bk (fun t k => XS.icmpNo X0.here hx rfl (hb hby d25_21) rfl (feq hc21_6).1 k) ?_
  refine bk (fun t k => XS.iconst X0.here hx rfl (hb hby d25_24) k) ?_
  rw [hF]
  refine own_retZ X0 hx Bd.notSynchronized Bd.returns (hb hby d25_25) (by decide) (by decide) ?_
  rw [e0]
  refine ⟨?_, N0, rfl⟩
  show some (Value.int (0 : Int32)) = some (Value.int (own_beq x y))
  simp [own_beq, hc21_6]
abbrev oN5 : MethodName := ⟨"java/lang/String", "equals", "(Ljava/lang/Object;)Z"⟩
abbrev oM24_1 : Room := { frames := 1, cells := 0, slots := 0, locals := 14 }
theorem d24_0 : decode jdk_42_method_66_code 0 = .ok (.aload_n 0, 1) := by decide +kernel
theorem d24_1 : decode jdk_42_method_66_code 1 = .ok (.aload_n 1, 1) := by decide +kernel
theorem d24_2 : decode jdk_42_method_66_code 2 = .ok (.if_acmp .ne 5, 3) := by decide +kernel
theorem d24_5 : decode jdk_42_method_66_code 5 = .ok (.iconst 1, 1) := by decide +kernel
theorem d24_6 : decode jdk_42_method_66_code 6 = .ok (.ireturn, 1) := by decide +kernel
theorem d24_7 : decode jdk_42_method_66_code 7 = .ok (.aload_n 1, 1) := by decide +kernel
theorem d24_8 : decode jdk_42_method_66_code 8 = .ok (.instanceof 10, 3) := by decide +kernel
theorem d24_11 : decode jdk_42_method_66_code 11 = .ok (.ifCond .eq 43, 3) := by decide +kernel
theorem d24_14 : decode jdk_42_method_66_code 14 = .ok (.aload_n 1, 1) := by decide +kernel
theorem d24_15 : decode jdk_42_method_66_code 15 = .ok (.checkcast 10, 3) := by decide +kernel
theorem d24_18 : decode jdk_42_method_66_code 18 = .ok (.astore_n 2, 1) := by decide +kernel
theorem d24_19 : decode jdk_42_method_66_code 19 = .ok (.getstatic 38, 3) := by decide +kernel
theorem d24_22 : decode jdk_42_method_66_code 22 = .ok (.ifCond .eq 14, 3) := by decide +kernel
theorem d24_25 : decode jdk_42_method_66_code 25 = .ok (.aload_n 0, 1) := by decide +kernel
theorem d24_26 : decode jdk_42_method_66_code 26 = .ok (.getfield 15, 3) := by decide +kernel
theorem d24_29 : decode jdk_42_method_66_code 29 = .ok (.aload_n 2, 1) := by decide +kernel
theorem d24_30 : decode jdk_42_method_66_code 30 = .ok (.getfield 15, 3) := by decide +kernel
theorem d24_33 : decode jdk_42_method_66_code 33 = .ok (.if_icmp .ne 21, 3) := by decide +kernel
theorem d24_36 : decode jdk_42_method_66_code 36 = .ok (.aload_n 0, 1) := by decide +kernel
theorem d24_37 : decode jdk_42_method_66_code 37 = .ok (.getfield 9, 3) := by decide +kernel
theorem d24_40 : decode jdk_42_method_66_code 40 = .ok (.aload_n 2, 1) := by decide +kernel
theorem d24_41 : decode jdk_42_method_66_code 41 = .ok (.getfield 9, 3) := by decide +kernel
theorem d24_44 : decode jdk_42_method_66_code 44 = .ok (.invokestatic 541, 3) := by decide +kernel
theorem d24_47 : decode jdk_42_method_66_code 47 = .ok (.ifCond .eq 7, 3) := by decide +kernel
theorem d24_50 : decode jdk_42_method_66_code 50 = .ok (.iconst 1, 1) := by decide +kernel
theorem d24_51 : decode jdk_42_method_66_code 51 = .ok (.goto 4, 3) := by decide +kernel
theorem d24_54 : decode jdk_42_method_66_code 54 = .ok (.iconst 0, 1) := by decide +kernel
theorem d24_55 : decode jdk_42_method_66_code 55 = .ok (.ireturn, 1) := by decide +kernel
theorem pd24___B_B_Z : parseMethodDescriptor "([B[B)Z" = some ⟨[(.array .byte), (.array .byte)], some .boolean⟩ := by decide +kernel
theorem pn_24 : plainName "java/lang/String" = true := by first | (simp [plainName, overriddenIn]; done) | decide +kernel
theorem ef_24 (m : MethodId) (x0 : Addr) (x1 : Addr) : entryFrame m #[(.ref x0), (.ref x1)] 3 = mkF m 0 #[.val (.ref x0), .val (.ref x1), .unset] [] := by first | (simp [entryFrame, mkF, argsToLocals, Value.category]; done) | rfl
def Q24_1 (Z : State) (o0 : Addr) (o1 : Addr) (r0 : Addr) (r1 : Addr) (k0 : ClassId) (k1 : ClassId) (x : Int32) (y : Int32) (cs : Int32) (h0 : Heap) (n0 : Nat) (v : Option Value) (h : Heap) (L : List Loc) : Prop := v = some (.int (own_beq x y)) ∧ Fr n0 L ∧ h = h0
set_option maxRecDepth 65536 in
set_option maxHeartbeats 40000000 in
theorem rm24_1 (l : Launch) (Z : State) (a0 : Array Value) (hw : ∀ d ∈ tables_1, d.before a0 Z = true) (ws : List Jvm.Cond) (o0 : Addr) (o1 : Addr) (r0 : Addr) (r1 : Addr) (k0 : ClassId) (k1 : ClassId) (x : Int32) (y : Int32) (cs : Int32) (h0 : Heap) (n0 : Nat) (Z0 : n0 ≤ h0.size) (E_0 : Exa Z h0 o0 "java/lang/String") (E_1 : Exa Z h0 o1 "java/lang/String") (F_0 : Fld Z h0 o0 "java/lang/String" "value" "[B" (.ref r0)) (F_1 : Fld Z h0 o1 "java/lang/String" "value" "[B" (.ref r1)) (C_0 : Fld Z h0 o0 "java/lang/String" "coder" "B" (.int (0 : Int32))) (C_1 : Fld Z h0 o1 "java/lang/String" "coder" "B" (.int (0 : Int32))) (V_0 : Arv Z h0 r0 k0 .byte (1 : Int32) [(.int x)] (.int (0 : Int32))) (V_1 : Arv Z h0 r1 k1 .byte (1 : Int32) [(.int y)] (.int (0 : Int32))) (S_cs : Sta Z h0 "java/lang/String" "COMPACT_STRINGS" "Z" (.int cs)) (hcs : ¬ cs = (0 : Int32)) :
    MetFree l oN5 (head1 (Jvm.Cond.code oN5 jdk_42_method_66_code 3 (some .boolean) :: ws) oM24_1) (fun a U => a = #[(.ref o0), (.ref o1)] ∧ Z.Warmed39 U.vm ∧ U.heap = h0) (fun _ _ _ _ _ => True) (fun _ U o U' => ∃ v L, o = .returned v ∧ Q24_1 Z o0 o1 r0 r1 k0 k1 x y cs h0 n0 v U'.heap L ∧ FrameEnd U o U' L oM24_1.cells oM24_1.slots) := by
  refine MetFree.of_bodySF (plainFor_of_name pn_24) hisR ?_
  intro p e s m args below meth c s₁ Bd hml0 hP hK
  obtain ⟨rfl, hZ, hh⟩ := hP
  have hx := Bd.exec
  have hby := Bd.bytes
  have hml : c.maxLocals = 3 := hml0
  have hown : s.vm.findClass "java/lang/String" = some m.cls := findClass_of_methodNamed Bd.named
  have hnm := (name_of_methodNamed Bd.named Bd.method).1
  have X0 : Stand p l e oM24_1 s m #[(.ref o0), (.ref o1)] below meth c s₁ [] 0 0 := Stand.of_body Bd
  have e0 : s₁.heap = h0 := by rw [← hh, Bd.state]; rfl
  have N0 := Fr.nil n0
  obtain ⟨F, hF⟩ : ∃ F : State → Prop, F = own_Fin p e below s oM24_1.cells oM24_1.slots (fun v h L => Q24_1 Z o0 o1 r0 r1 k0 k1 x y cs h0 n0 v h L) := ⟨_, rfl⟩
  have bk : ∀ {A B : State}, (∀ t, Steps p.tables e below B t → Steps p.tables e below A t) → F B → F A := by
    intro A B h k
    rw [hF] at k ⊢
    exact own_back h k
  suffices hgo : F (s₁.setTop (mkF m 0 #[.val (.ref o0), .val (.ref o1), .unset] [])) by
    have hgo' := bk (fun t k => castTop (T := s₁) (ef_24 m o0 o1) k) hgo
    rw [hF] at hgo'
    exact hgo'
  have w_5 := hw _ (List.mem_of_getElem? (i := 5) rfl)
  have w_8 := hw _ (List.mem_of_getElem? (i := 8) rfl)
  have w_10 := hw _ (List.mem_of_getElem? (i := 10) rfl)
  have w_23 := hw _ (List.mem_of_getElem? (i := 23) rfl)
  have w_25 := hw _ (List.mem_of_getElem? (i := 25) rfl)
  have w_180 := hw _ (List.mem_of_getElem? (i := 180) rfl)
  have w_181 := hw _ (List.mem_of_getElem? (i := 181) rfl)
  have w_182 := hw _ (List.mem_of_getElem? (i := 182) rfl)
  refine bk (fun t k => XS.aloadN X0.here hx rfl (hb hby d24_0) rfl rfl k) ?_
  refine bk (fun t k => XS.aloadN X0.here hx rfl (hb hby d24_1) rfl rfl k) ?_
  by_cases hc2_1 : o0 = o1
  · refine bk (fun t k => Jvm.RoadKit.acmp (g := (mkF m 2 #[oR o0, oR o1, .unset] [(.ref o1), (.ref o0)])) X0 hx rfl rfl rfl (pc0 := 2) (pc' := 5) (same := true) rfl (hb hby d24_2) rfl (decide_eq_true (congrArg Value.ref hc2_1)) (by decide) (by decide) k) ?_
    refine bk (fun t k => XS.iconst X0.here hx rfl (hb hby d24_5) k) ?_
    show F (s₁.setTop (mkF m 6 #[oR o0, oR o1, .unset] [(.int (1 : Int32))]))
    rw [hF]
    refine own_retZ X0 hx Bd.notSynchronized Bd.returns (hb hby d24_6) (by decide) (by decide) ?_
    rw [e0]
    refine ⟨?_, N0, rfl⟩
    show some (Value.int (1 : Int32)) = some (Value.int (own_beq x y))
    subst hc2_1
    simp [own_beq, own_strInj F_0 F_1 V_0 V_1]
  refine bk (fun t k => Jvm.RoadKit.acmp (g := (mkF m 2 #[oR o0, oR o1, .unset] [(.ref o1), (.ref o0)])) X0 hx rfl rfl rfl (pc0 := 2) (pc' := 7) (same := false) rfl (hb hby d24_2) rfl (decide_eq_false fun q => hc2_1 (Value.ref.inj q)) (by decide) (by decide) k) ?_
  refine bk (fun t k => XS.aloadN X0.here hx rfl (hb hby d24_7) rfl rfl k) ?_
  show F (s₁.setTop (mkF m 8 #[oR o0, oR o1, .unset] [(.ref o1)]))
  obtain ⟨T2, X2, e2, st2⟩ := instY X0 hx hZ hown w_10 e0 (Ins.self E_1) (g := (mkF m 8 #[oR o0, oR o1, .unset] [(.ref o1)])) rfl rfl (hb hby d24_8)
  refine bk (fun t k => st2 t k) ?_
  show F (T2.setTop (mkF m 11 #[oR o0, oR o1, .unset] [(.int (1 : Int32))]))
  refine bk (fun t k => XS.ifNo X2.here hx rfl (hb hby d24_11) rfl ((if0 _ _).trans (feq (by decide : ¬ ((1 : Int32) = (0 : Int32)))).1) k) ?_
  refine bk (fun t k => XS.aloadN X2.here hx rfl (hb hby d24_14) rfl rfl k) ?_
  obtain ⟨T3, X3, e3, st3⟩ := castY X2 hx hZ hown w_10 e2 (Ins.self E_1) (g := (mkF m 15 #[oR o0, oR o1, .unset] [(.ref o1)])) rfl rfl (hb hby d24_15)
  refine bk (fun t k => st3 t k) ?_
  show F (T3.setTop (mkF m 18 #[oR o0, oR o1, .unset] [(.ref o1)]))
  refine bk (fun t k => XS.astoreN X3.here hx rfl (hb hby d24_18) rfl rfl (l' := #[oR o0, oR o1, oR o1]) rfl k) ?_
  obtain ⟨T4, X4, e4, st4⟩ := getS2 X3 hx hZ hown (host := "") (Or.inl w_5) Via.refl e3 S_cs (g := (mkF m 19 #[oR o0, oR o1, oR o1] [])) rfl (hb hby d24_19)
  refine bk (fun t k => st4 t k) ?_
  show F (T4.setTop (mkF m 22 #[oR o0, oR o1, oR o1] [(.int cs)]))
  refine bk (fun t k => XS.ifNo X4.here hx rfl (hb hby d24_22) rfl ((if0 _ _).trans (feq hcs).1) k) ?_
  refine bk (fun t k => XS.aloadN X4.here hx rfl (hb hby d24_25) rfl rfl k) ?_
  obtain ⟨T5, X5, e5, st5⟩ := getF X4 hx hZ hown (host := "") (Or.inl w_25) Via.refl e4 C_0 (g := (mkF m 26 #[oR o0, oR o1, oR o1] [(.ref o0)])) rfl rfl (hb hby d24_26)
  refine bk (fun t k => st5 t k) ?_
  refine bk (fun t k => XS.aloadN X5.here hx rfl (hb hby d24_29) rfl rfl k) ?_
  show F (T5.setTop (mkF m 30 #[oR o0, oR o1, oR o1] [(.ref o1), (.int (0 : Int32))]))
  obtain ⟨T6, X6, e6, st6⟩ := getF X5 hx hZ hown (host := "") (Or.inl w_25) Via.refl e5 C_1 (g := (mkF m 30 #[oR o0, oR o1, oR o1] [(.ref o1), (.int (0 : Int32))])) rfl rfl (hb hby d24_30)
  refine bk (fun t k => st6 t k) ?_
  show F (T6.setTop (mkF m 33 #[oR o0, oR o1, oR o1] [(.int (0 : Int32)), (.int (0 : Int32))]))
  refine bk (fun t k => XS.icmpNo X6.here hx rfl (hb hby d24_33) rfl (teq (by decide : (0 : Int32) = (0 : Int32))).2 k) ?_
  refine bk (fun t k => XS.aloadN X6.here hx rfl (hb hby d24_36) rfl rfl k) ?_
  obtain ⟨T7, X7, e7, st7⟩ := getF X6 hx hZ hown (host := "") (Or.inl w_23) Via.refl e6 F_0 (g := (mkF m 37 #[oR o0, oR o1, oR o1] [(.ref o0)])) rfl rfl (hb hby d24_37)
  refine bk (fun t k => st7 t k) ?_
  refine bk (fun t k => XS.aloadN X7.here hx rfl (hb hby d24_40) rfl rfl k) ?_
  show F (T7.setTop (mkF m 41 #[oR o0, oR o1, oR o1] [(.ref o1), (.ref r0)]))
  obtain ⟨T8, X8, e8, st8⟩ := getF X7 hx hZ hown (host := "") (Or.inl w_23) Via.refl e7 F_1 (g := (mkF m 41 #[oR o0, oR o1, oR o1] [(.ref o1), (.ref r0)])) rfl rfl (hb hby d24_41)
  refine bk (fun t k => st8 t k) ?_
  show F (T8.setTop (mkF m 44 #[oR o0, oR o1, oR o1] [(.ref r1), (.ref r0)]))
  obtain ⟨_, _, ⟨T9, L9, k9, n9⟩, -, X9, ⟨Lc9, hQ9, l9, y9, z9⟩, st9⟩ := Jvm.LawKit.callS X8 hx (y := oN4) hown (mvT hZ w_180) (mvT hZ w_181) (mvT hZ w_8) (mvT hZ w_182) (by decide) (backOf (W := 0) (rm25_1 l Z a0 hw [] r0 r1 k0 k1 x y h0 n0 Z0 V_0 V_1) hZ w_182 w_8 (by decide) (by decide)) (g := (mkF m 44 #[oR o0, oR o1, oR o1] [(.ref r1), (.ref r0)])) rfl (by rw [hml]; rfl) (argsL := [(.ref r0), (.ref r1)]) (rest := []) (lenOf pd24___B_B_Z rfl) rfl (by show 2 * 0 + _ ≤ _; exact Nat.le_of_eq rfl) (hb hby d24_44) (fun _ _ => ⟨rfl, e8, (by decide : 0 + 0 ≤ _), (by decide : 0 + 0 ≤ _)⟩)
  dsimp only [Pt.U, Pt.locs, Pt.cells, Pt.slots, oM25_1] at X9 l9 y9 z9 st9 hQ9
  subst l9 y9 z9
  obtain ⟨rfl, N9q, e9⟩ := hQ9
  have N9 := Fr.app N0 N9q
  refine bk (fun t k => st9 t k) ?_
  show F (T9.setTop (mkF m 47 #[oR o0, oR o1, oR o1] [(.int (own_beq x y))]))
  by_cases hc47_10 : (own_beq x y) = (0 : Int32)
  · refine bk (fun t k => XS.ifYes X9.here hx rfl (pc0 := 47) (pc' := 54) rfl (hb hby d24_47) rfl ((if0 _ _).trans (teq hc47_10).1) (by decide) (by decide) k) ?_
    refine bk (fun t k => XS.iconst X9.here hx rfl (hb hby d24_54) k) ?_
    rw [hF]
    refine own_retZ X9 hx Bd.notSynchronized Bd.returns (hb hby d24_55) (by decide) (by decide) ?_
    rw [e9]
    refine ⟨?_, N9, rfl⟩
    show some (Value.int (0 : Int32)) = some (Value.int (own_beq x y))
    rw [hc47_10]
  refine bk (fun t k => XS.ifNo X9.here hx rfl (hb hby d24_47) rfl ((if0 _ _).trans (feq hc47_10).1) k) ?_
  refine bk (fun t k => XS.iconst X9.here hx rfl (hb hby d24_50) k) ?_
  refine bk (fun t k => XS.goto X9.here hx rfl (pc0 := 51) (pc' := 55) rfl (hb hby d24_51) (by decide) (by decide) k) ?_
  show F (T9.setTop (mkF m 55 #[oR o0, oR o1, oR o1] [(.int (1 : Int32))]))
  rw [hF]
  refine own_retZ X9 hx Bd.notSynchronized Bd.returns (hb hby d24_55) (by decide) (by decide) ?_
  rw [e9]
  refine ⟨?_, N9, rfl⟩
  show some (Value.int (1 : Int32)) = some (Value.int (own_beq x y))
  rw [own_beq1 hc47_10]
abbrev oM25_0 : Room := { frames := 0, cells := 0, slots := 0, locals := 0 }
def Q25_0 (Z : State) (o0 : Addr) (o1 : Addr) (k0 : ClassId) (k1 : ClassId) (h0 : Heap) (n0 : Nat) (v : Option Value) (h : Heap) (L : List Loc) : Prop := v = some (.int (1 : Int32)) ∧ Fr n0 L ∧ h = h0
set_option maxRecDepth 65536 in
set_option maxHeartbeats 40000000 in
theorem rm25_0 (l : Launch) (Z : State) (a0 : Array Value) (hw : ∀ d ∈ tables_1, d.before a0 Z = true) (ws : List Jvm.Cond) (o0 : Addr) (o1 : Addr) (k0 : ClassId) (k1 : ClassId) (h0 : Heap) (n0 : Nat) (Z0 : n0 ≤ h0.size) (V_0 : Arv Z h0 o0 k0 .byte (0 : Int32) [] (.int (0 : Int32))) (V_1 : Arv Z h0 o1 k1 .byte (0 : Int32) [] (.int (0 : Int32))) :
    MetFree l oN4 (head1 (Jvm.Cond.code oN4 jdk_43_method_13_code 3 (some .boolean) :: ws) oM25_0) (fun a U => a = #[(.ref o0), (.ref o1)] ∧ Z.Warmed39 U.vm ∧ U.heap = h0) (fun _ _ _ _ _ => True) (fun _ U o U' => ∃ v L, o = .returned v ∧ Q25_0 Z o0 o1 k0 k1 h0 n0 v U'.heap L ∧ FrameEnd U o U' L oM25_0.cells oM25_0.slots) := by
  refine MetFree.of_bodySF (plainFor_of_name pn_25) hisR ?_
  intro p e s m args below meth c s₁ Bd hml0 hP hK
  obtain ⟨rfl, hZ, hh⟩ := hP
  have hx := Bd.exec
  have hby := Bd.bytes
  have hml : c.maxLocals = 3 := hml0
  have hown : s.vm.findClass "java/lang/StringLatin1" = some m.cls := findClass_of_methodNamed Bd.named
  have hnm := (name_of_methodNamed Bd.named Bd.method).1
  have X0 : Stand p l e oM25_0 s m #[(.ref o0), (.ref o1)] below meth c s₁ [] 0 0 := Stand.of_body Bd
  have e0 : s₁.heap = h0 := by rw [← hh, Bd.state]; rfl
  have N0 := Fr.nil n0
  obtain ⟨F, hF⟩ : ∃ F : State → Prop, F = own_Fin p e below s oM25_0.cells oM25_0.slots (fun v h L => Q25_0 Z o0 o1 k0 k1 h0 n0 v h L) := ⟨_, rfl⟩
  have bk : ∀ {A B : State}, (∀ t, Steps p.tables e below B t → Steps p.tables e below A t) → F B → F A := by
    intro A B h k
    rw [hF] at k ⊢
    exact own_back h k
  suffices hgo : F (s₁.setTop (mkF m 0 #[.val (.ref o0), .val (.ref o1), .unset] [])) by
    have hgo' := bk (fun t k => castTop (T := s₁) (ef_25 m o0 o1) k) hgo
    rw [hF] at hgo'
    exact hgo'
  refine bk (fun t k => XS.aloadN X0.here hx rfl (hb hby d25_0) rfl rfl k) ?_
  have vv1 := V_0
  obtain ⟨cl1, Ar1, q1, S1, M1, H1, G1⟩ := vv1
  refine bk (fun t k => X0.arraylength hx (by rw [e0]; exact Ar1.1) (State.isArrayOf_alike hZ.alike Ar1.2.1) (g := (mkF m 1 #[oR o0, oR o1, .unset] [(.ref o0)])) rfl rfl (hb hby d25_1) t k) ?_
  rw [len_of S1 M1]
  refine bk (fun t k => XS.aloadN X0.here hx rfl (hb hby d25_2) rfl rfl k) ?_
  show F (s₁.setTop (mkF m 3 #[oR o0, oR o1, .unset] [(.ref o1), (.int (0 : Int32))]))
  have vv2 := V_1
  obtain ⟨cl2, Ar2, q2, S2, M2, H2, G2⟩ := vv2
  refine bk (fun t k => X0.arraylength hx (by rw [e0]; exact Ar2.1) (State.isArrayOf_alike hZ.alike Ar2.2.1) (g := (mkF m 3 #[oR o0, oR o1, .unset] [(.ref o1), (.int (0 : Int32))])) rfl rfl (hb hby d25_3) t k) ?_
  rw [len_of S2 M2]
  show F (s₁.setTop (mkF m 4 #[oR o0, oR o1, .unset] [(.int (0 : Int32)), (.int (0 : Int32))]))
  refine bk (fun t k => XS.icmpNo X0.here hx rfl (hb hby d25_4) rfl (teq (by decide : (0 : Int32) = (0 : Int32))).2 k) ?_
  refine bk (fun t k => XS.iconst X0.here hx rfl (hb hby d25_7) k) ?_
  refine bk (fun t k => XS.istoreN X0.here hx rfl (hb hby d25_8) rfl (l' := #[oR o0, oR o1, .val (.int (0 : Int32))]) rfl k) ?_
  refine bk (fun t k => XS.iloadN X0.here hx rfl (hb hby d25_9) rfl k) ?_
  refine bk (fun t k => XS.aloadN X0.here hx rfl (hb hby d25_10) rfl rfl k) ?_
  show F (s₁.setTop (mkF m 11 #[oR o0, oR o1, .val (.int (0 : Int32))] [(.ref o0), (.int (0 : Int32))]))
  have vv3 := V_0
  obtain ⟨cl3, Ar3, q3, S3, M3, H3, G3⟩ := vv3
  refine bk (fun t k => X0.arraylength hx (by rw [e0]; exact Ar3.1) (State.isArrayOf_alike hZ.alike Ar3.2.1) (g := (mkF m 11 #[oR o0, oR o1, .val (.int (0 : Int32))] [(.ref o0), (.int (0 : Int32))])) rfl rfl (hb hby d25_11) t k) ?_
  rw [len_of S3 M3]
  show F (s₁.setTop (mkF m 12 #[oR o0, oR o1, .val (.int (0 : Int32))] [(.int (0 : Int32)), (.int (0 : Int32))]))
  refine bk (fun t k => XS.icmpYes X0.here hx rfl (pc0 := 12) (pc' := 32) rfl (hb hby d25_12) rfl (flt (by decide : ¬ ((0 : Int32) < (0 : Int32)))).2.1 (by decide) (by decide) k) ?_
  refine bk (fun t k => XS.iconst X0.here hx rfl (hb hby d25_32) k) ?_
  rw [hF]
  refine own_retZ X0 hx Bd.notSynchronized Bd.returns (hb hby d25_33) (by decide) (by decide) ?_
  rw [e0]
  refine ⟨?_, N0, rfl⟩
  show some (Value.int (1 : Int32)) = some (Value.int (1 : Int32))
  simp [own_beq]
abbrev oM24_0 : Room := { frames := 1, cells := 0, slots := 0, locals := 14 }
def Q24_0 (Z : State) (o0 : Addr) (o1 : Addr) (r0 : Addr) (r1 : Addr) (k0 : ClassId) (k1 : ClassId) (cs : Int32) (h0 : Heap) (n0 : Nat) (v : Option Value) (h : Heap) (L : List Loc) : Prop := v = some (.int (1 : Int32)) ∧ Fr n0 L ∧ h = h0
set_option maxRecDepth 65536 in
set_option maxHeartbeats 40000000 in
theorem rm24_0 (l : Launch) (Z : State) (a0 : Array Value) (hw : ∀ d ∈ tables_1, d.before a0 Z = true) (ws : List Jvm.Cond) (o0 : Addr) (o1 : Addr) (r0 : Addr) (r1 : Addr) (k0 : ClassId) (k1 : ClassId) (cs : Int32) (h0 : Heap) (n0 : Nat) (Z0 : n0 ≤ h0.size) (E_0 : Exa Z h0 o0 "java/lang/String") (E_1 : Exa Z h0 o1 "java/lang/String") (F_0 : Fld Z h0 o0 "java/lang/String" "value" "[B" (.ref r0)) (F_1 : Fld Z h0 o1 "java/lang/String" "value" "[B" (.ref r1)) (C_0 : Fld Z h0 o0 "java/lang/String" "coder" "B" (.int (0 : Int32))) (C_1 : Fld Z h0 o1 "java/lang/String" "coder" "B" (.int (0 : Int32))) (V_0 : Arv Z h0 r0 k0 .byte (0 : Int32) [] (.int (0 : Int32))) (V_1 : Arv Z h0 r1 k1 .byte (0 : Int32) [] (.int (0 : Int32))) (S_cs : Sta Z h0 "java/lang/String" "COMPACT_STRINGS" "Z" (.int cs)) (hcs : ¬ cs = (0 : Int32)) :
    MetFree l oN5 (head1 (Jvm.Cond.code oN5 jdk_42_method_66_code 3 (some .boolean) :: ws) oM24_0) (fun a U => a = #[(.ref o0), (.ref o1)] ∧ Z.Warmed39 U.vm ∧ U.heap = h0) (fun _ _ _ _ _ => True) (fun _ U o U' => ∃ v L, o = .returned v ∧ Q24_0 Z o0 o1 r0 r1 k0 k1 cs h0 n0 v U'.heap L ∧ FrameEnd U o U' L oM24_0.cells oM24_0.slots) := by
  refine MetFree.of_bodySF (plainFor_of_name pn_24) hisR ?_
  intro p e s m args below meth c s₁ Bd hml0 hP hK
  obtain ⟨rfl, hZ, hh⟩ := hP
  have hx := Bd.exec
  have hby := Bd.bytes
  have hml : c.maxLocals = 3 := hml0
  have hown : s.vm.findClass "java/lang/String" = some m.cls := findClass_of_methodNamed Bd.named
  have hnm := (name_of_methodNamed Bd.named Bd.method).1
  have X0 : Stand p l e oM24_0 s m #[(.ref o0), (.ref o1)] below meth c s₁ [] 0 0 := Stand.of_body Bd
  have e0 : s₁.heap = h0 := by rw [← hh, Bd.state]; rfl
  have N0 := Fr.nil n0
  obtain ⟨F, hF⟩ : ∃ F : State → Prop, F = own_Fin p e below s oM24_0.cells oM24_0.slots (fun v h L => Q24_0 Z o0 o1 r0 r1 k0 k1 cs h0 n0 v h L) := ⟨_, rfl⟩
  have bk : ∀ {A B : State}, (∀ t, Steps p.tables e below B t → Steps p.tables e below A t) → F B → F A := by
    intro A B h k
    rw [hF] at k ⊢
    exact own_back h k
  suffices hgo : F (s₁.setTop (mkF m 0 #[.val (.ref o0), .val (.ref o1), .unset] [])) by
    have hgo' := bk (fun t k => castTop (T := s₁) (ef_24 m o0 o1) k) hgo
    rw [hF] at hgo'
    exact hgo'
  have w_5 := hw _ (List.mem_of_getElem? (i := 5) rfl)
  have w_8 := hw _ (List.mem_of_getElem? (i := 8) rfl)
  have w_10 := hw _ (List.mem_of_getElem? (i := 10) rfl)
  have w_23 := hw _ (List.mem_of_getElem? (i := 23) rfl)
  have w_25 := hw _ (List.mem_of_getElem? (i := 25) rfl)
  have w_180 := hw _ (List.mem_of_getElem? (i := 180) rfl)
  have w_181 := hw _ (List.mem_of_getElem? (i := 181) rfl)
  have w_182 := hw _ (List.mem_of_getElem? (i := 182) rfl)
  refine bk (fun t k => XS.aloadN X0.here hx rfl (hb hby d24_0) rfl rfl k) ?_
  refine bk (fun t k => XS.aloadN X0.here hx rfl (hb hby d24_1) rfl rfl k) ?_
  by_cases hc2_1 : o0 = o1
  · refine bk (fun t k => Jvm.RoadKit.acmp (g := (mkF m 2 #[oR o0, oR o1, .unset] [(.ref o1), (.ref o0)])) X0 hx rfl rfl rfl (pc0 := 2) (pc' := 5) (same := true) rfl (hb hby d24_2) rfl (decide_eq_true (congrArg Value.ref hc2_1)) (by decide) (by decide) k) ?_
    refine bk (fun t k => XS.iconst X0.here hx rfl (hb hby d24_5) k) ?_
    show F (s₁.setTop (mkF m 6 #[oR o0, oR o1, .unset] [(.int (1 : Int32))]))
    rw [hF]
    refine own_retZ X0 hx Bd.notSynchronized Bd.returns (hb hby d24_6) (by decide) (by decide) ?_
    rw [e0]
    exact ⟨rfl, N0, rfl⟩
  refine bk (fun t k => Jvm.RoadKit.acmp (g := (mkF m 2 #[oR o0, oR o1, .unset] [(.ref o1), (.ref o0)])) X0 hx rfl rfl rfl (pc0 := 2) (pc' := 7) (same := false) rfl (hb hby d24_2) rfl (decide_eq_false fun q => hc2_1 (Value.ref.inj q)) (by decide) (by decide) k) ?_
  refine bk (fun t k => XS.aloadN X0.here hx rfl (hb hby d24_7) rfl rfl k) ?_
  show F (s₁.setTop (mkF m 8 #[oR o0, oR o1, .unset] [(.ref o1)]))
  obtain ⟨T2, X2, e2, st2⟩ := instY X0 hx hZ hown w_10 e0 (Ins.self E_1) (g := (mkF m 8 #[oR o0, oR o1, .unset] [(.ref o1)])) rfl rfl (hb hby d24_8)
  refine bk (fun t k => st2 t k) ?_
  show F (T2.setTop (mkF m 11 #[oR o0, oR o1, .unset] [(.int (1 : Int32))]))
  refine bk (fun t k => XS.ifNo X2.here hx rfl (hb hby d24_11) rfl ((if0 _ _).trans (feq (by decide : ¬ ((1 : Int32) = (0 : Int32)))).1) k) ?_
  refine bk (fun t k => XS.aloadN X2.here hx rfl (hb hby d24_14) rfl rfl k) ?_
  obtain ⟨T3, X3, e3, st3⟩ := castY X2 hx hZ hown w_10 e2 (Ins.self E_1) (g := (mkF m 15 #[oR o0, oR o1, .unset] [(.ref o1)])) rfl rfl (hb hby d24_15)
  refine bk (fun t k => st3 t k) ?_
  show F (T3.setTop (mkF m 18 #[oR o0, oR o1, .unset] [(.ref o1)]))
  refine bk (fun t k => XS.astoreN X3.here hx rfl (hb hby d24_18) rfl rfl (l' := #[oR o0, oR o1, oR o1]) rfl k) ?_
  obtain ⟨T4, X4, e4, st4⟩ := getS2 X3 hx hZ hown (host := "") (Or.inl w_5) Via.refl e3 S_cs (g := (mkF m 19 #[oR o0, oR o1, oR o1] [])) rfl (hb hby d24_19)
  refine bk (fun t k => st4 t k) ?_
  show F (T4.setTop (mkF m 22 #[oR o0, oR o1, oR o1] [(.int cs)]))
  refine bk (fun t k => XS.ifNo X4.here hx rfl (hb hby d24_22) rfl ((if0 _ _).trans (feq hcs).1) k) ?_
  refine bk (fun t k => XS.aloadN X4.here hx rfl (hb hby d24_25) rfl rfl k) ?_
  obtain ⟨T5, X5, e5, st5⟩ := getF X4 hx hZ hown (host := "") (Or.inl w_25) Via.refl e4 C_0 (g := (mkF m 26 #[oR o0, oR o1, oR o1] [(.ref o0)])) rfl rfl (hb hby d24_26)
  refine bk (fun t k => st5 t k) ?_
  refine bk (fun t k => XS.aloadN X5.here hx rfl (hb hby d24_29) rfl rfl k) ?_
  show F (T5.setTop (mkF m 30 #[oR o0, oR o1, oR o1] [(.ref o1), (.int (0 : Int32))]))
  obtain ⟨T6, X6, e6, st6⟩ := getF X5 hx hZ hown (host := "") (Or.inl w_25) Via.refl e5 C_1 (g := (mkF m 30 #[oR o0, oR o1, oR o1] [(.ref o1), (.int (0 : Int32))])) rfl rfl (hb hby d24_30)
  refine bk (fun t k => st6 t k) ?_
  show F (T6.setTop (mkF m 33 #[oR o0, oR o1, oR o1] [(.int (0 : Int32)), (.int (0 : Int32))]))
  refine bk (fun t k => XS.icmpNo X6.here hx rfl (hb hby d24_33) rfl (teq (by decide : (0 : Int32) = (0 : Int32))).2 k) ?_
  refine bk (fun t k => XS.aloadN X6.here hx rfl (hb hby d24_36) rfl rfl k) ?_
  obtain ⟨T7, X7, e7, st7⟩ := getF X6 hx hZ hown (host := "") (Or.inl w_23) Via.refl e6 F_0 (g := (mkF m 37 #[oR o0, oR o1, oR o1] [(.ref o0)])) rfl rfl (hb hby d24_37)
  refine bk (fun t k => st7 t k) ?_
  refine bk (fun t k => XS.aloadN X7.here hx rfl (hb hby d24_40) rfl rfl k) ?_
  show F (T7.setTop (mkF m 41 #[oR o0, oR o1, oR o1] [(.ref o1), (.ref r0)]))
  obtain ⟨T8, X8, e8, st8⟩ := getF X7 hx hZ hown (host := "") (Or.inl w_23) Via.refl e7 F_1 (g := (mkF m 41 #[oR o0, oR o1, oR o1] [(.ref o1), (.ref r0)])) rfl rfl (hb hby d24_41)
  refine bk (fun t k => st8 t k) ?_
  show F (T8.setTop (mkF m 44 #[oR o0, oR o1, oR o1] [(.ref r1), (.ref r0)]))
  obtain ⟨_, _, ⟨T9, L9, k9, n9⟩, -, X9, ⟨Lc9, hQ9, l9, y9, z9⟩, st9⟩ := Jvm.LawKit.callS X8 hx (y := oN4) hown (mvT hZ w_180) (mvT hZ w_181) (mvT hZ w_8) (mvT hZ w_182) (by decide) (backOf (W := 0) (rm25_0 l Z a0 hw [] r0 r1 k0 k1  h0 n0 Z0 V_0 V_1) hZ w_182 w_8 (by decide) (by decide)) (g := (mkF m 44 #[oR o0, oR o1, oR o1] [(.ref r1), (.ref r0)])) rfl (by rw [hml]; rfl) (argsL := [(.ref r0), (.ref r1)]) (rest := []) (lenOf pd24___B_B_Z rfl) rfl (by show 2 * 0 + _ ≤ _; exact Nat.le_of_eq rfl) (hb hby d24_44) (fun _ _ => ⟨rfl, e8, (by decide : 0 + 0 ≤ _), (by decide : 0 + 0 ≤ _)⟩)
  dsimp only [Pt.U, Pt.locs, Pt.cells, Pt.slots, oM25_0] at X9 l9 y9 z9 st9 hQ9
  subst l9 y9 z9
  obtain ⟨rfl, N9q, e9⟩ := hQ9
  have N9 := Fr.app N0 N9q
  refine bk (fun t k => st9 t k) ?_
  show F (T9.setTop (mkF m 47 #[oR o0, oR o1, oR o1] [(.int (1 : Int32))]))
  refine bk (fun t k => XS.ifNo X9.here hx rfl (hb hby d24_47) rfl ((if0 _ _).trans (feq (by decide : ¬ ((1 : Int32) = (0 : Int32)))).1) k) ?_
  refine bk (fun t k => XS.iconst X9.here hx rfl (hb hby d24_50) k) ?_
  refine bk (fun t k => XS.goto X9.here hx rfl (pc0 := 51) (pc' := 55) rfl (hb hby d24_51) (by decide) (by decide) k) ?_
  show F (T9.setTop (mkF m 55 #[oR o0, oR o1, oR o1] [(.int (1 : Int32))]))
  rw [hF]
  refine own_retZ X9 hx Bd.notSynchronized Bd.returns (hb hby d24_55) (by decide) (by decide) ?_
  rw [e9]
  exact ⟨rfl, N9, rfl⟩
abbrev oN6 : MethodName := ⟨"com/example/quire/quire/readers/Element", "<init>", "()V"⟩
abbrev oM6 : Room := { frames := 1, cells := 0, slots := 0, locals := 12 }
theorem d6_0 : decode prog_45_method_1_code 0 = .ok (.aload_n 0, 1) := by decide +kernel
theorem d6_1 : decode prog_45_method_1_code 1 = .ok (.invokespecial 1, 3) := by decide +kernel
theorem d6_4 : decode prog_45_method_1_code 4 = .ok (.aload_n 0, 1) := by decide +kernel
theorem d6_5 : decode prog_45_method_1_code 5 = .ok (.getstatic 7, 3) := by decide +kernel
theorem d6_8 : decode prog_45_method_1_code 8 = .ok (.putfield 13, 3) := by decide +kernel
theorem d6_11 : decode prog_45_method_1_code 11 = .ok (.return_, 1) := by decide +kernel
theorem pn_6 : plainName "com/example/quire/quire/readers/Element" = true := by first | (simp [plainName, overriddenIn]; done) | decide +kernel
theorem ef_6 (m : MethodId) (x0 : Addr) : entryFrame m #[(.ref x0)] 1 = mkF m 0 #[.val (.ref x0)] [] := by first | (simp [entryFrame, mkF, argsToLocals, Value.category]; done) | rfl
def Q6 (Z : State) (o0 : Addr) (e_name : Value) (e_ns : Value) (e_fc : Value) (e_lc : Value) (e_nx : Value) (w_na : Addr) (h0 : Heap) (n0 : Nat) (v : Option Value) (h : Heap) (L : List Loc) : Prop := v = none ∧ Fr n0 L ∧ Keep h0 h [o0] ∧ Exa Z h o0 "com/example/quire/quire/readers/Element" ∧ Fld Z h o0 "com/example/quire/quire/readers/Element" "name" "Ljava/lang/String;" e_name ∧ Fld Z h o0 "com/example/quire/quire/readers/Element" "namespace" "Ljava/lang/String;" e_ns ∧ Fld Z h o0 "com/example/quire/quire/readers/Element" "firstChild" "Lcom/example/quire/quire/readers/Element;" e_fc ∧ Fld Z h o0 "com/example/quire/quire/readers/Element" "lastChild" "Lcom/example/quire/quire/readers/Element;" e_lc ∧ Fld Z h o0 "com/example/quire/quire/readers/Element" "nextSibling" "Lcom/example/quire/quire/readers/Element;" e_nx ∧ Fld Z h o0 "com/example/quire/quire/readers/Element" "line" "I" (.int (0 : Int32)) ∧ Fld Z h o0 "com/example/quire/quire/readers/Element" "kept" "Z" (.int (0 : Int32))
set_option maxRecDepth 65536 in
set_option maxHeartbeats 40000000 in
theorem rm6 (l : Launch) (Z : State) (a0 : Array Value) (hw : ∀ d ∈ tables_1, d.before a0 Z = true) (ws : List Jvm.Cond) (o0 : Addr) (e_name : Value) (e_ns : Value) (e_fc : Value) (e_lc : Value) (e_nx : Value) (w_na : Addr) (h0 : Heap) (n0 : Nat) (Z0 : n0 ≤ h0.size) (E_o0 : Exa Z h0 o0 "com/example/quire/quire/readers/Element") (F_name : Fld Z h0 o0 "com/example/quire/quire/readers/Element" "name" "Ljava/lang/String;" e_name) (F_namespace : Fld Z h0 o0 "com/example/quire/quire/readers/Element" "namespace" "Ljava/lang/String;" e_ns) (F_firstChild : Fld Z h0 o0 "com/example/quire/quire/readers/Element" "firstChild" "Lcom/example/quire/quire/readers/Element;" e_fc) (F_lastChild : Fld Z h0 o0 "com/example/quire/quire/readers/Element" "lastChild" "Lcom/example/quire/quire/readers/Element;" e_lc) (F_nextSibling : Fld Z h0 o0 "com/example/quire/quire/readers/Element" "nextSibling" "Lcom/example/quire/quire/readers/Element;" e_nx) (g_o0 : n0 ≤ o0) (F_at : Fld Z h0 o0 "com/example/quire/quire/readers/Element" "attributes" "[Ljava/lang/String;" .null) (F_ln : Fld Z h0 o0 "com/example/quire/quire/readers/Element" "line" "I" (.int (0 : Int32))) (F_kp : Fld Z h0 o0 "com/example/quire/quire/readers/Element" "kept" "Z" (.int (0 : Int32))) (S_na : Sta Z h0 "com/example/quire/quire/readers/Element" "NO_ATTRIBUTES" "[Ljava/lang/String;" (.ref w_na)) :
    MetFree l oN6 (head1 (Jvm.Cond.code oN6 prog_45_method_1_code 1 none :: ws) oM6) (fun a U => a = #[(.ref o0)] ∧ Z.Warmed39 U.vm ∧ U.heap = h0) (fun _ _ _ _ _ => True) (fun _ U o U' => ∃ v L, o = .returned v ∧ Q6 Z o0 e_name e_ns e_fc e_lc e_nx w_na h0 n0 v U'.heap L ∧ FrameEnd U o U' L oM6.cells oM6.slots) := by
  refine MetFree.of_bodySF (plainFor_of_name pn_6) hisR ?_
  intro p e s m args below meth c s₁ Bd hml0 hP hK
  obtain ⟨rfl, hZ, hh⟩ := hP
  have hx := Bd.exec
  have hby := Bd.bytes
  have hml : c.maxLocals = 1 := hml0
  have hown : s.vm.findClass "com/example/quire/quire/readers/Element" = some m.cls := findClass_of_methodNamed Bd.named
  have hnm := (name_of_methodNamed Bd.named Bd.method).1
  have X0 : Stand p l e oM6 s m #[(.ref o0)] below meth c s₁ [] 0 0 := Stand.of_body Bd
  have e0 : s₁.heap = h0 := by rw [← hh, Bd.state]; rfl
  have N0 := Fr.nil n0
  obtain ⟨F, hF⟩ : ∃ F : State → Prop, F = own_Fin p e below s oM6.cells oM6.slots (fun v h L => Q6 Z o0 e_name e_ns e_fc e_lc e_nx w_na h0 n0 v h L) := ⟨_, rfl⟩
  have bk : ∀ {A B : State}, (∀ t, Steps p.tables e below B t → Steps p.tables e below A t) → F B → F A := by
    intro A B h k
    rw [hF] at k ⊢
    exact own_back h k
  suffices hgo : F (s₁.setTop (mkF m 0 #[.val (.ref o0)] [])) by
    have hgo' := bk (fun t k => castTop (T := s₁) (ef_6 m o0) k) hgo
    rw [hF] at hgo'
    exact hgo'
  have w_21 := hw _ (List.mem_of_getElem? (i := 21) rfl)
  have w_22 := hw _ (List.mem_of_getElem? (i := 22) rfl)
  have w_28 := hw _ (List.mem_of_getElem? (i := 28) rfl)
  have w_33 := hw _ (List.mem_of_getElem? (i := 33) rfl)
  have w_34 := hw _ (List.mem_of_getElem? (i := 34) rfl)
  have w_36 := hw _ (List.mem_of_getElem? (i := 36) rfl)
  have w_37 := hw _ (List.mem_of_getElem? (i := 37) rfl)
  have w_47 := hw _ (List.mem_of_getElem? (i := 47) rfl)
  have w_49 := hw _ (List.mem_of_getElem? (i := 49) rfl)
  have w_51 := hw _ (List.mem_of_getElem? (i := 51) rfl)
  have w_58 := hw _ (List.mem_of_getElem? (i := 58) rfl)
  have w_155 := hw _ (List.mem_of_getElem? (i := 155) rfl)
  have w_172 := hw _ (List.mem_of_getElem? (i := 172) rfl)
  have w_174 := hw _ (List.mem_of_getElem? (i := 174) rfl)
  refine bk (fun t k => XS.aloadN X0.here hx rfl (hb hby d6_0) rfl rfl k) ?_
  obtain ⟨T1, X1, e1, st1⟩ := initO X0 hx hZ hown w_33 w_21 w_22 e0 (g := (mkF m 1 #[oR o0] [(.ref o0)])) rfl (by rw [hml]; rfl) rfl (hb hby d6_1) (by decide) (W := 0) (by show 2 * 0 + _ ≤ _; exact Nat.le_of_eq rfl) (by decide)
  refine bk (fun t k => st1 t k) ?_
  refine bk (fun t k => XS.aloadN X1.here hx rfl (hb hby d6_4) rfl rfl k) ?_
  show F (T1.setTop (mkF m 5 #[oR o0] [(.ref o0)]))
  obtain ⟨T2, X2, e2, st2⟩ := getS2 X1 hx hZ hown (host := "") (Or.inl w_34) Via.refl e1 S_na (g := (mkF m 5 #[oR o0] [(.ref o0)])) rfl (hb hby d6_5)
  refine bk (fun t k => st2 t k) ?_
  show F (T2.setTop (mkF m 8 #[oR o0] [(.ref w_na), (.ref o0)]))
  obtain ⟨T3, h3, X3, e3, W3, st3⟩ := putF X2 hx hZ hown (host := "") (Or.inl w_36) Via.refl e2 F_at E_o0 (Or.inl w_37) w_28 (ty := (.array (.object "java/lang/String"))) (by decide) rfl rfl (g := (mkF m 8 #[oR o0] [(.ref w_na), (.ref o0)])) rfl rfl (hb hby d6_8)
  have f4 := E_o0.wr W3
  have f5 := Nat.le_trans Z0 (Keep.of_wr W3).1
  have f6 := (Keep.refl h0 [o0]).wr W3 (Or.inl (List.mem_of_getElem? (i := 0) rfl))
  have f7 := F_name.other W3 (Or.inr (slot_ne (Or.inl w_49) (Or.inl w_37) (by decide) (t := (.object "java/lang/String")) (t' := (.array (.object "java/lang/String"))) (by decide) (by decide)))
  have f8 := F_namespace.other W3 (Or.inr (slot_ne (Or.inl w_47) (Or.inl w_37) (by decide) (t := (.object "java/lang/String")) (t' := (.array (.object "java/lang/String"))) (by decide) (by decide)))
  have f9 := F_firstChild.other W3 (Or.inr (slot_ne (Or.inl w_155) (Or.inl w_37) (by decide) (t := (.object "com/example/quire/quire/readers/Element")) (t' := (.array (.object "java/lang/String"))) (by decide) (by decide)))
  have f10 := F_lastChild.other W3 (Or.inr (slot_ne (Or.inl w_172) (Or.inl w_37) (by decide) (t := (.object "com/example/quire/quire/readers/Element")) (t' := (.array (.object "java/lang/String"))) (by decide) (by decide)))
  have f11 := F_nextSibling.other W3 (Or.inr (slot_ne (Or.inl w_174) (Or.inl w_37) (by decide) (t := (.object "com/example/quire/quire/readers/Element")) (t' := (.array (.object "java/lang/String"))) (by decide) (by decide)))
  have f12 := F_at.same W3
  have f13 := F_ln.other W3 (Or.inr (slot_ne (Or.inl w_51) (Or.inl w_37) (by decide) (t := .int) (t' := (.array (.object "java/lang/String"))) (by decide) (by decide)))
  have f14 := F_kp.other W3 (Or.inr (slot_ne (Or.inl w_58) (Or.inl w_37) (by decide) (t := .boolean) (t' := (.array (.object "java/lang/String"))) (by decide) (by decide)))
  have f15 := S_na.wr W3
  have N3 := Fr.snoc X3 N0 g_o0
  refine bk (fun t k => st3 t k) ?_
  show F (T3.setTop (mkF m 11 #[oR o0] []))
  rw [hF]
  refine own_ret0 X3 hx Bd.notSynchronized Bd.returns (hb hby d6_11) (by decide) (by decide) ?_
  rw [e3]
  exact ⟨rfl, N3, f6, f4, f7, f8, f9, f10, f11, f13, f14⟩
abbrev oN7 : MethodName := ⟨"com/example/quire/quire/readers/Element", "keep", "()V"⟩
abbrev oM8 : Room := { frames := 0, cells := 0, slots := 0, locals := 0 }
theorem d8_0 : decode prog_45_method_12_code 0 = .ok (.aload_n 0, 1) := by decide +kernel
theorem d8_1 : decode prog_45_method_12_code 1 = .ok (.iconst 1, 1) := by decide +kernel
theorem d8_2 : decode prog_45_method_12_code 2 = .ok (.putfield 52, 3) := by decide +kernel
theorem d8_5 : decode prog_45_method_12_code 5 = .ok (.return_, 1) := by decide +kernel
theorem pn_8 : plainName "com/example/quire/quire/readers/Element" = true := by first | (simp [plainName, overriddenIn]; done) | decide +kernel
theorem ef_8 (m : MethodId) (x0 : Addr) : entryFrame m #[(.ref x0)] 1 = mkF m 0 #[.val (.ref x0)] [] := by first | (simp [entryFrame, mkF, argsToLocals, Value.category]; done) | rfl
def Q8 (Z : State) (o0 : Addr) (e_name : Value) (e_ns : Value) (e_fc : Value) (e_lc : Value) (e_nx : Value) (h0 : Heap) (n0 : Nat) (v : Option Value) (h : Heap) (L : List Loc) : Prop := v = none ∧ Fr n0 L ∧ Keep h0 h [o0] ∧ Exa Z h o0 "com/example/quire/quire/readers/Element" ∧ Fld Z h o0 "com/example/quire/quire/readers/Element" "name" "Ljava/lang/String;" e_name ∧ Fld Z h o0 "com/example/quire/quire/readers/Element" "namespace" "Ljava/lang/String;" e_ns ∧ Fld Z h o0 "com/example/quire/quire/readers/Element" "firstChild" "Lcom/example/quire/quire/readers/Element;" e_fc ∧ Fld Z h o0 "com/example/quire/quire/readers/Element" "lastChild" "Lcom/example/quire/quire/readers/Element;" e_lc ∧ Fld Z h o0 "com/example/quire/quire/readers/Element" "nextSibling" "Lcom/example/quire/quire/readers/Element;" e_nx
set_option maxRecDepth 65536 in
set_option maxHeartbeats 40000000 in
theorem rm8 (l : Launch) (Z : State) (a0 : Array Value) (hw : ∀ d ∈ tables_1, d.before a0 Z = true) (ws : List Jvm.Cond) (o0 : Addr) (e_name : Value) (e_ns : Value) (e_fc : Value) (e_lc : Value) (e_nx : Value) (h0 : Heap) (n0 : Nat) (Z0 : n0 ≤ h0.size) (E_o0 : Exa Z h0 o0 "com/example/quire/quire/readers/Element") (F_name : Fld Z h0 o0 "com/example/quire/quire/readers/Element" "name" "Ljava/lang/String;" e_name) (F_namespace : Fld Z h0 o0 "com/example/quire/quire/readers/Element" "namespace" "Ljava/lang/String;" e_ns) (F_firstChild : Fld Z h0 o0 "com/example/quire/quire/readers/Element" "firstChild" "Lcom/example/quire/quire/readers/Element;" e_fc) (F_lastChild : Fld Z h0 o0 "com/example/quire/quire/readers/Element" "lastChild" "Lcom/example/quire/quire/readers/Element;" e_lc) (F_nextSibling : Fld Z h0 o0 "com/example/quire/quire/readers/Element" "nextSibling" "Lcom/example/quire/quire/readers/Element;" e_nx) (g_o0 : n0 ≤ o0) (F_kp : Fld Z h0 o0 "com/example/quire/quire/readers/Element" "kept" "Z" (.int (0 : Int32))) :
    MetFree l oN7 (head1 (Jvm.Cond.code oN7 prog_45_method_12_code 1 none :: ws) oM8) (fun a U => a = #[(.ref o0)] ∧ Z.Warmed39 U.vm ∧ U.heap = h0) (fun _ _ _ _ _ => True) (fun _ U o U' => ∃ v L, o = .returned v ∧ Q8 Z o0 e_name e_ns e_fc e_lc e_nx h0 n0 v U'.heap L ∧ FrameEnd U o U' L oM8.cells oM8.slots) := by
  refine MetFree.of_bodySF (plainFor_of_name pn_8) hisR ?_
  intro p e s m args below meth c s₁ Bd hml0 hP hK
  obtain ⟨rfl, hZ, hh⟩ := hP
  have hx := Bd.exec
  have hby := Bd.bytes
  have hml : c.maxLocals = 1 := hml0
  have hown : s.vm.findClass "com/example/quire/quire/readers/Element" = some m.cls := findClass_of_methodNamed Bd.named
  have hnm := (name_of_methodNamed Bd.named Bd.method).1
  have X0 : Stand p l e oM8 s m #[(.ref o0)] below meth c s₁ [] 0 0 := Stand.of_body Bd
  have e0 : s₁.heap = h0 := by rw [← hh, Bd.state]; rfl
  have N0 := Fr.nil n0
  obtain ⟨F, hF⟩ : ∃ F : State → Prop, F = own_Fin p e below s oM8.cells oM8.slots (fun v h L => Q8 Z o0 e_name e_ns e_fc e_lc e_nx h0 n0 v h L) := ⟨_, rfl⟩
  have bk : ∀ {A B : State}, (∀ t, Steps p.tables e below B t → Steps p.tables e below A t) → F B → F A := by
    intro A B h k
    rw [hF] at k ⊢
    exact own_back h k
  suffices hgo : F (s₁.setTop (mkF m 0 #[.val (.ref o0)] [])) by
    have hgo' := bk (fun t k => castTop (T := s₁) (ef_8 m o0) k) hgo
    rw [hF] at hgo'
    exact hgo'
  refine bk (fun t k => XS.aloadN X0.here hx rfl (hb hby d8_0) rfl rfl k) ?_
  refine bk (fun t k => XS.iconst X0.here hx rfl (hb hby d8_1) k) ?_
  obtain ⟨T1, h1, X1, e1, W1, st1⟩ := putFN X0 hx hZ hown (hw _ (List.mem_of_getElem? (i := 57) rfl)) Via.refl e0 F_kp E_o0 (Or.inl (hw _ (List.mem_of_getElem? (i := 58) rfl))) (hw _ (List.mem_of_getElem? (i := 28) rfl)) (ty := .boolean) (v' := .int (1 : Int32)) (by decide) rfl (by decide) (g := (mkF m 2 #[oR o0] [(.int (1 : Int32)), (.ref o0)])) rfl rfl (hb hby d8_2)
  have f2 := E_o0.wr W1
  have f3 := Nat.le_trans Z0 (Keep.of_wr W1).1
  have f4 := (Keep.refl h0 [o0]).wr W1 (Or.inl (List.mem_of_getElem? (i := 0) rfl))
  have f5 := F_name.other W1 (Or.inr (slot_ne (Or.inl (hw _ (List.mem_of_getElem? (i := 49) rfl))) (Or.inl (hw _ (List.mem_of_getElem? (i := 58) rfl))) (by decide) (t := (.object "java/lang/String")) (t' := .boolean) (by decide) (by decide)))
  have f6 := F_namespace.other W1 (Or.inr (slot_ne (Or.inl (hw _ (List.mem_of_getElem? (i := 47) rfl))) (Or.inl (hw _ (List.mem_of_getElem? (i := 58) rfl))) (by decide) (t := (.object "java/lang/String")) (t' := .boolean) (by decide) (by decide)))
  have f7 := F_firstChild.other W1 (Or.inr (slot_ne (Or.inl (hw _ (List.mem_of_getElem? (i := 155) rfl))) (Or.inl (hw _ (List.mem_of_getElem? (i := 58) rfl))) (by decide) (t := (.object "com/example/quire/quire/readers/Element")) (t' := .boolean) (by decide) (by decide)))
  have f8 := F_lastChild.other W1 (Or.inr (slot_ne (Or.inl (hw _ (List.mem_of_getElem? (i := 172) rfl))) (Or.inl (hw _ (List.mem_of_getElem? (i := 58) rfl))) (by decide) (t := (.object "com/example/quire/quire/readers/Element")) (t' := .boolean) (by decide) (by decide)))
  have f9 := F_nextSibling.other W1 (Or.inr (slot_ne (Or.inl (hw _ (List.mem_of_getElem? (i := 174) rfl))) (Or.inl (hw _ (List.mem_of_getElem? (i := 58) rfl))) (by decide) (t := (.object "com/example/quire/quire/readers/Element")) (t' := .boolean) (by decide) (by decide)))
  have f10 := F_kp.same W1
  have N1 := Fr.snoc X1 N0 g_o0
  refine bk (fun t k => st1 t k) ?_
  show F (T1.setTop (mkF m 5 #[oR o0] []))
  rw [hF]
  refine own_ret0 X1 hx Bd.notSynchronized Bd.returns (hb hby d8_5) (by decide) (by decide) ?_
  rw [e1]
  exact ⟨rfl, N1, f4, f2, f5, f6, f7, f8, f9⟩
abbrev oN8 : MethodName := ⟨"com/example/quire/quire/readers/Element", "holdingNothing", "(Ljava/lang/String;I)Lcom/example/quire/quire/readers/Element;"⟩
abbrev oM7 : Room := { frames := 2, cells := 3, slots := 16, locals := 25 }
theorem d7_0 : decode prog_45_method_3_code 0 = .ok (.new 8, 3) := by decide +kernel
theorem d7_3 : decode prog_45_method_3_code 3 = .ok (.dup, 1) := by decide +kernel
theorem d7_4 : decode prog_45_method_3_code 4 = .ok (.invokespecial 78, 3) := by decide +kernel
theorem d7_7 : decode prog_45_method_3_code 7 = .ok (.astore_n 2, 1) := by decide +kernel
theorem d7_8 : decode prog_45_method_3_code 8 = .ok (.aload_n 2, 1) := by decide +kernel
theorem d7_9 : decode prog_45_method_3_code 9 = .ok (.ldc 79, 2) := by decide +kernel
theorem d7_11 : decode prog_45_method_3_code 11 = .ok (.putfield 20, 3) := by decide +kernel
theorem d7_14 : decode prog_45_method_3_code 14 = .ok (.aload_n 2, 1) := by decide +kernel
theorem d7_15 : decode prog_45_method_3_code 15 = .ok (.aload_n 0, 1) := by decide +kernel
theorem d7_16 : decode prog_45_method_3_code 16 = .ok (.putfield 24, 3) := by decide +kernel
theorem d7_19 : decode prog_45_method_3_code 19 = .ok (.aload_n 2, 1) := by decide +kernel
theorem d7_20 : decode prog_45_method_3_code 20 = .ok (.iload_n 1, 1) := by decide +kernel
theorem d7_21 : decode prog_45_method_3_code 21 = .ok (.putfield 27, 3) := by decide +kernel
theorem d7_24 : decode prog_45_method_3_code 24 = .ok (.aload_n 2, 1) := by decide +kernel
theorem d7_25 : decode prog_45_method_3_code 25 = .ok (.invokevirtual 81, 3) := by decide +kernel
theorem d7_28 : decode prog_45_method_3_code 28 = .ok (.aload_n 2, 1) := by decide +kernel
theorem d7_29 : decode prog_45_method_3_code 29 = .ok (.areturn, 1) := by decide +kernel
theorem pd7___V : parseMethodDescriptor "()V" = some ⟨[], none⟩ := by decide +kernel
theorem pn_7 : plainName "com/example/quire/quire/readers/Element" = true := by first | (simp [plainName, overriddenIn]; done) | decide +kernel
theorem ef_7 (m : MethodId) (x0 : Addr) (x1 : Int32) : entryFrame m #[(.ref x0), (.int x1)] 3 = mkF m 0 #[.val (.ref x0), .val (.int x1), .unset] [] := by first | (simp [entryFrame, mkF, argsToLocals, Value.category]; done) | rfl
def Q7 (Z : State) (o0 : Addr) (p1 : Int32) (w_na : Addr) (x : Int32) (h0 : Heap) (n0 : Nat) (v : Option Value) (h : Heap) (L : List Loc) : Prop := ∃ r : Addr, v = some (.ref r) ∧ Fr n0 L ∧ Keep h0 h [] ∧ own_Ch Z h r o0 x ∧ Fld Z h r "com/example/quire/quire/readers/Element" "nextSibling" "Lcom/example/quire/quire/readers/Element;" .null ∧ h0.size ≤ r
set_option maxRecDepth 65536 in
set_option maxHeartbeats 40000000 in
theorem rm7 (l : Launch) (Z : State) (a0 : Array Value) (hw : ∀ d ∈ tables_1, d.before a0 Z = true) (ws : List Jvm.Cond) (o0 : Addr) (p1 : Int32) (w_na : Addr) (x : Int32) (h0 : Heap) (n0 : Nat) (Z0 : n0 ≤ h0.size) (S_na : Sta Z h0 "com/example/quire/quire/readers/Element" "NO_ATTRIBUTES" "[Ljava/lang/String;" (.ref w_na)) (hSt : own_St Z h0 o0 (1 : Int32) [(.int x)]) (own_EW : EW Z a0 consts_1) :
    MetFree l oN8 (head1 (Jvm.Cond.code oN8 prog_45_method_3_code 3 (some (.object "com/example/quire/quire/readers/Element")) :: ws) oM7) (fun a U => a = #[(.ref o0), (.int p1)] ∧ Z.Warmed39 U.vm ∧ U.heap = h0 ∧ CHv Z consts_1 U.vm h0) (fun _ _ _ _ _ => True) (fun _ U o U' => ∃ v L, o = .returned v ∧ Q7 Z o0 p1 w_na x h0 n0 v U'.heap L ∧ CHr Z consts_1 U.vm U.heap U'.vm U'.heap ∧ ReturnedEndW U o U' L oM7.cells oM7.slots) := by
  refine MetFree.of_bodySF (plainFor_of_name pn_7) hisR ?_
  intro p e s m args below meth c s₁ Bd hml0 hP hK
  obtain ⟨rfl, hZ, hh, hC0⟩ := hP
  have hx := Bd.exec
  have hby := Bd.bytes
  have hml : c.maxLocals = 3 := hml0
  have hown : s.vm.findClass "com/example/quire/quire/readers/Element" = some m.cls := findClass_of_methodNamed Bd.named
  have hnm := (name_of_methodNamed Bd.named Bd.method).1
  have X0 : Stand p l e oM7 (s.setVm s.vm) m #[(.ref o0), (.int p1)] below meth c s₁ [] 0 0 := Stand.of_body Bd
  have e0 : s₁.heap = h0 := by rw [← hh, Bd.state]; rfl
  have N0 := Fr.nil n0
  have hS0 : s.Since s.vm 0 := (State.WarmedH.refl s).since 0
  have hZ : Z.Warmed39 (s.setVm s.vm).vm := hZ
  have hown : (s.setVm s.vm).vm.findClass "com/example/quire/quire/readers/Element" = some m.cls := hown
  have hCr : CHr Z consts_1 s.vm h0 s.vm h0 := CHr.refl hC0
  obtain ⟨F, hF⟩ : ∃ F : State → Prop, F = own_FinH Z consts_1 p e below s oM7.cells oM7.slots (fun v h L => Q7 Z o0 p1 w_na x h0 n0 v h L) := ⟨_, rfl⟩
  have bk : ∀ {A B : State}, (∀ t, Steps p.tables e below B t → Steps p.tables e below A t) → F B → F A := by
    intro A B h k
    rw [hF] at k ⊢
    exact own_backH h k
  suffices hgo : F (s₁.setTop (mkF m 0 #[.val (.ref o0), .val (.int p1), .unset] [])) by
    have hgo' := bk (fun t k => castTop (T := s₁) (ef_7 m o0 p1) k) hgo
    rw [hF] at hgo'
    exact hgo'
  have own_wS : ∀ a ∈ Bundle.stringAtoms, a.before a0 Z = true := by
    intro a ha
    simp only [Bundle.stringAtoms, List.mem_cons, List.not_mem_nil, or_false] at ha
    rcases ha with rfl | rfl | rfl | rfl | rfl | rfl | rfl
    · exact (hw _ (List.mem_of_getElem? (i := 3) rfl))
    · exact (hw _ (List.mem_of_getElem? (i := 11) rfl))
    · exact (hw _ (List.mem_of_getElem? (i := 15) rfl))
    · exact (hw _ (List.mem_of_getElem? (i := 24) rfl))
    · exact (hw _ (List.mem_of_getElem? (i := 26) rfl))
    · exact (hw _ (List.mem_of_getElem? (i := 44) rfl))
    · exact (hw _ (List.mem_of_getElem? (i := 45) rfl))
  have w_28 := hw _ (List.mem_of_getElem? (i := 28) rfl)
  have w_29 := hw _ (List.mem_of_getElem? (i := 29) rfl)
  have w_31 := hw _ (List.mem_of_getElem? (i := 31) rfl)
  have w_32 := hw _ (List.mem_of_getElem? (i := 32) rfl)
  have w_37 := hw _ (List.mem_of_getElem? (i := 37) rfl)
  have w_41 := hw _ (List.mem_of_getElem? (i := 41) rfl)
  have w_42 := hw _ (List.mem_of_getElem? (i := 42) rfl)
  have w_43 := hw _ (List.mem_of_getElem? (i := 43) rfl)
  have w_46 := hw _ (List.mem_of_getElem? (i := 46) rfl)
  have w_47 := hw _ (List.mem_of_getElem? (i := 47) rfl)
  have w_48 := hw _ (List.mem_of_getElem? (i := 48) rfl)
  have w_49 := hw _ (List.mem_of_getElem? (i := 49) rfl)
  have w_50 := hw _ (List.mem_of_getElem? (i := 50) rfl)
  have w_51 := hw _ (List.mem_of_getElem? (i := 51) rfl)
  have w_52 := hw _ (List.mem_of_getElem? (i := 52) rfl)
  have w_53 := hw _ (List.mem_of_getElem? (i := 53) rfl)
  have w_54 := hw _ (List.mem_of_getElem? (i := 54) rfl)
  have w_55 := hw _ (List.mem_of_getElem? (i := 55) rfl)
  have w_56 := hw _ (List.mem_of_getElem? (i := 56) rfl)
  have w_58 := hw _ (List.mem_of_getElem? (i := 58) rfl)
  have w_155 := hw _ (List.mem_of_getElem? (i := 155) rfl)
  have w_172 := hw _ (List.mem_of_getElem? (i := 172) rfl)
  have w_174 := hw _ (List.mem_of_getElem? (i := 174) rfl)
  obtain ⟨T1, h1, X1, e1, E1, A1, D1, -, st1⟩ := newO X0 hx hZ hown w_41 w_28 w_29 e0 (g := (mkF m 0 #[oR o0, .val (.int p1), .unset] [])) rfl (hb hby d7_0) (by decide) (by decide)
  obtain ⟨b1, g1⟩ : ∃ z, z = h0.size := ⟨_, rfl⟩
  rw [← g1] at A1 D1 st1
  have Gb1 : n0 ≤ b1 := Nat.le_trans Z0 (Nat.le_of_eq g1.symm)
  have sz_b1 : h0.size ≤ b1 := Nat.le_trans (Keep.refl h0 []).1 (Nat.le_of_eq g1.symm)
  have f2 := hCr.trans (CHr.ext E1 hCr.1)
  have f3 := Nat.le_trans (Nat.zero_le _) E1.1
  have f4 := Nat.le_trans Z0 E1.1
  have f5 := (Keep.refl h0 []).ext E1
  have f6 := S_na.ext E1
  have f7 := hSt.ext E1
  have F_attributes_b1 : Fld Z h1 b1 "com/example/quire/quire/readers/Element" "attributes" "[Ljava/lang/String;" .null := D1 (Or.inl w_37) (ty := (.array (.object "java/lang/String"))) (by decide)
  have F_namespace_b1 : Fld Z h1 b1 "com/example/quire/quire/readers/Element" "namespace" "Ljava/lang/String;" .null := D1 (Or.inl w_47) (ty := (.object "java/lang/String")) (by decide)
  have F_name_b1 : Fld Z h1 b1 "com/example/quire/quire/readers/Element" "name" "Ljava/lang/String;" .null := D1 (Or.inl w_49) (ty := (.object "java/lang/String")) (by decide)
  have F_line_b1 : Fld Z h1 b1 "com/example/quire/quire/readers/Element" "line" "I" (.int (0 : Int32)) := D1 (Or.inl w_51) (ty := .int) (by decide)
  have F_kept_b1 : Fld Z h1 b1 "com/example/quire/quire/readers/Element" "kept" "Z" (.int (0 : Int32)) := D1 (Or.inl w_58) (ty := .boolean) (by decide)
  have F_firstChild_b1 : Fld Z h1 b1 "com/example/quire/quire/readers/Element" "firstChild" "Lcom/example/quire/quire/readers/Element;" .null := D1 (Or.inl w_155) (ty := (.object "com/example/quire/quire/readers/Element")) (by decide)
  have F_lastChild_b1 : Fld Z h1 b1 "com/example/quire/quire/readers/Element" "lastChild" "Lcom/example/quire/quire/readers/Element;" .null := D1 (Or.inl w_172) (ty := (.object "com/example/quire/quire/readers/Element")) (by decide)
  have F_nextSibling_b1 : Fld Z h1 b1 "com/example/quire/quire/readers/Element" "nextSibling" "Lcom/example/quire/quire/readers/Element;" .null := D1 (Or.inl w_174) (ty := (.object "com/example/quire/quire/readers/Element")) (by decide)
  refine bk (fun t k => st1 t k) ?_
  refine bk (fun t k => XS.dup X1.here hx rfl (hb hby d7_3) rfl rfl k) ?_
  show F (T1.setTop (mkF m 4 #[oR o0, .val (.int p1), .unset] [(.ref b1), (.ref b1)]))
  obtain ⟨_, _, ⟨T8, L8, k8, n8⟩, -, X8, ⟨Lc8, hQ8, l8, y8, z8⟩, st8⟩ := X1.specialBack hx (y := oN6) rfl hown (mvT hZ w_42) (mvT hZ w_31) (mvT hZ w_32) (by decide) (backOf (W := 1) (rm6 l Z a0 hw [] b1 .null .null .null .null .null w_na h1 n0 f4 A1 F_name_b1 F_namespace_b1 F_firstChild_b1 F_lastChild_b1 F_nextSibling_b1 Gb1 F_attributes_b1 F_line_b1 F_kept_b1 f6) hZ w_32 w_29 (by decide) (by decide)) (g := (mkF m 4 #[oR o0, .val (.int p1), .unset] [(.ref b1), (.ref b1)])) rfl (by rw [hml]; rfl) (Steps.refl _) (a := b1) (argsL := []) (rest := [(.ref b1)]) (lenOf pd7___V rfl) rfl (by show 2 * 0 + _ ≤ _; exact Nat.le_of_eq rfl) (hb hby d7_4) (fun _ _ => ⟨rfl, e1, (by decide : 1 + 0 ≤ _), (by decide : 12 + 0 ≤ _)⟩)
  dsimp only [Pt.U, Pt.locs, Pt.cells, Pt.slots, oM6] at X8 l8 y8 z8 st8 hQ8
  subst l8 y8 z8
  obtain ⟨rfl, N8q, K8, gE8, gname8, gnamespace8, gfirstChild8, glastChild8, gnextSibling8, gln8, gkp8⟩ := hQ8
  have N8 := Fr.app N0 N8q
  have f9 := f2.trans (CHr.keep K8 (allS (Safe.exa hZ.alike A1 (by decide) (by decide)) all0) f2.1)
  have f10 := Nat.le_trans f3 K8.1
  have f11 := Nat.le_trans f4 K8.1
  have f12 := f5.trans K8 (allS (Or.inr sz_b1) all0)
  have f13 := own_sta1 f6 K8 A1
  have f14 := f7.keep K8 (allS (own_nsE A1 (by decide) w_28) all0)
  have f15 := A1.keep K8
  refine bk (fun t k => st8.trans k) ?_
  show F (T8.setTop (mkF m 7 #[oR o0, .val (.int p1), .unset] [(.ref b1)]))
  refine bk (fun t k => XS.astoreN X8.here hx rfl (hb hby d7_7) rfl rfl (l' := #[oR o0, .val (.int p1), oR b1]) rfl k) ?_
  refine bk (fun t k => XS.aloadN X8.here hx rfl (hb hby d7_8) rfl rfl k) ?_
  obtain ⟨b16, T16, h16, k116, d16, kk16, X16, e16, E16, hS16, hk16, hZ16, hown16, A16, C16, V16, R16, -, -, CR16, LT16, sf16, st16⟩ := ldcCH X8 hx hZ hown w_43 own_wS rfl hS0 f10 own_EW (by simp [consts_1]) f9.1 (vs := []) (z := (0 : Int32)) ⟨by decide, rfl⟩ (by decide) (by decide) (g := (mkF m 9 #[oR o0, .val (.int p1), oR b1] [(.ref b1)])) rfl (hb hby d7_9) (n := 0) (by decide) (by decide) (by decide) (by decide)
  have f17 := f9.trans CR16
  have f18 := hk16
  have f19 := Nat.le_trans f11 E16.1
  have f20 := f12.ext E16
  have f21 := f13.ext E16
  have f22 := f14.ext E16
  have f23 := gE8.ext E16
  have f24 := gname8.ext E16
  have f25 := gnamespace8.ext E16
  have f26 := gfirstChild8.ext E16
  have f27 := glastChild8.ext E16
  have f28 := gnextSibling8.ext E16
  have f29 := gln8.ext E16
  have f30 := gkp8.ext E16
  refine bk (fun t k => st16 t k) ?_
  show F (T16.setTop (mkF m 11 #[oR o0, .val (.int p1), oR b1] [(.ref b16), (.ref b1)]))
  obtain ⟨T31, h31, X31, e31, W31, st31⟩ := putF X16 hx hZ16 hown16 (host := "") (Or.inl w_46) Via.refl e16 f25 f23 (Or.inl w_47) w_28 (ty := (.object "java/lang/String")) (by decide) rfl rfl (g := (mkF m 11 #[oR o0, .val (.int p1), oR b1] [(.ref b16), (.ref b1)])) rfl rfl (hb hby d7_11)
  have f32 := f17.trans (CHr.wr W31 (Safe.exa hZ16.alike f23 (by decide) (by decide)) f17.1)
  have f33 := Nat.le_trans f18 (Keep.of_wr W31).1
  have f34 := Nat.le_trans f19 (Keep.of_wr W31).1
  have f35 := f20.wr W31 (Or.inr sz_b1)
  have f36 := f21.wr W31
  have f37 := f22.keep (Keep.of_wr W31) (allS (own_nsE f23 (by decide) w_28) all0)
  have f38 := f23.wr W31
  have f39 := f24.other W31 (Or.inr (slot_ne (Or.inl w_49) (Or.inl w_47) (by decide) (t := (.object "java/lang/String")) (t' := (.object "java/lang/String")) (by decide) (by decide)))
  have f40 := f25.same W31
  have f41 := f26.other W31 (Or.inr (slot_ne (Or.inl w_155) (Or.inl w_47) (by decide) (t := (.object "com/example/quire/quire/readers/Element")) (t' := (.object "java/lang/String")) (by decide) (by decide)))
  have f42 := f27.other W31 (Or.inr (slot_ne (Or.inl w_172) (Or.inl w_47) (by decide) (t := (.object "com/example/quire/quire/readers/Element")) (t' := (.object "java/lang/String")) (by decide) (by decide)))
  have f43 := f28.other W31 (Or.inr (slot_ne (Or.inl w_174) (Or.inl w_47) (by decide) (t := (.object "com/example/quire/quire/readers/Element")) (t' := (.object "java/lang/String")) (by decide) (by decide)))
  have f44 := f29.other W31 (Or.inr (slot_ne (Or.inl w_51) (Or.inl w_47) (by decide) (t := .int) (t' := (.object "java/lang/String")) (by decide) (by decide)))
  have f45 := f30.other W31 (Or.inr (slot_ne (Or.inl w_58) (Or.inl w_47) (by decide) (t := .boolean) (t' := (.object "java/lang/String")) (by decide) (by decide)))
  have f46 := A16.wr W31
  have f47 := V16.other W31 (Or.inl (Exa.ne A16 f23 (by decide)))
  have f48 := C16.other W31 (Or.inl (Exa.ne A16 f23 (by decide)))
  have f49 := R16.other W31 (Ne.symm (Exa.neArv f23 R16 w_28))
  have N31 := Fr.snoc X31 N8 Gb1
  refine bk (fun t k => st31 t k) ?_
  refine bk (fun t k => XS.aloadN X31.here hx rfl (hb hby d7_14) rfl rfl k) ?_
  refine bk (fun t k => XS.aloadN X31.here hx rfl (hb hby d7_15) rfl rfl k) ?_
  show F (T31.setTop (mkF m 16 #[oR o0, .val (.int p1), oR b1] [(.ref o0), (.ref b1)]))
  obtain ⟨T50, h50, X50, e50, W50, st50⟩ := putF X31 hx hZ16 hown16 (host := "") (Or.inl w_48) Via.refl e31 f39 f38 (Or.inl w_49) w_28 (ty := (.object "java/lang/String")) (by decide) rfl rfl (g := (mkF m 16 #[oR o0, .val (.int p1), oR b1] [(.ref o0), (.ref b1)])) rfl rfl (hb hby d7_16)
  have f51 := f32.trans (CHr.wr W50 (Safe.exa hZ16.alike f38 (by decide) (by decide)) f32.1)
  have f52 := Nat.le_trans f33 (Keep.of_wr W50).1
  have f53 := Nat.le_trans f34 (Keep.of_wr W50).1
  have f54 := f35.wr W50 (Or.inr sz_b1)
  have f55 := f36.wr W50
  have f56 := f37.keep (Keep.of_wr W50) (allS (own_nsE f38 (by decide) w_28) all0)
  have f57 := f38.wr W50
  have f58 := f39.same W50
  have f59 := f40.other W50 (Or.inr (slot_ne (Or.inl w_47) (Or.inl w_49) (by decide) (t := (.object "java/lang/String")) (t' := (.object "java/lang/String")) (by decide) (by decide)))
  have f60 := f41.other W50 (Or.inr (slot_ne (Or.inl w_155) (Or.inl w_49) (by decide) (t := (.object "com/example/quire/quire/readers/Element")) (t' := (.object "java/lang/String")) (by decide) (by decide)))
  have f61 := f42.other W50 (Or.inr (slot_ne (Or.inl w_172) (Or.inl w_49) (by decide) (t := (.object "com/example/quire/quire/readers/Element")) (t' := (.object "java/lang/String")) (by decide) (by decide)))
  have f62 := f43.other W50 (Or.inr (slot_ne (Or.inl w_174) (Or.inl w_49) (by decide) (t := (.object "com/example/quire/quire/readers/Element")) (t' := (.object "java/lang/String")) (by decide) (by decide)))
  have f63 := f44.other W50 (Or.inr (slot_ne (Or.inl w_51) (Or.inl w_49) (by decide) (t := .int) (t' := (.object "java/lang/String")) (by decide) (by decide)))
  have f64 := f45.other W50 (Or.inr (slot_ne (Or.inl w_58) (Or.inl w_49) (by decide) (t := .boolean) (t' := (.object "java/lang/String")) (by decide) (by decide)))
  have f65 := f46.wr W50
  have f66 := f47.other W50 (Or.inl (Exa.ne f46 f38 (by decide)))
  have f67 := f48.other W50 (Or.inl (Exa.ne f46 f38 (by decide)))
  have f68 := f49.other W50 (Ne.symm (Exa.neArv f38 f49 w_28))
  have N50 := Fr.snoc X50 N31 Gb1
  refine bk (fun t k => st50 t k) ?_
  refine bk (fun t k => XS.aloadN X50.here hx rfl (hb hby d7_19) rfl rfl k) ?_
  refine bk (fun t k => XS.iloadN X50.here hx rfl (hb hby d7_20) rfl k) ?_
  show F (T50.setTop (mkF m 21 #[oR o0, .val (.int p1), oR b1] [(.int p1), (.ref b1)]))
  obtain ⟨T69, h69, X69, e69, W69, st69⟩ := putF X50 hx hZ16 hown16 (host := "") (Or.inl w_50) Via.refl e50 f63 f57 (Or.inl w_51) w_28 (ty := .int) (by decide) rfl rfl (g := (mkF m 21 #[oR o0, .val (.int p1), oR b1] [(.int p1), (.ref b1)])) rfl rfl (hb hby d7_21)
  have f70 := f51.trans (CHr.wr W69 (Safe.exa hZ16.alike f57 (by decide) (by decide)) f51.1)
  have f71 := Nat.le_trans f52 (Keep.of_wr W69).1
  have f72 := Nat.le_trans f53 (Keep.of_wr W69).1
  have f73 := f54.wr W69 (Or.inr sz_b1)
  have f74 := f55.wr W69
  have f75 := f56.keep (Keep.of_wr W69) (allS (own_nsE f57 (by decide) w_28) all0)
  have f76 := f57.wr W69
  have f77 := f58.other W69 (Or.inr (slot_ne (Or.inl w_49) (Or.inl w_51) (by decide) (t := (.object "java/lang/String")) (t' := .int) (by decide) (by decide)))
  have f78 := f59.other W69 (Or.inr (slot_ne (Or.inl w_47) (Or.inl w_51) (by decide) (t := (.object "java/lang/String")) (t' := .int) (by decide) (by decide)))
  have f79 := f60.other W69 (Or.inr (slot_ne (Or.inl w_155) (Or.inl w_51) (by decide) (t := (.object "com/example/quire/quire/readers/Element")) (t' := .int) (by decide) (by decide)))
  have f80 := f61.other W69 (Or.inr (slot_ne (Or.inl w_172) (Or.inl w_51) (by decide) (t := (.object "com/example/quire/quire/readers/Element")) (t' := .int) (by decide) (by decide)))
  have f81 := f62.other W69 (Or.inr (slot_ne (Or.inl w_174) (Or.inl w_51) (by decide) (t := (.object "com/example/quire/quire/readers/Element")) (t' := .int) (by decide) (by decide)))
  have f82 := f63.same W69
  have f83 := f64.other W69 (Or.inr (slot_ne (Or.inl w_58) (Or.inl w_51) (by decide) (t := .boolean) (t' := .int) (by decide) (by decide)))
  have f84 := f65.wr W69
  have f85 := f66.other W69 (Or.inl (Exa.ne f65 f57 (by decide)))
  have f86 := f67.other W69 (Or.inl (Exa.ne f65 f57 (by decide)))
  have f87 := f68.other W69 (Ne.symm (Exa.neArv f57 f68 w_28))
  have N69 := Fr.snoc X69 N50 Gb1
  refine bk (fun t k => st69 t k) ?_
  refine bk (fun t k => XS.aloadN X69.here hx rfl (hb hby d7_24) rfl rfl k) ?_
  show F (T69.setTop (mkF m 25 #[oR o0, .val (.int p1), oR b1] [(.ref b1)]))
  obtain ⟨cq88, kq88, q88a, q88b, q88c⟩ := isOf hZ16 e69 (f76)
  obtain ⟨_, _, ⟨T88, L88, k88, n88⟩, -, X88, ⟨Lc88, hQ88, l88, y88, z88⟩, st88⟩ := X69.virtualBack hx (y := oN7) (z := oN7) hown16 (mvT hZ16 w_52) (mvT hZ16 w_53) (notFace_of_selects (args := #[]) (mvT hZ16 w_55)) (mvT hZ16 w_55) (mvT hZ16 w_54) (by decide) (backOf (W := 0) (rm8 l Z a0 hw [] b1 (.ref o0) (.ref b16) .null .null .null h69 n0 f72 f76 f77 f78 f79 f80 f81 Gb1 f83) hZ16 w_56 w_29 (by decide) (by decide)) q88a q88c (g := (mkF m 25 #[oR o0, .val (.int p1), oR b1] [(.ref b1)])) rfl (by rw [hml]; rfl) (Steps.refl _) (argsL := []) (rest := []) (lenOf pd7___V rfl) rfl (by show 2 * 0 + _ ≤ _; exact Nat.le_of_eq rfl) (hb hby d7_25) (fun _ _ => ⟨rfl, e69, (by decide : 3 + 0 ≤ _), (by decide : 16 + 0 ≤ _)⟩)
  dsimp only [Pt.U, Pt.locs, Pt.cells, Pt.slots, oM8] at X88 l88 y88 z88 st88 hQ88
  subst l88 y88 z88
  obtain ⟨rfl, N88q, K88, gE88, gname88, gnamespace88, gfirstChild88, glastChild88, gnextSibling88⟩ := hQ88
  have N88 := Fr.app N69 N88q
  have f89 := f70.trans (CHr.keep K88 (allS (Safe.exa hZ16.alike f76 (by decide) (by decide)) all0) f70.1)
  have f90 := Nat.le_trans f71 K88.1
  have f91 := Nat.le_trans f72 K88.1
  have f92 := f73.trans K88 (allS (Or.inr sz_b1) all0)
  have f93 := own_sta1 f74 K88 f76
  have f94 := f75.keep K88 (allS (own_nsE f76 (by decide) w_28) all0)
  have f95 := f76.keep K88
  have f96 := f84.keep K88
  have f97 := f85.keep K88 (ninS (Exa.ne f84 f76 (by decide)) nin0)
  have f98 := f86.keep K88 (ninS (Exa.ne f84 f76 (by decide)) nin0)
  have f99 := f87.keep K88 (ninS (Ne.symm (Exa.neArv f76 f87 w_28)) nin0)
  refine bk (fun t k => st88.trans k) ?_
  refine bk (fun t k => XS.aloadN X88.here hx rfl (hb hby d7_28) rfl rfl k) ?_
  show F (T88.setTop (mkF m 29 #[oR o0, .val (.int p1), oR b1] [(.ref b1)]))
  rw [hF]
  refine own_retAH X88 hx hS16 f90 hZ16 own_EW (by rw [hh]; exact f89) Bd.notSynchronized Bd.returns rfl rfl (hb hby d7_29) (by decide) (by decide) ?_
  exact ⟨_, rfl, N88, f92, ⟨gE88, gname88, f94, _, gnamespace88, _, _, f96, f98, f97, f99⟩, gnextSibling88, sz_b1⟩
abbrev oN9 : MethodName := ⟨"com/example/quire/quire/readers/Element", "add", "(Lcom/example/quire/quire/readers/Element;)V"⟩
abbrev oM23_0 : Room := { frames := 0, cells := 0, slots := 0, locals := 0 }
theorem d23_0 : decode prog_45_method_15_code 0 = .ok (.aload_n 0, 1) := by decide +kernel
theorem d23_1 : decode prog_45_method_15_code 1 = .ok (.getfield 59, 3) := by decide +kernel
theorem d23_4 : decode prog_45_method_15_code 4 = .ok (.ifnonnull 11, 3) := by decide +kernel
theorem d23_7 : decode prog_45_method_15_code 7 = .ok (.aload_n 0, 1) := by decide +kernel
theorem d23_8 : decode prog_45_method_15_code 8 = .ok (.aload_n 1, 1) := by decide +kernel
theorem d23_9 : decode prog_45_method_15_code 9 = .ok (.putfield 59, 3) := by decide +kernel
theorem d23_12 : decode prog_45_method_15_code 12 = .ok (.goto 11, 3) := by decide +kernel
theorem d23_23 : decode prog_45_method_15_code 23 = .ok (.aload_n 0, 1) := by decide +kernel
theorem d23_24 : decode prog_45_method_15_code 24 = .ok (.aload_n 1, 1) := by decide +kernel
theorem d23_25 : decode prog_45_method_15_code 25 = .ok (.putfield 62, 3) := by decide +kernel
theorem d23_28 : decode prog_45_method_15_code 28 = .ok (.return_, 1) := by decide +kernel
theorem pn_23 : plainName "com/example/quire/quire/readers/Element" = true := by first | (simp [plainName, overriddenIn]; done) | decide +kernel
theorem ef_23 (m : MethodId) (x0 : Addr) (x1 : Addr) : entryFrame m #[(.ref x0), (.ref x1)] 2 = mkF m 0 #[.val (.ref x0), .val (.ref x1)] [] := by first | (simp [entryFrame, mkF, argsToLocals, Value.category]; done) | rfl
def Q23_0 (Z : State) (o0 : Addr) (o1 : Addr) (e_lc : Value) (h0 : Heap) (n0 : Nat) (v : Option Value) (h : Heap) (L : List Loc) : Prop := v = none ∧ Fr n0 L ∧ Keep h0 h [o0] ∧ Exa Z h o0 "com/example/quire/quire/readers/Element" ∧ Fld Z h o0 "com/example/quire/quire/readers/Element" "firstChild" "Lcom/example/quire/quire/readers/Element;" (.ref o1) ∧ Fld Z h o0 "com/example/quire/quire/readers/Element" "lastChild" "Lcom/example/quire/quire/readers/Element;" (.ref o1)
set_option maxRecDepth 65536 in
set_option maxHeartbeats 40000000 in
theorem rm23_0 (l : Launch) (Z : State) (a0 : Array Value) (hw : ∀ d ∈ tables_1, d.before a0 Z = true) (ws : List Jvm.Cond) (o0 : Addr) (o1 : Addr) (e_lc : Value) (h0 : Heap) (n0 : Nat) (Z0 : n0 ≤ h0.size) (E_o0 : Exa Z h0 o0 "com/example/quire/quire/readers/Element") (F_fc : Fld Z h0 o0 "com/example/quire/quire/readers/Element" "firstChild" "Lcom/example/quire/quire/readers/Element;" .null) (F_lc : Fld Z h0 o0 "com/example/quire/quire/readers/Element" "lastChild" "Lcom/example/quire/quire/readers/Element;" e_lc) (g_o0 : n0 ≤ o0) :
    MetFree l oN9 (head1 (Jvm.Cond.code oN9 prog_45_method_15_code 2 none :: ws) oM23_0) (fun a U => a = #[(.ref o0), (.ref o1)] ∧ Z.Warmed39 U.vm ∧ U.heap = h0) (fun _ _ _ _ _ => True) (fun _ U o U' => ∃ v L, o = .returned v ∧ Q23_0 Z o0 o1 e_lc h0 n0 v U'.heap L ∧ FrameEnd U o U' L oM23_0.cells oM23_0.slots) := by
  refine MetFree.of_bodySF (plainFor_of_name pn_23) hisR ?_
  intro p e s m args below meth c s₁ Bd hml0 hP hK
  obtain ⟨rfl, hZ, hh⟩ := hP
  have hx := Bd.exec
  have hby := Bd.bytes
  have hml : c.maxLocals = 2 := hml0
  have hown : s.vm.findClass "com/example/quire/quire/readers/Element" = some m.cls := findClass_of_methodNamed Bd.named
  have hnm := (name_of_methodNamed Bd.named Bd.method).1
  have X0 : Stand p l e oM23_0 s m #[(.ref o0), (.ref o1)] below meth c s₁ [] 0 0 := Stand.of_body Bd
  have e0 : s₁.heap = h0 := by rw [← hh, Bd.state]; rfl
  have N0 := Fr.nil n0
  obtain ⟨F, hF⟩ : ∃ F : State → Prop, F = own_Fin p e below s oM23_0.cells oM23_0.slots (fun v h L => Q23_0 Z o0 o1 e_lc h0 n0 v h L) := ⟨_, rfl⟩
  have bk : ∀ {A B : State}, (∀ t, Steps p.tables e below B t → Steps p.tables e below A t) → F B → F A := by
    intro A B h k
    rw [hF] at k ⊢
    exact own_back h k
  suffices hgo : F (s₁.setTop (mkF m 0 #[.val (.ref o0), .val (.ref o1)] [])) by
    have hgo' := bk (fun t k => castTop (T := s₁) (ef_23 m o0 o1) k) hgo
    rw [hF] at hgo'
    exact hgo'
  have w_28 := hw _ (List.mem_of_getElem? (i := 28) rfl)
  have w_154 := hw _ (List.mem_of_getElem? (i := 154) rfl)
  have w_155 := hw _ (List.mem_of_getElem? (i := 155) rfl)
  have w_171 := hw _ (List.mem_of_getElem? (i := 171) rfl)
  have w_172 := hw _ (List.mem_of_getElem? (i := 172) rfl)
  refine bk (fun t k => XS.aloadN X0.here hx rfl (hb hby d23_0) rfl rfl k) ?_
  obtain ⟨T1, X1, e1, st1⟩ := getF X0 hx hZ hown (host := "") (Or.inl w_154) Via.refl e0 F_fc (g := (mkF m 1 #[oR o0, oR o1] [(.ref o0)])) rfl rfl (hb hby d23_1)
  refine bk (fun t k => st1 t k) ?_
  show F (T1.setTop (mkF m 4 #[oR o0, oR o1] [.null]))
  refine bk (fun t k => XS.ifnonnullNo X1.here hx rfl (hb hby d23_4) rfl k) ?_
  refine bk (fun t k => XS.aloadN X1.here hx rfl (hb hby d23_7) rfl rfl k) ?_
  refine bk (fun t k => XS.aloadN X1.here hx rfl (hb hby d23_8) rfl rfl k) ?_
  show F (T1.setTop (mkF m 9 #[oR o0, oR o1] [(.ref o1), (.ref o0)]))
  obtain ⟨T2, h2, X2, e2, W2, st2⟩ := putF X1 hx hZ hown (host := "") (Or.inl w_154) Via.refl e1 F_fc E_o0 (Or.inl w_155) w_28 (ty := (.object "com/example/quire/quire/readers/Element")) (by decide) rfl rfl (g := (mkF m 9 #[oR o0, oR o1] [(.ref o1), (.ref o0)])) rfl rfl (hb hby d23_9)
  have f3 := E_o0.wr W2
  have f4 := F_fc.same W2
  have f5 := F_lc.other W2 (Or.inr (slot_ne (Or.inl w_172) (Or.inl w_155) (by decide) (t := (.object "com/example/quire/quire/readers/Element")) (t' := (.object "com/example/quire/quire/readers/Element")) (by decide) (by decide)))
  have f6 := Nat.le_trans Z0 (Keep.of_wr W2).1
  have f7 := (Keep.refl h0 [o0]).wr W2 (Or.inl (List.mem_of_getElem? (i := 0) rfl))
  have N2 := Fr.snoc X2 N0 g_o0
  refine bk (fun t k => st2 t k) ?_
  refine bk (fun t k => XS.goto X2.here hx rfl (pc0 := 12) (pc' := 23) rfl (hb hby d23_12) (by decide) (by decide) k) ?_
  refine bk (fun t k => XS.aloadN X2.here hx rfl (hb hby d23_23) rfl rfl k) ?_
  refine bk (fun t k => XS.aloadN X2.here hx rfl (hb hby d23_24) rfl rfl k) ?_
  show F (T2.setTop (mkF m 25 #[oR o0, oR o1] [(.ref o1), (.ref o0)]))
  obtain ⟨T8, h8, X8, e8, W8, st8⟩ := putF X2 hx hZ hown (host := "") (Or.inl w_171) Via.refl e2 f5 f3 (Or.inl w_172) w_28 (ty := (.object "com/example/quire/quire/readers/Element")) (by decide) rfl rfl (g := (mkF m 25 #[oR o0, oR o1] [(.ref o1), (.ref o0)])) rfl rfl (hb hby d23_25)
  have f9 := f3.wr W8
  have f10 := f4.other W8 (Or.inr (slot_ne (Or.inl w_155) (Or.inl w_172) (by decide) (t := (.object "com/example/quire/quire/readers/Element")) (t' := (.object "com/example/quire/quire/readers/Element")) (by decide) (by decide)))
  have f11 := f5.same W8
  have f12 := Nat.le_trans f6 (Keep.of_wr W8).1
  have f13 := f7.wr W8 (Or.inl (List.mem_of_getElem? (i := 0) rfl))
  have N8 := Fr.snoc X8 N2 g_o0
  refine bk (fun t k => st8 t k) ?_
  show F (T8.setTop (mkF m 28 #[oR o0, oR o1] []))
  rw [hF]
  refine own_ret0 X8 hx Bd.notSynchronized Bd.returns (hb hby d23_28) (by decide) (by decide) ?_
  rw [e8]
  exact ⟨rfl, N8, f13, f9, f10, f11⟩
abbrev oM23_1 : Room := { frames := 0, cells := 0, slots := 0, locals := 0 }
theorem d23_15 : decode prog_45_method_15_code 15 = .ok (.aload_n 0, 1) := by decide +kernel
theorem d23_16 : decode prog_45_method_15_code 16 = .ok (.getfield 62, 3) := by decide +kernel
theorem d23_19 : decode prog_45_method_15_code 19 = .ok (.aload_n 1, 1) := by decide +kernel
theorem d23_20 : decode prog_45_method_15_code 20 = .ok (.putfield 65, 3) := by decide +kernel
def Q23_1 (Z : State) (o0 : Addr) (o1 : Addr) (fc : Addr) (lc : Addr) (sn : Addr) (x : Int32) (h0 : Heap) (n0 : Nat) (v : Option Value) (h : Heap) (L : List Loc) : Prop := v = none ∧ Fr n0 L ∧ Keep h0 h [o0, lc] ∧ Exa Z h o0 "com/example/quire/quire/readers/Element" ∧ Fld Z h o0 "com/example/quire/quire/readers/Element" "firstChild" "Lcom/example/quire/quire/readers/Element;" (.ref fc) ∧ Fld Z h o0 "com/example/quire/quire/readers/Element" "lastChild" "Lcom/example/quire/quire/readers/Element;" (.ref o1) ∧ own_Ch Z h lc sn x ∧ Fld Z h lc "com/example/quire/quire/readers/Element" "nextSibling" "Lcom/example/quire/quire/readers/Element;" (.ref o1)
set_option maxRecDepth 65536 in
set_option maxHeartbeats 40000000 in
theorem rm23_1 (l : Launch) (Z : State) (a0 : Array Value) (hw : ∀ d ∈ tables_1, d.before a0 Z = true) (ws : List Jvm.Cond) (o0 : Addr) (o1 : Addr) (fc : Addr) (lc : Addr) (sn : Addr) (x : Int32) (h0 : Heap) (n0 : Nat) (Z0 : n0 ≤ h0.size) (E_o0 : Exa Z h0 o0 "com/example/quire/quire/readers/Element") (F_fc : Fld Z h0 o0 "com/example/quire/quire/readers/Element" "firstChild" "Lcom/example/quire/quire/readers/Element;" (.ref fc)) (F_lc : Fld Z h0 o0 "com/example/quire/quire/readers/Element" "lastChild" "Lcom/example/quire/quire/readers/Element;" (.ref lc)) (hCh : own_Ch Z h0 lc sn x) (F_nx : Fld Z h0 lc "com/example/quire/quire/readers/Element" "nextSibling" "Lcom/example/quire/quire/readers/Element;" .null) (g_o0 : n0 ≤ o0) (g_lc : n0 ≤ lc) (ne_lc : o0 ≠ lc) :
    MetFree l oN9 (head1 (Jvm.Cond.code oN9 prog_45_method_15_code 2 none :: ws) oM23_1) (fun a U => a = #[(.ref o0), (.ref o1)] ∧ Z.Warmed39 U.vm ∧ U.heap = h0) (fun _ _ _ _ _ => True) (fun _ U o U' => ∃ v L, o = .returned v ∧ Q23_1 Z o0 o1 fc lc sn x h0 n0 v U'.heap L ∧ FrameEnd U o U' L oM23_1.cells oM23_1.slots) := by
  refine MetFree.of_bodySF (plainFor_of_name pn_23) hisR ?_
  intro p e s m args below meth c s₁ Bd hml0 hP hK
  obtain ⟨rfl, hZ, hh⟩ := hP
  have hx := Bd.exec
  have hby := Bd.bytes
  have hml : c.maxLocals = 2 := hml0
  have hown : s.vm.findClass "com/example/quire/quire/readers/Element" = some m.cls := findClass_of_methodNamed Bd.named
  have hnm := (name_of_methodNamed Bd.named Bd.method).1
  have X0 : Stand p l e oM23_1 s m #[(.ref o0), (.ref o1)] below meth c s₁ [] 0 0 := Stand.of_body Bd
  have e0 : s₁.heap = h0 := by rw [← hh, Bd.state]; rfl
  have N0 := Fr.nil n0
  obtain ⟨F, hF⟩ : ∃ F : State → Prop, F = own_Fin p e below s oM23_1.cells oM23_1.slots (fun v h L => Q23_1 Z o0 o1 fc lc sn x h0 n0 v h L) := ⟨_, rfl⟩
  have bk : ∀ {A B : State}, (∀ t, Steps p.tables e below B t → Steps p.tables e below A t) → F B → F A := by
    intro A B h k
    rw [hF] at k ⊢
    exact own_back h k
  suffices hgo : F (s₁.setTop (mkF m 0 #[.val (.ref o0), .val (.ref o1)] [])) by
    have hgo' := bk (fun t k => castTop (T := s₁) (ef_23 m o0 o1) k) hgo
    rw [hF] at hgo'
    exact hgo'
  have vCh := hCh
  obtain ⟨C_E, C_N, C_S, ns, C_M, C_T⟩ := vCh
  have w_28 := hw _ (List.mem_of_getElem? (i := 28) rfl)
  have w_47 := hw _ (List.mem_of_getElem? (i := 47) rfl)
  have w_49 := hw _ (List.mem_of_getElem? (i := 49) rfl)
  have w_154 := hw _ (List.mem_of_getElem? (i := 154) rfl)
  have w_155 := hw _ (List.mem_of_getElem? (i := 155) rfl)
  have w_171 := hw _ (List.mem_of_getElem? (i := 171) rfl)
  have w_172 := hw _ (List.mem_of_getElem? (i := 172) rfl)
  have w_173 := hw _ (List.mem_of_getElem? (i := 173) rfl)
  have w_174 := hw _ (List.mem_of_getElem? (i := 174) rfl)
  refine bk (fun t k => XS.aloadN X0.here hx rfl (hb hby d23_0) rfl rfl k) ?_
  obtain ⟨T1, X1, e1, st1⟩ := getF X0 hx hZ hown (host := "") (Or.inl w_154) Via.refl e0 F_fc (g := (mkF m 1 #[oR o0, oR o1] [(.ref o0)])) rfl rfl (hb hby d23_1)
  refine bk (fun t k => st1 t k) ?_
  show F (T1.setTop (mkF m 4 #[oR o0, oR o1] [(.ref fc)]))
  refine bk (fun t k => XS.ifnonnullYes X1.here hx rfl (pc0 := 4) (pc' := 15) rfl (hb hby d23_4) rfl (by decide) (by decide) k) ?_
  refine bk (fun t k => XS.aloadN X1.here hx rfl (hb hby d23_15) rfl rfl k) ?_
  obtain ⟨T2, X2, e2, st2⟩ := getF X1 hx hZ hown (host := "") (Or.inl w_171) Via.refl e1 F_lc (g := (mkF m 16 #[oR o0, oR o1] [(.ref o0)])) rfl rfl (hb hby d23_16)
  refine bk (fun t k => st2 t k) ?_
  refine bk (fun t k => XS.aloadN X2.here hx rfl (hb hby d23_19) rfl rfl k) ?_
  show F (T2.setTop (mkF m 20 #[oR o0, oR o1] [(.ref o1), (.ref lc)]))
  obtain ⟨T3, h3, X3, e3, W3, st3⟩ := putF X2 hx hZ hown (host := "") (Or.inl w_173) Via.refl e2 F_nx C_E (Or.inl w_174) w_28 (ty := (.object "com/example/quire/quire/readers/Element")) (by decide) rfl rfl (g := (mkF m 20 #[oR o0, oR o1] [(.ref o1), (.ref lc)])) rfl rfl (hb hby d23_20)
  have f4 := E_o0.wr W3
  have f5 := F_fc.other W3 (Or.inl ne_lc)
  have f6 := F_lc.other W3 (Or.inl ne_lc)
  have f7 := Nat.le_trans Z0 (Keep.of_wr W3).1
  have f8 := (Keep.refl h0 [o0, lc]).wr W3 (Or.inl (List.mem_of_getElem? (i := 1) rfl))
  have f9 := C_E.wr W3
  have f10 := C_N.other W3 (Or.inr (slot_ne (Or.inl w_49) (Or.inl w_174) (by decide) (t := (.object "java/lang/String")) (t' := (.object "com/example/quire/quire/readers/Element")) (by decide) (by decide)))
  have f11 := C_M.other W3 (Or.inr (slot_ne (Or.inl w_47) (Or.inl w_174) (by decide) (t := (.object "java/lang/String")) (t' := (.object "com/example/quire/quire/readers/Element")) (by decide) (by decide)))
  have f12 := F_nx.same W3
  have f13 := C_S.keep (Keep.of_wr W3) (allS (own_nsE C_E (by decide) w_28) all0)
  have f14 := C_T.keep (Keep.of_wr W3) (allS (own_nsE C_E (by decide) w_28) all0)
  have N3 := Fr.snoc X3 N0 g_lc
  refine bk (fun t k => st3 t k) ?_
  refine bk (fun t k => XS.aloadN X3.here hx rfl (hb hby d23_23) rfl rfl k) ?_
  refine bk (fun t k => XS.aloadN X3.here hx rfl (hb hby d23_24) rfl rfl k) ?_
  show F (T3.setTop (mkF m 25 #[oR o0, oR o1] [(.ref o1), (.ref o0)]))
  obtain ⟨T15, h15, X15, e15, W15, st15⟩ := putF X3 hx hZ hown (host := "") (Or.inl w_171) Via.refl e3 f6 f4 (Or.inl w_172) w_28 (ty := (.object "com/example/quire/quire/readers/Element")) (by decide) rfl rfl (g := (mkF m 25 #[oR o0, oR o1] [(.ref o1), (.ref o0)])) rfl rfl (hb hby d23_25)
  have f16 := f4.wr W15
  have f17 := f5.other W15 (Or.inr (slot_ne (Or.inl w_155) (Or.inl w_172) (by decide) (t := (.object "com/example/quire/quire/readers/Element")) (t' := (.object "com/example/quire/quire/readers/Element")) (by decide) (by decide)))
  have f18 := f6.same W15
  have f19 := Nat.le_trans f7 (Keep.of_wr W15).1
  have f20 := f8.wr W15 (Or.inl (List.mem_of_getElem? (i := 0) rfl))
  have f21 := f9.wr W15
  have f22 := f10.other W15 (Or.inl (Ne.symm ne_lc))
  have f23 := f11.other W15 (Or.inl (Ne.symm ne_lc))
  have f24 := f12.other W15 (Or.inl (Ne.symm ne_lc))
  have f25 := f13.keep (Keep.of_wr W15) (allS (own_nsE f4 (by decide) w_28) all0)
  have f26 := f14.keep (Keep.of_wr W15) (allS (own_nsE f4 (by decide) w_28) all0)
  have N15 := Fr.snoc X15 N3 g_o0
  refine bk (fun t k => st15 t k) ?_
  show F (T15.setTop (mkF m 28 #[oR o0, oR o1] []))
  rw [hF]
  refine own_ret0 X15 hx Bd.notSynchronized Bd.returns (hb hby d23_28) (by decide) (by decide) ?_
  rw [e15]
  exact ⟨rfl, N15, f20, f16, f17, f18, ⟨f21, f22, f25, _, f23, f26⟩, f24⟩
abbrev oN10 : MethodName := ⟨"com/example/quire/quire/readers/Element", "is", "(Ljava/lang/String;Ljava/lang/String;)Z"⟩
abbrev oM26 : Room := { frames := 2, cells := 0, slots := 0, locals := 28 }
theorem d26_0 : decode prog_45_method_8_code 0 = .ok (.aload_n 0, 1) := by decide +kernel
theorem d26_1 : decode prog_45_method_8_code 1 = .ok (.getfield 24, 3) := by decide +kernel
theorem d26_4 : decode prog_45_method_8_code 4 = .ok (.aload_n 2, 1) := by decide +kernel
theorem d26_5 : decode prog_45_method_8_code 5 = .ok (.invokevirtual 84, 3) := by decide +kernel
theorem d26_8 : decode prog_45_method_8_code 8 = .ok (.ifCond .eq 22, 3) := by decide +kernel
theorem d26_11 : decode prog_45_method_8_code 11 = .ok (.aload_n 1, 1) := by decide +kernel
theorem d26_12 : decode prog_45_method_8_code 12 = .ok (.ifnull 14, 3) := by decide +kernel
theorem d26_15 : decode prog_45_method_8_code 15 = .ok (.aload_n 0, 1) := by decide +kernel
theorem d26_16 : decode prog_45_method_8_code 16 = .ok (.getfield 20, 3) := by decide +kernel
theorem d26_19 : decode prog_45_method_8_code 19 = .ok (.aload_n 1, 1) := by decide +kernel
theorem d26_20 : decode prog_45_method_8_code 20 = .ok (.invokevirtual 84, 3) := by decide +kernel
theorem d26_23 : decode prog_45_method_8_code 23 = .ok (.ifCond .eq 7, 3) := by decide +kernel
theorem d26_26 : decode prog_45_method_8_code 26 = .ok (.iconst 1, 1) := by decide +kernel
theorem d26_27 : decode prog_45_method_8_code 27 = .ok (.goto 4, 3) := by decide +kernel
theorem d26_30 : decode prog_45_method_8_code 30 = .ok (.iconst 0, 1) := by decide +kernel
theorem d26_31 : decode prog_45_method_8_code 31 = .ok (.ireturn, 1) := by decide +kernel
theorem pd26__Ljava_lang_Object__Z : parseMethodDescriptor "(Ljava/lang/Object;)Z" = some ⟨[(.object "java/lang/Object")], some .boolean⟩ := by decide +kernel
theorem pn_26 : plainName "com/example/quire/quire/readers/Element" = true := by first | (simp [plainName, overriddenIn]; done) | decide +kernel
theorem ef_26 (m : MethodId) (x0 : Addr) (x1 : Addr) (x2 : Addr) : entryFrame m #[(.ref x0), (.ref x1), (.ref x2)] 3 = mkF m 0 #[.val (.ref x0), .val (.ref x1), .val (.ref x2)] [] := by first | (simp [entryFrame, mkF, argsToLocals, Value.category]; done) | rfl
def Q26 (Z : State) (o0 : Addr) (o1 : Addr) (o2 : Addr) (sn : Addr) (x : Int32) (y : Int32) (cs : Int32) (h0 : Heap) (n0 : Nat) (v : Option Value) (h : Heap) (L : List Loc) : Prop := v = some (.int (own_beq x y)) ∧ Fr n0 L ∧ h = h0
set_option maxRecDepth 65536 in
set_option maxHeartbeats 40000000 in
theorem rm26 (l : Launch) (Z : State) (a0 : Array Value) (hw : ∀ d ∈ tables_1, d.before a0 Z = true) (ws : List Jvm.Cond) (o0 : Addr) (o1 : Addr) (o2 : Addr) (sn : Addr) (x : Int32) (y : Int32) (cs : Int32) (h0 : Heap) (n0 : Nat) (Z0 : n0 ≤ h0.size) (hCh : own_Ch Z h0 o0 sn x) (hns : own_St Z h0 o1 (0 : Int32) []) (hq : own_St Z h0 o2 (1 : Int32) [(.int y)]) (S_cs : Sta Z h0 "java/lang/String" "COMPACT_STRINGS" "Z" (.int cs)) (hcs : ¬ cs = (0 : Int32)) :
    MetFree l oN10 (head1 (Jvm.Cond.code oN10 prog_45_method_8_code 3 (some .boolean) :: ws) oM26) (fun a U => a = #[(.ref o0), (.ref o1), (.ref o2)] ∧ Z.Warmed39 U.vm ∧ U.heap = h0) (fun _ _ _ _ _ => True) (fun _ U o U' => ∃ v L, o = .returned v ∧ Q26 Z o0 o1 o2 sn x y cs h0 n0 v U'.heap L ∧ FrameEnd U o U' L oM26.cells oM26.slots) := by
  refine MetFree.of_bodySF (plainFor_of_name pn_26) hisR ?_
  intro p e s m args below meth c s₁ Bd hml0 hP hK
  obtain ⟨rfl, hZ, hh⟩ := hP
  have hx := Bd.exec
  have hby := Bd.bytes
  have hml : c.maxLocals = 3 := hml0
  have hown : s.vm.findClass "com/example/quire/quire/readers/Element" = some m.cls := findClass_of_methodNamed Bd.named
  have hnm := (name_of_methodNamed Bd.named Bd.method).1
  have X0 : Stand p l e oM26 s m #[(.ref o0), (.ref o1), (.ref o2)] below meth c s₁ [] 0 0 := Stand.of_body Bd
  have e0 : s₁.heap = h0 := by rw [← hh, Bd.state]; rfl
  have N0 := Fr.nil n0
  obtain ⟨F, hF⟩ : ∃ F : State → Prop, F = own_Fin p e below s oM26.cells oM26.slots (fun v h L => Q26 Z o0 o1 o2 sn x y cs h0 n0 v h L) := ⟨_, rfl⟩
  have bk : ∀ {A B : State}, (∀ t, Steps p.tables e below B t → Steps p.tables e below A t) → F B → F A := by
    intro A B h k
    rw [hF] at k ⊢
    exact own_back h k
  suffices hgo : F (s₁.setTop (mkF m 0 #[.val (.ref o0), .val (.ref o1), .val (.ref o2)] [])) by
    have hgo' := bk (fun t k => castTop (T := s₁) (ef_26 m o0 o1 o2) k) hgo
    rw [hF] at hgo'
    exact hgo'
  have vCh := hCh
  obtain ⟨C_E, C_N, ⟨rs, ks_, s_E, s_C, s_F, s_V⟩, ns, C_M, rn, kn_, n_E, n_C, n_F, n_V⟩ := vCh
  have vns := hns
  obtain ⟨r1_, k1_, a_E, a_C, a_F, a_V⟩ := vns
  have vq := hq
  obtain ⟨r2_, k2_, q_E, q_C, q_F, q_V⟩ := vq
  have w_3 := hw _ (List.mem_of_getElem? (i := 3) rfl)
  have w_46 := hw _ (List.mem_of_getElem? (i := 46) rfl)
  have w_48 := hw _ (List.mem_of_getElem? (i := 48) rfl)
  have w_176 := hw _ (List.mem_of_getElem? (i := 176) rfl)
  have w_177 := hw _ (List.mem_of_getElem? (i := 177) rfl)
  have w_178 := hw _ (List.mem_of_getElem? (i := 178) rfl)
  have w_179 := hw _ (List.mem_of_getElem? (i := 179) rfl)
  have w_188 := hw _ (List.mem_of_getElem? (i := 188) rfl)
  refine bk (fun t k => XS.aloadN X0.here hx rfl (hb hby d26_0) rfl rfl k) ?_
  obtain ⟨T1, X1, e1, st1⟩ := getF X0 hx hZ hown (host := "") (Or.inl w_48) Via.refl e0 C_N (g := (mkF m 1 #[oR o0, oR o1, oR o2] [(.ref o0)])) rfl rfl (hb hby d26_1)
  refine bk (fun t k => st1 t k) ?_
  refine bk (fun t k => XS.aloadN X1.here hx rfl (hb hby d26_4) rfl rfl k) ?_
  show F (T1.setTop (mkF m 5 #[oR o0, oR o1, oR o2] [(.ref o2), (.ref sn)]))
  obtain ⟨cq2, kq2, q2a, q2b, q2c⟩ := isOf hZ e1 (s_E)
  obtain ⟨_, _, ⟨T2, L2, k2, n2⟩, -, X2, ⟨Lc2, hQ2, l2, y2, z2⟩, st2⟩ := X1.virtualBack hx (y := oN5) (z := oN5) hown (mvT hZ w_188) (mvT hZ w_176) (notFace_of_selects (args := #[]) (mvT hZ w_178)) (mvT hZ w_178) (mvT hZ w_177) (by decide) (backOf (W := 0) (rm24_1 l Z a0 hw [] sn o2 rs r2_ ks_ k2_ x y cs h0 n0 Z0 s_E q_E s_F q_F s_C q_C s_V q_V S_cs hcs) hZ w_179 w_3 (by decide) (by decide)) q2a q2c (g := (mkF m 5 #[oR o0, oR o1, oR o2] [(.ref o2), (.ref sn)])) rfl (by rw [hml]; rfl) (Steps.refl _) (argsL := [(.ref o2)]) (rest := []) (lenOf pd26__Ljava_lang_Object__Z rfl) rfl (by show 2 * 0 + _ ≤ _; exact Nat.le_of_eq rfl) (hb hby d26_5) (fun _ _ => ⟨rfl, e1, (by decide : 0 + 0 ≤ _), (by decide : 0 + 0 ≤ _)⟩)
  dsimp only [Pt.U, Pt.locs, Pt.cells, Pt.slots, oM24_1] at X2 l2 y2 z2 st2 hQ2
  subst l2 y2 z2
  obtain ⟨rfl, N2q, e2⟩ := hQ2
  have N2 := Fr.app N0 N2q
  refine bk (fun t k => st2.trans k) ?_
  show F (T2.setTop (mkF m 8 #[oR o0, oR o1, oR o2] [(.int (own_beq x y))]))
  by_cases hc8_3 : (own_beq x y) = (0 : Int32)
  · refine bk (fun t k => XS.ifYes X2.here hx rfl (pc0 := 8) (pc' := 30) rfl (hb hby d26_8) rfl ((if0 _ _).trans (teq hc8_3).1) (by decide) (by decide) k) ?_
    refine bk (fun t k => XS.iconst X2.here hx rfl (hb hby d26_30) k) ?_
    rw [hF]
    refine own_retZ X2 hx Bd.notSynchronized Bd.returns (hb hby d26_31) (by decide) (by decide) ?_
    rw [e2]
    refine ⟨?_, N2, rfl⟩
    show some (Value.int (0 : Int32)) = some (Value.int (own_beq x y))
    rw [hc8_3]
  refine bk (fun t k => XS.ifNo X2.here hx rfl (hb hby d26_8) rfl ((if0 _ _).trans (feq hc8_3).1) k) ?_
  refine bk (fun t k => XS.aloadN X2.here hx rfl (hb hby d26_11) rfl rfl k) ?_
  refine bk (fun t k => XS.ifnullNo X2.here hx rfl (hb hby d26_12) rfl k) ?_
  refine bk (fun t k => XS.aloadN X2.here hx rfl (hb hby d26_15) rfl rfl k) ?_
  show F (T2.setTop (mkF m 16 #[oR o0, oR o1, oR o2] [(.ref o0)]))
  obtain ⟨T4, X4, e4, st4⟩ := getF X2 hx hZ hown (host := "") (Or.inl w_46) Via.refl e2 C_M (g := (mkF m 16 #[oR o0, oR o1, oR o2] [(.ref o0)])) rfl rfl (hb hby d26_16)
  refine bk (fun t k => st4 t k) ?_
  refine bk (fun t k => XS.aloadN X4.here hx rfl (hb hby d26_19) rfl rfl k) ?_
  show F (T4.setTop (mkF m 20 #[oR o0, oR o1, oR o2] [(.ref o1), (.ref ns)]))
  obtain ⟨cq5, kq5, q5a, q5b, q5c⟩ := isOf hZ e4 (n_E)
  obtain ⟨_, _, ⟨T5, L5, k5, n5⟩, -, X5, ⟨Lc5, hQ5, l5, y5, z5⟩, st5⟩ := X4.virtualBack hx (y := oN5) (z := oN5) hown (mvT hZ w_188) (mvT hZ w_176) (notFace_of_selects (args := #[]) (mvT hZ w_178)) (mvT hZ w_178) (mvT hZ w_177) (by decide) (backOf (W := 0) (rm24_0 l Z a0 hw [] ns o1 rn r1_ kn_ k1_  cs h0 n0 Z0 n_E a_E n_F a_F n_C a_C n_V a_V S_cs hcs) hZ w_179 w_3 (by decide) (by decide)) q5a q5c (g := (mkF m 20 #[oR o0, oR o1, oR o2] [(.ref o1), (.ref ns)])) rfl (by rw [hml]; rfl) (Steps.refl _) (argsL := [(.ref o1)]) (rest := []) (lenOf pd26__Ljava_lang_Object__Z rfl) rfl (by show 2 * 0 + _ ≤ _; exact Nat.le_of_eq rfl) (hb hby d26_20) (fun _ _ => ⟨rfl, e4, (by decide : 0 + 0 ≤ _), (by decide : 0 + 0 ≤ _)⟩)
  dsimp only [Pt.U, Pt.locs, Pt.cells, Pt.slots, oM24_0] at X5 l5 y5 z5 st5 hQ5
  subst l5 y5 z5
  obtain ⟨rfl, N5q, e5⟩ := hQ5
  have N5 := Fr.app N2 N5q
  refine bk (fun t k => st5.trans k) ?_
  show F (T5.setTop (mkF m 23 #[oR o0, oR o1, oR o2] [(.int (1 : Int32))]))
  refine bk (fun t k => XS.ifNo X5.here hx rfl (hb hby d26_23) rfl ((if0 _ _).trans (feq (by decide : ¬ ((1 : Int32) = (0 : Int32)))).1) k) ?_
  refine bk (fun t k => XS.iconst X5.here hx rfl (hb hby d26_26) k) ?_
  refine bk (fun t k => XS.goto X5.here hx rfl (pc0 := 27) (pc' := 31) rfl (hb hby d26_27) (by decide) (by decide) k) ?_
  show F (T5.setTop (mkF m 31 #[oR o0, oR o1, oR o2] [(.int (1 : Int32))]))
  rw [hF]
  refine own_retZ X5 hx Bd.notSynchronized Bd.returns (hb hby d26_31) (by decide) (by decide) ?_
  rw [e5]
  refine ⟨?_, N5, rfl⟩
  show some (Value.int (1 : Int32)) = some (Value.int (own_beq x y))
  rw [own_beq1 hc8_3]
abbrev oN11 : MethodName := ⟨"java/util/AbstractCollection", "<init>", "()V"⟩
abbrev oM15 : Room := { frames := 1, cells := 0, slots := 0, locals := 12 }
theorem d15_0 : decode jdk_22_method_1_code 0 = .ok (.aload_n 0, 1) := by decide +kernel
theorem d15_1 : decode jdk_22_method_1_code 1 = .ok (.invokespecial 1, 3) := by decide +kernel
theorem d15_4 : decode jdk_22_method_1_code 4 = .ok (.return_, 1) := by decide +kernel
theorem pn_15 : plainName "java/util/AbstractCollection" = true := by first | (simp [plainName, overriddenIn]; done) | decide +kernel
theorem ef_15 (m : MethodId) (x0 : Addr) : entryFrame m #[(.ref x0)] 1 = mkF m 0 #[.val (.ref x0)] [] := by first | (simp [entryFrame, mkF, argsToLocals, Value.category]; done) | rfl
def Q15 (Z : State) (o0 : Addr) (h0 : Heap) (n0 : Nat) (v : Option Value) (h : Heap) (L : List Loc) : Prop := v = none ∧ Fr n0 L ∧ h = h0
set_option maxRecDepth 65536 in
set_option maxHeartbeats 40000000 in
theorem rm15 (l : Launch) (Z : State) (a0 : Array Value) (hw : ∀ d ∈ tables_1, d.before a0 Z = true) (ws : List Jvm.Cond) (o0 : Addr) (h0 : Heap) (n0 : Nat) (Z0 : n0 ≤ h0.size) :
    MetFree l oN11 (head1 (Jvm.Cond.code oN11 jdk_22_method_1_code 1 none :: ws) oM15) (fun a U => a = #[(.ref o0)] ∧ Z.Warmed39 U.vm ∧ U.heap = h0) (fun _ _ _ _ _ => True) (fun _ U o U' => ∃ v L, o = .returned v ∧ Q15 Z o0 h0 n0 v U'.heap L ∧ FrameEnd U o U' L oM15.cells oM15.slots) := by
  refine MetFree.of_bodySF (plainFor_of_name pn_15) hisR ?_
  intro p e s m args below meth c s₁ Bd hml0 hP hK
  obtain ⟨rfl, hZ, hh⟩ := hP
  have hx := Bd.exec
  have hby := Bd.bytes
  have hml : c.maxLocals = 1 := hml0
  have hown : s.vm.findClass "java/util/AbstractCollection" = some m.cls := findClass_of_methodNamed Bd.named
  have hnm := (name_of_methodNamed Bd.named Bd.method).1
  have X0 : Stand p l e oM15 s m #[(.ref o0)] below meth c s₁ [] 0 0 := Stand.of_body Bd
  have e0 : s₁.heap = h0 := by rw [← hh, Bd.state]; rfl
  have N0 := Fr.nil n0
  obtain ⟨F, hF⟩ : ∃ F : State → Prop, F = own_Fin p e below s oM15.cells oM15.slots (fun v h L => Q15 Z o0 h0 n0 v h L) := ⟨_, rfl⟩
  have bk : ∀ {A B : State}, (∀ t, Steps p.tables e below B t → Steps p.tables e below A t) → F B → F A := by
    intro A B h k
    rw [hF] at k ⊢
    exact own_back h k
  suffices hgo : F (s₁.setTop (mkF m 0 #[.val (.ref o0)] [])) by
    have hgo' := bk (fun t k => castTop (T := s₁) (ef_15 m o0) k) hgo
    rw [hF] at hgo'
    exact hgo'
  refine bk (fun t k => XS.aloadN X0.here hx rfl (hb hby d15_0) rfl rfl k) ?_
  obtain ⟨T1, X1, e1, st1⟩ := initO X0 hx hZ hown (hw _ (List.mem_of_getElem? (i := 102) rfl)) (hw _ (List.mem_of_getElem? (i := 21) rfl)) (hw _ (List.mem_of_getElem? (i := 22) rfl)) e0 (g := (mkF m 1 #[oR o0] [(.ref o0)])) rfl (by rw [hml]; rfl) rfl (hb hby d15_1) (by decide) (W := 0) (by show 2 * 0 + _ ≤ _; exact Nat.le_of_eq rfl) (by decide)
  refine bk (fun t k => st1 t k) ?_
  show F (T1.setTop (mkF m 4 #[oR o0] []))
  rw [hF]
  refine own_ret0 X1 hx Bd.notSynchronized Bd.returns (hb hby d15_4) (by decide) (by decide) ?_
  rw [e1]
  exact ⟨rfl, N0, rfl⟩
abbrev oN12 : MethodName := ⟨"java/util/ImmutableCollections$AbstractImmutableCollection", "<init>", "()V"⟩
abbrev oM14 : Room := { frames := 2, cells := 0, slots := 0, locals := 24 }
theorem d14_0 : decode jdk_47_method_1_code 0 = .ok (.aload_n 0, 1) := by decide +kernel
theorem d14_1 : decode jdk_47_method_1_code 1 = .ok (.invokespecial 1, 3) := by decide +kernel
theorem d14_4 : decode jdk_47_method_1_code 4 = .ok (.return_, 1) := by decide +kernel
theorem pd14___V : parseMethodDescriptor "()V" = some ⟨[], none⟩ := by decide +kernel
theorem pn_14 : plainName "java/util/ImmutableCollections$AbstractImmutableCollection" = true := by first | (simp [plainName, overriddenIn]; done) | decide +kernel
theorem ef_14 (m : MethodId) (x0 : Addr) : entryFrame m #[(.ref x0)] 1 = mkF m 0 #[.val (.ref x0)] [] := by first | (simp [entryFrame, mkF, argsToLocals, Value.category]; done) | rfl
def Q14 (Z : State) (o0 : Addr) (h0 : Heap) (n0 : Nat) (v : Option Value) (h : Heap) (L : List Loc) : Prop := v = none ∧ Fr n0 L ∧ h = h0
set_option maxRecDepth 65536 in
set_option maxHeartbeats 40000000 in
theorem rm14 (l : Launch) (Z : State) (a0 : Array Value) (hw : ∀ d ∈ tables_1, d.before a0 Z = true) (ws : List Jvm.Cond) (o0 : Addr) (h0 : Heap) (n0 : Nat) (Z0 : n0 ≤ h0.size) :
    MetFree l oN12 (head1 (Jvm.Cond.code oN12 jdk_47_method_1_code 1 none :: ws) oM14) (fun a U => a = #[(.ref o0)] ∧ Z.Warmed39 U.vm ∧ U.heap = h0) (fun _ _ _ _ _ => True) (fun _ U o U' => ∃ v L, o = .returned v ∧ Q14 Z o0 h0 n0 v U'.heap L ∧ FrameEnd U o U' L oM14.cells oM14.slots) := by
  refine MetFree.of_bodySF (plainFor_of_name pn_14) hisR ?_
  intro p e s m args below meth c s₁ Bd hml0 hP hK
  obtain ⟨rfl, hZ, hh⟩ := hP
  have hx := Bd.exec
  have hby := Bd.bytes
  have hml : c.maxLocals = 1 := hml0
  have hown : s.vm.findClass "java/util/ImmutableCollections$AbstractImmutableCollection" = some m.cls := findClass_of_methodNamed Bd.named
  have hnm := (name_of_methodNamed Bd.named Bd.method).1
  have X0 : Stand p l e oM14 s m #[(.ref o0)] below meth c s₁ [] 0 0 := Stand.of_body Bd
  have e0 : s₁.heap = h0 := by rw [← hh, Bd.state]; rfl
  have N0 := Fr.nil n0
  obtain ⟨F, hF⟩ : ∃ F : State → Prop, F = own_Fin p e below s oM14.cells oM14.slots (fun v h L => Q14 Z o0 h0 n0 v h L) := ⟨_, rfl⟩
  have bk : ∀ {A B : State}, (∀ t, Steps p.tables e below B t → Steps p.tables e below A t) → F B → F A := by
    intro A B h k
    rw [hF] at k ⊢
    exact own_back h k
  suffices hgo : F (s₁.setTop (mkF m 0 #[.val (.ref o0)] [])) by
    have hgo' := bk (fun t k => castTop (T := s₁) (ef_14 m o0) k) hgo
    rw [hF] at hgo'
    exact hgo'
  refine bk (fun t k => XS.aloadN X0.here hx rfl (hb hby d14_0) rfl rfl k) ?_
  obtain ⟨_, _, ⟨T1, L1, k1, n1⟩, -, X1, ⟨Lc1, hQ1, l1, y1, z1⟩, st1⟩ := X0.specialBack hx (y := oN11) rfl hown (mvT hZ (hw _ (List.mem_of_getElem? (i := 96) rfl))) (mvT hZ (hw _ (List.mem_of_getElem? (i := 97) rfl))) (mvT hZ (hw _ (List.mem_of_getElem? (i := 101) rfl))) (by decide) (backOf (W := 0) (rm15 l Z a0 hw [] o0 h0 n0 Z0) hZ (hw _ (List.mem_of_getElem? (i := 101) rfl)) (hw _ (List.mem_of_getElem? (i := 100) rfl)) (by decide) (by decide)) (g := (mkF m 1 #[oR o0] [(.ref o0)])) rfl (by rw [hml]; rfl) (Steps.refl _) (a := o0) (argsL := []) (rest := []) (lenOf pd14___V rfl) rfl (by show 2 * 0 + _ ≤ _; exact Nat.le_of_eq rfl) (hb hby d14_1) (fun _ _ => ⟨rfl, e0, (by decide : 0 + 0 ≤ _), (by decide : 0 + 0 ≤ _)⟩)
  dsimp only [Pt.U, Pt.locs, Pt.cells, Pt.slots, oM15] at X1 l1 y1 z1 st1 hQ1
  subst l1 y1 z1
  obtain ⟨rfl, N1q, e1⟩ := hQ1
  have N1 := Fr.app N0 N1q
  refine bk (fun t k => st1.trans k) ?_
  show F (T1.setTop (mkF m 4 #[oR o0] []))
  rw [hF]
  refine own_ret0 X1 hx Bd.notSynchronized Bd.returns (hb hby d14_4) (by decide) (by decide) ?_
  rw [e1]
  exact ⟨rfl, N1, rfl⟩
abbrev oN13 : MethodName := ⟨"java/util/ImmutableCollections$AbstractImmutableList", "<init>", "()V"⟩
abbrev oM13 : Room := { frames := 3, cells := 0, slots := 0, locals := 36 }
theorem d13_0 : decode jdk_46_method_1_code 0 = .ok (.aload_n 0, 1) := by decide +kernel
theorem d13_1 : decode jdk_46_method_1_code 1 = .ok (.invokespecial 1, 3) := by decide +kernel
theorem d13_4 : decode jdk_46_method_1_code 4 = .ok (.return_, 1) := by decide +kernel
theorem pd13___V : parseMethodDescriptor "()V" = some ⟨[], none⟩ := by decide +kernel
theorem pn_13 : plainName "java/util/ImmutableCollections$AbstractImmutableList" = true := by first | (simp [plainName, overriddenIn]; done) | decide +kernel
theorem ef_13 (m : MethodId) (x0 : Addr) : entryFrame m #[(.ref x0)] 1 = mkF m 0 #[.val (.ref x0)] [] := by first | (simp [entryFrame, mkF, argsToLocals, Value.category]; done) | rfl
def Q13 (Z : State) (o0 : Addr) (h0 : Heap) (n0 : Nat) (v : Option Value) (h : Heap) (L : List Loc) : Prop := v = none ∧ Fr n0 L ∧ h = h0
set_option maxRecDepth 65536 in
set_option maxHeartbeats 40000000 in
theorem rm13 (l : Launch) (Z : State) (a0 : Array Value) (hw : ∀ d ∈ tables_1, d.before a0 Z = true) (ws : List Jvm.Cond) (o0 : Addr) (h0 : Heap) (n0 : Nat) (Z0 : n0 ≤ h0.size) :
    MetFree l oN13 (head1 (Jvm.Cond.code oN13 jdk_46_method_1_code 1 none :: ws) oM13) (fun a U => a = #[(.ref o0)] ∧ Z.Warmed39 U.vm ∧ U.heap = h0) (fun _ _ _ _ _ => True) (fun _ U o U' => ∃ v L, o = .returned v ∧ Q13 Z o0 h0 n0 v U'.heap L ∧ FrameEnd U o U' L oM13.cells oM13.slots) := by
  refine MetFree.of_bodySF (plainFor_of_name pn_13) hisR ?_
  intro p e s m args below meth c s₁ Bd hml0 hP hK
  obtain ⟨rfl, hZ, hh⟩ := hP
  have hx := Bd.exec
  have hby := Bd.bytes
  have hml : c.maxLocals = 1 := hml0
  have hown : s.vm.findClass "java/util/ImmutableCollections$AbstractImmutableList" = some m.cls := findClass_of_methodNamed Bd.named
  have hnm := (name_of_methodNamed Bd.named Bd.method).1
  have X0 : Stand p l e oM13 s m #[(.ref o0)] below meth c s₁ [] 0 0 := Stand.of_body Bd
  have e0 : s₁.heap = h0 := by rw [← hh, Bd.state]; rfl
  have N0 := Fr.nil n0
  obtain ⟨F, hF⟩ : ∃ F : State → Prop, F = own_Fin p e below s oM13.cells oM13.slots (fun v h L => Q13 Z o0 h0 n0 v h L) := ⟨_, rfl⟩
  have bk : ∀ {A B : State}, (∀ t, Steps p.tables e below B t → Steps p.tables e below A t) → F B → F A := by
    intro A B h k
    rw [hF] at k ⊢
    exact own_back h k
  suffices hgo : F (s₁.setTop (mkF m 0 #[.val (.ref o0)] [])) by
    have hgo' := bk (fun t k => castTop (T := s₁) (ef_13 m o0) k) hgo
    rw [hF] at hgo'
    exact hgo'
  refine bk (fun t k => XS.aloadN X0.here hx rfl (hb hby d13_0) rfl rfl k) ?_
  obtain ⟨_, _, ⟨T1, L1, k1, n1⟩, -, X1, ⟨Lc1, hQ1, l1, y1, z1⟩, st1⟩ := X0.specialBack hx (y := oN12) rfl hown (mvT hZ (hw _ (List.mem_of_getElem? (i := 90) rfl))) (mvT hZ (hw _ (List.mem_of_getElem? (i := 91) rfl))) (mvT hZ (hw _ (List.mem_of_getElem? (i := 95) rfl))) (by decide) (backOf (W := 0) (rm14 l Z a0 hw [] o0 h0 n0 Z0) hZ (hw _ (List.mem_of_getElem? (i := 95) rfl)) (hw _ (List.mem_of_getElem? (i := 94) rfl)) (by decide) (by decide)) (g := (mkF m 1 #[oR o0] [(.ref o0)])) rfl (by rw [hml]; rfl) (Steps.refl _) (a := o0) (argsL := []) (rest := []) (lenOf pd13___V rfl) rfl (by show 2 * 0 + _ ≤ _; exact Nat.le_of_eq rfl) (hb hby d13_1) (fun _ _ => ⟨rfl, e0, (by decide : 0 + 0 ≤ _), (by decide : 0 + 0 ≤ _)⟩)
  dsimp only [Pt.U, Pt.locs, Pt.cells, Pt.slots, oM14] at X1 l1 y1 z1 st1 hQ1
  subst l1 y1 z1
  obtain ⟨rfl, N1q, e1⟩ := hQ1
  have N1 := Fr.app N0 N1q
  refine bk (fun t k => st1.trans k) ?_
  show F (T1.setTop (mkF m 4 #[oR o0] []))
  rw [hF]
  refine own_ret0 X1 hx Bd.notSynchronized Bd.returns (hb hby d13_4) (by decide) (by decide) ?_
  rw [e1]
  exact ⟨rfl, N1, rfl⟩
abbrev oN14 : MethodName := ⟨"java/util/Objects", "requireNonNull", "(Ljava/lang/Object;)Ljava/lang/Object;"⟩
abbrev oM16 : Room := { frames := 0, cells := 0, slots := 0, locals := 0 }
theorem d16_0 : decode jdk_31_method_10_code 0 = .ok (.aload_n 0, 1) := by decide +kernel
theorem d16_1 : decode jdk_31_method_10_code 1 = .ok (.ifnonnull 11, 3) := by decide +kernel
theorem d16_12 : decode jdk_31_method_10_code 12 = .ok (.aload_n 0, 1) := by decide +kernel
theorem d16_13 : decode jdk_31_method_10_code 13 = .ok (.areturn, 1) := by decide +kernel
theorem pn_16 : plainName "java/util/Objects" = true := by first | (simp [plainName, overriddenIn]; done) | decide +kernel
theorem ef_16 (m : MethodId) (x0 : Addr) : entryFrame m #[(.ref x0)] 1 = mkF m 0 #[.val (.ref x0)] [] := by first | (simp [entryFrame, mkF, argsToLocals, Value.category]; done) | rfl
def Q16 (Z : State) (o0 : Addr) (h0 : Heap) (n0 : Nat) (v : Option Value) (h : Heap) (L : List Loc) : Prop := v = some (.ref o0) ∧ Fr n0 L ∧ h = h0
set_option maxRecDepth 65536 in
set_option maxHeartbeats 40000000 in
theorem rm16 (l : Launch) (Z : State) (a0 : Array Value) (hw : ∀ d ∈ tables_1, d.before a0 Z = true) (ws : List Jvm.Cond) (o0 : Addr) (h0 : Heap) (n0 : Nat) (Z0 : n0 ≤ h0.size) :
    MetFree l oN14 (head1 (Jvm.Cond.code oN14 jdk_31_method_10_code 1 (some (.object "java/lang/Object")) :: ws) oM16) (fun a U => a = #[(.ref o0)] ∧ Z.Warmed39 U.vm ∧ U.heap = h0) (fun _ _ _ _ _ => True) (fun _ U o U' => ∃ v L, o = .returned v ∧ Q16 Z o0 h0 n0 v U'.heap L ∧ FrameEnd U o U' L oM16.cells oM16.slots) := by
  refine MetFree.of_bodySF (plainFor_of_name pn_16) hisR ?_
  intro p e s m args below meth c s₁ Bd hml0 hP hK
  obtain ⟨rfl, hZ, hh⟩ := hP
  have hx := Bd.exec
  have hby := Bd.bytes
  have hml : c.maxLocals = 1 := hml0
  have hown : s.vm.findClass "java/util/Objects" = some m.cls := findClass_of_methodNamed Bd.named
  have hnm := (name_of_methodNamed Bd.named Bd.method).1
  have X0 : Stand p l e oM16 s m #[(.ref o0)] below meth c s₁ [] 0 0 := Stand.of_body Bd
  have e0 : s₁.heap = h0 := by rw [← hh, Bd.state]; rfl
  have N0 := Fr.nil n0
  obtain ⟨F, hF⟩ : ∃ F : State → Prop, F = own_Fin p e below s oM16.cells oM16.slots (fun v h L => Q16 Z o0 h0 n0 v h L) := ⟨_, rfl⟩
  have bk : ∀ {A B : State}, (∀ t, Steps p.tables e below B t → Steps p.tables e below A t) → F B → F A := by
    intro A B h k
    rw [hF] at k ⊢
    exact own_back h k
  suffices hgo : F (s₁.setTop (mkF m 0 #[.val (.ref o0)] [])) by
    have hgo' := bk (fun t k => castTop (T := s₁) (ef_16 m o0) k) hgo
    rw [hF] at hgo'
    exact hgo'
  refine bk (fun t k => XS.aloadN X0.here hx rfl (hb hby d16_0) rfl rfl k) ?_
  refine bk (fun t k => XS.ifnonnullYes X0.here hx rfl (pc0 := 1) (pc' := 12) rfl (hb hby d16_1) rfl (by decide) (by decide) k) ?_
  refine bk (fun t k => XS.aloadN X0.here hx rfl (hb hby d16_12) rfl rfl k) ?_
  show F (s₁.setTop (mkF m 13 #[oR o0] [(.ref o0)]))
  rw [hF]
  refine own_retA X0 hx Bd.notSynchronized Bd.returns rfl rfl (hb hby d16_13) (by decide) (by decide) ?_
  rw [e0]
  exact ⟨rfl, N0, rfl⟩
abbrev oN15 : MethodName := ⟨"java/util/ImmutableCollections$List12", "<init>", "(Ljava/lang/Object;)V"⟩
abbrev oM12 : Room := { frames := 4, cells := 0, slots := 0, locals := 48 }
theorem d12_0 : decode jdk_44_method_1_code 0 = .ok (.aload_n 0, 1) := by decide +kernel
theorem d12_1 : decode jdk_44_method_1_code 1 = .ok (.invokespecial 1, 3) := by decide +kernel
theorem d12_4 : decode jdk_44_method_1_code 4 = .ok (.aload_n 0, 1) := by decide +kernel
theorem d12_5 : decode jdk_44_method_1_code 5 = .ok (.aload_n 1, 1) := by decide +kernel
theorem d12_6 : decode jdk_44_method_1_code 6 = .ok (.invokestatic 7, 3) := by decide +kernel
theorem d12_9 : decode jdk_44_method_1_code 9 = .ok (.putfield 13, 3) := by decide +kernel
theorem d12_12 : decode jdk_44_method_1_code 12 = .ok (.aload_n 0, 1) := by decide +kernel
theorem d12_13 : decode jdk_44_method_1_code 13 = .ok (.getstatic 19, 3) := by decide +kernel
theorem d12_16 : decode jdk_44_method_1_code 16 = .ok (.putfield 24, 3) := by decide +kernel
theorem d12_19 : decode jdk_44_method_1_code 19 = .ok (.return_, 1) := by decide +kernel
theorem pd12___V : parseMethodDescriptor "()V" = some ⟨[], none⟩ := by decide +kernel
theorem pd12__Ljava_lang_Object__Ljava_lang_Object_ : parseMethodDescriptor "(Ljava/lang/Object;)Ljava/lang/Object;" = some ⟨[(.object "java/lang/Object")], some (.object "java/lang/Object")⟩ := by decide +kernel
theorem pn_12 : plainName "java/util/ImmutableCollections$List12" = true := by first | (simp [plainName, overriddenIn]; done) | decide +kernel
theorem ef_12 (m : MethodId) (x0 : Addr) (x1 : Addr) : entryFrame m #[(.ref x0), (.ref x1)] 2 = mkF m 0 #[.val (.ref x0), .val (.ref x1)] [] := by first | (simp [entryFrame, mkF, argsToLocals, Value.category]; done) | rfl
def Q12 (Z : State) (o0 : Addr) (o1 : Addr) (w_e : Addr) (h0 : Heap) (n0 : Nat) (v : Option Value) (h : Heap) (L : List Loc) : Prop := v = none ∧ Fr n0 L ∧ Keep h0 h [o0] ∧ Exa Z h o0 "java/util/ImmutableCollections$List12" ∧ Fld Z h o0 "java/util/ImmutableCollections$List12" "e0" "Ljava/lang/Object;" (.ref o1) ∧ Fld Z h o0 "java/util/ImmutableCollections$List12" "e1" "Ljava/lang/Object;" (.ref w_e)
set_option maxRecDepth 65536 in
set_option maxHeartbeats 40000000 in
theorem rm12 (l : Launch) (Z : State) (a0 : Array Value) (hw : ∀ d ∈ tables_1, d.before a0 Z = true) (ws : List Jvm.Cond) (o0 : Addr) (o1 : Addr) (w_e : Addr) (h0 : Heap) (n0 : Nat) (Z0 : n0 ≤ h0.size) (E_o0 : Exa Z h0 o0 "java/util/ImmutableCollections$List12") (F_a : Fld Z h0 o0 "java/util/ImmutableCollections$List12" "e0" "Ljava/lang/Object;" .null) (F_b : Fld Z h0 o0 "java/util/ImmutableCollections$List12" "e1" "Ljava/lang/Object;" .null) (S_e : Sta Z h0 "java/util/ImmutableCollections" "EMPTY" "Ljava/lang/Object;" (.ref w_e)) (g_o0 : n0 ≤ o0) :
    MetFree l oN15 (head1 (Jvm.Cond.code oN15 jdk_44_method_1_code 2 none :: ws) oM12) (fun a U => a = #[(.ref o0), (.ref o1)] ∧ Z.Warmed39 U.vm ∧ U.heap = h0) (fun _ _ _ _ _ => True) (fun _ U o U' => ∃ v L, o = .returned v ∧ Q12 Z o0 o1 w_e h0 n0 v U'.heap L ∧ FrameEnd U o U' L oM12.cells oM12.slots) := by
  refine MetFree.of_bodySF (plainFor_of_name pn_12) hisR ?_
  intro p e s m args below meth c s₁ Bd hml0 hP hK
  obtain ⟨rfl, hZ, hh⟩ := hP
  have hx := Bd.exec
  have hby := Bd.bytes
  have hml : c.maxLocals = 2 := hml0
  have hown : s.vm.findClass "java/util/ImmutableCollections$List12" = some m.cls := findClass_of_methodNamed Bd.named
  have hnm := (name_of_methodNamed Bd.named Bd.method).1
  have X0 : Stand p l e oM12 s m #[(.ref o0), (.ref o1)] below meth c s₁ [] 0 0 := Stand.of_body Bd
  have e0 : s₁.heap = h0 := by rw [← hh, Bd.state]; rfl
  have N0 := Fr.nil n0
  obtain ⟨F, hF⟩ : ∃ F : State → Prop, F = own_Fin p e below s oM12.cells oM12.slots (fun v h L => Q12 Z o0 o1 w_e h0 n0 v h L) := ⟨_, rfl⟩
  have bk : ∀ {A B : State}, (∀ t, Steps p.tables e below B t → Steps p.tables e below A t) → F B → F A := by
    intro A B h k
    rw [hF] at k ⊢
    exact own_back h k
  suffices hgo : F (s₁.setTop (mkF m 0 #[.val (.ref o0), .val (.ref o1)] [])) by
    have hgo' := bk (fun t k => castTop (T := s₁) (ef_12 m o0 o1) k) hgo
    rw [hF] at hgo'
    exact hgo'
  have w_78 := hw _ (List.mem_of_getElem? (i := 78) rfl)
  have w_84 := hw _ (List.mem_of_getElem? (i := 84) rfl)
  have w_85 := hw _ (List.mem_of_getElem? (i := 85) rfl)
  have w_88 := hw _ (List.mem_of_getElem? (i := 88) rfl)
  have w_89 := hw _ (List.mem_of_getElem? (i := 89) rfl)
  have w_103 := hw _ (List.mem_of_getElem? (i := 103) rfl)
  have w_104 := hw _ (List.mem_of_getElem? (i := 104) rfl)
  have w_105 := hw _ (List.mem_of_getElem? (i := 105) rfl)
  have w_106 := hw _ (List.mem_of_getElem? (i := 106) rfl)
  have w_107 := hw _ (List.mem_of_getElem? (i := 107) rfl)
  have w_108 := hw _ (List.mem_of_getElem? (i := 108) rfl)
  have w_109 := hw _ (List.mem_of_getElem? (i := 109) rfl)
  have w_111 := hw _ (List.mem_of_getElem? (i := 111) rfl)
  have w_112 := hw _ (List.mem_of_getElem? (i := 112) rfl)
  refine bk (fun t k => XS.aloadN X0.here hx rfl (hb hby d12_0) rfl rfl k) ?_
  obtain ⟨_, _, ⟨T1, L1, k1, n1⟩, -, X1, ⟨Lc1, hQ1, l1, y1, z1⟩, st1⟩ := X0.specialBack hx (y := oN13) rfl hown (mvT hZ w_84) (mvT hZ w_85) (mvT hZ w_89) (by decide) (backOf (W := 0) (rm13 l Z a0 hw [] o0 h0 n0 Z0) hZ w_89 w_88 (by decide) (by decide)) (g := (mkF m 1 #[oR o0, oR o1] [(.ref o0)])) rfl (by rw [hml]; rfl) (Steps.refl _) (a := o0) (argsL := []) (rest := []) (lenOf pd12___V rfl) rfl (by show 2 * 0 + _ ≤ _; exact Nat.le_of_eq rfl) (hb hby d12_1) (fun _ _ => ⟨rfl, e0, (by decide : 0 + 0 ≤ _), (by decide : 0 + 0 ≤ _)⟩)
  dsimp only [Pt.U, Pt.locs, Pt.cells, Pt.slots, oM13] at X1 l1 y1 z1 st1 hQ1
  subst l1 y1 z1
  obtain ⟨rfl, N1q, e1⟩ := hQ1
  have N1 := Fr.app N0 N1q
  refine bk (fun t k => st1.trans k) ?_
  refine bk (fun t k => XS.aloadN X1.here hx rfl (hb hby d12_4) rfl rfl k) ?_
  refine bk (fun t k => XS.aloadN X1.here hx rfl (hb hby d12_5) rfl rfl k) ?_
  show F (T1.setTop (mkF m 6 #[oR o0, oR o1] [(.ref o1), (.ref o0)]))
  obtain ⟨_, _, ⟨T2, L2, k2, n2⟩, -, X2, ⟨Lc2, hQ2, l2, y2, z2⟩, st2⟩ := Jvm.LawKit.callS X1 hx (y := oN14) hown (mvT hZ w_103) (mvT hZ w_104) (mvT hZ w_105) (mvT hZ w_106) (by decide) (backOf (W := 1) (rm16 l Z a0 hw [] o1 h0 n0 Z0) hZ w_106 w_105 (by decide) (by decide)) (g := (mkF m 6 #[oR o0, oR o1] [(.ref o1), (.ref o0)])) rfl (by rw [hml]; rfl) (argsL := [(.ref o1)]) (rest := [(.ref o0)]) (lenOf pd12__Ljava_lang_Object__Ljava_lang_Object_ rfl) rfl (by show 2 * 0 + _ ≤ _; exact Nat.le_of_eq rfl) (hb hby d12_6) (fun _ _ => ⟨rfl, e1, (by decide : 0 + 0 ≤ _), (by decide : 0 + 0 ≤ _)⟩)
  dsimp only [Pt.U, Pt.locs, Pt.cells, Pt.slots, oM16] at X2 l2 y2 z2 st2 hQ2
  subst l2 y2 z2
  obtain ⟨rfl, N2q, e2⟩ := hQ2
  have N2 := Fr.app N1 N2q
  refine bk (fun t k => st2 t k) ?_
  show F (T2.setTop (mkF m 9 #[oR o0, oR o1] [(.ref o1), (.ref o0)]))
  obtain ⟨T3, h3, X3, e3, W3, st3⟩ := putF X2 hx hZ hown (host := "") (Or.inl w_107) Via.refl e2 F_a E_o0 (Or.inr ⟨w_108, rfl, hnm⟩) w_78 (ty := (.object "java/lang/Object")) (by decide) rfl rfl (g := (mkF m 9 #[oR o0, oR o1] [(.ref o1), (.ref o0)])) rfl rfl (hb hby d12_9)
  have f4 := E_o0.wr W3
  have f5 := F_a.same W3
  have f6 := F_b.other W3 (Or.inr (slot_ne (Or.inr w_112) (Or.inr w_108) (by decide) (t := (.object "java/lang/Object")) (t' := (.object "java/lang/Object")) (by decide) (by decide)))
  have f7 := S_e.wr W3
  have f8 := Nat.le_trans Z0 (Keep.of_wr W3).1
  have f9 := (Keep.refl h0 [o0]).wr W3 (Or.inl (List.mem_of_getElem? (i := 0) rfl))
  have N3 := Fr.snoc X3 N2 g_o0
  refine bk (fun t k => st3 t k) ?_
  refine bk (fun t k => XS.aloadN X3.here hx rfl (hb hby d12_12) rfl rfl k) ?_
  show F (T3.setTop (mkF m 13 #[oR o0, oR o1] [(.ref o0)]))
  obtain ⟨T10, X10, e10, st10⟩ := getS2 X3 hx hZ hown (Or.inr w_109) Via.refl e3 f7 (g := (mkF m 13 #[oR o0, oR o1] [(.ref o0)])) rfl (hb hby d12_13)
  refine bk (fun t k => st10 t k) ?_
  show F (T10.setTop (mkF m 16 #[oR o0, oR o1] [(.ref w_e), (.ref o0)]))
  obtain ⟨T11, h11, X11, e11, W11, st11⟩ := putF X10 hx hZ hown (host := "") (Or.inl w_111) Via.refl e10 f6 f4 (Or.inr ⟨w_112, rfl, hnm⟩) w_78 (ty := (.object "java/lang/Object")) (by decide) rfl rfl (g := (mkF m 16 #[oR o0, oR o1] [(.ref w_e), (.ref o0)])) rfl rfl (hb hby d12_16)
  have f12 := f4.wr W11
  have f13 := f5.other W11 (Or.inr (slot_ne (Or.inr w_108) (Or.inr w_112) (by decide) (t := (.object "java/lang/Object")) (t' := (.object "java/lang/Object")) (by decide) (by decide)))
  have f14 := f6.same W11
  have f15 := f7.wr W11
  have f16 := Nat.le_trans f8 (Keep.of_wr W11).1
  have f17 := f9.wr W11 (Or.inl (List.mem_of_getElem? (i := 0) rfl))
  have N11 := Fr.snoc X11 N3 g_o0
  refine bk (fun t k => st11 t k) ?_
  show F (T11.setTop (mkF m 19 #[oR o0, oR o1] []))
  rw [hF]
  refine own_ret0 X11 hx Bd.notSynchronized Bd.returns (hb hby d12_19) (by decide) (by decide) ?_
  rw [e11]
  exact ⟨rfl, N11, f17, f12, f13, f14⟩
abbrev oN16 : MethodName := ⟨"java/util/List", "of", "(Ljava/lang/Object;)Ljava/util/List;"⟩
abbrev oM11 : Room := { frames := 5, cells := 1, slots := 2, locals := 62 }
theorem d11_0 : decode jdk_40_method_37_code 0 = .ok (.new 96, 3) := by decide +kernel
theorem d11_3 : decode jdk_40_method_37_code 3 = .ok (.dup, 1) := by decide +kernel
theorem d11_4 : decode jdk_40_method_37_code 4 = .ok (.aload_n 0, 1) := by decide +kernel
theorem d11_5 : decode jdk_40_method_37_code 5 = .ok (.invokespecial 98, 3) := by decide +kernel
theorem d11_8 : decode jdk_40_method_37_code 8 = .ok (.areturn, 1) := by decide +kernel
theorem pd11__Ljava_lang_Object__V : parseMethodDescriptor "(Ljava/lang/Object;)V" = some ⟨[(.object "java/lang/Object")], none⟩ := by decide +kernel
theorem pn_11 : plainName "java/util/List" = true := by first | (simp [plainName, overriddenIn]; done) | decide +kernel
theorem ef_11 (m : MethodId) (x0 : Addr) : entryFrame m #[(.ref x0)] 1 = mkF m 0 #[.val (.ref x0)] [] := by first | (simp [entryFrame, mkF, argsToLocals, Value.category]; done) | rfl
def Q11 (Z : State) (o0 : Addr) (w_e : Addr) (h0 : Heap) (n0 : Nat) (v : Option Value) (h : Heap) (L : List Loc) : Prop := ∃ r : Addr, v = some (.ref r) ∧ Fr n0 L ∧ Keep h0 h [] ∧ Exa Z h r "java/util/ImmutableCollections$List12" ∧ Fld Z h r "java/util/ImmutableCollections$List12" "e0" "Ljava/lang/Object;" (.ref o0) ∧ Fld Z h r "java/util/ImmutableCollections$List12" "e1" "Ljava/lang/Object;" (.ref w_e) ∧ n0 ≤ r
set_option maxRecDepth 65536 in
set_option maxHeartbeats 40000000 in
theorem rm11 (l : Launch) (Z : State) (a0 : Array Value) (hw : ∀ d ∈ tables_1, d.before a0 Z = true) (ws : List Jvm.Cond) (o0 : Addr) (w_e : Addr) (h0 : Heap) (n0 : Nat) (Z0 : n0 ≤ h0.size) (S_e : Sta Z h0 "java/util/ImmutableCollections" "EMPTY" "Ljava/lang/Object;" (.ref w_e)) :
    MetFree l oN16 (head1 (Jvm.Cond.code oN16 jdk_40_method_37_code 1 (some (.object "java/util/List")) :: ws) oM11) (fun a U => a = #[(.ref o0)] ∧ Z.Warmed39 U.vm ∧ U.heap = h0) (fun _ _ _ _ _ => True) (fun _ U o U' => ∃ v L, o = .returned v ∧ Q11 Z o0 w_e h0 n0 v U'.heap L ∧ FrameEnd U o U' L oM11.cells oM11.slots) := by
  refine MetFree.of_bodySF (plainFor_of_name pn_11) hisR ?_
  intro p e s m args below meth c s₁ Bd hml0 hP hK
  obtain ⟨rfl, hZ, hh⟩ := hP
  have hx := Bd.exec
  have hby := Bd.bytes
  have hml : c.maxLocals = 1 := hml0
  have hown : s.vm.findClass "java/util/List" = some m.cls := findClass_of_methodNamed Bd.named
  have hnm := (name_of_methodNamed Bd.named Bd.method).1
  have X0 : Stand p l e oM11 s m #[(.ref o0)] below meth c s₁ [] 0 0 := Stand.of_body Bd
  have e0 : s₁.heap = h0 := by rw [← hh, Bd.state]; rfl
  have N0 := Fr.nil n0
  obtain ⟨F, hF⟩ : ∃ F : State → Prop, F = own_Fin p e below s oM11.cells oM11.slots (fun v h L => Q11 Z o0 w_e h0 n0 v h L) := ⟨_, rfl⟩
  have bk : ∀ {A B : State}, (∀ t, Steps p.tables e below B t → Steps p.tables e below A t) → F B → F A := by
    intro A B h k
    rw [hF] at k ⊢
    exact own_back h k
  suffices hgo : F (s₁.setTop (mkF m 0 #[.val (.ref o0)] [])) by
    have hgo' := bk (fun t k => castTop (T := s₁) (ef_11 m o0) k) hgo
    rw [hF] at hgo'
    exact hgo'
  obtain ⟨T1, h1, X1, e1, E1, A1, D1, -, st1⟩ := newO X0 hx hZ hown (hw _ (List.mem_of_getElem? (i := 77) rfl)) (hw _ (List.mem_of_getElem? (i := 78) rfl)) (hw _ (List.mem_of_getElem? (i := 79) rfl)) e0 (g := (mkF m 0 #[oR o0] [])) rfl (hb hby d11_0) (by decide) (by decide)
  obtain ⟨b1, g1⟩ : ∃ z, z = h0.size := ⟨_, rfl⟩
  rw [← g1] at A1 D1 st1
  have Gb1 : n0 ≤ b1 := Nat.le_trans Z0 (Nat.le_of_eq g1.symm)
  have sz_b1 : h0.size ≤ b1 := Nat.le_trans (Keep.refl h0 []).1 (Nat.le_of_eq g1.symm)
  have f2 := Nat.le_trans Z0 E1.1
  have f3 := (Keep.refl h0 []).ext E1
  have f4 := S_e.ext E1
  have F_e0_b1 : Fld Z h1 b1 "java/util/ImmutableCollections$List12" "e0" "Ljava/lang/Object;" .null := D1 (Or.inr (hw _ (List.mem_of_getElem? (i := 108) rfl))) (ty := (.object "java/lang/Object")) (by decide)
  have F_e1_b1 : Fld Z h1 b1 "java/util/ImmutableCollections$List12" "e1" "Ljava/lang/Object;" .null := D1 (Or.inr (hw _ (List.mem_of_getElem? (i := 112) rfl))) (ty := (.object "java/lang/Object")) (by decide)
  refine bk (fun t k => st1 t k) ?_
  refine bk (fun t k => XS.dup X1.here hx rfl (hb hby d11_3) rfl rfl k) ?_
  refine bk (fun t k => XS.aloadN X1.here hx rfl (hb hby d11_4) rfl rfl k) ?_
  show F (T1.setTop (mkF m 5 #[oR o0] [(.ref o0), (.ref b1), (.ref b1)]))
  obtain ⟨_, _, ⟨T5, L5, k5, n5⟩, -, X5, ⟨Lc5, hQ5, l5, y5, z5⟩, st5⟩ := X1.specialBack hx (y := oN15) rfl hown (mvT hZ (hw _ (List.mem_of_getElem? (i := 80) rfl))) (mvT hZ (hw _ (List.mem_of_getElem? (i := 81) rfl))) (mvT hZ (hw _ (List.mem_of_getElem? (i := 83) rfl))) (by decide) (backOf (W := 1) (rm12 l Z a0 hw [] b1 o0 w_e h1 n0 f2 A1 F_e0_b1 F_e1_b1 f4 Gb1) hZ (hw _ (List.mem_of_getElem? (i := 83) rfl)) (hw _ (List.mem_of_getElem? (i := 79) rfl)) (by decide) (by decide)) (g := (mkF m 5 #[oR o0] [(.ref o0), (.ref b1), (.ref b1)])) rfl (by rw [hml]; rfl) (Steps.refl _) (a := b1) (argsL := [(.ref o0)]) (rest := [(.ref b1)]) (lenOf pd11__Ljava_lang_Object__V rfl) rfl (by show 2 * 0 + _ ≤ _; exact Nat.le_of_eq rfl) (hb hby d11_5) (fun _ _ => ⟨rfl, e1, (by decide : 1 + 0 ≤ _), (by decide : 2 + 0 ≤ _)⟩)
  dsimp only [Pt.U, Pt.locs, Pt.cells, Pt.slots, oM12] at X5 l5 y5 z5 st5 hQ5
  subst l5 y5 z5
  obtain ⟨rfl, N5q, K5, gE5, gA5, gB5⟩ := hQ5
  have N5 := Fr.app N0 N5q
  have f6 := Nat.le_trans f2 K5.1
  have f7 := f3.trans K5 (allS (Or.inr sz_b1) all0)
  have f8 := own_sta1 f4 K5 A1
  have f9 := A1.keep K5
  refine bk (fun t k => st5.trans k) ?_
  show F (T5.setTop (mkF m 8 #[oR o0] [(.ref b1)]))
  rw [hF]
  refine own_retA X5 hx Bd.notSynchronized Bd.returns rfl rfl (hb hby d11_8) (by decide) (by decide) ?_
  exact ⟨_, rfl, N5, f7, gE5, gA5, gB5, Gb1⟩
abbrev oN17 : MethodName := ⟨"java/util/ImmutableCollections$List12", "size", "()I"⟩
abbrev oM19 : Room := { frames := 0, cells := 0, slots := 0, locals := 0 }
theorem d19_0 : decode jdk_44_method_3_code 0 = .ok (.aload_n 0, 1) := by decide +kernel
theorem d19_1 : decode jdk_44_method_3_code 1 = .ok (.getfield 24, 3) := by decide +kernel
theorem d19_4 : decode jdk_44_method_3_code 4 = .ok (.getstatic 19, 3) := by decide +kernel
theorem d19_7 : decode jdk_44_method_3_code 7 = .ok (.if_acmp .eq 7, 3) := by decide +kernel
theorem d19_14 : decode jdk_44_method_3_code 14 = .ok (.iconst 1, 1) := by decide +kernel
theorem d19_15 : decode jdk_44_method_3_code 15 = .ok (.ireturn, 1) := by decide +kernel
theorem pn_19 : plainName "java/util/ImmutableCollections$List12" = true := by first | (simp [plainName, overriddenIn]; done) | decide +kernel
theorem ef_19 (m : MethodId) (x0 : Addr) : entryFrame m #[(.ref x0)] 1 = mkF m 0 #[.val (.ref x0)] [] := by first | (simp [entryFrame, mkF, argsToLocals, Value.category]; done) | rfl
def Q19 (Z : State) (o0 : Addr) (w_e : Addr) (h0 : Heap) (n0 : Nat) (v : Option Value) (h : Heap) (L : List Loc) : Prop := v = some (.int (1 : Int32)) ∧ Fr n0 L ∧ h = h0
set_option maxRecDepth 65536 in
set_option maxHeartbeats 40000000 in
theorem rm19 (l : Launch) (Z : State) (a0 : Array Value) (hw : ∀ d ∈ tables_1, d.before a0 Z = true) (ws : List Jvm.Cond) (o0 : Addr) (w_e : Addr) (h0 : Heap) (n0 : Nat) (Z0 : n0 ≤ h0.size) (F_b : Fld Z h0 o0 "java/util/ImmutableCollections$List12" "e1" "Ljava/lang/Object;" (.ref w_e)) (S_e : Sta Z h0 "java/util/ImmutableCollections" "EMPTY" "Ljava/lang/Object;" (.ref w_e)) :
    MetFree l oN17 (head1 (Jvm.Cond.code oN17 jdk_44_method_3_code 1 (some .int) :: ws) oM19) (fun a U => a = #[(.ref o0)] ∧ Z.Warmed39 U.vm ∧ U.heap = h0) (fun _ _ _ _ _ => True) (fun _ U o U' => ∃ v L, o = .returned v ∧ Q19 Z o0 w_e h0 n0 v U'.heap L ∧ FrameEnd U o U' L oM19.cells oM19.slots) := by
  refine MetFree.of_bodySF (plainFor_of_name pn_19) hisR ?_
  intro p e s m args below meth c s₁ Bd hml0 hP hK
  obtain ⟨rfl, hZ, hh⟩ := hP
  have hx := Bd.exec
  have hby := Bd.bytes
  have hml : c.maxLocals = 1 := hml0
  have hown : s.vm.findClass "java/util/ImmutableCollections$List12" = some m.cls := findClass_of_methodNamed Bd.named
  have hnm := (name_of_methodNamed Bd.named Bd.method).1
  have X0 : Stand p l e oM19 s m #[(.ref o0)] below meth c s₁ [] 0 0 := Stand.of_body Bd
  have e0 : s₁.heap = h0 := by rw [← hh, Bd.state]; rfl
  have N0 := Fr.nil n0
  obtain ⟨F, hF⟩ : ∃ F : State → Prop, F = own_Fin p e below s oM19.cells oM19.slots (fun v h L => Q19 Z o0 w_e h0 n0 v h L) := ⟨_, rfl⟩
  have bk : ∀ {A B : State}, (∀ t, Steps p.tables e below B t → Steps p.tables e below A t) → F B → F A := by
    intro A B h k
    rw [hF] at k ⊢
    exact own_back h k
  suffices hgo : F (s₁.setTop (mkF m 0 #[.val (.ref o0)] [])) by
    have hgo' := bk (fun t k => castTop (T := s₁) (ef_19 m o0) k) hgo
    rw [hF] at hgo'
    exact hgo'
  refine bk (fun t k => XS.aloadN X0.here hx rfl (hb hby d19_0) rfl rfl k) ?_
  obtain ⟨T1, X1, e1, st1⟩ := getF X0 hx hZ hown (host := "") (Or.inl (hw _ (List.mem_of_getElem? (i := 111) rfl))) Via.refl e0 F_b (g := (mkF m 1 #[oR o0] [(.ref o0)])) rfl rfl (hb hby d19_1)
  refine bk (fun t k => st1 t k) ?_
  show F (T1.setTop (mkF m 4 #[oR o0] [(.ref w_e)]))
  obtain ⟨T2, X2, e2, st2⟩ := getS2 X1 hx hZ hown (Or.inr (hw _ (List.mem_of_getElem? (i := 109) rfl))) Via.refl e1 S_e (g := (mkF m 4 #[oR o0] [(.ref w_e)])) rfl (hb hby d19_4)
  refine bk (fun t k => st2 t k) ?_
  show F (T2.setTop (mkF m 7 #[oR o0] [(.ref w_e), (.ref w_e)]))
  refine bk (fun t k => Jvm.RoadKit.acmp (g := (mkF m 7 #[oR o0] [(.ref w_e), (.ref w_e)])) X2 hx rfl rfl rfl (pc0 := 7) (pc' := 14) (same := true) rfl (hb hby d19_7) rfl (decide_eq_true rfl) (by decide) (by decide) k) ?_
  refine bk (fun t k => XS.iconst X2.here hx rfl (hb hby d19_14) k) ?_
  rw [hF]
  refine own_retI X2 hx Bd.notSynchronized Bd.returns (hb hby d19_15) (by decide) (by decide) ?_
  rw [e2]
  exact ⟨rfl, N0, rfl⟩
abbrev oN18 : MethodName := ⟨"java/util/ImmutableCollections$List12", "get", "(I)Ljava/lang/Object;"⟩
abbrev oM20 : Room := { frames := 0, cells := 0, slots := 0, locals := 0 }
theorem d20_0 : decode jdk_44_method_5_code 0 = .ok (.iload_n 1, 1) := by decide +kernel
theorem d20_1 : decode jdk_44_method_5_code 1 = .ok (.ifCond .ne 8, 3) := by decide +kernel
theorem d20_4 : decode jdk_44_method_5_code 4 = .ok (.aload_n 0, 1) := by decide +kernel
theorem d20_5 : decode jdk_44_method_5_code 5 = .ok (.getfield 13, 3) := by decide +kernel
theorem d20_8 : decode jdk_44_method_5_code 8 = .ok (.areturn, 1) := by decide +kernel
theorem pn_20 : plainName "java/util/ImmutableCollections$List12" = true := by first | (simp [plainName, overriddenIn]; done) | decide +kernel
theorem ef_20 (m : MethodId) (x0 : Addr) (x1 : Int32) : entryFrame m #[(.ref x0), (.int x1)] 2 = mkF m 0 #[.val (.ref x0), .val (.int x1)] [] := by first | (simp [entryFrame, mkF, argsToLocals, Value.category]; done) | rfl
def Q20 (Z : State) (o0 : Addr) (x : Addr) (h0 : Heap) (n0 : Nat) (v : Option Value) (h : Heap) (L : List Loc) : Prop := v = some (.ref x) ∧ Fr n0 L ∧ h = h0
set_option maxRecDepth 65536 in
set_option maxHeartbeats 40000000 in
theorem rm20 (l : Launch) (Z : State) (a0 : Array Value) (hw : ∀ d ∈ tables_1, d.before a0 Z = true) (ws : List Jvm.Cond) (o0 : Addr) (x : Addr) (h0 : Heap) (n0 : Nat) (Z0 : n0 ≤ h0.size) (F_a : Fld Z h0 o0 "java/util/ImmutableCollections$List12" "e0" "Ljava/lang/Object;" (.ref x)) :
    MetFree l oN18 (head1 (Jvm.Cond.code oN18 jdk_44_method_5_code 2 (some (.object "java/lang/Object")) :: ws) oM20) (fun a U => a = #[(.ref o0), (.int (0 : Int32))] ∧ Z.Warmed39 U.vm ∧ U.heap = h0) (fun _ _ _ _ _ => True) (fun _ U o U' => ∃ v L, o = .returned v ∧ Q20 Z o0 x h0 n0 v U'.heap L ∧ FrameEnd U o U' L oM20.cells oM20.slots) := by
  refine MetFree.of_bodySF (plainFor_of_name pn_20) hisR ?_
  intro p e s m args below meth c s₁ Bd hml0 hP hK
  obtain ⟨rfl, hZ, hh⟩ := hP
  have hx := Bd.exec
  have hby := Bd.bytes
  have hml : c.maxLocals = 2 := hml0
  have hown : s.vm.findClass "java/util/ImmutableCollections$List12" = some m.cls := findClass_of_methodNamed Bd.named
  have hnm := (name_of_methodNamed Bd.named Bd.method).1
  have X0 : Stand p l e oM20 s m #[(.ref o0), (.int (0 : Int32))] below meth c s₁ [] 0 0 := Stand.of_body Bd
  have e0 : s₁.heap = h0 := by rw [← hh, Bd.state]; rfl
  have N0 := Fr.nil n0
  obtain ⟨F, hF⟩ : ∃ F : State → Prop, F = own_Fin p e below s oM20.cells oM20.slots (fun v h L => Q20 Z o0 x h0 n0 v h L) := ⟨_, rfl⟩
  have bk : ∀ {A B : State}, (∀ t, Steps p.tables e below B t → Steps p.tables e below A t) → F B → F A := by
    intro A B h k
    rw [hF] at k ⊢
    exact own_back h k
  suffices hgo : F (s₁.setTop (mkF m 0 #[.val (.ref o0), .val (.int (0 : Int32))] [])) by
    have hgo' := bk (fun t k => castTop (T := s₁) (ef_20 m o0 (0 : Int32)) k) hgo
    rw [hF] at hgo'
    exact hgo'
  refine bk (fun t k => XS.iloadN X0.here hx rfl (hb hby d20_0) rfl k) ?_
  refine bk (fun t k => XS.ifNo X0.here hx rfl (hb hby d20_1) rfl ((if0 _ _).trans (teq (by decide : (0 : Int32) = (0 : Int32))).2) k) ?_
  refine bk (fun t k => XS.aloadN X0.here hx rfl (hb hby d20_4) rfl rfl k) ?_
  show F (s₁.setTop (mkF m 5 #[oR o0, .val (.int (0 : Int32))] [(.ref o0)]))
  obtain ⟨T1, X1, e1, st1⟩ := getF X0 hx hZ hown (host := "") (Or.inl (hw _ (List.mem_of_getElem? (i := 107) rfl))) Via.refl e0 F_a (g := (mkF m 5 #[oR o0, .val (.int (0 : Int32))] [(.ref o0)])) rfl rfl (hb hby d20_5)
  refine bk (fun t k => st1 t k) ?_
  show F (T1.setTop (mkF m 8 #[oR o0, .val (.int (0 : Int32))] [(.ref x)]))
  rw [hF]
  refine own_retA X1 hx Bd.notSynchronized Bd.returns rfl rfl (hb hby d20_8) (by decide) (by decide) ?_
  rw [e1]
  exact ⟨rfl, N0, rfl⟩
abbrev oN19 : MethodName := ⟨"java/util/AbstractList", "<init>", "()V"⟩
abbrev oM18 : Room := { frames := 2, cells := 0, slots := 0, locals := 24 }
theorem d18_0 : decode jdk_39_method_1_code 0 = .ok (.aload_n 0, 1) := by decide +kernel
theorem d18_1 : decode jdk_39_method_1_code 1 = .ok (.invokespecial 1, 3) := by decide +kernel
theorem d18_4 : decode jdk_39_method_1_code 4 = .ok (.aload_n 0, 1) := by decide +kernel
theorem d18_5 : decode jdk_39_method_1_code 5 = .ok (.iconst 0, 1) := by decide +kernel
theorem d18_6 : decode jdk_39_method_1_code 6 = .ok (.putfield 7, 3) := by decide +kernel
theorem d18_9 : decode jdk_39_method_1_code 9 = .ok (.return_, 1) := by decide +kernel
theorem pd18___V : parseMethodDescriptor "()V" = some ⟨[], none⟩ := by decide +kernel
theorem pn_18 : plainName "java/util/AbstractList" = true := by first | (simp [plainName, overriddenIn]; done) | decide +kernel
theorem ef_18 (m : MethodId) (x0 : Addr) : entryFrame m #[(.ref x0)] 1 = mkF m 0 #[.val (.ref x0)] [] := by first | (simp [entryFrame, mkF, argsToLocals, Value.category]; done) | rfl
def Q18 (Z : State) (o0 : Addr) (h0 : Heap) (n0 : Nat) (v : Option Value) (h : Heap) (L : List Loc) : Prop := v = none ∧ Fr n0 L ∧ Keep h0 h [o0] ∧ Exa Z h o0 "java/util/ArrayList" ∧ Fld Z h o0 "java/util/AbstractList" "modCount" "I" (.int (0 : Int32)) ∧ Fld Z h o0 "java/util/ArrayList" "size" "I" (.int (0 : Int32)) ∧ Fld Z h o0 "java/util/ArrayList" "elementData" "[Ljava/lang/Object;" .null
set_option maxRecDepth 65536 in
set_option maxHeartbeats 40000000 in
theorem rm18 (l : Launch) (Z : State) (a0 : Array Value) (hw : ∀ d ∈ tables_1, d.before a0 Z = true) (ws : List Jvm.Cond) (o0 : Addr) (h0 : Heap) (n0 : Nat) (Z0 : n0 ≤ h0.size) (E_al : Exa Z h0 o0 "java/util/ArrayList") (F_modCount : Fld Z h0 o0 "java/util/AbstractList" "modCount" "I" (.int (0 : Int32))) (F_size : Fld Z h0 o0 "java/util/ArrayList" "size" "I" (.int (0 : Int32))) (F_elementData : Fld Z h0 o0 "java/util/ArrayList" "elementData" "[Ljava/lang/Object;" .null) (g_o0 : n0 ≤ o0) :
    MetFree l oN19 (head1 (Jvm.Cond.code oN19 jdk_39_method_1_code 1 none :: ws) oM18) (fun a U => a = #[(.ref o0)] ∧ Z.Warmed39 U.vm ∧ U.heap = h0) (fun _ _ _ _ _ => True) (fun _ U o U' => ∃ v L, o = .returned v ∧ Q18 Z o0 h0 n0 v U'.heap L ∧ FrameEnd U o U' L oM18.cells oM18.slots) := by
  refine MetFree.of_bodySF (plainFor_of_name pn_18) hisR ?_
  intro p e s m args below meth c s₁ Bd hml0 hP hK
  obtain ⟨rfl, hZ, hh⟩ := hP
  have hx := Bd.exec
  have hby := Bd.bytes
  have hml : c.maxLocals = 1 := hml0
  have hown : s.vm.findClass "java/util/AbstractList" = some m.cls := findClass_of_methodNamed Bd.named
  have hnm := (name_of_methodNamed Bd.named Bd.method).1
  have X0 : Stand p l e oM18 s m #[(.ref o0)] below meth c s₁ [] 0 0 := Stand.of_body Bd
  have e0 : s₁.heap = h0 := by rw [← hh, Bd.state]; rfl
  have N0 := Fr.nil n0
  obtain ⟨F, hF⟩ : ∃ F : State → Prop, F = own_Fin p e below s oM18.cells oM18.slots (fun v h L => Q18 Z o0 h0 n0 v h L) := ⟨_, rfl⟩
  have bk : ∀ {A B : State}, (∀ t, Steps p.tables e below B t → Steps p.tables e below A t) → F B → F A := by
    intro A B h k
    rw [hF] at k ⊢
    exact own_back h k
  suffices hgo : F (s₁.setTop (mkF m 0 #[.val (.ref o0)] [])) by
    have hgo' := bk (fun t k => castTop (T := s₁) (ef_18 m o0) k) hgo
    rw [hF] at hgo'
    exact hgo'
  refine bk (fun t k => XS.aloadN X0.here hx rfl (hb hby d18_0) rfl rfl k) ?_
  obtain ⟨_, _, ⟨T1, L1, k1, n1⟩, -, X1, ⟨Lc1, hQ1, l1, y1, z1⟩, st1⟩ := X0.specialBack hx (y := oN11) rfl hown (mvT hZ (hw _ (List.mem_of_getElem? (i := 125) rfl))) (mvT hZ (hw _ (List.mem_of_getElem? (i := 97) rfl))) (mvT hZ (hw _ (List.mem_of_getElem? (i := 101) rfl))) (by decide) (backOf (W := 0) (rm15 l Z a0 hw [] o0 h0 n0 Z0) hZ (hw _ (List.mem_of_getElem? (i := 101) rfl)) (hw _ (List.mem_of_getElem? (i := 100) rfl)) (by decide) (by decide)) (g := (mkF m 1 #[oR o0] [(.ref o0)])) rfl (by rw [hml]; rfl) (Steps.refl _) (a := o0) (argsL := []) (rest := []) (lenOf pd18___V rfl) rfl (by show 2 * 0 + _ ≤ _; exact Nat.le_of_eq rfl) (hb hby d18_1) (fun _ _ => ⟨rfl, e0, (by decide : 0 + 0 ≤ _), (by decide : 0 + 0 ≤ _)⟩)
  dsimp only [Pt.U, Pt.locs, Pt.cells, Pt.slots, oM15] at X1 l1 y1 z1 st1 hQ1
  subst l1 y1 z1
  obtain ⟨rfl, N1q, e1⟩ := hQ1
  have N1 := Fr.app N0 N1q
  refine bk (fun t k => st1.trans k) ?_
  refine bk (fun t k => XS.aloadN X1.here hx rfl (hb hby d18_4) rfl rfl k) ?_
  refine bk (fun t k => XS.iconst X1.here hx rfl (hb hby d18_5) k) ?_
  show F (T1.setTop (mkF m 6 #[oR o0] [(.int (0 : Int32)), (.ref o0)]))
  obtain ⟨T2, h2, X2, e2, W2, st2⟩ := putF X1 hx hZ hown (host := "") (Or.inl (hw _ (List.mem_of_getElem? (i := 127) rfl))) Via.refl e1 F_modCount E_al (Or.inl (hw _ (List.mem_of_getElem? (i := 128) rfl))) (hw _ (List.mem_of_getElem? (i := 114) rfl)) (ty := .int) (by decide) rfl rfl (g := (mkF m 6 #[oR o0] [(.int (0 : Int32)), (.ref o0)])) rfl rfl (hb hby d18_6)
  have f3 := E_al.wr W2
  have f4 := F_modCount.same W2
  have f5 := F_size.other W2 (Or.inr (slot_ne (Or.inl (hw _ (List.mem_of_getElem? (i := 164) rfl))) (Or.inl (hw _ (List.mem_of_getElem? (i := 128) rfl))) (by decide) (t := .int) (t' := .int) (by decide) (by decide)))
  have f6 := F_elementData.other W2 (Or.inr (slot_ne (Or.inl (hw _ (List.mem_of_getElem? (i := 131) rfl))) (Or.inl (hw _ (List.mem_of_getElem? (i := 128) rfl))) (by decide) (t := (.array (.object "java/lang/Object"))) (t' := .int) (by decide) (by decide)))
  have f7 := Nat.le_trans Z0 (Keep.of_wr W2).1
  have f8 := (Keep.refl h0 [o0]).wr W2 (Or.inl (List.mem_of_getElem? (i := 0) rfl))
  have N2 := Fr.snoc X2 N1 g_o0
  refine bk (fun t k => st2 t k) ?_
  show F (T2.setTop (mkF m 9 #[oR o0] []))
  rw [hF]
  refine own_ret0 X2 hx Bd.notSynchronized Bd.returns (hb hby d18_9) (by decide) (by decide) ?_
  rw [e2]
  exact ⟨rfl, N2, f8, f3, f4, f5, f6⟩
abbrev oN20 : MethodName := ⟨"java/util/ArrayList", "<init>", "()V"⟩
abbrev oM17 : Room := { frames := 3, cells := 0, slots := 0, locals := 36 }
theorem d17_0 : decode jdk_38_method_2_code 0 = .ok (.aload_n 0, 1) := by decide +kernel
theorem d17_1 : decode jdk_38_method_2_code 1 = .ok (.invokespecial 1, 3) := by decide +kernel
theorem d17_4 : decode jdk_38_method_2_code 4 = .ok (.aload_n 0, 1) := by decide +kernel
theorem d17_5 : decode jdk_38_method_2_code 5 = .ok (.getstatic 39, 3) := by decide +kernel
theorem d17_8 : decode jdk_38_method_2_code 8 = .ok (.putfield 9, 3) := by decide +kernel
theorem d17_11 : decode jdk_38_method_2_code 11 = .ok (.return_, 1) := by decide +kernel
theorem pd17___V : parseMethodDescriptor "()V" = some ⟨[], none⟩ := by decide +kernel
theorem pn_17 : plainName "java/util/ArrayList" = true := by first | (simp [plainName, overriddenIn]; done) | decide +kernel
theorem ef_17 (m : MethodId) (x0 : Addr) : entryFrame m #[(.ref x0)] 1 = mkF m 0 #[.val (.ref x0)] [] := by first | (simp [entryFrame, mkF, argsToLocals, Value.category]; done) | rfl
def Q17 (Z : State) (o0 : Addr) (w_de : Addr) (h0 : Heap) (n0 : Nat) (v : Option Value) (h : Heap) (L : List Loc) : Prop := v = none ∧ Fr n0 L ∧ Keep h0 h [o0] ∧ Exa Z h o0 "java/util/ArrayList" ∧ Fld Z h o0 "java/util/AbstractList" "modCount" "I" (.int (0 : Int32)) ∧ Fld Z h o0 "java/util/ArrayList" "size" "I" (.int (0 : Int32)) ∧ Fld Z h o0 "java/util/ArrayList" "elementData" "[Ljava/lang/Object;" (.ref w_de)
set_option maxRecDepth 65536 in
set_option maxHeartbeats 40000000 in
theorem rm17 (l : Launch) (Z : State) (a0 : Array Value) (hw : ∀ d ∈ tables_1, d.before a0 Z = true) (ws : List Jvm.Cond) (o0 : Addr) (w_de : Addr) (h0 : Heap) (n0 : Nat) (Z0 : n0 ≤ h0.size) (E_al : Exa Z h0 o0 "java/util/ArrayList") (F_modCount : Fld Z h0 o0 "java/util/AbstractList" "modCount" "I" (.int (0 : Int32))) (F_size : Fld Z h0 o0 "java/util/ArrayList" "size" "I" (.int (0 : Int32))) (F_elementData : Fld Z h0 o0 "java/util/ArrayList" "elementData" "[Ljava/lang/Object;" .null) (g_o0 : n0 ≤ o0) (S_de : Sta Z h0 "java/util/ArrayList" "DEFAULTCAPACITY_EMPTY_ELEMENTDATA" "[Ljava/lang/Object;" (.ref w_de)) :
    MetFree l oN20 (head1 (Jvm.Cond.code oN20 jdk_38_method_2_code 1 none :: ws) oM17) (fun a U => a = #[(.ref o0)] ∧ Z.Warmed39 U.vm ∧ U.heap = h0) (fun _ _ _ _ _ => True) (fun _ U o U' => ∃ v L, o = .returned v ∧ Q17 Z o0 w_de h0 n0 v U'.heap L ∧ FrameEnd U o U' L oM17.cells oM17.slots) := by
  refine MetFree.of_bodySF (plainFor_of_name pn_17) hisR ?_
  intro p e s m args below meth c s₁ Bd hml0 hP hK
  obtain ⟨rfl, hZ, hh⟩ := hP
  have hx := Bd.exec
  have hby := Bd.bytes
  have hml : c.maxLocals = 1 := hml0
  have hown : s.vm.findClass "java/util/ArrayList" = some m.cls := findClass_of_methodNamed Bd.named
  have hnm := (name_of_methodNamed Bd.named Bd.method).1
  have X0 : Stand p l e oM17 s m #[(.ref o0)] below meth c s₁ [] 0 0 := Stand.of_body Bd
  have e0 : s₁.heap = h0 := by rw [← hh, Bd.state]; rfl
  have N0 := Fr.nil n0
  obtain ⟨F, hF⟩ : ∃ F : State → Prop, F = own_Fin p e below s oM17.cells oM17.slots (fun v h L => Q17 Z o0 w_de h0 n0 v h L) := ⟨_, rfl⟩
  have bk : ∀ {A B : State}, (∀ t, Steps p.tables e below B t → Steps p.tables e below A t) → F B → F A := by
    intro A B h k
    rw [hF] at k ⊢
    exact own_back h k
  suffices hgo : F (s₁.setTop (mkF m 0 #[.val (.ref o0)] [])) by
    have hgo' := bk (fun t k => castTop (T := s₁) (ef_17 m o0) k) hgo
    rw [hF] at hgo'
    exact hgo'
  have w_114 := hw _ (List.mem_of_getElem? (i := 114) rfl)
  have w_119 := hw _ (List.mem_of_getElem? (i := 119) rfl)
  have w_120 := hw _ (List.mem_of_getElem? (i := 120) rfl)
  have w_123 := hw _ (List.mem_of_getElem? (i := 123) rfl)
  have w_124 := hw _ (List.mem_of_getElem? (i := 124) rfl)
  have w_128 := hw _ (List.mem_of_getElem? (i := 128) rfl)
  have w_129 := hw _ (List.mem_of_getElem? (i := 129) rfl)
  have w_130 := hw _ (List.mem_of_getElem? (i := 130) rfl)
  have w_131 := hw _ (List.mem_of_getElem? (i := 131) rfl)
  have w_164 := hw _ (List.mem_of_getElem? (i := 164) rfl)
  refine bk (fun t k => XS.aloadN X0.here hx rfl (hb hby d17_0) rfl rfl k) ?_
  obtain ⟨_, _, ⟨T1, L1, k1, n1⟩, -, X1, ⟨Lc1, hQ1, l1, y1, z1⟩, st1⟩ := X0.specialBack hx (y := oN19) rfl hown (mvT hZ w_119) (mvT hZ w_120) (mvT hZ w_124) (by decide) (backOf (W := 0) (rm18 l Z a0 hw [] o0 h0 n0 Z0 E_al F_modCount F_size F_elementData g_o0) hZ w_124 w_123 (by decide) (by decide)) (g := (mkF m 1 #[oR o0] [(.ref o0)])) rfl (by rw [hml]; rfl) (Steps.refl _) (a := o0) (argsL := []) (rest := []) (lenOf pd17___V rfl) rfl (by show 2 * 0 + _ ≤ _; exact Nat.le_of_eq rfl) (hb hby d17_1) (fun _ _ => ⟨rfl, e0, (by decide : 0 + 0 ≤ _), (by decide : 0 + 0 ≤ _)⟩)
  dsimp only [Pt.U, Pt.locs, Pt.cells, Pt.slots, oM18] at X1 l1 y1 z1 st1 hQ1
  subst l1 y1 z1
  obtain ⟨rfl, N1q, K1, gE1, gM1, gS1, gD1⟩ := hQ1
  have N1 := Fr.app N0 N1q
  have f2 := E_al.keep K1
  have f3 := Nat.le_trans Z0 K1.1
  have f4 := (Keep.refl h0 [o0]).trans K1 (allS (Or.inl (List.mem_of_getElem? (i := 0) rfl)) all0)
  have f5 := own_sta1 S_de K1 E_al
  refine bk (fun t k => st1.trans k) ?_
  refine bk (fun t k => XS.aloadN X1.here hx rfl (hb hby d17_4) rfl rfl k) ?_
  show F (T1.setTop (mkF m 5 #[oR o0] [(.ref o0)]))
  obtain ⟨T6, X6, e6, st6⟩ := getS2 X1 hx hZ hown (host := "") (Or.inl w_129) Via.refl rfl f5 (g := (mkF m 5 #[oR o0] [(.ref o0)])) rfl (hb hby d17_5)
  refine bk (fun t k => st6 t k) ?_
  show F (T6.setTop (mkF m 8 #[oR o0] [(.ref w_de), (.ref o0)]))
  obtain ⟨T7, h7, X7, e7, W7, st7⟩ := putF X6 hx hZ hown (host := "") (Or.inl w_130) Via.refl e6 gD1 gE1 (Or.inl w_131) w_114 (ty := (.array (.object "java/lang/Object"))) (by decide) rfl rfl (g := (mkF m 8 #[oR o0] [(.ref w_de), (.ref o0)])) rfl rfl (hb hby d17_8)
  have f8 := gE1.wr W7
  have f9 := Nat.le_trans f3 (Keep.of_wr W7).1
  have f10 := f4.wr W7 (Or.inl (List.mem_of_getElem? (i := 0) rfl))
  have f11 := f5.wr W7
  have f12 := gM1.other W7 (Or.inr (slot_ne (Or.inl w_128) (Or.inl w_131) (by decide) (t := .int) (t' := (.array (.object "java/lang/Object"))) (by decide) (by decide)))
  have f13 := gS1.other W7 (Or.inr (slot_ne (Or.inl w_164) (Or.inl w_131) (by decide) (t := .int) (t' := (.array (.object "java/lang/Object"))) (by decide) (by decide)))
  have f14 := gD1.same W7
  have N7 := Fr.snoc X7 N1 g_o0
  refine bk (fun t k => st7 t k) ?_
  show F (T7.setTop (mkF m 11 #[oR o0] []))
  rw [hF]
  refine own_ret0 X7 hx Bd.notSynchronized Bd.returns (hb hby d17_11) (by decide) (by decide) ?_
  rw [e7]
  exact ⟨rfl, N7, f10, f8, f12, f13, f14⟩
abbrev oN21 : MethodName := ⟨"java/util/ArrayList", "size", "()I"⟩
abbrev oM22 : Room := { frames := 0, cells := 0, slots := 0, locals := 0 }
theorem d22_0 : decode jdk_38_method_8_code 0 = .ok (.aload_n 0, 1) := by decide +kernel
theorem d22_1 : decode jdk_38_method_8_code 1 = .ok (.getfield 48, 3) := by decide +kernel
theorem d22_4 : decode jdk_38_method_8_code 4 = .ok (.ireturn, 1) := by decide +kernel
theorem pn_22 : plainName "java/util/ArrayList" = true := by first | (simp [plainName, overriddenIn]; done) | decide +kernel
theorem ef_22 (m : MethodId) (x0 : Addr) : entryFrame m #[(.ref x0)] 1 = mkF m 0 #[.val (.ref x0)] [] := by first | (simp [entryFrame, mkF, argsToLocals, Value.category]; done) | rfl
def Q22 (Z : State) (o0 : Addr) (sz : Int32) (h0 : Heap) (n0 : Nat) (v : Option Value) (h : Heap) (L : List Loc) : Prop := v = some (.int sz) ∧ Fr n0 L ∧ h = h0
set_option maxRecDepth 65536 in
set_option maxHeartbeats 40000000 in
theorem rm22 (l : Launch) (Z : State) (a0 : Array Value) (hw : ∀ d ∈ tables_1, d.before a0 Z = true) (ws : List Jvm.Cond) (o0 : Addr) (sz : Int32) (h0 : Heap) (n0 : Nat) (Z0 : n0 ≤ h0.size) (F_size : Fld Z h0 o0 "java/util/ArrayList" "size" "I" (.int sz)) :
    MetFree l oN21 (head1 (Jvm.Cond.code oN21 jdk_38_method_8_code 1 (some .int) :: ws) oM22) (fun a U => a = #[(.ref o0)] ∧ Z.Warmed39 U.vm ∧ U.heap = h0) (fun _ _ _ _ _ => True) (fun _ U o U' => ∃ v L, o = .returned v ∧ Q22 Z o0 sz h0 n0 v U'.heap L ∧ FrameEnd U o U' L oM22.cells oM22.slots) := by
  refine MetFree.of_bodySF (plainFor_of_name pn_22) hisR ?_
  intro p e s m args below meth c s₁ Bd hml0 hP hK
  obtain ⟨rfl, hZ, hh⟩ := hP
  have hx := Bd.exec
  have hby := Bd.bytes
  have hml : c.maxLocals = 1 := hml0
  have hown : s.vm.findClass "java/util/ArrayList" = some m.cls := findClass_of_methodNamed Bd.named
  have hnm := (name_of_methodNamed Bd.named Bd.method).1
  have X0 : Stand p l e oM22 s m #[(.ref o0)] below meth c s₁ [] 0 0 := Stand.of_body Bd
  have e0 : s₁.heap = h0 := by rw [← hh, Bd.state]; rfl
  have N0 := Fr.nil n0
  obtain ⟨F, hF⟩ : ∃ F : State → Prop, F = own_Fin p e below s oM22.cells oM22.slots (fun v h L => Q22 Z o0 sz h0 n0 v h L) := ⟨_, rfl⟩
  have bk : ∀ {A B : State}, (∀ t, Steps p.tables e below B t → Steps p.tables e below A t) → F B → F A := by
    intro A B h k
    rw [hF] at k ⊢
    exact own_back h k
  suffices hgo : F (s₁.setTop (mkF m 0 #[.val (.ref o0)] [])) by
    have hgo' := bk (fun t k => castTop (T := s₁) (ef_22 m o0) k) hgo
    rw [hF] at hgo'
    exact hgo'
  refine bk (fun t k => XS.aloadN X0.here hx rfl (hb hby d22_0) rfl rfl k) ?_
  obtain ⟨T1, X1, e1, st1⟩ := getF X0 hx hZ hown (host := "") (Or.inl (hw _ (List.mem_of_getElem? (i := 163) rfl))) Via.refl e0 F_size (g := (mkF m 1 #[oR o0] [(.ref o0)])) rfl rfl (hb hby d22_1)
  refine bk (fun t k => st1 t k) ?_
  show F (T1.setTop (mkF m 4 #[oR o0] [(.int sz)]))
  rw [hF]
  refine own_retI X1 hx Bd.notSynchronized Bd.returns (hb hby d22_4) (by decide) (by decide) ?_
  rw [e1]
  exact ⟨rfl, N0, rfl⟩
abbrev oN22 : MethodName := ⟨"java/lang/Math", "max", "(II)I"⟩
abbrev oM31 : Room := { frames := 0, cells := 0, slots := 0, locals := 0 }
theorem d31_0 : decode jdk_29_method_65_code 0 = .ok (.iload_n 0, 1) := by decide +kernel
theorem d31_1 : decode jdk_29_method_65_code 1 = .ok (.iload_n 1, 1) := by decide +kernel
theorem d31_2 : decode jdk_29_method_65_code 2 = .ok (.if_icmp .lt 7, 3) := by decide +kernel
theorem d31_5 : decode jdk_29_method_65_code 5 = .ok (.iload_n 0, 1) := by decide +kernel
theorem d31_6 : decode jdk_29_method_65_code 6 = .ok (.goto 4, 3) := by decide +kernel
theorem d31_10 : decode jdk_29_method_65_code 10 = .ok (.ireturn, 1) := by decide +kernel
theorem ef_31 (m : MethodId) (x0 : Int32) (x1 : Int32) : entryFrame m #[(.int x0), (.int x1)] 2 = mkF m 0 #[.val (.int x0), .val (.int x1)] [] := by first | (simp [entryFrame, mkF, argsToLocals, Value.category]; done) | rfl
def Q31 (Z : State)  (h0 : Heap) (n0 : Nat) (v : Option Value) (h : Heap) (L : List Loc) : Prop := v = some (.int (10 : Int32)) ∧ Fr n0 L ∧ h = h0
set_option maxRecDepth 65536 in
set_option maxHeartbeats 40000000 in
theorem rm31 (l : Launch) (Z : State) (a0 : Array Value) (hw : ∀ d ∈ tables_1, d.before a0 Z = true) (ws : List Jvm.Cond)  (h0 : Heap) (n0 : Nat) (Z0 : n0 ≤ h0.size) :
    MetFree l oN22 (head1 (Jvm.Cond.code oN22 jdk_29_method_65_code 2 (some .int) :: ws) oM31) (fun a U => a = #[(.int (10 : Int32)), (.int (1 : Int32))] ∧ Z.Warmed39 U.vm ∧ U.heap = h0) (fun _ _ _ _ _ => True) (fun _ U o U' => ∃ v L, o = .returned v ∧ Q31 Z  h0 n0 v U'.heap L ∧ FrameEnd U o U' L oM31.cells oM31.slots) := by
  refine MetFree.of_bodySF (Jvm.Free.JP.mathPlain rfl (by decide +kernel)) hisR ?_
  intro p e s m args below meth c s₁ Bd hml0 hP hK
  obtain ⟨rfl, hZ, hh⟩ := hP
  have hx := Bd.exec
  have hby := Bd.bytes
  have hml : c.maxLocals = 2 := hml0
  have hown : s.vm.findClass "java/lang/Math" = some m.cls := findClass_of_methodNamed Bd.named
  have hnm := (name_of_methodNamed Bd.named Bd.method).1
  have X0 : Stand p l e oM31 s m #[(.int (10 : Int32)), (.int (1 : Int32))] below meth c s₁ [] 0 0 := Stand.of_body Bd
  have e0 : s₁.heap = h0 := by rw [← hh, Bd.state]; rfl
  have N0 := Fr.nil n0
  obtain ⟨F, hF⟩ : ∃ F : State → Prop, F = own_Fin p e below s oM31.cells oM31.slots (fun v h L => Q31 Z  h0 n0 v h L) := ⟨_, rfl⟩
  have bk : ∀ {A B : State}, (∀ t, Steps p.tables e below B t → Steps p.tables e below A t) → F B → F A := by
    intro A B h k
    rw [hF] at k ⊢
    exact own_back h k
  suffices hgo : F (s₁.setTop (mkF m 0 #[.val (.int (10 : Int32)), .val (.int (1 : Int32))] [])) by
    have hgo' := bk (fun t k => castTop (T := s₁) (ef_31 m (10 : Int32) (1 : Int32)) k) hgo
    rw [hF] at hgo'
    exact hgo'
  refine bk (fun t k => XS.iloadN X0.here hx rfl (hb hby d31_0) rfl k) ?_
  refine bk (fun t k => XS.iloadN X0.here hx rfl (hb hby d31_1) rfl k) ?_
  refine bk (fun t k => XS.icmpNo X0.here hx rfl (hb hby d31_2) rfl (flt (by decide : ¬ ((10 : Int32) < (1 : Int32)))).1 k) ?_
  refine bk (fun t k => XS.iloadN X0.here hx rfl (hb hby d31_5) rfl k) ?_
  refine bk (fun t k => XS.goto X0.here hx rfl (pc0 := 6) (pc' := 10) rfl (hb hby d31_6) (by decide) (by decide) k) ?_
  show F (s₁.setTop (mkF m 10 #[.val (.int (10 : Int32)), .val (.int (1 : Int32))] [(.int (10 : Int32))]))
  rw [hF]
  refine own_retI X0 hx Bd.notSynchronized Bd.returns (hb hby d31_10) (by decide) (by decide) ?_
  rw [e0]
  exact ⟨rfl, N0, rfl⟩
abbrev oN23 : MethodName := ⟨"java/util/ArrayList", "grow", "(I)[Ljava/lang/Object;"⟩
abbrev oM30 : Room := { frames := 1, cells := 1, slots := 10, locals := 14 }
theorem d30_0 : decode jdk_38_method_6_code 0 = .ok (.aload_n 0, 1) := by decide +kernel
theorem d30_1 : decode jdk_38_method_6_code 1 = .ok (.getfield 9, 3) := by decide +kernel
theorem d30_4 : decode jdk_38_method_6_code 4 = .ok (.arraylength, 1) := by decide +kernel
theorem d30_5 : decode jdk_38_method_6_code 5 = .ok (.istore_n 2, 1) := by decide +kernel
theorem d30_6 : decode jdk_38_method_6_code 6 = .ok (.iload_n 2, 1) := by decide +kernel
theorem d30_7 : decode jdk_38_method_6_code 7 = .ok (.ifCond .gt 13, 3) := by decide +kernel
theorem d30_10 : decode jdk_38_method_6_code 10 = .ok (.aload_n 0, 1) := by decide +kernel
theorem d30_11 : decode jdk_38_method_6_code 11 = .ok (.getfield 9, 3) := by decide +kernel
theorem d30_14 : decode jdk_38_method_6_code 14 = .ok (.getstatic 39, 3) := by decide +kernel
theorem d30_17 : decode jdk_38_method_6_code 17 = .ok (.if_acmp .eq 28, 3) := by decide +kernel
theorem d30_45 : decode jdk_38_method_6_code 45 = .ok (.aload_n 0, 1) := by decide +kernel
theorem d30_46 : decode jdk_38_method_6_code 46 = .ok (.bipush 10, 2) := by decide +kernel
theorem d30_48 : decode jdk_38_method_6_code 48 = .ok (.iload_n 1, 1) := by decide +kernel
theorem d30_49 : decode jdk_38_method_6_code 49 = .ok (.invokestatic 79, 3) := by decide +kernel
theorem d30_52 : decode jdk_38_method_6_code 52 = .ok (.anewarray 7, 3) := by decide +kernel
theorem d30_55 : decode jdk_38_method_6_code 55 = .ok (.dup_x1, 1) := by decide +kernel
theorem d30_56 : decode jdk_38_method_6_code 56 = .ok (.putfield 9, 3) := by decide +kernel
theorem d30_59 : decode jdk_38_method_6_code 59 = .ok (.areturn, 1) := by decide +kernel
theorem pd30__II_I : parseMethodDescriptor "(II)I" = some ⟨[.int, .int], some .int⟩ := by decide +kernel
theorem pn_30 : plainName "java/util/ArrayList" = true := by first | (simp [plainName, overriddenIn]; done) | decide +kernel
theorem ef_30 (m : MethodId) (x0 : Addr) (x1 : Int32) : entryFrame m #[(.ref x0), (.int x1)] 4 = mkF m 0 #[.val (.ref x0), .val (.int x1), .unset, .unset] [] := by first | (simp [entryFrame, mkF, argsToLocals, Value.category]; done) | rfl
def Q30 (Z : State) (o0 : Addr) (mc : Int32) (w_de : Addr) (k_de : ClassId) (h0 : Heap) (n0 : Nat) (v : Option Value) (h : Heap) (L : List Loc) : Prop := ∃ (r : Addr) (k : ClassId), v = some (.ref r) ∧ Fr n0 L ∧ Keep h0 h [o0] ∧ (Exa Z h o0 "java/util/ArrayList" ∧ Fld Z h o0 "java/util/AbstractList" "modCount" "I" (.int mc) ∧ Fld Z h o0 "java/util/ArrayList" "size" "I" (.int (0 : Int32)) ∧ Fld Z h o0 "java/util/ArrayList" "elementData" "[Ljava/lang/Object;" (.ref r)) ∧ Arv Z h r k (.object "java/lang/Object") (10 : Int32) [.null, .null, .null] .null ∧ Ovr Z k "java/lang/Object" ∧ h0.size ≤ r
set_option maxRecDepth 65536 in
set_option maxHeartbeats 40000000 in
theorem rm30 (l : Launch) (Z : State) (a0 : Array Value) (hw : ∀ d ∈ tables_1, d.before a0 Z = true) (ws : List Jvm.Cond) (o0 : Addr) (mc : Int32) (w_de : Addr) (k_de : ClassId) (h0 : Heap) (n0 : Nat) (Z0 : n0 ≤ h0.size) (E_al : Exa Z h0 o0 "java/util/ArrayList") (F_modCount : Fld Z h0 o0 "java/util/AbstractList" "modCount" "I" (.int mc)) (F_size : Fld Z h0 o0 "java/util/ArrayList" "size" "I" (.int (0 : Int32))) (F_elementData : Fld Z h0 o0 "java/util/ArrayList" "elementData" "[Ljava/lang/Object;" (.ref w_de)) (g_o0 : n0 ≤ o0) (S_de : Sta Z h0 "java/util/ArrayList" "DEFAULTCAPACITY_EMPTY_ELEMENTDATA" "[Ljava/lang/Object;" (.ref w_de)) (V_de : Arv Z h0 w_de k_de (.object "java/lang/Object") (0 : Int32) [] .null) :
    MetFree l oN23 (head1 (Jvm.Cond.code oN23 jdk_38_method_6_code 4 (some (.array (.object "java/lang/Object"))) :: ws) oM30) (fun a U => a = #[(.ref o0), (.int (1 : Int32))] ∧ Z.Warmed39 U.vm ∧ U.heap = h0) (fun _ _ _ _ _ => True) (fun _ U o U' => ∃ v L, o = .returned v ∧ Q30 Z o0 mc w_de k_de h0 n0 v U'.heap L ∧ FrameEnd U o U' L oM30.cells oM30.slots) := by
  refine MetFree.of_bodySF (plainFor_of_name pn_30) hisR ?_
  intro p e s m args below meth c s₁ Bd hml0 hP hK
  obtain ⟨rfl, hZ, hh⟩ := hP
  have hx := Bd.exec
  have hby := Bd.bytes
  have hml : c.maxLocals = 4 := hml0
  have hown : s.vm.findClass "java/util/ArrayList" = some m.cls := findClass_of_methodNamed Bd.named
  have hnm := (name_of_methodNamed Bd.named Bd.method).1
  have X0 : Stand p l e oM30 s m #[(.ref o0), (.int (1 : Int32))] below meth c s₁ [] 0 0 := Stand.of_body Bd
  have e0 : s₁.heap = h0 := by rw [← hh, Bd.state]; rfl
  have N0 := Fr.nil n0
  obtain ⟨F, hF⟩ : ∃ F : State → Prop, F = own_Fin p e below s oM30.cells oM30.slots (fun v h L => Q30 Z o0 mc w_de k_de h0 n0 v h L) := ⟨_, rfl⟩
  have bk : ∀ {A B : State}, (∀ t, Steps p.tables e below B t → Steps p.tables e below A t) → F B → F A := by
    intro A B h k
    rw [hF] at k ⊢
    exact own_back h k
  suffices hgo : F (s₁.setTop (mkF m 0 #[.val (.ref o0), .val (.int (1 : Int32)), .unset, .unset] [])) by
    have hgo' := bk (fun t k => castTop (T := s₁) (ef_30 m o0 (1 : Int32)) k) hgo
    rw [hF] at hgo'
    exact hgo'
  have w_114 := hw _ (List.mem_of_getElem? (i := 114) rfl)
  have w_128 := hw _ (List.mem_of_getElem? (i := 128) rfl)
  have w_129 := hw _ (List.mem_of_getElem? (i := 129) rfl)
  have w_130 := hw _ (List.mem_of_getElem? (i := 130) rfl)
  have w_131 := hw _ (List.mem_of_getElem? (i := 131) rfl)
  have w_164 := hw _ (List.mem_of_getElem? (i := 164) rfl)
  have w_214 := hw _ (List.mem_of_getElem? (i := 214) rfl)
  have w_215 := hw _ (List.mem_of_getElem? (i := 215) rfl)
  have w_216 := hw _ (List.mem_of_getElem? (i := 216) rfl)
  have w_217 := hw _ (List.mem_of_getElem? (i := 217) rfl)
  have w_218 := hw _ (List.mem_of_getElem? (i := 218) rfl)
  have w_219 := hw _ (List.mem_of_getElem? (i := 219) rfl)
  refine bk (fun t k => XS.aloadN X0.here hx rfl (hb hby d30_0) rfl rfl k) ?_
  obtain ⟨T1, X1, e1, st1⟩ := getF X0 hx hZ hown (host := "") (Or.inl w_130) Via.refl e0 F_elementData (g := (mkF m 1 #[oR o0, .val (.int (1 : Int32)), .unset, .unset] [(.ref o0)])) rfl rfl (hb hby d30_1)
  refine bk (fun t k => st1 t k) ?_
  show F (T1.setTop (mkF m 4 #[oR o0, .val (.int (1 : Int32)), .unset, .unset] [(.ref w_de)]))
  have vv2 := V_de
  obtain ⟨cl2, Ar2, q2, S2, M2, H2, G2⟩ := vv2
  refine bk (fun t k => X1.arraylength hx (by rw [e1]; exact Ar2.1) (State.isArrayOf_alike hZ.alike Ar2.2.1) (g := (mkF m 4 #[oR o0, .val (.int (1 : Int32)), .unset, .unset] [(.ref w_de)])) rfl rfl (hb hby d30_4) t k) ?_
  rw [len_of S2 M2]
  show F (T1.setTop (mkF m 5 #[oR o0, .val (.int (1 : Int32)), .unset, .unset] [(.int (0 : Int32))]))
  refine bk (fun t k => XS.istoreN X1.here hx rfl (hb hby d30_5) rfl (l' := #[oR o0, .val (.int (1 : Int32)), .val (.int (0 : Int32)), .unset]) rfl k) ?_
  refine bk (fun t k => XS.iloadN X1.here hx rfl (hb hby d30_6) rfl k) ?_
  refine bk (fun t k => XS.ifNo X1.here hx rfl (hb hby d30_7) rfl ((if0 _ _).trans (flt (by decide : ¬ ((0 : Int32) < (0 : Int32)))).2.2.1) k) ?_
  refine bk (fun t k => XS.aloadN X1.here hx rfl (hb hby d30_10) rfl rfl k) ?_
  show F (T1.setTop (mkF m 11 #[oR o0, .val (.int (1 : Int32)), .val (.int (0 : Int32)), .unset] [(.ref o0)]))
  obtain ⟨T3, X3, e3, st3⟩ := getF X1 hx hZ hown (host := "") (Or.inl w_130) Via.refl e1 F_elementData (g := (mkF m 11 #[oR o0, .val (.int (1 : Int32)), .val (.int (0 : Int32)), .unset] [(.ref o0)])) rfl rfl (hb hby d30_11)
  refine bk (fun t k => st3 t k) ?_
  show F (T3.setTop (mkF m 14 #[oR o0, .val (.int (1 : Int32)), .val (.int (0 : Int32)), .unset] [(.ref w_de)]))
  obtain ⟨T4, X4, e4, st4⟩ := getS2 X3 hx hZ hown (host := "") (Or.inl w_129) Via.refl e3 S_de (g := (mkF m 14 #[oR o0, .val (.int (1 : Int32)), .val (.int (0 : Int32)), .unset] [(.ref w_de)])) rfl (hb hby d30_14)
  refine bk (fun t k => st4 t k) ?_
  show F (T4.setTop (mkF m 17 #[oR o0, .val (.int (1 : Int32)), .val (.int (0 : Int32)), .unset] [(.ref w_de), (.ref w_de)]))
  refine bk (fun t k => Jvm.RoadKit.acmp (g := (mkF m 17 #[oR o0, .val (.int (1 : Int32)), .val (.int (0 : Int32)), .unset] [(.ref w_de), (.ref w_de)])) X4 hx rfl rfl rfl (pc0 := 17) (pc' := 45) (same := true) rfl (hb hby d30_17) rfl (decide_eq_true rfl) (by decide) (by decide) k) ?_
  refine bk (fun t k => XS.aloadN X4.here hx rfl (hb hby d30_45) rfl rfl k) ?_
  refine bk (fun t k => XS.bipush X4.here hx rfl (hb hby d30_46) k) ?_
  refine bk (fun t k => XS.iloadN X4.here hx rfl (hb hby d30_48) rfl k) ?_
  show F (T4.setTop (mkF m 49 #[oR o0, .val (.int (1 : Int32)), .val (.int (0 : Int32)), .unset] [(.int (1 : Int32)), (.int (10 : Int32)), (.ref o0)]))
  obtain ⟨_, _, ⟨T5, L5, k5, n5⟩, -, X5, ⟨Lc5, hQ5, l5, y5, z5⟩, st5⟩ := Jvm.LawKit.callS X4 hx (y := oN22) hown (mvT hZ w_214) (mvT hZ w_215) (mvT hZ w_216) (mvT hZ w_217) (by decide) (backOf (W := 1) (rm31 l Z a0 hw [] h0 n0 Z0) hZ w_217 w_216 (by decide) (by decide)) (g := (mkF m 49 #[oR o0, .val (.int (1 : Int32)), .val (.int (0 : Int32)), .unset] [(.int (1 : Int32)), (.int (10 : Int32)), (.ref o0)])) rfl (by rw [hml]; rfl) (argsL := [(.int (10 : Int32)), (.int (1 : Int32))]) (rest := [(.ref o0)]) (lenOf pd30__II_I rfl) rfl (by show 2 * 0 + _ ≤ _; exact Nat.le_of_eq rfl) (hb hby d30_49) (fun _ _ => ⟨rfl, e4, (by decide : 0 + 0 ≤ _), (by decide : 0 + 0 ≤ _)⟩)
  dsimp only [Pt.U, Pt.locs, Pt.cells, Pt.slots, oM31] at X5 l5 y5 z5 st5 hQ5
  subst l5 y5 z5
  obtain ⟨rfl, N5q, e5⟩ := hQ5
  have N5 := Fr.app N0 N5q
  refine bk (fun t k => st5 t k) ?_
  show F (T5.setTop (mkF m 52 #[oR o0, .val (.int (1 : Int32)), .val (.int (0 : Int32)), .unset] [(.int (10 : Int32)), (.ref o0)]))
  obtain ⟨T6, h6, k6, X6, e6, E6, A6, O6, st6⟩ := newR X5 hx hZ hown w_218 w_219 e5 (g := (mkF m 52 #[oR o0, .val (.int (1 : Int32)), .val (.int (0 : Int32)), .unset] [(.int (10 : Int32)), (.ref o0)])) rfl (hb hby d30_52) rfl (by decide) (cap := 10) (by decide) (by decide) (by decide) (by decide)
  obtain ⟨b6, g6⟩ : ∃ z, z = h0.size := ⟨_, rfl⟩
  rw [← g6] at A6 st6
  have Gb6 : n0 ≤ b6 := Nat.le_trans Z0 (Nat.le_of_eq g6.symm)
  have sz_b6 : h0.size ≤ b6 := Nat.le_trans (Keep.refl h0 [o0]).1 (Nat.le_of_eq g6.symm)
  have ne_o0_b6 : o0 ≠ b6 := Nat.ne_of_lt (Nat.lt_of_lt_of_le E_al.lt (Nat.le_of_eq g6.symm))
  have ne_w_de_b6 : w_de ≠ b6 := Nat.ne_of_lt (Nat.lt_of_lt_of_le V_de.lt (Nat.le_of_eq g6.symm))
  have f7 := E_al.ext E6
  have f8 := F_modCount.ext E6
  have f9 := F_size.ext E6
  have f10 := F_elementData.ext E6
  have f11 := Nat.le_trans Z0 E6.1
  have f12 := (Keep.refl h0 [o0]).ext E6
  have f13 := S_de.ext E6
  have f14 := V_de.ext E6
  have V_b6 : Arv Z h6 b6 k6 (.object "java/lang/Object") (10 : Int32) [.null, .null, .null] .null := (Arv.new A6 (by decide)).pad (pad_rep [] .null 3)
  refine bk (fun t k => st6 t k) ?_
  show F (T6.setTop (mkF m 55 #[oR o0, .val (.int (1 : Int32)), .val (.int (0 : Int32)), .unset] [(.ref b6), (.ref o0)]))
  refine bk (fun t k => XS.dupX1 X6.here hx rfl (hb hby d30_55) rfl rfl rfl k) ?_
  obtain ⟨T15, h15, X15, e15, W15, st15⟩ := putF X6 hx hZ hown (host := "") (Or.inl w_130) Via.refl e6 f10 f7 (Or.inl w_131) w_114 (ty := (.array (.object "java/lang/Object"))) (by decide) rfl rfl (g := (mkF m 56 #[oR o0, .val (.int (1 : Int32)), .val (.int (0 : Int32)), .unset] [(.ref b6), (.ref o0), (.ref b6)])) rfl rfl (hb hby d30_56)
  have f16 := f7.wr W15
  have f17 := f8.other W15 (Or.inr (slot_ne (Or.inl w_128) (Or.inl w_131) (by decide) (t := .int) (t' := (.array (.object "java/lang/Object"))) (by decide) (by decide)))
  have f18 := f9.other W15 (Or.inr (slot_ne (Or.inl w_164) (Or.inl w_131) (by decide) (t := .int) (t' := (.array (.object "java/lang/Object"))) (by decide) (by decide)))
  have f19 := f10.same W15
  have f20 := Nat.le_trans f11 (Keep.of_wr W15).1
  have f21 := f12.wr W15 (Or.inl (List.mem_of_getElem? (i := 0) rfl))
  have f22 := f13.wr W15
  have f23 := f14.other W15 (Ne.symm (Exa.neArv f7 f14 w_114))
  have f24 := V_b6.other W15 (Ne.symm ne_o0_b6)
  have N15 := Fr.snoc X15 N5 g_o0
  refine bk (fun t k => st15 t k) ?_
  show F (T15.setTop (mkF m 59 #[oR o0, .val (.int (1 : Int32)), .val (.int (0 : Int32)), .unset] [(.ref b6)]))
  rw [hF]
  refine own_retA X15 hx Bd.notSynchronized Bd.returns rfl rfl (hb hby d30_59) (by decide) (by decide) ?_
  rw [e15]
  exact ⟨_, _, rfl, N15, f21, ⟨f16, f17, f18, f19⟩, f24, O6, sz_b6⟩
abbrev oN24 : MethodName := ⟨"java/util/ArrayList", "grow", "()[Ljava/lang/Object;"⟩
abbrev oM29 : Room := { frames := 2, cells := 1, slots := 10, locals := 29 }
theorem d29_0 : decode jdk_38_method_7_code 0 = .ok (.aload_n 0, 1) := by decide +kernel
theorem d29_1 : decode jdk_38_method_7_code 1 = .ok (.aload_n 0, 1) := by decide +kernel
theorem d29_2 : decode jdk_38_method_7_code 2 = .ok (.getfield 48, 3) := by decide +kernel
theorem d29_5 : decode jdk_38_method_7_code 5 = .ok (.iconst 1, 1) := by decide +kernel
theorem d29_6 : decode jdk_38_method_7_code 6 = .ok (.iadd, 1) := by decide +kernel
theorem d29_7 : decode jdk_38_method_7_code 7 = .ok (.invokevirtual 69, 3) := by decide +kernel
theorem d29_10 : decode jdk_38_method_7_code 10 = .ok (.areturn, 1) := by decide +kernel
theorem pd29__I__Ljava_lang_Object_ : parseMethodDescriptor "(I)[Ljava/lang/Object;" = some ⟨[.int], some (.array (.object "java/lang/Object"))⟩ := by decide +kernel
theorem pn_29 : plainName "java/util/ArrayList" = true := by first | (simp [plainName, overriddenIn]; done) | decide +kernel
theorem ef_29 (m : MethodId) (x0 : Addr) : entryFrame m #[(.ref x0)] 1 = mkF m 0 #[.val (.ref x0)] [] := by first | (simp [entryFrame, mkF, argsToLocals, Value.category]; done) | rfl
def Q29 (Z : State) (o0 : Addr) (mc : Int32) (w_de : Addr) (k_de : ClassId) (h0 : Heap) (n0 : Nat) (v : Option Value) (h : Heap) (L : List Loc) : Prop := ∃ (r : Addr) (k : ClassId), v = some (.ref r) ∧ Fr n0 L ∧ Keep h0 h [o0] ∧ (Exa Z h o0 "java/util/ArrayList" ∧ Fld Z h o0 "java/util/AbstractList" "modCount" "I" (.int mc) ∧ Fld Z h o0 "java/util/ArrayList" "size" "I" (.int (0 : Int32)) ∧ Fld Z h o0 "java/util/ArrayList" "elementData" "[Ljava/lang/Object;" (.ref r)) ∧ Arv Z h r k (.object "java/lang/Object") (10 : Int32) [.null, .null, .null] .null ∧ Ovr Z k "java/lang/Object" ∧ h0.size ≤ r
set_option maxRecDepth 65536 in
set_option maxHeartbeats 40000000 in
theorem rm29 (l : Launch) (Z : State) (a0 : Array Value) (hw : ∀ d ∈ tables_1, d.before a0 Z = true) (ws : List Jvm.Cond) (o0 : Addr) (mc : Int32) (w_de : Addr) (k_de : ClassId) (h0 : Heap) (n0 : Nat) (Z0 : n0 ≤ h0.size) (E_al : Exa Z h0 o0 "java/util/ArrayList") (F_modCount : Fld Z h0 o0 "java/util/AbstractList" "modCount" "I" (.int mc)) (F_size : Fld Z h0 o0 "java/util/ArrayList" "size" "I" (.int (0 : Int32))) (F_elementData : Fld Z h0 o0 "java/util/ArrayList" "elementData" "[Ljava/lang/Object;" (.ref w_de)) (g_o0 : n0 ≤ o0) (S_de : Sta Z h0 "java/util/ArrayList" "DEFAULTCAPACITY_EMPTY_ELEMENTDATA" "[Ljava/lang/Object;" (.ref w_de)) (V_de : Arv Z h0 w_de k_de (.object "java/lang/Object") (0 : Int32) [] .null) :
    MetFree l oN24 (head1 (Jvm.Cond.code oN24 jdk_38_method_7_code 1 (some (.array (.object "java/lang/Object"))) :: ws) oM29) (fun a U => a = #[(.ref o0)] ∧ Z.Warmed39 U.vm ∧ U.heap = h0) (fun _ _ _ _ _ => True) (fun _ U o U' => ∃ v L, o = .returned v ∧ Q29 Z o0 mc w_de k_de h0 n0 v U'.heap L ∧ FrameEnd U o U' L oM29.cells oM29.slots) := by
  refine MetFree.of_bodySF (plainFor_of_name pn_29) hisR ?_
  intro p e s m args below meth c s₁ Bd hml0 hP hK
  obtain ⟨rfl, hZ, hh⟩ := hP
  have hx := Bd.exec
  have hby := Bd.bytes
  have hml : c.maxLocals = 1 := hml0
  have hown : s.vm.findClass "java/util/ArrayList" = some m.cls := findClass_of_methodNamed Bd.named
  have hnm := (name_of_methodNamed Bd.named Bd.method).1
  have X0 : Stand p l e oM29 s m #[(.ref o0)] below meth c s₁ [] 0 0 := Stand.of_body Bd
  have e0 : s₁.heap = h0 := by rw [← hh, Bd.state]; rfl
  have N0 := Fr.nil n0
  obtain ⟨F, hF⟩ : ∃ F : State → Prop, F = own_Fin p e below s oM29.cells oM29.slots (fun v h L => Q29 Z o0 mc w_de k_de h0 n0 v h L) := ⟨_, rfl⟩
  have bk : ∀ {A B : State}, (∀ t, Steps p.tables e below B t → Steps p.tables e below A t) → F B → F A := by
    intro A B h k
    rw [hF] at k ⊢
    exact own_back h k
  suffices hgo : F (s₁.setTop (mkF m 0 #[.val (.ref o0)] [])) by
    have hgo' := bk (fun t k => castTop (T := s₁) (ef_29 m o0) k) hgo
    rw [hF] at hgo'
    exact hgo'
  refine bk (fun t k => XS.aloadN X0.here hx rfl (hb hby d29_0) rfl rfl k) ?_
  refine bk (fun t k => XS.aloadN X0.here hx rfl (hb hby d29_1) rfl rfl k) ?_
  obtain ⟨T1, X1, e1, st1⟩ := getF X0 hx hZ hown (host := "") (Or.inl (hw _ (List.mem_of_getElem? (i := 163) rfl))) Via.refl e0 F_size (g := (mkF m 2 #[oR o0] [(.ref o0), (.ref o0)])) rfl rfl (hb hby d29_2)
  refine bk (fun t k => st1 t k) ?_
  refine bk (fun t k => XS.iconst X1.here hx rfl (hb hby d29_5) k) ?_
  show F (T1.setTop (mkF m 6 #[oR o0] [(.int (1 : Int32)), (.int (0 : Int32)), (.ref o0)]))
  refine bk (fun t k => XS.iadd X1.here hx rfl (hb hby d29_6) rfl k) ?_
  obtain ⟨cq2, q2, q2'⟩ := (E_al).cell
  obtain ⟨_, _, ⟨T2, L2, k2, n2⟩, -, X2, ⟨Lc2, hQ2, l2, y2, z2⟩, st2⟩ := X1.privateBack hx (y := oN23) hown (mvT hZ (hw _ (List.mem_of_getElem? (i := 209) rfl))) (mvT hZ (hw _ (List.mem_of_getElem? (i := 210) rfl))) (mvT hZ (hw _ (List.mem_of_getElem? (i := 212) rfl))) (Cond.privateMethod_at (mvP hZ (hw _ (List.mem_of_getElem? (i := 211) rfl)) (args := #[]))) (mvT hZ (hw _ (List.mem_of_getElem? (i := 213) rfl))) (by decide) (backOf (W := 0) (rm30 l Z a0 hw [] o0 mc w_de k_de h0 n0 Z0 E_al F_modCount F_size F_elementData g_o0 S_de V_de) hZ (hw _ (List.mem_of_getElem? (i := 213) rfl)) (hw _ (List.mem_of_getElem? (i := 115) rfl)) (by decide) (by decide)) (g := (mkF m 7 #[oR o0] [(.int (1 : Int32)), (.ref o0)])) rfl (by rw [hml]; rfl) (Steps.refl _) (a := o0) (by rw [e1]; exact q2) q2' (argsL := [(.int (1 : Int32))]) (rest := []) (lenOf pd29__I__Ljava_lang_Object_ rfl) rfl (by show 2 * 0 + _ ≤ _; exact Nat.le_of_eq rfl) (hb hby d29_7) (fun _ _ => ⟨rfl, e1, (by decide : 0 + 1 ≤ _), (by decide : 0 + 10 ≤ _)⟩)
  dsimp only [Pt.U, Pt.locs, Pt.cells, Pt.slots, oM30] at X2 l2 y2 z2 st2 hQ2
  subst l2 y2 z2
  obtain ⟨r2, kd2, rfl, N2q, K2, ⟨gE2, gM2, gS2, gD2⟩, gV2, gO2, gs2⟩ := hQ2
  have N2 := Fr.app N0 N2q
  have f3 := E_al.keep K2
  have f4 := Nat.le_trans Z0 K2.1
  have f5 := (Keep.refl h0 [o0]).trans K2 (allS (Or.inl (List.mem_of_getElem? (i := 0) rfl)) all0)
  have f6 := own_sta1 S_de K2 E_al
  have f7 := V_de.keep K2 (ninS (Ne.symm (Exa.neArv E_al V_de (hw _ (List.mem_of_getElem? (i := 114) rfl)))) nin0)
  have G_r2 : n0 ≤ r2 := Nat.le_trans Z0 gs2
  have sz_r2 : h0.size ≤ r2 := Nat.le_trans (Keep.refl h0 [o0]).1 gs2
  refine bk (fun t k => st2.trans k) ?_
  show F (T2.setTop (mkF m 10 #[oR o0] [(.ref r2)]))
  rw [hF]
  refine own_retA X2 hx Bd.notSynchronized Bd.returns rfl rfl (hb hby d29_10) (by decide) (by decide) ?_
  exact ⟨_, _, rfl, N2, f5, ⟨gE2, gM2, gS2, gD2⟩, gV2, gO2, sz_r2⟩
abbrev oN25 : MethodName := ⟨"java/util/ArrayList", "add", "(Ljava/lang/Object;[Ljava/lang/Object;I)V"⟩
abbrev oM28_0 : Room := { frames := 3, cells := 1, slots := 10, locals := 41 }
theorem d28_0 : decode jdk_38_method_24_code 0 = .ok (.iload_n 3, 1) := by decide +kernel
theorem d28_1 : decode jdk_38_method_24_code 1 = .ok (.aload_n 2, 1) := by decide +kernel
theorem d28_2 : decode jdk_38_method_24_code 2 = .ok (.arraylength, 1) := by decide +kernel
theorem d28_3 : decode jdk_38_method_24_code 3 = .ok (.if_icmp .ne 8, 3) := by decide +kernel
theorem d28_6 : decode jdk_38_method_24_code 6 = .ok (.aload_n 0, 1) := by decide +kernel
theorem d28_7 : decode jdk_38_method_24_code 7 = .ok (.invokevirtual 129, 3) := by decide +kernel
theorem d28_10 : decode jdk_38_method_24_code 10 = .ok (.astore_n 2, 1) := by decide +kernel
theorem d28_11 : decode jdk_38_method_24_code 11 = .ok (.aload_n 2, 1) := by decide +kernel
theorem d28_12 : decode jdk_38_method_24_code 12 = .ok (.iload_n 3, 1) := by decide +kernel
theorem d28_13 : decode jdk_38_method_24_code 13 = .ok (.aload_n 1, 1) := by decide +kernel
theorem d28_14 : decode jdk_38_method_24_code 14 = .ok (.aastore, 1) := by decide +kernel
theorem d28_15 : decode jdk_38_method_24_code 15 = .ok (.aload_n 0, 1) := by decide +kernel
theorem d28_16 : decode jdk_38_method_24_code 16 = .ok (.iload_n 3, 1) := by decide +kernel
theorem d28_17 : decode jdk_38_method_24_code 17 = .ok (.iconst 1, 1) := by decide +kernel
theorem d28_18 : decode jdk_38_method_24_code 18 = .ok (.iadd, 1) := by decide +kernel
theorem d28_19 : decode jdk_38_method_24_code 19 = .ok (.putfield 48, 3) := by decide +kernel
theorem d28_22 : decode jdk_38_method_24_code 22 = .ok (.return_, 1) := by decide +kernel
theorem pd28____Ljava_lang_Object_ : parseMethodDescriptor "()[Ljava/lang/Object;" = some ⟨[], some (.array (.object "java/lang/Object"))⟩ := by decide +kernel
theorem pn_28 : plainName "java/util/ArrayList" = true := by first | (simp [plainName, overriddenIn]; done) | decide +kernel
theorem ef_28 (m : MethodId) (x0 : Addr) (x1 : Addr) (x2 : Addr) (x3 : Int32) : entryFrame m #[(.ref x0), (.ref x1), (.ref x2), (.int x3)] 4 = mkF m 0 #[.val (.ref x0), .val (.ref x1), .val (.ref x2), .val (.int x3)] [] := by first | (simp [entryFrame, mkF, argsToLocals, Value.category]; done) | rfl
def Q28_0 (Z : State) (o0 : Addr) (o1 : Addr) (w_de : Addr) (mc : Int32) (k_de : ClassId) (h0 : Heap) (n0 : Nat) (v : Option Value) (h : Heap) (L : List Loc) : Prop := ∃ (r : Addr) (k : ClassId), v = none ∧ Fr n0 L ∧ Keep h0 h [o0] ∧ (Exa Z h o0 "java/util/ArrayList" ∧ Fld Z h o0 "java/util/AbstractList" "modCount" "I" (.int mc) ∧ Fld Z h o0 "java/util/ArrayList" "size" "I" (.int (1 : Int32)) ∧ Fld Z h o0 "java/util/ArrayList" "elementData" "[Ljava/lang/Object;" (.ref r)) ∧ Arv Z h r k (.object "java/lang/Object") (10 : Int32) [(.ref o1), .null, .null] .null ∧ Ovr Z k "java/lang/Object" ∧ h0.size ≤ r
set_option maxRecDepth 65536 in
set_option maxHeartbeats 40000000 in
theorem rm28_0 (l : Launch) (Z : State) (a0 : Array Value) (hw : ∀ d ∈ tables_1, d.before a0 Z = true) (ws : List Jvm.Cond) (o0 : Addr) (o1 : Addr) (w_de : Addr) (mc : Int32) (k_de : ClassId) (h0 : Heap) (n0 : Nat) (Z0 : n0 ≤ h0.size) (E_al : Exa Z h0 o0 "java/util/ArrayList") (F_modCount : Fld Z h0 o0 "java/util/AbstractList" "modCount" "I" (.int mc)) (F_size : Fld Z h0 o0 "java/util/ArrayList" "size" "I" (.int (0 : Int32))) (F_elementData : Fld Z h0 o0 "java/util/ArrayList" "elementData" "[Ljava/lang/Object;" (.ref w_de)) (g_o0 : n0 ≤ o0) (S_de : Sta Z h0 "java/util/ArrayList" "DEFAULTCAPACITY_EMPTY_ELEMENTDATA" "[Ljava/lang/Object;" (.ref w_de)) (V_de : Arv Z h0 w_de k_de (.object "java/lang/Object") (0 : Int32) [] .null) (E_o1 : Exa Z h0 o1 "com/example/quire/quire/readers/Element") :
    MetFree l oN25 (head1 (Jvm.Cond.code oN25 jdk_38_method_24_code 4 none :: ws) oM28_0) (fun a U => a = #[(.ref o0), (.ref o1), (.ref w_de), (.int (0 : Int32))] ∧ Z.Warmed39 U.vm ∧ U.heap = h0) (fun _ _ _ _ _ => True) (fun _ U o U' => ∃ v L, o = .returned v ∧ Q28_0 Z o0 o1 w_de mc k_de h0 n0 v U'.heap L ∧ FrameEnd U o U' L oM28_0.cells oM28_0.slots) := by
  refine MetFree.of_bodySF (plainFor_of_name pn_28) hisR ?_
  intro p e s m args below meth c s₁ Bd hml0 hP hK
  obtain ⟨rfl, hZ, hh⟩ := hP
  have hx := Bd.exec
  have hby := Bd.bytes
  have hml : c.maxLocals = 4 := hml0
  have hown : s.vm.findClass "java/util/ArrayList" = some m.cls := findClass_of_methodNamed Bd.named
  have hnm := (name_of_methodNamed Bd.named Bd.method).1
  have X0 : Stand p l e oM28_0 s m #[(.ref o0), (.ref o1), (.ref w_de), (.int (0 : Int32))] below meth c s₁ [] 0 0 := Stand.of_body Bd
  have e0 : s₁.heap = h0 := by rw [← hh, Bd.state]; rfl
  have N0 := Fr.nil n0
  obtain ⟨F, hF⟩ : ∃ F : State → Prop, F = own_Fin p e below s oM28_0.cells oM28_0.slots (fun v h L => Q28_0 Z o0 o1 w_de mc k_de h0 n0 v h L) := ⟨_, rfl⟩
  have bk : ∀ {A B : State}, (∀ t, Steps p.tables e below B t → Steps p.tables e below A t) → F B → F A := by
    intro A B h k
    rw [hF] at k ⊢
    exact own_back h k
  suffices hgo : F (s₁.setTop (mkF m 0 #[.val (.ref o0), .val (.ref o1), .val (.ref w_de), .val (.int (0 : Int32))] [])) by
    have hgo' := bk (fun t k => castTop (T := s₁) (ef_28 m o0 o1 w_de (0 : Int32)) k) hgo
    rw [hF] at hgo'
    exact hgo'
  have w_114 := hw _ (List.mem_of_getElem? (i := 114) rfl)
  have w_115 := hw _ (List.mem_of_getElem? (i := 115) rfl)
  have w_128 := hw _ (List.mem_of_getElem? (i := 128) rfl)
  have w_131 := hw _ (List.mem_of_getElem? (i := 131) rfl)
  have w_163 := hw _ (List.mem_of_getElem? (i := 163) rfl)
  have w_164 := hw _ (List.mem_of_getElem? (i := 164) rfl)
  have w_204 := hw _ (List.mem_of_getElem? (i := 204) rfl)
  have w_205 := hw _ (List.mem_of_getElem? (i := 205) rfl)
  have w_206 := hw _ (List.mem_of_getElem? (i := 206) rfl)
  have w_207 := hw _ (List.mem_of_getElem? (i := 207) rfl)
  have w_208 := hw _ (List.mem_of_getElem? (i := 208) rfl)
  have w_220 := hw _ (List.mem_of_getElem? (i := 220) rfl)
  refine bk (fun t k => XS.iloadN X0.here hx rfl (hb hby d28_0) rfl k) ?_
  refine bk (fun t k => XS.aloadN X0.here hx rfl (hb hby d28_1) rfl rfl k) ?_
  have vv1 := V_de
  obtain ⟨cl1, Ar1, q1, S1, M1, H1, G1⟩ := vv1
  refine bk (fun t k => X0.arraylength hx (by rw [e0]; exact Ar1.1) (State.isArrayOf_alike hZ.alike Ar1.2.1) (g := (mkF m 2 #[oR o0, oR o1, oR w_de, .val (.int (0 : Int32))] [(.ref w_de), (.int (0 : Int32))])) rfl rfl (hb hby d28_2) t k) ?_
  rw [len_of S1 M1]
  show F (s₁.setTop (mkF m 3 #[oR o0, oR o1, oR w_de, .val (.int (0 : Int32))] [(.int (0 : Int32)), (.int (0 : Int32))]))
  refine bk (fun t k => XS.icmpNo X0.here hx rfl (hb hby d28_3) rfl (teq (by decide : (0 : Int32) = (0 : Int32))).2 k) ?_
  refine bk (fun t k => XS.aloadN X0.here hx rfl (hb hby d28_6) rfl rfl k) ?_
  obtain ⟨cq2, q2, q2'⟩ := (E_al).cell
  obtain ⟨_, _, ⟨T2, L2, k2, n2⟩, -, X2, ⟨Lc2, hQ2, l2, y2, z2⟩, st2⟩ := X0.privateBack hx (y := oN24) hown (mvT hZ w_204) (mvT hZ w_205) (mvT hZ w_207) (Cond.privateMethod_at (mvP hZ w_206 (args := #[]))) (mvT hZ w_208) (by decide) (backOf (W := 0) (rm29 l Z a0 hw [] o0 mc w_de k_de h0 n0 Z0 E_al F_modCount F_size F_elementData g_o0 S_de V_de) hZ w_208 w_115 (by decide) (by decide)) (g := (mkF m 7 #[oR o0, oR o1, oR w_de, .val (.int (0 : Int32))] [(.ref o0)])) rfl (by rw [hml]; rfl) (Steps.refl _) (a := o0) (by rw [e0]; exact q2) q2' (argsL := []) (rest := []) (lenOf pd28____Ljava_lang_Object_ rfl) rfl (by show 2 * 0 + _ ≤ _; exact Nat.le_of_eq rfl) (hb hby d28_7) (fun _ _ => ⟨rfl, e0, (by decide : 0 + 1 ≤ _), (by decide : 0 + 10 ≤ _)⟩)
  dsimp only [Pt.U, Pt.locs, Pt.cells, Pt.slots, oM29] at X2 l2 y2 z2 st2 hQ2
  subst l2 y2 z2
  obtain ⟨r2, kd2, rfl, N2q, K2, ⟨gE2, gM2, gS2, gD2⟩, gV2, gO2, gs2⟩ := hQ2
  have N2 := Fr.app N0 N2q
  have f3 := E_al.keep K2
  have f4 := E_o1.keep K2
  have f5 := Nat.le_trans Z0 K2.1
  have f6 := (Keep.refl h0 [o0]).trans K2 (allS (Or.inl (List.mem_of_getElem? (i := 0) rfl)) all0)
  have f7 := own_sta1 S_de K2 E_al
  have f8 := V_de.keep K2 (ninS (Ne.symm (Exa.neArv E_al V_de w_114)) nin0)
  have G_r2 : n0 ≤ r2 := Nat.le_trans Z0 gs2
  have sz_r2 : h0.size ≤ r2 := Nat.le_trans (Keep.refl h0 [o0]).1 gs2
  refine bk (fun t k => st2.trans k) ?_
  show F (T2.setTop (mkF m 10 #[oR o0, oR o1, oR w_de, .val (.int (0 : Int32))] [(.ref r2)]))
  refine bk (fun t k => XS.astoreN X2.here hx rfl (hb hby d28_10) rfl rfl (l' := #[oR o0, oR o1, oR r2, .val (.int (0 : Int32))]) rfl k) ?_
  refine bk (fun t k => XS.aloadN X2.here hx rfl (hb hby d28_11) rfl rfl k) ?_
  refine bk (fun t k => XS.iloadN X2.here hx rfl (hb hby d28_12) rfl k) ?_
  refine bk (fun t k => XS.aloadN X2.here hx rfl (hb hby d28_13) rfl rfl k) ?_
  show F (T2.setTop (mkF m 14 #[oR o0, oR o1, oR r2, .val (.int (0 : Int32))] [(.ref o1), (.int (0 : Int32)), (.ref r2)]))
  have vv9 := gV2
  obtain ⟨cl9, Ar9, q9, S9, M9, H9, G9⟩ := vv9
  have hin9 : ¬ ((0 : Int32) < 0 ∨ cl9.slots.size ≤ ((0 : Int32)).toNatClampNeg) := inb_of S9 ⟨by decide, by decide⟩
  obtain ⟨T9, h9, X9, e9, W9, st9⟩ := stR X2 hx hZ rfl Ar9 (j := (0 : Int32)) hin9 rfl (Sto.ofV Ar9 q9 gO2 (Ins.of_exa f4 w_220)) (g := (mkF m 14 #[oR o0, oR o1, oR r2, .val (.int (0 : Int32))] [(.ref o1), (.int (0 : Int32)), (.ref r2)])) rfl rfl (hb hby d28_14)
  have V_r2_9 : Arv Z h9 r2 kd2 (.object "java/lang/Object") (10 : Int32) [(.ref o1), .null, .null] .null := Arv.set Ar9 q9 S9 M9 H9 G9 rfl W9 0 rfl (Nat.le_of_ble_eq_true rfl)
  have f10 := gE2.wr W9
  have f11 := f4.wr W9
  have f12 := Nat.le_trans f5 (Keep.of_wr W9).1
  have f13 := f6.wr W9 (Or.inr sz_r2)
  have f14 := f7.wr W9
  have f15 := gM2.other W9 (Or.inl (Exa.neArv gE2 gV2 w_114))
  have f16 := gS2.other W9 (Or.inl (Exa.neArv gE2 gV2 w_114))
  have f17 := gD2.other W9 (Or.inl (Exa.neArv gE2 gV2 w_114))
  have N9 := Fr.snoc X9 N2 G_r2
  refine bk (fun t k => st9 t k) ?_
  refine bk (fun t k => XS.aloadN X9.here hx rfl (hb hby d28_15) rfl rfl k) ?_
  refine bk (fun t k => XS.iloadN X9.here hx rfl (hb hby d28_16) rfl k) ?_
  refine bk (fun t k => XS.iconst X9.here hx rfl (hb hby d28_17) k) ?_
  show F (T9.setTop (mkF m 18 #[oR o0, oR o1, oR r2, .val (.int (0 : Int32))] [(.int (1 : Int32)), (.int (0 : Int32)), (.ref o0)]))
  refine bk (fun t k => XS.iadd X9.here hx rfl (hb hby d28_18) rfl k) ?_
  obtain ⟨T18, h18, X18, e18, W18, st18⟩ := putF X9 hx hZ hown (host := "") (Or.inl w_163) Via.refl e9 f16 f10 (Or.inl w_164) w_114 (ty := .int) (by decide) rfl rfl (g := (mkF m 19 #[oR o0, oR o1, oR r2, .val (.int (0 : Int32))] [(.int (1 : Int32)), (.ref o0)])) rfl rfl (hb hby d28_19)
  have f19 := f10.wr W18
  have f20 := f11.wr W18
  have f21 := Nat.le_trans f12 (Keep.of_wr W18).1
  have f22 := f13.wr W18 (Or.inl (List.mem_of_getElem? (i := 0) rfl))
  have f23 := f14.wr W18
  have f24 := f15.other W18 (Or.inr (slot_ne (Or.inl w_128) (Or.inl w_164) (by decide) (t := .int) (t' := .int) (by decide) (by decide)))
  have f25 := f16.same W18
  have f26 := f17.other W18 (Or.inr (slot_ne (Or.inl w_131) (Or.inl w_164) (by decide) (t := (.array (.object "java/lang/Object"))) (t' := .int) (by decide) (by decide)))
  have f27 := V_r2_9.other W18 (Ne.symm (Exa.neArv f10 V_r2_9 w_114))
  have N18 := Fr.snoc X18 N9 g_o0
  refine bk (fun t k => st18 t k) ?_
  show F (T18.setTop (mkF m 22 #[oR o0, oR o1, oR r2, .val (.int (0 : Int32))] []))
  rw [hF]
  refine own_ret0 X18 hx Bd.notSynchronized Bd.returns (hb hby d28_22) (by decide) (by decide) ?_
  rw [e18]
  exact ⟨_, _, rfl, N18, f22, ⟨f19, f24, f25, f26⟩, f27, gO2, sz_r2⟩
abbrev oN26 : MethodName := ⟨"java/util/ArrayList", "add", "(Ljava/lang/Object;)Z"⟩
abbrev oM27_0 : Room := { frames := 4, cells := 1, slots := 10, locals := 56 }
theorem d27_0 : decode jdk_38_method_25_code 0 = .ok (.aload_n 0, 1) := by decide +kernel
theorem d27_1 : decode jdk_38_method_25_code 1 = .ok (.dup, 1) := by decide +kernel
theorem d27_2 : decode jdk_38_method_25_code 2 = .ok (.getfield 63, 3) := by decide +kernel
theorem d27_5 : decode jdk_38_method_25_code 5 = .ok (.iconst 1, 1) := by decide +kernel
theorem d27_6 : decode jdk_38_method_25_code 6 = .ok (.iadd, 1) := by decide +kernel
theorem d27_7 : decode jdk_38_method_25_code 7 = .ok (.putfield 63, 3) := by decide +kernel
theorem d27_10 : decode jdk_38_method_25_code 10 = .ok (.aload_n 0, 1) := by decide +kernel
theorem d27_11 : decode jdk_38_method_25_code 11 = .ok (.aload_n 1, 1) := by decide +kernel
theorem d27_12 : decode jdk_38_method_25_code 12 = .ok (.aload_n 0, 1) := by decide +kernel
theorem d27_13 : decode jdk_38_method_25_code 13 = .ok (.getfield 9, 3) := by decide +kernel
theorem d27_16 : decode jdk_38_method_25_code 16 = .ok (.aload_n 0, 1) := by decide +kernel
theorem d27_17 : decode jdk_38_method_25_code 17 = .ok (.getfield 48, 3) := by decide +kernel
theorem d27_20 : decode jdk_38_method_25_code 20 = .ok (.invokevirtual 131, 3) := by decide +kernel
theorem d27_23 : decode jdk_38_method_25_code 23 = .ok (.iconst 1, 1) := by decide +kernel
theorem d27_24 : decode jdk_38_method_25_code 24 = .ok (.ireturn, 1) := by decide +kernel
theorem pd27__Ljava_lang_Object__Ljava_lang_Object_I_V : parseMethodDescriptor "(Ljava/lang/Object;[Ljava/lang/Object;I)V" = some ⟨[(.object "java/lang/Object"), (.array (.object "java/lang/Object")), .int], none⟩ := by decide +kernel
theorem pn_27 : plainName "java/util/ArrayList" = true := by first | (simp [plainName, overriddenIn]; done) | decide +kernel
theorem ef_27 (m : MethodId) (x0 : Addr) (x1 : Addr) : entryFrame m #[(.ref x0), (.ref x1)] 2 = mkF m 0 #[.val (.ref x0), .val (.ref x1)] [] := by first | (simp [entryFrame, mkF, argsToLocals, Value.category]; done) | rfl
def Q27_0 (Z : State) (o0 : Addr) (o1 : Addr) (mc : Int32) (w_de : Addr) (k_de : ClassId) (h0 : Heap) (n0 : Nat) (v : Option Value) (h : Heap) (L : List Loc) : Prop := ∃ (r : Addr) (k : ClassId), v = some (.int (1 : Int32)) ∧ Fr n0 L ∧ Keep h0 h [o0] ∧ (Exa Z h o0 "java/util/ArrayList" ∧ Fld Z h o0 "java/util/AbstractList" "modCount" "I" (.int (mc + (1 : Int32))) ∧ Fld Z h o0 "java/util/ArrayList" "size" "I" (.int (1 : Int32)) ∧ Fld Z h o0 "java/util/ArrayList" "elementData" "[Ljava/lang/Object;" (.ref r)) ∧ Arv Z h r k (.object "java/lang/Object") (10 : Int32) [(.ref o1), .null, .null] .null ∧ Ovr Z k "java/lang/Object" ∧ h0.size ≤ r
set_option maxRecDepth 65536 in
set_option maxHeartbeats 40000000 in
theorem rm27_0 (l : Launch) (Z : State) (a0 : Array Value) (hw : ∀ d ∈ tables_1, d.before a0 Z = true) (ws : List Jvm.Cond) (o0 : Addr) (o1 : Addr) (mc : Int32) (w_de : Addr) (k_de : ClassId) (h0 : Heap) (n0 : Nat) (Z0 : n0 ≤ h0.size) (E_al : Exa Z h0 o0 "java/util/ArrayList") (F_modCount : Fld Z h0 o0 "java/util/AbstractList" "modCount" "I" (.int mc)) (F_size : Fld Z h0 o0 "java/util/ArrayList" "size" "I" (.int (0 : Int32))) (F_elementData : Fld Z h0 o0 "java/util/ArrayList" "elementData" "[Ljava/lang/Object;" (.ref w_de)) (g_o0 : n0 ≤ o0) (S_de : Sta Z h0 "java/util/ArrayList" "DEFAULTCAPACITY_EMPTY_ELEMENTDATA" "[Ljava/lang/Object;" (.ref w_de)) (V_de : Arv Z h0 w_de k_de (.object "java/lang/Object") (0 : Int32) [] .null) (E_o1 : Exa Z h0 o1 "com/example/quire/quire/readers/Element") :
    MetFree l oN26 (head1 (Jvm.Cond.code oN26 jdk_38_method_25_code 2 (some .boolean) :: ws) oM27_0) (fun a U => a = #[(.ref o0), (.ref o1)] ∧ Z.Warmed39 U.vm ∧ U.heap = h0) (fun _ _ _ _ _ => True) (fun _ U o U' => ∃ v L, o = .returned v ∧ Q27_0 Z o0 o1 mc w_de k_de h0 n0 v U'.heap L ∧ FrameEnd U o U' L oM27_0.cells oM27_0.slots) := by
  refine MetFree.of_bodySF (plainFor_of_name pn_27) hisR ?_
  intro p e s m args below meth c s₁ Bd hml0 hP hK
  obtain ⟨rfl, hZ, hh⟩ := hP
  have hx := Bd.exec
  have hby := Bd.bytes
  have hml : c.maxLocals = 2 := hml0
  have hown : s.vm.findClass "java/util/ArrayList" = some m.cls := findClass_of_methodNamed Bd.named
  have hnm := (name_of_methodNamed Bd.named Bd.method).1
  have X0 : Stand p l e oM27_0 s m #[(.ref o0), (.ref o1)] below meth c s₁ [] 0 0 := Stand.of_body Bd
  have e0 : s₁.heap = h0 := by rw [← hh, Bd.state]; rfl
  have N0 := Fr.nil n0
  obtain ⟨F, hF⟩ : ∃ F : State → Prop, F = own_Fin p e below s oM27_0.cells oM27_0.slots (fun v h L => Q27_0 Z o0 o1 mc w_de k_de h0 n0 v h L) := ⟨_, rfl⟩
  have bk : ∀ {A B : State}, (∀ t, Steps p.tables e below B t → Steps p.tables e below A t) → F B → F A := by
    intro A B h k
    rw [hF] at k ⊢
    exact own_back h k
  suffices hgo : F (s₁.setTop (mkF m 0 #[.val (.ref o0), .val (.ref o1)] [])) by
    have hgo' := bk (fun t k => castTop (T := s₁) (ef_27 m o0 o1) k) hgo
    rw [hF] at hgo'
    exact hgo'
  have w_114 := hw _ (List.mem_of_getElem? (i := 114) rfl)
  have w_115 := hw _ (List.mem_of_getElem? (i := 115) rfl)
  have w_128 := hw _ (List.mem_of_getElem? (i := 128) rfl)
  have w_130 := hw _ (List.mem_of_getElem? (i := 130) rfl)
  have w_131 := hw _ (List.mem_of_getElem? (i := 131) rfl)
  have w_163 := hw _ (List.mem_of_getElem? (i := 163) rfl)
  have w_164 := hw _ (List.mem_of_getElem? (i := 164) rfl)
  have w_197 := hw _ (List.mem_of_getElem? (i := 197) rfl)
  have w_198 := hw _ (List.mem_of_getElem? (i := 198) rfl)
  have w_199 := hw _ (List.mem_of_getElem? (i := 199) rfl)
  have w_200 := hw _ (List.mem_of_getElem? (i := 200) rfl)
  have w_201 := hw _ (List.mem_of_getElem? (i := 201) rfl)
  have w_202 := hw _ (List.mem_of_getElem? (i := 202) rfl)
  have w_203 := hw _ (List.mem_of_getElem? (i := 203) rfl)
  refine bk (fun t k => XS.aloadN X0.here hx rfl (hb hby d27_0) rfl rfl k) ?_
  refine bk (fun t k => XS.dup X0.here hx rfl (hb hby d27_1) rfl rfl k) ?_
  obtain ⟨T1, X1, e1, st1⟩ := getF X0 hx hZ hown (host := "") (Or.inl w_197) (Via.of w_198) e0 F_modCount (g := (mkF m 2 #[oR o0, oR o1] [(.ref o0), (.ref o0)])) rfl rfl (hb hby d27_2)
  refine bk (fun t k => st1 t k) ?_
  refine bk (fun t k => XS.iconst X1.here hx rfl (hb hby d27_5) k) ?_
  show F (T1.setTop (mkF m 6 #[oR o0, oR o1] [(.int (1 : Int32)), (.int mc), (.ref o0)]))
  refine bk (fun t k => XS.iadd X1.here hx rfl (hb hby d27_6) rfl k) ?_
  obtain ⟨T2, h2, X2, e2, W2, st2⟩ := putF X1 hx hZ hown (host := "") (Or.inl w_197) (Via.of w_198) e1 F_modCount E_al (Or.inl w_128) w_114 (ty := .int) (by decide) rfl rfl (g := (mkF m 7 #[oR o0, oR o1] [(.int (mc + (1 : Int32))), (.ref o0)])) rfl rfl (hb hby d27_7)
  have f3 := E_al.wr W2
  have f4 := F_modCount.same W2
  have f5 := F_size.other W2 (Or.inr (slot_ne (Or.inl w_164) (Or.inl w_128) (by decide) (t := .int) (t' := .int) (by decide) (by decide)))
  have f6 := F_elementData.other W2 (Or.inr (slot_ne (Or.inl w_131) (Or.inl w_128) (by decide) (t := (.array (.object "java/lang/Object"))) (t' := .int) (by decide) (by decide)))
  have f7 := E_o1.wr W2
  have f8 := Nat.le_trans Z0 (Keep.of_wr W2).1
  have f9 := (Keep.refl h0 [o0]).wr W2 (Or.inl (List.mem_of_getElem? (i := 0) rfl))
  have f10 := S_de.wr W2
  have f11 := V_de.other W2 (Ne.symm (Exa.neArv E_al V_de w_114))
  have N2 := Fr.snoc X2 N0 g_o0
  refine bk (fun t k => st2 t k) ?_
  refine bk (fun t k => XS.aloadN X2.here hx rfl (hb hby d27_10) rfl rfl k) ?_
  refine bk (fun t k => XS.aloadN X2.here hx rfl (hb hby d27_11) rfl rfl k) ?_
  refine bk (fun t k => XS.aloadN X2.here hx rfl (hb hby d27_12) rfl rfl k) ?_
  show F (T2.setTop (mkF m 13 #[oR o0, oR o1] [(.ref o0), (.ref o1), (.ref o0)]))
  obtain ⟨T12, X12, e12, st12⟩ := getF X2 hx hZ hown (host := "") (Or.inl w_130) Via.refl e2 f6 (g := (mkF m 13 #[oR o0, oR o1] [(.ref o0), (.ref o1), (.ref o0)])) rfl rfl (hb hby d27_13)
  refine bk (fun t k => st12 t k) ?_
  refine bk (fun t k => XS.aloadN X12.here hx rfl (hb hby d27_16) rfl rfl k) ?_
  show F (T12.setTop (mkF m 17 #[oR o0, oR o1] [(.ref o0), (.ref w_de), (.ref o1), (.ref o0)]))
  obtain ⟨T13, X13, e13, st13⟩ := getF X12 hx hZ hown (host := "") (Or.inl w_163) Via.refl e12 f5 (g := (mkF m 17 #[oR o0, oR o1] [(.ref o0), (.ref w_de), (.ref o1), (.ref o0)])) rfl rfl (hb hby d27_17)
  refine bk (fun t k => st13 t k) ?_
  show F (T13.setTop (mkF m 20 #[oR o0, oR o1] [(.int (0 : Int32)), (.ref w_de), (.ref o1), (.ref o0)]))
  obtain ⟨cq14, q14, q14'⟩ := (f3).cell
  obtain ⟨_, _, ⟨T14, L14, k14, n14⟩, -, X14, ⟨Lc14, hQ14, l14, y14, z14⟩, st14⟩ := X13.privateBack hx (y := oN25) hown (mvT hZ w_199) (mvT hZ w_200) (mvT hZ w_202) (Cond.privateMethod_at (mvP hZ w_201 (args := #[]))) (mvT hZ w_203) (by decide) (backOf (W := 0) (rm28_0 l Z a0 hw [] o0 o1 w_de (mc + (1 : Int32)) k_de h2 n0 f8 f3 f4 f5 f6 g_o0 f10 f11 f7) hZ w_203 w_115 (by decide) (by decide)) (g := (mkF m 20 #[oR o0, oR o1] [(.int (0 : Int32)), (.ref w_de), (.ref o1), (.ref o0)])) rfl (by rw [hml]; rfl) (Steps.refl _) (a := o0) (by rw [e13]; exact q14) q14' (argsL := [(.ref o1), (.ref w_de), (.int (0 : Int32))]) (rest := []) (lenOf pd27__Ljava_lang_Object__Ljava_lang_Object_I_V rfl) rfl (by show 2 * 0 + _ ≤ _; exact Nat.le_of_eq rfl) (hb hby d27_20) (fun _ _ => ⟨rfl, e13, (by decide : 0 + 1 ≤ _), (by decide : 0 + 10 ≤ _)⟩)
  dsimp only [Pt.U, Pt.locs, Pt.cells, Pt.slots, oM28_0] at X14 l14 y14 z14 st14 hQ14
  subst l14 y14 z14
  obtain ⟨r14, kd14, rfl, N14q, K14, ⟨gE14, gM14, gS14, gD14⟩, gV14, gO14, gs14⟩ := hQ14
  have N14 := Fr.app N2 N14q
  have f15 := f3.keep K14
  have f16 := f7.keep K14
  have f17 := Nat.le_trans f8 K14.1
  have f18 := f9.trans K14 (allS (Or.inl (List.mem_of_getElem? (i := 0) rfl)) all0)
  have f19 := own_sta1 f10 K14 f3
  have f20 := f11.keep K14 (ninS (Ne.symm (Exa.neArv f3 f11 w_114)) nin0)
  have G_r14 : n0 ≤ r14 := Nat.le_trans f8 gs14
  have sz_r14 : h0.size ≤ r14 := Nat.le_trans f9.1 gs14
  refine bk (fun t k => st14.trans k) ?_
  refine bk (fun t k => XS.iconst X14.here hx rfl (hb hby d27_23) k) ?_
  show F (T14.setTop (mkF m 24 #[oR o0, oR o1] [(.int (1 : Int32))]))
  rw [hF]
  refine own_retZ X14 hx Bd.notSynchronized Bd.returns (hb hby d27_24) (by decide) (by decide) ?_
  exact ⟨_, _, rfl, N14, f18, ⟨gE14, gM14, gS14, gD14⟩, gV14, gO14, sz_r14⟩
abbrev oM28_1 : Room := { frames := 0, cells := 0, slots := 0, locals := 0 }
def Q28_1 (Z : State) (o0 : Addr) (o1 : Addr) (o2 : Addr) (mc : Int32) (kz : ClassId) (c0 : Addr) (h0 : Heap) (n0 : Nat) (v : Option Value) (h : Heap) (L : List Loc) : Prop := v = none ∧ Fr n0 L ∧ Keep h0 h [o0, o2] ∧ (Exa Z h o0 "java/util/ArrayList" ∧ Fld Z h o0 "java/util/AbstractList" "modCount" "I" (.int mc) ∧ Fld Z h o0 "java/util/ArrayList" "size" "I" (.int (2 : Int32)) ∧ Fld Z h o0 "java/util/ArrayList" "elementData" "[Ljava/lang/Object;" (.ref o2)) ∧ Arv Z h o2 kz (.object "java/lang/Object") (10 : Int32) [(.ref c0), (.ref o1), .null] .null
set_option maxRecDepth 65536 in
set_option maxHeartbeats 40000000 in
theorem rm28_1 (l : Launch) (Z : State) (a0 : Array Value) (hw : ∀ d ∈ tables_1, d.before a0 Z = true) (ws : List Jvm.Cond) (o0 : Addr) (o1 : Addr) (o2 : Addr) (mc : Int32) (kz : ClassId) (c0 : Addr) (h0 : Heap) (n0 : Nat) (Z0 : n0 ≤ h0.size) (E_al : Exa Z h0 o0 "java/util/ArrayList") (F_modCount : Fld Z h0 o0 "java/util/AbstractList" "modCount" "I" (.int mc)) (F_size : Fld Z h0 o0 "java/util/ArrayList" "size" "I" (.int (1 : Int32))) (F_elementData : Fld Z h0 o0 "java/util/ArrayList" "elementData" "[Ljava/lang/Object;" (.ref o2)) (g_o0 : n0 ≤ o0) (g_o2 : n0 ≤ o2) (V_2 : Arv Z h0 o2 kz (.object "java/lang/Object") (10 : Int32) [(.ref c0), .null, .null] .null) (O_2 : Ovr Z kz "java/lang/Object") (E_o1 : Exa Z h0 o1 "com/example/quire/quire/readers/Element") :
    MetFree l oN25 (head1 (Jvm.Cond.code oN25 jdk_38_method_24_code 4 none :: ws) oM28_1) (fun a U => a = #[(.ref o0), (.ref o1), (.ref o2), (.int (1 : Int32))] ∧ Z.Warmed39 U.vm ∧ U.heap = h0) (fun _ _ _ _ _ => True) (fun _ U o U' => ∃ v L, o = .returned v ∧ Q28_1 Z o0 o1 o2 mc kz c0 h0 n0 v U'.heap L ∧ FrameEnd U o U' L oM28_1.cells oM28_1.slots) := by
  refine MetFree.of_bodySF (plainFor_of_name pn_28) hisR ?_
  intro p e s m args below meth c s₁ Bd hml0 hP hK
  obtain ⟨rfl, hZ, hh⟩ := hP
  have hx := Bd.exec
  have hby := Bd.bytes
  have hml : c.maxLocals = 4 := hml0
  have hown : s.vm.findClass "java/util/ArrayList" = some m.cls := findClass_of_methodNamed Bd.named
  have hnm := (name_of_methodNamed Bd.named Bd.method).1
  have X0 : Stand p l e oM28_1 s m #[(.ref o0), (.ref o1), (.ref o2), (.int (1 : Int32))] below meth c s₁ [] 0 0 := Stand.of_body Bd
  have e0 : s₁.heap = h0 := by rw [← hh, Bd.state]; rfl
  have N0 := Fr.nil n0
  obtain ⟨F, hF⟩ : ∃ F : State → Prop, F = own_Fin p e below s oM28_1.cells oM28_1.slots (fun v h L => Q28_1 Z o0 o1 o2 mc kz c0 h0 n0 v h L) := ⟨_, rfl⟩
  have bk : ∀ {A B : State}, (∀ t, Steps p.tables e below B t → Steps p.tables e below A t) → F B → F A := by
    intro A B h k
    rw [hF] at k ⊢
    exact own_back h k
  suffices hgo : F (s₁.setTop (mkF m 0 #[.val (.ref o0), .val (.ref o1), .val (.ref o2), .val (.int (1 : Int32))] [])) by
    have hgo' := bk (fun t k => castTop (T := s₁) (ef_28 m o0 o1 o2 (1 : Int32)) k) hgo
    rw [hF] at hgo'
    exact hgo'
  have w_114 := hw _ (List.mem_of_getElem? (i := 114) rfl)
  have w_128 := hw _ (List.mem_of_getElem? (i := 128) rfl)
  have w_131 := hw _ (List.mem_of_getElem? (i := 131) rfl)
  have w_163 := hw _ (List.mem_of_getElem? (i := 163) rfl)
  have w_164 := hw _ (List.mem_of_getElem? (i := 164) rfl)
  have w_220 := hw _ (List.mem_of_getElem? (i := 220) rfl)
  refine bk (fun t k => XS.iloadN X0.here hx rfl (hb hby d28_0) rfl k) ?_
  refine bk (fun t k => XS.aloadN X0.here hx rfl (hb hby d28_1) rfl rfl k) ?_
  have vv1 := V_2
  obtain ⟨cl1, Ar1, q1, S1, M1, H1, G1⟩ := vv1
  refine bk (fun t k => X0.arraylength hx (by rw [e0]; exact Ar1.1) (State.isArrayOf_alike hZ.alike Ar1.2.1) (g := (mkF m 2 #[oR o0, oR o1, oR o2, .val (.int (1 : Int32))] [(.ref o2), (.int (1 : Int32))])) rfl rfl (hb hby d28_2) t k) ?_
  rw [len_of S1 M1]
  show F (s₁.setTop (mkF m 3 #[oR o0, oR o1, oR o2, .val (.int (1 : Int32))] [(.int (10 : Int32)), (.int (1 : Int32))]))
  refine bk (fun t k => XS.icmpYes X0.here hx rfl (pc0 := 3) (pc' := 11) rfl (hb hby d28_3) rfl (feq (by decide : ¬ ((1 : Int32) = (10 : Int32)))).2 (by decide) (by decide) k) ?_
  refine bk (fun t k => XS.aloadN X0.here hx rfl (hb hby d28_11) rfl rfl k) ?_
  refine bk (fun t k => XS.iloadN X0.here hx rfl (hb hby d28_12) rfl k) ?_
  refine bk (fun t k => XS.aloadN X0.here hx rfl (hb hby d28_13) rfl rfl k) ?_
  show F (s₁.setTop (mkF m 14 #[oR o0, oR o1, oR o2, .val (.int (1 : Int32))] [(.ref o1), (.int (1 : Int32)), (.ref o2)]))
  have vv2 := V_2
  obtain ⟨cl2, Ar2, q2, S2, M2, H2, G2⟩ := vv2
  have hin2 : ¬ ((1 : Int32) < 0 ∨ cl2.slots.size ≤ ((1 : Int32)).toNatClampNeg) := inb_of S2 ⟨by decide, by decide⟩
  obtain ⟨T2, h2, X2, e2, W2, st2⟩ := stR X0 hx hZ e0 Ar2 (j := (1 : Int32)) hin2 rfl (Sto.ofV Ar2 q2 O_2 (Ins.of_exa E_o1 w_220)) (g := (mkF m 14 #[oR o0, oR o1, oR o2, .val (.int (1 : Int32))] [(.ref o1), (.int (1 : Int32)), (.ref o2)])) rfl rfl (hb hby d28_14)
  have V_o2_2 : Arv Z h2 o2 kz (.object "java/lang/Object") (10 : Int32) [(.ref c0), (.ref o1), .null] .null := Arv.set Ar2 q2 S2 M2 H2 G2 rfl W2 1 rfl (Nat.le_of_ble_eq_true rfl)
  have f3 := E_al.wr W2
  have f4 := F_modCount.other W2 (Or.inl (Exa.neArv E_al V_2 w_114))
  have f5 := F_size.other W2 (Or.inl (Exa.neArv E_al V_2 w_114))
  have f6 := F_elementData.other W2 (Or.inl (Exa.neArv E_al V_2 w_114))
  have f7 := E_o1.wr W2
  have f8 := Nat.le_trans Z0 (Keep.of_wr W2).1
  have f9 := (Keep.refl h0 [o0, o2]).wr W2 (Or.inl (List.mem_of_getElem? (i := 1) rfl))
  have N2 := Fr.snoc X2 N0 g_o2
  refine bk (fun t k => st2 t k) ?_
  refine bk (fun t k => XS.aloadN X2.here hx rfl (hb hby d28_15) rfl rfl k) ?_
  refine bk (fun t k => XS.iloadN X2.here hx rfl (hb hby d28_16) rfl k) ?_
  refine bk (fun t k => XS.iconst X2.here hx rfl (hb hby d28_17) k) ?_
  show F (T2.setTop (mkF m 18 #[oR o0, oR o1, oR o2, .val (.int (1 : Int32))] [(.int (1 : Int32)), (.int (1 : Int32)), (.ref o0)]))
  refine bk (fun t k => XS.iadd X2.here hx rfl (hb hby d28_18) rfl k) ?_
  obtain ⟨T10, h10, X10, e10, W10, st10⟩ := putF X2 hx hZ hown (host := "") (Or.inl w_163) Via.refl e2 f5 f3 (Or.inl w_164) w_114 (ty := .int) (by decide) rfl rfl (g := (mkF m 19 #[oR o0, oR o1, oR o2, .val (.int (1 : Int32))] [(.int (2 : Int32)), (.ref o0)])) rfl rfl (hb hby d28_19)
  have f11 := f3.wr W10
  have f12 := f4.other W10 (Or.inr (slot_ne (Or.inl w_128) (Or.inl w_164) (by decide) (t := .int) (t' := .int) (by decide) (by decide)))
  have f13 := f5.same W10
  have f14 := f6.other W10 (Or.inr (slot_ne (Or.inl w_131) (Or.inl w_164) (by decide) (t := (.array (.object "java/lang/Object"))) (t' := .int) (by decide) (by decide)))
  have f15 := f7.wr W10
  have f16 := Nat.le_trans f8 (Keep.of_wr W10).1
  have f17 := f9.wr W10 (Or.inl (List.mem_of_getElem? (i := 0) rfl))
  have f18 := V_o2_2.other W10 (Ne.symm (Exa.neArv f3 V_o2_2 w_114))
  have N10 := Fr.snoc X10 N2 g_o0
  refine bk (fun t k => st10 t k) ?_
  show F (T10.setTop (mkF m 22 #[oR o0, oR o1, oR o2, .val (.int (1 : Int32))] []))
  rw [hF]
  refine own_ret0 X10 hx Bd.notSynchronized Bd.returns (hb hby d28_22) (by decide) (by decide) ?_
  rw [e10]
  exact ⟨rfl, N10, f17, ⟨f11, f12, f13, f14⟩, f18⟩
abbrev oM27_1 : Room := { frames := 1, cells := 0, slots := 0, locals := 15 }
def Q27_1 (Z : State) (o0 : Addr) (o1 : Addr) (mc : Int32) (o2 : Addr) (kz : ClassId) (c0 : Addr) (h0 : Heap) (n0 : Nat) (v : Option Value) (h : Heap) (L : List Loc) : Prop := v = some (.int (1 : Int32)) ∧ Fr n0 L ∧ Keep h0 h [o0, o2] ∧ (Exa Z h o0 "java/util/ArrayList" ∧ Fld Z h o0 "java/util/AbstractList" "modCount" "I" (.int (mc + (1 : Int32))) ∧ Fld Z h o0 "java/util/ArrayList" "size" "I" (.int (2 : Int32)) ∧ Fld Z h o0 "java/util/ArrayList" "elementData" "[Ljava/lang/Object;" (.ref o2)) ∧ Arv Z h o2 kz (.object "java/lang/Object") (10 : Int32) [(.ref c0), (.ref o1), .null] .null
set_option maxRecDepth 65536 in
set_option maxHeartbeats 40000000 in
theorem rm27_1 (l : Launch) (Z : State) (a0 : Array Value) (hw : ∀ d ∈ tables_1, d.before a0 Z = true) (ws : List Jvm.Cond) (o0 : Addr) (o1 : Addr) (mc : Int32) (o2 : Addr) (kz : ClassId) (c0 : Addr) (h0 : Heap) (n0 : Nat) (Z0 : n0 ≤ h0.size) (E_al : Exa Z h0 o0 "java/util/ArrayList") (F_modCount : Fld Z h0 o0 "java/util/AbstractList" "modCount" "I" (.int mc)) (F_size : Fld Z h0 o0 "java/util/ArrayList" "size" "I" (.int (1 : Int32))) (F_elementData : Fld Z h0 o0 "java/util/ArrayList" "elementData" "[Ljava/lang/Object;" (.ref o2)) (g_o0 : n0 ≤ o0) (g_o2 : n0 ≤ o2) (V_2 : Arv Z h0 o2 kz (.object "java/lang/Object") (10 : Int32) [(.ref c0), .null, .null] .null) (O_2 : Ovr Z kz "java/lang/Object") (E_o1 : Exa Z h0 o1 "com/example/quire/quire/readers/Element") :
    MetFree l oN26 (head1 (Jvm.Cond.code oN26 jdk_38_method_25_code 2 (some .boolean) :: ws) oM27_1) (fun a U => a = #[(.ref o0), (.ref o1)] ∧ Z.Warmed39 U.vm ∧ U.heap = h0) (fun _ _ _ _ _ => True) (fun _ U o U' => ∃ v L, o = .returned v ∧ Q27_1 Z o0 o1 mc o2 kz c0 h0 n0 v U'.heap L ∧ FrameEnd U o U' L oM27_1.cells oM27_1.slots) := by
  refine MetFree.of_bodySF (plainFor_of_name pn_27) hisR ?_
  intro p e s m args below meth c s₁ Bd hml0 hP hK
  obtain ⟨rfl, hZ, hh⟩ := hP
  have hx := Bd.exec
  have hby := Bd.bytes
  have hml : c.maxLocals = 2 := hml0
  have hown : s.vm.findClass "java/util/ArrayList" = some m.cls := findClass_of_methodNamed Bd.named
  have hnm := (name_of_methodNamed Bd.named Bd.method).1
  have X0 : Stand p l e oM27_1 s m #[(.ref o0), (.ref o1)] below meth c s₁ [] 0 0 := Stand.of_body Bd
  have e0 : s₁.heap = h0 := by rw [← hh, Bd.state]; rfl
  have N0 := Fr.nil n0
  obtain ⟨F, hF⟩ : ∃ F : State → Prop, F = own_Fin p e below s oM27_1.cells oM27_1.slots (fun v h L => Q27_1 Z o0 o1 mc o2 kz c0 h0 n0 v h L) := ⟨_, rfl⟩
  have bk : ∀ {A B : State}, (∀ t, Steps p.tables e below B t → Steps p.tables e below A t) → F B → F A := by
    intro A B h k
    rw [hF] at k ⊢
    exact own_back h k
  suffices hgo : F (s₁.setTop (mkF m 0 #[.val (.ref o0), .val (.ref o1)] [])) by
    have hgo' := bk (fun t k => castTop (T := s₁) (ef_27 m o0 o1) k) hgo
    rw [hF] at hgo'
    exact hgo'
  have w_114 := hw _ (List.mem_of_getElem? (i := 114) rfl)
  have w_115 := hw _ (List.mem_of_getElem? (i := 115) rfl)
  have w_128 := hw _ (List.mem_of_getElem? (i := 128) rfl)
  have w_130 := hw _ (List.mem_of_getElem? (i := 130) rfl)
  have w_131 := hw _ (List.mem_of_getElem? (i := 131) rfl)
  have w_163 := hw _ (List.mem_of_getElem? (i := 163) rfl)
  have w_164 := hw _ (List.mem_of_getElem? (i := 164) rfl)
  have w_197 := hw _ (List.mem_of_getElem? (i := 197) rfl)
  have w_198 := hw _ (List.mem_of_getElem? (i := 198) rfl)
  have w_199 := hw _ (List.mem_of_getElem? (i := 199) rfl)
  have w_200 := hw _ (List.mem_of_getElem? (i := 200) rfl)
  have w_201 := hw _ (List.mem_of_getElem? (i := 201) rfl)
  have w_202 := hw _ (List.mem_of_getElem? (i := 202) rfl)
  have w_203 := hw _ (List.mem_of_getElem? (i := 203) rfl)
  refine bk (fun t k => XS.aloadN X0.here hx rfl (hb hby d27_0) rfl rfl k) ?_
  refine bk (fun t k => XS.dup X0.here hx rfl (hb hby d27_1) rfl rfl k) ?_
  obtain ⟨T1, X1, e1, st1⟩ := getF X0 hx hZ hown (host := "") (Or.inl w_197) (Via.of w_198) e0 F_modCount (g := (mkF m 2 #[oR o0, oR o1] [(.ref o0), (.ref o0)])) rfl rfl (hb hby d27_2)
  refine bk (fun t k => st1 t k) ?_
  refine bk (fun t k => XS.iconst X1.here hx rfl (hb hby d27_5) k) ?_
  show F (T1.setTop (mkF m 6 #[oR o0, oR o1] [(.int (1 : Int32)), (.int mc), (.ref o0)]))
  refine bk (fun t k => XS.iadd X1.here hx rfl (hb hby d27_6) rfl k) ?_
  obtain ⟨T2, h2, X2, e2, W2, st2⟩ := putF X1 hx hZ hown (host := "") (Or.inl w_197) (Via.of w_198) e1 F_modCount E_al (Or.inl w_128) w_114 (ty := .int) (by decide) rfl rfl (g := (mkF m 7 #[oR o0, oR o1] [(.int (mc + (1 : Int32))), (.ref o0)])) rfl rfl (hb hby d27_7)
  have f3 := E_al.wr W2
  have f4 := F_modCount.same W2
  have f5 := F_size.other W2 (Or.inr (slot_ne (Or.inl w_164) (Or.inl w_128) (by decide) (t := .int) (t' := .int) (by decide) (by decide)))
  have f6 := F_elementData.other W2 (Or.inr (slot_ne (Or.inl w_131) (Or.inl w_128) (by decide) (t := (.array (.object "java/lang/Object"))) (t' := .int) (by decide) (by decide)))
  have f7 := E_o1.wr W2
  have f8 := Nat.le_trans Z0 (Keep.of_wr W2).1
  have f9 := (Keep.refl h0 [o0, o2]).wr W2 (Or.inl (List.mem_of_getElem? (i := 0) rfl))
  have f10 := V_2.other W2 (Ne.symm (Exa.neArv E_al V_2 w_114))
  have N2 := Fr.snoc X2 N0 g_o0
  refine bk (fun t k => st2 t k) ?_
  refine bk (fun t k => XS.aloadN X2.here hx rfl (hb hby d27_10) rfl rfl k) ?_
  refine bk (fun t k => XS.aloadN X2.here hx rfl (hb hby d27_11) rfl rfl k) ?_
  refine bk (fun t k => XS.aloadN X2.here hx rfl (hb hby d27_12) rfl rfl k) ?_
  show F (T2.setTop (mkF m 13 #[oR o0, oR o1] [(.ref o0), (.ref o1), (.ref o0)]))
  obtain ⟨T11, X11, e11, st11⟩ := getF X2 hx hZ hown (host := "") (Or.inl w_130) Via.refl e2 f6 (g := (mkF m 13 #[oR o0, oR o1] [(.ref o0), (.ref o1), (.ref o0)])) rfl rfl (hb hby d27_13)
  refine bk (fun t k => st11 t k) ?_
  refine bk (fun t k => XS.aloadN X11.here hx rfl (hb hby d27_16) rfl rfl k) ?_
  show F (T11.setTop (mkF m 17 #[oR o0, oR o1] [(.ref o0), (.ref o2), (.ref o1), (.ref o0)]))
  obtain ⟨T12, X12, e12, st12⟩ := getF X11 hx hZ hown (host := "") (Or.inl w_163) Via.refl e11 f5 (g := (mkF m 17 #[oR o0, oR o1] [(.ref o0), (.ref o2), (.ref o1), (.ref o0)])) rfl rfl (hb hby d27_17)
  refine bk (fun t k => st12 t k) ?_
  show F (T12.setTop (mkF m 20 #[oR o0, oR o1] [(.int (1 : Int32)), (.ref o2), (.ref o1), (.ref o0)]))
  obtain ⟨cq13, q13, q13'⟩ := (f3).cell
  obtain ⟨_, _, ⟨T13, L13, k13, n13⟩, -, X13, ⟨Lc13, hQ13, l13, y13, z13⟩, st13⟩ := X12.privateBack hx (y := oN25) hown (mvT hZ w_199) (mvT hZ w_200) (mvT hZ w_202) (Cond.privateMethod_at (mvP hZ w_201 (args := #[]))) (mvT hZ w_203) (by decide) (backOf (W := 0) (rm28_1 l Z a0 hw [] o0 o1 o2 (mc + (1 : Int32)) kz c0 h2 n0 f8 f3 f4 f5 f6 g_o0 g_o2 f10 O_2 f7) hZ w_203 w_115 (by decide) (by decide)) (g := (mkF m 20 #[oR o0, oR o1] [(.int (1 : Int32)), (.ref o2), (.ref o1), (.ref o0)])) rfl (by rw [hml]; rfl) (Steps.refl _) (a := o0) (by rw [e12]; exact q13) q13' (argsL := [(.ref o1), (.ref o2), (.int (1 : Int32))]) (rest := []) (lenOf pd27__Ljava_lang_Object__Ljava_lang_Object_I_V rfl) rfl (by show 2 * 0 + _ ≤ _; exact Nat.le_of_eq rfl) (hb hby d27_20) (fun _ _ => ⟨rfl, e12, (by decide : 0 + 0 ≤ _), (by decide : 0 + 0 ≤ _)⟩)
  dsimp only [Pt.U, Pt.locs, Pt.cells, Pt.slots, oM28_1] at X13 l13 y13 z13 st13 hQ13
  subst l13 y13 z13
  obtain ⟨rfl, N13q, K13, ⟨gE13, gM13, gS13, gD13⟩, gV13⟩ := hQ13
  have N13 := Fr.app N2 N13q
  have f14 := f3.keep K13
  have f15 := f7.keep K13
  have f16 := Nat.le_trans f8 K13.1
  have f17 := f9.trans K13 (allS (Or.inl (List.mem_of_getElem? (i := 0) rfl)) (allS (Or.inl (List.mem_of_getElem? (i := 1) rfl)) all0))
  refine bk (fun t k => st13.trans k) ?_
  refine bk (fun t k => XS.iconst X13.here hx rfl (hb hby d27_23) k) ?_
  show F (T13.setTop (mkF m 24 #[oR o0, oR o1] [(.int (1 : Int32))]))
  rw [hF]
  refine own_retZ X13 hx Bd.notSynchronized Bd.returns (hb hby d27_24) (by decide) (by decide) ?_
  exact ⟨rfl, N13, f17, ⟨gE13, gM13, gS13, gD13⟩, gV13⟩
abbrev oM28_2 : Room := { frames := 0, cells := 0, slots := 0, locals := 0 }
def Q28_2 (Z : State) (o0 : Addr) (o1 : Addr) (o2 : Addr) (mc : Int32) (kz : ClassId) (c0 : Addr) (c1 : Addr) (h0 : Heap) (n0 : Nat) (v : Option Value) (h : Heap) (L : List Loc) : Prop := v = none ∧ Fr n0 L ∧ Keep h0 h [o0, o2] ∧ (Exa Z h o0 "java/util/ArrayList" ∧ Fld Z h o0 "java/util/AbstractList" "modCount" "I" (.int mc) ∧ Fld Z h o0 "java/util/ArrayList" "size" "I" (.int (3 : Int32)) ∧ Fld Z h o0 "java/util/ArrayList" "elementData" "[Ljava/lang/Object;" (.ref o2)) ∧ Arv Z h o2 kz (.object "java/lang/Object") (10 : Int32) [(.ref c0), (.ref c1), (.ref o1)] .null
set_option maxRecDepth 65536 in
set_option maxHeartbeats 40000000 in
theorem rm28_2 (l : Launch) (Z : State) (a0 : Array Value) (hw : ∀ d ∈ tables_1, d.before a0 Z = true) (ws : List Jvm.Cond) (o0 : Addr) (o1 : Addr) (o2 : Addr) (mc : Int32) (kz : ClassId) (c0 : Addr) (c1 : Addr) (h0 : Heap) (n0 : Nat) (Z0 : n0 ≤ h0.size) (E_al : Exa Z h0 o0 "java/util/ArrayList") (F_modCount : Fld Z h0 o0 "java/util/AbstractList" "modCount" "I" (.int mc)) (F_size : Fld Z h0 o0 "java/util/ArrayList" "size" "I" (.int (2 : Int32))) (F_elementData : Fld Z h0 o0 "java/util/ArrayList" "elementData" "[Ljava/lang/Object;" (.ref o2)) (g_o0 : n0 ≤ o0) (g_o2 : n0 ≤ o2) (V_2 : Arv Z h0 o2 kz (.object "java/lang/Object") (10 : Int32) [(.ref c0), (.ref c1), .null] .null) (O_2 : Ovr Z kz "java/lang/Object") (E_o1 : Exa Z h0 o1 "com/example/quire/quire/readers/Element") :
    MetFree l oN25 (head1 (Jvm.Cond.code oN25 jdk_38_method_24_code 4 none :: ws) oM28_2) (fun a U => a = #[(.ref o0), (.ref o1), (.ref o2), (.int (2 : Int32))] ∧ Z.Warmed39 U.vm ∧ U.heap = h0) (fun _ _ _ _ _ => True) (fun _ U o U' => ∃ v L, o = .returned v ∧ Q28_2 Z o0 o1 o2 mc kz c0 c1 h0 n0 v U'.heap L ∧ FrameEnd U o U' L oM28_2.cells oM28_2.slots) := by
  refine MetFree.of_bodySF (plainFor_of_name pn_28) hisR ?_
  intro p e s m args below meth c s₁ Bd hml0 hP hK
  obtain ⟨rfl, hZ, hh⟩ := hP
  have hx := Bd.exec
  have hby := Bd.bytes
  have hml : c.maxLocals = 4 := hml0
  have hown : s.vm.findClass "java/util/ArrayList" = some m.cls := findClass_of_methodNamed Bd.named
  have hnm := (name_of_methodNamed Bd.named Bd.method).1
  have X0 : Stand p l e oM28_2 s m #[(.ref o0), (.ref o1), (.ref o2), (.int (2 : Int32))] below meth c s₁ [] 0 0 := Stand.of_body Bd
  have e0 : s₁.heap = h0 := by rw [← hh, Bd.state]; rfl
  have N0 := Fr.nil n0
  obtain ⟨F, hF⟩ : ∃ F : State → Prop, F = own_Fin p e below s oM28_2.cells oM28_2.slots (fun v h L => Q28_2 Z o0 o1 o2 mc kz c0 c1 h0 n0 v h L) := ⟨_, rfl⟩
  have bk : ∀ {A B : State}, (∀ t, Steps p.tables e below B t → Steps p.tables e below A t) → F B → F A := by
    intro A B h k
    rw [hF] at k ⊢
    exact own_back h k
  suffices hgo : F (s₁.setTop (mkF m 0 #[.val (.ref o0), .val (.ref o1), .val (.ref o2), .val (.int (2 : Int32))] [])) by
    have hgo' := bk (fun t k => castTop (T := s₁) (ef_28 m o0 o1 o2 (2 : Int32)) k) hgo
    rw [hF] at hgo'
    exact hgo'
  have w_114 := hw _ (List.mem_of_getElem? (i := 114) rfl)
  have w_128 := hw _ (List.mem_of_getElem? (i := 128) rfl)
  have w_131 := hw _ (List.mem_of_getElem? (i := 131) rfl)
  have w_163 := hw _ (List.mem_of_getElem? (i := 163) rfl)
  have w_164 := hw _ (List.mem_of_getElem? (i := 164) rfl)
  have w_220 := hw _ (List.mem_of_getElem? (i := 220) rfl)
  refine bk (fun t k => XS.iloadN X0.here hx rfl (hb hby d28_0) rfl k) ?_
  refine bk (fun t k => XS.aloadN X0.here hx rfl (hb hby d28_1) rfl rfl k) ?_
  have vv1 := V_2
  obtain ⟨cl1, Ar1, q1, S1, M1, H1, G1⟩ := vv1
  refine bk (fun t k => X0.arraylength hx (by rw [e0]; exact Ar1.1) (State.isArrayOf_alike hZ.alike Ar1.2.1) (g := (mkF m 2 #[oR o0, oR o1, oR o2, .val (.int (2 : Int32))] [(.ref o2), (.int (2 : Int32))])) rfl rfl (hb hby d28_2) t k) ?_
  rw [len_of S1 M1]
  show F (s₁.setTop (mkF m 3 #[oR o0, oR o1, oR o2, .val (.int (2 : Int32))] [(.int (10 : Int32)), (.int (2 : Int32))]))
  refine bk (fun t k => XS.icmpYes X0.here hx rfl (pc0 := 3) (pc' := 11) rfl (hb hby d28_3) rfl (feq (by decide : ¬ ((2 : Int32) = (10 : Int32)))).2 (by decide) (by decide) k) ?_
  refine bk (fun t k => XS.aloadN X0.here hx rfl (hb hby d28_11) rfl rfl k) ?_
  refine bk (fun t k => XS.iloadN X0.here hx rfl (hb hby d28_12) rfl k) ?_
  refine bk (fun t k => XS.aloadN X0.here hx rfl (hb hby d28_13) rfl rfl k) ?_
  show F (s₁.setTop (mkF m 14 #[oR o0, oR o1, oR o2, .val (.int (2 : Int32))] [(.ref o1), (.int (2 : Int32)), (.ref o2)]))
  have vv2 := V_2
  obtain ⟨cl2, Ar2, q2, S2, M2, H2, G2⟩ := vv2
  have hin2 : ¬ ((2 : Int32) < 0 ∨ cl2.slots.size ≤ ((2 : Int32)).toNatClampNeg) := inb_of S2 ⟨by decide, by decide⟩
  obtain ⟨T2, h2, X2, e2, W2, st2⟩ := stR X0 hx hZ e0 Ar2 (j := (2 : Int32)) hin2 rfl (Sto.ofV Ar2 q2 O_2 (Ins.of_exa E_o1 w_220)) (g := (mkF m 14 #[oR o0, oR o1, oR o2, .val (.int (2 : Int32))] [(.ref o1), (.int (2 : Int32)), (.ref o2)])) rfl rfl (hb hby d28_14)
  have V_o2_2 : Arv Z h2 o2 kz (.object "java/lang/Object") (10 : Int32) [(.ref c0), (.ref c1), (.ref o1)] .null := Arv.set Ar2 q2 S2 M2 H2 G2 rfl W2 2 rfl (Nat.le_of_ble_eq_true rfl)
  have f3 := E_al.wr W2
  have f4 := F_modCount.other W2 (Or.inl (Exa.neArv E_al V_2 w_114))
  have f5 := F_size.other W2 (Or.inl (Exa.neArv E_al V_2 w_114))
  have f6 := F_elementData.other W2 (Or.inl (Exa.neArv E_al V_2 w_114))
  have f7 := E_o1.wr W2
  have f8 := Nat.le_trans Z0 (Keep.of_wr W2).1
  have f9 := (Keep.refl h0 [o0, o2]).wr W2 (Or.inl (List.mem_of_getElem? (i := 1) rfl))
  have N2 := Fr.snoc X2 N0 g_o2
  refine bk (fun t k => st2 t k) ?_
  refine bk (fun t k => XS.aloadN X2.here hx rfl (hb hby d28_15) rfl rfl k) ?_
  refine bk (fun t k => XS.iloadN X2.here hx rfl (hb hby d28_16) rfl k) ?_
  refine bk (fun t k => XS.iconst X2.here hx rfl (hb hby d28_17) k) ?_
  show F (T2.setTop (mkF m 18 #[oR o0, oR o1, oR o2, .val (.int (2 : Int32))] [(.int (1 : Int32)), (.int (2 : Int32)), (.ref o0)]))
  refine bk (fun t k => XS.iadd X2.here hx rfl (hb hby d28_18) rfl k) ?_
  obtain ⟨T10, h10, X10, e10, W10, st10⟩ := putF X2 hx hZ hown (host := "") (Or.inl w_163) Via.refl e2 f5 f3 (Or.inl w_164) w_114 (ty := .int) (by decide) rfl rfl (g := (mkF m 19 #[oR o0, oR o1, oR o2, .val (.int (2 : Int32))] [(.int (3 : Int32)), (.ref o0)])) rfl rfl (hb hby d28_19)
  have f11 := f3.wr W10
  have f12 := f4.other W10 (Or.inr (slot_ne (Or.inl w_128) (Or.inl w_164) (by decide) (t := .int) (t' := .int) (by decide) (by decide)))
  have f13 := f5.same W10
  have f14 := f6.other W10 (Or.inr (slot_ne (Or.inl w_131) (Or.inl w_164) (by decide) (t := (.array (.object "java/lang/Object"))) (t' := .int) (by decide) (by decide)))
  have f15 := f7.wr W10
  have f16 := Nat.le_trans f8 (Keep.of_wr W10).1
  have f17 := f9.wr W10 (Or.inl (List.mem_of_getElem? (i := 0) rfl))
  have f18 := V_o2_2.other W10 (Ne.symm (Exa.neArv f3 V_o2_2 w_114))
  have N10 := Fr.snoc X10 N2 g_o0
  refine bk (fun t k => st10 t k) ?_
  show F (T10.setTop (mkF m 22 #[oR o0, oR o1, oR o2, .val (.int (2 : Int32))] []))
  rw [hF]
  refine own_ret0 X10 hx Bd.notSynchronized Bd.returns (hb hby d28_22) (by decide) (by decide) ?_
  rw [e10]
  exact ⟨rfl, N10, f17, ⟨f11, f12, f13, f14⟩, f18⟩
abbrev oM27_2 : Room := { frames := 1, cells := 0, slots := 0, locals := 15 }
def Q27_2 (Z : State) (o0 : Addr) (o1 : Addr) (mc : Int32) (o2 : Addr) (kz : ClassId) (c0 : Addr) (c1 : Addr) (h0 : Heap) (n0 : Nat) (v : Option Value) (h : Heap) (L : List Loc) : Prop := v = some (.int (1 : Int32)) ∧ Fr n0 L ∧ Keep h0 h [o0, o2] ∧ (Exa Z h o0 "java/util/ArrayList" ∧ Fld Z h o0 "java/util/AbstractList" "modCount" "I" (.int (mc + (1 : Int32))) ∧ Fld Z h o0 "java/util/ArrayList" "size" "I" (.int (3 : Int32)) ∧ Fld Z h o0 "java/util/ArrayList" "elementData" "[Ljava/lang/Object;" (.ref o2)) ∧ Arv Z h o2 kz (.object "java/lang/Object") (10 : Int32) [(.ref c0), (.ref c1), (.ref o1)] .null
set_option maxRecDepth 65536 in
set_option maxHeartbeats 40000000 in
theorem rm27_2 (l : Launch) (Z : State) (a0 : Array Value) (hw : ∀ d ∈ tables_1, d.before a0 Z = true) (ws : List Jvm.Cond) (o0 : Addr) (o1 : Addr) (mc : Int32) (o2 : Addr) (kz : ClassId) (c0 : Addr) (c1 : Addr) (h0 : Heap) (n0 : Nat) (Z0 : n0 ≤ h0.size) (E_al : Exa Z h0 o0 "java/util/ArrayList") (F_modCount : Fld Z h0 o0 "java/util/AbstractList" "modCount" "I" (.int mc)) (F_size : Fld Z h0 o0 "java/util/ArrayList" "size" "I" (.int (2 : Int32))) (F_elementData : Fld Z h0 o0 "java/util/ArrayList" "elementData" "[Ljava/lang/Object;" (.ref o2)) (g_o0 : n0 ≤ o0) (g_o2 : n0 ≤ o2) (V_2 : Arv Z h0 o2 kz (.object "java/lang/Object") (10 : Int32) [(.ref c0), (.ref c1), .null] .null) (O_2 : Ovr Z kz "java/lang/Object") (E_o1 : Exa Z h0 o1 "com/example/quire/quire/readers/Element") :
    MetFree l oN26 (head1 (Jvm.Cond.code oN26 jdk_38_method_25_code 2 (some .boolean) :: ws) oM27_2) (fun a U => a = #[(.ref o0), (.ref o1)] ∧ Z.Warmed39 U.vm ∧ U.heap = h0) (fun _ _ _ _ _ => True) (fun _ U o U' => ∃ v L, o = .returned v ∧ Q27_2 Z o0 o1 mc o2 kz c0 c1 h0 n0 v U'.heap L ∧ FrameEnd U o U' L oM27_2.cells oM27_2.slots) := by
  refine MetFree.of_bodySF (plainFor_of_name pn_27) hisR ?_
  intro p e s m args below meth c s₁ Bd hml0 hP hK
  obtain ⟨rfl, hZ, hh⟩ := hP
  have hx := Bd.exec
  have hby := Bd.bytes
  have hml : c.maxLocals = 2 := hml0
  have hown : s.vm.findClass "java/util/ArrayList" = some m.cls := findClass_of_methodNamed Bd.named
  have hnm := (name_of_methodNamed Bd.named Bd.method).1
  have X0 : Stand p l e oM27_2 s m #[(.ref o0), (.ref o1)] below meth c s₁ [] 0 0 := Stand.of_body Bd
  have e0 : s₁.heap = h0 := by rw [← hh, Bd.state]; rfl
  have N0 := Fr.nil n0
  obtain ⟨F, hF⟩ : ∃ F : State → Prop, F = own_Fin p e below s oM27_2.cells oM27_2.slots (fun v h L => Q27_2 Z o0 o1 mc o2 kz c0 c1 h0 n0 v h L) := ⟨_, rfl⟩
  have bk : ∀ {A B : State}, (∀ t, Steps p.tables e below B t → Steps p.tables e below A t) → F B → F A := by
    intro A B h k
    rw [hF] at k ⊢
    exact own_back h k
  suffices hgo : F (s₁.setTop (mkF m 0 #[.val (.ref o0), .val (.ref o1)] [])) by
    have hgo' := bk (fun t k => castTop (T := s₁) (ef_27 m o0 o1) k) hgo
    rw [hF] at hgo'
    exact hgo'
  have w_114 := hw _ (List.mem_of_getElem? (i := 114) rfl)
  have w_115 := hw _ (List.mem_of_getElem? (i := 115) rfl)
  have w_128 := hw _ (List.mem_of_getElem? (i := 128) rfl)
  have w_130 := hw _ (List.mem_of_getElem? (i := 130) rfl)
  have w_131 := hw _ (List.mem_of_getElem? (i := 131) rfl)
  have w_163 := hw _ (List.mem_of_getElem? (i := 163) rfl)
  have w_164 := hw _ (List.mem_of_getElem? (i := 164) rfl)
  have w_197 := hw _ (List.mem_of_getElem? (i := 197) rfl)
  have w_198 := hw _ (List.mem_of_getElem? (i := 198) rfl)
  have w_199 := hw _ (List.mem_of_getElem? (i := 199) rfl)
  have w_200 := hw _ (List.mem_of_getElem? (i := 200) rfl)
  have w_201 := hw _ (List.mem_of_getElem? (i := 201) rfl)
  have w_202 := hw _ (List.mem_of_getElem? (i := 202) rfl)
  have w_203 := hw _ (List.mem_of_getElem? (i := 203) rfl)
  refine bk (fun t k => XS.aloadN X0.here hx rfl (hb hby d27_0) rfl rfl k) ?_
  refine bk (fun t k => XS.dup X0.here hx rfl (hb hby d27_1) rfl rfl k) ?_
  obtain ⟨T1, X1, e1, st1⟩ := getF X0 hx hZ hown (host := "") (Or.inl w_197) (Via.of w_198) e0 F_modCount (g := (mkF m 2 #[oR o0, oR o1] [(.ref o0), (.ref o0)])) rfl rfl (hb hby d27_2)
  refine bk (fun t k => st1 t k) ?_
  refine bk (fun t k => XS.iconst X1.here hx rfl (hb hby d27_5) k) ?_
  show F (T1.setTop (mkF m 6 #[oR o0, oR o1] [(.int (1 : Int32)), (.int mc), (.ref o0)]))
  refine bk (fun t k => XS.iadd X1.here hx rfl (hb hby d27_6) rfl k) ?_
  obtain ⟨T2, h2, X2, e2, W2, st2⟩ := putF X1 hx hZ hown (host := "") (Or.inl w_197) (Via.of w_198) e1 F_modCount E_al (Or.inl w_128) w_114 (ty := .int) (by decide) rfl rfl (g := (mkF m 7 #[oR o0, oR o1] [(.int (mc + (1 : Int32))), (.ref o0)])) rfl rfl (hb hby d27_7)
  have f3 := E_al.wr W2
  have f4 := F_modCount.same W2
  have f5 := F_size.other W2 (Or.inr (slot_ne (Or.inl w_164) (Or.inl w_128) (by decide) (t := .int) (t' := .int) (by decide) (by decide)))
  have f6 := F_elementData.other W2 (Or.inr (slot_ne (Or.inl w_131) (Or.inl w_128) (by decide) (t := (.array (.object "java/lang/Object"))) (t' := .int) (by decide) (by decide)))
  have f7 := E_o1.wr W2
  have f8 := Nat.le_trans Z0 (Keep.of_wr W2).1
  have f9 := (Keep.refl h0 [o0, o2]).wr W2 (Or.inl (List.mem_of_getElem? (i := 0) rfl))
  have f10 := V_2.other W2 (Ne.symm (Exa.neArv E_al V_2 w_114))
  have N2 := Fr.snoc X2 N0 g_o0
  refine bk (fun t k => st2 t k) ?_
  refine bk (fun t k => XS.aloadN X2.here hx rfl (hb hby d27_10) rfl rfl k) ?_
  refine bk (fun t k => XS.aloadN X2.here hx rfl (hb hby d27_11) rfl rfl k) ?_
  refine bk (fun t k => XS.aloadN X2.here hx rfl (hb hby d27_12) rfl rfl k) ?_
  show F (T2.setTop (mkF m 13 #[oR o0, oR o1] [(.ref o0), (.ref o1), (.ref o0)]))
  obtain ⟨T11, X11, e11, st11⟩ := getF X2 hx hZ hown (host := "") (Or.inl w_130) Via.refl e2 f6 (g := (mkF m 13 #[oR o0, oR o1] [(.ref o0), (.ref o1), (.ref o0)])) rfl rfl (hb hby d27_13)
  refine bk (fun t k => st11 t k) ?_
  refine bk (fun t k => XS.aloadN X11.here hx rfl (hb hby d27_16) rfl rfl k) ?_
  show F (T11.setTop (mkF m 17 #[oR o0, oR o1] [(.ref o0), (.ref o2), (.ref o1), (.ref o0)]))
  obtain ⟨T12, X12, e12, st12⟩ := getF X11 hx hZ hown (host := "") (Or.inl w_163) Via.refl e11 f5 (g := (mkF m 17 #[oR o0, oR o1] [(.ref o0), (.ref o2), (.ref o1), (.ref o0)])) rfl rfl (hb hby d27_17)
  refine bk (fun t k => st12 t k) ?_
  show F (T12.setTop (mkF m 20 #[oR o0, oR o1] [(.int (2 : Int32)), (.ref o2), (.ref o1), (.ref o0)]))
  obtain ⟨cq13, q13, q13'⟩ := (f3).cell
  obtain ⟨_, _, ⟨T13, L13, k13, n13⟩, -, X13, ⟨Lc13, hQ13, l13, y13, z13⟩, st13⟩ := X12.privateBack hx (y := oN25) hown (mvT hZ w_199) (mvT hZ w_200) (mvT hZ w_202) (Cond.privateMethod_at (mvP hZ w_201 (args := #[]))) (mvT hZ w_203) (by decide) (backOf (W := 0) (rm28_2 l Z a0 hw [] o0 o1 o2 (mc + (1 : Int32)) kz c0 c1 h2 n0 f8 f3 f4 f5 f6 g_o0 g_o2 f10 O_2 f7) hZ w_203 w_115 (by decide) (by decide)) (g := (mkF m 20 #[oR o0, oR o1] [(.int (2 : Int32)), (.ref o2), (.ref o1), (.ref o0)])) rfl (by rw [hml]; rfl) (Steps.refl _) (a := o0) (by rw [e12]; exact q13) q13' (argsL := [(.ref o1), (.ref o2), (.int (2 : Int32))]) (rest := []) (lenOf pd27__Ljava_lang_Object__Ljava_lang_Object_I_V rfl) rfl (by show 2 * 0 + _ ≤ _; exact Nat.le_of_eq rfl) (hb hby d27_20) (fun _ _ => ⟨rfl, e12, (by decide : 0 + 0 ≤ _), (by decide : 0 + 0 ≤ _)⟩)
  dsimp only [Pt.U, Pt.locs, Pt.cells, Pt.slots, oM28_2] at X13 l13 y13 z13 st13 hQ13
  subst l13 y13 z13
  obtain ⟨rfl, N13q, K13, ⟨gE13, gM13, gS13, gD13⟩, gV13⟩ := hQ13
  have N13 := Fr.app N2 N13q
  have f14 := f3.keep K13
  have f15 := f7.keep K13
  have f16 := Nat.le_trans f8 K13.1
  have f17 := f9.trans K13 (allS (Or.inl (List.mem_of_getElem? (i := 0) rfl)) (allS (Or.inl (List.mem_of_getElem? (i := 1) rfl)) all0))
  refine bk (fun t k => st13.trans k) ?_
  refine bk (fun t k => XS.iconst X13.here hx rfl (hb hby d27_23) k) ?_
  show F (T13.setTop (mkF m 24 #[oR o0, oR o1] [(.int (1 : Int32))]))
  rw [hF]
  refine own_retZ X13 hx Bd.notSynchronized Bd.returns (hb hby d27_24) (by decide) (by decide) ?_
  exact ⟨rfl, N13, f17, ⟨gE13, gM13, gS13, gD13⟩, gV13⟩
abbrev oN27 : MethodName := ⟨"jdk/internal/util/Preconditions", "checkIndex", "(IILjava/util/function/BiFunction;)I"⟩
abbrev oM34 : Room := { frames := 0, cells := 0, slots := 0, locals := 0 }
theorem d34_0 : decode jdk_41_method_11_code 0 = .ok (.iload_n 0, 1) := by decide +kernel
theorem d34_1 : decode jdk_41_method_11_code 1 = .ok (.ifCond .lt 8, 3) := by decide +kernel
theorem d34_4 : decode jdk_41_method_11_code 4 = .ok (.iload_n 0, 1) := by decide +kernel
theorem d34_5 : decode jdk_41_method_11_code 5 = .ok (.iload_n 1, 1) := by decide +kernel
theorem d34_6 : decode jdk_41_method_11_code 6 = .ok (.if_icmp .lt 10, 3) := by decide +kernel
theorem d34_16 : decode jdk_41_method_11_code 16 = .ok (.iload_n 0, 1) := by decide +kernel
theorem d34_17 : decode jdk_41_method_11_code 17 = .ok (.ireturn, 1) := by decide +kernel
theorem pn_34 : plainName "jdk/internal/util/Preconditions" = true := by first | (simp [plainName, overriddenIn]; done) | decide +kernel
theorem ef_34n2 (m : MethodId) (x0 : Int32) (x1 : Int32) : entryFrame m #[(.int x0), (.int x1), .null] 3 = mkF m 0 #[.val (.int x0), .val (.int x1), .val .null] [] := by first | (simp [entryFrame, mkF, argsToLocals, Value.category]; done) | rfl
def Q34 (Z : State) (p0 : Int32) (p1 : Int32) (h0 : Heap) (n0 : Nat) (v : Option Value) (h : Heap) (L : List Loc) : Prop := v = some (.int p0) ∧ Fr n0 L ∧ h = h0
set_option maxRecDepth 65536 in
set_option maxHeartbeats 40000000 in
theorem rm34 (l : Launch) (Z : State) (a0 : Array Value) (hw : ∀ d ∈ tables_1, d.before a0 Z = true) (ws : List Jvm.Cond) (p0 : Int32) (p1 : Int32) (h0 : Heap) (n0 : Nat) (Z0 : n0 ≤ h0.size) (h1 : ¬ p0 < (0 : Int32)) (h2 : p0 < p1) :
    MetFree l oN27 (head1 (Jvm.Cond.code oN27 jdk_41_method_11_code 3 (some .int) :: ws) oM34) (fun a U => a = #[(.int p0), (.int p1), .null] ∧ Z.Warmed39 U.vm ∧ U.heap = h0) (fun _ _ _ _ _ => True) (fun _ U o U' => ∃ v L, o = .returned v ∧ Q34 Z p0 p1 h0 n0 v U'.heap L ∧ FrameEnd U o U' L oM34.cells oM34.slots) := by
  refine MetFree.of_bodySF (plainFor_of_name pn_34) hisR ?_
  intro p e s m args below meth c s₁ Bd hml0 hP hK
  obtain ⟨rfl, hZ, hh⟩ := hP
  have hx := Bd.exec
  have hby := Bd.bytes
  have hml : c.maxLocals = 3 := hml0
  have hown : s.vm.findClass "jdk/internal/util/Preconditions" = some m.cls := findClass_of_methodNamed Bd.named
  have hnm := (name_of_methodNamed Bd.named Bd.method).1
  have X0 : Stand p l e oM34 s m #[(.int p0), (.int p1), .null] below meth c s₁ [] 0 0 := Stand.of_body Bd
  have e0 : s₁.heap = h0 := by rw [← hh, Bd.state]; rfl
  have N0 := Fr.nil n0
  obtain ⟨F, hF⟩ : ∃ F : State → Prop, F = own_Fin p e below s oM34.cells oM34.slots (fun v h L => Q34 Z p0 p1 h0 n0 v h L) := ⟨_, rfl⟩
  have bk : ∀ {A B : State}, (∀ t, Steps p.tables e below B t → Steps p.tables e below A t) → F B → F A := by
    intro A B h k
    rw [hF] at k ⊢
    exact own_back h k
  suffices hgo : F (s₁.setTop (mkF m 0 #[.val (.int p0), .val (.int p1), .val .null] [])) by
    have hgo' := bk (fun t k => castTop (T := s₁) (ef_34n2 m p0 p1) k) hgo
    rw [hF] at hgo'
    exact hgo'
  refine bk (fun t k => XS.iloadN X0.here hx rfl (hb hby d34_0) rfl k) ?_
  refine bk (fun t k => XS.ifNo X0.here hx rfl (hb hby d34_1) rfl ((if0 _ _).trans (flt h1).1) k) ?_
  refine bk (fun t k => XS.iloadN X0.here hx rfl (hb hby d34_4) rfl k) ?_
  refine bk (fun t k => XS.iloadN X0.here hx rfl (hb hby d34_5) rfl k) ?_
  show F (s₁.setTop (mkF m 6 #[.val (.int p0), .val (.int p1), .val .null] [(.int p1), (.int p0)]))
  refine bk (fun t k => XS.icmpYes X0.here hx rfl (pc0 := 6) (pc' := 16) rfl (hb hby d34_6) rfl (tlt h2).1 (by decide) (by decide) k) ?_
  refine bk (fun t k => XS.iloadN X0.here hx rfl (hb hby d34_16) rfl k) ?_
  rw [hF]
  refine own_retI X0 hx Bd.notSynchronized Bd.returns (hb hby d34_17) (by decide) (by decide) ?_
  rw [e0]
  exact ⟨rfl, N0, rfl⟩
abbrev oN28 : MethodName := ⟨"java/util/Objects", "checkIndex", "(II)I"⟩
abbrev oM33 : Room := { frames := 1, cells := 0, slots := 0, locals := 14 }
theorem d33_0 : decode jdk_31_method_17_code 0 = .ok (.iload_n 0, 1) := by decide +kernel
theorem d33_1 : decode jdk_31_method_17_code 1 = .ok (.iload_n 1, 1) := by decide +kernel
theorem d33_2 : decode jdk_31_method_17_code 2 = .ok (.aconst_null, 1) := by decide +kernel
theorem d33_3 : decode jdk_31_method_17_code 3 = .ok (.invokestatic 105, 3) := by decide +kernel
theorem d33_6 : decode jdk_31_method_17_code 6 = .ok (.ireturn, 1) := by decide +kernel
theorem pd33__IILjava_util_function_BiFunction__I : parseMethodDescriptor "(IILjava/util/function/BiFunction;)I" = some ⟨[.int, .int, (.object "java/util/function/BiFunction")], some .int⟩ := by decide +kernel
theorem pn_33 : plainName "java/util/Objects" = true := by first | (simp [plainName, overriddenIn]; done) | decide +kernel
theorem ef_33 (m : MethodId) (x0 : Int32) (x1 : Int32) : entryFrame m #[(.int x0), (.int x1)] 2 = mkF m 0 #[.val (.int x0), .val (.int x1)] [] := by first | (simp [entryFrame, mkF, argsToLocals, Value.category]; done) | rfl
def Q33 (Z : State) (p0 : Int32) (p1 : Int32) (h0 : Heap) (n0 : Nat) (v : Option Value) (h : Heap) (L : List Loc) : Prop := v = some (.int p0) ∧ Fr n0 L ∧ h = h0
set_option maxRecDepth 65536 in
set_option maxHeartbeats 40000000 in
theorem rm33 (l : Launch) (Z : State) (a0 : Array Value) (hw : ∀ d ∈ tables_1, d.before a0 Z = true) (ws : List Jvm.Cond) (p0 : Int32) (p1 : Int32) (h0 : Heap) (n0 : Nat) (Z0 : n0 ≤ h0.size) (h1 : ¬ p0 < (0 : Int32)) (h2 : p0 < p1) :
    MetFree l oN28 (head1 (Jvm.Cond.code oN28 jdk_31_method_17_code 2 (some .int) :: ws) oM33) (fun a U => a = #[(.int p0), (.int p1)] ∧ Z.Warmed39 U.vm ∧ U.heap = h0) (fun _ _ _ _ _ => True) (fun _ U o U' => ∃ v L, o = .returned v ∧ Q33 Z p0 p1 h0 n0 v U'.heap L ∧ FrameEnd U o U' L oM33.cells oM33.slots) := by
  refine MetFree.of_bodySF (plainFor_of_name pn_33) hisR ?_
  intro p e s m args below meth c s₁ Bd hml0 hP hK
  obtain ⟨rfl, hZ, hh⟩ := hP
  have hx := Bd.exec
  have hby := Bd.bytes
  have hml : c.maxLocals = 2 := hml0
  have hown : s.vm.findClass "java/util/Objects" = some m.cls := findClass_of_methodNamed Bd.named
  have hnm := (name_of_methodNamed Bd.named Bd.method).1
  have X0 : Stand p l e oM33 s m #[(.int p0), (.int p1)] below meth c s₁ [] 0 0 := Stand.of_body Bd
  have e0 : s₁.heap = h0 := by rw [← hh, Bd.state]; rfl
  have N0 := Fr.nil n0
  obtain ⟨F, hF⟩ : ∃ F : State → Prop, F = own_Fin p e below s oM33.cells oM33.slots (fun v h L => Q33 Z p0 p1 h0 n0 v h L) := ⟨_, rfl⟩
  have bk : ∀ {A B : State}, (∀ t, Steps p.tables e below B t → Steps p.tables e below A t) → F B → F A := by
    intro A B h k
    rw [hF] at k ⊢
    exact own_back h k
  suffices hgo : F (s₁.setTop (mkF m 0 #[.val (.int p0), .val (.int p1)] [])) by
    have hgo' := bk (fun t k => castTop (T := s₁) (ef_33 m p0 p1) k) hgo
    rw [hF] at hgo'
    exact hgo'
  refine bk (fun t k => XS.iloadN X0.here hx rfl (hb hby d33_0) rfl k) ?_
  refine bk (fun t k => XS.iloadN X0.here hx rfl (hb hby d33_1) rfl k) ?_
  refine bk (fun t k => XS.aconstNull X0.here hx rfl (hb hby d33_2) k) ?_
  show F (s₁.setTop (mkF m 3 #[.val (.int p0), .val (.int p1)] [.null, (.int p1), (.int p0)]))
  obtain ⟨_, _, ⟨T1, L1, k1, n1⟩, -, X1, ⟨Lc1, hQ1, l1, y1, z1⟩, st1⟩ := Jvm.LawKit.callS X0 hx (y := oN27) hown (mvT hZ (hw _ (List.mem_of_getElem? (i := 230) rfl))) (mvT hZ (hw _ (List.mem_of_getElem? (i := 231) rfl))) (mvT hZ (hw _ (List.mem_of_getElem? (i := 232) rfl))) (mvT hZ (hw _ (List.mem_of_getElem? (i := 233) rfl))) (by decide) (backOf (W := 0) (rm34 l Z a0 hw [] p0 p1 h0 n0 Z0 h1 h2) hZ (hw _ (List.mem_of_getElem? (i := 233) rfl)) (hw _ (List.mem_of_getElem? (i := 232) rfl)) (by decide) (by decide)) (g := (mkF m 3 #[.val (.int p0), .val (.int p1)] [.null, (.int p1), (.int p0)])) rfl (by rw [hml]; rfl) (argsL := [(.int p0), (.int p1), .null]) (rest := []) (lenOf pd33__IILjava_util_function_BiFunction__I rfl) rfl (by show 2 * 0 + _ ≤ _; exact Nat.le_of_eq rfl) (hb hby d33_3) (fun _ _ => ⟨rfl, e0, (by decide : 0 + 0 ≤ _), (by decide : 0 + 0 ≤ _)⟩)
  dsimp only [Pt.U, Pt.locs, Pt.cells, Pt.slots, oM34] at X1 l1 y1 z1 st1 hQ1
  subst l1 y1 z1
  obtain ⟨rfl, N1q, e1⟩ := hQ1
  have N1 := Fr.app N0 N1q
  refine bk (fun t k => st1 t k) ?_
  show F (T1.setTop (mkF m 6 #[.val (.int p0), .val (.int p1)] [(.int p0)]))
  rw [hF]
  refine own_retI X1 hx Bd.notSynchronized Bd.returns (hb hby d33_6) (by decide) (by decide) ?_
  rw [e1]
  exact ⟨rfl, N1, rfl⟩
abbrev oN29 : MethodName := ⟨"java/util/ArrayList", "elementData", "(I)Ljava/lang/Object;"⟩
abbrev oM35_0 : Room := { frames := 0, cells := 0, slots := 0, locals := 0 }
theorem d35_0 : decode jdk_38_method_18_code 0 = .ok (.aload_n 0, 1) := by decide +kernel
theorem d35_1 : decode jdk_38_method_18_code 1 = .ok (.getfield 9, 3) := by decide +kernel
theorem d35_4 : decode jdk_38_method_18_code 4 = .ok (.iload_n 1, 1) := by decide +kernel
theorem d35_5 : decode jdk_38_method_18_code 5 = .ok (.aaload, 1) := by decide +kernel
theorem d35_6 : decode jdk_38_method_18_code 6 = .ok (.areturn, 1) := by decide +kernel
theorem pn_35 : plainName "java/util/ArrayList" = true := by first | (simp [plainName, overriddenIn]; done) | decide +kernel
theorem ef_35 (m : MethodId) (x0 : Addr) (x1 : Int32) : entryFrame m #[(.ref x0), (.int x1)] 2 = mkF m 0 #[.val (.ref x0), .val (.int x1)] [] := by first | (simp [entryFrame, mkF, argsToLocals, Value.category]; done) | rfl
def Q35_0 (Z : State) (o0 : Addr) (r : Addr) (kr : ClassId) (x : Addr) (u1 : Value) (u2 : Value) (h0 : Heap) (n0 : Nat) (v : Option Value) (h : Heap) (L : List Loc) : Prop := v = some (.ref x) ∧ Fr n0 L ∧ h = h0
set_option maxRecDepth 65536 in
set_option maxHeartbeats 40000000 in
theorem rm35_0 (l : Launch) (Z : State) (a0 : Array Value) (hw : ∀ d ∈ tables_1, d.before a0 Z = true) (ws : List Jvm.Cond) (o0 : Addr) (r : Addr) (kr : ClassId) (x : Addr) (u1 : Value) (u2 : Value) (h0 : Heap) (n0 : Nat) (Z0 : n0 ≤ h0.size) (F_ed : Fld Z h0 o0 "java/util/ArrayList" "elementData" "[Ljava/lang/Object;" (.ref r)) (V_r : Arv Z h0 r kr (.object "java/lang/Object") (10 : Int32) [(.ref x), u1, u2] .null) :
    MetFree l oN29 (head1 (Jvm.Cond.code oN29 jdk_38_method_18_code 2 (some (.object "java/lang/Object")) :: ws) oM35_0) (fun a U => a = #[(.ref o0), (.int (0 : Int32))] ∧ Z.Warmed39 U.vm ∧ U.heap = h0) (fun _ _ _ _ _ => True) (fun _ U o U' => ∃ v L, o = .returned v ∧ Q35_0 Z o0 r kr x u1 u2 h0 n0 v U'.heap L ∧ FrameEnd U o U' L oM35_0.cells oM35_0.slots) := by
  refine MetFree.of_bodySF (plainFor_of_name pn_35) hisR ?_
  intro p e s m args below meth c s₁ Bd hml0 hP hK
  obtain ⟨rfl, hZ, hh⟩ := hP
  have hx := Bd.exec
  have hby := Bd.bytes
  have hml : c.maxLocals = 2 := hml0
  have hown : s.vm.findClass "java/util/ArrayList" = some m.cls := findClass_of_methodNamed Bd.named
  have hnm := (name_of_methodNamed Bd.named Bd.method).1
  have X0 : Stand p l e oM35_0 s m #[(.ref o0), (.int (0 : Int32))] below meth c s₁ [] 0 0 := Stand.of_body Bd
  have e0 : s₁.heap = h0 := by rw [← hh, Bd.state]; rfl
  have N0 := Fr.nil n0
  obtain ⟨F, hF⟩ : ∃ F : State → Prop, F = own_Fin p e below s oM35_0.cells oM35_0.slots (fun v h L => Q35_0 Z o0 r kr x u1 u2 h0 n0 v h L) := ⟨_, rfl⟩
  have bk : ∀ {A B : State}, (∀ t, Steps p.tables e below B t → Steps p.tables e below A t) → F B → F A := by
    intro A B h k
    rw [hF] at k ⊢
    exact own_back h k
  suffices hgo : F (s₁.setTop (mkF m 0 #[.val (.ref o0), .val (.int (0 : Int32))] [])) by
    have hgo' := bk (fun t k => castTop (T := s₁) (ef_35 m o0 (0 : Int32)) k) hgo
    rw [hF] at hgo'
    exact hgo'
  refine bk (fun t k => XS.aloadN X0.here hx rfl (hb hby d35_0) rfl rfl k) ?_
  obtain ⟨T1, X1, e1, st1⟩ := getF X0 hx hZ hown (host := "") (Or.inl (hw _ (List.mem_of_getElem? (i := 130) rfl))) Via.refl e0 F_ed (g := (mkF m 1 #[oR o0, .val (.int (0 : Int32))] [(.ref o0)])) rfl rfl (hb hby d35_1)
  refine bk (fun t k => st1 t k) ?_
  refine bk (fun t k => XS.iloadN X1.here hx rfl (hb hby d35_4) rfl k) ?_
  show F (T1.setTop (mkF m 5 #[oR o0, .val (.int (0 : Int32))] [(.int (0 : Int32)), (.ref r)]))
  have vv2 := V_r
  obtain ⟨cl2, Ar2, q2, S2, M2, H2, G2⟩ := vv2
  have hin2 : ¬ ((0 : Int32) < 0 ∨ cl2.slots.size ≤ ((0 : Int32)).toNatClampNeg) := inb_of S2 ⟨by decide, by decide⟩
  refine bk (fun t k => X1.aaload hx (j := (0 : Int32)) (v := (.ref x)) (by rw [e1]; exact Ar2.1) (State.isArrayOf_alike hZ.alike Ar2.2.1) rfl Ar2.2.2 hin2 (Has.at H2 hin2 rfl) (g := (mkF m 5 #[oR o0, .val (.int (0 : Int32))] [(.int (0 : Int32)), (.ref r)])) rfl rfl (hb hby d35_5) t k) ?_
  show F (T1.setTop (mkF m 6 #[oR o0, .val (.int (0 : Int32))] [(.ref x)]))
  rw [hF]
  refine own_retA X1 hx Bd.notSynchronized Bd.returns rfl rfl (hb hby d35_6) (by decide) (by decide) ?_
  rw [e1]
  exact ⟨rfl, N0, rfl⟩
abbrev oN30 : MethodName := ⟨"java/util/ArrayList", "get", "(I)Ljava/lang/Object;"⟩
abbrev oM32_0 : Room := { frames := 2, cells := 0, slots := 0, locals := 27 }
theorem d32_0 : decode jdk_38_method_20_code 0 = .ok (.iload_n 1, 1) := by decide +kernel
theorem d32_1 : decode jdk_38_method_20_code 1 = .ok (.aload_n 0, 1) := by decide +kernel
theorem d32_2 : decode jdk_38_method_20_code 2 = .ok (.getfield 48, 3) := by decide +kernel
theorem d32_5 : decode jdk_38_method_20_code 5 = .ok (.invokestatic 118, 3) := by decide +kernel
theorem d32_8 : decode jdk_38_method_20_code 8 = .ok (.pop, 1) := by decide +kernel
theorem d32_9 : decode jdk_38_method_20_code 9 = .ok (.aload_n 0, 1) := by decide +kernel
theorem d32_10 : decode jdk_38_method_20_code 10 = .ok (.iload_n 1, 1) := by decide +kernel
theorem d32_11 : decode jdk_38_method_20_code 11 = .ok (.invokevirtual 123, 3) := by decide +kernel
theorem d32_14 : decode jdk_38_method_20_code 14 = .ok (.areturn, 1) := by decide +kernel
theorem pd32__II_I : parseMethodDescriptor "(II)I" = some ⟨[.int, .int], some .int⟩ := by decide +kernel
theorem pd32__I_Ljava_lang_Object_ : parseMethodDescriptor "(I)Ljava/lang/Object;" = some ⟨[.int], some (.object "java/lang/Object")⟩ := by decide +kernel
theorem pn_32 : plainName "java/util/ArrayList" = true := by first | (simp [plainName, overriddenIn]; done) | decide +kernel
theorem ef_32 (m : MethodId) (x0 : Addr) (x1 : Int32) : entryFrame m #[(.ref x0), (.int x1)] 2 = mkF m 0 #[.val (.ref x0), .val (.int x1)] [] := by first | (simp [entryFrame, mkF, argsToLocals, Value.category]; done) | rfl
def Q32_0 (Z : State) (o0 : Addr) (sz : Int32) (r : Addr) (kr : ClassId) (x : Addr) (u1 : Value) (u2 : Value) (h0 : Heap) (n0 : Nat) (v : Option Value) (h : Heap) (L : List Loc) : Prop := v = some (.ref x) ∧ Fr n0 L ∧ h = h0
set_option maxRecDepth 65536 in
set_option maxHeartbeats 40000000 in
theorem rm32_0 (l : Launch) (Z : State) (a0 : Array Value) (hw : ∀ d ∈ tables_1, d.before a0 Z = true) (ws : List Jvm.Cond) (o0 : Addr) (sz : Int32) (r : Addr) (kr : ClassId) (x : Addr) (u1 : Value) (u2 : Value) (h0 : Heap) (n0 : Nat) (Z0 : n0 ≤ h0.size) (E_al : Exa Z h0 o0 "java/util/ArrayList") (F_size : Fld Z h0 o0 "java/util/ArrayList" "size" "I" (.int sz)) (hlt : (0 : Int32) < sz) (F_ed : Fld Z h0 o0 "java/util/ArrayList" "elementData" "[Ljava/lang/Object;" (.ref r)) (V_r : Arv Z h0 r kr (.object "java/lang/Object") (10 : Int32) [(.ref x), u1, u2] .null) :
    MetFree l oN30 (head1 (Jvm.Cond.code oN30 jdk_38_method_20_code 2 (some (.object "java/lang/Object")) :: ws) oM32_0) (fun a U => a = #[(.ref o0), (.int (0 : Int32))] ∧ Z.Warmed39 U.vm ∧ U.heap = h0) (fun _ _ _ _ _ => True) (fun _ U o U' => ∃ v L, o = .returned v ∧ Q32_0 Z o0 sz r kr x u1 u2 h0 n0 v U'.heap L ∧ FrameEnd U o U' L oM32_0.cells oM32_0.slots) := by
  refine MetFree.of_bodySF (plainFor_of_name pn_32) hisR ?_
  intro p e s m args below meth c s₁ Bd hml0 hP hK
  obtain ⟨rfl, hZ, hh⟩ := hP
  have hx := Bd.exec
  have hby := Bd.bytes
  have hml : c.maxLocals = 2 := hml0
  have hown : s.vm.findClass "java/util/ArrayList" = some m.cls := findClass_of_methodNamed Bd.named
  have hnm := (name_of_methodNamed Bd.named Bd.method).1
  have X0 : Stand p l e oM32_0 s m #[(.ref o0), (.int (0 : Int32))] below meth c s₁ [] 0 0 := Stand.of_body Bd
  have e0 : s₁.heap = h0 := by rw [← hh, Bd.state]; rfl
  have N0 := Fr.nil n0
  obtain ⟨F, hF⟩ : ∃ F : State → Prop, F = own_Fin p e below s oM32_0.cells oM32_0.slots (fun v h L => Q32_0 Z o0 sz r kr x u1 u2 h0 n0 v h L) := ⟨_, rfl⟩
  have bk : ∀ {A B : State}, (∀ t, Steps p.tables e below B t → Steps p.tables e below A t) → F B → F A := by
    intro A B h k
    rw [hF] at k ⊢
    exact own_back h k
  suffices hgo : F (s₁.setTop (mkF m 0 #[.val (.ref o0), .val (.int (0 : Int32))] [])) by
    have hgo' := bk (fun t k => castTop (T := s₁) (ef_32 m o0 (0 : Int32)) k) hgo
    rw [hF] at hgo'
    exact hgo'
  have w_105 := hw _ (List.mem_of_getElem? (i := 105) rfl)
  have w_115 := hw _ (List.mem_of_getElem? (i := 115) rfl)
  have w_163 := hw _ (List.mem_of_getElem? (i := 163) rfl)
  have w_227 := hw _ (List.mem_of_getElem? (i := 227) rfl)
  have w_228 := hw _ (List.mem_of_getElem? (i := 228) rfl)
  have w_229 := hw _ (List.mem_of_getElem? (i := 229) rfl)
  have w_234 := hw _ (List.mem_of_getElem? (i := 234) rfl)
  have w_235 := hw _ (List.mem_of_getElem? (i := 235) rfl)
  have w_236 := hw _ (List.mem_of_getElem? (i := 236) rfl)
  have w_237 := hw _ (List.mem_of_getElem? (i := 237) rfl)
  have w_238 := hw _ (List.mem_of_getElem? (i := 238) rfl)
  refine bk (fun t k => XS.iloadN X0.here hx rfl (hb hby d32_0) rfl k) ?_
  refine bk (fun t k => XS.aloadN X0.here hx rfl (hb hby d32_1) rfl rfl k) ?_
  obtain ⟨T1, X1, e1, st1⟩ := getF X0 hx hZ hown (host := "") (Or.inl w_163) Via.refl e0 F_size (g := (mkF m 2 #[oR o0, .val (.int (0 : Int32))] [(.ref o0), (.int (0 : Int32))])) rfl rfl (hb hby d32_2)
  refine bk (fun t k => st1 t k) ?_
  show F (T1.setTop (mkF m 5 #[oR o0, .val (.int (0 : Int32))] [(.int sz), (.int (0 : Int32))]))
  obtain ⟨_, _, ⟨T2, L2, k2, n2⟩, -, X2, ⟨Lc2, hQ2, l2, y2, z2⟩, st2⟩ := Jvm.LawKit.callS X1 hx (y := oN28) hown (mvT hZ w_227) (mvT hZ w_228) (mvT hZ w_105) (mvT hZ w_229) (by decide) (backOf (W := 0) (rm33 l Z a0 hw [] (0 : Int32) sz h0 n0 Z0 (by decide) hlt) hZ w_229 w_105 (by decide) (by decide)) (g := (mkF m 5 #[oR o0, .val (.int (0 : Int32))] [(.int sz), (.int (0 : Int32))])) rfl (by rw [hml]; rfl) (argsL := [(.int (0 : Int32)), (.int sz)]) (rest := []) (lenOf pd32__II_I rfl) rfl (by show 2 * 0 + _ ≤ _; exact Nat.le_of_eq rfl) (hb hby d32_5) (fun _ _ => ⟨rfl, e1, (by decide : 0 + 0 ≤ _), (by decide : 0 + 0 ≤ _)⟩)
  dsimp only [Pt.U, Pt.locs, Pt.cells, Pt.slots, oM33] at X2 l2 y2 z2 st2 hQ2
  subst l2 y2 z2
  obtain ⟨rfl, N2q, e2⟩ := hQ2
  have N2 := Fr.app N0 N2q
  refine bk (fun t k => st2 t k) ?_
  refine bk (fun t k => XS.pop X2.here hx rfl (hb hby d32_8) rfl rfl k) ?_
  refine bk (fun t k => XS.aloadN X2.here hx rfl (hb hby d32_9) rfl rfl k) ?_
  refine bk (fun t k => XS.iloadN X2.here hx rfl (hb hby d32_10) rfl k) ?_
  show F (T2.setTop (mkF m 11 #[oR o0, .val (.int (0 : Int32))] [(.int (0 : Int32)), (.ref o0)]))
  obtain ⟨cq3, kq3, q3a, q3b, q3c⟩ := isOf hZ e2 (E_al)
  obtain ⟨_, _, ⟨T3, L3, k3, n3⟩, -, X3, ⟨Lc3, hQ3, l3, y3, z3⟩, st3⟩ := X2.virtualBack hx (y := oN29) (z := oN29) hown (mvT hZ w_234) (mvT hZ w_235) (notFace_of_selects (args := #[]) (mvT hZ w_237)) (mvT hZ w_237) (mvT hZ w_236) (by decide) (backOf (W := 0) (rm35_0 l Z a0 hw [] o0 r kr x u1 u2 h0 n0 Z0 F_ed V_r) hZ w_238 w_115 (by decide) (by decide)) q3a q3c (g := (mkF m 11 #[oR o0, .val (.int (0 : Int32))] [(.int (0 : Int32)), (.ref o0)])) rfl (by rw [hml]; rfl) (Steps.refl _) (argsL := [(.int (0 : Int32))]) (rest := []) (lenOf pd32__I_Ljava_lang_Object_ rfl) rfl (by show 2 * 0 + _ ≤ _; exact Nat.le_of_eq rfl) (hb hby d32_11) (fun _ _ => ⟨rfl, e2, (by decide : 0 + 0 ≤ _), (by decide : 0 + 0 ≤ _)⟩)
  dsimp only [Pt.U, Pt.locs, Pt.cells, Pt.slots, oM35_0] at X3 l3 y3 z3 st3 hQ3
  subst l3 y3 z3
  obtain ⟨rfl, N3q, e3⟩ := hQ3
  have N3 := Fr.app N2 N3q
  refine bk (fun t k => st3.trans k) ?_
  show F (T3.setTop (mkF m 14 #[oR o0, .val (.int (0 : Int32))] [(.ref x)]))
  rw [hF]
  refine own_retA X3 hx Bd.notSynchronized Bd.returns rfl rfl (hb hby d32_14) (by decide) (by decide) ?_
  rw [e3]
  exact ⟨rfl, N3, rfl⟩
abbrev oM35_1 : Room := { frames := 0, cells := 0, slots := 0, locals := 0 }
def Q35_1 (Z : State) (o0 : Addr) (r : Addr) (kr : ClassId) (x : Addr) (u0 : Value) (u2 : Value) (h0 : Heap) (n0 : Nat) (v : Option Value) (h : Heap) (L : List Loc) : Prop := v = some (.ref x) ∧ Fr n0 L ∧ h = h0
set_option maxRecDepth 65536 in
set_option maxHeartbeats 40000000 in
theorem rm35_1 (l : Launch) (Z : State) (a0 : Array Value) (hw : ∀ d ∈ tables_1, d.before a0 Z = true) (ws : List Jvm.Cond) (o0 : Addr) (r : Addr) (kr : ClassId) (x : Addr) (u0 : Value) (u2 : Value) (h0 : Heap) (n0 : Nat) (Z0 : n0 ≤ h0.size) (F_ed : Fld Z h0 o0 "java/util/ArrayList" "elementData" "[Ljava/lang/Object;" (.ref r)) (V_r : Arv Z h0 r kr (.object "java/lang/Object") (10 : Int32) [u0, (.ref x), u2] .null) :
    MetFree l oN29 (head1 (Jvm.Cond.code oN29 jdk_38_method_18_code 2 (some (.object "java/lang/Object")) :: ws) oM35_1) (fun a U => a = #[(.ref o0), (.int (1 : Int32))] ∧ Z.Warmed39 U.vm ∧ U.heap = h0) (fun _ _ _ _ _ => True) (fun _ U o U' => ∃ v L, o = .returned v ∧ Q35_1 Z o0 r kr x u0 u2 h0 n0 v U'.heap L ∧ FrameEnd U o U' L oM35_1.cells oM35_1.slots) := by
  refine MetFree.of_bodySF (plainFor_of_name pn_35) hisR ?_
  intro p e s m args below meth c s₁ Bd hml0 hP hK
  obtain ⟨rfl, hZ, hh⟩ := hP
  have hx := Bd.exec
  have hby := Bd.bytes
  have hml : c.maxLocals = 2 := hml0
  have hown : s.vm.findClass "java/util/ArrayList" = some m.cls := findClass_of_methodNamed Bd.named
  have hnm := (name_of_methodNamed Bd.named Bd.method).1
  have X0 : Stand p l e oM35_1 s m #[(.ref o0), (.int (1 : Int32))] below meth c s₁ [] 0 0 := Stand.of_body Bd
  have e0 : s₁.heap = h0 := by rw [← hh, Bd.state]; rfl
  have N0 := Fr.nil n0
  obtain ⟨F, hF⟩ : ∃ F : State → Prop, F = own_Fin p e below s oM35_1.cells oM35_1.slots (fun v h L => Q35_1 Z o0 r kr x u0 u2 h0 n0 v h L) := ⟨_, rfl⟩
  have bk : ∀ {A B : State}, (∀ t, Steps p.tables e below B t → Steps p.tables e below A t) → F B → F A := by
    intro A B h k
    rw [hF] at k ⊢
    exact own_back h k
  suffices hgo : F (s₁.setTop (mkF m 0 #[.val (.ref o0), .val (.int (1 : Int32))] [])) by
    have hgo' := bk (fun t k => castTop (T := s₁) (ef_35 m o0 (1 : Int32)) k) hgo
    rw [hF] at hgo'
    exact hgo'
  refine bk (fun t k => XS.aloadN X0.here hx rfl (hb hby d35_0) rfl rfl k) ?_
  obtain ⟨T1, X1, e1, st1⟩ := getF X0 hx hZ hown (host := "") (Or.inl (hw _ (List.mem_of_getElem? (i := 130) rfl))) Via.refl e0 F_ed (g := (mkF m 1 #[oR o0, .val (.int (1 : Int32))] [(.ref o0)])) rfl rfl (hb hby d35_1)
  refine bk (fun t k => st1 t k) ?_
  refine bk (fun t k => XS.iloadN X1.here hx rfl (hb hby d35_4) rfl k) ?_
  show F (T1.setTop (mkF m 5 #[oR o0, .val (.int (1 : Int32))] [(.int (1 : Int32)), (.ref r)]))
  have vv2 := V_r
  obtain ⟨cl2, Ar2, q2, S2, M2, H2, G2⟩ := vv2
  have hin2 : ¬ ((1 : Int32) < 0 ∨ cl2.slots.size ≤ ((1 : Int32)).toNatClampNeg) := inb_of S2 ⟨by decide, by decide⟩
  refine bk (fun t k => X1.aaload hx (j := (1 : Int32)) (v := (.ref x)) (by rw [e1]; exact Ar2.1) (State.isArrayOf_alike hZ.alike Ar2.2.1) rfl Ar2.2.2 hin2 (Has.at H2 hin2 rfl) (g := (mkF m 5 #[oR o0, .val (.int (1 : Int32))] [(.int (1 : Int32)), (.ref r)])) rfl rfl (hb hby d35_5) t k) ?_
  show F (T1.setTop (mkF m 6 #[oR o0, .val (.int (1 : Int32))] [(.ref x)]))
  rw [hF]
  refine own_retA X1 hx Bd.notSynchronized Bd.returns rfl rfl (hb hby d35_6) (by decide) (by decide) ?_
  rw [e1]
  exact ⟨rfl, N0, rfl⟩
abbrev oM32_1 : Room := { frames := 2, cells := 0, slots := 0, locals := 27 }
def Q32_1 (Z : State) (o0 : Addr) (sz : Int32) (r : Addr) (kr : ClassId) (x : Addr) (u0 : Value) (u2 : Value) (h0 : Heap) (n0 : Nat) (v : Option Value) (h : Heap) (L : List Loc) : Prop := v = some (.ref x) ∧ Fr n0 L ∧ h = h0
set_option maxRecDepth 65536 in
set_option maxHeartbeats 40000000 in
theorem rm32_1 (l : Launch) (Z : State) (a0 : Array Value) (hw : ∀ d ∈ tables_1, d.before a0 Z = true) (ws : List Jvm.Cond) (o0 : Addr) (sz : Int32) (r : Addr) (kr : ClassId) (x : Addr) (u0 : Value) (u2 : Value) (h0 : Heap) (n0 : Nat) (Z0 : n0 ≤ h0.size) (E_al : Exa Z h0 o0 "java/util/ArrayList") (F_size : Fld Z h0 o0 "java/util/ArrayList" "size" "I" (.int sz)) (hlt : (1 : Int32) < sz) (F_ed : Fld Z h0 o0 "java/util/ArrayList" "elementData" "[Ljava/lang/Object;" (.ref r)) (V_r : Arv Z h0 r kr (.object "java/lang/Object") (10 : Int32) [u0, (.ref x), u2] .null) :
    MetFree l oN30 (head1 (Jvm.Cond.code oN30 jdk_38_method_20_code 2 (some (.object "java/lang/Object")) :: ws) oM32_1) (fun a U => a = #[(.ref o0), (.int (1 : Int32))] ∧ Z.Warmed39 U.vm ∧ U.heap = h0) (fun _ _ _ _ _ => True) (fun _ U o U' => ∃ v L, o = .returned v ∧ Q32_1 Z o0 sz r kr x u0 u2 h0 n0 v U'.heap L ∧ FrameEnd U o U' L oM32_1.cells oM32_1.slots) := by
  refine MetFree.of_bodySF (plainFor_of_name pn_32) hisR ?_
  intro p e s m args below meth c s₁ Bd hml0 hP hK
  obtain ⟨rfl, hZ, hh⟩ := hP
  have hx := Bd.exec
  have hby := Bd.bytes
  have hml : c.maxLocals = 2 := hml0
  have hown : s.vm.findClass "java/util/ArrayList" = some m.cls := findClass_of_methodNamed Bd.named
  have hnm := (name_of_methodNamed Bd.named Bd.method).1
  have X0 : Stand p l e oM32_1 s m #[(.ref o0), (.int (1 : Int32))] below meth c s₁ [] 0 0 := Stand.of_body Bd
  have e0 : s₁.heap = h0 := by rw [← hh, Bd.state]; rfl
  have N0 := Fr.nil n0
  obtain ⟨F, hF⟩ : ∃ F : State → Prop, F = own_Fin p e below s oM32_1.cells oM32_1.slots (fun v h L => Q32_1 Z o0 sz r kr x u0 u2 h0 n0 v h L) := ⟨_, rfl⟩
  have bk : ∀ {A B : State}, (∀ t, Steps p.tables e below B t → Steps p.tables e below A t) → F B → F A := by
    intro A B h k
    rw [hF] at k ⊢
    exact own_back h k
  suffices hgo : F (s₁.setTop (mkF m 0 #[.val (.ref o0), .val (.int (1 : Int32))] [])) by
    have hgo' := bk (fun t k => castTop (T := s₁) (ef_32 m o0 (1 : Int32)) k) hgo
    rw [hF] at hgo'
    exact hgo'
  have w_105 := hw _ (List.mem_of_getElem? (i := 105) rfl)
  have w_115 := hw _ (List.mem_of_getElem? (i := 115) rfl)
  have w_163 := hw _ (List.mem_of_getElem? (i := 163) rfl)
  have w_227 := hw _ (List.mem_of_getElem? (i := 227) rfl)
  have w_228 := hw _ (List.mem_of_getElem? (i := 228) rfl)
  have w_229 := hw _ (List.mem_of_getElem? (i := 229) rfl)
  have w_234 := hw _ (List.mem_of_getElem? (i := 234) rfl)
  have w_235 := hw _ (List.mem_of_getElem? (i := 235) rfl)
  have w_236 := hw _ (List.mem_of_getElem? (i := 236) rfl)
  have w_237 := hw _ (List.mem_of_getElem? (i := 237) rfl)
  have w_238 := hw _ (List.mem_of_getElem? (i := 238) rfl)
  refine bk (fun t k => XS.iloadN X0.here hx rfl (hb hby d32_0) rfl k) ?_
  refine bk (fun t k => XS.aloadN X0.here hx rfl (hb hby d32_1) rfl rfl k) ?_
  obtain ⟨T1, X1, e1, st1⟩ := getF X0 hx hZ hown (host := "") (Or.inl w_163) Via.refl e0 F_size (g := (mkF m 2 #[oR o0, .val (.int (1 : Int32))] [(.ref o0), (.int (1 : Int32))])) rfl rfl (hb hby d32_2)
  refine bk (fun t k => st1 t k) ?_
  show F (T1.setTop (mkF m 5 #[oR o0, .val (.int (1 : Int32))] [(.int sz), (.int (1 : Int32))]))
  obtain ⟨_, _, ⟨T2, L2, k2, n2⟩, -, X2, ⟨Lc2, hQ2, l2, y2, z2⟩, st2⟩ := Jvm.LawKit.callS X1 hx (y := oN28) hown (mvT hZ w_227) (mvT hZ w_228) (mvT hZ w_105) (mvT hZ w_229) (by decide) (backOf (W := 0) (rm33 l Z a0 hw [] (1 : Int32) sz h0 n0 Z0 (by decide) hlt) hZ w_229 w_105 (by decide) (by decide)) (g := (mkF m 5 #[oR o0, .val (.int (1 : Int32))] [(.int sz), (.int (1 : Int32))])) rfl (by rw [hml]; rfl) (argsL := [(.int (1 : Int32)), (.int sz)]) (rest := []) (lenOf pd32__II_I rfl) rfl (by show 2 * 0 + _ ≤ _; exact Nat.le_of_eq rfl) (hb hby d32_5) (fun _ _ => ⟨rfl, e1, (by decide : 0 + 0 ≤ _), (by decide : 0 + 0 ≤ _)⟩)
  dsimp only [Pt.U, Pt.locs, Pt.cells, Pt.slots, oM33] at X2 l2 y2 z2 st2 hQ2
  subst l2 y2 z2
  obtain ⟨rfl, N2q, e2⟩ := hQ2
  have N2 := Fr.app N0 N2q
  refine bk (fun t k => st2 t k) ?_
  refine bk (fun t k => XS.pop X2.here hx rfl (hb hby d32_8) rfl rfl k) ?_
  refine bk (fun t k => XS.aloadN X2.here hx rfl (hb hby d32_9) rfl rfl k) ?_
  refine bk (fun t k => XS.iloadN X2.here hx rfl (hb hby d32_10) rfl k) ?_
  show F (T2.setTop (mkF m 11 #[oR o0, .val (.int (1 : Int32))] [(.int (1 : Int32)), (.ref o0)]))
  obtain ⟨cq3, kq3, q3a, q3b, q3c⟩ := isOf hZ e2 (E_al)
  obtain ⟨_, _, ⟨T3, L3, k3, n3⟩, -, X3, ⟨Lc3, hQ3, l3, y3, z3⟩, st3⟩ := X2.virtualBack hx (y := oN29) (z := oN29) hown (mvT hZ w_234) (mvT hZ w_235) (notFace_of_selects (args := #[]) (mvT hZ w_237)) (mvT hZ w_237) (mvT hZ w_236) (by decide) (backOf (W := 0) (rm35_1 l Z a0 hw [] o0 r kr x u0 u2 h0 n0 Z0 F_ed V_r) hZ w_238 w_115 (by decide) (by decide)) q3a q3c (g := (mkF m 11 #[oR o0, .val (.int (1 : Int32))] [(.int (1 : Int32)), (.ref o0)])) rfl (by rw [hml]; rfl) (Steps.refl _) (argsL := [(.int (1 : Int32))]) (rest := []) (lenOf pd32__I_Ljava_lang_Object_ rfl) rfl (by show 2 * 0 + _ ≤ _; exact Nat.le_of_eq rfl) (hb hby d32_11) (fun _ _ => ⟨rfl, e2, (by decide : 0 + 0 ≤ _), (by decide : 0 + 0 ≤ _)⟩)
  dsimp only [Pt.U, Pt.locs, Pt.cells, Pt.slots, oM35_1] at X3 l3 y3 z3 st3 hQ3
  subst l3 y3 z3
  obtain ⟨rfl, N3q, e3⟩ := hQ3
  have N3 := Fr.app N2 N3q
  refine bk (fun t k => st3.trans k) ?_
  show F (T3.setTop (mkF m 14 #[oR o0, .val (.int (1 : Int32))] [(.ref x)]))
  rw [hF]
  refine own_retA X3 hx Bd.notSynchronized Bd.returns rfl rfl (hb hby d32_14) (by decide) (by decide) ?_
  rw [e3]
  exact ⟨rfl, N3, rfl⟩
abbrev oM35_2 : Room := { frames := 0, cells := 0, slots := 0, locals := 0 }
def Q35_2 (Z : State) (o0 : Addr) (r : Addr) (kr : ClassId) (x : Addr) (u0 : Value) (u1 : Value) (h0 : Heap) (n0 : Nat) (v : Option Value) (h : Heap) (L : List Loc) : Prop := v = some (.ref x) ∧ Fr n0 L ∧ h = h0
set_option maxRecDepth 65536 in
set_option maxHeartbeats 40000000 in
theorem rm35_2 (l : Launch) (Z : State) (a0 : Array Value) (hw : ∀ d ∈ tables_1, d.before a0 Z = true) (ws : List Jvm.Cond) (o0 : Addr) (r : Addr) (kr : ClassId) (x : Addr) (u0 : Value) (u1 : Value) (h0 : Heap) (n0 : Nat) (Z0 : n0 ≤ h0.size) (F_ed : Fld Z h0 o0 "java/util/ArrayList" "elementData" "[Ljava/lang/Object;" (.ref r)) (V_r : Arv Z h0 r kr (.object "java/lang/Object") (10 : Int32) [u0, u1, (.ref x)] .null) :
    MetFree l oN29 (head1 (Jvm.Cond.code oN29 jdk_38_method_18_code 2 (some (.object "java/lang/Object")) :: ws) oM35_2) (fun a U => a = #[(.ref o0), (.int (2 : Int32))] ∧ Z.Warmed39 U.vm ∧ U.heap = h0) (fun _ _ _ _ _ => True) (fun _ U o U' => ∃ v L, o = .returned v ∧ Q35_2 Z o0 r kr x u0 u1 h0 n0 v U'.heap L ∧ FrameEnd U o U' L oM35_2.cells oM35_2.slots) := by
  refine MetFree.of_bodySF (plainFor_of_name pn_35) hisR ?_
  intro p e s m args below meth c s₁ Bd hml0 hP hK
  obtain ⟨rfl, hZ, hh⟩ := hP
  have hx := Bd.exec
  have hby := Bd.bytes
  have hml : c.maxLocals = 2 := hml0
  have hown : s.vm.findClass "java/util/ArrayList" = some m.cls := findClass_of_methodNamed Bd.named
  have hnm := (name_of_methodNamed Bd.named Bd.method).1
  have X0 : Stand p l e oM35_2 s m #[(.ref o0), (.int (2 : Int32))] below meth c s₁ [] 0 0 := Stand.of_body Bd
  have e0 : s₁.heap = h0 := by rw [← hh, Bd.state]; rfl
  have N0 := Fr.nil n0
  obtain ⟨F, hF⟩ : ∃ F : State → Prop, F = own_Fin p e below s oM35_2.cells oM35_2.slots (fun v h L => Q35_2 Z o0 r kr x u0 u1 h0 n0 v h L) := ⟨_, rfl⟩
  have bk : ∀ {A B : State}, (∀ t, Steps p.tables e below B t → Steps p.tables e below A t) → F B → F A := by
    intro A B h k
    rw [hF] at k ⊢
    exact own_back h k
  suffices hgo : F (s₁.setTop (mkF m 0 #[.val (.ref o0), .val (.int (2 : Int32))] [])) by
    have hgo' := bk (fun t k => castTop (T := s₁) (ef_35 m o0 (2 : Int32)) k) hgo
    rw [hF] at hgo'
    exact hgo'
  refine bk (fun t k => XS.aloadN X0.here hx rfl (hb hby d35_0) rfl rfl k) ?_
  obtain ⟨T1, X1, e1, st1⟩ := getF X0 hx hZ hown (host := "") (Or.inl (hw _ (List.mem_of_getElem? (i := 130) rfl))) Via.refl e0 F_ed (g := (mkF m 1 #[oR o0, .val (.int (2 : Int32))] [(.ref o0)])) rfl rfl (hb hby d35_1)
  refine bk (fun t k => st1 t k) ?_
  refine bk (fun t k => XS.iloadN X1.here hx rfl (hb hby d35_4) rfl k) ?_
  show F (T1.setTop (mkF m 5 #[oR o0, .val (.int (2 : Int32))] [(.int (2 : Int32)), (.ref r)]))
  have vv2 := V_r
  obtain ⟨cl2, Ar2, q2, S2, M2, H2, G2⟩ := vv2
  have hin2 : ¬ ((2 : Int32) < 0 ∨ cl2.slots.size ≤ ((2 : Int32)).toNatClampNeg) := inb_of S2 ⟨by decide, by decide⟩
  refine bk (fun t k => X1.aaload hx (j := (2 : Int32)) (v := (.ref x)) (by rw [e1]; exact Ar2.1) (State.isArrayOf_alike hZ.alike Ar2.2.1) rfl Ar2.2.2 hin2 (Has.at H2 hin2 rfl) (g := (mkF m 5 #[oR o0, .val (.int (2 : Int32))] [(.int (2 : Int32)), (.ref r)])) rfl rfl (hb hby d35_5) t k) ?_
  show F (T1.setTop (mkF m 6 #[oR o0, .val (.int (2 : Int32))] [(.ref x)]))
  rw [hF]
  refine own_retA X1 hx Bd.notSynchronized Bd.returns rfl rfl (hb hby d35_6) (by decide) (by decide) ?_
  rw [e1]
  exact ⟨rfl, N0, rfl⟩
abbrev oM32_2 : Room := { frames := 2, cells := 0, slots := 0, locals := 27 }
def Q32_2 (Z : State) (o0 : Addr) (sz : Int32) (r : Addr) (kr : ClassId) (x : Addr) (u0 : Value) (u1 : Value) (h0 : Heap) (n0 : Nat) (v : Option Value) (h : Heap) (L : List Loc) : Prop := v = some (.ref x) ∧ Fr n0 L ∧ h = h0
set_option maxRecDepth 65536 in
set_option maxHeartbeats 40000000 in
theorem rm32_2 (l : Launch) (Z : State) (a0 : Array Value) (hw : ∀ d ∈ tables_1, d.before a0 Z = true) (ws : List Jvm.Cond) (o0 : Addr) (sz : Int32) (r : Addr) (kr : ClassId) (x : Addr) (u0 : Value) (u1 : Value) (h0 : Heap) (n0 : Nat) (Z0 : n0 ≤ h0.size) (E_al : Exa Z h0 o0 "java/util/ArrayList") (F_size : Fld Z h0 o0 "java/util/ArrayList" "size" "I" (.int sz)) (hlt : (2 : Int32) < sz) (F_ed : Fld Z h0 o0 "java/util/ArrayList" "elementData" "[Ljava/lang/Object;" (.ref r)) (V_r : Arv Z h0 r kr (.object "java/lang/Object") (10 : Int32) [u0, u1, (.ref x)] .null) :
    MetFree l oN30 (head1 (Jvm.Cond.code oN30 jdk_38_method_20_code 2 (some (.object "java/lang/Object")) :: ws) oM32_2) (fun a U => a = #[(.ref o0), (.int (2 : Int32))] ∧ Z.Warmed39 U.vm ∧ U.heap = h0) (fun _ _ _ _ _ => True) (fun _ U o U' => ∃ v L, o = .returned v ∧ Q32_2 Z o0 sz r kr x u0 u1 h0 n0 v U'.heap L ∧ FrameEnd U o U' L oM32_2.cells oM32_2.slots) := by
  refine MetFree.of_bodySF (plainFor_of_name pn_32) hisR ?_
  intro p e s m args below meth c s₁ Bd hml0 hP hK
  obtain ⟨rfl, hZ, hh⟩ := hP
  have hx := Bd.exec
  have hby := Bd.bytes
  have hml : c.maxLocals = 2 := hml0
  have hown : s.vm.findClass "java/util/ArrayList" = some m.cls := findClass_of_methodNamed Bd.named
  have hnm := (name_of_methodNamed Bd.named Bd.method).1
  have X0 : Stand p l e oM32_2 s m #[(.ref o0), (.int (2 : Int32))] below meth c s₁ [] 0 0 := Stand.of_body Bd
  have e0 : s₁.heap = h0 := by rw [← hh, Bd.state]; rfl
  have N0 := Fr.nil n0
  obtain ⟨F, hF⟩ : ∃ F : State → Prop, F = own_Fin p e below s oM32_2.cells oM32_2.slots (fun v h L => Q32_2 Z o0 sz r kr x u0 u1 h0 n0 v h L) := ⟨_, rfl⟩
  have bk : ∀ {A B : State}, (∀ t, Steps p.tables e below B t → Steps p.tables e below A t) → F B → F A := by
    intro A B h k
    rw [hF] at k ⊢
    exact own_back h k
  suffices hgo : F (s₁.setTop (mkF m 0 #[.val (.ref o0), .val (.int (2 : Int32))] [])) by
    have hgo' := bk (fun t k => castTop (T := s₁) (ef_32 m o0 (2 : Int32)) k) hgo
    rw [hF] at hgo'
    exact hgo'
  have w_105 := hw _ (List.mem_of_getElem? (i := 105) rfl)
  have w_115 := hw _ (List.mem_of_getElem? (i := 115) rfl)
  have w_163 := hw _ (List.mem_of_getElem? (i := 163) rfl)
  have w_227 := hw _ (List.mem_of_getElem? (i := 227) rfl)
  have w_228 := hw _ (List.mem_of_getElem? (i := 228) rfl)
  have w_229 := hw _ (List.mem_of_getElem? (i := 229) rfl)
  have w_234 := hw _ (List.mem_of_getElem? (i := 234) rfl)
  have w_235 := hw _ (List.mem_of_getElem? (i := 235) rfl)
  have w_236 := hw _ (List.mem_of_getElem? (i := 236) rfl)
  have w_237 := hw _ (List.mem_of_getElem? (i := 237) rfl)
  have w_238 := hw _ (List.mem_of_getElem? (i := 238) rfl)
  refine bk (fun t k => XS.iloadN X0.here hx rfl (hb hby d32_0) rfl k) ?_
  refine bk (fun t k => XS.aloadN X0.here hx rfl (hb hby d32_1) rfl rfl k) ?_
  obtain ⟨T1, X1, e1, st1⟩ := getF X0 hx hZ hown (host := "") (Or.inl w_163) Via.refl e0 F_size (g := (mkF m 2 #[oR o0, .val (.int (2 : Int32))] [(.ref o0), (.int (2 : Int32))])) rfl rfl (hb hby d32_2)
  refine bk (fun t k => st1 t k) ?_
  show F (T1.setTop (mkF m 5 #[oR o0, .val (.int (2 : Int32))] [(.int sz), (.int (2 : Int32))]))
  obtain ⟨_, _, ⟨T2, L2, k2, n2⟩, -, X2, ⟨Lc2, hQ2, l2, y2, z2⟩, st2⟩ := Jvm.LawKit.callS X1 hx (y := oN28) hown (mvT hZ w_227) (mvT hZ w_228) (mvT hZ w_105) (mvT hZ w_229) (by decide) (backOf (W := 0) (rm33 l Z a0 hw [] (2 : Int32) sz h0 n0 Z0 (by decide) hlt) hZ w_229 w_105 (by decide) (by decide)) (g := (mkF m 5 #[oR o0, .val (.int (2 : Int32))] [(.int sz), (.int (2 : Int32))])) rfl (by rw [hml]; rfl) (argsL := [(.int (2 : Int32)), (.int sz)]) (rest := []) (lenOf pd32__II_I rfl) rfl (by show 2 * 0 + _ ≤ _; exact Nat.le_of_eq rfl) (hb hby d32_5) (fun _ _ => ⟨rfl, e1, (by decide : 0 + 0 ≤ _), (by decide : 0 + 0 ≤ _)⟩)
  dsimp only [Pt.U, Pt.locs, Pt.cells, Pt.slots, oM33] at X2 l2 y2 z2 st2 hQ2
  subst l2 y2 z2
  obtain ⟨rfl, N2q, e2⟩ := hQ2
  have N2 := Fr.app N0 N2q
  refine bk (fun t k => st2 t k) ?_
  refine bk (fun t k => XS.pop X2.here hx rfl (hb hby d32_8) rfl rfl k) ?_
  refine bk (fun t k => XS.aloadN X2.here hx rfl (hb hby d32_9) rfl rfl k) ?_
  refine bk (fun t k => XS.iloadN X2.here hx rfl (hb hby d32_10) rfl k) ?_
  show F (T2.setTop (mkF m 11 #[oR o0, .val (.int (2 : Int32))] [(.int (2 : Int32)), (.ref o0)]))
  obtain ⟨cq3, kq3, q3a, q3b, q3c⟩ := isOf hZ e2 (E_al)
  obtain ⟨_, _, ⟨T3, L3, k3, n3⟩, -, X3, ⟨Lc3, hQ3, l3, y3, z3⟩, st3⟩ := X2.virtualBack hx (y := oN29) (z := oN29) hown (mvT hZ w_234) (mvT hZ w_235) (notFace_of_selects (args := #[]) (mvT hZ w_237)) (mvT hZ w_237) (mvT hZ w_236) (by decide) (backOf (W := 0) (rm35_2 l Z a0 hw [] o0 r kr x u0 u1 h0 n0 Z0 F_ed V_r) hZ w_238 w_115 (by decide) (by decide)) q3a q3c (g := (mkF m 11 #[oR o0, .val (.int (2 : Int32))] [(.int (2 : Int32)), (.ref o0)])) rfl (by rw [hml]; rfl) (Steps.refl _) (argsL := [(.int (2 : Int32))]) (rest := []) (lenOf pd32__I_Ljava_lang_Object_ rfl) rfl (by show 2 * 0 + _ ≤ _; exact Nat.le_of_eq rfl) (hb hby d32_11) (fun _ _ => ⟨rfl, e2, (by decide : 0 + 0 ≤ _), (by decide : 0 + 0 ≤ _)⟩)
  dsimp only [Pt.U, Pt.locs, Pt.cells, Pt.slots, oM35_2] at X3 l3 y3 z3 st3 hQ3
  subst l3 y3 z3
  obtain ⟨rfl, N3q, e3⟩ := hQ3
  have N3 := Fr.app N2 N3q
  refine bk (fun t k => st3.trans k) ?_
  show F (T3.setTop (mkF m 14 #[oR o0, .val (.int (2 : Int32))] [(.ref x)]))
  rw [hF]
  refine own_retA X3 hx Bd.notSynchronized Bd.returns rfl rfl (hb hby d32_14) (by decide) (by decide) ?_
  rw [e3]
  exact ⟨rfl, N3, rfl⟩
abbrev oN31 : MethodName := ⟨"com/example/quire/quire/readers/Element", "collect", "(ZLjava/lang/String;Ljava/lang/String;Ljava/util/List;)V"⟩
abbrev oN32 : MethodName := ⟨"java/util/List", "add", "(Ljava/lang/Object;)Z"⟩
abbrev oM21_3 : Room := { frames := 5, cells := 1, slots := 10, locals := 69 }
theorem d21_0 : decode prog_45_method_25_code 0 = .ok (.aload_n 0, 1) := by decide +kernel
theorem d21_1 : decode prog_45_method_25_code 1 = .ok (.getfield 59, 3) := by decide +kernel
theorem d21_4 : decode prog_45_method_25_code 4 = .ok (.astore 5, 2) := by decide +kernel
theorem d21_6 : decode prog_45_method_25_code 6 = .ok (.aload 5, 2) := by decide +kernel
theorem d21_8 : decode prog_45_method_25_code 8 = .ok (.ifnull 47, 3) := by decide +kernel
theorem d21_11 : decode prog_45_method_25_code 11 = .ok (.aload 5, 2) := by decide +kernel
theorem d21_13 : decode prog_45_method_25_code 13 = .ok (.aload_n 2, 1) := by decide +kernel
theorem d21_14 : decode prog_45_method_25_code 14 = .ok (.aload_n 3, 1) := by decide +kernel
theorem d21_15 : decode prog_45_method_25_code 15 = .ok (.invokevirtual 166, 3) := by decide +kernel
theorem d21_18 : decode prog_45_method_25_code 18 = .ok (.ifCond .eq 13, 3) := by decide +kernel
theorem d21_21 : decode prog_45_method_25_code 21 = .ok (.aload 4, 2) := by decide +kernel
theorem d21_23 : decode prog_45_method_25_code 23 = .ok (.aload 5, 2) := by decide +kernel
theorem d21_25 : decode prog_45_method_25_code 25 = .ok (.invokeinterface 170 2, 5) := by decide +kernel
theorem d21_30 : decode prog_45_method_25_code 30 = .ok (.pop, 1) := by decide +kernel
theorem d21_31 : decode prog_45_method_25_code 31 = .ok (.iload_n 1, 1) := by decide +kernel
theorem d21_32 : decode prog_45_method_25_code 32 = .ok (.ifCond .eq 13, 3) := by decide +kernel
theorem d21_45 : decode prog_45_method_25_code 45 = .ok (.aload 5, 2) := by decide +kernel
theorem d21_47 : decode prog_45_method_25_code 47 = .ok (.getfield 65, 3) := by decide +kernel
theorem d21_50 : decode prog_45_method_25_code 50 = .ok (.astore 5, 2) := by decide +kernel
theorem d21_52 : decode prog_45_method_25_code 52 = .ok (.goto (-46), 3) := by decide +kernel
theorem d21_55 : decode prog_45_method_25_code 55 = .ok (.return_, 1) := by decide +kernel
theorem pd21__Ljava_lang_String_Ljava_lang_String__Z : parseMethodDescriptor "(Ljava/lang/String;Ljava/lang/String;)Z" = some ⟨[(.object "java/lang/String"), (.object "java/lang/String")], some .boolean⟩ := by decide +kernel
theorem pd21__Ljava_lang_Object__Z : parseMethodDescriptor "(Ljava/lang/Object;)Z" = some ⟨[(.object "java/lang/Object")], some .boolean⟩ := by decide +kernel
theorem pn_21 : plainName "com/example/quire/quire/readers/Element" = true := by first | (simp [plainName, overriddenIn]; done) | decide +kernel
theorem ef_21 (m : MethodId) (x0 : Addr) (x1 : Int32) (x2 : Addr) (x3 : Addr) (x4 : Addr) : entryFrame m #[(.ref x0), (.int x1), (.ref x2), (.ref x3), (.ref x4)] 6 = mkF m 0 #[.val (.ref x0), .val (.int x1), .val (.ref x2), .val (.ref x3), .val (.ref x4), .unset] [] := by first | (simp [entryFrame, mkF, argsToLocals, Value.category]; done) | rfl
def Q21_3 (Z : State) (o0 : Addr) (o2 : Addr) (o3 : Addr) (o4 : Addr) (c1 : Addr) (s1 : Addr) (x1 : Int32) (c2 : Addr) (s2 : Addr) (x2 : Int32) (c3 : Addr) (s3 : Addr) (x3 : Int32) (y : Int32) (cs : Int32) (w_de : Addr) (k_de : ClassId) (h0 : Heap) (n0 : Nat) (v : Option Value) (h : Heap) (L : List Loc) : Prop := v = none ∧ Fr n0 L ∧ Keep h0 h [o4] ∧ own_AL Z h o4 w_de (own_sel y [(c1, s1, x1), (c2, s2, x2), (c3, s3, x3)] [])
set_option maxRecDepth 65536 in
set_option maxHeartbeats 40000000 in
theorem rm21_3 (l : Launch) (Z : State) (a0 : Array Value) (hw : ∀ d ∈ tables_1, d.before a0 Z = true) (ws : List Jvm.Cond) (o0 : Addr) (o2 : Addr) (o3 : Addr) (o4 : Addr) (c1 : Addr) (s1 : Addr) (x1 : Int32) (c2 : Addr) (s2 : Addr) (x2 : Int32) (c3 : Addr) (s3 : Addr) (x3 : Int32) (y : Int32) (cs : Int32) (w_de : Addr) (k_de : ClassId) (h0 : Heap) (n0 : Nat) (Z0 : n0 ≤ h0.size) (hKd : own_Kids Z h0 o0 [(c1, s1, x1), (c2, s2, x2), (c3, s3, x3)]) (hns : own_St Z h0 o2 (0 : Int32) []) (hq : own_St Z h0 o3 (1 : Int32) [(.int y)]) (E_al : Exa Z h0 o4 "java/util/ArrayList") (F_modCount : Fld Z h0 o4 "java/util/AbstractList" "modCount" "I" (.int (0 : Int32))) (F_size : Fld Z h0 o4 "java/util/ArrayList" "size" "I" (.int (0 : Int32))) (F_elementData : Fld Z h0 o4 "java/util/ArrayList" "elementData" "[Ljava/lang/Object;" (.ref w_de)) (g_al : n0 ≤ o4) (S_cs : Sta Z h0 "java/lang/String" "COMPACT_STRINGS" "Z" (.int cs)) (hcs : ¬ cs = (0 : Int32)) (S_de : Sta Z h0 "java/util/ArrayList" "DEFAULTCAPACITY_EMPTY_ELEMENTDATA" "[Ljava/lang/Object;" (.ref w_de)) (V_de : Arv Z h0 w_de k_de (.object "java/lang/Object") (0 : Int32) [] .null) :
    MetFree l oN31 (head1 (Jvm.Cond.code oN31 prog_45_method_25_code 6 none :: ws) oM21_3) (fun a U => a = #[(.ref o0), (.int (0 : Int32)), (.ref o2), (.ref o3), (.ref o4)] ∧ Z.Warmed39 U.vm ∧ U.heap = h0) (fun _ _ _ _ _ => True) (fun _ U o U' => ∃ v L, o = .returned v ∧ Q21_3 Z o0 o2 o3 o4 c1 s1 x1 c2 s2 x2 c3 s3 x3 y cs w_de k_de h0 n0 v U'.heap L ∧ FrameEnd U o U' L oM21_3.cells oM21_3.slots) := by
  refine MetFree.of_bodySF (plainFor_of_name pn_21) hisR ?_
  intro p e s m args below meth c s₁ Bd hml0 hP hK
  obtain ⟨rfl, hZ, hh⟩ := hP
  have hx := Bd.exec
  have hby := Bd.bytes
  have hml : c.maxLocals = 6 := hml0
  have hown : s.vm.findClass "com/example/quire/quire/readers/Element" = some m.cls := findClass_of_methodNamed Bd.named
  have hnm := (name_of_methodNamed Bd.named Bd.method).1
  have X0 : Stand p l e oM21_3 s m #[(.ref o0), (.int (0 : Int32)), (.ref o2), (.ref o3), (.ref o4)] below meth c s₁ [] 0 0 := Stand.of_body Bd
  have e0 : s₁.heap = h0 := by rw [← hh, Bd.state]; rfl
  have N0 := Fr.nil n0
  obtain ⟨F, hF⟩ : ∃ F : State → Prop, F = own_Fin p e below s oM21_3.cells oM21_3.slots (fun v h L => Q21_3 Z o0 o2 o3 o4 c1 s1 x1 c2 s2 x2 c3 s3 x3 y cs w_de k_de h0 n0 v h L) := ⟨_, rfl⟩
  have bk : ∀ {A B : State}, (∀ t, Steps p.tables e below B t → Steps p.tables e below A t) → F B → F A := by
    intro A B h k
    rw [hF] at k ⊢
    exact own_back h k
  suffices hgo : F (s₁.setTop (mkF m 0 #[.val (.ref o0), .val (.int (0 : Int32)), .val (.ref o2), .val (.ref o3), .val (.ref o4), .unset] [])) by
    have hgo' := bk (fun t k => castTop (T := s₁) (ef_21 m o0 (0 : Int32) o2 o3 o4) k) hgo
    rw [hF] at hgo'
    exact hgo'
  have vK := hKd
  obtain ⟨E_o0, v0, F_fc, R0⟩ := vK
  obtain ⟨rfl, hCh1, v1, F_nx1, R1⟩ := R0
  obtain ⟨rfl, hCh2, v2, F_nx2, R2⟩ := R1
  obtain ⟨rfl, hCh3, v3, F_nx3, R3⟩ := R2
  have hv3 : v3 = .null := R3
  subst hv3
  have w_11 := hw _ (List.mem_of_getElem? (i := 11) rfl)
  have w_28 := hw _ (List.mem_of_getElem? (i := 28) rfl)
  have w_29 := hw _ (List.mem_of_getElem? (i := 29) rfl)
  have w_114 := hw _ (List.mem_of_getElem? (i := 114) rfl)
  have w_115 := hw _ (List.mem_of_getElem? (i := 115) rfl)
  have w_154 := hw _ (List.mem_of_getElem? (i := 154) rfl)
  have w_161 := hw _ (List.mem_of_getElem? (i := 161) rfl)
  have w_173 := hw _ (List.mem_of_getElem? (i := 173) rfl)
  have w_183 := hw _ (List.mem_of_getElem? (i := 183) rfl)
  have w_184 := hw _ (List.mem_of_getElem? (i := 184) rfl)
  have w_185 := hw _ (List.mem_of_getElem? (i := 185) rfl)
  have w_186 := hw _ (List.mem_of_getElem? (i := 186) rfl)
  have w_187 := hw _ (List.mem_of_getElem? (i := 187) rfl)
  have w_189 := hw _ (List.mem_of_getElem? (i := 189) rfl)
  have w_190 := hw _ (List.mem_of_getElem? (i := 190) rfl)
  have w_191 := hw _ (List.mem_of_getElem? (i := 191) rfl)
  have w_192 := hw _ (List.mem_of_getElem? (i := 192) rfl)
  have w_193 := hw _ (List.mem_of_getElem? (i := 193) rfl)
  have w_194 := hw _ (List.mem_of_getElem? (i := 194) rfl)
  have w_195 := hw _ (List.mem_of_getElem? (i := 195) rfl)
  have w_196 := hw _ (List.mem_of_getElem? (i := 196) rfl)
  refine bk (fun t k => XS.aloadN X0.here hx rfl (hb hby d21_0) rfl rfl k) ?_
  obtain ⟨T1, X1, e1, st1⟩ := getF X0 hx hZ hown (host := "") (Or.inl w_154) Via.refl e0 F_fc (g := (mkF m 1 #[oR o0, .val (.int (0 : Int32)), oR o2, oR o3, oR o4, .unset] [(.ref o0)])) rfl rfl (hb hby d21_1)
  refine bk (fun t k => st1 t k) ?_
  show F (T1.setTop (mkF m 4 #[oR o0, .val (.int (0 : Int32)), oR o2, oR o3, oR o4, .unset] [(.ref c1)]))
  refine bk (fun t k => XS.astore X1.here hx rfl (hb hby d21_4) rfl rfl (l' := #[oR o0, .val (.int (0 : Int32)), oR o2, oR o3, oR o4, oR c1]) rfl k) ?_
  refine bk (fun t k => XS.aload X1.here hx rfl (hb hby d21_6) rfl rfl k) ?_
  refine bk (fun t k => XS.ifnullNo X1.here hx rfl (hb hby d21_8) rfl k) ?_
  refine bk (fun t k => XS.aload X1.here hx rfl (hb hby d21_11) rfl rfl k) ?_
  refine bk (fun t k => XS.aloadN X1.here hx rfl (hb hby d21_13) rfl rfl k) ?_
  show F (T1.setTop (mkF m 14 #[oR o0, .val (.int (0 : Int32)), oR o2, oR o3, oR o4, oR c1] [(.ref o2), (.ref c1)]))
  refine bk (fun t k => XS.aloadN X1.here hx rfl (hb hby d21_14) rfl rfl k) ?_
  obtain ⟨cq2, kq2, q2a, q2b, q2c⟩ := isOf hZ e1 (hCh1.1)
  obtain ⟨_, _, ⟨T2, L2, k2, n2⟩, -, X2, ⟨Lc2, hQ2, l2, y2, z2⟩, st2⟩ := X1.virtualBack hx (y := oN10) (z := oN10) hown (mvT hZ w_183) (mvT hZ w_184) (notFace_of_selects (args := #[]) (mvT hZ w_186)) (mvT hZ w_186) (mvT hZ w_185) (by decide) (backOf (W := 0) (rm26 l Z a0 hw [] c1 o2 o3 s1 x1 y cs h0 n0 Z0 hCh1 hns hq S_cs hcs) hZ w_187 w_29 (by decide) (by decide)) q2a q2c (g := (mkF m 15 #[oR o0, .val (.int (0 : Int32)), oR o2, oR o3, oR o4, oR c1] [(.ref o3), (.ref o2), (.ref c1)])) rfl (by rw [hml]; rfl) (Steps.refl _) (argsL := [(.ref o2), (.ref o3)]) (rest := []) (lenOf pd21__Ljava_lang_String_Ljava_lang_String__Z rfl) rfl (by show 2 * 0 + _ ≤ _; exact Nat.le_of_eq rfl) (hb hby d21_15) (fun _ _ => ⟨rfl, e1, (by decide : 0 + 0 ≤ _), (by decide : 0 + 0 ≤ _)⟩)
  dsimp only [Pt.U, Pt.locs, Pt.cells, Pt.slots, oM26] at X2 l2 y2 z2 st2 hQ2
  subst l2 y2 z2
  obtain ⟨rfl, N2q, e2⟩ := hQ2
  have N2 := Fr.app N0 N2q
  refine bk (fun t k => st2.trans k) ?_
  show F (T2.setTop (mkF m 18 #[oR o0, .val (.int (0 : Int32)), oR o2, oR o3, oR o4, oR c1] [(.int (own_beq x1 y))]))
  by_cases hc18_3 : (own_beq x1 y) = (0 : Int32)
  · refine bk (fun t k => XS.ifYes X2.here hx rfl (pc0 := 18) (pc' := 31) rfl (hb hby d21_18) rfl ((if0 _ _).trans (teq hc18_3).1) (by decide) (by decide) k) ?_
    refine bk (fun t k => XS.iloadN X2.here hx rfl (hb hby d21_31) rfl k) ?_
    refine bk (fun t k => XS.ifYes X2.here hx rfl (pc0 := 32) (pc' := 45) rfl (hb hby d21_32) rfl ((if0 _ _).trans (teq (by decide : (0 : Int32) = (0 : Int32))).1) (by decide) (by decide) k) ?_
    refine bk (fun t k => XS.aload X2.here hx rfl (hb hby d21_45) rfl rfl k) ?_
    show F (T2.setTop (mkF m 47 #[oR o0, .val (.int (0 : Int32)), oR o2, oR o3, oR o4, oR c1] [(.ref c1)]))
    obtain ⟨T4, X4, e4, st4⟩ := getF X2 hx hZ hown (host := "") (Or.inl w_173) Via.refl e2 F_nx1 (g := (mkF m 47 #[oR o0, .val (.int (0 : Int32)), oR o2, oR o3, oR o4, oR c1] [(.ref c1)])) rfl rfl (hb hby d21_47)
    refine bk (fun t k => st4 t k) ?_
    show F (T4.setTop (mkF m 50 #[oR o0, .val (.int (0 : Int32)), oR o2, oR o3, oR o4, oR c1] [(.ref c2)]))
    refine bk (fun t k => XS.astore X4.here hx rfl (hb hby d21_50) rfl rfl (l' := #[oR o0, .val (.int (0 : Int32)), oR o2, oR o3, oR o4, oR c2]) rfl k) ?_
    refine bk (fun t k => XS.goto X4.here hx rfl (pc0 := 52) (pc' := 6) rfl (hb hby d21_52) (by decide) (by decide) k) ?_
    refine bk (fun t k => XS.aload X4.here hx rfl (hb hby d21_6) rfl rfl k) ?_
    show F (T4.setTop (mkF m 8 #[oR o0, .val (.int (0 : Int32)), oR o2, oR o3, oR o4, oR c2] [(.ref c2)]))
    refine bk (fun t k => XS.ifnullNo X4.here hx rfl (hb hby d21_8) rfl k) ?_
    refine bk (fun t k => XS.aload X4.here hx rfl (hb hby d21_11) rfl rfl k) ?_
    refine bk (fun t k => XS.aloadN X4.here hx rfl (hb hby d21_13) rfl rfl k) ?_
    refine bk (fun t k => XS.aloadN X4.here hx rfl (hb hby d21_14) rfl rfl k) ?_
    show F (T4.setTop (mkF m 15 #[oR o0, .val (.int (0 : Int32)), oR o2, oR o3, oR o4, oR c2] [(.ref o3), (.ref o2), (.ref c2)]))
    obtain ⟨cq5, kq5, q5a, q5b, q5c⟩ := isOf hZ e4 (hCh2.1)
    obtain ⟨_, _, ⟨T5, L5, k5, n5⟩, -, X5, ⟨Lc5, hQ5, l5, y5, z5⟩, st5⟩ := X4.virtualBack hx (y := oN10) (z := oN10) hown (mvT hZ w_183) (mvT hZ w_184) (notFace_of_selects (args := #[]) (mvT hZ w_186)) (mvT hZ w_186) (mvT hZ w_185) (by decide) (backOf (W := 0) (rm26 l Z a0 hw [] c2 o2 o3 s2 x2 y cs h0 n0 Z0 hCh2 hns hq S_cs hcs) hZ w_187 w_29 (by decide) (by decide)) q5a q5c (g := (mkF m 15 #[oR o0, .val (.int (0 : Int32)), oR o2, oR o3, oR o4, oR c2] [(.ref o3), (.ref o2), (.ref c2)])) rfl (by rw [hml]; rfl) (Steps.refl _) (argsL := [(.ref o2), (.ref o3)]) (rest := []) (lenOf pd21__Ljava_lang_String_Ljava_lang_String__Z rfl) rfl (by show 2 * 0 + _ ≤ _; exact Nat.le_of_eq rfl) (hb hby d21_15) (fun _ _ => ⟨rfl, e4, (by decide : 0 + 0 ≤ _), (by decide : 0 + 0 ≤ _)⟩)
    dsimp only [Pt.U, Pt.locs, Pt.cells, Pt.slots, oM26] at X5 l5 y5 z5 st5 hQ5
    subst l5 y5 z5
    obtain ⟨rfl, N5q, e5⟩ := hQ5
    have N5 := Fr.app N2 N5q
    refine bk (fun t k => st5.trans k) ?_
    show F (T5.setTop (mkF m 18 #[oR o0, .val (.int (0 : Int32)), oR o2, oR o3, oR o4, oR c2] [(.int (own_beq x2 y))]))
    by_cases hc18_6 : (own_beq x2 y) = (0 : Int32)
    · refine bk (fun t k => XS.ifYes X5.here hx rfl (pc0 := 18) (pc' := 31) rfl (hb hby d21_18) rfl ((if0 _ _).trans (teq hc18_6).1) (by decide) (by decide) k) ?_
      refine bk (fun t k => XS.iloadN X5.here hx rfl (hb hby d21_31) rfl k) ?_
      refine bk (fun t k => XS.ifYes X5.here hx rfl (pc0 := 32) (pc' := 45) rfl (hb hby d21_32) rfl ((if0 _ _).trans (teq (by decide : (0 : Int32) = (0 : Int32))).1) (by decide) (by decide) k) ?_
      refine bk (fun t k => XS.aload X5.here hx rfl (hb hby d21_45) rfl rfl k) ?_
      show F (T5.setTop (mkF m 47 #[oR o0, .val (.int (0 : Int32)), oR o2, oR o3, oR o4, oR c2] [(.ref c2)]))
      obtain ⟨T7, X7, e7, st7⟩ := getF X5 hx hZ hown (host := "") (Or.inl w_173) Via.refl e5 F_nx2 (g := (mkF m 47 #[oR o0, .val (.int (0 : Int32)), oR o2, oR o3, oR o4, oR c2] [(.ref c2)])) rfl rfl (hb hby d21_47)
      refine bk (fun t k => st7 t k) ?_
      show F (T7.setTop (mkF m 50 #[oR o0, .val (.int (0 : Int32)), oR o2, oR o3, oR o4, oR c2] [(.ref c3)]))
      refine bk (fun t k => XS.astore X7.here hx rfl (hb hby d21_50) rfl rfl (l' := #[oR o0, .val (.int (0 : Int32)), oR o2, oR o3, oR o4, oR c3]) rfl k) ?_
      refine bk (fun t k => XS.goto X7.here hx rfl (pc0 := 52) (pc' := 6) rfl (hb hby d21_52) (by decide) (by decide) k) ?_
      refine bk (fun t k => XS.aload X7.here hx rfl (hb hby d21_6) rfl rfl k) ?_
      show F (T7.setTop (mkF m 8 #[oR o0, .val (.int (0 : Int32)), oR o2, oR o3, oR o4, oR c3] [(.ref c3)]))
      refine bk (fun t k => XS.ifnullNo X7.here hx rfl (hb hby d21_8) rfl k) ?_
      refine bk (fun t k => XS.aload X7.here hx rfl (hb hby d21_11) rfl rfl k) ?_
      refine bk (fun t k => XS.aloadN X7.here hx rfl (hb hby d21_13) rfl rfl k) ?_
      refine bk (fun t k => XS.aloadN X7.here hx rfl (hb hby d21_14) rfl rfl k) ?_
      show F (T7.setTop (mkF m 15 #[oR o0, .val (.int (0 : Int32)), oR o2, oR o3, oR o4, oR c3] [(.ref o3), (.ref o2), (.ref c3)]))
      obtain ⟨cq8, kq8, q8a, q8b, q8c⟩ := isOf hZ e7 (hCh3.1)
      obtain ⟨_, _, ⟨T8, L8, k8, n8⟩, -, X8, ⟨Lc8, hQ8, l8, y8, z8⟩, st8⟩ := X7.virtualBack hx (y := oN10) (z := oN10) hown (mvT hZ w_183) (mvT hZ w_184) (notFace_of_selects (args := #[]) (mvT hZ w_186)) (mvT hZ w_186) (mvT hZ w_185) (by decide) (backOf (W := 0) (rm26 l Z a0 hw [] c3 o2 o3 s3 x3 y cs h0 n0 Z0 hCh3 hns hq S_cs hcs) hZ w_187 w_29 (by decide) (by decide)) q8a q8c (g := (mkF m 15 #[oR o0, .val (.int (0 : Int32)), oR o2, oR o3, oR o4, oR c3] [(.ref o3), (.ref o2), (.ref c3)])) rfl (by rw [hml]; rfl) (Steps.refl _) (argsL := [(.ref o2), (.ref o3)]) (rest := []) (lenOf pd21__Ljava_lang_String_Ljava_lang_String__Z rfl) rfl (by show 2 * 0 + _ ≤ _; exact Nat.le_of_eq rfl) (hb hby d21_15) (fun _ _ => ⟨rfl, e7, (by decide : 0 + 0 ≤ _), (by decide : 0 + 0 ≤ _)⟩)
      dsimp only [Pt.U, Pt.locs, Pt.cells, Pt.slots, oM26] at X8 l8 y8 z8 st8 hQ8
      subst l8 y8 z8
      obtain ⟨rfl, N8q, e8⟩ := hQ8
      have N8 := Fr.app N5 N8q
      refine bk (fun t k => st8.trans k) ?_
      show F (T8.setTop (mkF m 18 #[oR o0, .val (.int (0 : Int32)), oR o2, oR o3, oR o4, oR c3] [(.int (own_beq x3 y))]))
      by_cases hc18_9 : (own_beq x3 y) = (0 : Int32)
      · refine bk (fun t k => XS.ifYes X8.here hx rfl (pc0 := 18) (pc' := 31) rfl (hb hby d21_18) rfl ((if0 _ _).trans (teq hc18_9).1) (by decide) (by decide) k) ?_
        refine bk (fun t k => XS.iloadN X8.here hx rfl (hb hby d21_31) rfl k) ?_
        refine bk (fun t k => XS.ifYes X8.here hx rfl (pc0 := 32) (pc' := 45) rfl (hb hby d21_32) rfl ((if0 _ _).trans (teq (by decide : (0 : Int32) = (0 : Int32))).1) (by decide) (by decide) k) ?_
        refine bk (fun t k => XS.aload X8.here hx rfl (hb hby d21_45) rfl rfl k) ?_
        show F (T8.setTop (mkF m 47 #[oR o0, .val (.int (0 : Int32)), oR o2, oR o3, oR o4, oR c3] [(.ref c3)]))
        obtain ⟨T10, X10, e10, st10⟩ := getF X8 hx hZ hown (host := "") (Or.inl w_173) Via.refl e8 F_nx3 (g := (mkF m 47 #[oR o0, .val (.int (0 : Int32)), oR o2, oR o3, oR o4, oR c3] [(.ref c3)])) rfl rfl (hb hby d21_47)
        refine bk (fun t k => st10 t k) ?_
        show F (T10.setTop (mkF m 50 #[oR o0, .val (.int (0 : Int32)), oR o2, oR o3, oR o4, oR c3] [.null]))
        refine bk (fun t k => XS.astore X10.here hx rfl (hb hby d21_50) rfl rfl (l' := #[oR o0, .val (.int (0 : Int32)), oR o2, oR o3, oR o4, .val .null]) rfl k) ?_
        refine bk (fun t k => XS.goto X10.here hx rfl (pc0 := 52) (pc' := 6) rfl (hb hby d21_52) (by decide) (by decide) k) ?_
        refine bk (fun t k => XS.aload X10.here hx rfl (hb hby d21_6) rfl rfl k) ?_
        show F (T10.setTop (mkF m 8 #[oR o0, .val (.int (0 : Int32)), oR o2, oR o3, oR o4, .val .null] [.null]))
        refine bk (fun t k => XS.ifnullYes X10.here hx rfl (pc0 := 8) (pc' := 55) rfl (hb hby d21_8) rfl (by decide) (by decide) k) ?_
        rw [hF]
        refine own_ret0 X10 hx Bd.notSynchronized Bd.returns (hb hby d21_55) (by decide) (by decide) ?_
        rw [e10]
        refine ⟨rfl, N8, (Keep.refl h0 [o4]), ?_⟩
        show own_AL Z h0 o4 w_de (own_pick (own_beq x3 y) c3 (own_pick (own_beq x2 y) c2 (own_pick (own_beq x1 y) c1 ([] : List Addr))))
        rw [own_pickF hc18_3, own_pickF hc18_6, own_pickF hc18_9]
        exact ⟨E_al, F_size, F_elementData⟩
      refine bk (fun t k => XS.ifNo X8.here hx rfl (hb hby d21_18) rfl ((if0 _ _).trans (feq hc18_9).1) k) ?_
      refine bk (fun t k => XS.aload X8.here hx rfl (hb hby d21_21) rfl rfl k) ?_
      refine bk (fun t k => XS.aload X8.here hx rfl (hb hby d21_23) rfl rfl k) ?_
      show F (T8.setTop (mkF m 25 #[oR o0, .val (.int (0 : Int32)), oR o2, oR o3, oR o4, oR c3] [(.ref c3), (.ref o4)]))
      obtain ⟨cq11, kq11, q11a, q11b, q11c⟩ := isOf hZ e8 (E_al)
      obtain ⟨_, _, ⟨T11, L11, k11, n11⟩, -, X11, ⟨Lc11, hQ11, l11, y11, z11⟩, st11⟩ := X8.interfaceBack hx (xi := oN32) (y := oN26) hown (mvT hZ w_189) (mvT hZ w_190) (mvT hZ w_191) (mvT hZ w_192) (mvT hZ w_193) (mvT hZ w_194) (mvT hZ w_195) (mvT hZ w_161) (by decide) (backOf (W := 0) (rm27_0 l Z a0 hw [] o4 c3 (0 : Int32) w_de k_de h0 n0 Z0 E_al F_modCount F_size F_elementData g_al S_de V_de hCh3.1) hZ w_196 w_115 (by decide) (by decide)) q11a q11b q11c (g := (mkF m 25 #[oR o0, .val (.int (0 : Int32)), oR o2, oR o3, oR o4, oR c3] [(.ref c3), (.ref o4)])) rfl (by rw [hml]; rfl) (Steps.refl _) (argsL := [(.ref c3)]) (rest := []) (lenOf pd21__Ljava_lang_Object__Z rfl) rfl (by show 2 * 0 + _ ≤ _; exact Nat.le_of_eq rfl) (hb hby d21_25) (fun _ _ => ⟨rfl, e8, (by decide : 0 + 1 ≤ _), (by decide : 0 + 10 ≤ _)⟩)
      dsimp only [Pt.U, Pt.locs, Pt.cells, Pt.slots, oM27_0] at X11 l11 y11 z11 st11 hQ11
      subst l11 y11 z11
      obtain ⟨r11, kd11, rfl, N11q, K11, ⟨gE11, gM11, gS11, gD11⟩, gV11, gO11, gs11⟩ := hQ11
      have N11 := Fr.app N8 N11q
      have f12 := E_o0.keep K11
      have f13 := F_fc.keep K11 (ninS (Exa.ne E_o0 E_al (by decide)) nin0)
      have f14 := hCh1.keep K11 (ninS (Exa.ne hCh1.1 E_al (by decide)) nin0) (allS (own_nsE E_al (by decide) w_114) all0)
      have f15 := hCh1.1.keep K11
      have f16 := F_nx1.keep K11 (ninS (Exa.ne hCh1.1 E_al (by decide)) nin0)
      have f17 := hCh2.keep K11 (ninS (Exa.ne hCh2.1 E_al (by decide)) nin0) (allS (own_nsE E_al (by decide) w_114) all0)
      have f18 := hCh2.1.keep K11
      have f19 := F_nx2.keep K11 (ninS (Exa.ne hCh2.1 E_al (by decide)) nin0)
      have f20 := hCh3.keep K11 (ninS (Exa.ne hCh3.1 E_al (by decide)) nin0) (allS (own_nsE E_al (by decide) w_114) all0)
      have f21 := hCh3.1.keep K11
      have f22 := F_nx3.keep K11 (ninS (Exa.ne hCh3.1 E_al (by decide)) nin0)
      have f23 := E_al.keep K11
      have f24 := hns.keep K11 (allS (own_nsE E_al (by decide) w_114) all0)
      have f25 := hq.keep K11 (allS (own_nsE E_al (by decide) w_114) all0)
      have f26 := own_sta1 S_cs K11 E_al
      have f27 := own_sta1 S_de K11 E_al
      have f28 := V_de.keep K11 (ninS (Ne.symm (Exa.neArv E_al V_de w_114)) nin0)
      have f29 := Nat.le_trans Z0 K11.1
      have f30 := (Keep.refl h0 [o4]).trans K11 (allS (Or.inl (List.mem_of_getElem? (i := 0) rfl)) all0)
      have G_r11 : n0 ≤ r11 := Nat.le_trans Z0 gs11
      have sz_r11 : h0.size ≤ r11 := Nat.le_trans (Keep.refl h0 [o4]).1 gs11
      refine bk (fun t k => st11.trans k) ?_
      refine bk (fun t k => XS.pop X11.here hx rfl (hb hby d21_30) rfl rfl k) ?_
      refine bk (fun t k => XS.iloadN X11.here hx rfl (hb hby d21_31) rfl k) ?_
      show F (T11.setTop (mkF m 32 #[oR o0, .val (.int (0 : Int32)), oR o2, oR o3, oR o4, oR c3] [(.int (0 : Int32))]))
      refine bk (fun t k => XS.ifYes X11.here hx rfl (pc0 := 32) (pc' := 45) rfl (hb hby d21_32) rfl ((if0 _ _).trans (teq (by decide : (0 : Int32) = (0 : Int32))).1) (by decide) (by decide) k) ?_
      refine bk (fun t k => XS.aload X11.here hx rfl (hb hby d21_45) rfl rfl k) ?_
      obtain ⟨T31, X31, e31, st31⟩ := getF X11 hx hZ hown (host := "") (Or.inl w_173) Via.refl rfl f22 (g := (mkF m 47 #[oR o0, .val (.int (0 : Int32)), oR o2, oR o3, oR o4, oR c3] [(.ref c3)])) rfl rfl (hb hby d21_47)
      refine bk (fun t k => st31 t k) ?_
      show F (T31.setTop (mkF m 50 #[oR o0, .val (.int (0 : Int32)), oR o2, oR o3, oR o4, oR c3] [.null]))
      refine bk (fun t k => XS.astore X31.here hx rfl (hb hby d21_50) rfl rfl (l' := #[oR o0, .val (.int (0 : Int32)), oR o2, oR o3, oR o4, .val .null]) rfl k) ?_
      refine bk (fun t k => XS.goto X31.here hx rfl (pc0 := 52) (pc' := 6) rfl (hb hby d21_52) (by decide) (by decide) k) ?_
      refine bk (fun t k => XS.aload X31.here hx rfl (hb hby d21_6) rfl rfl k) ?_
      show F (T31.setTop (mkF m 8 #[oR o0, .val (.int (0 : Int32)), oR o2, oR o3, oR o4, .val .null] [.null]))
      refine bk (fun t k => XS.ifnullYes X31.here hx rfl (pc0 := 8) (pc' := 55) rfl (hb hby d21_8) rfl (by decide) (by decide) k) ?_
      rw [hF]
      refine own_ret0 X31 hx Bd.notSynchronized Bd.returns (hb hby d21_55) (by decide) (by decide) ?_
      rw [e31]
      refine ⟨rfl, N11, f30, ?_⟩
      show own_AL Z T11.heap o4 w_de (own_pick (own_beq x3 y) c3 (own_pick (own_beq x2 y) c2 (own_pick (own_beq x1 y) c1 ([] : List Addr))))
      rw [own_pickF hc18_3, own_pickF hc18_6, own_pickT hc18_9]
      exact ⟨_, _, gE11, gS11, gD11, gV11⟩
    refine bk (fun t k => XS.ifNo X5.here hx rfl (hb hby d21_18) rfl ((if0 _ _).trans (feq hc18_6).1) k) ?_
    refine bk (fun t k => XS.aload X5.here hx rfl (hb hby d21_21) rfl rfl k) ?_
    refine bk (fun t k => XS.aload X5.here hx rfl (hb hby d21_23) rfl rfl k) ?_
    show F (T5.setTop (mkF m 25 #[oR o0, .val (.int (0 : Int32)), oR o2, oR o3, oR o4, oR c2] [(.ref c2), (.ref o4)]))
    obtain ⟨cq32, kq32, q32a, q32b, q32c⟩ := isOf hZ e5 (E_al)
    obtain ⟨_, _, ⟨T32, L32, k32, n32⟩, -, X32, ⟨Lc32, hQ32, l32, y32, z32⟩, st32⟩ := X5.interfaceBack hx (xi := oN32) (y := oN26) hown (mvT hZ w_189) (mvT hZ w_190) (mvT hZ w_191) (mvT hZ w_192) (mvT hZ w_193) (mvT hZ w_194) (mvT hZ w_195) (mvT hZ w_161) (by decide) (backOf (W := 0) (rm27_0 l Z a0 hw [] o4 c2 (0 : Int32) w_de k_de h0 n0 Z0 E_al F_modCount F_size F_elementData g_al S_de V_de hCh2.1) hZ w_196 w_115 (by decide) (by decide)) q32a q32b q32c (g := (mkF m 25 #[oR o0, .val (.int (0 : Int32)), oR o2, oR o3, oR o4, oR c2] [(.ref c2), (.ref o4)])) rfl (by rw [hml]; rfl) (Steps.refl _) (argsL := [(.ref c2)]) (rest := []) (lenOf pd21__Ljava_lang_Object__Z rfl) rfl (by show 2 * 0 + _ ≤ _; exact Nat.le_of_eq rfl) (hb hby d21_25) (fun _ _ => ⟨rfl, e5, (by decide : 0 + 1 ≤ _), (by decide : 0 + 10 ≤ _)⟩)
    dsimp only [Pt.U, Pt.locs, Pt.cells, Pt.slots, oM27_0] at X32 l32 y32 z32 st32 hQ32
    subst l32 y32 z32
    obtain ⟨r32, kd32, rfl, N32q, K32, ⟨gE32, gM32, gS32, gD32⟩, gV32, gO32, gs32⟩ := hQ32
    have N32 := Fr.app N5 N32q
    have f33 := E_o0.keep K32
    have f34 := F_fc.keep K32 (ninS (Exa.ne E_o0 E_al (by decide)) nin0)
    have f35 := hCh1.keep K32 (ninS (Exa.ne hCh1.1 E_al (by decide)) nin0) (allS (own_nsE E_al (by decide) w_114) all0)
    have f36 := hCh1.1.keep K32
    have f37 := F_nx1.keep K32 (ninS (Exa.ne hCh1.1 E_al (by decide)) nin0)
    have f38 := hCh2.keep K32 (ninS (Exa.ne hCh2.1 E_al (by decide)) nin0) (allS (own_nsE E_al (by decide) w_114) all0)
    have f39 := hCh2.1.keep K32
    have f40 := F_nx2.keep K32 (ninS (Exa.ne hCh2.1 E_al (by decide)) nin0)
    have f41 := hCh3.keep K32 (ninS (Exa.ne hCh3.1 E_al (by decide)) nin0) (allS (own_nsE E_al (by decide) w_114) all0)
    have f42 := hCh3.1.keep K32
    have f43 := F_nx3.keep K32 (ninS (Exa.ne hCh3.1 E_al (by decide)) nin0)
    have f44 := E_al.keep K32
    have f45 := hns.keep K32 (allS (own_nsE E_al (by decide) w_114) all0)
    have f46 := hq.keep K32 (allS (own_nsE E_al (by decide) w_114) all0)
    have f47 := own_sta1 S_cs K32 E_al
    have f48 := own_sta1 S_de K32 E_al
    have f49 := V_de.keep K32 (ninS (Ne.symm (Exa.neArv E_al V_de w_114)) nin0)
    have f50 := Nat.le_trans Z0 K32.1
    have f51 := (Keep.refl h0 [o4]).trans K32 (allS (Or.inl (List.mem_of_getElem? (i := 0) rfl)) all0)
    have G_r32 : n0 ≤ r32 := Nat.le_trans Z0 gs32
    have sz_r32 : h0.size ≤ r32 := Nat.le_trans (Keep.refl h0 [o4]).1 gs32
    refine bk (fun t k => st32.trans k) ?_
    refine bk (fun t k => XS.pop X32.here hx rfl (hb hby d21_30) rfl rfl k) ?_
    refine bk (fun t k => XS.iloadN X32.here hx rfl (hb hby d21_31) rfl k) ?_
    show F (T32.setTop (mkF m 32 #[oR o0, .val (.int (0 : Int32)), oR o2, oR o3, oR o4, oR c2] [(.int (0 : Int32))]))
    refine bk (fun t k => XS.ifYes X32.here hx rfl (pc0 := 32) (pc' := 45) rfl (hb hby d21_32) rfl ((if0 _ _).trans (teq (by decide : (0 : Int32) = (0 : Int32))).1) (by decide) (by decide) k) ?_
    refine bk (fun t k => XS.aload X32.here hx rfl (hb hby d21_45) rfl rfl k) ?_
    obtain ⟨T52, X52, e52, st52⟩ := getF X32 hx hZ hown (host := "") (Or.inl w_173) Via.refl rfl f40 (g := (mkF m 47 #[oR o0, .val (.int (0 : Int32)), oR o2, oR o3, oR o4, oR c2] [(.ref c2)])) rfl rfl (hb hby d21_47)
    refine bk (fun t k => st52 t k) ?_
    show F (T52.setTop (mkF m 50 #[oR o0, .val (.int (0 : Int32)), oR o2, oR o3, oR o4, oR c2] [(.ref c3)]))
    refine bk (fun t k => XS.astore X52.here hx rfl (hb hby d21_50) rfl rfl (l' := #[oR o0, .val (.int (0 : Int32)), oR o2, oR o3, oR o4, oR c3]) rfl k) ?_
    refine bk (fun t k => XS.goto X52.here hx rfl (pc0 := 52) (pc' := 6) rfl (hb hby d21_52) (by decide) (by decide) k) ?_
    refine bk (fun t k => XS.aload X52.here hx rfl (hb hby d21_6) rfl rfl k) ?_
    show F (T52.setTop (mkF m 8 #[oR o0, .val (.int (0 : Int32)), oR o2, oR o3, oR o4, oR c3] [(.ref c3)]))
    refine bk (fun t k => XS.ifnullNo X52.here hx rfl (hb hby d21_8) rfl k) ?_
    refine bk (fun t k => XS.aload X52.here hx rfl (hb hby d21_11) rfl rfl k) ?_
    refine bk (fun t k => XS.aloadN X52.here hx rfl (hb hby d21_13) rfl rfl k) ?_
    refine bk (fun t k => XS.aloadN X52.here hx rfl (hb hby d21_14) rfl rfl k) ?_
    show F (T52.setTop (mkF m 15 #[oR o0, .val (.int (0 : Int32)), oR o2, oR o3, oR o4, oR c3] [(.ref o3), (.ref o2), (.ref c3)]))
    obtain ⟨cq53, kq53, q53a, q53b, q53c⟩ := isOf hZ e52 (f42)
    obtain ⟨_, _, ⟨T53, L53, k53, n53⟩, -, X53, ⟨Lc53, hQ53, l53, y53, z53⟩, st53⟩ := X52.virtualBack hx (y := oN10) (z := oN10) hown (mvT hZ w_183) (mvT hZ w_184) (notFace_of_selects (args := #[]) (mvT hZ w_186)) (mvT hZ w_186) (mvT hZ w_185) (by decide) (backOf (W := 0) (rm26 l Z a0 hw [] c3 o2 o3 s3 x3 y cs T32.heap n0 f50 f41 f45 f46 f47 hcs) hZ w_187 w_29 (by decide) (by decide)) q53a q53c (g := (mkF m 15 #[oR o0, .val (.int (0 : Int32)), oR o2, oR o3, oR o4, oR c3] [(.ref o3), (.ref o2), (.ref c3)])) rfl (by rw [hml]; rfl) (Steps.refl _) (argsL := [(.ref o2), (.ref o3)]) (rest := []) (lenOf pd21__Ljava_lang_String_Ljava_lang_String__Z rfl) rfl (by show 2 * 0 + _ ≤ _; exact Nat.le_of_eq rfl) (hb hby d21_15) (fun _ _ => ⟨rfl, e52, (by decide : 1 + 0 ≤ _), (by decide : 10 + 0 ≤ _)⟩)
    dsimp only [Pt.U, Pt.locs, Pt.cells, Pt.slots, oM26] at X53 l53 y53 z53 st53 hQ53
    subst l53 y53 z53
    obtain ⟨rfl, N53q, e53⟩ := hQ53
    have N53 := Fr.app N32 N53q
    refine bk (fun t k => st53.trans k) ?_
    show F (T53.setTop (mkF m 18 #[oR o0, .val (.int (0 : Int32)), oR o2, oR o3, oR o4, oR c3] [(.int (own_beq x3 y))]))
    by_cases hc18_54 : (own_beq x3 y) = (0 : Int32)
    · refine bk (fun t k => XS.ifYes X53.here hx rfl (pc0 := 18) (pc' := 31) rfl (hb hby d21_18) rfl ((if0 _ _).trans (teq hc18_54).1) (by decide) (by decide) k) ?_
      refine bk (fun t k => XS.iloadN X53.here hx rfl (hb hby d21_31) rfl k) ?_
      refine bk (fun t k => XS.ifYes X53.here hx rfl (pc0 := 32) (pc' := 45) rfl (hb hby d21_32) rfl ((if0 _ _).trans (teq (by decide : (0 : Int32) = (0 : Int32))).1) (by decide) (by decide) k) ?_
      refine bk (fun t k => XS.aload X53.here hx rfl (hb hby d21_45) rfl rfl k) ?_
      show F (T53.setTop (mkF m 47 #[oR o0, .val (.int (0 : Int32)), oR o2, oR o3, oR o4, oR c3] [(.ref c3)]))
      obtain ⟨T55, X55, e55, st55⟩ := getF X53 hx hZ hown (host := "") (Or.inl w_173) Via.refl e53 f43 (g := (mkF m 47 #[oR o0, .val (.int (0 : Int32)), oR o2, oR o3, oR o4, oR c3] [(.ref c3)])) rfl rfl (hb hby d21_47)
      refine bk (fun t k => st55 t k) ?_
      show F (T55.setTop (mkF m 50 #[oR o0, .val (.int (0 : Int32)), oR o2, oR o3, oR o4, oR c3] [.null]))
      refine bk (fun t k => XS.astore X55.here hx rfl (hb hby d21_50) rfl rfl (l' := #[oR o0, .val (.int (0 : Int32)), oR o2, oR o3, oR o4, .val .null]) rfl k) ?_
      refine bk (fun t k => XS.goto X55.here hx rfl (pc0 := 52) (pc' := 6) rfl (hb hby d21_52) (by decide) (by decide) k) ?_
      refine bk (fun t k => XS.aload X55.here hx rfl (hb hby d21_6) rfl rfl k) ?_
      show F (T55.setTop (mkF m 8 #[oR o0, .val (.int (0 : Int32)), oR o2, oR o3, oR o4, .val .null] [.null]))
      refine bk (fun t k => XS.ifnullYes X55.here hx rfl (pc0 := 8) (pc' := 55) rfl (hb hby d21_8) rfl (by decide) (by decide) k) ?_
      rw [hF]
      refine own_ret0 X55 hx Bd.notSynchronized Bd.returns (hb hby d21_55) (by decide) (by decide) ?_
      rw [e55]
      refine ⟨rfl, N53, f51, ?_⟩
      show own_AL Z T32.heap o4 w_de (own_pick (own_beq x3 y) c3 (own_pick (own_beq x2 y) c2 (own_pick (own_beq x1 y) c1 ([] : List Addr))))
      rw [own_pickF hc18_3, own_pickT hc18_6, own_pickF hc18_54]
      exact ⟨_, _, gE32, gS32, gD32, gV32⟩
    refine bk (fun t k => XS.ifNo X53.here hx rfl (hb hby d21_18) rfl ((if0 _ _).trans (feq hc18_54).1) k) ?_
    refine bk (fun t k => XS.aload X53.here hx rfl (hb hby d21_21) rfl rfl k) ?_
    refine bk (fun t k => XS.aload X53.here hx rfl (hb hby d21_23) rfl rfl k) ?_
    show F (T53.setTop (mkF m 25 #[oR o0, .val (.int (0 : Int32)), oR o2, oR o3, oR o4, oR c3] [(.ref c3), (.ref o4)]))
    obtain ⟨cq56, kq56, q56a, q56b, q56c⟩ := isOf hZ e53 (gE32)
    obtain ⟨_, _, ⟨T56, L56, k56, n56⟩, -, X56, ⟨Lc56, hQ56, l56, y56, z56⟩, st56⟩ := X53.interfaceBack hx (xi := oN32) (y := oN26) hown (mvT hZ w_189) (mvT hZ w_190) (mvT hZ w_191) (mvT hZ w_192) (mvT hZ w_193) (mvT hZ w_194) (mvT hZ w_195) (mvT hZ w_161) (by decide) (backOf (W := 0) (rm27_1 l Z a0 hw [] o4 c3 ((0 : Int32) + (1 : Int32)) r32 kd32 c2 T32.heap n0 f50 gE32 gM32 gS32 gD32 g_al G_r32 gV32 gO32 f42) hZ w_196 w_115 (by decide) (by decide)) q56a q56b q56c (g := (mkF m 25 #[oR o0, .val (.int (0 : Int32)), oR o2, oR o3, oR o4, oR c3] [(.ref c3), (.ref o4)])) rfl (by rw [hml]; rfl) (Steps.refl _) (argsL := [(.ref c3)]) (rest := []) (lenOf pd21__Ljava_lang_Object__Z rfl) rfl (by show 2 * 0 + _ ≤ _; exact Nat.le_of_eq rfl) (hb hby d21_25) (fun _ _ => ⟨rfl, e53, (by decide : 1 + 0 ≤ _), (by decide : 10 + 0 ≤ _)⟩)
    dsimp only [Pt.U, Pt.locs, Pt.cells, Pt.slots, oM27_1] at X56 l56 y56 z56 st56 hQ56
    subst l56 y56 z56
    obtain ⟨rfl, N56q, K56, ⟨gE56, gM56, gS56, gD56⟩, gV56⟩ := hQ56
    have N56 := Fr.app N53 N56q
    have f57 := f33.keep K56
    have f58 := f34.keep K56 (ninS (Exa.ne f33 gE32 (by decide)) (ninS (Exa.neArv f33 gV32 w_28) nin0))
    have f59 := f35.keep K56 (ninS (Exa.ne f36 gE32 (by decide)) (ninS (Exa.neArv f36 gV32 w_28) nin0)) (allS (own_nsE gE32 (by decide) w_114) (allS (own_nsV gV32 (by decide) w_11) all0))
    have f60 := f36.keep K56
    have f61 := f37.keep K56 (ninS (Exa.ne f36 gE32 (by decide)) (ninS (Exa.neArv f36 gV32 w_28) nin0))
    have f62 := f38.keep K56 (ninS (Exa.ne f39 gE32 (by decide)) (ninS (Exa.neArv f39 gV32 w_28) nin0)) (allS (own_nsE gE32 (by decide) w_114) (allS (own_nsV gV32 (by decide) w_11) all0))
    have f63 := f39.keep K56
    have f64 := f40.keep K56 (ninS (Exa.ne f39 gE32 (by decide)) (ninS (Exa.neArv f39 gV32 w_28) nin0))
    have f65 := f41.keep K56 (ninS (Exa.ne f42 gE32 (by decide)) (ninS (Exa.neArv f42 gV32 w_28) nin0)) (allS (own_nsE gE32 (by decide) w_114) (allS (own_nsV gV32 (by decide) w_11) all0))
    have f66 := f42.keep K56
    have f67 := f43.keep K56 (ninS (Exa.ne f42 gE32 (by decide)) (ninS (Exa.neArv f42 gV32 w_28) nin0))
    have f68 := gE32.keep K56
    have f69 := f45.keep K56 (allS (own_nsE gE32 (by decide) w_114) (allS (own_nsV gV32 (by decide) w_11) all0))
    have f70 := f46.keep K56 (allS (own_nsE gE32 (by decide) w_114) (allS (own_nsV gV32 (by decide) w_11) all0))
    have f71 := own_staK f47 K56 (allS (Exa.nostat gE32) (allS (Arv.nostat gV32) all0))
    have f72 := Nat.le_trans f50 K56.1
    have f73 := f51.trans K56 (allS (Or.inl (List.mem_of_getElem? (i := 0) rfl)) (allS (Or.inr sz_r32) all0))
    refine bk (fun t k => st56.trans k) ?_
    refine bk (fun t k => XS.pop X56.here hx rfl (hb hby d21_30) rfl rfl k) ?_
    refine bk (fun t k => XS.iloadN X56.here hx rfl (hb hby d21_31) rfl k) ?_
    show F (T56.setTop (mkF m 32 #[oR o0, .val (.int (0 : Int32)), oR o2, oR o3, oR o4, oR c3] [(.int (0 : Int32))]))
    refine bk (fun t k => XS.ifYes X56.here hx rfl (pc0 := 32) (pc' := 45) rfl (hb hby d21_32) rfl ((if0 _ _).trans (teq (by decide : (0 : Int32) = (0 : Int32))).1) (by decide) (by decide) k) ?_
    refine bk (fun t k => XS.aload X56.here hx rfl (hb hby d21_45) rfl rfl k) ?_
    obtain ⟨T74, X74, e74, st74⟩ := getF X56 hx hZ hown (host := "") (Or.inl w_173) Via.refl rfl f67 (g := (mkF m 47 #[oR o0, .val (.int (0 : Int32)), oR o2, oR o3, oR o4, oR c3] [(.ref c3)])) rfl rfl (hb hby d21_47)
    refine bk (fun t k => st74 t k) ?_
    show F (T74.setTop (mkF m 50 #[oR o0, .val (.int (0 : Int32)), oR o2, oR o3, oR o4, oR c3] [.null]))
    refine bk (fun t k => XS.astore X74.here hx rfl (hb hby d21_50) rfl rfl (l' := #[oR o0, .val (.int (0 : Int32)), oR o2, oR o3, oR o4, .val .null]) rfl k) ?_
    refine bk (fun t k => XS.goto X74.here hx rfl (pc0 := 52) (pc' := 6) rfl (hb hby d21_52) (by decide) (by decide) k) ?_
    refine bk (fun t k => XS.aload X74.here hx rfl (hb hby d21_6) rfl rfl k) ?_
    show F (T74.setTop (mkF m 8 #[oR o0, .val (.int (0 : Int32)), oR o2, oR o3, oR o4, .val .null] [.null]))
    refine bk (fun t k => XS.ifnullYes X74.here hx rfl (pc0 := 8) (pc' := 55) rfl (hb hby d21_8) rfl (by decide) (by decide) k) ?_
    rw [hF]
    refine own_ret0 X74 hx Bd.notSynchronized Bd.returns (hb hby d21_55) (by decide) (by decide) ?_
    rw [e74]
    refine ⟨rfl, N56, f73, ?_⟩
    show own_AL Z T56.heap o4 w_de (own_pick (own_beq x3 y) c3 (own_pick (own_beq x2 y) c2 (own_pick (own_beq x1 y) c1 ([] : List Addr))))
    rw [own_pickF hc18_3, own_pickT hc18_6, own_pickT hc18_54]
    exact ⟨_, _, gE56, gS56, gD56, gV56⟩
  refine bk (fun t k => XS.ifNo X2.here hx rfl (hb hby d21_18) rfl ((if0 _ _).trans (feq hc18_3).1) k) ?_
  refine bk (fun t k => XS.aload X2.here hx rfl (hb hby d21_21) rfl rfl k) ?_
  refine bk (fun t k => XS.aload X2.here hx rfl (hb hby d21_23) rfl rfl k) ?_
  show F (T2.setTop (mkF m 25 #[oR o0, .val (.int (0 : Int32)), oR o2, oR o3, oR o4, oR c1] [(.ref c1), (.ref o4)]))
  obtain ⟨cq75, kq75, q75a, q75b, q75c⟩ := isOf hZ e2 (E_al)
  obtain ⟨_, _, ⟨T75, L75, k75, n75⟩, -, X75, ⟨Lc75, hQ75, l75, y75, z75⟩, st75⟩ := X2.interfaceBack hx (xi := oN32) (y := oN26) hown (mvT hZ w_189) (mvT hZ w_190) (mvT hZ w_191) (mvT hZ w_192) (mvT hZ w_193) (mvT hZ w_194) (mvT hZ w_195) (mvT hZ w_161) (by decide) (backOf (W := 0) (rm27_0 l Z a0 hw [] o4 c1 (0 : Int32) w_de k_de h0 n0 Z0 E_al F_modCount F_size F_elementData g_al S_de V_de hCh1.1) hZ w_196 w_115 (by decide) (by decide)) q75a q75b q75c (g := (mkF m 25 #[oR o0, .val (.int (0 : Int32)), oR o2, oR o3, oR o4, oR c1] [(.ref c1), (.ref o4)])) rfl (by rw [hml]; rfl) (Steps.refl _) (argsL := [(.ref c1)]) (rest := []) (lenOf pd21__Ljava_lang_Object__Z rfl) rfl (by show 2 * 0 + _ ≤ _; exact Nat.le_of_eq rfl) (hb hby d21_25) (fun _ _ => ⟨rfl, e2, (by decide : 0 + 1 ≤ _), (by decide : 0 + 10 ≤ _)⟩)
  dsimp only [Pt.U, Pt.locs, Pt.cells, Pt.slots, oM27_0] at X75 l75 y75 z75 st75 hQ75
  subst l75 y75 z75
  obtain ⟨r75, kd75, rfl, N75q, K75, ⟨gE75, gM75, gS75, gD75⟩, gV75, gO75, gs75⟩ := hQ75
  have N75 := Fr.app N2 N75q
  have f76 := E_o0.keep K75
  have f77 := F_fc.keep K75 (ninS (Exa.ne E_o0 E_al (by decide)) nin0)
  have f78 := hCh1.keep K75 (ninS (Exa.ne hCh1.1 E_al (by decide)) nin0) (allS (own_nsE E_al (by decide) w_114) all0)
  have f79 := hCh1.1.keep K75
  have f80 := F_nx1.keep K75 (ninS (Exa.ne hCh1.1 E_al (by decide)) nin0)
  have f81 := hCh2.keep K75 (ninS (Exa.ne hCh2.1 E_al (by decide)) nin0) (allS (own_nsE E_al (by decide) w_114) all0)
  have f82 := hCh2.1.keep K75
  have f83 := F_nx2.keep K75 (ninS (Exa.ne hCh2.1 E_al (by decide)) nin0)
  have f84 := hCh3.keep K75 (ninS (Exa.ne hCh3.1 E_al (by decide)) nin0) (allS (own_nsE E_al (by decide) w_114) all0)
  have f85 := hCh3.1.keep K75
  have f86 := F_nx3.keep K75 (ninS (Exa.ne hCh3.1 E_al (by decide)) nin0)
  have f87 := E_al.keep K75
  have f88 := hns.keep K75 (allS (own_nsE E_al (by decide) w_114) all0)
  have f89 := hq.keep K75 (allS (own_nsE E_al (by decide) w_114) all0)
  have f90 := own_sta1 S_cs K75 E_al
  have f91 := own_sta1 S_de K75 E_al
  have f92 := V_de.keep K75 (ninS (Ne.symm (Exa.neArv E_al V_de w_114)) nin0)
  have f93 := Nat.le_trans Z0 K75.1
  have f94 := (Keep.refl h0 [o4]).trans K75 (allS (Or.inl (List.mem_of_getElem? (i := 0) rfl)) all0)
  have G_r75 : n0 ≤ r75 := Nat.le_trans Z0 gs75
  have sz_r75 : h0.size ≤ r75 := Nat.le_trans (Keep.refl h0 [o4]).1 gs75
  refine bk (fun t k => st75.trans k) ?_
  refine bk (fun t k => XS.pop X75.here hx rfl (hb hby d21_30) rfl rfl k) ?_
  refine bk (fun t k => XS.iloadN X75.here hx rfl (hb hby d21_31) rfl k) ?_
  show F (T75.setTop (mkF m 32 #[oR o0, .val (.int (0 : Int32)), oR o2, oR o3, oR o4, oR c1] [(.int (0 : Int32))]))
  refine bk (fun t k => XS.ifYes X75.here hx rfl (pc0 := 32) (pc' := 45) rfl (hb hby d21_32) rfl ((if0 _ _).trans (teq (by decide : (0 : Int32) = (0 : Int32))).1) (by decide) (by decide) k) ?_
  refine bk (fun t k => XS.aload X75.here hx rfl (hb hby d21_45) rfl rfl k) ?_
  obtain ⟨T95, X95, e95, st95⟩ := getF X75 hx hZ hown (host := "") (Or.inl w_173) Via.refl rfl f80 (g := (mkF m 47 #[oR o0, .val (.int (0 : Int32)), oR o2, oR o3, oR o4, oR c1] [(.ref c1)])) rfl rfl (hb hby d21_47)
  refine bk (fun t k => st95 t k) ?_
  show F (T95.setTop (mkF m 50 #[oR o0, .val (.int (0 : Int32)), oR o2, oR o3, oR o4, oR c1] [(.ref c2)]))
  refine bk (fun t k => XS.astore X95.here hx rfl (hb hby d21_50) rfl rfl (l' := #[oR o0, .val (.int (0 : Int32)), oR o2, oR o3, oR o4, oR c2]) rfl k) ?_
  refine bk (fun t k => XS.goto X95.here hx rfl (pc0 := 52) (pc' := 6) rfl (hb hby d21_52) (by decide) (by decide) k) ?_
  refine bk (fun t k => XS.aload X95.here hx rfl (hb hby d21_6) rfl rfl k) ?_
  show F (T95.setTop (mkF m 8 #[oR o0, .val (.int (0 : Int32)), oR o2, oR o3, oR o4, oR c2] [(.ref c2)]))
  refine bk (fun t k => XS.ifnullNo X95.here hx rfl (hb hby d21_8) rfl k) ?_
  refine bk (fun t k => XS.aload X95.here hx rfl (hb hby d21_11) rfl rfl k) ?_
  refine bk (fun t k => XS.aloadN X95.here hx rfl (hb hby d21_13) rfl rfl k) ?_
  refine bk (fun t k => XS.aloadN X95.here hx rfl (hb hby d21_14) rfl rfl k) ?_
  show F (T95.setTop (mkF m 15 #[oR o0, .val (.int (0 : Int32)), oR o2, oR o3, oR o4, oR c2] [(.ref o3), (.ref o2), (.ref c2)]))
  obtain ⟨cq96, kq96, q96a, q96b, q96c⟩ := isOf hZ e95 (f82)
  obtain ⟨_, _, ⟨T96, L96, k96, n96⟩, -, X96, ⟨Lc96, hQ96, l96, y96, z96⟩, st96⟩ := X95.virtualBack hx (y := oN10) (z := oN10) hown (mvT hZ w_183) (mvT hZ w_184) (notFace_of_selects (args := #[]) (mvT hZ w_186)) (mvT hZ w_186) (mvT hZ w_185) (by decide) (backOf (W := 0) (rm26 l Z a0 hw [] c2 o2 o3 s2 x2 y cs T75.heap n0 f93 f81 f88 f89 f90 hcs) hZ w_187 w_29 (by decide) (by decide)) q96a q96c (g := (mkF m 15 #[oR o0, .val (.int (0 : Int32)), oR o2, oR o3, oR o4, oR c2] [(.ref o3), (.ref o2), (.ref c2)])) rfl (by rw [hml]; rfl) (Steps.refl _) (argsL := [(.ref o2), (.ref o3)]) (rest := []) (lenOf pd21__Ljava_lang_String_Ljava_lang_String__Z rfl) rfl (by show 2 * 0 + _ ≤ _; exact Nat.le_of_eq rfl) (hb hby d21_15) (fun _ _ => ⟨rfl, e95, (by decide : 1 + 0 ≤ _), (by decide : 10 + 0 ≤ _)⟩)
  dsimp only [Pt.U, Pt.locs, Pt.cells, Pt.slots, oM26] at X96 l96 y96 z96 st96 hQ96
  subst l96 y96 z96
  obtain ⟨rfl, N96q, e96⟩ := hQ96
  have N96 := Fr.app N75 N96q
  refine bk (fun t k => st96.trans k) ?_
  show F (T96.setTop (mkF m 18 #[oR o0, .val (.int (0 : Int32)), oR o2, oR o3, oR o4, oR c2] [(.int (own_beq x2 y))]))
  by_cases hc18_97 : (own_beq x2 y) = (0 : Int32)
  · refine bk (fun t k => XS.ifYes X96.here hx rfl (pc0 := 18) (pc' := 31) rfl (hb hby d21_18) rfl ((if0 _ _).trans (teq hc18_97).1) (by decide) (by decide) k) ?_
    refine bk (fun t k => XS.iloadN X96.here hx rfl (hb hby d21_31) rfl k) ?_
    refine bk (fun t k => XS.ifYes X96.here hx rfl (pc0 := 32) (pc' := 45) rfl (hb hby d21_32) rfl ((if0 _ _).trans (teq (by decide : (0 : Int32) = (0 : Int32))).1) (by decide) (by decide) k) ?_
    refine bk (fun t k => XS.aload X96.here hx rfl (hb hby d21_45) rfl rfl k) ?_
    show F (T96.setTop (mkF m 47 #[oR o0, .val (.int (0 : Int32)), oR o2, oR o3, oR o4, oR c2] [(.ref c2)]))
    obtain ⟨T98, X98, e98, st98⟩ := getF X96 hx hZ hown (host := "") (Or.inl w_173) Via.refl e96 f83 (g := (mkF m 47 #[oR o0, .val (.int (0 : Int32)), oR o2, oR o3, oR o4, oR c2] [(.ref c2)])) rfl rfl (hb hby d21_47)
    refine bk (fun t k => st98 t k) ?_
    show F (T98.setTop (mkF m 50 #[oR o0, .val (.int (0 : Int32)), oR o2, oR o3, oR o4, oR c2] [(.ref c3)]))
    refine bk (fun t k => XS.astore X98.here hx rfl (hb hby d21_50) rfl rfl (l' := #[oR o0, .val (.int (0 : Int32)), oR o2, oR o3, oR o4, oR c3]) rfl k) ?_
    refine bk (fun t k => XS.goto X98.here hx rfl (pc0 := 52) (pc' := 6) rfl (hb hby d21_52) (by decide) (by decide) k) ?_
    refine bk (fun t k => XS.aload X98.here hx rfl (hb hby d21_6) rfl rfl k) ?_
    show F (T98.setTop (mkF m 8 #[oR o0, .val (.int (0 : Int32)), oR o2, oR o3, oR o4, oR c3] [(.ref c3)]))
    refine bk (fun t k => XS.ifnullNo X98.here hx rfl (hb hby d21_8) rfl k) ?_
    refine bk (fun t k => XS.aload X98.here hx rfl (hb hby d21_11) rfl rfl k) ?_
    refine bk (fun t k => XS.aloadN X98.here hx rfl (hb hby d21_13) rfl rfl k) ?_
    refine bk (fun t k => XS.aloadN X98.here hx rfl (hb hby d21_14) rfl rfl k) ?_
    show F (T98.setTop (mkF m 15 #[oR o0, .val (.int (0 : Int32)), oR o2, oR o3, oR o4, oR c3] [(.ref o3), (.ref o2), (.ref c3)]))
    obtain ⟨cq99, kq99, q99a, q99b, q99c⟩ := isOf hZ e98 (f85)
    obtain ⟨_, _, ⟨T99, L99, k99, n99⟩, -, X99, ⟨Lc99, hQ99, l99, y99, z99⟩, st99⟩ := X98.virtualBack hx (y := oN10) (z := oN10) hown (mvT hZ w_183) (mvT hZ w_184) (notFace_of_selects (args := #[]) (mvT hZ w_186)) (mvT hZ w_186) (mvT hZ w_185) (by decide) (backOf (W := 0) (rm26 l Z a0 hw [] c3 o2 o3 s3 x3 y cs T75.heap n0 f93 f84 f88 f89 f90 hcs) hZ w_187 w_29 (by decide) (by decide)) q99a q99c (g := (mkF m 15 #[oR o0, .val (.int (0 : Int32)), oR o2, oR o3, oR o4, oR c3] [(.ref o3), (.ref o2), (.ref c3)])) rfl (by rw [hml]; rfl) (Steps.refl _) (argsL := [(.ref o2), (.ref o3)]) (rest := []) (lenOf pd21__Ljava_lang_String_Ljava_lang_String__Z rfl) rfl (by show 2 * 0 + _ ≤ _; exact Nat.le_of_eq rfl) (hb hby d21_15) (fun _ _ => ⟨rfl, e98, (by decide : 1 + 0 ≤ _), (by decide : 10 + 0 ≤ _)⟩)
    dsimp only [Pt.U, Pt.locs, Pt.cells, Pt.slots, oM26] at X99 l99 y99 z99 st99 hQ99
    subst l99 y99 z99
    obtain ⟨rfl, N99q, e99⟩ := hQ99
    have N99 := Fr.app N96 N99q
    refine bk (fun t k => st99.trans k) ?_
    show F (T99.setTop (mkF m 18 #[oR o0, .val (.int (0 : Int32)), oR o2, oR o3, oR o4, oR c3] [(.int (own_beq x3 y))]))
    by_cases hc18_100 : (own_beq x3 y) = (0 : Int32)
    · refine bk (fun t k => XS.ifYes X99.here hx rfl (pc0 := 18) (pc' := 31) rfl (hb hby d21_18) rfl ((if0 _ _).trans (teq hc18_100).1) (by decide) (by decide) k) ?_
      refine bk (fun t k => XS.iloadN X99.here hx rfl (hb hby d21_31) rfl k) ?_
      refine bk (fun t k => XS.ifYes X99.here hx rfl (pc0 := 32) (pc' := 45) rfl (hb hby d21_32) rfl ((if0 _ _).trans (teq (by decide : (0 : Int32) = (0 : Int32))).1) (by decide) (by decide) k) ?_
      refine bk (fun t k => XS.aload X99.here hx rfl (hb hby d21_45) rfl rfl k) ?_
      show F (T99.setTop (mkF m 47 #[oR o0, .val (.int (0 : Int32)), oR o2, oR o3, oR o4, oR c3] [(.ref c3)]))
      obtain ⟨T101, X101, e101, st101⟩ := getF X99 hx hZ hown (host := "") (Or.inl w_173) Via.refl e99 f86 (g := (mkF m 47 #[oR o0, .val (.int (0 : Int32)), oR o2, oR o3, oR o4, oR c3] [(.ref c3)])) rfl rfl (hb hby d21_47)
      refine bk (fun t k => st101 t k) ?_
      show F (T101.setTop (mkF m 50 #[oR o0, .val (.int (0 : Int32)), oR o2, oR o3, oR o4, oR c3] [.null]))
      refine bk (fun t k => XS.astore X101.here hx rfl (hb hby d21_50) rfl rfl (l' := #[oR o0, .val (.int (0 : Int32)), oR o2, oR o3, oR o4, .val .null]) rfl k) ?_
      refine bk (fun t k => XS.goto X101.here hx rfl (pc0 := 52) (pc' := 6) rfl (hb hby d21_52) (by decide) (by decide) k) ?_
      refine bk (fun t k => XS.aload X101.here hx rfl (hb hby d21_6) rfl rfl k) ?_
      show F (T101.setTop (mkF m 8 #[oR o0, .val (.int (0 : Int32)), oR o2, oR o3, oR o4, .val .null] [.null]))
      refine bk (fun t k => XS.ifnullYes X101.here hx rfl (pc0 := 8) (pc' := 55) rfl (hb hby d21_8) rfl (by decide) (by decide) k) ?_
      rw [hF]
      refine own_ret0 X101 hx Bd.notSynchronized Bd.returns (hb hby d21_55) (by decide) (by decide) ?_
      rw [e101]
      refine ⟨rfl, N99, f94, ?_⟩
      show own_AL Z T75.heap o4 w_de (own_pick (own_beq x3 y) c3 (own_pick (own_beq x2 y) c2 (own_pick (own_beq x1 y) c1 ([] : List Addr))))
      rw [own_pickT hc18_3, own_pickF hc18_97, own_pickF hc18_100]
      exact ⟨_, _, gE75, gS75, gD75, gV75⟩
    refine bk (fun t k => XS.ifNo X99.here hx rfl (hb hby d21_18) rfl ((if0 _ _).trans (feq hc18_100).1) k) ?_
    refine bk (fun t k => XS.aload X99.here hx rfl (hb hby d21_21) rfl rfl k) ?_
    refine bk (fun t k => XS.aload X99.here hx rfl (hb hby d21_23) rfl rfl k) ?_
    show F (T99.setTop (mkF m 25 #[oR o0, .val (.int (0 : Int32)), oR o2, oR o3, oR o4, oR c3] [(.ref c3), (.ref o4)]))
    obtain ⟨cq102, kq102, q102a, q102b, q102c⟩ := isOf hZ e99 (gE75)
    obtain ⟨_, _, ⟨T102, L102, k102, n102⟩, -, X102, ⟨Lc102, hQ102, l102, y102, z102⟩, st102⟩ := X99.interfaceBack hx (xi := oN32) (y := oN26) hown (mvT hZ w_189) (mvT hZ w_190) (mvT hZ w_191) (mvT hZ w_192) (mvT hZ w_193) (mvT hZ w_194) (mvT hZ w_195) (mvT hZ w_161) (by decide) (backOf (W := 0) (rm27_1 l Z a0 hw [] o4 c3 ((0 : Int32) + (1 : Int32)) r75 kd75 c1 T75.heap n0 f93 gE75 gM75 gS75 gD75 g_al G_r75 gV75 gO75 f85) hZ w_196 w_115 (by decide) (by decide)) q102a q102b q102c (g := (mkF m 25 #[oR o0, .val (.int (0 : Int32)), oR o2, oR o3, oR o4, oR c3] [(.ref c3), (.ref o4)])) rfl (by rw [hml]; rfl) (Steps.refl _) (argsL := [(.ref c3)]) (rest := []) (lenOf pd21__Ljava_lang_Object__Z rfl) rfl (by show 2 * 0 + _ ≤ _; exact Nat.le_of_eq rfl) (hb hby d21_25) (fun _ _ => ⟨rfl, e99, (by decide : 1 + 0 ≤ _), (by decide : 10 + 0 ≤ _)⟩)
    dsimp only [Pt.U, Pt.locs, Pt.cells, Pt.slots, oM27_1] at X102 l102 y102 z102 st102 hQ102
    subst l102 y102 z102
    obtain ⟨rfl, N102q, K102, ⟨gE102, gM102, gS102, gD102⟩, gV102⟩ := hQ102
    have N102 := Fr.app N99 N102q
    have f103 := f76.keep K102
    have f104 := f77.keep K102 (ninS (Exa.ne f76 gE75 (by decide)) (ninS (Exa.neArv f76 gV75 w_28) nin0))
    have f105 := f78.keep K102 (ninS (Exa.ne f79 gE75 (by decide)) (ninS (Exa.neArv f79 gV75 w_28) nin0)) (allS (own_nsE gE75 (by decide) w_114) (allS (own_nsV gV75 (by decide) w_11) all0))
    have f106 := f79.keep K102
    have f107 := f80.keep K102 (ninS (Exa.ne f79 gE75 (by decide)) (ninS (Exa.neArv f79 gV75 w_28) nin0))
    have f108 := f81.keep K102 (ninS (Exa.ne f82 gE75 (by decide)) (ninS (Exa.neArv f82 gV75 w_28) nin0)) (allS (own_nsE gE75 (by decide) w_114) (allS (own_nsV gV75 (by decide) w_11) all0))
    have f109 := f82.keep K102
    have f110 := f83.keep K102 (ninS (Exa.ne f82 gE75 (by decide)) (ninS (Exa.neArv f82 gV75 w_28) nin0))
    have f111 := f84.keep K102 (ninS (Exa.ne f85 gE75 (by decide)) (ninS (Exa.neArv f85 gV75 w_28) nin0)) (allS (own_nsE gE75 (by decide) w_114) (allS (own_nsV gV75 (by decide) w_11) all0))
    have f112 := f85.keep K102
    have f113 := f86.keep K102 (ninS (Exa.ne f85 gE75 (by decide)) (ninS (Exa.neArv f85 gV75 w_28) nin0))
    have f114 := gE75.keep K102
    have f115 := f88.keep K102 (allS (own_nsE gE75 (by decide) w_114) (allS (own_nsV gV75 (by decide) w_11) all0))
    have f116 := f89.keep K102 (allS (own_nsE gE75 (by decide) w_114) (allS (own_nsV gV75 (by decide) w_11) all0))
    have f117 := own_staK f90 K102 (allS (Exa.nostat gE75) (allS (Arv.nostat gV75) all0))
    have f118 := Nat.le_trans f93 K102.1
    have f119 := f94.trans K102 (allS (Or.inl (List.mem_of_getElem? (i := 0) rfl)) (allS (Or.inr sz_r75) all0))
    refine bk (fun t k => st102.trans k) ?_
    refine bk (fun t k => XS.pop X102.here hx rfl (hb hby d21_30) rfl rfl k) ?_
    refine bk (fun t k => XS.iloadN X102.here hx rfl (hb hby d21_31) rfl k) ?_
    show F (T102.setTop (mkF m 32 #[oR o0, .val (.int (0 : Int32)), oR o2, oR o3, oR o4, oR c3] [(.int (0 : Int32))]))
    refine bk (fun t k => XS.ifYes X102.here hx rfl (pc0 := 32) (pc' := 45) rfl (hb hby d21_32) rfl ((if0 _ _).trans (teq (by decide : (0 : Int32) = (0 : Int32))).1) (by decide) (by decide) k) ?_
    refine bk (fun t k => XS.aload X102.here hx rfl (hb hby d21_45) rfl rfl k) ?_
    obtain ⟨T120, X120, e120, st120⟩ := getF X102 hx hZ hown (host := "") (Or.inl w_173) Via.refl rfl f113 (g := (mkF m 47 #[oR o0, .val (.int (0 : Int32)), oR o2, oR o3, oR o4, oR c3] [(.ref c3)])) rfl rfl (hb hby d21_47)
    refine bk (fun t k => st120 t k) ?_
    show F (T120.setTop (mkF m 50 #[oR o0, .val (.int (0 : Int32)), oR o2, oR o3, oR o4, oR c3] [.null]))
    refine bk (fun t k => XS.astore X120.here hx rfl (hb hby d21_50) rfl rfl (l' := #[oR o0, .val (.int (0 : Int32)), oR o2, oR o3, oR o4, .val .null]) rfl k) ?_
    refine bk (fun t k => XS.goto X120.here hx rfl (pc0 := 52) (pc' := 6) rfl (hb hby d21_52) (by decide) (by decide) k) ?_
    refine bk (fun t k => XS.aload X120.here hx rfl (hb hby d21_6) rfl rfl k) ?_
    show F (T120.setTop (mkF m 8 #[oR o0, .val (.int (0 : Int32)), oR o2, oR o3, oR o4, .val .null] [.null]))
    refine bk (fun t k => XS.ifnullYes X120.here hx rfl (pc0 := 8) (pc' := 55) rfl (hb hby d21_8) rfl (by decide) (by decide) k) ?_
    rw [hF]
    refine own_ret0 X120 hx Bd.notSynchronized Bd.returns (hb hby d21_55) (by decide) (by decide) ?_
    rw [e120]
    refine ⟨rfl, N102, f119, ?_⟩
    show own_AL Z T102.heap o4 w_de (own_pick (own_beq x3 y) c3 (own_pick (own_beq x2 y) c2 (own_pick (own_beq x1 y) c1 ([] : List Addr))))
    rw [own_pickT hc18_3, own_pickF hc18_97, own_pickT hc18_100]
    exact ⟨_, _, gE102, gS102, gD102, gV102⟩
  refine bk (fun t k => XS.ifNo X96.here hx rfl (hb hby d21_18) rfl ((if0 _ _).trans (feq hc18_97).1) k) ?_
  refine bk (fun t k => XS.aload X96.here hx rfl (hb hby d21_21) rfl rfl k) ?_
  refine bk (fun t k => XS.aload X96.here hx rfl (hb hby d21_23) rfl rfl k) ?_
  show F (T96.setTop (mkF m 25 #[oR o0, .val (.int (0 : Int32)), oR o2, oR o3, oR o4, oR c2] [(.ref c2), (.ref o4)]))
  obtain ⟨cq121, kq121, q121a, q121b, q121c⟩ := isOf hZ e96 (gE75)
  obtain ⟨_, _, ⟨T121, L121, k121, n121⟩, -, X121, ⟨Lc121, hQ121, l121, y121, z121⟩, st121⟩ := X96.interfaceBack hx (xi := oN32) (y := oN26) hown (mvT hZ w_189) (mvT hZ w_190) (mvT hZ w_191) (mvT hZ w_192) (mvT hZ w_193) (mvT hZ w_194) (mvT hZ w_195) (mvT hZ w_161) (by decide) (backOf (W := 0) (rm27_1 l Z a0 hw [] o4 c2 ((0 : Int32) + (1 : Int32)) r75 kd75 c1 T75.heap n0 f93 gE75 gM75 gS75 gD75 g_al G_r75 gV75 gO75 f82) hZ w_196 w_115 (by decide) (by decide)) q121a q121b q121c (g := (mkF m 25 #[oR o0, .val (.int (0 : Int32)), oR o2, oR o3, oR o4, oR c2] [(.ref c2), (.ref o4)])) rfl (by rw [hml]; rfl) (Steps.refl _) (argsL := [(.ref c2)]) (rest := []) (lenOf pd21__Ljava_lang_Object__Z rfl) rfl (by show 2 * 0 + _ ≤ _; exact Nat.le_of_eq rfl) (hb hby d21_25) (fun _ _ => ⟨rfl, e96, (by decide : 1 + 0 ≤ _), (by decide : 10 + 0 ≤ _)⟩)
  dsimp only [Pt.U, Pt.locs, Pt.cells, Pt.slots, oM27_1] at X121 l121 y121 z121 st121 hQ121
  subst l121 y121 z121
  obtain ⟨rfl, N121q, K121, ⟨gE121, gM121, gS121, gD121⟩, gV121⟩ := hQ121
  have N121 := Fr.app N96 N121q
  have f122 := f76.keep K121
  have f123 := f77.keep K121 (ninS (Exa.ne f76 gE75 (by decide)) (ninS (Exa.neArv f76 gV75 w_28) nin0))
  have f124 := f78.keep K121 (ninS (Exa.ne f79 gE75 (by decide)) (ninS (Exa.neArv f79 gV75 w_28) nin0)) (allS (own_nsE gE75 (by decide) w_114) (allS (own_nsV gV75 (by decide) w_11) all0))
  have f125 := f79.keep K121
  have f126 := f80.keep K121 (ninS (Exa.ne f79 gE75 (by decide)) (ninS (Exa.neArv f79 gV75 w_28) nin0))
  have f127 := f81.keep K121 (ninS (Exa.ne f82 gE75 (by decide)) (ninS (Exa.neArv f82 gV75 w_28) nin0)) (allS (own_nsE gE75 (by decide) w_114) (allS (own_nsV gV75 (by decide) w_11) all0))
  have f128 := f82.keep K121
  have f129 := f83.keep K121 (ninS (Exa.ne f82 gE75 (by decide)) (ninS (Exa.neArv f82 gV75 w_28) nin0))
  have f130 := f84.keep K121 (ninS (Exa.ne f85 gE75 (by decide)) (ninS (Exa.neArv f85 gV75 w_28) nin0)) (allS (own_nsE gE75 (by decide) w_114) (allS (own_nsV gV75 (by decide) w_11) all0))
  have f131 := f85.keep K121
  have f132 := f86.keep K121 (ninS (Exa.ne f85 gE75 (by decide)) (ninS (Exa.neArv f85 gV75 w_28) nin0))
  have f133 := gE75.keep K121
  have f134 := f88.keep K121 (allS (own_nsE gE75 (by decide) w_114) (allS (own_nsV gV75 (by decide) w_11) all0))
  have f135 := f89.keep K121 (allS (own_nsE gE75 (by decide) w_114) (allS (own_nsV gV75 (by decide) w_11) all0))
  have f136 := own_staK f90 K121 (allS (Exa.nostat gE75) (allS (Arv.nostat gV75) all0))
  have f137 := Nat.le_trans f93 K121.1
  have f138 := f94.trans K121 (allS (Or.inl (List.mem_of_getElem? (i := 0) rfl)) (allS (Or.inr sz_r75) all0))
  refine bk (fun t k => st121.trans k) ?_
  refine bk (fun t k => XS.pop X121.here hx rfl (hb hby d21_30) rfl rfl k) ?_
  refine bk (fun t k => XS.iloadN X121.here hx rfl (hb hby d21_31) rfl k) ?_
  show F (T121.setTop (mkF m 32 #[oR o0, .val (.int (0 : Int32)), oR o2, oR o3, oR o4, oR c2] [(.int (0 : Int32))]))
  refine bk (fun t k => XS.ifYes X121.here hx rfl (pc0 := 32) (pc' := 45) rfl (hb hby d21_32) rfl ((if0 _ _).trans (teq (by decide : (0 : Int32) = (0 : Int32))).1) (by decide) (by decide) k) ?_
  refine bk (fun t k => XS.aload X121.here hx rfl (hb hby d21_45) rfl rfl k) ?_
  obtain ⟨T139, X139, e139, st139⟩ := getF X121 hx hZ hown (host := "") (Or.inl w_173) Via.refl rfl f129 (g := (mkF m 47 #[oR o0, .val (.int (0 : Int32)), oR o2, oR o3, oR o4, oR c2] [(.ref c2)])) rfl rfl (hb hby d21_47)
  refine bk (fun t k => st139 t k) ?_
  show F (T139.setTop (mkF m 50 #[oR o0, .val (.int (0 : Int32)), oR o2, oR o3, oR o4, oR c2] [(.ref c3)]))
  refine bk (fun t k => XS.astore X139.here hx rfl (hb hby d21_50) rfl rfl (l' := #[oR o0, .val (.int (0 : Int32)), oR o2, oR o3, oR o4, oR c3]) rfl k) ?_
  refine bk (fun t k => XS.goto X139.here hx rfl (pc0 := 52) (pc' := 6) rfl (hb hby d21_52) (by decide) (by decide) k) ?_
  refine bk (fun t k => XS.aload X139.here hx rfl (hb hby d21_6) rfl rfl k) ?_
  show F (T139.setTop (mkF m 8 #[oR o0, .val (.int (0 : Int32)), oR o2, oR o3, oR o4, oR c3] [(.ref c3)]))
  refine bk (fun t k => XS.ifnullNo X139.here hx rfl (hb hby d21_8) rfl k) ?_
  refine bk (fun t k => XS.aload X139.here hx rfl (hb hby d21_11) rfl rfl k) ?_
  refine bk (fun t k => XS.aloadN X139.here hx rfl (hb hby d21_13) rfl rfl k) ?_
  refine bk (fun t k => XS.aloadN X139.here hx rfl (hb hby d21_14) rfl rfl k) ?_
  show F (T139.setTop (mkF m 15 #[oR o0, .val (.int (0 : Int32)), oR o2, oR o3, oR o4, oR c3] [(.ref o3), (.ref o2), (.ref c3)]))
  obtain ⟨cq140, kq140, q140a, q140b, q140c⟩ := isOf hZ e139 (f131)
  obtain ⟨_, _, ⟨T140, L140, k140, n140⟩, -, X140, ⟨Lc140, hQ140, l140, y140, z140⟩, st140⟩ := X139.virtualBack hx (y := oN10) (z := oN10) hown (mvT hZ w_183) (mvT hZ w_184) (notFace_of_selects (args := #[]) (mvT hZ w_186)) (mvT hZ w_186) (mvT hZ w_185) (by decide) (backOf (W := 0) (rm26 l Z a0 hw [] c3 o2 o3 s3 x3 y cs T121.heap n0 f137 f130 f134 f135 f136 hcs) hZ w_187 w_29 (by decide) (by decide)) q140a q140c (g := (mkF m 15 #[oR o0, .val (.int (0 : Int32)), oR o2, oR o3, oR o4, oR c3] [(.ref o3), (.ref o2), (.ref c3)])) rfl (by rw [hml]; rfl) (Steps.refl _) (argsL := [(.ref o2), (.ref o3)]) (rest := []) (lenOf pd21__Ljava_lang_String_Ljava_lang_String__Z rfl) rfl (by show 2 * 0 + _ ≤ _; exact Nat.le_of_eq rfl) (hb hby d21_15) (fun _ _ => ⟨rfl, e139, (by decide : 1 + 0 ≤ _), (by decide : 10 + 0 ≤ _)⟩)
  dsimp only [Pt.U, Pt.locs, Pt.cells, Pt.slots, oM26] at X140 l140 y140 z140 st140 hQ140
  subst l140 y140 z140
  obtain ⟨rfl, N140q, e140⟩ := hQ140
  have N140 := Fr.app N121 N140q
  refine bk (fun t k => st140.trans k) ?_
  show F (T140.setTop (mkF m 18 #[oR o0, .val (.int (0 : Int32)), oR o2, oR o3, oR o4, oR c3] [(.int (own_beq x3 y))]))
  by_cases hc18_141 : (own_beq x3 y) = (0 : Int32)
  · refine bk (fun t k => XS.ifYes X140.here hx rfl (pc0 := 18) (pc' := 31) rfl (hb hby d21_18) rfl ((if0 _ _).trans (teq hc18_141).1) (by decide) (by decide) k) ?_
    refine bk (fun t k => XS.iloadN X140.here hx rfl (hb hby d21_31) rfl k) ?_
    refine bk (fun t k => XS.ifYes X140.here hx rfl (pc0 := 32) (pc' := 45) rfl (hb hby d21_32) rfl ((if0 _ _).trans (teq (by decide : (0 : Int32) = (0 : Int32))).1) (by decide) (by decide) k) ?_
    refine bk (fun t k => XS.aload X140.here hx rfl (hb hby d21_45) rfl rfl k) ?_
    show F (T140.setTop (mkF m 47 #[oR o0, .val (.int (0 : Int32)), oR o2, oR o3, oR o4, oR c3] [(.ref c3)]))
    obtain ⟨T142, X142, e142, st142⟩ := getF X140 hx hZ hown (host := "") (Or.inl w_173) Via.refl e140 f132 (g := (mkF m 47 #[oR o0, .val (.int (0 : Int32)), oR o2, oR o3, oR o4, oR c3] [(.ref c3)])) rfl rfl (hb hby d21_47)
    refine bk (fun t k => st142 t k) ?_
    show F (T142.setTop (mkF m 50 #[oR o0, .val (.int (0 : Int32)), oR o2, oR o3, oR o4, oR c3] [.null]))
    refine bk (fun t k => XS.astore X142.here hx rfl (hb hby d21_50) rfl rfl (l' := #[oR o0, .val (.int (0 : Int32)), oR o2, oR o3, oR o4, .val .null]) rfl k) ?_
    refine bk (fun t k => XS.goto X142.here hx rfl (pc0 := 52) (pc' := 6) rfl (hb hby d21_52) (by decide) (by decide) k) ?_
    refine bk (fun t k => XS.aload X142.here hx rfl (hb hby d21_6) rfl rfl k) ?_
    show F (T142.setTop (mkF m 8 #[oR o0, .val (.int (0 : Int32)), oR o2, oR o3, oR o4, .val .null] [.null]))
    refine bk (fun t k => XS.ifnullYes X142.here hx rfl (pc0 := 8) (pc' := 55) rfl (hb hby d21_8) rfl (by decide) (by decide) k) ?_
    rw [hF]
    refine own_ret0 X142 hx Bd.notSynchronized Bd.returns (hb hby d21_55) (by decide) (by decide) ?_
    rw [e142]
    refine ⟨rfl, N140, f138, ?_⟩
    show own_AL Z T121.heap o4 w_de (own_pick (own_beq x3 y) c3 (own_pick (own_beq x2 y) c2 (own_pick (own_beq x1 y) c1 ([] : List Addr))))
    rw [own_pickT hc18_3, own_pickT hc18_97, own_pickF hc18_141]
    exact ⟨_, _, gE121, gS121, gD121, gV121⟩
  refine bk (fun t k => XS.ifNo X140.here hx rfl (hb hby d21_18) rfl ((if0 _ _).trans (feq hc18_141).1) k) ?_
  refine bk (fun t k => XS.aload X140.here hx rfl (hb hby d21_21) rfl rfl k) ?_
  refine bk (fun t k => XS.aload X140.here hx rfl (hb hby d21_23) rfl rfl k) ?_
  show F (T140.setTop (mkF m 25 #[oR o0, .val (.int (0 : Int32)), oR o2, oR o3, oR o4, oR c3] [(.ref c3), (.ref o4)]))
  obtain ⟨cq143, kq143, q143a, q143b, q143c⟩ := isOf hZ e140 (gE121)
  obtain ⟨_, _, ⟨T143, L143, k143, n143⟩, -, X143, ⟨Lc143, hQ143, l143, y143, z143⟩, st143⟩ := X140.interfaceBack hx (xi := oN32) (y := oN26) hown (mvT hZ w_189) (mvT hZ w_190) (mvT hZ w_191) (mvT hZ w_192) (mvT hZ w_193) (mvT hZ w_194) (mvT hZ w_195) (mvT hZ w_161) (by decide) (backOf (W := 0) (rm27_2 l Z a0 hw [] o4 c3 (((0 : Int32) + (1 : Int32)) + (1 : Int32)) r75 kd75 c1 c2 T121.heap n0 f137 gE121 gM121 gS121 gD121 g_al G_r75 gV121 gO75 f131) hZ w_196 w_115 (by decide) (by decide)) q143a q143b q143c (g := (mkF m 25 #[oR o0, .val (.int (0 : Int32)), oR o2, oR o3, oR o4, oR c3] [(.ref c3), (.ref o4)])) rfl (by rw [hml]; rfl) (Steps.refl _) (argsL := [(.ref c3)]) (rest := []) (lenOf pd21__Ljava_lang_Object__Z rfl) rfl (by show 2 * 0 + _ ≤ _; exact Nat.le_of_eq rfl) (hb hby d21_25) (fun _ _ => ⟨rfl, e140, (by decide : 1 + 0 ≤ _), (by decide : 10 + 0 ≤ _)⟩)
  dsimp only [Pt.U, Pt.locs, Pt.cells, Pt.slots, oM27_2] at X143 l143 y143 z143 st143 hQ143
  subst l143 y143 z143
  obtain ⟨rfl, N143q, K143, ⟨gE143, gM143, gS143, gD143⟩, gV143⟩ := hQ143
  have N143 := Fr.app N140 N143q
  have f144 := f122.keep K143
  have f145 := f123.keep K143 (ninS (Exa.ne f122 gE121 (by decide)) (ninS (Exa.neArv f122 gV121 w_28) nin0))
  have f146 := f124.keep K143 (ninS (Exa.ne f125 gE121 (by decide)) (ninS (Exa.neArv f125 gV121 w_28) nin0)) (allS (own_nsE gE121 (by decide) w_114) (allS (own_nsV gV121 (by decide) w_11) all0))
  have f147 := f125.keep K143
  have f148 := f126.keep K143 (ninS (Exa.ne f125 gE121 (by decide)) (ninS (Exa.neArv f125 gV121 w_28) nin0))
  have f149 := f127.keep K143 (ninS (Exa.ne f128 gE121 (by decide)) (ninS (Exa.neArv f128 gV121 w_28) nin0)) (allS (own_nsE gE121 (by decide) w_114) (allS (own_nsV gV121 (by decide) w_11) all0))
  have f150 := f128.keep K143
  have f151 := f129.keep K143 (ninS (Exa.ne f128 gE121 (by decide)) (ninS (Exa.neArv f128 gV121 w_28) nin0))
  have f152 := f130.keep K143 (ninS (Exa.ne f131 gE121 (by decide)) (ninS (Exa.neArv f131 gV121 w_28) nin0)) (allS (own_nsE gE121 (by decide) w_114) (allS (own_nsV gV121 (by decide) w_11) all0))
  have f153 := f131.keep K143
  have f154 := f132.keep K143 (ninS (Exa.ne f131 gE121 (by decide)) (ninS (Exa.neArv f131 gV121 w_28) nin0))
  have f155 := gE121.keep K143
  have f156 := f134.keep K143 (allS (own_nsE gE121 (by decide) w_114) (allS (own_nsV gV121 (by decide) w_11) all0))
  have f157 := f135.keep K143 (allS (own_nsE gE121 (by decide) w_114) (allS (own_nsV gV121 (by decide) w_11) all0))
  have f158 := own_staK f136 K143 (allS (Exa.nostat gE121) (allS (Arv.nostat gV121) all0))
  have f159 := Nat.le_trans f137 K143.1
  have f160 := f138.trans K143 (allS (Or.inl (List.mem_of_getElem? (i := 0) rfl)) (allS (Or.inr sz_r75) all0))
  refine bk (fun t k => st143.trans k) ?_
  refine bk (fun t k => XS.pop X143.here hx rfl (hb hby d21_30) rfl rfl k) ?_
  refine bk (fun t k => XS.iloadN X143.here hx rfl (hb hby d21_31) rfl k) ?_
  show F (T143.setTop (mkF m 32 #[oR o0, .val (.int (0 : Int32)), oR o2, oR o3, oR o4, oR c3] [(.int (0 : Int32))]))
  refine bk (fun t k => XS.ifYes X143.here hx rfl (pc0 := 32) (pc' := 45) rfl (hb hby d21_32) rfl ((if0 _ _).trans (teq (by decide : (0 : Int32) = (0 : Int32))).1) (by decide) (by decide) k) ?_
  refine bk (fun t k => XS.aload X143.here hx rfl (hb hby d21_45) rfl rfl k) ?_
  obtain ⟨T161, X161, e161, st161⟩ := getF X143 hx hZ hown (host := "") (Or.inl w_173) Via.refl rfl f154 (g := (mkF m 47 #[oR o0, .val (.int (0 : Int32)), oR o2, oR o3, oR o4, oR c3] [(.ref c3)])) rfl rfl (hb hby d21_47)
  refine bk (fun t k => st161 t k) ?_
  show F (T161.setTop (mkF m 50 #[oR o0, .val (.int (0 : Int32)), oR o2, oR o3, oR o4, oR c3] [.null]))
  refine bk (fun t k => XS.astore X161.here hx rfl (hb hby d21_50) rfl rfl (l' := #[oR o0, .val (.int (0 : Int32)), oR o2, oR o3, oR o4, .val .null]) rfl k) ?_
  refine bk (fun t k => XS.goto X161.here hx rfl (pc0 := 52) (pc' := 6) rfl (hb hby d21_52) (by decide) (by decide) k) ?_
  refine bk (fun t k => XS.aload X161.here hx rfl (hb hby d21_6) rfl rfl k) ?_
  show F (T161.setTop (mkF m 8 #[oR o0, .val (.int (0 : Int32)), oR o2, oR o3, oR o4, .val .null] [.null]))
  refine bk (fun t k => XS.ifnullYes X161.here hx rfl (pc0 := 8) (pc' := 55) rfl (hb hby d21_8) rfl (by decide) (by decide) k) ?_
  rw [hF]
  refine own_ret0 X161 hx Bd.notSynchronized Bd.returns (hb hby d21_55) (by decide) (by decide) ?_
  rw [e161]
  refine ⟨rfl, N143, f160, ?_⟩
  show own_AL Z T143.heap o4 w_de (own_pick (own_beq x3 y) c3 (own_pick (own_beq x2 y) c2 (own_pick (own_beq x1 y) c1 ([] : List Addr))))
  rw [own_pickT hc18_3, own_pickT hc18_97, own_pickT hc18_141]
  exact ⟨_, _, gE143, gS143, gD143, gV143⟩
abbrev oM21_2 : Room := { frames := 5, cells := 1, slots := 10, locals := 69 }
def Q21_2 (Z : State) (o0 : Addr) (o2 : Addr) (o3 : Addr) (o4 : Addr) (c1 : Addr) (s1 : Addr) (x1 : Int32) (c2 : Addr) (s2 : Addr) (x2 : Int32) (y : Int32) (cs : Int32) (w_de : Addr) (k_de : ClassId) (h0 : Heap) (n0 : Nat) (v : Option Value) (h : Heap) (L : List Loc) : Prop := v = none ∧ Fr n0 L ∧ Keep h0 h [o4] ∧ own_AL Z h o4 w_de (own_sel y [(c1, s1, x1), (c2, s2, x2)] [])
set_option maxRecDepth 65536 in
set_option maxHeartbeats 40000000 in
theorem rm21_2 (l : Launch) (Z : State) (a0 : Array Value) (hw : ∀ d ∈ tables_1, d.before a0 Z = true) (ws : List Jvm.Cond) (o0 : Addr) (o2 : Addr) (o3 : Addr) (o4 : Addr) (c1 : Addr) (s1 : Addr) (x1 : Int32) (c2 : Addr) (s2 : Addr) (x2 : Int32) (y : Int32) (cs : Int32) (w_de : Addr) (k_de : ClassId) (h0 : Heap) (n0 : Nat) (Z0 : n0 ≤ h0.size) (hKd : own_Kids Z h0 o0 [(c1, s1, x1), (c2, s2, x2)]) (hns : own_St Z h0 o2 (0 : Int32) []) (hq : own_St Z h0 o3 (1 : Int32) [(.int y)]) (E_al : Exa Z h0 o4 "java/util/ArrayList") (F_modCount : Fld Z h0 o4 "java/util/AbstractList" "modCount" "I" (.int (0 : Int32))) (F_size : Fld Z h0 o4 "java/util/ArrayList" "size" "I" (.int (0 : Int32))) (F_elementData : Fld Z h0 o4 "java/util/ArrayList" "elementData" "[Ljava/lang/Object;" (.ref w_de)) (g_al : n0 ≤ o4) (S_cs : Sta Z h0 "java/lang/String" "COMPACT_STRINGS" "Z" (.int cs)) (hcs : ¬ cs = (0 : Int32)) (S_de : Sta Z h0 "java/util/ArrayList" "DEFAULTCAPACITY_EMPTY_ELEMENTDATA" "[Ljava/lang/Object;" (.ref w_de)) (V_de : Arv Z h0 w_de k_de (.object "java/lang/Object") (0 : Int32) [] .null) :
    MetFree l oN31 (head1 (Jvm.Cond.code oN31 prog_45_method_25_code 6 none :: ws) oM21_2) (fun a U => a = #[(.ref o0), (.int (0 : Int32)), (.ref o2), (.ref o3), (.ref o4)] ∧ Z.Warmed39 U.vm ∧ U.heap = h0) (fun _ _ _ _ _ => True) (fun _ U o U' => ∃ v L, o = .returned v ∧ Q21_2 Z o0 o2 o3 o4 c1 s1 x1 c2 s2 x2 y cs w_de k_de h0 n0 v U'.heap L ∧ FrameEnd U o U' L oM21_2.cells oM21_2.slots) := by
  refine MetFree.of_bodySF (plainFor_of_name pn_21) hisR ?_
  intro p e s m args below meth c s₁ Bd hml0 hP hK
  obtain ⟨rfl, hZ, hh⟩ := hP
  have hx := Bd.exec
  have hby := Bd.bytes
  have hml : c.maxLocals = 6 := hml0
  have hown : s.vm.findClass "com/example/quire/quire/readers/Element" = some m.cls := findClass_of_methodNamed Bd.named
  have hnm := (name_of_methodNamed Bd.named Bd.method).1
  have X0 : Stand p l e oM21_2 s m #[(.ref o0), (.int (0 : Int32)), (.ref o2), (.ref o3), (.ref o4)] below meth c s₁ [] 0 0 := Stand.of_body Bd
  have e0 : s₁.heap = h0 := by rw [← hh, Bd.state]; rfl
  have N0 := Fr.nil n0
  obtain ⟨F, hF⟩ : ∃ F : State → Prop, F = own_Fin p e below s oM21_2.cells oM21_2.slots (fun v h L => Q21_2 Z o0 o2 o3 o4 c1 s1 x1 c2 s2 x2 y cs w_de k_de h0 n0 v h L) := ⟨_, rfl⟩
  have bk : ∀ {A B : State}, (∀ t, Steps p.tables e below B t → Steps p.tables e below A t) → F B → F A := by
    intro A B h k
    rw [hF] at k ⊢
    exact own_back h k
  suffices hgo : F (s₁.setTop (mkF m 0 #[.val (.ref o0), .val (.int (0 : Int32)), .val (.ref o2), .val (.ref o3), .val (.ref o4), .unset] [])) by
    have hgo' := bk (fun t k => castTop (T := s₁) (ef_21 m o0 (0 : Int32) o2 o3 o4) k) hgo
    rw [hF] at hgo'
    exact hgo'
  have vK := hKd
  obtain ⟨E_o0, v0, F_fc, R0⟩ := vK
  obtain ⟨rfl, hCh1, v1, F_nx1, R1⟩ := R0
  obtain ⟨rfl, hCh2, v2, F_nx2, R2⟩ := R1
  have hv2 : v2 = .null := R2
  subst hv2
  have w_11 := hw _ (List.mem_of_getElem? (i := 11) rfl)
  have w_28 := hw _ (List.mem_of_getElem? (i := 28) rfl)
  have w_29 := hw _ (List.mem_of_getElem? (i := 29) rfl)
  have w_114 := hw _ (List.mem_of_getElem? (i := 114) rfl)
  have w_115 := hw _ (List.mem_of_getElem? (i := 115) rfl)
  have w_154 := hw _ (List.mem_of_getElem? (i := 154) rfl)
  have w_161 := hw _ (List.mem_of_getElem? (i := 161) rfl)
  have w_173 := hw _ (List.mem_of_getElem? (i := 173) rfl)
  have w_183 := hw _ (List.mem_of_getElem? (i := 183) rfl)
  have w_184 := hw _ (List.mem_of_getElem? (i := 184) rfl)
  have w_185 := hw _ (List.mem_of_getElem? (i := 185) rfl)
  have w_186 := hw _ (List.mem_of_getElem? (i := 186) rfl)
  have w_187 := hw _ (List.mem_of_getElem? (i := 187) rfl)
  have w_189 := hw _ (List.mem_of_getElem? (i := 189) rfl)
  have w_190 := hw _ (List.mem_of_getElem? (i := 190) rfl)
  have w_191 := hw _ (List.mem_of_getElem? (i := 191) rfl)
  have w_192 := hw _ (List.mem_of_getElem? (i := 192) rfl)
  have w_193 := hw _ (List.mem_of_getElem? (i := 193) rfl)
  have w_194 := hw _ (List.mem_of_getElem? (i := 194) rfl)
  have w_195 := hw _ (List.mem_of_getElem? (i := 195) rfl)
  have w_196 := hw _ (List.mem_of_getElem? (i := 196) rfl)
  refine bk (fun t k => XS.aloadN X0.here hx rfl (hb hby d21_0) rfl rfl k) ?_
  obtain ⟨T1, X1, e1, st1⟩ := getF X0 hx hZ hown (host := "") (Or.inl w_154) Via.refl e0 F_fc (g := (mkF m 1 #[oR o0, .val (.int (0 : Int32)), oR o2, oR o3, oR o4, .unset] [(.ref o0)])) rfl rfl (hb hby d21_1)
  refine bk (fun t k => st1 t k) ?_
  show F (T1.setTop (mkF m 4 #[oR o0, .val (.int (0 : Int32)), oR o2, oR o3, oR o4, .unset] [(.ref c1)]))
  refine bk (fun t k => XS.astore X1.here hx rfl (hb hby d21_4) rfl rfl (l' := #[oR o0, .val (.int (0 : Int32)), oR o2, oR o3, oR o4, oR c1]) rfl k) ?_
  refine bk (fun t k => XS.aload X1.here hx rfl (hb hby d21_6) rfl rfl k) ?_
  refine bk (fun t k => XS.ifnullNo X1.here hx rfl (hb hby d21_8) rfl k) ?_
  refine bk (fun t k => XS.aload X1.here hx rfl (hb hby d21_11) rfl rfl k) ?_
  refine bk (fun t k => XS.aloadN X1.here hx rfl (hb hby d21_13) rfl rfl k) ?_
  show F (T1.setTop (mkF m 14 #[oR o0, .val (.int (0 : Int32)), oR o2, oR o3, oR o4, oR c1] [(.ref o2), (.ref c1)]))
  refine bk (fun t k => XS.aloadN X1.here hx rfl (hb hby d21_14) rfl rfl k) ?_
  obtain ⟨cq2, kq2, q2a, q2b, q2c⟩ := isOf hZ e1 (hCh1.1)
  obtain ⟨_, _, ⟨T2, L2, k2, n2⟩, -, X2, ⟨Lc2, hQ2, l2, y2, z2⟩, st2⟩ := X1.virtualBack hx (y := oN10) (z := oN10) hown (mvT hZ w_183) (mvT hZ w_184) (notFace_of_selects (args := #[]) (mvT hZ w_186)) (mvT hZ w_186) (mvT hZ w_185) (by decide) (backOf (W := 0) (rm26 l Z a0 hw [] c1 o2 o3 s1 x1 y cs h0 n0 Z0 hCh1 hns hq S_cs hcs) hZ w_187 w_29 (by decide) (by decide)) q2a q2c (g := (mkF m 15 #[oR o0, .val (.int (0 : Int32)), oR o2, oR o3, oR o4, oR c1] [(.ref o3), (.ref o2), (.ref c1)])) rfl (by rw [hml]; rfl) (Steps.refl _) (argsL := [(.ref o2), (.ref o3)]) (rest := []) (lenOf pd21__Ljava_lang_String_Ljava_lang_String__Z rfl) rfl (by show 2 * 0 + _ ≤ _; exact Nat.le_of_eq rfl) (hb hby d21_15) (fun _ _ => ⟨rfl, e1, (by decide : 0 + 0 ≤ _), (by decide : 0 + 0 ≤ _)⟩)
  dsimp only [Pt.U, Pt.locs, Pt.cells, Pt.slots, oM26] at X2 l2 y2 z2 st2 hQ2
  subst l2 y2 z2
  obtain ⟨rfl, N2q, e2⟩ := hQ2
  have N2 := Fr.app N0 N2q
  refine bk (fun t k => st2.trans k) ?_
  show F (T2.setTop (mkF m 18 #[oR o0, .val (.int (0 : Int32)), oR o2, oR o3, oR o4, oR c1] [(.int (own_beq x1 y))]))
  by_cases hc18_3 : (own_beq x1 y) = (0 : Int32)
  · refine bk (fun t k => XS.ifYes X2.here hx rfl (pc0 := 18) (pc' := 31) rfl (hb hby d21_18) rfl ((if0 _ _).trans (teq hc18_3).1) (by decide) (by decide) k) ?_
    refine bk (fun t k => XS.iloadN X2.here hx rfl (hb hby d21_31) rfl k) ?_
    refine bk (fun t k => XS.ifYes X2.here hx rfl (pc0 := 32) (pc' := 45) rfl (hb hby d21_32) rfl ((if0 _ _).trans (teq (by decide : (0 : Int32) = (0 : Int32))).1) (by decide) (by decide) k) ?_
    refine bk (fun t k => XS.aload X2.here hx rfl (hb hby d21_45) rfl rfl k) ?_
    show F (T2.setTop (mkF m 47 #[oR o0, .val (.int (0 : Int32)), oR o2, oR o3, oR o4, oR c1] [(.ref c1)]))
    obtain ⟨T4, X4, e4, st4⟩ := getF X2 hx hZ hown (host := "") (Or.inl w_173) Via.refl e2 F_nx1 (g := (mkF m 47 #[oR o0, .val (.int (0 : Int32)), oR o2, oR o3, oR o4, oR c1] [(.ref c1)])) rfl rfl (hb hby d21_47)
    refine bk (fun t k => st4 t k) ?_
    show F (T4.setTop (mkF m 50 #[oR o0, .val (.int (0 : Int32)), oR o2, oR o3, oR o4, oR c1] [(.ref c2)]))
    refine bk (fun t k => XS.astore X4.here hx rfl (hb hby d21_50) rfl rfl (l' := #[oR o0, .val (.int (0 : Int32)), oR o2, oR o3, oR o4, oR c2]) rfl k) ?_
    refine bk (fun t k => XS.goto X4.here hx rfl (pc0 := 52) (pc' := 6) rfl (hb hby d21_52) (by decide) (by decide) k) ?_
    refine bk (fun t k => XS.aload X4.here hx rfl (hb hby d21_6) rfl rfl k) ?_
    show F (T4.setTop (mkF m 8 #[oR o0, .val (.int (0 : Int32)), oR o2, oR o3, oR o4, oR c2] [(.ref c2)]))
    refine bk (fun t k => XS.ifnullNo X4.here hx rfl (hb hby d21_8) rfl k) ?_
    refine bk (fun t k => XS.aload X4.here hx rfl (hb hby d21_11) rfl rfl k) ?_
    refine bk (fun t k => XS.aloadN X4.here hx rfl (hb hby d21_13) rfl rfl k) ?_
    refine bk (fun t k => XS.aloadN X4.here hx rfl (hb hby d21_14) rfl rfl k) ?_
    show F (T4.setTop (mkF m 15 #[oR o0, .val (.int (0 : Int32)), oR o2, oR o3, oR o4, oR c2] [(.ref o3), (.ref o2), (.ref c2)]))
    obtain ⟨cq5, kq5, q5a, q5b, q5c⟩ := isOf hZ e4 (hCh2.1)
    obtain ⟨_, _, ⟨T5, L5, k5, n5⟩, -, X5, ⟨Lc5, hQ5, l5, y5, z5⟩, st5⟩ := X4.virtualBack hx (y := oN10) (z := oN10) hown (mvT hZ w_183) (mvT hZ w_184) (notFace_of_selects (args := #[]) (mvT hZ w_186)) (mvT hZ w_186) (mvT hZ w_185) (by decide) (backOf (W := 0) (rm26 l Z a0 hw [] c2 o2 o3 s2 x2 y cs h0 n0 Z0 hCh2 hns hq S_cs hcs) hZ w_187 w_29 (by decide) (by decide)) q5a q5c (g := (mkF m 15 #[oR o0, .val (.int (0 : Int32)), oR o2, oR o3, oR o4, oR c2] [(.ref o3), (.ref o2), (.ref c2)])) rfl (by rw [hml]; rfl) (Steps.refl _) (argsL := [(.ref o2), (.ref o3)]) (rest := []) (lenOf pd21__Ljava_lang_String_Ljava_lang_String__Z rfl) rfl (by show 2 * 0 + _ ≤ _; exact Nat.le_of_eq rfl) (hb hby d21_15) (fun _ _ => ⟨rfl, e4, (by decide : 0 + 0 ≤ _), (by decide : 0 + 0 ≤ _)⟩)
    dsimp only [Pt.U, Pt.locs, Pt.cells, Pt.slots, oM26] at X5 l5 y5 z5 st5 hQ5
    subst l5 y5 z5
    obtain ⟨rfl, N5q, e5⟩ := hQ5
    have N5 := Fr.app N2 N5q
    refine bk (fun t k => st5.trans k) ?_
    show F (T5.setTop (mkF m 18 #[oR o0, .val (.int (0 : Int32)), oR o2, oR o3, oR o4, oR c2] [(.int (own_beq x2 y))]))
    by_cases hc18_6 : (own_beq x2 y) = (0 : Int32)
    · refine bk (fun t k => XS.ifYes X5.here hx rfl (pc0 := 18) (pc' := 31) rfl (hb hby d21_18) rfl ((if0 _ _).trans (teq hc18_6).1) (by decide) (by decide) k) ?_
      refine bk (fun t k => XS.iloadN X5.here hx rfl (hb hby d21_31) rfl k) ?_
      refine bk (fun t k => XS.ifYes X5.here hx rfl (pc0 := 32) (pc' := 45) rfl (hb hby d21_32) rfl ((if0 _ _).trans (teq (by decide : (0 : Int32) = (0 : Int32))).1) (by decide) (by decide) k) ?_
      refine bk (fun t k => XS.aload X5.here hx rfl (hb hby d21_45) rfl rfl k) ?_
      show F (T5.setTop (mkF m 47 #[oR o0, .val (.int (0 : Int32)), oR o2, oR o3, oR o4, oR c2] [(.ref c2)]))
      obtain ⟨T7, X7, e7, st7⟩ := getF X5 hx hZ hown (host := "") (Or.inl w_173) Via.refl e5 F_nx2 (g := (mkF m 47 #[oR o0, .val (.int (0 : Int32)), oR o2, oR o3, oR o4, oR c2] [(.ref c2)])) rfl rfl (hb hby d21_47)
      refine bk (fun t k => st7 t k) ?_
      show F (T7.setTop (mkF m 50 #[oR o0, .val (.int (0 : Int32)), oR o2, oR o3, oR o4, oR c2] [.null]))
      refine bk (fun t k => XS.astore X7.here hx rfl (hb hby d21_50) rfl rfl (l' := #[oR o0, .val (.int (0 : Int32)), oR o2, oR o3, oR o4, .val .null]) rfl k) ?_
      refine bk (fun t k => XS.goto X7.here hx rfl (pc0 := 52) (pc' := 6) rfl (hb hby d21_52) (by decide) (by decide) k) ?_
      refine bk (fun t k => XS.aload X7.here hx rfl (hb hby d21_6) rfl rfl k) ?_
      show F (T7.setTop (mkF m 8 #[oR o0, .val (.int (0 : Int32)), oR o2, oR o3, oR o4, .val .null] [.null]))
      refine bk (fun t k => XS.ifnullYes X7.here hx rfl (pc0 := 8) (pc' := 55) rfl (hb hby d21_8) rfl (by decide) (by decide) k) ?_
      rw [hF]
      refine own_ret0 X7 hx Bd.notSynchronized Bd.returns (hb hby d21_55) (by decide) (by decide) ?_
      rw [e7]
      refine ⟨rfl, N5, (Keep.refl h0 [o4]), ?_⟩
      show own_AL Z h0 o4 w_de (own_pick (own_beq x2 y) c2 (own_pick (own_beq x1 y) c1 ([] : List Addr)))
      rw [own_pickF hc18_3, own_pickF hc18_6]
      exact ⟨E_al, F_size, F_elementData⟩
    refine bk (fun t k => XS.ifNo X5.here hx rfl (hb hby d21_18) rfl ((if0 _ _).trans (feq hc18_6).1) k) ?_
    refine bk (fun t k => XS.aload X5.here hx rfl (hb hby d21_21) rfl rfl k) ?_
    refine bk (fun t k => XS.aload X5.here hx rfl (hb hby d21_23) rfl rfl k) ?_
    show F (T5.setTop (mkF m 25 #[oR o0, .val (.int (0 : Int32)), oR o2, oR o3, oR o4, oR c2] [(.ref c2), (.ref o4)]))
    obtain ⟨cq8, kq8, q8a, q8b, q8c⟩ := isOf hZ e5 (E_al)
    obtain ⟨_, _, ⟨T8, L8, k8, n8⟩, -, X8, ⟨Lc8, hQ8, l8, y8, z8⟩, st8⟩ := X5.interfaceBack hx (xi := oN32) (y := oN26) hown (mvT hZ w_189) (mvT hZ w_190) (mvT hZ w_191) (mvT hZ w_192) (mvT hZ w_193) (mvT hZ w_194) (mvT hZ w_195) (mvT hZ w_161) (by decide) (backOf (W := 0) (rm27_0 l Z a0 hw [] o4 c2 (0 : Int32) w_de k_de h0 n0 Z0 E_al F_modCount F_size F_elementData g_al S_de V_de hCh2.1) hZ w_196 w_115 (by decide) (by decide)) q8a q8b q8c (g := (mkF m 25 #[oR o0, .val (.int (0 : Int32)), oR o2, oR o3, oR o4, oR c2] [(.ref c2), (.ref o4)])) rfl (by rw [hml]; rfl) (Steps.refl _) (argsL := [(.ref c2)]) (rest := []) (lenOf pd21__Ljava_lang_Object__Z rfl) rfl (by show 2 * 0 + _ ≤ _; exact Nat.le_of_eq rfl) (hb hby d21_25) (fun _ _ => ⟨rfl, e5, (by decide : 0 + 1 ≤ _), (by decide : 0 + 10 ≤ _)⟩)
    dsimp only [Pt.U, Pt.locs, Pt.cells, Pt.slots, oM27_0] at X8 l8 y8 z8 st8 hQ8
    subst l8 y8 z8
    obtain ⟨r8, kd8, rfl, N8q, K8, ⟨gE8, gM8, gS8, gD8⟩, gV8, gO8, gs8⟩ := hQ8
    have N8 := Fr.app N5 N8q
    have f9 := E_o0.keep K8
    have f10 := F_fc.keep K8 (ninS (Exa.ne E_o0 E_al (by decide)) nin0)
    have f11 := hCh1.keep K8 (ninS (Exa.ne hCh1.1 E_al (by decide)) nin0) (allS (own_nsE E_al (by decide) w_114) all0)
    have f12 := hCh1.1.keep K8
    have f13 := F_nx1.keep K8 (ninS (Exa.ne hCh1.1 E_al (by decide)) nin0)
    have f14 := hCh2.keep K8 (ninS (Exa.ne hCh2.1 E_al (by decide)) nin0) (allS (own_nsE E_al (by decide) w_114) all0)
    have f15 := hCh2.1.keep K8
    have f16 := F_nx2.keep K8 (ninS (Exa.ne hCh2.1 E_al (by decide)) nin0)
    have f17 := E_al.keep K8
    have f18 := hns.keep K8 (allS (own_nsE E_al (by decide) w_114) all0)
    have f19 := hq.keep K8 (allS (own_nsE E_al (by decide) w_114) all0)
    have f20 := own_sta1 S_cs K8 E_al
    have f21 := own_sta1 S_de K8 E_al
    have f22 := V_de.keep K8 (ninS (Ne.symm (Exa.neArv E_al V_de w_114)) nin0)
    have f23 := Nat.le_trans Z0 K8.1
    have f24 := (Keep.refl h0 [o4]).trans K8 (allS (Or.inl (List.mem_of_getElem? (i := 0) rfl)) all0)
    have G_r8 : n0 ≤ r8 := Nat.le_trans Z0 gs8
    have sz_r8 : h0.size ≤ r8 := Nat.le_trans (Keep.refl h0 [o4]).1 gs8
    refine bk (fun t k => st8.trans k) ?_
    refine bk (fun t k => XS.pop X8.here hx rfl (hb hby d21_30) rfl rfl k) ?_
    refine bk (fun t k => XS.iloadN X8.here hx rfl (hb hby d21_31) rfl k) ?_
    show F (T8.setTop (mkF m 32 #[oR o0, .val (.int (0 : Int32)), oR o2, oR o3, oR o4, oR c2] [(.int (0 : Int32))]))
    refine bk (fun t k => XS.ifYes X8.here hx rfl (pc0 := 32) (pc' := 45) rfl (hb hby d21_32) rfl ((if0 _ _).trans (teq (by decide : (0 : Int32) = (0 : Int32))).1) (by decide) (by decide) k) ?_
    refine bk (fun t k => XS.aload X8.here hx rfl (hb hby d21_45) rfl rfl k) ?_
    obtain ⟨T25, X25, e25, st25⟩ := getF X8 hx hZ hown (host := "") (Or.inl w_173) Via.refl rfl f16 (g := (mkF m 47 #[oR o0, .val (.int (0 : Int32)), oR o2, oR o3, oR o4, oR c2] [(.ref c2)])) rfl rfl (hb hby d21_47)
    refine bk (fun t k => st25 t k) ?_
    show F (T25.setTop (mkF m 50 #[oR o0, .val (.int (0 : Int32)), oR o2, oR o3, oR o4, oR c2] [.null]))
    refine bk (fun t k => XS.astore X25.here hx rfl (hb hby d21_50) rfl rfl (l' := #[oR o0, .val (.int (0 : Int32)), oR o2, oR o3, oR o4, .val .null]) rfl k) ?_
    refine bk (fun t k => XS.goto X25.here hx rfl (pc0 := 52) (pc' := 6) rfl (hb hby d21_52) (by decide) (by decide) k) ?_
    refine bk (fun t k => XS.aload X25.here hx rfl (hb hby d21_6) rfl rfl k) ?_
    show F (T25.setTop (mkF m 8 #[oR o0, .val (.int (0 : Int32)), oR o2, oR o3, oR o4, .val .null] [.null]))
    refine bk (fun t k => XS.ifnullYes X25.here hx rfl (pc0 := 8) (pc' := 55) rfl (hb hby d21_8) rfl (by decide) (by decide) k) ?_
    rw [hF]
    refine own_ret0 X25 hx Bd.notSynchronized Bd.returns (hb hby d21_55) (by decide) (by decide) ?_
    rw [e25]
    refine ⟨rfl, N8, f24, ?_⟩
    show own_AL Z T8.heap o4 w_de (own_pick (own_beq x2 y) c2 (own_pick (own_beq x1 y) c1 ([] : List Addr)))
    rw [own_pickF hc18_3, own_pickT hc18_6]
    exact ⟨_, _, gE8, gS8, gD8, gV8⟩
  refine bk (fun t k => XS.ifNo X2.here hx rfl (hb hby d21_18) rfl ((if0 _ _).trans (feq hc18_3).1) k) ?_
  refine bk (fun t k => XS.aload X2.here hx rfl (hb hby d21_21) rfl rfl k) ?_
  refine bk (fun t k => XS.aload X2.here hx rfl (hb hby d21_23) rfl rfl k) ?_
  show F (T2.setTop (mkF m 25 #[oR o0, .val (.int (0 : Int32)), oR o2, oR o3, oR o4, oR c1] [(.ref c1), (.ref o4)]))
  obtain ⟨cq26, kq26, q26a, q26b, q26c⟩ := isOf hZ e2 (E_al)
  obtain ⟨_, _, ⟨T26, L26, k26, n26⟩, -, X26, ⟨Lc26, hQ26, l26, y26, z26⟩, st26⟩ := X2.interfaceBack hx (xi := oN32) (y := oN26) hown (mvT hZ w_189) (mvT hZ w_190) (mvT hZ w_191) (mvT hZ w_192) (mvT hZ w_193) (mvT hZ w_194) (mvT hZ w_195) (mvT hZ w_161) (by decide) (backOf (W := 0) (rm27_0 l Z a0 hw [] o4 c1 (0 : Int32) w_de k_de h0 n0 Z0 E_al F_modCount F_size F_elementData g_al S_de V_de hCh1.1) hZ w_196 w_115 (by decide) (by decide)) q26a q26b q26c (g := (mkF m 25 #[oR o0, .val (.int (0 : Int32)), oR o2, oR o3, oR o4, oR c1] [(.ref c1), (.ref o4)])) rfl (by rw [hml]; rfl) (Steps.refl _) (argsL := [(.ref c1)]) (rest := []) (lenOf pd21__Ljava_lang_Object__Z rfl) rfl (by show 2 * 0 + _ ≤ _; exact Nat.le_of_eq rfl) (hb hby d21_25) (fun _ _ => ⟨rfl, e2, (by decide : 0 + 1 ≤ _), (by decide : 0 + 10 ≤ _)⟩)
  dsimp only [Pt.U, Pt.locs, Pt.cells, Pt.slots, oM27_0] at X26 l26 y26 z26 st26 hQ26
  subst l26 y26 z26
  obtain ⟨r26, kd26, rfl, N26q, K26, ⟨gE26, gM26, gS26, gD26⟩, gV26, gO26, gs26⟩ := hQ26
  have N26 := Fr.app N2 N26q
  have f27 := E_o0.keep K26
  have f28 := F_fc.keep K26 (ninS (Exa.ne E_o0 E_al (by decide)) nin0)
  have f29 := hCh1.keep K26 (ninS (Exa.ne hCh1.1 E_al (by decide)) nin0) (allS (own_nsE E_al (by decide) w_114) all0)
  have f30 := hCh1.1.keep K26
  have f31 := F_nx1.keep K26 (ninS (Exa.ne hCh1.1 E_al (by decide)) nin0)
  have f32 := hCh2.keep K26 (ninS (Exa.ne hCh2.1 E_al (by decide)) nin0) (allS (own_nsE E_al (by decide) w_114) all0)
  have f33 := hCh2.1.keep K26
  have f34 := F_nx2.keep K26 (ninS (Exa.ne hCh2.1 E_al (by decide)) nin0)
  have f35 := E_al.keep K26
  have f36 := hns.keep K26 (allS (own_nsE E_al (by decide) w_114) all0)
  have f37 := hq.keep K26 (allS (own_nsE E_al (by decide) w_114) all0)
  have f38 := own_sta1 S_cs K26 E_al
  have f39 := own_sta1 S_de K26 E_al
  have f40 := V_de.keep K26 (ninS (Ne.symm (Exa.neArv E_al V_de w_114)) nin0)
  have f41 := Nat.le_trans Z0 K26.1
  have f42 := (Keep.refl h0 [o4]).trans K26 (allS (Or.inl (List.mem_of_getElem? (i := 0) rfl)) all0)
  have G_r26 : n0 ≤ r26 := Nat.le_trans Z0 gs26
  have sz_r26 : h0.size ≤ r26 := Nat.le_trans (Keep.refl h0 [o4]).1 gs26
  refine bk (fun t k => st26.trans k) ?_
  refine bk (fun t k => XS.pop X26.here hx rfl (hb hby d21_30) rfl rfl k) ?_
  refine bk (fun t k => XS.iloadN X26.here hx rfl (hb hby d21_31) rfl k) ?_
  show F (T26.setTop (mkF m 32 #[oR o0, .val (.int (0 : Int32)), oR o2, oR o3, oR o4, oR c1] [(.int (0 : Int32))]))
  refine bk (fun t k => XS.ifYes X26.here hx rfl (pc0 := 32) (pc' := 45) rfl (hb hby d21_32) rfl ((if0 _ _).trans (teq (by decide : (0 : Int32) = (0 : Int32))).1) (by decide) (by decide) k) ?_
  refine bk (fun t k => XS.aload X26.here hx rfl (hb hby d21_45) rfl rfl k) ?_
  obtain ⟨T43, X43, e43, st43⟩ := getF X26 hx hZ hown (host := "") (Or.inl w_173) Via.refl rfl f31 (g := (mkF m 47 #[oR o0, .val (.int (0 : Int32)), oR o2, oR o3, oR o4, oR c1] [(.ref c1)])) rfl rfl (hb hby d21_47)
  refine bk (fun t k => st43 t k) ?_
  show F (T43.setTop (mkF m 50 #[oR o0, .val (.int (0 : Int32)), oR o2, oR o3, oR o4, oR c1] [(.ref c2)]))
  refine bk (fun t k => XS.astore X43.here hx rfl (hb hby d21_50) rfl rfl (l' := #[oR o0, .val (.int (0 : Int32)), oR o2, oR o3, oR o4, oR c2]) rfl k) ?_
  refine bk (fun t k => XS.goto X43.here hx rfl (pc0 := 52) (pc' := 6) rfl (hb hby d21_52) (by decide) (by decide) k) ?_
  refine bk (fun t k => XS.aload X43.here hx rfl (hb hby d21_6) rfl rfl k) ?_
  show F (T43.setTop (mkF m 8 #[oR o0, .val (.int (0 : Int32)), oR o2, oR o3, oR o4, oR c2] [(.ref c2)]))
  refine bk (fun t k => XS.ifnullNo X43.here hx rfl (hb hby d21_8) rfl k) ?_
  refine bk (fun t k => XS.aload X43.here hx rfl (hb hby d21_11) rfl rfl k) ?_
  refine bk (fun t k => XS.aloadN X43.here hx rfl (hb hby d21_13) rfl rfl k) ?_
  refine bk (fun t k => XS.aloadN X43.here hx rfl (hb hby d21_14) rfl rfl k) ?_
  show F (T43.setTop (mkF m 15 #[oR o0, .val (.int (0 : Int32)), oR o2, oR o3, oR o4, oR c2] [(.ref o3), (.ref o2), (.ref c2)]))
  obtain ⟨cq44, kq44, q44a, q44b, q44c⟩ := isOf hZ e43 (f33)
  obtain ⟨_, _, ⟨T44, L44, k44, n44⟩, -, X44, ⟨Lc44, hQ44, l44, y44, z44⟩, st44⟩ := X43.virtualBack hx (y := oN10) (z := oN10) hown (mvT hZ w_183) (mvT hZ w_184) (notFace_of_selects (args := #[]) (mvT hZ w_186)) (mvT hZ w_186) (mvT hZ w_185) (by decide) (backOf (W := 0) (rm26 l Z a0 hw [] c2 o2 o3 s2 x2 y cs T26.heap n0 f41 f32 f36 f37 f38 hcs) hZ w_187 w_29 (by decide) (by decide)) q44a q44c (g := (mkF m 15 #[oR o0, .val (.int (0 : Int32)), oR o2, oR o3, oR o4, oR c2] [(.ref o3), (.ref o2), (.ref c2)])) rfl (by rw [hml]; rfl) (Steps.refl _) (argsL := [(.ref o2), (.ref o3)]) (rest := []) (lenOf pd21__Ljava_lang_String_Ljava_lang_String__Z rfl) rfl (by show 2 * 0 + _ ≤ _; exact Nat.le_of_eq rfl) (hb hby d21_15) (fun _ _ => ⟨rfl, e43, (by decide : 1 + 0 ≤ _), (by decide : 10 + 0 ≤ _)⟩)
  dsimp only [Pt.U, Pt.locs, Pt.cells, Pt.slots, oM26] at X44 l44 y44 z44 st44 hQ44
  subst l44 y44 z44
  obtain ⟨rfl, N44q, e44⟩ := hQ44
  have N44 := Fr.app N26 N44q
  refine bk (fun t k => st44.trans k) ?_
  show F (T44.setTop (mkF m 18 #[oR o0, .val (.int (0 : Int32)), oR o2, oR o3, oR o4, oR c2] [(.int (own_beq x2 y))]))
  by_cases hc18_45 : (own_beq x2 y) = (0 : Int32)
  · refine bk (fun t k => XS.ifYes X44.here hx rfl (pc0 := 18) (pc' := 31) rfl (hb hby d21_18) rfl ((if0 _ _).trans (teq hc18_45).1) (by decide) (by decide) k) ?_
    refine bk (fun t k => XS.iloadN X44.here hx rfl (hb hby d21_31) rfl k) ?_
    refine bk (fun t k => XS.ifYes X44.here hx rfl (pc0 := 32) (pc' := 45) rfl (hb hby d21_32) rfl ((if0 _ _).trans (teq (by decide : (0 : Int32) = (0 : Int32))).1) (by decide) (by decide) k) ?_
    refine bk (fun t k => XS.aload X44.here hx rfl (hb hby d21_45) rfl rfl k) ?_
    show F (T44.setTop (mkF m 47 #[oR o0, .val (.int (0 : Int32)), oR o2, oR o3, oR o4, oR c2] [(.ref c2)]))
    obtain ⟨T46, X46, e46, st46⟩ := getF X44 hx hZ hown (host := "") (Or.inl w_173) Via.refl e44 f34 (g := (mkF m 47 #[oR o0, .val (.int (0 : Int32)), oR o2, oR o3, oR o4, oR c2] [(.ref c2)])) rfl rfl (hb hby d21_47)
    refine bk (fun t k => st46 t k) ?_
    show F (T46.setTop (mkF m 50 #[oR o0, .val (.int (0 : Int32)), oR o2, oR o3, oR o4, oR c2] [.null]))
    refine bk (fun t k => XS.astore X46.here hx rfl (hb hby d21_50) rfl rfl (l' := #[oR o0, .val (.int (0 : Int32)), oR o2, oR o3, oR o4, .val .null]) rfl k) ?_
    refine bk (fun t k => XS.goto X46.here hx rfl (pc0 := 52) (pc' := 6) rfl (hb hby d21_52) (by decide) (by decide) k) ?_
    refine bk (fun t k => XS.aload X46.here hx rfl (hb hby d21_6) rfl rfl k) ?_
    show F (T46.setTop (mkF m 8 #[oR o0, .val (.int (0 : Int32)), oR o2, oR o3, oR o4, .val .null] [.null]))
    refine bk (fun t k => XS.ifnullYes X46.here hx rfl (pc0 := 8) (pc' := 55) rfl (hb hby d21_8) rfl (by decide) (by decide) k) ?_
    rw [hF]
    refine own_ret0 X46 hx Bd.notSynchronized Bd.returns (hb hby d21_55) (by decide) (by decide) ?_
    rw [e46]
    refine ⟨rfl, N44, f42, ?_⟩
    show own_AL Z T26.heap o4 w_de (own_pick (own_beq x2 y) c2 (own_pick (own_beq x1 y) c1 ([] : List Addr)))
    rw [own_pickT hc18_3, own_pickF hc18_45]
    exact ⟨_, _, gE26, gS26, gD26, gV26⟩
  refine bk (fun t k => XS.ifNo X44.here hx rfl (hb hby d21_18) rfl ((if0 _ _).trans (feq hc18_45).1) k) ?_
  refine bk (fun t k => XS.aload X44.here hx rfl (hb hby d21_21) rfl rfl k) ?_
  refine bk (fun t k => XS.aload X44.here hx rfl (hb hby d21_23) rfl rfl k) ?_
  show F (T44.setTop (mkF m 25 #[oR o0, .val (.int (0 : Int32)), oR o2, oR o3, oR o4, oR c2] [(.ref c2), (.ref o4)]))
  obtain ⟨cq47, kq47, q47a, q47b, q47c⟩ := isOf hZ e44 (gE26)
  obtain ⟨_, _, ⟨T47, L47, k47, n47⟩, -, X47, ⟨Lc47, hQ47, l47, y47, z47⟩, st47⟩ := X44.interfaceBack hx (xi := oN32) (y := oN26) hown (mvT hZ w_189) (mvT hZ w_190) (mvT hZ w_191) (mvT hZ w_192) (mvT hZ w_193) (mvT hZ w_194) (mvT hZ w_195) (mvT hZ w_161) (by decide) (backOf (W := 0) (rm27_1 l Z a0 hw [] o4 c2 ((0 : Int32) + (1 : Int32)) r26 kd26 c1 T26.heap n0 f41 gE26 gM26 gS26 gD26 g_al G_r26 gV26 gO26 f33) hZ w_196 w_115 (by decide) (by decide)) q47a q47b q47c (g := (mkF m 25 #[oR o0, .val (.int (0 : Int32)), oR o2, oR o3, oR o4, oR c2] [(.ref c2), (.ref o4)])) rfl (by rw [hml]; rfl) (Steps.refl _) (argsL := [(.ref c2)]) (rest := []) (lenOf pd21__Ljava_lang_Object__Z rfl) rfl (by show 2 * 0 + _ ≤ _; exact Nat.le_of_eq rfl) (hb hby d21_25) (fun _ _ => ⟨rfl, e44, (by decide : 1 + 0 ≤ _), (by decide : 10 + 0 ≤ _)⟩)
  dsimp only [Pt.U, Pt.locs, Pt.cells, Pt.slots, oM27_1] at X47 l47 y47 z47 st47 hQ47
  subst l47 y47 z47
  obtain ⟨rfl, N47q, K47, ⟨gE47, gM47, gS47, gD47⟩, gV47⟩ := hQ47
  have N47 := Fr.app N44 N47q
  have f48 := f27.keep K47
  have f49 := f28.keep K47 (ninS (Exa.ne f27 gE26 (by decide)) (ninS (Exa.neArv f27 gV26 w_28) nin0))
  have f50 := f29.keep K47 (ninS (Exa.ne f30 gE26 (by decide)) (ninS (Exa.neArv f30 gV26 w_28) nin0)) (allS (own_nsE gE26 (by decide) w_114) (allS (own_nsV gV26 (by decide) w_11) all0))
  have f51 := f30.keep K47
  have f52 := f31.keep K47 (ninS (Exa.ne f30 gE26 (by decide)) (ninS (Exa.neArv f30 gV26 w_28) nin0))
  have f53 := f32.keep K47 (ninS (Exa.ne f33 gE26 (by decide)) (ninS (Exa.neArv f33 gV26 w_28) nin0)) (allS (own_nsE gE26 (by decide) w_114) (allS (own_nsV gV26 (by decide) w_11) all0))
  have f54 := f33.keep K47
  have f55 := f34.keep K47 (ninS (Exa.ne f33 gE26 (by decide)) (ninS (Exa.neArv f33 gV26 w_28) nin0))
  have f56 := gE26.keep K47
  have f57 := f36.keep K47 (allS (own_nsE gE26 (by decide) w_114) (allS (own_nsV gV26 (by decide) w_11) all0))
  have f58 := f37.keep K47 (allS (own_nsE gE26 (by decide) w_114) (allS (own_nsV gV26 (by decide) w_11) all0))
  have f59 := own_staK f38 K47 (allS (Exa.nostat gE26) (allS (Arv.nostat gV26) all0))
  have f60 := Nat.le_trans f41 K47.1
  have f61 := f42.trans K47 (allS (Or.inl (List.mem_of_getElem? (i := 0) rfl)) (allS (Or.inr sz_r26) all0))
  refine bk (fun t k => st47.trans k) ?_
  refine bk (fun t k => XS.pop X47.here hx rfl (hb hby d21_30) rfl rfl k) ?_
  refine bk (fun t k => XS.iloadN X47.here hx rfl (hb hby d21_31) rfl k) ?_
  show F (T47.setTop (mkF m 32 #[oR o0, .val (.int (0 : Int32)), oR o2, oR o3, oR o4, oR c2] [(.int (0 : Int32))]))
  refine bk (fun t k => XS.ifYes X47.here hx rfl (pc0 := 32) (pc' := 45) rfl (hb hby d21_32) rfl ((if0 _ _).trans (teq (by decide : (0 : Int32) = (0 : Int32))).1) (by decide) (by decide) k) ?_
  refine bk (fun t k => XS.aload X47.here hx rfl (hb hby d21_45) rfl rfl k) ?_
  obtain ⟨T62, X62, e62, st62⟩ := getF X47 hx hZ hown (host := "") (Or.inl w_173) Via.refl rfl f55 (g := (mkF m 47 #[oR o0, .val (.int (0 : Int32)), oR o2, oR o3, oR o4, oR c2] [(.ref c2)])) rfl rfl (hb hby d21_47)
  refine bk (fun t k => st62 t k) ?_
  show F (T62.setTop (mkF m 50 #[oR o0, .val (.int (0 : Int32)), oR o2, oR o3, oR o4, oR c2] [.null]))
  refine bk (fun t k => XS.astore X62.here hx rfl (hb hby d21_50) rfl rfl (l' := #[oR o0, .val (.int (0 : Int32)), oR o2, oR o3, oR o4, .val .null]) rfl k) ?_
  refine bk (fun t k => XS.goto X62.here hx rfl (pc0 := 52) (pc' := 6) rfl (hb hby d21_52) (by decide) (by decide) k) ?_
  refine bk (fun t k => XS.aload X62.here hx rfl (hb hby d21_6) rfl rfl k) ?_
  show F (T62.setTop (mkF m 8 #[oR o0, .val (.int (0 : Int32)), oR o2, oR o3, oR o4, .val .null] [.null]))
  refine bk (fun t k => XS.ifnullYes X62.here hx rfl (pc0 := 8) (pc' := 55) rfl (hb hby d21_8) rfl (by decide) (by decide) k) ?_
  rw [hF]
  refine own_ret0 X62 hx Bd.notSynchronized Bd.returns (hb hby d21_55) (by decide) (by decide) ?_
  rw [e62]
  refine ⟨rfl, N47, f61, ?_⟩
  show own_AL Z T47.heap o4 w_de (own_pick (own_beq x2 y) c2 (own_pick (own_beq x1 y) c1 ([] : List Addr)))
  rw [own_pickT hc18_3, own_pickT hc18_45]
  exact ⟨_, _, gE47, gS47, gD47, gV47⟩
abbrev oM21_1 : Room := { frames := 5, cells := 1, slots := 10, locals := 69 }
def Q21_1 (Z : State) (o0 : Addr) (o2 : Addr) (o3 : Addr) (o4 : Addr) (c1 : Addr) (s1 : Addr) (x1 : Int32) (y : Int32) (cs : Int32) (w_de : Addr) (k_de : ClassId) (h0 : Heap) (n0 : Nat) (v : Option Value) (h : Heap) (L : List Loc) : Prop := v = none ∧ Fr n0 L ∧ Keep h0 h [o4] ∧ own_AL Z h o4 w_de (own_sel y [(c1, s1, x1)] [])
set_option maxRecDepth 65536 in
set_option maxHeartbeats 40000000 in
theorem rm21_1 (l : Launch) (Z : State) (a0 : Array Value) (hw : ∀ d ∈ tables_1, d.before a0 Z = true) (ws : List Jvm.Cond) (o0 : Addr) (o2 : Addr) (o3 : Addr) (o4 : Addr) (c1 : Addr) (s1 : Addr) (x1 : Int32) (y : Int32) (cs : Int32) (w_de : Addr) (k_de : ClassId) (h0 : Heap) (n0 : Nat) (Z0 : n0 ≤ h0.size) (hKd : own_Kids Z h0 o0 [(c1, s1, x1)]) (hns : own_St Z h0 o2 (0 : Int32) []) (hq : own_St Z h0 o3 (1 : Int32) [(.int y)]) (E_al : Exa Z h0 o4 "java/util/ArrayList") (F_modCount : Fld Z h0 o4 "java/util/AbstractList" "modCount" "I" (.int (0 : Int32))) (F_size : Fld Z h0 o4 "java/util/ArrayList" "size" "I" (.int (0 : Int32))) (F_elementData : Fld Z h0 o4 "java/util/ArrayList" "elementData" "[Ljava/lang/Object;" (.ref w_de)) (g_al : n0 ≤ o4) (S_cs : Sta Z h0 "java/lang/String" "COMPACT_STRINGS" "Z" (.int cs)) (hcs : ¬ cs = (0 : Int32)) (S_de : Sta Z h0 "java/util/ArrayList" "DEFAULTCAPACITY_EMPTY_ELEMENTDATA" "[Ljava/lang/Object;" (.ref w_de)) (V_de : Arv Z h0 w_de k_de (.object "java/lang/Object") (0 : Int32) [] .null) :
    MetFree l oN31 (head1 (Jvm.Cond.code oN31 prog_45_method_25_code 6 none :: ws) oM21_1) (fun a U => a = #[(.ref o0), (.int (0 : Int32)), (.ref o2), (.ref o3), (.ref o4)] ∧ Z.Warmed39 U.vm ∧ U.heap = h0) (fun _ _ _ _ _ => True) (fun _ U o U' => ∃ v L, o = .returned v ∧ Q21_1 Z o0 o2 o3 o4 c1 s1 x1 y cs w_de k_de h0 n0 v U'.heap L ∧ FrameEnd U o U' L oM21_1.cells oM21_1.slots) := by
  refine MetFree.of_bodySF (plainFor_of_name pn_21) hisR ?_
  intro p e s m args below meth c s₁ Bd hml0 hP hK
  obtain ⟨rfl, hZ, hh⟩ := hP
  have hx := Bd.exec
  have hby := Bd.bytes
  have hml : c.maxLocals = 6 := hml0
  have hown : s.vm.findClass "com/example/quire/quire/readers/Element" = some m.cls := findClass_of_methodNamed Bd.named
  have hnm := (name_of_methodNamed Bd.named Bd.method).1
  have X0 : Stand p l e oM21_1 s m #[(.ref o0), (.int (0 : Int32)), (.ref o2), (.ref o3), (.ref o4)] below meth c s₁ [] 0 0 := Stand.of_body Bd
  have e0 : s₁.heap = h0 := by rw [← hh, Bd.state]; rfl
  have N0 := Fr.nil n0
  obtain ⟨F, hF⟩ : ∃ F : State → Prop, F = own_Fin p e below s oM21_1.cells oM21_1.slots (fun v h L => Q21_1 Z o0 o2 o3 o4 c1 s1 x1 y cs w_de k_de h0 n0 v h L) := ⟨_, rfl⟩
  have bk : ∀ {A B : State}, (∀ t, Steps p.tables e below B t → Steps p.tables e below A t) → F B → F A := by
    intro A B h k
    rw [hF] at k ⊢
    exact own_back h k
  suffices hgo : F (s₁.setTop (mkF m 0 #[.val (.ref o0), .val (.int (0 : Int32)), .val (.ref o2), .val (.ref o3), .val (.ref o4), .unset] [])) by
    have hgo' := bk (fun t k => castTop (T := s₁) (ef_21 m o0 (0 : Int32) o2 o3 o4) k) hgo
    rw [hF] at hgo'
    exact hgo'
  have vK := hKd
  obtain ⟨E_o0, v0, F_fc, R0⟩ := vK
  obtain ⟨rfl, hCh1, v1, F_nx1, R1⟩ := R0
  have hv1 : v1 = .null := R1
  subst hv1
  have w_29 := hw _ (List.mem_of_getElem? (i := 29) rfl)
  have w_114 := hw _ (List.mem_of_getElem? (i := 114) rfl)
  have w_115 := hw _ (List.mem_of_getElem? (i := 115) rfl)
  have w_154 := hw _ (List.mem_of_getElem? (i := 154) rfl)
  have w_161 := hw _ (List.mem_of_getElem? (i := 161) rfl)
  have w_173 := hw _ (List.mem_of_getElem? (i := 173) rfl)
  have w_183 := hw _ (List.mem_of_getElem? (i := 183) rfl)
  have w_184 := hw _ (List.mem_of_getElem? (i := 184) rfl)
  have w_185 := hw _ (List.mem_of_getElem? (i := 185) rfl)
  have w_186 := hw _ (List.mem_of_getElem? (i := 186) rfl)
  have w_187 := hw _ (List.mem_of_getElem? (i := 187) rfl)
  have w_189 := hw _ (List.mem_of_getElem? (i := 189) rfl)
  have w_190 := hw _ (List.mem_of_getElem? (i := 190) rfl)
  have w_191 := hw _ (List.mem_of_getElem? (i := 191) rfl)
  have w_192 := hw _ (List.mem_of_getElem? (i := 192) rfl)
  have w_193 := hw _ (List.mem_of_getElem? (i := 193) rfl)
  have w_194 := hw _ (List.mem_of_getElem? (i := 194) rfl)
  have w_195 := hw _ (List.mem_of_getElem? (i := 195) rfl)
  have w_196 := hw _ (List.mem_of_getElem? (i := 196) rfl)
  refine bk (fun t k => XS.aloadN X0.here hx rfl (hb hby d21_0) rfl rfl k) ?_
  obtain ⟨T1, X1, e1, st1⟩ := getF X0 hx hZ hown (host := "") (Or.inl w_154) Via.refl e0 F_fc (g := (mkF m 1 #[oR o0, .val (.int (0 : Int32)), oR o2, oR o3, oR o4, .unset] [(.ref o0)])) rfl rfl (hb hby d21_1)
  refine bk (fun t k => st1 t k) ?_
  show F (T1.setTop (mkF m 4 #[oR o0, .val (.int (0 : Int32)), oR o2, oR o3, oR o4, .unset] [(.ref c1)]))
  refine bk (fun t k => XS.astore X1.here hx rfl (hb hby d21_4) rfl rfl (l' := #[oR o0, .val (.int (0 : Int32)), oR o2, oR o3, oR o4, oR c1]) rfl k) ?_
  refine bk (fun t k => XS.aload X1.here hx rfl (hb hby d21_6) rfl rfl k) ?_
  refine bk (fun t k => XS.ifnullNo X1.here hx rfl (hb hby d21_8) rfl k) ?_
  refine bk (fun t k => XS.aload X1.here hx rfl (hb hby d21_11) rfl rfl k) ?_
  refine bk (fun t k => XS.aloadN X1.here hx rfl (hb hby d21_13) rfl rfl k) ?_
  show F (T1.setTop (mkF m 14 #[oR o0, .val (.int (0 : Int32)), oR o2, oR o3, oR o4, oR c1] [(.ref o2), (.ref c1)]))
  refine bk (fun t k => XS.aloadN X1.here hx rfl (hb hby d21_14) rfl rfl k) ?_
  obtain ⟨cq2, kq2, q2a, q2b, q2c⟩ := isOf hZ e1 (hCh1.1)
  obtain ⟨_, _, ⟨T2, L2, k2, n2⟩, -, X2, ⟨Lc2, hQ2, l2, y2, z2⟩, st2⟩ := X1.virtualBack hx (y := oN10) (z := oN10) hown (mvT hZ w_183) (mvT hZ w_184) (notFace_of_selects (args := #[]) (mvT hZ w_186)) (mvT hZ w_186) (mvT hZ w_185) (by decide) (backOf (W := 0) (rm26 l Z a0 hw [] c1 o2 o3 s1 x1 y cs h0 n0 Z0 hCh1 hns hq S_cs hcs) hZ w_187 w_29 (by decide) (by decide)) q2a q2c (g := (mkF m 15 #[oR o0, .val (.int (0 : Int32)), oR o2, oR o3, oR o4, oR c1] [(.ref o3), (.ref o2), (.ref c1)])) rfl (by rw [hml]; rfl) (Steps.refl _) (argsL := [(.ref o2), (.ref o3)]) (rest := []) (lenOf pd21__Ljava_lang_String_Ljava_lang_String__Z rfl) rfl (by show 2 * 0 + _ ≤ _; exact Nat.le_of_eq rfl) (hb hby d21_15) (fun _ _ => ⟨rfl, e1, (by decide : 0 + 0 ≤ _), (by decide : 0 + 0 ≤ _)⟩)
  dsimp only [Pt.U, Pt.locs, Pt.cells, Pt.slots, oM26] at X2 l2 y2 z2 st2 hQ2
  subst l2 y2 z2
  obtain ⟨rfl, N2q, e2⟩ := hQ2
  have N2 := Fr.app N0 N2q
  refine bk (fun t k => st2.trans k) ?_
  show F (T2.setTop (mkF m 18 #[oR o0, .val (.int (0 : Int32)), oR o2, oR o3, oR o4, oR c1] [(.int (own_beq x1 y))]))
  by_cases hc18_3 : (own_beq x1 y) = (0 : Int32)
  · refine bk (fun t k => XS.ifYes X2.here hx rfl (pc0 := 18) (pc' := 31) rfl (hb hby d21_18) rfl ((if0 _ _).trans (teq hc18_3).1) (by decide) (by decide) k) ?_
    refine bk (fun t k => XS.iloadN X2.here hx rfl (hb hby d21_31) rfl k) ?_
    refine bk (fun t k => XS.ifYes X2.here hx rfl (pc0 := 32) (pc' := 45) rfl (hb hby d21_32) rfl ((if0 _ _).trans (teq (by decide : (0 : Int32) = (0 : Int32))).1) (by decide) (by decide) k) ?_
    refine bk (fun t k => XS.aload X2.here hx rfl (hb hby d21_45) rfl rfl k) ?_
    show F (T2.setTop (mkF m 47 #[oR o0, .val (.int (0 : Int32)), oR o2, oR o3, oR o4, oR c1] [(.ref c1)]))
    obtain ⟨T4, X4, e4, st4⟩ := getF X2 hx hZ hown (host := "") (Or.inl w_173) Via.refl e2 F_nx1 (g := (mkF m 47 #[oR o0, .val (.int (0 : Int32)), oR o2, oR o3, oR o4, oR c1] [(.ref c1)])) rfl rfl (hb hby d21_47)
    refine bk (fun t k => st4 t k) ?_
    show F (T4.setTop (mkF m 50 #[oR o0, .val (.int (0 : Int32)), oR o2, oR o3, oR o4, oR c1] [.null]))
    refine bk (fun t k => XS.astore X4.here hx rfl (hb hby d21_50) rfl rfl (l' := #[oR o0, .val (.int (0 : Int32)), oR o2, oR o3, oR o4, .val .null]) rfl k) ?_
    refine bk (fun t k => XS.goto X4.here hx rfl (pc0 := 52) (pc' := 6) rfl (hb hby d21_52) (by decide) (by decide) k) ?_
    refine bk (fun t k => XS.aload X4.here hx rfl (hb hby d21_6) rfl rfl k) ?_
    show F (T4.setTop (mkF m 8 #[oR o0, .val (.int (0 : Int32)), oR o2, oR o3, oR o4, .val .null] [.null]))
    refine bk (fun t k => XS.ifnullYes X4.here hx rfl (pc0 := 8) (pc' := 55) rfl (hb hby d21_8) rfl (by decide) (by decide) k) ?_
    rw [hF]
    refine own_ret0 X4 hx Bd.notSynchronized Bd.returns (hb hby d21_55) (by decide) (by decide) ?_
    rw [e4]
    refine ⟨rfl, N2, (Keep.refl h0 [o4]), ?_⟩
    show own_AL Z h0 o4 w_de (own_pick (own_beq x1 y) c1 ([] : List Addr))
    rw [own_pickF hc18_3]
    exact ⟨E_al, F_size, F_elementData⟩
  refine bk (fun t k => XS.ifNo X2.here hx rfl (hb hby d21_18) rfl ((if0 _ _).trans (feq hc18_3).1) k) ?_
  refine bk (fun t k => XS.aload X2.here hx rfl (hb hby d21_21) rfl rfl k) ?_
  refine bk (fun t k => XS.aload X2.here hx rfl (hb hby d21_23) rfl rfl k) ?_
  show F (T2.setTop (mkF m 25 #[oR o0, .val (.int (0 : Int32)), oR o2, oR o3, oR o4, oR c1] [(.ref c1), (.ref o4)]))
  obtain ⟨cq5, kq5, q5a, q5b, q5c⟩ := isOf hZ e2 (E_al)
  obtain ⟨_, _, ⟨T5, L5, k5, n5⟩, -, X5, ⟨Lc5, hQ5, l5, y5, z5⟩, st5⟩ := X2.interfaceBack hx (xi := oN32) (y := oN26) hown (mvT hZ w_189) (mvT hZ w_190) (mvT hZ w_191) (mvT hZ w_192) (mvT hZ w_193) (mvT hZ w_194) (mvT hZ w_195) (mvT hZ w_161) (by decide) (backOf (W := 0) (rm27_0 l Z a0 hw [] o4 c1 (0 : Int32) w_de k_de h0 n0 Z0 E_al F_modCount F_size F_elementData g_al S_de V_de hCh1.1) hZ w_196 w_115 (by decide) (by decide)) q5a q5b q5c (g := (mkF m 25 #[oR o0, .val (.int (0 : Int32)), oR o2, oR o3, oR o4, oR c1] [(.ref c1), (.ref o4)])) rfl (by rw [hml]; rfl) (Steps.refl _) (argsL := [(.ref c1)]) (rest := []) (lenOf pd21__Ljava_lang_Object__Z rfl) rfl (by show 2 * 0 + _ ≤ _; exact Nat.le_of_eq rfl) (hb hby d21_25) (fun _ _ => ⟨rfl, e2, (by decide : 0 + 1 ≤ _), (by decide : 0 + 10 ≤ _)⟩)
  dsimp only [Pt.U, Pt.locs, Pt.cells, Pt.slots, oM27_0] at X5 l5 y5 z5 st5 hQ5
  subst l5 y5 z5
  obtain ⟨r5, kd5, rfl, N5q, K5, ⟨gE5, gM5, gS5, gD5⟩, gV5, gO5, gs5⟩ := hQ5
  have N5 := Fr.app N2 N5q
  have f6 := E_o0.keep K5
  have f7 := F_fc.keep K5 (ninS (Exa.ne E_o0 E_al (by decide)) nin0)
  have f8 := hCh1.keep K5 (ninS (Exa.ne hCh1.1 E_al (by decide)) nin0) (allS (own_nsE E_al (by decide) w_114) all0)
  have f9 := hCh1.1.keep K5
  have f10 := F_nx1.keep K5 (ninS (Exa.ne hCh1.1 E_al (by decide)) nin0)
  have f11 := E_al.keep K5
  have f12 := hns.keep K5 (allS (own_nsE E_al (by decide) w_114) all0)
  have f13 := hq.keep K5 (allS (own_nsE E_al (by decide) w_114) all0)
  have f14 := own_sta1 S_cs K5 E_al
  have f15 := own_sta1 S_de K5 E_al
  have f16 := V_de.keep K5 (ninS (Ne.symm (Exa.neArv E_al V_de w_114)) nin0)
  have f17 := Nat.le_trans Z0 K5.1
  have f18 := (Keep.refl h0 [o4]).trans K5 (allS (Or.inl (List.mem_of_getElem? (i := 0) rfl)) all0)
  have G_r5 : n0 ≤ r5 := Nat.le_trans Z0 gs5
  have sz_r5 : h0.size ≤ r5 := Nat.le_trans (Keep.refl h0 [o4]).1 gs5
  refine bk (fun t k => st5.trans k) ?_
  refine bk (fun t k => XS.pop X5.here hx rfl (hb hby d21_30) rfl rfl k) ?_
  refine bk (fun t k => XS.iloadN X5.here hx rfl (hb hby d21_31) rfl k) ?_
  show F (T5.setTop (mkF m 32 #[oR o0, .val (.int (0 : Int32)), oR o2, oR o3, oR o4, oR c1] [(.int (0 : Int32))]))
  refine bk (fun t k => XS.ifYes X5.here hx rfl (pc0 := 32) (pc' := 45) rfl (hb hby d21_32) rfl ((if0 _ _).trans (teq (by decide : (0 : Int32) = (0 : Int32))).1) (by decide) (by decide) k) ?_
  refine bk (fun t k => XS.aload X5.here hx rfl (hb hby d21_45) rfl rfl k) ?_
  obtain ⟨T19, X19, e19, st19⟩ := getF X5 hx hZ hown (host := "") (Or.inl w_173) Via.refl rfl f10 (g := (mkF m 47 #[oR o0, .val (.int (0 : Int32)), oR o2, oR o3, oR o4, oR c1] [(.ref c1)])) rfl rfl (hb hby d21_47)
  refine bk (fun t k => st19 t k) ?_
  show F (T19.setTop (mkF m 50 #[oR o0, .val (.int (0 : Int32)), oR o2, oR o3, oR o4, oR c1] [.null]))
  refine bk (fun t k => XS.astore X19.here hx rfl (hb hby d21_50) rfl rfl (l' := #[oR o0, .val (.int (0 : Int32)), oR o2, oR o3, oR o4, .val .null]) rfl k) ?_
  refine bk (fun t k => XS.goto X19.here hx rfl (pc0 := 52) (pc' := 6) rfl (hb hby d21_52) (by decide) (by decide) k) ?_
  refine bk (fun t k => XS.aload X19.here hx rfl (hb hby d21_6) rfl rfl k) ?_
  show F (T19.setTop (mkF m 8 #[oR o0, .val (.int (0 : Int32)), oR o2, oR o3, oR o4, .val .null] [.null]))
  refine bk (fun t k => XS.ifnullYes X19.here hx rfl (pc0 := 8) (pc' := 55) rfl (hb hby d21_8) rfl (by decide) (by decide) k) ?_
  rw [hF]
  refine own_ret0 X19 hx Bd.notSynchronized Bd.returns (hb hby d21_55) (by decide) (by decide) ?_
  rw [e19]
  refine ⟨rfl, N5, f18, ?_⟩
  show own_AL Z T5.heap o4 w_de (own_pick (own_beq x1 y) c1 ([] : List Addr))
  rw [own_pickT hc18_3]
  exact ⟨_, _, gE5, gS5, gD5, gV5⟩
abbrev oM21_0 : Room := { frames := 5, cells := 1, slots := 10, locals := 69 }
def Q21_0 (Z : State) (o0 : Addr) (o2 : Addr) (o3 : Addr) (o4 : Addr) (y : Int32) (cs : Int32) (w_de : Addr) (k_de : ClassId) (h0 : Heap) (n0 : Nat) (v : Option Value) (h : Heap) (L : List Loc) : Prop := v = none ∧ Fr n0 L ∧ Keep h0 h [o4] ∧ own_AL Z h o4 w_de (own_sel y [] [])
set_option maxRecDepth 65536 in
set_option maxHeartbeats 40000000 in
theorem rm21_0 (l : Launch) (Z : State) (a0 : Array Value) (hw : ∀ d ∈ tables_1, d.before a0 Z = true) (ws : List Jvm.Cond) (o0 : Addr) (o2 : Addr) (o3 : Addr) (o4 : Addr) (y : Int32) (cs : Int32) (w_de : Addr) (k_de : ClassId) (h0 : Heap) (n0 : Nat) (Z0 : n0 ≤ h0.size) (hKd : own_Kids Z h0 o0 []) (hns : own_St Z h0 o2 (0 : Int32) []) (hq : own_St Z h0 o3 (1 : Int32) [(.int y)]) (E_al : Exa Z h0 o4 "java/util/ArrayList") (F_modCount : Fld Z h0 o4 "java/util/AbstractList" "modCount" "I" (.int (0 : Int32))) (F_size : Fld Z h0 o4 "java/util/ArrayList" "size" "I" (.int (0 : Int32))) (F_elementData : Fld Z h0 o4 "java/util/ArrayList" "elementData" "[Ljava/lang/Object;" (.ref w_de)) (g_al : n0 ≤ o4) (S_cs : Sta Z h0 "java/lang/String" "COMPACT_STRINGS" "Z" (.int cs)) (hcs : ¬ cs = (0 : Int32)) (S_de : Sta Z h0 "java/util/ArrayList" "DEFAULTCAPACITY_EMPTY_ELEMENTDATA" "[Ljava/lang/Object;" (.ref w_de)) (V_de : Arv Z h0 w_de k_de (.object "java/lang/Object") (0 : Int32) [] .null) :
    MetFree l oN31 (head1 (Jvm.Cond.code oN31 prog_45_method_25_code 6 none :: ws) oM21_0) (fun a U => a = #[(.ref o0), (.int (0 : Int32)), (.ref o2), (.ref o3), (.ref o4)] ∧ Z.Warmed39 U.vm ∧ U.heap = h0) (fun _ _ _ _ _ => True) (fun _ U o U' => ∃ v L, o = .returned v ∧ Q21_0 Z o0 o2 o3 o4 y cs w_de k_de h0 n0 v U'.heap L ∧ FrameEnd U o U' L oM21_0.cells oM21_0.slots) := by
  refine MetFree.of_bodySF (plainFor_of_name pn_21) hisR ?_
  intro p e s m args below meth c s₁ Bd hml0 hP hK
  obtain ⟨rfl, hZ, hh⟩ := hP
  have hx := Bd.exec
  have hby := Bd.bytes
  have hml : c.maxLocals = 6 := hml0
  have hown : s.vm.findClass "com/example/quire/quire/readers/Element" = some m.cls := findClass_of_methodNamed Bd.named
  have hnm := (name_of_methodNamed Bd.named Bd.method).1
  have X0 : Stand p l e oM21_0 s m #[(.ref o0), (.int (0 : Int32)), (.ref o2), (.ref o3), (.ref o4)] below meth c s₁ [] 0 0 := Stand.of_body Bd
  have e0 : s₁.heap = h0 := by rw [← hh, Bd.state]; rfl
  have N0 := Fr.nil n0
  obtain ⟨F, hF⟩ : ∃ F : State → Prop, F = own_Fin p e below s oM21_0.cells oM21_0.slots (fun v h L => Q21_0 Z o0 o2 o3 o4 y cs w_de k_de h0 n0 v h L) := ⟨_, rfl⟩
  have bk : ∀ {A B : State}, (∀ t, Steps p.tables e below B t → Steps p.tables e below A t) → F B → F A := by
    intro A B h k
    rw [hF] at k ⊢
    exact own_back h k
  suffices hgo : F (s₁.setTop (mkF m 0 #[.val (.ref o0), .val (.int (0 : Int32)), .val (.ref o2), .val (.ref o3), .val (.ref o4), .unset] [])) by
    have hgo' := bk (fun t k => castTop (T := s₁) (ef_21 m o0 (0 : Int32) o2 o3 o4) k) hgo
    rw [hF] at hgo'
    exact hgo'
  have vK := hKd
  obtain ⟨E_o0, v0, F_fc, R0⟩ := vK
  have hv0 : v0 = .null := R0
  subst hv0
  refine bk (fun t k => XS.aloadN X0.here hx rfl (hb hby d21_0) rfl rfl k) ?_
  obtain ⟨T1, X1, e1, st1⟩ := getF X0 hx hZ hown (host := "") (Or.inl (hw _ (List.mem_of_getElem? (i := 154) rfl))) Via.refl e0 F_fc (g := (mkF m 1 #[oR o0, .val (.int (0 : Int32)), oR o2, oR o3, oR o4, .unset] [(.ref o0)])) rfl rfl (hb hby d21_1)
  refine bk (fun t k => st1 t k) ?_
  show F (T1.setTop (mkF m 4 #[oR o0, .val (.int (0 : Int32)), oR o2, oR o3, oR o4, .unset] [.null]))
  refine bk (fun t k => XS.astore X1.here hx rfl (hb hby d21_4) rfl rfl (l' := #[oR o0, .val (.int (0 : Int32)), oR o2, oR o3, oR o4, .val .null]) rfl k) ?_
  refine bk (fun t k => XS.aload X1.here hx rfl (hb hby d21_6) rfl rfl k) ?_
  refine bk (fun t k => XS.ifnullYes X1.here hx rfl (pc0 := 8) (pc' := 55) rfl (hb hby d21_8) rfl (by decide) (by decide) k) ?_
  show F (T1.setTop (mkF m 55 #[oR o0, .val (.int (0 : Int32)), oR o2, oR o3, oR o4, .val .null] []))
  rw [hF]
  refine own_ret0 X1 hx Bd.notSynchronized Bd.returns (hb hby d21_55) (by decide) (by decide) ?_
  rw [e1]
  refine ⟨rfl, N0, (Keep.refl h0 [o4]), ?_⟩
  show own_AL Z h0 o4 w_de ([] : List Addr)
  exact ⟨E_al, F_size, F_elementData⟩
def own_QC (Z : State) (o4 : Addr) (ks : own_KT) (y : Int32) (w_de : Addr) (h0 : Heap) (n0 : Nat) (v : Option Value) (h : Heap) (L : List Loc) : Prop := v = none ∧ Fr n0 L ∧ Keep h0 h [o4] ∧ own_AL Z h o4 w_de (own_sel y ks [])
theorem own_col (l : Launch) (Z : State) (a0 : Array Value) (hw : ∀ d ∈ tables_1, d.before a0 Z = true) (ws : List Jvm.Cond) (o0 : Addr) (o2 : Addr) (o3 : Addr) (o4 : Addr) (y : Int32) (cs : Int32) (w_de : Addr) (k_de : ClassId) (h0 : Heap) (n0 : Nat) (Z0 : n0 ≤ h0.size) (hns : own_St Z h0 o2 (0 : Int32) []) (hq : own_St Z h0 o3 (1 : Int32) [(.int y)]) (E_al : Exa Z h0 o4 "java/util/ArrayList") (F_modCount : Fld Z h0 o4 "java/util/AbstractList" "modCount" "I" (.int (0 : Int32))) (F_size : Fld Z h0 o4 "java/util/ArrayList" "size" "I" (.int (0 : Int32))) (F_elementData : Fld Z h0 o4 "java/util/ArrayList" "elementData" "[Ljava/lang/Object;" (.ref w_de)) (g_al : n0 ≤ o4) (S_cs : Sta Z h0 "java/lang/String" "COMPACT_STRINGS" "Z" (.int cs)) (hcs : ¬ cs = (0 : Int32)) (S_de : Sta Z h0 "java/util/ArrayList" "DEFAULTCAPACITY_EMPTY_ELEMENTDATA" "[Ljava/lang/Object;" (.ref w_de)) (V_de : Arv Z h0 w_de k_de (.object "java/lang/Object") (0 : Int32) [] .null) : ∀ (ks : own_KT) (hlen : ks.length ≤ 3) (hKd : own_Kids Z h0 o0 ks),
    MetFree l oN31 (head1 (Jvm.Cond.code oN31 prog_45_method_25_code 6 none :: ws) oM21_3) (fun a U => a = #[(.ref o0), (.int (0 : Int32)), (.ref o2), (.ref o3), (.ref o4)] ∧ Z.Warmed39 U.vm ∧ U.heap = h0) (fun _ _ _ _ _ => True) (fun _ U o U' => ∃ v L, o = .returned v ∧ own_QC Z o4 ks y w_de h0 n0 v U'.heap L ∧ FrameEnd U o U' L oM21_3.cells oM21_3.slots)
  | [], _, hKd => rm21_0 l Z a0 hw ws o0 o2 o3 o4  y cs w_de k_de h0 n0 Z0 hKd hns hq E_al F_modCount F_size F_elementData g_al S_cs hcs S_de V_de
  | [(c1, s1, x1)], _, hKd => rm21_1 l Z a0 hw ws o0 o2 o3 o4 c1 s1 x1 y cs w_de k_de h0 n0 Z0 hKd hns hq E_al F_modCount F_size F_elementData g_al S_cs hcs S_de V_de
  | [(c1, s1, x1), (c2, s2, x2)], _, hKd => rm21_2 l Z a0 hw ws o0 o2 o3 o4 c1 s1 x1 c2 s2 x2 y cs w_de k_de h0 n0 Z0 hKd hns hq E_al F_modCount F_size F_elementData g_al S_cs hcs S_de V_de
  | [(c1, s1, x1), (c2, s2, x2), (c3, s3, x3)], _, hKd => rm21_3 l Z a0 hw ws o0 o2 o3 o4 c1 s1 x1 c2 s2 x2 c3 s3 x3 y cs w_de k_de h0 n0 Z0 hKd hns hq E_al F_modCount F_size F_elementData g_al S_cs hcs S_de V_de
  | _ :: _ :: _ :: _ :: _, q, _ => absurd q (by simp only [List.length_cons]; omega)
abbrev oN33 : MethodName := ⟨"com/example/quire/quire/readers/Element", "find", "(ZLjava/lang/String;[Ljava/lang/String;)Ljava/util/List;"⟩
abbrev oN34 : MethodName := ⟨"java/util/List", "size", "()I"⟩
abbrev oN35 : MethodName := ⟨"java/util/List", "get", "(I)Ljava/lang/Object;"⟩
abbrev oM10 : Room := { frames := 6, cells := 3, slots := 15, locals := 86 }
theorem d10_0 : decode prog_45_method_20_code 0 = .ok (.aload_n 0, 1) := by decide +kernel
theorem d10_1 : decode prog_45_method_20_code 1 = .ok (.invokestatic 142, 3) := by decide +kernel
theorem d10_4 : decode prog_45_method_20_code 4 = .ok (.astore 4, 2) := by decide +kernel
theorem d10_6 : decode prog_45_method_20_code 6 = .ok (.aload_n 3, 1) := by decide +kernel
theorem d10_7 : decode prog_45_method_20_code 7 = .ok (.astore 5, 2) := by decide +kernel
theorem d10_9 : decode prog_45_method_20_code 9 = .ok (.aload 5, 2) := by decide +kernel
theorem d10_11 : decode prog_45_method_20_code 11 = .ok (.arraylength, 1) := by decide +kernel
theorem d10_12 : decode prog_45_method_20_code 12 = .ok (.istore 6, 2) := by decide +kernel
theorem d10_14 : decode prog_45_method_20_code 14 = .ok (.iconst 0, 1) := by decide +kernel
theorem d10_15 : decode prog_45_method_20_code 15 = .ok (.istore 7, 2) := by decide +kernel
theorem d10_17 : decode prog_45_method_20_code 17 = .ok (.iload 7, 2) := by decide +kernel
theorem d10_19 : decode prog_45_method_20_code 19 = .ok (.iload 6, 2) := by decide +kernel
theorem d10_21 : decode prog_45_method_20_code 21 = .ok (.if_icmp .ge 71, 3) := by decide +kernel
theorem d10_24 : decode prog_45_method_20_code 24 = .ok (.aload 5, 2) := by decide +kernel
theorem d10_26 : decode prog_45_method_20_code 26 = .ok (.iload 7, 2) := by decide +kernel
theorem d10_28 : decode prog_45_method_20_code 28 = .ok (.aaload, 1) := by decide +kernel
theorem d10_29 : decode prog_45_method_20_code 29 = .ok (.astore 8, 2) := by decide +kernel
theorem d10_31 : decode prog_45_method_20_code 31 = .ok (.new 148, 3) := by decide +kernel
theorem d10_34 : decode prog_45_method_20_code 34 = .ok (.dup, 1) := by decide +kernel
theorem d10_35 : decode prog_45_method_20_code 35 = .ok (.invokespecial 150, 3) := by decide +kernel
theorem d10_38 : decode prog_45_method_20_code 38 = .ok (.astore 9, 2) := by decide +kernel
theorem d10_40 : decode prog_45_method_20_code 40 = .ok (.iconst 0, 1) := by decide +kernel
theorem d10_41 : decode prog_45_method_20_code 41 = .ok (.istore 10, 2) := by decide +kernel
theorem d10_43 : decode prog_45_method_20_code 43 = .ok (.iload 10, 2) := by decide +kernel
theorem d10_45 : decode prog_45_method_20_code 45 = .ok (.aload 4, 2) := by decide +kernel
theorem d10_47 : decode prog_45_method_20_code 47 = .ok (.invokeinterface 151 1, 5) := by decide +kernel
theorem d10_52 : decode prog_45_method_20_code 52 = .ok (.if_icmp .ge 30, 3) := by decide +kernel
theorem d10_55 : decode prog_45_method_20_code 55 = .ok (.aload 4, 2) := by decide +kernel
theorem d10_57 : decode prog_45_method_20_code 57 = .ok (.iload 10, 2) := by decide +kernel
theorem d10_59 : decode prog_45_method_20_code 59 = .ok (.invokeinterface 154 2, 5) := by decide +kernel
theorem d10_64 : decode prog_45_method_20_code 64 = .ok (.checkcast 8, 3) := by decide +kernel
theorem d10_67 : decode prog_45_method_20_code 67 = .ok (.iload_n 1, 1) := by decide +kernel
theorem d10_68 : decode prog_45_method_20_code 68 = .ok (.aload_n 2, 1) := by decide +kernel
theorem d10_69 : decode prog_45_method_20_code 69 = .ok (.aload 8, 2) := by decide +kernel
theorem d10_71 : decode prog_45_method_20_code 71 = .ok (.aload 9, 2) := by decide +kernel
theorem d10_73 : decode prog_45_method_20_code 73 = .ok (.invokevirtual 158, 3) := by decide +kernel
theorem d10_76 : decode prog_45_method_20_code 76 = .ok (.iinc 10 1, 3) := by decide +kernel
theorem d10_79 : decode prog_45_method_20_code 79 = .ok (.goto (-36), 3) := by decide +kernel
theorem d10_82 : decode prog_45_method_20_code 82 = .ok (.aload 9, 2) := by decide +kernel
theorem d10_84 : decode prog_45_method_20_code 84 = .ok (.astore 4, 2) := by decide +kernel
theorem d10_86 : decode prog_45_method_20_code 86 = .ok (.iinc 7 1, 3) := by decide +kernel
theorem d10_89 : decode prog_45_method_20_code 89 = .ok (.goto (-72), 3) := by decide +kernel
theorem d10_92 : decode prog_45_method_20_code 92 = .ok (.aload 4, 2) := by decide +kernel
theorem d10_94 : decode prog_45_method_20_code 94 = .ok (.areturn, 1) := by decide +kernel
theorem pd10__Ljava_lang_Object__Ljava_util_List_ : parseMethodDescriptor "(Ljava/lang/Object;)Ljava/util/List;" = some ⟨[(.object "java/lang/Object")], some (.object "java/util/List")⟩ := by decide +kernel
theorem pd10___V : parseMethodDescriptor "()V" = some ⟨[], none⟩ := by decide +kernel
theorem pd10___I : parseMethodDescriptor "()I" = some ⟨[], some .int⟩ := by decide +kernel
theorem pd10__I_Ljava_lang_Object_ : parseMethodDescriptor "(I)Ljava/lang/Object;" = some ⟨[.int], some (.object "java/lang/Object")⟩ := by decide +kernel
theorem pd10__ZLjava_lang_String_Ljava_lang_String_Ljava_util_List__V : parseMethodDescriptor "(ZLjava/lang/String;Ljava/lang/String;Ljava/util/List;)V" = some ⟨[.boolean, (.object "java/lang/String"), (.object "java/lang/String"), (.object "java/util/List")], none⟩ := by decide +kernel
theorem pn_10 : plainName "com/example/quire/quire/readers/Element" = true := by first | (simp [plainName, overriddenIn]; done) | decide +kernel
theorem ef_10 (m : MethodId) (x0 : Addr) (x1 : Int32) (x2 : Addr) (x3 : Addr) : entryFrame m #[(.ref x0), (.int x1), (.ref x2), (.ref x3)] 11 = mkF m 0 #[.val (.ref x0), .val (.int x1), .val (.ref x2), .val (.ref x3), .unset, .unset, .unset, .unset, .unset, .unset, .unset] [] := by first | (simp [entryFrame, mkF, argsToLocals, Value.category]; done) | rfl
def Q10 (Z : State) (o0 : Addr) (o2 : Addr) (o3 : Addr) (q : Addr) (k3 : ClassId) (ks : own_KT) (y : Int32) (cs : Int32) (w_e : Addr) (w_de : Addr) (k_de : ClassId) (h0 : Heap) (n0 : Nat) (v : Option Value) (h : Heap) (L : List Loc) : Prop := ∃ r : Addr, v = some (.ref r) ∧ Fr n0 L ∧ Keep h0 h [] ∧ own_AL Z h r w_de (own_sel y ks [])
set_option maxRecDepth 65536 in
set_option maxHeartbeats 40000000 in
theorem rm10 (l : Launch) (Z : State) (a0 : Array Value) (hw : ∀ d ∈ tables_1, d.before a0 Z = true) (ws : List Jvm.Cond) (o0 : Addr) (o2 : Addr) (o3 : Addr) (q : Addr) (k3 : ClassId) (ks : own_KT) (y : Int32) (cs : Int32) (w_e : Addr) (w_de : Addr) (k_de : ClassId) (h0 : Heap) (n0 : Nat) (Z0 : n0 ≤ h0.size) (hlen : ks.length ≤ 3) (hKd : own_Kids Z h0 o0 ks) (hns : own_St Z h0 o2 (0 : Int32) []) (hq : own_St Z h0 q (1 : Int32) [(.int y)]) (V_3 : Arv Z h0 o3 k3 (.object "java/lang/String") (1 : Int32) [(.ref q)] .null) (S_cs : Sta Z h0 "java/lang/String" "COMPACT_STRINGS" "Z" (.int cs)) (hcs : ¬ cs = (0 : Int32)) (S_e : Sta Z h0 "java/util/ImmutableCollections" "EMPTY" "Ljava/lang/Object;" (.ref w_e)) (S_de : Sta Z h0 "java/util/ArrayList" "DEFAULTCAPACITY_EMPTY_ELEMENTDATA" "[Ljava/lang/Object;" (.ref w_de)) (V_de : Arv Z h0 w_de k_de (.object "java/lang/Object") (0 : Int32) [] .null) :
    MetFree l oN33 (head1 (Jvm.Cond.code oN33 prog_45_method_20_code 11 (some (.object "java/util/List")) :: ws) oM10) (fun a U => a = #[(.ref o0), (.int (0 : Int32)), (.ref o2), (.ref o3)] ∧ Z.Warmed39 U.vm ∧ U.heap = h0) (fun _ _ _ _ _ => True) (fun _ U o U' => ∃ v L, o = .returned v ∧ Q10 Z o0 o2 o3 q k3 ks y cs w_e w_de k_de h0 n0 v U'.heap L ∧ FrameEnd U o U' L oM10.cells oM10.slots) := by
  refine MetFree.of_bodySF (plainFor_of_name pn_10) hisR ?_
  intro p e s m args below meth c s₁ Bd hml0 hP hK
  obtain ⟨rfl, hZ, hh⟩ := hP
  have hx := Bd.exec
  have hby := Bd.bytes
  have hml : c.maxLocals = 11 := hml0
  have hown : s.vm.findClass "com/example/quire/quire/readers/Element" = some m.cls := findClass_of_methodNamed Bd.named
  have hnm := (name_of_methodNamed Bd.named Bd.method).1
  have X0 : Stand p l e oM10 s m #[(.ref o0), (.int (0 : Int32)), (.ref o2), (.ref o3)] below meth c s₁ [] 0 0 := Stand.of_body Bd
  have e0 : s₁.heap = h0 := by rw [← hh, Bd.state]; rfl
  have N0 := Fr.nil n0
  obtain ⟨F, hF⟩ : ∃ F : State → Prop, F = own_Fin p e below s oM10.cells oM10.slots (fun v h L => Q10 Z o0 o2 o3 q k3 ks y cs w_e w_de k_de h0 n0 v h L) := ⟨_, rfl⟩
  have bk : ∀ {A B : State}, (∀ t, Steps p.tables e below B t → Steps p.tables e below A t) → F B → F A := by
    intro A B h k
    rw [hF] at k ⊢
    exact own_back h k
  suffices hgo : F (s₁.setTop (mkF m 0 #[.val (.ref o0), .val (.int (0 : Int32)), .val (.ref o2), .val (.ref o3), .unset, .unset, .unset, .unset, .unset, .unset, .unset] [])) by
    have hgo' := bk (fun t k => castTop (T := s₁) (ef_10 m o0 (0 : Int32) o2 o3) k) hgo
    rw [hF] at hgo'
    exact hgo'
  have w_28 := hw _ (List.mem_of_getElem? (i := 28) rfl)
  have w_29 := hw _ (List.mem_of_getElem? (i := 29) rfl)
  have w_41 := hw _ (List.mem_of_getElem? (i := 41) rfl)
  have w_73 := hw _ (List.mem_of_getElem? (i := 73) rfl)
  have w_74 := hw _ (List.mem_of_getElem? (i := 74) rfl)
  have w_75 := hw _ (List.mem_of_getElem? (i := 75) rfl)
  have w_76 := hw _ (List.mem_of_getElem? (i := 76) rfl)
  have w_79 := hw _ (List.mem_of_getElem? (i := 79) rfl)
  have w_113 := hw _ (List.mem_of_getElem? (i := 113) rfl)
  have w_114 := hw _ (List.mem_of_getElem? (i := 114) rfl)
  have w_115 := hw _ (List.mem_of_getElem? (i := 115) rfl)
  have w_116 := hw _ (List.mem_of_getElem? (i := 116) rfl)
  have w_117 := hw _ (List.mem_of_getElem? (i := 117) rfl)
  have w_118 := hw _ (List.mem_of_getElem? (i := 118) rfl)
  have w_128 := hw _ (List.mem_of_getElem? (i := 128) rfl)
  have w_131 := hw _ (List.mem_of_getElem? (i := 131) rfl)
  have w_132 := hw _ (List.mem_of_getElem? (i := 132) rfl)
  have w_133 := hw _ (List.mem_of_getElem? (i := 133) rfl)
  have w_134 := hw _ (List.mem_of_getElem? (i := 134) rfl)
  have w_135 := hw _ (List.mem_of_getElem? (i := 135) rfl)
  have w_136 := hw _ (List.mem_of_getElem? (i := 136) rfl)
  have w_137 := hw _ (List.mem_of_getElem? (i := 137) rfl)
  have w_138 := hw _ (List.mem_of_getElem? (i := 138) rfl)
  have w_139 := hw _ (List.mem_of_getElem? (i := 139) rfl)
  have w_140 := hw _ (List.mem_of_getElem? (i := 140) rfl)
  have w_141 := hw _ (List.mem_of_getElem? (i := 141) rfl)
  have w_142 := hw _ (List.mem_of_getElem? (i := 142) rfl)
  have w_143 := hw _ (List.mem_of_getElem? (i := 143) rfl)
  have w_144 := hw _ (List.mem_of_getElem? (i := 144) rfl)
  have w_145 := hw _ (List.mem_of_getElem? (i := 145) rfl)
  have w_146 := hw _ (List.mem_of_getElem? (i := 146) rfl)
  have w_147 := hw _ (List.mem_of_getElem? (i := 147) rfl)
  have w_148 := hw _ (List.mem_of_getElem? (i := 148) rfl)
  have w_150 := hw _ (List.mem_of_getElem? (i := 150) rfl)
  have w_151 := hw _ (List.mem_of_getElem? (i := 151) rfl)
  have w_152 := hw _ (List.mem_of_getElem? (i := 152) rfl)
  have w_153 := hw _ (List.mem_of_getElem? (i := 153) rfl)
  have w_164 := hw _ (List.mem_of_getElem? (i := 164) rfl)
  refine bk (fun t k => XS.aloadN X0.here hx rfl (hb hby d10_0) rfl rfl k) ?_
  obtain ⟨_, _, ⟨T1, L1, k1, n1⟩, -, X1, ⟨Lc1, hQ1, l1, y1, z1⟩, st1⟩ := Jvm.LawKit.callS X0 hx (y := oN16) hown (mvT hZ w_73) (mvT hZ w_74) (mvT hZ w_75) (mvT hZ w_76) (by decide) (backOf (W := 0) (rm11 l Z a0 hw [] o0 w_e h0 n0 Z0 S_e) hZ w_76 w_75 (by decide) (by decide)) (g := (mkF m 1 #[oR o0, .val (.int (0 : Int32)), oR o2, oR o3, .unset, .unset, .unset, .unset, .unset, .unset, .unset] [(.ref o0)])) rfl (by rw [hml]; rfl) (argsL := [(.ref o0)]) (rest := []) (lenOf pd10__Ljava_lang_Object__Ljava_util_List_ rfl) rfl (by show 2 * 0 + _ ≤ _; exact Nat.le_of_eq rfl) (hb hby d10_1) (fun _ _ => ⟨rfl, e0, (by decide : 0 + 1 ≤ _), (by decide : 0 + 2 ≤ _)⟩)
  dsimp only [Pt.U, Pt.locs, Pt.cells, Pt.slots, oM11] at X1 l1 y1 z1 st1 hQ1
  subst l1 y1 z1
  obtain ⟨r1, rfl, N1q, K1, gE1, gA1, gB1, gG1⟩ := hQ1
  have N1 := Fr.app N0 N1q
  have f2 := hKd.keep K1 all0 all0
  have f3 := hKd.1.keep K1
  have f4 := hns.keep K1 all0
  have f5 := hq.keep K1 all0
  have f6 := V_3.keep K1 nin0
  have f7 := own_sta0 S_cs K1
  have f8 := own_sta0 S_de K1
  have f9 := own_sta0 S_e K1
  have f10 := V_de.keep K1 nin0
  have f11 := Nat.le_trans Z0 K1.1
  have f12 := (Keep.refl h0 []).trans K1 all0
  refine bk (fun t k => st1 t k) ?_
  show F (T1.setTop (mkF m 4 #[oR o0, .val (.int (0 : Int32)), oR o2, oR o3, .unset, .unset, .unset, .unset, .unset, .unset, .unset] [(.ref r1)]))
  refine bk (fun t k => XS.astore X1.here hx rfl (hb hby d10_4) rfl rfl (l' := #[oR o0, .val (.int (0 : Int32)), oR o2, oR o3, oR r1, .unset, .unset, .unset, .unset, .unset, .unset]) rfl k) ?_
  refine bk (fun t k => XS.aloadN X1.here hx rfl (hb hby d10_6) rfl rfl k) ?_
  refine bk (fun t k => XS.astore X1.here hx rfl (hb hby d10_7) rfl rfl (l' := #[oR o0, .val (.int (0 : Int32)), oR o2, oR o3, oR r1, oR o3, .unset, .unset, .unset, .unset, .unset]) rfl k) ?_
  refine bk (fun t k => XS.aload X1.here hx rfl (hb hby d10_9) rfl rfl k) ?_
  show F (T1.setTop (mkF m 11 #[oR o0, .val (.int (0 : Int32)), oR o2, oR o3, oR r1, oR o3, .unset, .unset, .unset, .unset, .unset] [(.ref o3)]))
  have vv13 := f6
  obtain ⟨cl13, Ar13, q13, S13, M13, H13, G13⟩ := vv13
  refine bk (fun t k => X1.arraylength hx Ar13.1 (State.isArrayOf_alike hZ.alike Ar13.2.1) (g := (mkF m 11 #[oR o0, .val (.int (0 : Int32)), oR o2, oR o3, oR r1, oR o3, .unset, .unset, .unset, .unset, .unset] [(.ref o3)])) rfl rfl (hb hby d10_11) t k) ?_
  rw [len_of S13 M13]
  show F (T1.setTop (mkF m 12 #[oR o0, .val (.int (0 : Int32)), oR o2, oR o3, oR r1, oR o3, .unset, .unset, .unset, .unset, .unset] [(.int (1 : Int32))]))
  refine bk (fun t k => XS.istore X1.here hx rfl (hb hby d10_12) rfl (l' := #[oR o0, .val (.int (0 : Int32)), oR o2, oR o3, oR r1, oR o3, .val (.int (1 : Int32)), .unset, .unset, .unset, .unset]) rfl k) ?_
  refine bk (fun t k => XS.iconst X1.here hx rfl (hb hby d10_14) k) ?_
  refine bk (fun t k => XS.istore X1.here hx rfl (hb hby d10_15) rfl (l' := #[oR o0, .val (.int (0 : Int32)), oR o2, oR o3, oR r1, oR o3, .val (.int (1 : Int32)), .val (.int (0 : Int32)), .unset, .unset, .unset]) rfl k) ?_
  refine bk (fun t k => XS.iload X1.here hx rfl (hb hby d10_17) rfl k) ?_
  refine bk (fun t k => XS.iload X1.here hx rfl (hb hby d10_19) rfl k) ?_
  show F (T1.setTop (mkF m 21 #[oR o0, .val (.int (0 : Int32)), oR o2, oR o3, oR r1, oR o3, .val (.int (1 : Int32)), .val (.int (0 : Int32)), .unset, .unset, .unset] [(.int (1 : Int32)), (.int (0 : Int32))]))
  refine bk (fun t k => XS.icmpNo X1.here hx rfl (hb hby d10_21) rfl (tlt (by decide : (0 : Int32) < (1 : Int32))).2.1 k) ?_
  refine bk (fun t k => XS.aload X1.here hx rfl (hb hby d10_24) rfl rfl k) ?_
  refine bk (fun t k => XS.iload X1.here hx rfl (hb hby d10_26) rfl k) ?_
  show F (T1.setTop (mkF m 28 #[oR o0, .val (.int (0 : Int32)), oR o2, oR o3, oR r1, oR o3, .val (.int (1 : Int32)), .val (.int (0 : Int32)), .unset, .unset, .unset] [(.int (0 : Int32)), (.ref o3)]))
  have vv14 := f6
  obtain ⟨cl14, Ar14, q14, S14, M14, H14, G14⟩ := vv14
  have hin14 : ¬ ((0 : Int32) < 0 ∨ cl14.slots.size ≤ ((0 : Int32)).toNatClampNeg) := inb_of S14 ⟨by decide, by decide⟩
  refine bk (fun t k => X1.aaload hx (j := (0 : Int32)) (v := (.ref q)) Ar14.1 (State.isArrayOf_alike hZ.alike Ar14.2.1) rfl Ar14.2.2 hin14 (Has.at H14 hin14 rfl) (g := (mkF m 28 #[oR o0, .val (.int (0 : Int32)), oR o2, oR o3, oR r1, oR o3, .val (.int (1 : Int32)), .val (.int (0 : Int32)), .unset, .unset, .unset] [(.int (0 : Int32)), (.ref o3)])) rfl rfl (hb hby d10_28) t k) ?_
  show F (T1.setTop (mkF m 29 #[oR o0, .val (.int (0 : Int32)), oR o2, oR o3, oR r1, oR o3, .val (.int (1 : Int32)), .val (.int (0 : Int32)), .unset, .unset, .unset] [(.ref q)]))
  refine bk (fun t k => XS.astore X1.here hx rfl (hb hby d10_29) rfl rfl (l' := #[oR o0, .val (.int (0 : Int32)), oR o2, oR o3, oR r1, oR o3, .val (.int (1 : Int32)), .val (.int (0 : Int32)), oR q, .unset, .unset]) rfl k) ?_
  obtain ⟨T15, h15, X15, e15, E15, A15, D15, -, st15⟩ := newO X1 hx hZ hown w_113 w_114 w_115 rfl (g := (mkF m 31 #[oR o0, .val (.int (0 : Int32)), oR o2, oR o3, oR r1, oR o3, .val (.int (1 : Int32)), .val (.int (0 : Int32)), oR q, .unset, .unset] [])) rfl (hb hby d10_31) (by decide) (by decide)
  obtain ⟨b15, g15⟩ : ∃ z, z = T1.heap.size := ⟨_, rfl⟩
  rw [← g15] at A15 D15 st15
  have Gb15 : n0 ≤ b15 := Nat.le_trans f11 (Nat.le_of_eq g15.symm)
  have sz_b15 : h0.size ≤ b15 := Nat.le_trans f12.1 (Nat.le_of_eq g15.symm)
  have ne_o0_b15 : o0 ≠ b15 := Nat.ne_of_lt (Nat.lt_of_lt_of_le f3.lt (Nat.le_of_eq g15.symm))
  have ne_o3_b15 : o3 ≠ b15 := Nat.ne_of_lt (Nat.lt_of_lt_of_le f6.lt (Nat.le_of_eq g15.symm))
  have ne_w_de_b15 : w_de ≠ b15 := Nat.ne_of_lt (Nat.lt_of_lt_of_le f10.lt (Nat.le_of_eq g15.symm))
  have ne_r1_b15 : r1 ≠ b15 := Nat.ne_of_lt (Nat.lt_of_lt_of_le gE1.lt (Nat.le_of_eq g15.symm))
  have f16 := f2.ext E15
  have f17 := f3.ext E15
  have f18 := f4.ext E15
  have f19 := f5.ext E15
  have f20 := f6.ext E15
  have f21 := f7.ext E15
  have f22 := f8.ext E15
  have f23 := f9.ext E15
  have f24 := f10.ext E15
  have f25 := Nat.le_trans f11 E15.1
  have f26 := f12.ext E15
  have f27 := gE1.ext E15
  have f28 := gA1.ext E15
  have f29 := gB1.ext E15
  have F_modCount_b15 : Fld Z h15 b15 "java/util/AbstractList" "modCount" "I" (.int (0 : Int32)) := D15 (Or.inl w_128) (ty := .int) (by decide)
  have F_elementData_b15 : Fld Z h15 b15 "java/util/ArrayList" "elementData" "[Ljava/lang/Object;" .null := D15 (Or.inl w_131) (ty := (.array (.object "java/lang/Object"))) (by decide)
  have F_size_b15 : Fld Z h15 b15 "java/util/ArrayList" "size" "I" (.int (0 : Int32)) := D15 (Or.inl w_164) (ty := .int) (by decide)
  refine bk (fun t k => st15 t k) ?_
  refine bk (fun t k => XS.dup X15.here hx rfl (hb hby d10_34) rfl rfl k) ?_
  show F (T15.setTop (mkF m 35 #[oR o0, .val (.int (0 : Int32)), oR o2, oR o3, oR r1, oR o3, .val (.int (1 : Int32)), .val (.int (0 : Int32)), oR q, .unset, .unset] [(.ref b15), (.ref b15)]))
  obtain ⟨_, _, ⟨T30, L30, k30, n30⟩, -, X30, ⟨Lc30, hQ30, l30, y30, z30⟩, st30⟩ := X15.specialBack hx (y := oN20) rfl hown (mvT hZ w_116) (mvT hZ w_117) (mvT hZ w_118) (by decide) (backOf (W := 1) (rm17 l Z a0 hw [] b15 w_de h15 n0 f25 A15 F_modCount_b15 F_size_b15 F_elementData_b15 Gb15 f22) hZ w_118 w_115 (by decide) (by decide)) (g := (mkF m 35 #[oR o0, .val (.int (0 : Int32)), oR o2, oR o3, oR r1, oR o3, .val (.int (1 : Int32)), .val (.int (0 : Int32)), oR q, .unset, .unset] [(.ref b15), (.ref b15)])) rfl (by rw [hml]; rfl) (Steps.refl _) (a := b15) (argsL := []) (rest := [(.ref b15)]) (lenOf pd10___V rfl) rfl (by show 2 * 0 + _ ≤ _; exact Nat.le_of_eq rfl) (hb hby d10_35) (fun _ _ => ⟨rfl, e15, (by decide : 2 + 0 ≤ _), (by decide : 5 + 0 ≤ _)⟩)
  dsimp only [Pt.U, Pt.locs, Pt.cells, Pt.slots, oM17] at X30 l30 y30 z30 st30 hQ30
  subst l30 y30 z30
  obtain ⟨rfl, N30q, K30, gE30, gM30, gS30, gD30⟩ := hQ30
  have N30 := Fr.app N1 N30q
  have f31 := f16.keep K30 (allS (own_nsE A15 (by decide) w_114) all0) (allS (own_neE A15 (by decide)) all0)
  have f32 := f17.keep K30
  have f33 := f18.keep K30 (allS (own_nsE A15 (by decide) w_114) all0)
  have f34 := f19.keep K30 (allS (own_nsE A15 (by decide) w_114) all0)
  have f35 := f20.keep K30 (ninS ne_o3_b15 nin0)
  have f36 := own_sta1 f21 K30 A15
  have f37 := own_sta1 f22 K30 A15
  have f38 := own_sta1 f23 K30 A15
  have f39 := f24.keep K30 (ninS ne_w_de_b15 nin0)
  have f40 := Nat.le_trans f25 K30.1
  have f41 := f26.trans K30 (allS (Or.inr sz_b15) all0)
  have f42 := f27.keep K30
  have f43 := f28.keep K30 (ninS ne_r1_b15 nin0)
  have f44 := f29.keep K30 (ninS ne_r1_b15 nin0)
  have f45 := A15.keep K30
  refine bk (fun t k => st30.trans k) ?_
  show F (T30.setTop (mkF m 38 #[oR o0, .val (.int (0 : Int32)), oR o2, oR o3, oR r1, oR o3, .val (.int (1 : Int32)), .val (.int (0 : Int32)), oR q, .unset, .unset] [(.ref b15)]))
  refine bk (fun t k => XS.astore X30.here hx rfl (hb hby d10_38) rfl rfl (l' := #[oR o0, .val (.int (0 : Int32)), oR o2, oR o3, oR r1, oR o3, .val (.int (1 : Int32)), .val (.int (0 : Int32)), oR q, oR b15, .unset]) rfl k) ?_
  refine bk (fun t k => XS.iconst X30.here hx rfl (hb hby d10_40) k) ?_
  refine bk (fun t k => XS.istore X30.here hx rfl (hb hby d10_41) rfl (l' := #[oR o0, .val (.int (0 : Int32)), oR o2, oR o3, oR r1, oR o3, .val (.int (1 : Int32)), .val (.int (0 : Int32)), oR q, oR b15, .val (.int (0 : Int32))]) rfl k) ?_
  refine bk (fun t k => XS.iload X30.here hx rfl (hb hby d10_43) rfl k) ?_
  refine bk (fun t k => XS.aload X30.here hx rfl (hb hby d10_45) rfl rfl k) ?_
  show F (T30.setTop (mkF m 47 #[oR o0, .val (.int (0 : Int32)), oR o2, oR o3, oR r1, oR o3, .val (.int (1 : Int32)), .val (.int (0 : Int32)), oR q, oR b15, .val (.int (0 : Int32))] [(.ref r1), (.int (0 : Int32))]))
  obtain ⟨cq46, kq46, q46a, q46b, q46c⟩ := isOf hZ rfl (f42)
  obtain ⟨_, _, ⟨T46, L46, k46, n46⟩, -, X46, ⟨Lc46, hQ46, l46, y46, z46⟩, st46⟩ := X30.interfaceBack hx (xi := oN34) (y := oN17) hown (mvT hZ w_132) (mvT hZ w_133) (mvT hZ w_134) (mvT hZ w_135) (mvT hZ w_136) (mvT hZ w_137) (mvT hZ w_138) (mvT hZ w_139) (by decide) (backOf (W := 1) (rm19 l Z a0 hw [] r1 w_e T30.heap n0 f40 f44 f38) hZ w_140 w_79 (by decide) (by decide)) q46a q46b q46c (g := (mkF m 47 #[oR o0, .val (.int (0 : Int32)), oR o2, oR o3, oR r1, oR o3, .val (.int (1 : Int32)), .val (.int (0 : Int32)), oR q, oR b15, .val (.int (0 : Int32))] [(.ref r1), (.int (0 : Int32))])) rfl (by rw [hml]; rfl) (Steps.refl _) (argsL := []) (rest := [(.int (0 : Int32))]) (lenOf pd10___I rfl) rfl (by show 2 * 0 + _ ≤ _; exact Nat.le_of_eq rfl) (hb hby d10_47) (fun _ _ => ⟨rfl, rfl, (by decide : 2 + 0 ≤ _), (by decide : 5 + 0 ≤ _)⟩)
  dsimp only [Pt.U, Pt.locs, Pt.cells, Pt.slots, oM19] at X46 l46 y46 z46 st46 hQ46
  subst l46 y46 z46
  obtain ⟨rfl, N46q, e46⟩ := hQ46
  have N46 := Fr.app N30 N46q
  refine bk (fun t k => st46.trans k) ?_
  show F (T46.setTop (mkF m 52 #[oR o0, .val (.int (0 : Int32)), oR o2, oR o3, oR r1, oR o3, .val (.int (1 : Int32)), .val (.int (0 : Int32)), oR q, oR b15, .val (.int (0 : Int32))] [(.int (1 : Int32)), (.int (0 : Int32))]))
  refine bk (fun t k => XS.icmpNo X46.here hx rfl (hb hby d10_52) rfl (tlt (by decide : (0 : Int32) < (1 : Int32))).2.1 k) ?_
  refine bk (fun t k => XS.aload X46.here hx rfl (hb hby d10_55) rfl rfl k) ?_
  refine bk (fun t k => XS.iload X46.here hx rfl (hb hby d10_57) rfl k) ?_
  show F (T46.setTop (mkF m 59 #[oR o0, .val (.int (0 : Int32)), oR o2, oR o3, oR r1, oR o3, .val (.int (1 : Int32)), .val (.int (0 : Int32)), oR q, oR b15, .val (.int (0 : Int32))] [(.int (0 : Int32)), (.ref r1)]))
  obtain ⟨cq47, kq47, q47a, q47b, q47c⟩ := isOf hZ e46 (f42)
  obtain ⟨_, _, ⟨T47, L47, k47, n47⟩, -, X47, ⟨Lc47, hQ47, l47, y47, z47⟩, st47⟩ := X46.interfaceBack hx (xi := oN35) (y := oN18) hown (mvT hZ w_141) (mvT hZ w_142) (mvT hZ w_143) (mvT hZ w_144) (mvT hZ w_145) (mvT hZ w_146) (mvT hZ w_147) (mvT hZ w_139) (by decide) (backOf (W := 0) (rm20 l Z a0 hw [] r1 o0 T30.heap n0 f40 f43) hZ w_148 w_79 (by decide) (by decide)) q47a q47b q47c (g := (mkF m 59 #[oR o0, .val (.int (0 : Int32)), oR o2, oR o3, oR r1, oR o3, .val (.int (1 : Int32)), .val (.int (0 : Int32)), oR q, oR b15, .val (.int (0 : Int32))] [(.int (0 : Int32)), (.ref r1)])) rfl (by rw [hml]; rfl) (Steps.refl _) (argsL := [(.int (0 : Int32))]) (rest := []) (lenOf pd10__I_Ljava_lang_Object_ rfl) rfl (by show 2 * 0 + _ ≤ _; exact Nat.le_of_eq rfl) (hb hby d10_59) (fun _ _ => ⟨rfl, e46, (by decide : 2 + 0 ≤ _), (by decide : 5 + 0 ≤ _)⟩)
  dsimp only [Pt.U, Pt.locs, Pt.cells, Pt.slots, oM20] at X47 l47 y47 z47 st47 hQ47
  subst l47 y47 z47
  obtain ⟨rfl, N47q, e47⟩ := hQ47
  have N47 := Fr.app N46 N47q
  refine bk (fun t k => st47.trans k) ?_
  show F (T47.setTop (mkF m 64 #[oR o0, .val (.int (0 : Int32)), oR o2, oR o3, oR r1, oR o3, .val (.int (1 : Int32)), .val (.int (0 : Int32)), oR q, oR b15, .val (.int (0 : Int32))] [(.ref o0)]))
  obtain ⟨T48, X48, e48, st48⟩ := castY X47 hx hZ hown w_41 e47 (Ins.self f32) (g := (mkF m 64 #[oR o0, .val (.int (0 : Int32)), oR o2, oR o3, oR r1, oR o3, .val (.int (1 : Int32)), .val (.int (0 : Int32)), oR q, oR b15, .val (.int (0 : Int32))] [(.ref o0)])) rfl rfl (hb hby d10_64)
  refine bk (fun t k => st48 t k) ?_
  refine bk (fun t k => XS.iloadN X48.here hx rfl (hb hby d10_67) rfl k) ?_
  refine bk (fun t k => XS.aloadN X48.here hx rfl (hb hby d10_68) rfl rfl k) ?_
  refine bk (fun t k => XS.aload X48.here hx rfl (hb hby d10_69) rfl rfl k) ?_
  refine bk (fun t k => XS.aload X48.here hx rfl (hb hby d10_71) rfl rfl k) ?_
  show F (T48.setTop (mkF m 73 #[oR o0, .val (.int (0 : Int32)), oR o2, oR o3, oR r1, oR o3, .val (.int (1 : Int32)), .val (.int (0 : Int32)), oR q, oR b15, .val (.int (0 : Int32))] [(.ref b15), (.ref q), (.ref o2), (.int (0 : Int32)), (.ref o0)]))
  obtain ⟨cq49, q49, q49'⟩ := (f32).cell
  obtain ⟨_, _, ⟨T49, L49, k49, n49⟩, -, X49, ⟨Lc49, hQ49, l49, y49, z49⟩, st49⟩ := X48.privateBack hx (y := oN31) hown (mvT hZ w_150) (mvT hZ w_151) (mvT hZ (own_selP (y := oN31) (by decide) w_28 w_152 w_151)) (Cond.privateMethod_at (mvP hZ w_152 (args := #[]))) (mvT hZ w_153) (by decide) (backOf (W := 0) (own_col l Z a0 hw [] o0 o2 q b15 y cs w_de k_de T30.heap n0 f40 f33 f34 gE30 gM30 gS30 gD30 Gb15 f36 hcs f37 f39 ks hlen f31) hZ w_153 w_29 (by decide) (by decide)) (g := (mkF m 73 #[oR o0, .val (.int (0 : Int32)), oR o2, oR o3, oR r1, oR o3, .val (.int (1 : Int32)), .val (.int (0 : Int32)), oR q, oR b15, .val (.int (0 : Int32))] [(.ref b15), (.ref q), (.ref o2), (.int (0 : Int32)), (.ref o0)])) rfl (by rw [hml]; rfl) (Steps.refl _) (a := o0) (by rw [e48]; exact q49) q49' (argsL := [(.int (0 : Int32)), (.ref o2), (.ref q), (.ref b15)]) (rest := []) (lenOf pd10__ZLjava_lang_String_Ljava_lang_String_Ljava_util_List__V rfl) rfl (by show 2 * 0 + _ ≤ _; exact Nat.le_of_eq rfl) (hb hby d10_73) (fun _ _ => ⟨rfl, e48, (by decide : 2 + 1 ≤ _), (by decide : 5 + 10 ≤ _)⟩)
  dsimp only [Pt.U, Pt.locs, Pt.cells, Pt.slots, oM21_3] at X49 l49 y49 z49 st49 hQ49
  subst l49 y49 z49
  obtain ⟨rfl, N49q, K49, gL49⟩ := hQ49
  have N49 := Fr.app N47 N49q
  have f50 := f31.keep K49 (allS (own_nsE gE30 (by decide) w_114) all0) (allS (own_neE gE30 (by decide)) all0)
  have f51 := f32.keep K49
  have f52 := f33.keep K49 (allS (own_nsE gE30 (by decide) w_114) all0)
  have f53 := f34.keep K49 (allS (own_nsE gE30 (by decide) w_114) all0)
  have f54 := f35.keep K49 (ninS ne_o3_b15 nin0)
  have f55 := own_sta1 f36 K49 gE30
  have f56 := own_sta1 f37 K49 gE30
  have f57 := own_sta1 f38 K49 gE30
  have f58 := f39.keep K49 (ninS ne_w_de_b15 nin0)
  have f59 := Nat.le_trans f40 K49.1
  have f60 := f41.trans K49 (allS (Or.inr sz_b15) all0)
  have f61 := f42.keep K49
  have f62 := f43.keep K49 (ninS ne_r1_b15 nin0)
  have f63 := f44.keep K49 (ninS ne_r1_b15 nin0)
  have f64 := gE30.keep K49
  refine bk (fun t k => st49.trans k) ?_
  show F (T49.setTop (mkF m 76 #[oR o0, .val (.int (0 : Int32)), oR o2, oR o3, oR r1, oR o3, .val (.int (1 : Int32)), .val (.int (0 : Int32)), oR q, oR b15, .val (.int (0 : Int32))] []))
  refine bk (fun t k => XS.iinc X49.here hx rfl (hb hby d10_76) rfl (l' := #[oR o0, .val (.int (0 : Int32)), oR o2, oR o3, oR r1, oR o3, .val (.int (1 : Int32)), .val (.int (0 : Int32)), oR q, oR b15, .val (.int (1 : Int32))]) rfl k) ?_
  refine bk (fun t k => XS.goto X49.here hx rfl (pc0 := 79) (pc' := 43) rfl (hb hby d10_79) (by decide) (by decide) k) ?_
  refine bk (fun t k => XS.iload X49.here hx rfl (hb hby d10_43) rfl k) ?_
  refine bk (fun t k => XS.aload X49.here hx rfl (hb hby d10_45) rfl rfl k) ?_
  show F (T49.setTop (mkF m 47 #[oR o0, .val (.int (0 : Int32)), oR o2, oR o3, oR r1, oR o3, .val (.int (1 : Int32)), .val (.int (0 : Int32)), oR q, oR b15, .val (.int (1 : Int32))] [(.ref r1), (.int (1 : Int32))]))
  obtain ⟨cq65, kq65, q65a, q65b, q65c⟩ := isOf hZ rfl (f61)
  obtain ⟨_, _, ⟨T65, L65, k65, n65⟩, -, X65, ⟨Lc65, hQ65, l65, y65, z65⟩, st65⟩ := X49.interfaceBack hx (xi := oN34) (y := oN17) hown (mvT hZ w_132) (mvT hZ w_133) (mvT hZ w_134) (mvT hZ w_135) (mvT hZ w_136) (mvT hZ w_137) (mvT hZ w_138) (mvT hZ w_139) (by decide) (backOf (W := 1) (rm19 l Z a0 hw [] r1 w_e T49.heap n0 f59 f63 f57) hZ w_140 w_79 (by decide) (by decide)) q65a q65b q65c (g := (mkF m 47 #[oR o0, .val (.int (0 : Int32)), oR o2, oR o3, oR r1, oR o3, .val (.int (1 : Int32)), .val (.int (0 : Int32)), oR q, oR b15, .val (.int (1 : Int32))] [(.ref r1), (.int (1 : Int32))])) rfl (by rw [hml]; rfl) (Steps.refl _) (argsL := []) (rest := [(.int (1 : Int32))]) (lenOf pd10___I rfl) rfl (by show 2 * 0 + _ ≤ _; exact Nat.le_of_eq rfl) (hb hby d10_47) (fun _ _ => ⟨rfl, rfl, (by decide : 3 + 0 ≤ _), (by decide : 15 + 0 ≤ _)⟩)
  dsimp only [Pt.U, Pt.locs, Pt.cells, Pt.slots, oM19] at X65 l65 y65 z65 st65 hQ65
  subst l65 y65 z65
  obtain ⟨rfl, N65q, e65⟩ := hQ65
  have N65 := Fr.app N49 N65q
  refine bk (fun t k => st65.trans k) ?_
  show F (T65.setTop (mkF m 52 #[oR o0, .val (.int (0 : Int32)), oR o2, oR o3, oR r1, oR o3, .val (.int (1 : Int32)), .val (.int (0 : Int32)), oR q, oR b15, .val (.int (1 : Int32))] [(.int (1 : Int32)), (.int (1 : Int32))]))
  refine bk (fun t k => XS.icmpYes X65.here hx rfl (pc0 := 52) (pc' := 82) rfl (hb hby d10_52) rfl (flt (by decide : ¬ ((1 : Int32) < (1 : Int32)))).2.1 (by decide) (by decide) k) ?_
  refine bk (fun t k => XS.aload X65.here hx rfl (hb hby d10_82) rfl rfl k) ?_
  refine bk (fun t k => XS.astore X65.here hx rfl (hb hby d10_84) rfl rfl (l' := #[oR o0, .val (.int (0 : Int32)), oR o2, oR o3, oR b15, oR o3, .val (.int (1 : Int32)), .val (.int (0 : Int32)), oR q, oR b15, .val (.int (1 : Int32))]) rfl k) ?_
  show F (T65.setTop (mkF m 86 #[oR o0, .val (.int (0 : Int32)), oR o2, oR o3, oR b15, oR o3, .val (.int (1 : Int32)), .val (.int (0 : Int32)), oR q, oR b15, .val (.int (1 : Int32))] []))
  refine bk (fun t k => XS.iinc X65.here hx rfl (hb hby d10_86) rfl (l' := #[oR o0, .val (.int (0 : Int32)), oR o2, oR o3, oR b15, oR o3, .val (.int (1 : Int32)), .val (.int (1 : Int32)), oR q, oR b15, .val (.int (1 : Int32))]) rfl k) ?_
  refine bk (fun t k => XS.goto X65.here hx rfl (pc0 := 89) (pc' := 17) rfl (hb hby d10_89) (by decide) (by decide) k) ?_
  refine bk (fun t k => XS.iload X65.here hx rfl (hb hby d10_17) rfl k) ?_
  refine bk (fun t k => XS.iload X65.here hx rfl (hb hby d10_19) rfl k) ?_
  show F (T65.setTop (mkF m 21 #[oR o0, .val (.int (0 : Int32)), oR o2, oR o3, oR b15, oR o3, .val (.int (1 : Int32)), .val (.int (1 : Int32)), oR q, oR b15, .val (.int (1 : Int32))] [(.int (1 : Int32)), (.int (1 : Int32))]))
  refine bk (fun t k => XS.icmpYes X65.here hx rfl (pc0 := 21) (pc' := 92) rfl (hb hby d10_21) rfl (flt (by decide : ¬ ((1 : Int32) < (1 : Int32)))).2.1 (by decide) (by decide) k) ?_
  refine bk (fun t k => XS.aload X65.here hx rfl (hb hby d10_92) rfl rfl k) ?_
  rw [hF]
  refine own_retA X65 hx Bd.notSynchronized Bd.returns rfl rfl (hb hby d10_94) (by decide) (by decide) ?_
  rw [e65]
  exact ⟨_, rfl, N65, f60, gL49⟩
abbrev oN36 : MethodName := ⟨"com/example/quire/quire/readers/ElementAddPinLaw", "matches", "(Lcom/example/quire/quire/readers/Element;Ljava/lang/String;ILcom/example/quire/quire/readers/Element;Ljava/lang/String;Lcom/example/quire/quire/readers/Element;Ljava/lang/String;Lcom/example/quire/quire/readers/Element;Ljava/lang/String;)Z"⟩
abbrev oM9_0 : Room := { frames := 7, cells := 7, slots := 23, locals := 108 }
theorem d9_0 : decode method_3_code 0 = .ok (.iconst 3, 1) := by decide +kernel
theorem d9_1 : decode method_3_code 1 = .ok (.anewarray 14, 3) := by decide +kernel
theorem d9_4 : decode method_3_code 4 = .ok (.astore 9, 2) := by decide +kernel
theorem d9_6 : decode method_3_code 6 = .ok (.iconst 0, 1) := by decide +kernel
theorem d9_7 : decode method_3_code 7 = .ok (.istore 10, 2) := by decide +kernel
theorem d9_9 : decode method_3_code 9 = .ok (.iload_n 2, 1) := by decide +kernel
theorem d9_10 : decode method_3_code 10 = .ok (.ifCond .le 24, 3) := by decide +kernel
theorem d9_34 : decode method_3_code 34 = .ok (.iload_n 2, 1) := by decide +kernel
theorem d9_35 : decode method_3_code 35 = .ok (.iconst 1, 1) := by decide +kernel
theorem d9_36 : decode method_3_code 36 = .ok (.if_icmp .le 25, 3) := by decide +kernel
theorem d9_61 : decode method_3_code 61 = .ok (.iload_n 2, 1) := by decide +kernel
theorem d9_62 : decode method_3_code 62 = .ok (.iconst 2, 1) := by decide +kernel
theorem d9_63 : decode method_3_code 63 = .ok (.if_icmp .le 25, 3) := by decide +kernel
theorem d9_88 : decode method_3_code 88 = .ok (.aload_n 0, 1) := by decide +kernel
theorem d9_89 : decode method_3_code 89 = .ok (.iconst 0, 1) := by decide +kernel
theorem d9_90 : decode method_3_code 90 = .ok (.ldc 39, 2) := by decide +kernel
theorem d9_92 : decode method_3_code 92 = .ok (.iconst 1, 1) := by decide +kernel
theorem d9_93 : decode method_3_code 93 = .ok (.anewarray 9, 3) := by decide +kernel
theorem d9_96 : decode method_3_code 96 = .ok (.dup, 1) := by decide +kernel
theorem d9_97 : decode method_3_code 97 = .ok (.iconst 0, 1) := by decide +kernel
theorem d9_98 : decode method_3_code 98 = .ok (.aload_n 1, 1) := by decide +kernel
theorem d9_99 : decode method_3_code 99 = .ok (.aastore, 1) := by decide +kernel
theorem d9_100 : decode method_3_code 100 = .ok (.invokevirtual 41, 3) := by decide +kernel
theorem d9_103 : decode method_3_code 103 = .ok (.astore 11, 2) := by decide +kernel
theorem d9_105 : decode method_3_code 105 = .ok (.aload 11, 2) := by decide +kernel
theorem d9_107 : decode method_3_code 107 = .ok (.invokeinterface 45 1, 5) := by decide +kernel
theorem d9_112 : decode method_3_code 112 = .ok (.iload 10, 2) := by decide +kernel
theorem d9_114 : decode method_3_code 114 = .ok (.if_icmp .eq 5, 3) := by decide +kernel
theorem d9_119 : decode method_3_code 119 = .ok (.iconst 1, 1) := by decide +kernel
theorem d9_120 : decode method_3_code 120 = .ok (.istore 12, 2) := by decide +kernel
theorem d9_122 : decode method_3_code 122 = .ok (.iload 10, 2) := by decide +kernel
theorem d9_124 : decode method_3_code 124 = .ok (.ifCond .le 30, 3) := by decide +kernel
theorem d9_154 : decode method_3_code 154 = .ok (.iload 10, 2) := by decide +kernel
theorem d9_156 : decode method_3_code 156 = .ok (.iconst 1, 1) := by decide +kernel
theorem d9_157 : decode method_3_code 157 = .ok (.if_icmp .le 30, 3) := by decide +kernel
theorem d9_187 : decode method_3_code 187 = .ok (.iload 10, 2) := by decide +kernel
theorem d9_189 : decode method_3_code 189 = .ok (.iconst 2, 1) := by decide +kernel
theorem d9_190 : decode method_3_code 190 = .ok (.if_icmp .le 30, 3) := by decide +kernel
theorem d9_220 : decode method_3_code 220 = .ok (.iload 12, 2) := by decide +kernel
theorem d9_222 : decode method_3_code 222 = .ok (.ireturn, 1) := by decide +kernel
theorem pd9__ZLjava_lang_String__Ljava_lang_String__Ljava_util_List_ : parseMethodDescriptor "(ZLjava/lang/String;[Ljava/lang/String;)Ljava/util/List;" = some ⟨[.boolean, (.object "java/lang/String"), (.array (.object "java/lang/String"))], some (.object "java/util/List")⟩ := by decide +kernel
theorem pd9___I : parseMethodDescriptor "()I" = some ⟨[], some .int⟩ := by decide +kernel
theorem pn_9 : plainName "com/example/quire/quire/readers/ElementAddPinLaw" = true := by first | (simp [plainName, overriddenIn]; done) | decide +kernel
theorem ef_9 (m : MethodId) (x0 : Addr) (x1 : Addr) (x2 : Int32) (x3 : Addr) (x4 : Addr) (x5 : Addr) (x6 : Addr) (x7 : Addr) (x8 : Addr) : entryFrame m #[(.ref x0), (.ref x1), (.int x2), (.ref x3), (.ref x4), (.ref x5), (.ref x6), (.ref x7), (.ref x8)] 13 = mkF m 0 #[.val (.ref x0), .val (.ref x1), .val (.int x2), .val (.ref x3), .val (.ref x4), .val (.ref x5), .val (.ref x6), .val (.ref x7), .val (.ref x8), .unset, .unset, .unset, .unset] [] := by first | (simp [entryFrame, mkF, argsToLocals, Value.category]; done) | rfl
def Q9_0 (Z : State) (o0 : Addr) (o1 : Addr) (c1 : Addr) (s1 : Addr) (c2 : Addr) (s2 : Addr) (c3 : Addr) (s3 : Addr) (y : Int32) (cs : Int32) (w_e : Addr) (w_de : Addr) (k_de : ClassId) (h0 : Heap) (n0 : Nat) (v : Option Value) (h : Heap) (L : List Loc) : Prop := v = some (.int (1 : Int32)) ∧ Fr n0 L ∧ Keep h0 h []
set_option maxRecDepth 65536 in
set_option maxHeartbeats 40000000 in
theorem rm9_0 (l : Launch) (Z : State) (a0 : Array Value) (hw : ∀ d ∈ tables_1, d.before a0 Z = true) (ws : List Jvm.Cond) (o0 : Addr) (o1 : Addr) (c1 : Addr) (s1 : Addr) (c2 : Addr) (s2 : Addr) (c3 : Addr) (s3 : Addr) (y : Int32) (cs : Int32) (w_e : Addr) (w_de : Addr) (k_de : ClassId) (h0 : Heap) (n0 : Nat) (Z0 : n0 ≤ h0.size) (hKd : own_Kids Z h0 o0 []) (hq : own_St Z h0 o1 (1 : Int32) [(.int y)]) (S_cs : Sta Z h0 "java/lang/String" "COMPACT_STRINGS" "Z" (.int cs)) (hcs : ¬ cs = (0 : Int32)) (S_e : Sta Z h0 "java/util/ImmutableCollections" "EMPTY" "Ljava/lang/Object;" (.ref w_e)) (S_de : Sta Z h0 "java/util/ArrayList" "DEFAULTCAPACITY_EMPTY_ELEMENTDATA" "[Ljava/lang/Object;" (.ref w_de)) (V_de : Arv Z h0 w_de k_de (.object "java/lang/Object") (0 : Int32) [] .null) (own_EW : EW Z a0 consts_1) :
    MetFree l oN36 (head1 (Jvm.Cond.code oN36 method_3_code 13 (some .boolean) :: ws) oM9_0) (fun a U => a = #[(.ref o0), (.ref o1), (.int (0 : Int32)), (.ref c1), (.ref s1), (.ref c2), (.ref s2), (.ref c3), (.ref s3)] ∧ Z.Warmed39 U.vm ∧ U.heap = h0 ∧ CHv Z consts_1 U.vm h0) (fun _ _ _ _ _ => True) (fun _ U o U' => ∃ v L, o = .returned v ∧ Q9_0 Z o0 o1 c1 s1 c2 s2 c3 s3 y cs w_e w_de k_de h0 n0 v U'.heap L ∧ CHr Z consts_1 U.vm U.heap U'.vm U'.heap ∧ ReturnedEndW U o U' L oM9_0.cells oM9_0.slots) := by
  refine MetFree.of_bodySF (plainFor_of_name pn_9) hisR ?_
  intro p e s m args below meth c s₁ Bd hml0 hP hK
  obtain ⟨rfl, hZ, hh, hC0⟩ := hP
  have hx := Bd.exec
  have hby := Bd.bytes
  have hml : c.maxLocals = 13 := hml0
  have hown : s.vm.findClass "com/example/quire/quire/readers/ElementAddPinLaw" = some m.cls := findClass_of_methodNamed Bd.named
  have hnm := (name_of_methodNamed Bd.named Bd.method).1
  have X0 : Stand p l e oM9_0 (s.setVm s.vm) m #[(.ref o0), (.ref o1), (.int (0 : Int32)), (.ref c1), (.ref s1), (.ref c2), (.ref s2), (.ref c3), (.ref s3)] below meth c s₁ [] 0 0 := Stand.of_body Bd
  have e0 : s₁.heap = h0 := by rw [← hh, Bd.state]; rfl
  have N0 := Fr.nil n0
  have hS0 : s.Since s.vm 0 := (State.WarmedH.refl s).since 0
  have hZ : Z.Warmed39 (s.setVm s.vm).vm := hZ
  have hown : (s.setVm s.vm).vm.findClass "com/example/quire/quire/readers/ElementAddPinLaw" = some m.cls := hown
  have hCr : CHr Z consts_1 s.vm h0 s.vm h0 := CHr.refl hC0
  obtain ⟨F, hF⟩ : ∃ F : State → Prop, F = own_FinH Z consts_1 p e below s oM9_0.cells oM9_0.slots (fun v h L => Q9_0 Z o0 o1 c1 s1 c2 s2 c3 s3 y cs w_e w_de k_de h0 n0 v h L) := ⟨_, rfl⟩
  have bk : ∀ {A B : State}, (∀ t, Steps p.tables e below B t → Steps p.tables e below A t) → F B → F A := by
    intro A B h k
    rw [hF] at k ⊢
    exact own_backH h k
  suffices hgo : F (s₁.setTop (mkF m 0 #[.val (.ref o0), .val (.ref o1), .val (.int (0 : Int32)), .val (.ref c1), .val (.ref s1), .val (.ref c2), .val (.ref s2), .val (.ref c3), .val (.ref s3), .unset, .unset, .unset, .unset] [])) by
    have hgo' := bk (fun t k => castTop (T := s₁) (ef_9 m o0 o1 (0 : Int32) c1 s1 c2 s2 c3 s3) k) hgo
    rw [hF] at hgo'
    exact hgo'
  have own_wS : ∀ a ∈ Bundle.stringAtoms, a.before a0 Z = true := by
    intro a ha
    simp only [Bundle.stringAtoms, List.mem_cons, List.not_mem_nil, or_false] at ha
    rcases ha with rfl | rfl | rfl | rfl | rfl | rfl | rfl
    · exact (hw _ (List.mem_of_getElem? (i := 3) rfl))
    · exact (hw _ (List.mem_of_getElem? (i := 11) rfl))
    · exact (hw _ (List.mem_of_getElem? (i := 15) rfl))
    · exact (hw _ (List.mem_of_getElem? (i := 24) rfl))
    · exact (hw _ (List.mem_of_getElem? (i := 26) rfl))
    · exact (hw _ (List.mem_of_getElem? (i := 44) rfl))
    · exact (hw _ (List.mem_of_getElem? (i := 45) rfl))
  have w_11 := hw _ (List.mem_of_getElem? (i := 11) rfl)
  have w_27 := hw _ (List.mem_of_getElem? (i := 27) rfl)
  have w_28 := hw _ (List.mem_of_getElem? (i := 28) rfl)
  have w_29 := hw _ (List.mem_of_getElem? (i := 29) rfl)
  have w_64 := hw _ (List.mem_of_getElem? (i := 64) rfl)
  have w_65 := hw _ (List.mem_of_getElem? (i := 65) rfl)
  have w_66 := hw _ (List.mem_of_getElem? (i := 66) rfl)
  have w_67 := hw _ (List.mem_of_getElem? (i := 67) rfl)
  have w_68 := hw _ (List.mem_of_getElem? (i := 68) rfl)
  have w_69 := hw _ (List.mem_of_getElem? (i := 69) rfl)
  have w_70 := hw _ (List.mem_of_getElem? (i := 70) rfl)
  have w_71 := hw _ (List.mem_of_getElem? (i := 71) rfl)
  have w_72 := hw _ (List.mem_of_getElem? (i := 72) rfl)
  have w_115 := hw _ (List.mem_of_getElem? (i := 115) rfl)
  have w_133 := hw _ (List.mem_of_getElem? (i := 133) rfl)
  have w_134 := hw _ (List.mem_of_getElem? (i := 134) rfl)
  have w_156 := hw _ (List.mem_of_getElem? (i := 156) rfl)
  have w_157 := hw _ (List.mem_of_getElem? (i := 157) rfl)
  have w_158 := hw _ (List.mem_of_getElem? (i := 158) rfl)
  have w_159 := hw _ (List.mem_of_getElem? (i := 159) rfl)
  have w_160 := hw _ (List.mem_of_getElem? (i := 160) rfl)
  have w_161 := hw _ (List.mem_of_getElem? (i := 161) rfl)
  have w_162 := hw _ (List.mem_of_getElem? (i := 162) rfl)
  refine bk (fun t k => XS.iconst X0.here hx rfl (hb hby d9_0) k) ?_
  obtain ⟨T1, h1, k1, X1, e1, E1, A1, O1, st1⟩ := newR X0 hx hZ hown w_27 w_64 e0 (g := (mkF m 1 #[oR o0, oR o1, .val (.int (0 : Int32)), oR c1, oR s1, oR c2, oR s2, oR c3, oR s3, .unset, .unset, .unset, .unset] [(.int (3 : Int32))])) rfl (hb hby d9_1) rfl (by decide) (cap := 3) (by decide) (by decide) (by decide) (by decide)
  obtain ⟨b1, g1⟩ : ∃ z, z = h0.size := ⟨_, rfl⟩
  rw [← g1] at A1 st1
  have Gb1 : n0 ≤ b1 := Nat.le_trans Z0 (Nat.le_of_eq g1.symm)
  have sz_b1 : h0.size ≤ b1 := Nat.le_trans (Keep.refl h0 []).1 (Nat.le_of_eq g1.symm)
  have ne_w_de_b1 : w_de ≠ b1 := Nat.ne_of_lt (Nat.lt_of_lt_of_le V_de.lt (Nat.le_of_eq g1.symm))
  have ne_o0_b1 : o0 ≠ b1 := Nat.ne_of_lt (Nat.lt_of_lt_of_le hKd.1.lt (Nat.le_of_eq g1.symm))
  have ne_o1_b1 : o1 ≠ b1 := Nat.ne_of_lt (Nat.lt_of_lt_of_le hq.exa.lt (Nat.le_of_eq g1.symm))
  have f2 := hCr.trans (CHr.ext E1 hCr.1)
  have f3 := Nat.le_trans (Nat.zero_le _) E1.1
  have f4 := hKd.ext E1
  have f5 := hq.ext E1
  have f6 := S_cs.ext E1
  have f7 := S_de.ext E1
  have f8 := S_e.ext E1
  have f9 := V_de.ext E1
  have f10 := Nat.le_trans Z0 E1.1
  have f11 := (Keep.refl h0 []).ext E1
  have V_b1 : Arv Z h1 b1 k1 (.object "com/example/quire/quire/readers/Element") (3 : Int32) [.null, .null, .null] .null := (Arv.new A1 (by decide)).pad (pad_rep [] .null 3)
  refine bk (fun t k => st1 t k) ?_
  show F (T1.setTop (mkF m 4 #[oR o0, oR o1, .val (.int (0 : Int32)), oR c1, oR s1, oR c2, oR s2, oR c3, oR s3, .unset, .unset, .unset, .unset] [(.ref b1)]))
  refine bk (fun t k => XS.astore X1.here hx rfl (hb hby d9_4) rfl rfl (l' := #[oR o0, oR o1, .val (.int (0 : Int32)), oR c1, oR s1, oR c2, oR s2, oR c3, oR s3, oR b1, .unset, .unset, .unset]) rfl k) ?_
  have J88_0 : ∀ (TJ : State) (LJ : List Loc) (hJ : Heap) (XJ : Stand p l e oM9_0 (s.setVm s.vm) m #[(.ref o0), (.ref o1), (.int (0 : Int32)), (.ref c1), (.ref s1), (.ref c2), (.ref s2), (.ref c3), (.ref s3)] below meth c TJ LJ 1 3) (eJ : TJ.heap = hJ) (NJ : Fr n0 LJ) (jC : CHr Z consts_1 s.vm h0 s.vm hJ) (jK : own_Kids Z hJ o0 []) (jS : own_St Z hJ o1 (1 : Int32) [(.int y)]) (jcs : Sta Z hJ "java/lang/String" "COMPACT_STRINGS" "Z" (.int cs)) (jde : Sta Z hJ "java/util/ArrayList" "DEFAULTCAPACITY_EMPTY_ELEMENTDATA" "[Ljava/lang/Object;" (.ref w_de)) (je : Sta Z hJ "java/util/ImmutableCollections" "EMPTY" "Ljava/lang/Object;" (.ref w_e)) (jV : Arv Z hJ w_de k_de (.object "java/lang/Object") (0 : Int32) [] .null) (jZ : n0 ≤ hJ.size) (jKp : Keep h0 hJ []) (jX : Arv Z hJ b1 k1 (.object "com/example/quire/quire/readers/Element") (3 : Int32) [.null, .null, .null] .null) (jL : ([] : List Addr) = []), F (TJ.setTop (mkF m 88 #[oR o0, oR o1, .val (.int (0 : Int32)), oR c1, oR s1, oR c2, oR s2, oR c3, oR s3, oR b1, .val (.int (0 : Int32)), .unset, .unset] [])) := by
    intro TJ LJ hJ XJ eJ NJ jC jK jS jcs jde je jV jZ jKp jX jL
    refine bk (fun t k => XS.aloadN XJ.here hx rfl (hb hby d9_88) rfl rfl k) ?_
    refine bk (fun t k => XS.iconst XJ.here hx rfl (hb hby d9_89) k) ?_
    show F (TJ.setTop (mkF m 90 #[oR o0, oR o1, .val (.int (0 : Int32)), oR c1, oR s1, oR c2, oR s2, oR c3, oR s3, oR b1, .val (.int (0 : Int32)), .unset, .unset] [(.int (0 : Int32)), (.ref o0)]))
    obtain ⟨b12, T12, h12, k112, d12, kk12, X12, e12, E12, hS12, hk12, hZ12, hown12, A12, C12, V12, R12, -, -, CR12, LT12, sf12, st12⟩ := ldcCH XJ hx hZ hown w_65 own_wS eJ hS0 (Nat.zero_le _) own_EW (by simp [consts_1]) jC.1 (vs := []) (z := (0 : Int32)) ⟨by decide, rfl⟩ (by decide) (by decide) (g := (mkF m 90 #[oR o0, oR o1, .val (.int (0 : Int32)), oR c1, oR s1, oR c2, oR s2, oR c3, oR s3, oR b1, .val (.int (0 : Int32)), .unset, .unset] [(.int (0 : Int32)), (.ref o0)])) rfl (hb hby d9_90) (n := 0) (by decide) (by decide) (by decide) (by decide)
    have f13 := hk12
    have f14 := jC.trans CR12
    have f15 := jK.ext E12
    have f16 := jS.ext E12
    have f17 := jcs.ext E12
    have f18 := jde.ext E12
    have f19 := je.ext E12
    have f20 := jV.ext E12
    have f21 := Nat.le_trans jZ E12.1
    have f22 := jKp.ext E12
    have f23 := jX.ext E12
    refine bk (fun t k => st12 t k) ?_
    refine bk (fun t k => XS.iconst X12.here hx rfl (hb hby d9_92) k) ?_
    show F (T12.setTop (mkF m 93 #[oR o0, oR o1, .val (.int (0 : Int32)), oR c1, oR s1, oR c2, oR s2, oR c3, oR s3, oR b1, .val (.int (0 : Int32)), .unset, .unset] [(.int (1 : Int32)), (.ref b12), (.int (0 : Int32)), (.ref o0)]))
    obtain ⟨T24, h24, k24, X24, e24, E24, A24, O24, st24⟩ := newR X12 hx hZ12 hown12 w_66 w_67 e12 (g := (mkF m 93 #[oR o0, oR o1, .val (.int (0 : Int32)), oR c1, oR s1, oR c2, oR s2, oR c3, oR s3, oR b1, .val (.int (0 : Int32)), .unset, .unset] [(.int (1 : Int32)), (.ref b12), (.int (0 : Int32)), (.ref o0)])) rfl (hb hby d9_93) rfl (by decide) (cap := 1) (by decide) (by decide) (by decide) (by decide)
    obtain ⟨b24, g24⟩ : ∃ z, z = h12.size := ⟨_, rfl⟩
    rw [← g24] at A24 st24
    have Gb24 : n0 ≤ b24 := Nat.le_trans f21 (Nat.le_of_eq g24.symm)
    have sz_b24 : h0.size ≤ b24 := Nat.le_trans f22.1 (Nat.le_of_eq g24.symm)
    have ne_w_de_b24 : w_de ≠ b24 := Nat.ne_of_lt (Nat.lt_of_lt_of_le f20.lt (Nat.le_of_eq g24.symm))
    have ne_b1_b24 : b1 ≠ b24 := Nat.ne_of_lt (Nat.lt_of_lt_of_le f23.lt (Nat.le_of_eq g24.symm))
    have ne_o0_b24 : o0 ≠ b24 := Nat.ne_of_lt (Nat.lt_of_lt_of_le f15.1.lt (Nat.le_of_eq g24.symm))
    have ne_o1_b24 : o1 ≠ b24 := Nat.ne_of_lt (Nat.lt_of_lt_of_le f16.exa.lt (Nat.le_of_eq g24.symm))
    have ne_b12_b24 : b12 ≠ b24 := Nat.ne_of_lt (Nat.lt_of_lt_of_le A12.lt (Nat.le_of_eq g24.symm))
    have ne_d12_b24 : d12 ≠ b24 := Nat.ne_of_lt (Nat.lt_of_lt_of_le R12.lt (Nat.le_of_eq g24.symm))
    have f25 := Nat.le_trans f13 E24.1
    have f26 := f14.trans (CHr.ext E24 f14.1)
    have f27 := f15.ext E24
    have f28 := f16.ext E24
    have f29 := f17.ext E24
    have f30 := f18.ext E24
    have f31 := f19.ext E24
    have f32 := f20.ext E24
    have f33 := Nat.le_trans f21 E24.1
    have f34 := f22.ext E24
    have f35 := f23.ext E24
    have f36 := A12.ext E24
    have f37 := V12.ext E24
    have f38 := C12.ext E24
    have f39 := R12.ext E24
    have V_b24 : Arv Z h24 b24 k24 (.object "java/lang/String") (1 : Int32) [.null] .null := (Arv.new A24 (by decide)).pad (pad_rep [] .null 1)
    refine bk (fun t k => st24 t k) ?_
    refine bk (fun t k => XS.dup X24.here hx rfl (hb hby d9_96) rfl rfl k) ?_
    refine bk (fun t k => XS.iconst X24.here hx rfl (hb hby d9_97) k) ?_
    refine bk (fun t k => XS.aloadN X24.here hx rfl (hb hby d9_98) rfl rfl k) ?_
    show F (T24.setTop (mkF m 99 #[oR o0, oR o1, .val (.int (0 : Int32)), oR c1, oR s1, oR c2, oR s2, oR c3, oR s3, oR b1, .val (.int (0 : Int32)), .unset, .unset] [(.ref o1), (.int (0 : Int32)), (.ref b24), (.ref b24), (.ref b12), (.int (0 : Int32)), (.ref o0)]))
    have vv40 := V_b24
    obtain ⟨cl40, Ar40, q40, S40, M40, H40, G40⟩ := vv40
    have hin40 : ¬ ((0 : Int32) < 0 ∨ cl40.slots.size ≤ ((0 : Int32)).toNatClampNeg) := inb_of S40 ⟨by decide, by decide⟩
    obtain ⟨T40, h40, X40, e40, W40, st40⟩ := stR X24 hx hZ12 e24 Ar40 (j := (0 : Int32)) hin40 rfl (Sto.ofV Ar40 q40 O24 (Ins.self f28.exa)) (g := (mkF m 99 #[oR o0, oR o1, .val (.int (0 : Int32)), oR c1, oR s1, oR c2, oR s2, oR c3, oR s3, oR b1, .val (.int (0 : Int32)), .unset, .unset] [(.ref o1), (.int (0 : Int32)), (.ref b24), (.ref b24), (.ref b12), (.int (0 : Int32)), (.ref o0)])) rfl rfl (hb hby d9_99)
    have V_b24_40 : Arv Z h40 b24 k24 (.object "java/lang/String") (1 : Int32) [(.ref o1)] .null := Arv.set Ar40 q40 S40 M40 H40 G40 rfl W40 0 rfl (Nat.le_of_ble_eq_true rfl)
    have f41 := Nat.le_trans f25 (Keep.of_wr W40).1
    have f42 := f26.trans (CHr.wr W40 (own_safeV hZ12.alike V_b24 (by decide)) f26.1)
    have f43 := f27.keep (Keep.of_wr W40) (allS (own_nsV V_b24 (by decide) w_11) all0) (allS (own_neW V_b24 w_28) all0)
    have f44 := f28.keep (Keep.of_wr W40) (allS (own_nsV V_b24 (by decide) w_11) all0)
    have f45 := f29.wr W40
    have f46 := f30.wr W40
    have f47 := f31.wr W40
    have f48 := f32.other W40 ne_w_de_b24
    have f49 := Nat.le_trans f33 (Keep.of_wr W40).1
    have f50 := f34.wr W40 (Or.inr sz_b24)
    have f51 := f35.other W40 ne_b1_b24
    have f52 := f36.wr W40
    have f53 := f37.other W40 (Or.inl ne_b12_b24)
    have f54 := f38.other W40 (Or.inl ne_b12_b24)
    have f55 := f39.other W40 ne_d12_b24
    have N40 := Fr.snoc X40 NJ Gb24
    refine bk (fun t k => st40 t k) ?_
    show F (T40.setTop (mkF m 100 #[oR o0, oR o1, .val (.int (0 : Int32)), oR c1, oR s1, oR c2, oR s2, oR c3, oR s3, oR b1, .val (.int (0 : Int32)), .unset, .unset] [(.ref b24), (.ref b12), (.int (0 : Int32)), (.ref o0)]))
    obtain ⟨cq56, kq56, q56a, q56b, q56c⟩ := isOf hZ12 e40 (f43.1)
    obtain ⟨_, _, ⟨T56, L56, k56, n56⟩, -, X56, ⟨Lc56, hQ56, l56, y56, z56⟩, st56⟩ := X40.virtualBack hx (y := oN33) (z := oN33) hown12 (mvT hZ12 w_68) (mvT hZ12 w_69) (notFace_of_selects (args := #[]) (mvT hZ12 w_71)) (mvT hZ12 w_71) (mvT hZ12 w_70) (by decide) (backOf (W := 0) (rm10 l Z a0 hw [] o0 b12 b24 o1 k24 [] y cs w_e w_de k_de h40 n0 f49 (Nat.le_of_ble_eq_true rfl) f43 ⟨_, _, f52, f54, f53, f55⟩ f44 V_b24_40 f45 hcs f47 f46 f48) hZ12 w_72 w_29 (by decide) (by decide)) q56a q56c (g := (mkF m 100 #[oR o0, oR o1, .val (.int (0 : Int32)), oR c1, oR s1, oR c2, oR s2, oR c3, oR s3, oR b1, .val (.int (0 : Int32)), .unset, .unset] [(.ref b24), (.ref b12), (.int (0 : Int32)), (.ref o0)])) rfl (by rw [hml]; rfl) (Steps.refl _) (argsL := [(.int (0 : Int32)), (.ref b12), (.ref b24)]) (rest := []) (lenOf pd9__ZLjava_lang_String__Ljava_lang_String__Ljava_util_List_ rfl) rfl (by show 2 * 0 + _ ≤ _; exact Nat.le_of_eq rfl) (hb hby d9_100) (fun _ _ => ⟨rfl, e40, (by decide : 4 + 3 ≤ _), (by decide : 8 + 15 ≤ _)⟩)
    dsimp only [Pt.U, Pt.locs, Pt.cells, Pt.slots, oM10] at X56 l56 y56 z56 st56 hQ56
    subst l56 y56 z56
    obtain ⟨r56, rfl, N56q, K56, gL56⟩ := hQ56
    have N56 := Fr.app N40 N56q
    have f57 := Nat.le_trans f41 K56.1
    have f58 := f42.trans (CHr.keep K56 all0 f42.1)
    have f59 := f43.keep K56 all0 all0
    have f60 := f44.keep K56 all0
    have f61 := own_sta0 f45 K56
    have f62 := own_sta0 f46 K56
    have f63 := own_sta0 f47 K56
    have f64 := f48.keep K56 nin0
    have f65 := Nat.le_trans f49 K56.1
    have f66 := f50.trans K56 all0
    have f67 := f51.keep K56 nin0
    have f68 := f52.keep K56
    have f69 := f53.keep K56 nin0
    have f70 := f54.keep K56 nin0
    have f71 := f55.keep K56 nin0
    have f72 := V_b24_40.keep K56 nin0
    replace gL56 : own_AL Z T56.heap r56 w_de ([] : List Addr) := gL56
    rw [jL] at gL56
    have gL56' : own_AL Z T56.heap r56 w_de [] := gL56
    obtain ⟨gE56, gS56, gD56⟩ := gL56'
    refine bk (fun t k => st56.trans k) ?_
    show F (T56.setTop (mkF m 103 #[oR o0, oR o1, .val (.int (0 : Int32)), oR c1, oR s1, oR c2, oR s2, oR c3, oR s3, oR b1, .val (.int (0 : Int32)), .unset, .unset] [(.ref r56)]))
    refine bk (fun t k => XS.astore X56.here hx rfl (hb hby d9_103) rfl rfl (l' := #[oR o0, oR o1, .val (.int (0 : Int32)), oR c1, oR s1, oR c2, oR s2, oR c3, oR s3, oR b1, .val (.int (0 : Int32)), oR r56, .unset]) rfl k) ?_
    refine bk (fun t k => XS.aload X56.here hx rfl (hb hby d9_105) rfl rfl k) ?_
    obtain ⟨cq73, kq73, q73a, q73b, q73c⟩ := isOf hZ12 rfl (gE56)
    obtain ⟨_, _, ⟨T73, L73, k73, n73⟩, -, X73, ⟨Lc73, hQ73, l73, y73, z73⟩, st73⟩ := X56.interfaceBack hx (xi := oN34) (y := oN21) hown12 (mvT hZ12 w_156) (mvT hZ12 w_133) (mvT hZ12 w_134) (mvT hZ12 w_157) (mvT hZ12 w_158) (mvT hZ12 w_159) (mvT hZ12 w_160) (mvT hZ12 w_161) (by decide) (backOf (W := 0) (rm22 l Z a0 hw [] r56 (0 : Int32) T56.heap n0 f65 gS56) hZ12 w_162 w_115 (by decide) (by decide)) q73a q73b q73c (g := (mkF m 107 #[oR o0, oR o1, .val (.int (0 : Int32)), oR c1, oR s1, oR c2, oR s2, oR c3, oR s3, oR b1, .val (.int (0 : Int32)), oR r56, .unset] [(.ref r56)])) rfl (by rw [hml]; rfl) (Steps.refl _) (argsL := []) (rest := []) (lenOf pd9___I rfl) rfl (by show 2 * 0 + _ ≤ _; exact Nat.le_of_eq rfl) (hb hby d9_107) (fun _ _ => ⟨rfl, rfl, (by decide : 7 + 0 ≤ _), (by decide : 23 + 0 ≤ _)⟩)
    dsimp only [Pt.U, Pt.locs, Pt.cells, Pt.slots, oM22] at X73 l73 y73 z73 st73 hQ73
    subst l73 y73 z73
    obtain ⟨rfl, N73q, e73⟩ := hQ73
    have N73 := Fr.app N56 N73q
    refine bk (fun t k => st73.trans k) ?_
    refine bk (fun t k => XS.iload X73.here hx rfl (hb hby d9_112) rfl k) ?_
    show F (T73.setTop (mkF m 114 #[oR o0, oR o1, .val (.int (0 : Int32)), oR c1, oR s1, oR c2, oR s2, oR c3, oR s3, oR b1, .val (.int (0 : Int32)), oR r56, .unset] [(.int (0 : Int32)), (.int (0 : Int32))]))
    refine bk (fun t k => XS.icmpYes X73.here hx rfl (pc0 := 114) (pc' := 119) rfl (hb hby d9_114) rfl (teq (by decide : (0 : Int32) = (0 : Int32))).1 (by decide) (by decide) k) ?_
    refine bk (fun t k => XS.iconst X73.here hx rfl (hb hby d9_119) k) ?_
    refine bk (fun t k => XS.istore X73.here hx rfl (hb hby d9_120) rfl (l' := #[oR o0, oR o1, .val (.int (0 : Int32)), oR c1, oR s1, oR c2, oR s2, oR c3, oR s3, oR b1, .val (.int (0 : Int32)), oR r56, .val (.int (1 : Int32))]) rfl k) ?_
    refine bk (fun t k => XS.iload X73.here hx rfl (hb hby d9_122) rfl k) ?_
    show F (T73.setTop (mkF m 124 #[oR o0, oR o1, .val (.int (0 : Int32)), oR c1, oR s1, oR c2, oR s2, oR c3, oR s3, oR b1, .val (.int (0 : Int32)), oR r56, .val (.int (1 : Int32))] [(.int (0 : Int32))]))
    refine bk (fun t k => XS.ifYes X73.here hx rfl (pc0 := 124) (pc' := 154) rfl (hb hby d9_124) rfl ((if0 _ _).trans (flt (by decide : ¬ ((0 : Int32) < (0 : Int32)))).2.2.2) (by decide) (by decide) k) ?_
    refine bk (fun t k => XS.iload X73.here hx rfl (hb hby d9_154) rfl k) ?_
    refine bk (fun t k => XS.iconst X73.here hx rfl (hb hby d9_156) k) ?_
    show F (T73.setTop (mkF m 157 #[oR o0, oR o1, .val (.int (0 : Int32)), oR c1, oR s1, oR c2, oR s2, oR c3, oR s3, oR b1, .val (.int (0 : Int32)), oR r56, .val (.int (1 : Int32))] [(.int (1 : Int32)), (.int (0 : Int32))]))
    refine bk (fun t k => XS.icmpYes X73.here hx rfl (pc0 := 157) (pc' := 187) rfl (hb hby d9_157) rfl (flt (by decide : ¬ ((1 : Int32) < (0 : Int32)))).2.2.2 (by decide) (by decide) k) ?_
    refine bk (fun t k => XS.iload X73.here hx rfl (hb hby d9_187) rfl k) ?_
    refine bk (fun t k => XS.iconst X73.here hx rfl (hb hby d9_189) k) ?_
    show F (T73.setTop (mkF m 190 #[oR o0, oR o1, .val (.int (0 : Int32)), oR c1, oR s1, oR c2, oR s2, oR c3, oR s3, oR b1, .val (.int (0 : Int32)), oR r56, .val (.int (1 : Int32))] [(.int (2 : Int32)), (.int (0 : Int32))]))
    refine bk (fun t k => XS.icmpYes X73.here hx rfl (pc0 := 190) (pc' := 220) rfl (hb hby d9_190) rfl (flt (by decide : ¬ ((2 : Int32) < (0 : Int32)))).2.2.2 (by decide) (by decide) k) ?_
    refine bk (fun t k => XS.iload X73.here hx rfl (hb hby d9_220) rfl k) ?_
    rw [hF]
    refine own_retZH X73 hx hS12 (by rw [e73]; exact f57) hZ12 own_EW (by rw [hh, e73]; exact f58) Bd.notSynchronized Bd.returns (hb hby d9_222) (by decide) (by decide) ?_
    rw [e73]
    exact ⟨rfl, N73, f66⟩
  refine bk (fun t k => XS.iconst X1.here hx rfl (hb hby d9_6) k) ?_
  refine bk (fun t k => XS.istore X1.here hx rfl (hb hby d9_7) rfl (l' := #[oR o0, oR o1, .val (.int (0 : Int32)), oR c1, oR s1, oR c2, oR s2, oR c3, oR s3, oR b1, .val (.int (0 : Int32)), .unset, .unset]) rfl k) ?_
  refine bk (fun t k => XS.iloadN X1.here hx rfl (hb hby d9_9) rfl k) ?_
  show F (T1.setTop (mkF m 10 #[oR o0, oR o1, .val (.int (0 : Int32)), oR c1, oR s1, oR c2, oR s2, oR c3, oR s3, oR b1, .val (.int (0 : Int32)), .unset, .unset] [(.int (0 : Int32))]))
  refine bk (fun t k => XS.ifYes X1.here hx rfl (pc0 := 10) (pc' := 34) rfl (hb hby d9_10) rfl ((if0 _ _).trans (flt (by decide : ¬ ((0 : Int32) < (0 : Int32)))).2.2.2) (by decide) (by decide) k) ?_
  refine bk (fun t k => XS.iloadN X1.here hx rfl (hb hby d9_34) rfl k) ?_
  refine bk (fun t k => XS.iconst X1.here hx rfl (hb hby d9_35) k) ?_
  show F (T1.setTop (mkF m 36 #[oR o0, oR o1, .val (.int (0 : Int32)), oR c1, oR s1, oR c2, oR s2, oR c3, oR s3, oR b1, .val (.int (0 : Int32)), .unset, .unset] [(.int (1 : Int32)), (.int (0 : Int32))]))
  refine bk (fun t k => XS.icmpYes X1.here hx rfl (pc0 := 36) (pc' := 61) rfl (hb hby d9_36) rfl (flt (by decide : ¬ ((1 : Int32) < (0 : Int32)))).2.2.2 (by decide) (by decide) k) ?_
  refine bk (fun t k => XS.iloadN X1.here hx rfl (hb hby d9_61) rfl k) ?_
  refine bk (fun t k => XS.iconst X1.here hx rfl (hb hby d9_62) k) ?_
  show F (T1.setTop (mkF m 63 #[oR o0, oR o1, .val (.int (0 : Int32)), oR c1, oR s1, oR c2, oR s2, oR c3, oR s3, oR b1, .val (.int (0 : Int32)), .unset, .unset] [(.int (2 : Int32)), (.int (0 : Int32))]))
  refine bk (fun t k => XS.icmpYes X1.here hx rfl (pc0 := 63) (pc' := 88) rfl (hb hby d9_63) rfl (flt (by decide : ¬ ((2 : Int32) < (0 : Int32)))).2.2.2 (by decide) (by decide) k) ?_
  show F (T1.setTop (mkF m 88 #[oR o0, oR o1, .val (.int (0 : Int32)), oR c1, oR s1, oR c2, oR s2, oR c3, oR s3, oR b1, .val (.int (0 : Int32)), .unset, .unset] []))
  exact J88_0 _ _ _ X1 e1 N0  f2 f4 f5 f6 f7 f8 f9 f10 f11 V_b1 (rfl)
abbrev oM9_1 : Room := { frames := 7, cells := 7, slots := 23, locals := 108 }
theorem d9_13 : decode method_3_code 13 = .ok (.aload 4, 2) := by decide +kernel
theorem d9_15 : decode method_3_code 15 = .ok (.aload_n 1, 1) := by decide +kernel
theorem d9_16 : decode method_3_code 16 = .ok (.invokevirtual 35, 3) := by decide +kernel
theorem d9_19 : decode method_3_code 19 = .ok (.ifCond .eq 15, 3) := by decide +kernel
theorem d9_22 : decode method_3_code 22 = .ok (.aload 9, 2) := by decide +kernel
theorem d9_24 : decode method_3_code 24 = .ok (.iload 10, 2) := by decide +kernel
theorem d9_26 : decode method_3_code 26 = .ok (.aload_n 3, 1) := by decide +kernel
theorem d9_27 : decode method_3_code 27 = .ok (.aastore, 1) := by decide +kernel
theorem d9_28 : decode method_3_code 28 = .ok (.iload 10, 2) := by decide +kernel
theorem d9_30 : decode method_3_code 30 = .ok (.iconst 1, 1) := by decide +kernel
theorem d9_31 : decode method_3_code 31 = .ok (.iadd, 1) := by decide +kernel
theorem d9_32 : decode method_3_code 32 = .ok (.istore 10, 2) := by decide +kernel
theorem d9_127 : decode method_3_code 127 = .ok (.iload 12, 2) := by decide +kernel
theorem d9_129 : decode method_3_code 129 = .ok (.ifCond .eq 22, 3) := by decide +kernel
theorem d9_132 : decode method_3_code 132 = .ok (.aload 11, 2) := by decide +kernel
theorem d9_134 : decode method_3_code 134 = .ok (.iconst 0, 1) := by decide +kernel
theorem d9_135 : decode method_3_code 135 = .ok (.invokeinterface 51 2, 5) := by decide +kernel
theorem d9_140 : decode method_3_code 140 = .ok (.aload 9, 2) := by decide +kernel
theorem d9_142 : decode method_3_code 142 = .ok (.iconst 0, 1) := by decide +kernel
theorem d9_143 : decode method_3_code 143 = .ok (.aaload, 1) := by decide +kernel
theorem d9_144 : decode method_3_code 144 = .ok (.if_acmp .ne 7, 3) := by decide +kernel
theorem d9_147 : decode method_3_code 147 = .ok (.iconst 1, 1) := by decide +kernel
theorem d9_148 : decode method_3_code 148 = .ok (.goto 4, 3) := by decide +kernel
theorem d9_152 : decode method_3_code 152 = .ok (.istore 12, 2) := by decide +kernel
theorem pd9__I_Ljava_lang_Object_ : parseMethodDescriptor "(I)Ljava/lang/Object;" = some ⟨[.int], some (.object "java/lang/Object")⟩ := by decide +kernel
theorem pd9__Ljava_lang_Object__Z : parseMethodDescriptor "(Ljava/lang/Object;)Z" = some ⟨[(.object "java/lang/Object")], some .boolean⟩ := by decide +kernel
def Q9_1 (Z : State) (o0 : Addr) (o1 : Addr) (c1 : Addr) (s1 : Addr) (c2 : Addr) (s2 : Addr) (c3 : Addr) (s3 : Addr) (x1 : Int32) (y : Int32) (cs : Int32) (w_e : Addr) (w_de : Addr) (k_de : ClassId) (h0 : Heap) (n0 : Nat) (v : Option Value) (h : Heap) (L : List Loc) : Prop := v = some (.int (1 : Int32)) ∧ Fr n0 L ∧ Keep h0 h []
set_option maxRecDepth 65536 in
set_option maxHeartbeats 40000000 in
theorem rm9_1 (l : Launch) (Z : State) (a0 : Array Value) (hw : ∀ d ∈ tables_1, d.before a0 Z = true) (ws : List Jvm.Cond) (o0 : Addr) (o1 : Addr) (c1 : Addr) (s1 : Addr) (c2 : Addr) (s2 : Addr) (c3 : Addr) (s3 : Addr) (x1 : Int32) (y : Int32) (cs : Int32) (w_e : Addr) (w_de : Addr) (k_de : ClassId) (h0 : Heap) (n0 : Nat) (Z0 : n0 ≤ h0.size) (hKd : own_Kids Z h0 o0 [(c1, s1, x1)]) (hq : own_St Z h0 o1 (1 : Int32) [(.int y)]) (S_cs : Sta Z h0 "java/lang/String" "COMPACT_STRINGS" "Z" (.int cs)) (hcs : ¬ cs = (0 : Int32)) (S_e : Sta Z h0 "java/util/ImmutableCollections" "EMPTY" "Ljava/lang/Object;" (.ref w_e)) (S_de : Sta Z h0 "java/util/ArrayList" "DEFAULTCAPACITY_EMPTY_ELEMENTDATA" "[Ljava/lang/Object;" (.ref w_de)) (V_de : Arv Z h0 w_de k_de (.object "java/lang/Object") (0 : Int32) [] .null) (own_EW : EW Z a0 consts_1) :
    MetFree l oN36 (head1 (Jvm.Cond.code oN36 method_3_code 13 (some .boolean) :: ws) oM9_1) (fun a U => a = #[(.ref o0), (.ref o1), (.int (1 : Int32)), (.ref c1), (.ref s1), (.ref c2), (.ref s2), (.ref c3), (.ref s3)] ∧ Z.Warmed39 U.vm ∧ U.heap = h0 ∧ CHv Z consts_1 U.vm h0) (fun _ _ _ _ _ => True) (fun _ U o U' => ∃ v L, o = .returned v ∧ Q9_1 Z o0 o1 c1 s1 c2 s2 c3 s3 x1 y cs w_e w_de k_de h0 n0 v U'.heap L ∧ CHr Z consts_1 U.vm U.heap U'.vm U'.heap ∧ ReturnedEndW U o U' L oM9_1.cells oM9_1.slots) := by
  refine MetFree.of_bodySF (plainFor_of_name pn_9) hisR ?_
  intro p e s m args below meth c s₁ Bd hml0 hP hK
  obtain ⟨rfl, hZ, hh, hC0⟩ := hP
  have hx := Bd.exec
  have hby := Bd.bytes
  have hml : c.maxLocals = 13 := hml0
  have hown : s.vm.findClass "com/example/quire/quire/readers/ElementAddPinLaw" = some m.cls := findClass_of_methodNamed Bd.named
  have hnm := (name_of_methodNamed Bd.named Bd.method).1
  have X0 : Stand p l e oM9_1 (s.setVm s.vm) m #[(.ref o0), (.ref o1), (.int (1 : Int32)), (.ref c1), (.ref s1), (.ref c2), (.ref s2), (.ref c3), (.ref s3)] below meth c s₁ [] 0 0 := Stand.of_body Bd
  have e0 : s₁.heap = h0 := by rw [← hh, Bd.state]; rfl
  have N0 := Fr.nil n0
  have hS0 : s.Since s.vm 0 := (State.WarmedH.refl s).since 0
  have hZ : Z.Warmed39 (s.setVm s.vm).vm := hZ
  have hown : (s.setVm s.vm).vm.findClass "com/example/quire/quire/readers/ElementAddPinLaw" = some m.cls := hown
  have hCr : CHr Z consts_1 s.vm h0 s.vm h0 := CHr.refl hC0
  obtain ⟨F, hF⟩ : ∃ F : State → Prop, F = own_FinH Z consts_1 p e below s oM9_1.cells oM9_1.slots (fun v h L => Q9_1 Z o0 o1 c1 s1 c2 s2 c3 s3 x1 y cs w_e w_de k_de h0 n0 v h L) := ⟨_, rfl⟩
  have bk : ∀ {A B : State}, (∀ t, Steps p.tables e below B t → Steps p.tables e below A t) → F B → F A := by
    intro A B h k
    rw [hF] at k ⊢
    exact own_backH h k
  suffices hgo : F (s₁.setTop (mkF m 0 #[.val (.ref o0), .val (.ref o1), .val (.int (1 : Int32)), .val (.ref c1), .val (.ref s1), .val (.ref c2), .val (.ref s2), .val (.ref c3), .val (.ref s3), .unset, .unset, .unset, .unset] [])) by
    have hgo' := bk (fun t k => castTop (T := s₁) (ef_9 m o0 o1 (1 : Int32) c1 s1 c2 s2 c3 s3) k) hgo
    rw [hF] at hgo'
    exact hgo'
  have own_wS : ∀ a ∈ Bundle.stringAtoms, a.before a0 Z = true := by
    intro a ha
    simp only [Bundle.stringAtoms, List.mem_cons, List.not_mem_nil, or_false] at ha
    rcases ha with rfl | rfl | rfl | rfl | rfl | rfl | rfl
    · exact (hw _ (List.mem_of_getElem? (i := 3) rfl))
    · exact (hw _ (List.mem_of_getElem? (i := 11) rfl))
    · exact (hw _ (List.mem_of_getElem? (i := 15) rfl))
    · exact (hw _ (List.mem_of_getElem? (i := 24) rfl))
    · exact (hw _ (List.mem_of_getElem? (i := 26) rfl))
    · exact (hw _ (List.mem_of_getElem? (i := 44) rfl))
    · exact (hw _ (List.mem_of_getElem? (i := 45) rfl))
  have w_3 := hw _ (List.mem_of_getElem? (i := 3) rfl)
  have w_11 := hw _ (List.mem_of_getElem? (i := 11) rfl)
  have w_27 := hw _ (List.mem_of_getElem? (i := 27) rfl)
  have w_28 := hw _ (List.mem_of_getElem? (i := 28) rfl)
  have w_29 := hw _ (List.mem_of_getElem? (i := 29) rfl)
  have w_64 := hw _ (List.mem_of_getElem? (i := 64) rfl)
  have w_65 := hw _ (List.mem_of_getElem? (i := 65) rfl)
  have w_66 := hw _ (List.mem_of_getElem? (i := 66) rfl)
  have w_67 := hw _ (List.mem_of_getElem? (i := 67) rfl)
  have w_68 := hw _ (List.mem_of_getElem? (i := 68) rfl)
  have w_69 := hw _ (List.mem_of_getElem? (i := 69) rfl)
  have w_70 := hw _ (List.mem_of_getElem? (i := 70) rfl)
  have w_71 := hw _ (List.mem_of_getElem? (i := 71) rfl)
  have w_72 := hw _ (List.mem_of_getElem? (i := 72) rfl)
  have w_115 := hw _ (List.mem_of_getElem? (i := 115) rfl)
  have w_133 := hw _ (List.mem_of_getElem? (i := 133) rfl)
  have w_134 := hw _ (List.mem_of_getElem? (i := 134) rfl)
  have w_142 := hw _ (List.mem_of_getElem? (i := 142) rfl)
  have w_143 := hw _ (List.mem_of_getElem? (i := 143) rfl)
  have w_156 := hw _ (List.mem_of_getElem? (i := 156) rfl)
  have w_157 := hw _ (List.mem_of_getElem? (i := 157) rfl)
  have w_158 := hw _ (List.mem_of_getElem? (i := 158) rfl)
  have w_159 := hw _ (List.mem_of_getElem? (i := 159) rfl)
  have w_160 := hw _ (List.mem_of_getElem? (i := 160) rfl)
  have w_161 := hw _ (List.mem_of_getElem? (i := 161) rfl)
  have w_162 := hw _ (List.mem_of_getElem? (i := 162) rfl)
  have w_175 := hw _ (List.mem_of_getElem? (i := 175) rfl)
  have w_176 := hw _ (List.mem_of_getElem? (i := 176) rfl)
  have w_177 := hw _ (List.mem_of_getElem? (i := 177) rfl)
  have w_178 := hw _ (List.mem_of_getElem? (i := 178) rfl)
  have w_179 := hw _ (List.mem_of_getElem? (i := 179) rfl)
  have w_221 := hw _ (List.mem_of_getElem? (i := 221) rfl)
  have w_222 := hw _ (List.mem_of_getElem? (i := 222) rfl)
  have w_223 := hw _ (List.mem_of_getElem? (i := 223) rfl)
  have w_224 := hw _ (List.mem_of_getElem? (i := 224) rfl)
  have w_225 := hw _ (List.mem_of_getElem? (i := 225) rfl)
  have w_226 := hw _ (List.mem_of_getElem? (i := 226) rfl)
  refine bk (fun t k => XS.iconst X0.here hx rfl (hb hby d9_0) k) ?_
  obtain ⟨T1, h1, k1, X1, e1, E1, A1, O1, st1⟩ := newR X0 hx hZ hown w_27 w_64 e0 (g := (mkF m 1 #[oR o0, oR o1, .val (.int (1 : Int32)), oR c1, oR s1, oR c2, oR s2, oR c3, oR s3, .unset, .unset, .unset, .unset] [(.int (3 : Int32))])) rfl (hb hby d9_1) rfl (by decide) (cap := 3) (by decide) (by decide) (by decide) (by decide)
  obtain ⟨b1, g1⟩ : ∃ z, z = h0.size := ⟨_, rfl⟩
  rw [← g1] at A1 st1
  have Gb1 : n0 ≤ b1 := Nat.le_trans Z0 (Nat.le_of_eq g1.symm)
  have sz_b1 : h0.size ≤ b1 := Nat.le_trans (Keep.refl h0 []).1 (Nat.le_of_eq g1.symm)
  have ne_w_de_b1 : w_de ≠ b1 := Nat.ne_of_lt (Nat.lt_of_lt_of_le V_de.lt (Nat.le_of_eq g1.symm))
  have ne_c1_b1 : c1 ≠ b1 := Nat.ne_of_lt (Nat.lt_of_lt_of_le (own_Kids.ch hKd 0 rfl).1.lt (Nat.le_of_eq g1.symm))
  have ne_o0_b1 : o0 ≠ b1 := Nat.ne_of_lt (Nat.lt_of_lt_of_le hKd.1.lt (Nat.le_of_eq g1.symm))
  have ne_o1_b1 : o1 ≠ b1 := Nat.ne_of_lt (Nat.lt_of_lt_of_le hq.exa.lt (Nat.le_of_eq g1.symm))
  have f2 := hCr.trans (CHr.ext E1 hCr.1)
  have f3 := Nat.le_trans (Nat.zero_le _) E1.1
  have f4 := hKd.ext E1
  have f5 := hq.ext E1
  have f6 := S_cs.ext E1
  have f7 := S_de.ext E1
  have f8 := S_e.ext E1
  have f9 := V_de.ext E1
  have f10 := Nat.le_trans Z0 E1.1
  have f11 := (Keep.refl h0 []).ext E1
  have V_b1 : Arv Z h1 b1 k1 (.object "com/example/quire/quire/readers/Element") (3 : Int32) [.null, .null, .null] .null := (Arv.new A1 (by decide)).pad (pad_rep [] .null 3)
  refine bk (fun t k => st1 t k) ?_
  show F (T1.setTop (mkF m 4 #[oR o0, oR o1, .val (.int (1 : Int32)), oR c1, oR s1, oR c2, oR s2, oR c3, oR s3, .unset, .unset, .unset, .unset] [(.ref b1)]))
  refine bk (fun t k => XS.astore X1.here hx rfl (hb hby d9_4) rfl rfl (l' := #[oR o0, oR o1, .val (.int (1 : Int32)), oR c1, oR s1, oR c2, oR s2, oR c3, oR s3, oR b1, .unset, .unset, .unset]) rfl k) ?_
  have J88_0 : ∀ (TJ : State) (LJ : List Loc) (hJ : Heap) (XJ : Stand p l e oM9_1 (s.setVm s.vm) m #[(.ref o0), (.ref o1), (.int (1 : Int32)), (.ref c1), (.ref s1), (.ref c2), (.ref s2), (.ref c3), (.ref s3)] below meth c TJ LJ 1 3) (eJ : TJ.heap = hJ) (NJ : Fr n0 LJ) (jC : CHr Z consts_1 s.vm h0 s.vm hJ) (jK : own_Kids Z hJ o0 [(c1, s1, x1)]) (jS : own_St Z hJ o1 (1 : Int32) [(.int y)]) (jcs : Sta Z hJ "java/lang/String" "COMPACT_STRINGS" "Z" (.int cs)) (jde : Sta Z hJ "java/util/ArrayList" "DEFAULTCAPACITY_EMPTY_ELEMENTDATA" "[Ljava/lang/Object;" (.ref w_de)) (je : Sta Z hJ "java/util/ImmutableCollections" "EMPTY" "Ljava/lang/Object;" (.ref w_e)) (jV : Arv Z hJ w_de k_de (.object "java/lang/Object") (0 : Int32) [] .null) (jZ : n0 ≤ hJ.size) (jKp : Keep h0 hJ []) (jX : Arv Z hJ b1 k1 (.object "com/example/quire/quire/readers/Element") (3 : Int32) [.null, .null, .null] .null) (jL : (own_pick (own_beq x1 y) c1 ([] : List Addr)) = []), F (TJ.setTop (mkF m 88 #[oR o0, oR o1, .val (.int (1 : Int32)), oR c1, oR s1, oR c2, oR s2, oR c3, oR s3, oR b1, .val (.int (0 : Int32)), .unset, .unset] [])) := by
    intro TJ LJ hJ XJ eJ NJ jC jK jS jcs jde je jV jZ jKp jX jL
    refine bk (fun t k => XS.aloadN XJ.here hx rfl (hb hby d9_88) rfl rfl k) ?_
    refine bk (fun t k => XS.iconst XJ.here hx rfl (hb hby d9_89) k) ?_
    show F (TJ.setTop (mkF m 90 #[oR o0, oR o1, .val (.int (1 : Int32)), oR c1, oR s1, oR c2, oR s2, oR c3, oR s3, oR b1, .val (.int (0 : Int32)), .unset, .unset] [(.int (0 : Int32)), (.ref o0)]))
    obtain ⟨b12, T12, h12, k112, d12, kk12, X12, e12, E12, hS12, hk12, hZ12, hown12, A12, C12, V12, R12, -, -, CR12, LT12, sf12, st12⟩ := ldcCH XJ hx hZ hown w_65 own_wS eJ hS0 (Nat.zero_le _) own_EW (by simp [consts_1]) jC.1 (vs := []) (z := (0 : Int32)) ⟨by decide, rfl⟩ (by decide) (by decide) (g := (mkF m 90 #[oR o0, oR o1, .val (.int (1 : Int32)), oR c1, oR s1, oR c2, oR s2, oR c3, oR s3, oR b1, .val (.int (0 : Int32)), .unset, .unset] [(.int (0 : Int32)), (.ref o0)])) rfl (hb hby d9_90) (n := 0) (by decide) (by decide) (by decide) (by decide)
    have f13 := hk12
    have f14 := jC.trans CR12
    have f15 := jK.ext E12
    have f16 := jS.ext E12
    have f17 := jcs.ext E12
    have f18 := jde.ext E12
    have f19 := je.ext E12
    have f20 := jV.ext E12
    have f21 := Nat.le_trans jZ E12.1
    have f22 := jKp.ext E12
    have f23 := jX.ext E12
    refine bk (fun t k => st12 t k) ?_
    refine bk (fun t k => XS.iconst X12.here hx rfl (hb hby d9_92) k) ?_
    show F (T12.setTop (mkF m 93 #[oR o0, oR o1, .val (.int (1 : Int32)), oR c1, oR s1, oR c2, oR s2, oR c3, oR s3, oR b1, .val (.int (0 : Int32)), .unset, .unset] [(.int (1 : Int32)), (.ref b12), (.int (0 : Int32)), (.ref o0)]))
    obtain ⟨T24, h24, k24, X24, e24, E24, A24, O24, st24⟩ := newR X12 hx hZ12 hown12 w_66 w_67 e12 (g := (mkF m 93 #[oR o0, oR o1, .val (.int (1 : Int32)), oR c1, oR s1, oR c2, oR s2, oR c3, oR s3, oR b1, .val (.int (0 : Int32)), .unset, .unset] [(.int (1 : Int32)), (.ref b12), (.int (0 : Int32)), (.ref o0)])) rfl (hb hby d9_93) rfl (by decide) (cap := 1) (by decide) (by decide) (by decide) (by decide)
    obtain ⟨b24, g24⟩ : ∃ z, z = h12.size := ⟨_, rfl⟩
    rw [← g24] at A24 st24
    have Gb24 : n0 ≤ b24 := Nat.le_trans f21 (Nat.le_of_eq g24.symm)
    have sz_b24 : h0.size ≤ b24 := Nat.le_trans f22.1 (Nat.le_of_eq g24.symm)
    have ne_w_de_b24 : w_de ≠ b24 := Nat.ne_of_lt (Nat.lt_of_lt_of_le f20.lt (Nat.le_of_eq g24.symm))
    have ne_b1_b24 : b1 ≠ b24 := Nat.ne_of_lt (Nat.lt_of_lt_of_le f23.lt (Nat.le_of_eq g24.symm))
    have ne_c1_b24 : c1 ≠ b24 := Nat.ne_of_lt (Nat.lt_of_lt_of_le (own_Kids.ch f15 0 rfl).1.lt (Nat.le_of_eq g24.symm))
    have ne_o0_b24 : o0 ≠ b24 := Nat.ne_of_lt (Nat.lt_of_lt_of_le f15.1.lt (Nat.le_of_eq g24.symm))
    have ne_o1_b24 : o1 ≠ b24 := Nat.ne_of_lt (Nat.lt_of_lt_of_le f16.exa.lt (Nat.le_of_eq g24.symm))
    have ne_b12_b24 : b12 ≠ b24 := Nat.ne_of_lt (Nat.lt_of_lt_of_le A12.lt (Nat.le_of_eq g24.symm))
    have ne_d12_b24 : d12 ≠ b24 := Nat.ne_of_lt (Nat.lt_of_lt_of_le R12.lt (Nat.le_of_eq g24.symm))
    have f25 := Nat.le_trans f13 E24.1
    have f26 := f14.trans (CHr.ext E24 f14.1)
    have f27 := f15.ext E24
    have f28 := f16.ext E24
    have f29 := f17.ext E24
    have f30 := f18.ext E24
    have f31 := f19.ext E24
    have f32 := f20.ext E24
    have f33 := Nat.le_trans f21 E24.1
    have f34 := f22.ext E24
    have f35 := f23.ext E24
    have f36 := A12.ext E24
    have f37 := V12.ext E24
    have f38 := C12.ext E24
    have f39 := R12.ext E24
    have V_b24 : Arv Z h24 b24 k24 (.object "java/lang/String") (1 : Int32) [.null] .null := (Arv.new A24 (by decide)).pad (pad_rep [] .null 1)
    refine bk (fun t k => st24 t k) ?_
    refine bk (fun t k => XS.dup X24.here hx rfl (hb hby d9_96) rfl rfl k) ?_
    refine bk (fun t k => XS.iconst X24.here hx rfl (hb hby d9_97) k) ?_
    refine bk (fun t k => XS.aloadN X24.here hx rfl (hb hby d9_98) rfl rfl k) ?_
    show F (T24.setTop (mkF m 99 #[oR o0, oR o1, .val (.int (1 : Int32)), oR c1, oR s1, oR c2, oR s2, oR c3, oR s3, oR b1, .val (.int (0 : Int32)), .unset, .unset] [(.ref o1), (.int (0 : Int32)), (.ref b24), (.ref b24), (.ref b12), (.int (0 : Int32)), (.ref o0)]))
    have vv40 := V_b24
    obtain ⟨cl40, Ar40, q40, S40, M40, H40, G40⟩ := vv40
    have hin40 : ¬ ((0 : Int32) < 0 ∨ cl40.slots.size ≤ ((0 : Int32)).toNatClampNeg) := inb_of S40 ⟨by decide, by decide⟩
    obtain ⟨T40, h40, X40, e40, W40, st40⟩ := stR X24 hx hZ12 e24 Ar40 (j := (0 : Int32)) hin40 rfl (Sto.ofV Ar40 q40 O24 (Ins.self f28.exa)) (g := (mkF m 99 #[oR o0, oR o1, .val (.int (1 : Int32)), oR c1, oR s1, oR c2, oR s2, oR c3, oR s3, oR b1, .val (.int (0 : Int32)), .unset, .unset] [(.ref o1), (.int (0 : Int32)), (.ref b24), (.ref b24), (.ref b12), (.int (0 : Int32)), (.ref o0)])) rfl rfl (hb hby d9_99)
    have V_b24_40 : Arv Z h40 b24 k24 (.object "java/lang/String") (1 : Int32) [(.ref o1)] .null := Arv.set Ar40 q40 S40 M40 H40 G40 rfl W40 0 rfl (Nat.le_of_ble_eq_true rfl)
    have f41 := Nat.le_trans f25 (Keep.of_wr W40).1
    have f42 := f26.trans (CHr.wr W40 (own_safeV hZ12.alike V_b24 (by decide)) f26.1)
    have f43 := f27.keep (Keep.of_wr W40) (allS (own_nsV V_b24 (by decide) w_11) all0) (allS (own_neW V_b24 w_28) all0)
    have f44 := f28.keep (Keep.of_wr W40) (allS (own_nsV V_b24 (by decide) w_11) all0)
    have f45 := f29.wr W40
    have f46 := f30.wr W40
    have f47 := f31.wr W40
    have f48 := f32.other W40 ne_w_de_b24
    have f49 := Nat.le_trans f33 (Keep.of_wr W40).1
    have f50 := f34.wr W40 (Or.inr sz_b24)
    have f51 := f35.other W40 ne_b1_b24
    have f52 := f36.wr W40
    have f53 := f37.other W40 (Or.inl ne_b12_b24)
    have f54 := f38.other W40 (Or.inl ne_b12_b24)
    have f55 := f39.other W40 ne_d12_b24
    have N40 := Fr.snoc X40 NJ Gb24
    refine bk (fun t k => st40 t k) ?_
    show F (T40.setTop (mkF m 100 #[oR o0, oR o1, .val (.int (1 : Int32)), oR c1, oR s1, oR c2, oR s2, oR c3, oR s3, oR b1, .val (.int (0 : Int32)), .unset, .unset] [(.ref b24), (.ref b12), (.int (0 : Int32)), (.ref o0)]))
    obtain ⟨cq56, kq56, q56a, q56b, q56c⟩ := isOf hZ12 e40 (f43.1)
    obtain ⟨_, _, ⟨T56, L56, k56, n56⟩, -, X56, ⟨Lc56, hQ56, l56, y56, z56⟩, st56⟩ := X40.virtualBack hx (y := oN33) (z := oN33) hown12 (mvT hZ12 w_68) (mvT hZ12 w_69) (notFace_of_selects (args := #[]) (mvT hZ12 w_71)) (mvT hZ12 w_71) (mvT hZ12 w_70) (by decide) (backOf (W := 0) (rm10 l Z a0 hw [] o0 b12 b24 o1 k24 [(c1, s1, x1)] y cs w_e w_de k_de h40 n0 f49 (Nat.le_of_ble_eq_true rfl) f43 ⟨_, _, f52, f54, f53, f55⟩ f44 V_b24_40 f45 hcs f47 f46 f48) hZ12 w_72 w_29 (by decide) (by decide)) q56a q56c (g := (mkF m 100 #[oR o0, oR o1, .val (.int (1 : Int32)), oR c1, oR s1, oR c2, oR s2, oR c3, oR s3, oR b1, .val (.int (0 : Int32)), .unset, .unset] [(.ref b24), (.ref b12), (.int (0 : Int32)), (.ref o0)])) rfl (by rw [hml]; rfl) (Steps.refl _) (argsL := [(.int (0 : Int32)), (.ref b12), (.ref b24)]) (rest := []) (lenOf pd9__ZLjava_lang_String__Ljava_lang_String__Ljava_util_List_ rfl) rfl (by show 2 * 0 + _ ≤ _; exact Nat.le_of_eq rfl) (hb hby d9_100) (fun _ _ => ⟨rfl, e40, (by decide : 4 + 3 ≤ _), (by decide : 8 + 15 ≤ _)⟩)
    dsimp only [Pt.U, Pt.locs, Pt.cells, Pt.slots, oM10] at X56 l56 y56 z56 st56 hQ56
    subst l56 y56 z56
    obtain ⟨r56, rfl, N56q, K56, gL56⟩ := hQ56
    have N56 := Fr.app N40 N56q
    have f57 := Nat.le_trans f41 K56.1
    have f58 := f42.trans (CHr.keep K56 all0 f42.1)
    have f59 := f43.keep K56 all0 all0
    have f60 := f44.keep K56 all0
    have f61 := own_sta0 f45 K56
    have f62 := own_sta0 f46 K56
    have f63 := own_sta0 f47 K56
    have f64 := f48.keep K56 nin0
    have f65 := Nat.le_trans f49 K56.1
    have f66 := f50.trans K56 all0
    have f67 := f51.keep K56 nin0
    have f68 := f52.keep K56
    have f69 := f53.keep K56 nin0
    have f70 := f54.keep K56 nin0
    have f71 := f55.keep K56 nin0
    have f72 := V_b24_40.keep K56 nin0
    replace gL56 : own_AL Z T56.heap r56 w_de (own_pick (own_beq x1 y) c1 ([] : List Addr)) := gL56
    rw [jL] at gL56
    have gL56' : own_AL Z T56.heap r56 w_de [] := gL56
    obtain ⟨gE56, gS56, gD56⟩ := gL56'
    refine bk (fun t k => st56.trans k) ?_
    show F (T56.setTop (mkF m 103 #[oR o0, oR o1, .val (.int (1 : Int32)), oR c1, oR s1, oR c2, oR s2, oR c3, oR s3, oR b1, .val (.int (0 : Int32)), .unset, .unset] [(.ref r56)]))
    refine bk (fun t k => XS.astore X56.here hx rfl (hb hby d9_103) rfl rfl (l' := #[oR o0, oR o1, .val (.int (1 : Int32)), oR c1, oR s1, oR c2, oR s2, oR c3, oR s3, oR b1, .val (.int (0 : Int32)), oR r56, .unset]) rfl k) ?_
    refine bk (fun t k => XS.aload X56.here hx rfl (hb hby d9_105) rfl rfl k) ?_
    obtain ⟨cq73, kq73, q73a, q73b, q73c⟩ := isOf hZ12 rfl (gE56)
    obtain ⟨_, _, ⟨T73, L73, k73, n73⟩, -, X73, ⟨Lc73, hQ73, l73, y73, z73⟩, st73⟩ := X56.interfaceBack hx (xi := oN34) (y := oN21) hown12 (mvT hZ12 w_156) (mvT hZ12 w_133) (mvT hZ12 w_134) (mvT hZ12 w_157) (mvT hZ12 w_158) (mvT hZ12 w_159) (mvT hZ12 w_160) (mvT hZ12 w_161) (by decide) (backOf (W := 0) (rm22 l Z a0 hw [] r56 (0 : Int32) T56.heap n0 f65 gS56) hZ12 w_162 w_115 (by decide) (by decide)) q73a q73b q73c (g := (mkF m 107 #[oR o0, oR o1, .val (.int (1 : Int32)), oR c1, oR s1, oR c2, oR s2, oR c3, oR s3, oR b1, .val (.int (0 : Int32)), oR r56, .unset] [(.ref r56)])) rfl (by rw [hml]; rfl) (Steps.refl _) (argsL := []) (rest := []) (lenOf pd9___I rfl) rfl (by show 2 * 0 + _ ≤ _; exact Nat.le_of_eq rfl) (hb hby d9_107) (fun _ _ => ⟨rfl, rfl, (by decide : 7 + 0 ≤ _), (by decide : 23 + 0 ≤ _)⟩)
    dsimp only [Pt.U, Pt.locs, Pt.cells, Pt.slots, oM22] at X73 l73 y73 z73 st73 hQ73
    subst l73 y73 z73
    obtain ⟨rfl, N73q, e73⟩ := hQ73
    have N73 := Fr.app N56 N73q
    refine bk (fun t k => st73.trans k) ?_
    refine bk (fun t k => XS.iload X73.here hx rfl (hb hby d9_112) rfl k) ?_
    show F (T73.setTop (mkF m 114 #[oR o0, oR o1, .val (.int (1 : Int32)), oR c1, oR s1, oR c2, oR s2, oR c3, oR s3, oR b1, .val (.int (0 : Int32)), oR r56, .unset] [(.int (0 : Int32)), (.int (0 : Int32))]))
    refine bk (fun t k => XS.icmpYes X73.here hx rfl (pc0 := 114) (pc' := 119) rfl (hb hby d9_114) rfl (teq (by decide : (0 : Int32) = (0 : Int32))).1 (by decide) (by decide) k) ?_
    refine bk (fun t k => XS.iconst X73.here hx rfl (hb hby d9_119) k) ?_
    refine bk (fun t k => XS.istore X73.here hx rfl (hb hby d9_120) rfl (l' := #[oR o0, oR o1, .val (.int (1 : Int32)), oR c1, oR s1, oR c2, oR s2, oR c3, oR s3, oR b1, .val (.int (0 : Int32)), oR r56, .val (.int (1 : Int32))]) rfl k) ?_
    refine bk (fun t k => XS.iload X73.here hx rfl (hb hby d9_122) rfl k) ?_
    show F (T73.setTop (mkF m 124 #[oR o0, oR o1, .val (.int (1 : Int32)), oR c1, oR s1, oR c2, oR s2, oR c3, oR s3, oR b1, .val (.int (0 : Int32)), oR r56, .val (.int (1 : Int32))] [(.int (0 : Int32))]))
    refine bk (fun t k => XS.ifYes X73.here hx rfl (pc0 := 124) (pc' := 154) rfl (hb hby d9_124) rfl ((if0 _ _).trans (flt (by decide : ¬ ((0 : Int32) < (0 : Int32)))).2.2.2) (by decide) (by decide) k) ?_
    refine bk (fun t k => XS.iload X73.here hx rfl (hb hby d9_154) rfl k) ?_
    refine bk (fun t k => XS.iconst X73.here hx rfl (hb hby d9_156) k) ?_
    show F (T73.setTop (mkF m 157 #[oR o0, oR o1, .val (.int (1 : Int32)), oR c1, oR s1, oR c2, oR s2, oR c3, oR s3, oR b1, .val (.int (0 : Int32)), oR r56, .val (.int (1 : Int32))] [(.int (1 : Int32)), (.int (0 : Int32))]))
    refine bk (fun t k => XS.icmpYes X73.here hx rfl (pc0 := 157) (pc' := 187) rfl (hb hby d9_157) rfl (flt (by decide : ¬ ((1 : Int32) < (0 : Int32)))).2.2.2 (by decide) (by decide) k) ?_
    refine bk (fun t k => XS.iload X73.here hx rfl (hb hby d9_187) rfl k) ?_
    refine bk (fun t k => XS.iconst X73.here hx rfl (hb hby d9_189) k) ?_
    show F (T73.setTop (mkF m 190 #[oR o0, oR o1, .val (.int (1 : Int32)), oR c1, oR s1, oR c2, oR s2, oR c3, oR s3, oR b1, .val (.int (0 : Int32)), oR r56, .val (.int (1 : Int32))] [(.int (2 : Int32)), (.int (0 : Int32))]))
    refine bk (fun t k => XS.icmpYes X73.here hx rfl (pc0 := 190) (pc' := 220) rfl (hb hby d9_190) rfl (flt (by decide : ¬ ((2 : Int32) < (0 : Int32)))).2.2.2 (by decide) (by decide) k) ?_
    refine bk (fun t k => XS.iload X73.here hx rfl (hb hby d9_220) rfl k) ?_
    rw [hF]
    refine own_retZH X73 hx hS12 (by rw [e73]; exact f57) hZ12 own_EW (by rw [hh, e73]; exact f58) Bd.notSynchronized Bd.returns (hb hby d9_222) (by decide) (by decide) ?_
    rw [e73]
    exact ⟨rfl, N73, f66⟩
  have J88_1 : ∀ (TJ : State) (LJ : List Loc) (hJ : Heap) (XJ : Stand p l e oM9_1 (s.setVm s.vm) m #[(.ref o0), (.ref o1), (.int (1 : Int32)), (.ref c1), (.ref s1), (.ref c2), (.ref s2), (.ref c3), (.ref s3)] below meth c TJ LJ 1 3) (eJ : TJ.heap = hJ) (NJ : Fr n0 LJ) (j0 : Addr) (jC : CHr Z consts_1 s.vm h0 s.vm hJ) (jK : own_Kids Z hJ o0 [(c1, s1, x1)]) (jS : own_St Z hJ o1 (1 : Int32) [(.int y)]) (jcs : Sta Z hJ "java/lang/String" "COMPACT_STRINGS" "Z" (.int cs)) (jde : Sta Z hJ "java/util/ArrayList" "DEFAULTCAPACITY_EMPTY_ELEMENTDATA" "[Ljava/lang/Object;" (.ref w_de)) (je : Sta Z hJ "java/util/ImmutableCollections" "EMPTY" "Ljava/lang/Object;" (.ref w_e)) (jV : Arv Z hJ w_de k_de (.object "java/lang/Object") (0 : Int32) [] .null) (jZ : n0 ≤ hJ.size) (jKp : Keep h0 hJ []) (jX : Arv Z hJ b1 k1 (.object "com/example/quire/quire/readers/Element") (3 : Int32) [(.ref j0), .null, .null] .null) (jL : (own_pick (own_beq x1 y) c1 ([] : List Addr)) = [j0]), F (TJ.setTop (mkF m 88 #[oR o0, oR o1, .val (.int (1 : Int32)), oR c1, oR s1, oR c2, oR s2, oR c3, oR s3, oR b1, .val (.int (1 : Int32)), .unset, .unset] [])) := by
    intro TJ LJ hJ XJ eJ NJ j0 jC jK jS jcs jde je jV jZ jKp jX jL
    refine bk (fun t k => XS.aloadN XJ.here hx rfl (hb hby d9_88) rfl rfl k) ?_
    refine bk (fun t k => XS.iconst XJ.here hx rfl (hb hby d9_89) k) ?_
    show F (TJ.setTop (mkF m 90 #[oR o0, oR o1, .val (.int (1 : Int32)), oR c1, oR s1, oR c2, oR s2, oR c3, oR s3, oR b1, .val (.int (1 : Int32)), .unset, .unset] [(.int (0 : Int32)), (.ref o0)]))
    obtain ⟨b74, T74, h74, k174, d74, kk74, X74, e74, E74, hS74, hk74, hZ74, hown74, A74, C74, V74, R74, -, -, CR74, LT74, sf74, st74⟩ := ldcCH XJ hx hZ hown w_65 own_wS eJ hS0 (Nat.zero_le _) own_EW (by simp [consts_1]) jC.1 (vs := []) (z := (0 : Int32)) ⟨by decide, rfl⟩ (by decide) (by decide) (g := (mkF m 90 #[oR o0, oR o1, .val (.int (1 : Int32)), oR c1, oR s1, oR c2, oR s2, oR c3, oR s3, oR b1, .val (.int (1 : Int32)), .unset, .unset] [(.int (0 : Int32)), (.ref o0)])) rfl (hb hby d9_90) (n := 0) (by decide) (by decide) (by decide) (by decide)
    have f75 := hk74
    have f76 := jC.trans CR74
    have f77 := jK.ext E74
    have f78 := jS.ext E74
    have f79 := jcs.ext E74
    have f80 := jde.ext E74
    have f81 := je.ext E74
    have f82 := jV.ext E74
    have f83 := Nat.le_trans jZ E74.1
    have f84 := jKp.ext E74
    have f85 := jX.ext E74
    refine bk (fun t k => st74 t k) ?_
    refine bk (fun t k => XS.iconst X74.here hx rfl (hb hby d9_92) k) ?_
    show F (T74.setTop (mkF m 93 #[oR o0, oR o1, .val (.int (1 : Int32)), oR c1, oR s1, oR c2, oR s2, oR c3, oR s3, oR b1, .val (.int (1 : Int32)), .unset, .unset] [(.int (1 : Int32)), (.ref b74), (.int (0 : Int32)), (.ref o0)]))
    obtain ⟨T86, h86, k86, X86, e86, E86, A86, O86, st86⟩ := newR X74 hx hZ74 hown74 w_66 w_67 e74 (g := (mkF m 93 #[oR o0, oR o1, .val (.int (1 : Int32)), oR c1, oR s1, oR c2, oR s2, oR c3, oR s3, oR b1, .val (.int (1 : Int32)), .unset, .unset] [(.int (1 : Int32)), (.ref b74), (.int (0 : Int32)), (.ref o0)])) rfl (hb hby d9_93) rfl (by decide) (cap := 1) (by decide) (by decide) (by decide) (by decide)
    obtain ⟨b86, g86⟩ : ∃ z, z = h74.size := ⟨_, rfl⟩
    rw [← g86] at A86 st86
    have Gb86 : n0 ≤ b86 := Nat.le_trans f83 (Nat.le_of_eq g86.symm)
    have sz_b86 : h0.size ≤ b86 := Nat.le_trans f84.1 (Nat.le_of_eq g86.symm)
    have ne_w_de_b86 : w_de ≠ b86 := Nat.ne_of_lt (Nat.lt_of_lt_of_le f82.lt (Nat.le_of_eq g86.symm))
    have ne_b1_b86 : b1 ≠ b86 := Nat.ne_of_lt (Nat.lt_of_lt_of_le f85.lt (Nat.le_of_eq g86.symm))
    have ne_c1_b86 : c1 ≠ b86 := Nat.ne_of_lt (Nat.lt_of_lt_of_le (own_Kids.ch f77 0 rfl).1.lt (Nat.le_of_eq g86.symm))
    have ne_o0_b86 : o0 ≠ b86 := Nat.ne_of_lt (Nat.lt_of_lt_of_le f77.1.lt (Nat.le_of_eq g86.symm))
    have ne_o1_b86 : o1 ≠ b86 := Nat.ne_of_lt (Nat.lt_of_lt_of_le f78.exa.lt (Nat.le_of_eq g86.symm))
    have ne_b74_b86 : b74 ≠ b86 := Nat.ne_of_lt (Nat.lt_of_lt_of_le A74.lt (Nat.le_of_eq g86.symm))
    have ne_d74_b86 : d74 ≠ b86 := Nat.ne_of_lt (Nat.lt_of_lt_of_le R74.lt (Nat.le_of_eq g86.symm))
    have f87 := Nat.le_trans f75 E86.1
    have f88 := f76.trans (CHr.ext E86 f76.1)
    have f89 := f77.ext E86
    have f90 := f78.ext E86
    have f91 := f79.ext E86
    have f92 := f80.ext E86
    have f93 := f81.ext E86
    have f94 := f82.ext E86
    have f95 := Nat.le_trans f83 E86.1
    have f96 := f84.ext E86
    have f97 := f85.ext E86
    have f98 := A74.ext E86
    have f99 := V74.ext E86
    have f100 := C74.ext E86
    have f101 := R74.ext E86
    have V_b86 : Arv Z h86 b86 k86 (.object "java/lang/String") (1 : Int32) [.null] .null := (Arv.new A86 (by decide)).pad (pad_rep [] .null 1)
    refine bk (fun t k => st86 t k) ?_
    refine bk (fun t k => XS.dup X86.here hx rfl (hb hby d9_96) rfl rfl k) ?_
    refine bk (fun t k => XS.iconst X86.here hx rfl (hb hby d9_97) k) ?_
    refine bk (fun t k => XS.aloadN X86.here hx rfl (hb hby d9_98) rfl rfl k) ?_
    show F (T86.setTop (mkF m 99 #[oR o0, oR o1, .val (.int (1 : Int32)), oR c1, oR s1, oR c2, oR s2, oR c3, oR s3, oR b1, .val (.int (1 : Int32)), .unset, .unset] [(.ref o1), (.int (0 : Int32)), (.ref b86), (.ref b86), (.ref b74), (.int (0 : Int32)), (.ref o0)]))
    have vv102 := V_b86
    obtain ⟨cl102, Ar102, q102, S102, M102, H102, G102⟩ := vv102
    have hin102 : ¬ ((0 : Int32) < 0 ∨ cl102.slots.size ≤ ((0 : Int32)).toNatClampNeg) := inb_of S102 ⟨by decide, by decide⟩
    obtain ⟨T102, h102, X102, e102, W102, st102⟩ := stR X86 hx hZ74 e86 Ar102 (j := (0 : Int32)) hin102 rfl (Sto.ofV Ar102 q102 O86 (Ins.self f90.exa)) (g := (mkF m 99 #[oR o0, oR o1, .val (.int (1 : Int32)), oR c1, oR s1, oR c2, oR s2, oR c3, oR s3, oR b1, .val (.int (1 : Int32)), .unset, .unset] [(.ref o1), (.int (0 : Int32)), (.ref b86), (.ref b86), (.ref b74), (.int (0 : Int32)), (.ref o0)])) rfl rfl (hb hby d9_99)
    have V_b86_102 : Arv Z h102 b86 k86 (.object "java/lang/String") (1 : Int32) [(.ref o1)] .null := Arv.set Ar102 q102 S102 M102 H102 G102 rfl W102 0 rfl (Nat.le_of_ble_eq_true rfl)
    have f103 := Nat.le_trans f87 (Keep.of_wr W102).1
    have f104 := f88.trans (CHr.wr W102 (own_safeV hZ74.alike V_b86 (by decide)) f88.1)
    have f105 := f89.keep (Keep.of_wr W102) (allS (own_nsV V_b86 (by decide) w_11) all0) (allS (own_neW V_b86 w_28) all0)
    have f106 := f90.keep (Keep.of_wr W102) (allS (own_nsV V_b86 (by decide) w_11) all0)
    have f107 := f91.wr W102
    have f108 := f92.wr W102
    have f109 := f93.wr W102
    have f110 := f94.other W102 ne_w_de_b86
    have f111 := Nat.le_trans f95 (Keep.of_wr W102).1
    have f112 := f96.wr W102 (Or.inr sz_b86)
    have f113 := f97.other W102 ne_b1_b86
    have f114 := f98.wr W102
    have f115 := f99.other W102 (Or.inl ne_b74_b86)
    have f116 := f100.other W102 (Or.inl ne_b74_b86)
    have f117 := f101.other W102 ne_d74_b86
    have N102 := Fr.snoc X102 NJ Gb86
    refine bk (fun t k => st102 t k) ?_
    show F (T102.setTop (mkF m 100 #[oR o0, oR o1, .val (.int (1 : Int32)), oR c1, oR s1, oR c2, oR s2, oR c3, oR s3, oR b1, .val (.int (1 : Int32)), .unset, .unset] [(.ref b86), (.ref b74), (.int (0 : Int32)), (.ref o0)]))
    obtain ⟨cq118, kq118, q118a, q118b, q118c⟩ := isOf hZ74 e102 (f105.1)
    obtain ⟨_, _, ⟨T118, L118, k118, n118⟩, -, X118, ⟨Lc118, hQ118, l118, y118, z118⟩, st118⟩ := X102.virtualBack hx (y := oN33) (z := oN33) hown74 (mvT hZ74 w_68) (mvT hZ74 w_69) (notFace_of_selects (args := #[]) (mvT hZ74 w_71)) (mvT hZ74 w_71) (mvT hZ74 w_70) (by decide) (backOf (W := 0) (rm10 l Z a0 hw [] o0 b74 b86 o1 k86 [(c1, s1, x1)] y cs w_e w_de k_de h102 n0 f111 (Nat.le_of_ble_eq_true rfl) f105 ⟨_, _, f114, f116, f115, f117⟩ f106 V_b86_102 f107 hcs f109 f108 f110) hZ74 w_72 w_29 (by decide) (by decide)) q118a q118c (g := (mkF m 100 #[oR o0, oR o1, .val (.int (1 : Int32)), oR c1, oR s1, oR c2, oR s2, oR c3, oR s3, oR b1, .val (.int (1 : Int32)), .unset, .unset] [(.ref b86), (.ref b74), (.int (0 : Int32)), (.ref o0)])) rfl (by rw [hml]; rfl) (Steps.refl _) (argsL := [(.int (0 : Int32)), (.ref b74), (.ref b86)]) (rest := []) (lenOf pd9__ZLjava_lang_String__Ljava_lang_String__Ljava_util_List_ rfl) rfl (by show 2 * 0 + _ ≤ _; exact Nat.le_of_eq rfl) (hb hby d9_100) (fun _ _ => ⟨rfl, e102, (by decide : 4 + 3 ≤ _), (by decide : 8 + 15 ≤ _)⟩)
    dsimp only [Pt.U, Pt.locs, Pt.cells, Pt.slots, oM10] at X118 l118 y118 z118 st118 hQ118
    subst l118 y118 z118
    obtain ⟨r118, rfl, N118q, K118, gL118⟩ := hQ118
    have N118 := Fr.app N102 N118q
    have f119 := Nat.le_trans f103 K118.1
    have f120 := f104.trans (CHr.keep K118 all0 f104.1)
    have f121 := f105.keep K118 all0 all0
    have f122 := f106.keep K118 all0
    have f123 := own_sta0 f107 K118
    have f124 := own_sta0 f108 K118
    have f125 := own_sta0 f109 K118
    have f126 := f110.keep K118 nin0
    have f127 := Nat.le_trans f111 K118.1
    have f128 := f112.trans K118 all0
    have f129 := f113.keep K118 nin0
    have f130 := f114.keep K118
    have f131 := f115.keep K118 nin0
    have f132 := f116.keep K118 nin0
    have f133 := f117.keep K118 nin0
    have f134 := V_b86_102.keep K118 nin0
    replace gL118 : own_AL Z T118.heap r118 w_de (own_pick (own_beq x1 y) c1 ([] : List Addr)) := gL118
    rw [jL] at gL118
    have gL118' : own_AL Z T118.heap r118 w_de [j0] := gL118
    obtain ⟨ra118, ka118, gE118, gS118, gD118, gV118⟩ := gL118'
    refine bk (fun t k => st118.trans k) ?_
    show F (T118.setTop (mkF m 103 #[oR o0, oR o1, .val (.int (1 : Int32)), oR c1, oR s1, oR c2, oR s2, oR c3, oR s3, oR b1, .val (.int (1 : Int32)), .unset, .unset] [(.ref r118)]))
    refine bk (fun t k => XS.astore X118.here hx rfl (hb hby d9_103) rfl rfl (l' := #[oR o0, oR o1, .val (.int (1 : Int32)), oR c1, oR s1, oR c2, oR s2, oR c3, oR s3, oR b1, .val (.int (1 : Int32)), oR r118, .unset]) rfl k) ?_
    refine bk (fun t k => XS.aload X118.here hx rfl (hb hby d9_105) rfl rfl k) ?_
    obtain ⟨cq135, kq135, q135a, q135b, q135c⟩ := isOf hZ74 rfl (gE118)
    obtain ⟨_, _, ⟨T135, L135, k135, n135⟩, -, X135, ⟨Lc135, hQ135, l135, y135, z135⟩, st135⟩ := X118.interfaceBack hx (xi := oN34) (y := oN21) hown74 (mvT hZ74 w_156) (mvT hZ74 w_133) (mvT hZ74 w_134) (mvT hZ74 w_157) (mvT hZ74 w_158) (mvT hZ74 w_159) (mvT hZ74 w_160) (mvT hZ74 w_161) (by decide) (backOf (W := 0) (rm22 l Z a0 hw [] r118 (1 : Int32) T118.heap n0 f127 gS118) hZ74 w_162 w_115 (by decide) (by decide)) q135a q135b q135c (g := (mkF m 107 #[oR o0, oR o1, .val (.int (1 : Int32)), oR c1, oR s1, oR c2, oR s2, oR c3, oR s3, oR b1, .val (.int (1 : Int32)), oR r118, .unset] [(.ref r118)])) rfl (by rw [hml]; rfl) (Steps.refl _) (argsL := []) (rest := []) (lenOf pd9___I rfl) rfl (by show 2 * 0 + _ ≤ _; exact Nat.le_of_eq rfl) (hb hby d9_107) (fun _ _ => ⟨rfl, rfl, (by decide : 7 + 0 ≤ _), (by decide : 23 + 0 ≤ _)⟩)
    dsimp only [Pt.U, Pt.locs, Pt.cells, Pt.slots, oM22] at X135 l135 y135 z135 st135 hQ135
    subst l135 y135 z135
    obtain ⟨rfl, N135q, e135⟩ := hQ135
    have N135 := Fr.app N118 N135q
    refine bk (fun t k => st135.trans k) ?_
    refine bk (fun t k => XS.iload X135.here hx rfl (hb hby d9_112) rfl k) ?_
    show F (T135.setTop (mkF m 114 #[oR o0, oR o1, .val (.int (1 : Int32)), oR c1, oR s1, oR c2, oR s2, oR c3, oR s3, oR b1, .val (.int (1 : Int32)), oR r118, .unset] [(.int (1 : Int32)), (.int (1 : Int32))]))
    refine bk (fun t k => XS.icmpYes X135.here hx rfl (pc0 := 114) (pc' := 119) rfl (hb hby d9_114) rfl (teq (by decide : (1 : Int32) = (1 : Int32))).1 (by decide) (by decide) k) ?_
    refine bk (fun t k => XS.iconst X135.here hx rfl (hb hby d9_119) k) ?_
    refine bk (fun t k => XS.istore X135.here hx rfl (hb hby d9_120) rfl (l' := #[oR o0, oR o1, .val (.int (1 : Int32)), oR c1, oR s1, oR c2, oR s2, oR c3, oR s3, oR b1, .val (.int (1 : Int32)), oR r118, .val (.int (1 : Int32))]) rfl k) ?_
    refine bk (fun t k => XS.iload X135.here hx rfl (hb hby d9_122) rfl k) ?_
    show F (T135.setTop (mkF m 124 #[oR o0, oR o1, .val (.int (1 : Int32)), oR c1, oR s1, oR c2, oR s2, oR c3, oR s3, oR b1, .val (.int (1 : Int32)), oR r118, .val (.int (1 : Int32))] [(.int (1 : Int32))]))
    refine bk (fun t k => XS.ifNo X135.here hx rfl (hb hby d9_124) rfl ((if0 _ _).trans (tlt (by decide : (0 : Int32) < (1 : Int32))).2.2.2) k) ?_
    refine bk (fun t k => XS.iload X135.here hx rfl (hb hby d9_127) rfl k) ?_
    refine bk (fun t k => XS.ifNo X135.here hx rfl (hb hby d9_129) rfl ((if0 _ _).trans (feq (by decide : ¬ ((1 : Int32) = (0 : Int32)))).1) k) ?_
    refine bk (fun t k => XS.aload X135.here hx rfl (hb hby d9_132) rfl rfl k) ?_
    refine bk (fun t k => XS.iconst X135.here hx rfl (hb hby d9_134) k) ?_
    show F (T135.setTop (mkF m 135 #[oR o0, oR o1, .val (.int (1 : Int32)), oR c1, oR s1, oR c2, oR s2, oR c3, oR s3, oR b1, .val (.int (1 : Int32)), oR r118, .val (.int (1 : Int32))] [(.int (0 : Int32)), (.ref r118)]))
    obtain ⟨cq136, kq136, q136a, q136b, q136c⟩ := isOf hZ74 e135 (gE118)
    obtain ⟨_, _, ⟨T136, L136, k136, n136⟩, -, X136, ⟨Lc136, hQ136, l136, y136, z136⟩, st136⟩ := X135.interfaceBack hx (xi := oN35) (y := oN30) hown74 (mvT hZ74 w_221) (mvT hZ74 w_142) (mvT hZ74 w_143) (mvT hZ74 w_222) (mvT hZ74 w_223) (mvT hZ74 w_224) (mvT hZ74 w_225) (mvT hZ74 w_161) (by decide) (backOf (W := 0) (rm32_0 l Z a0 hw [] r118 (1 : Int32) ra118 ka118 j0 .null .null T118.heap n0 f127 gE118 gS118 (by decide) gD118 gV118) hZ74 w_226 w_115 (by decide) (by decide)) q136a q136b q136c (g := (mkF m 135 #[oR o0, oR o1, .val (.int (1 : Int32)), oR c1, oR s1, oR c2, oR s2, oR c3, oR s3, oR b1, .val (.int (1 : Int32)), oR r118, .val (.int (1 : Int32))] [(.int (0 : Int32)), (.ref r118)])) rfl (by rw [hml]; rfl) (Steps.refl _) (argsL := [(.int (0 : Int32))]) (rest := []) (lenOf pd9__I_Ljava_lang_Object_ rfl) rfl (by show 2 * 0 + _ ≤ _; exact Nat.le_of_eq rfl) (hb hby d9_135) (fun _ _ => ⟨rfl, e135, (by decide : 7 + 0 ≤ _), (by decide : 23 + 0 ≤ _)⟩)
    dsimp only [Pt.U, Pt.locs, Pt.cells, Pt.slots, oM32_0] at X136 l136 y136 z136 st136 hQ136
    subst l136 y136 z136
    obtain ⟨rfl, N136q, e136⟩ := hQ136
    have N136 := Fr.app N135 N136q
    refine bk (fun t k => st136.trans k) ?_
    refine bk (fun t k => XS.aload X136.here hx rfl (hb hby d9_140) rfl rfl k) ?_
    refine bk (fun t k => XS.iconst X136.here hx rfl (hb hby d9_142) k) ?_
    show F (T136.setTop (mkF m 143 #[oR o0, oR o1, .val (.int (1 : Int32)), oR c1, oR s1, oR c2, oR s2, oR c3, oR s3, oR b1, .val (.int (1 : Int32)), oR r118, .val (.int (1 : Int32))] [(.int (0 : Int32)), (.ref b1), (.ref j0)]))
    have vv137 := f129
    obtain ⟨cl137, Ar137, q137, S137, M137, H137, G137⟩ := vv137
    have hin137 : ¬ ((0 : Int32) < 0 ∨ cl137.slots.size ≤ ((0 : Int32)).toNatClampNeg) := inb_of S137 ⟨by decide, by decide⟩
    refine bk (fun t k => X136.aaload hx (j := (0 : Int32)) (v := (.ref j0)) (by rw [e136]; exact Ar137.1) (State.isArrayOf_alike hZ74.alike Ar137.2.1) rfl Ar137.2.2 hin137 (Has.at H137 hin137 rfl) (g := (mkF m 143 #[oR o0, oR o1, .val (.int (1 : Int32)), oR c1, oR s1, oR c2, oR s2, oR c3, oR s3, oR b1, .val (.int (1 : Int32)), oR r118, .val (.int (1 : Int32))] [(.int (0 : Int32)), (.ref b1), (.ref j0)])) rfl rfl (hb hby d9_143) t k) ?_
    show F (T136.setTop (mkF m 144 #[oR o0, oR o1, .val (.int (1 : Int32)), oR c1, oR s1, oR c2, oR s2, oR c3, oR s3, oR b1, .val (.int (1 : Int32)), oR r118, .val (.int (1 : Int32))] [(.ref j0), (.ref j0)]))
    refine bk (fun t k => Jvm.RoadKit.acmp (g := (mkF m 144 #[oR o0, oR o1, .val (.int (1 : Int32)), oR c1, oR s1, oR c2, oR s2, oR c3, oR s3, oR b1, .val (.int (1 : Int32)), oR r118, .val (.int (1 : Int32))] [(.ref j0), (.ref j0)])) X136 hx rfl rfl rfl (pc0 := 144) (pc' := 147) (same := true) rfl (hb hby d9_144) rfl (decide_eq_true rfl) (by decide) (by decide) k) ?_
    refine bk (fun t k => XS.iconst X136.here hx rfl (hb hby d9_147) k) ?_
    refine bk (fun t k => XS.goto X136.here hx rfl (pc0 := 148) (pc' := 152) rfl (hb hby d9_148) (by decide) (by decide) k) ?_
    show F (T136.setTop (mkF m 152 #[oR o0, oR o1, .val (.int (1 : Int32)), oR c1, oR s1, oR c2, oR s2, oR c3, oR s3, oR b1, .val (.int (1 : Int32)), oR r118, .val (.int (1 : Int32))] [(.int (1 : Int32))]))
    refine bk (fun t k => XS.istore X136.here hx rfl (hb hby d9_152) rfl (l' := #[oR o0, oR o1, .val (.int (1 : Int32)), oR c1, oR s1, oR c2, oR s2, oR c3, oR s3, oR b1, .val (.int (1 : Int32)), oR r118, .val (.int (1 : Int32))]) rfl k) ?_
    refine bk (fun t k => XS.iload X136.here hx rfl (hb hby d9_154) rfl k) ?_
    refine bk (fun t k => XS.iconst X136.here hx rfl (hb hby d9_156) k) ?_
    show F (T136.setTop (mkF m 157 #[oR o0, oR o1, .val (.int (1 : Int32)), oR c1, oR s1, oR c2, oR s2, oR c3, oR s3, oR b1, .val (.int (1 : Int32)), oR r118, .val (.int (1 : Int32))] [(.int (1 : Int32)), (.int (1 : Int32))]))
    refine bk (fun t k => XS.icmpYes X136.here hx rfl (pc0 := 157) (pc' := 187) rfl (hb hby d9_157) rfl (flt (by decide : ¬ ((1 : Int32) < (1 : Int32)))).2.2.2 (by decide) (by decide) k) ?_
    refine bk (fun t k => XS.iload X136.here hx rfl (hb hby d9_187) rfl k) ?_
    refine bk (fun t k => XS.iconst X136.here hx rfl (hb hby d9_189) k) ?_
    show F (T136.setTop (mkF m 190 #[oR o0, oR o1, .val (.int (1 : Int32)), oR c1, oR s1, oR c2, oR s2, oR c3, oR s3, oR b1, .val (.int (1 : Int32)), oR r118, .val (.int (1 : Int32))] [(.int (2 : Int32)), (.int (1 : Int32))]))
    refine bk (fun t k => XS.icmpYes X136.here hx rfl (pc0 := 190) (pc' := 220) rfl (hb hby d9_190) rfl (flt (by decide : ¬ ((2 : Int32) < (1 : Int32)))).2.2.2 (by decide) (by decide) k) ?_
    refine bk (fun t k => XS.iload X136.here hx rfl (hb hby d9_220) rfl k) ?_
    rw [hF]
    refine own_retZH X136 hx hS74 (by rw [e136]; exact f119) hZ74 own_EW (by rw [hh, e136]; exact f120) Bd.notSynchronized Bd.returns (hb hby d9_222) (by decide) (by decide) ?_
    rw [e136]
    exact ⟨rfl, N136, f128⟩
  refine bk (fun t k => XS.iconst X1.here hx rfl (hb hby d9_6) k) ?_
  refine bk (fun t k => XS.istore X1.here hx rfl (hb hby d9_7) rfl (l' := #[oR o0, oR o1, .val (.int (1 : Int32)), oR c1, oR s1, oR c2, oR s2, oR c3, oR s3, oR b1, .val (.int (0 : Int32)), .unset, .unset]) rfl k) ?_
  refine bk (fun t k => XS.iloadN X1.here hx rfl (hb hby d9_9) rfl k) ?_
  show F (T1.setTop (mkF m 10 #[oR o0, oR o1, .val (.int (1 : Int32)), oR c1, oR s1, oR c2, oR s2, oR c3, oR s3, oR b1, .val (.int (0 : Int32)), .unset, .unset] [(.int (1 : Int32))]))
  refine bk (fun t k => XS.ifNo X1.here hx rfl (hb hby d9_10) rfl ((if0 _ _).trans (tlt (by decide : (0 : Int32) < (1 : Int32))).2.2.2) k) ?_
  refine bk (fun t k => XS.aload X1.here hx rfl (hb hby d9_13) rfl rfl k) ?_
  refine bk (fun t k => XS.aloadN X1.here hx rfl (hb hby d9_15) rfl rfl k) ?_
  show F (T1.setTop (mkF m 16 #[oR o0, oR o1, .val (.int (1 : Int32)), oR c1, oR s1, oR c2, oR s2, oR c3, oR s3, oR b1, .val (.int (0 : Int32)), .unset, .unset] [(.ref o1), (.ref s1)]))
  have vva138 := (own_Kids.ch f4 0 rfl).2.2.1
  obtain ⟨ra138, kda138, taE138, taC138, taF138, taV138⟩ := vva138
  have vvb138 := f5
  obtain ⟨rb138, kdb138, tbE138, tbC138, tbF138, tbV138⟩ := vvb138
  obtain ⟨cq138, kq138, q138a, q138b, q138c⟩ := isOf hZ e1 (taE138)
  obtain ⟨_, _, ⟨T138, L138, k138, n138⟩, -, X138, ⟨Lc138, hQ138, l138, y138, z138⟩, st138⟩ := X1.virtualBack hx (y := oN5) (z := oN5) hown (mvT hZ w_175) (mvT hZ w_176) (notFace_of_selects (args := #[]) (mvT hZ w_178)) (mvT hZ w_178) (mvT hZ w_177) (by decide) (backOf (W := 0) (rm24_1 l Z a0 hw [] s1 o1 ra138 rb138 kda138 kdb138 x1 y cs h1 n0 f10 taE138 tbE138 taF138 tbF138 taC138 tbC138 taV138 tbV138 f6 hcs) hZ w_179 w_3 (by decide) (by decide)) q138a q138c (g := (mkF m 16 #[oR o0, oR o1, .val (.int (1 : Int32)), oR c1, oR s1, oR c2, oR s2, oR c3, oR s3, oR b1, .val (.int (0 : Int32)), .unset, .unset] [(.ref o1), (.ref s1)])) rfl (by rw [hml]; rfl) (Steps.refl _) (argsL := [(.ref o1)]) (rest := []) (lenOf pd9__Ljava_lang_Object__Z rfl) rfl (by show 2 * 0 + _ ≤ _; exact Nat.le_of_eq rfl) (hb hby d9_16) (fun _ _ => ⟨rfl, e1, (by decide : 1 + 0 ≤ _), (by decide : 3 + 0 ≤ _)⟩)
  dsimp only [Pt.U, Pt.locs, Pt.cells, Pt.slots, oM24_1] at X138 l138 y138 z138 st138 hQ138
  subst l138 y138 z138
  obtain ⟨rfl, N138q, e138⟩ := hQ138
  have N138 := Fr.app N0 N138q
  refine bk (fun t k => st138.trans k) ?_
  show F (T138.setTop (mkF m 19 #[oR o0, oR o1, .val (.int (1 : Int32)), oR c1, oR s1, oR c2, oR s2, oR c3, oR s3, oR b1, .val (.int (0 : Int32)), .unset, .unset] [(.int (own_beq x1 y))]))
  by_cases hc19_139 : (own_beq x1 y) = (0 : Int32)
  · refine bk (fun t k => XS.ifYes X138.here hx rfl (pc0 := 19) (pc' := 34) rfl (hb hby d9_19) rfl ((if0 _ _).trans (teq hc19_139).1) (by decide) (by decide) k) ?_
    refine bk (fun t k => XS.iloadN X138.here hx rfl (hb hby d9_34) rfl k) ?_
    refine bk (fun t k => XS.iconst X138.here hx rfl (hb hby d9_35) k) ?_
    show F (T138.setTop (mkF m 36 #[oR o0, oR o1, .val (.int (1 : Int32)), oR c1, oR s1, oR c2, oR s2, oR c3, oR s3, oR b1, .val (.int (0 : Int32)), .unset, .unset] [(.int (1 : Int32)), (.int (1 : Int32))]))
    refine bk (fun t k => XS.icmpYes X138.here hx rfl (pc0 := 36) (pc' := 61) rfl (hb hby d9_36) rfl (flt (by decide : ¬ ((1 : Int32) < (1 : Int32)))).2.2.2 (by decide) (by decide) k) ?_
    refine bk (fun t k => XS.iloadN X138.here hx rfl (hb hby d9_61) rfl k) ?_
    refine bk (fun t k => XS.iconst X138.here hx rfl (hb hby d9_62) k) ?_
    show F (T138.setTop (mkF m 63 #[oR o0, oR o1, .val (.int (1 : Int32)), oR c1, oR s1, oR c2, oR s2, oR c3, oR s3, oR b1, .val (.int (0 : Int32)), .unset, .unset] [(.int (2 : Int32)), (.int (1 : Int32))]))
    refine bk (fun t k => XS.icmpYes X138.here hx rfl (pc0 := 63) (pc' := 88) rfl (hb hby d9_63) rfl (flt (by decide : ¬ ((2 : Int32) < (1 : Int32)))).2.2.2 (by decide) (by decide) k) ?_
    show F (T138.setTop (mkF m 88 #[oR o0, oR o1, .val (.int (1 : Int32)), oR c1, oR s1, oR c2, oR s2, oR c3, oR s3, oR b1, .val (.int (0 : Int32)), .unset, .unset] []))
    exact J88_0 _ _ _ X138 e138 N138  f2 f4 f5 f6 f7 f8 f9 f10 f11 V_b1 (by rw [own_pickF hc19_139] <;> rfl)
  refine bk (fun t k => XS.ifNo X138.here hx rfl (hb hby d9_19) rfl ((if0 _ _).trans (feq hc19_139).1) k) ?_
  refine bk (fun t k => XS.aload X138.here hx rfl (hb hby d9_22) rfl rfl k) ?_
  refine bk (fun t k => XS.iload X138.here hx rfl (hb hby d9_24) rfl k) ?_
  refine bk (fun t k => XS.aloadN X138.here hx rfl (hb hby d9_26) rfl rfl k) ?_
  show F (T138.setTop (mkF m 27 #[oR o0, oR o1, .val (.int (1 : Int32)), oR c1, oR s1, oR c2, oR s2, oR c3, oR s3, oR b1, .val (.int (0 : Int32)), .unset, .unset] [(.ref c1), (.int (0 : Int32)), (.ref b1)]))
  have vv140 := V_b1
  obtain ⟨cl140, Ar140, q140, S140, M140, H140, G140⟩ := vv140
  have hin140 : ¬ ((0 : Int32) < 0 ∨ cl140.slots.size ≤ ((0 : Int32)).toNatClampNeg) := inb_of S140 ⟨by decide, by decide⟩
  obtain ⟨T140, h140, X140, e140, W140, st140⟩ := stR X138 hx hZ e138 Ar140 (j := (0 : Int32)) hin140 rfl (Sto.ofV Ar140 q140 O1 (Ins.self (own_Kids.ch f4 0 rfl).1)) (g := (mkF m 27 #[oR o0, oR o1, .val (.int (1 : Int32)), oR c1, oR s1, oR c2, oR s2, oR c3, oR s3, oR b1, .val (.int (0 : Int32)), .unset, .unset] [(.ref c1), (.int (0 : Int32)), (.ref b1)])) rfl rfl (hb hby d9_27)
  have V_b1_140 : Arv Z h140 b1 k1 (.object "com/example/quire/quire/readers/Element") (3 : Int32) [(.ref c1), .null, .null] .null := Arv.set Ar140 q140 S140 M140 H140 G140 rfl W140 0 rfl (Nat.le_of_ble_eq_true rfl)
  have f141 := f2.trans (CHr.wr W140 (own_safeV hZ.alike V_b1 (by decide)) f2.1)
  have f142 := Nat.le_trans f3 (Keep.of_wr W140).1
  have f143 := f4.keep (Keep.of_wr W140) (allS (own_nsV V_b1 (by decide) w_11) all0) (allS (own_neW V_b1 w_28) all0)
  have f144 := f5.keep (Keep.of_wr W140) (allS (own_nsV V_b1 (by decide) w_11) all0)
  have f145 := f6.wr W140
  have f146 := f7.wr W140
  have f147 := f8.wr W140
  have f148 := f9.other W140 ne_w_de_b1
  have f149 := Nat.le_trans f10 (Keep.of_wr W140).1
  have f150 := f11.wr W140 (Or.inr sz_b1)
  have N140 := Fr.snoc X140 N138 Gb1
  refine bk (fun t k => st140 t k) ?_
  refine bk (fun t k => XS.iload X140.here hx rfl (hb hby d9_28) rfl k) ?_
  refine bk (fun t k => XS.iconst X140.here hx rfl (hb hby d9_30) k) ?_
  show F (T140.setTop (mkF m 31 #[oR o0, oR o1, .val (.int (1 : Int32)), oR c1, oR s1, oR c2, oR s2, oR c3, oR s3, oR b1, .val (.int (0 : Int32)), .unset, .unset] [(.int (1 : Int32)), (.int (0 : Int32))]))
  refine bk (fun t k => XS.iadd X140.here hx rfl (hb hby d9_31) rfl k) ?_
  refine bk (fun t k => XS.istore X140.here hx rfl (hb hby d9_32) rfl (l' := #[oR o0, oR o1, .val (.int (1 : Int32)), oR c1, oR s1, oR c2, oR s2, oR c3, oR s3, oR b1, .val (.int (1 : Int32)), .unset, .unset]) rfl k) ?_
  refine bk (fun t k => XS.iloadN X140.here hx rfl (hb hby d9_34) rfl k) ?_
  refine bk (fun t k => XS.iconst X140.here hx rfl (hb hby d9_35) k) ?_
  show F (T140.setTop (mkF m 36 #[oR o0, oR o1, .val (.int (1 : Int32)), oR c1, oR s1, oR c2, oR s2, oR c3, oR s3, oR b1, .val (.int (1 : Int32)), .unset, .unset] [(.int (1 : Int32)), (.int (1 : Int32))]))
  refine bk (fun t k => XS.icmpYes X140.here hx rfl (pc0 := 36) (pc' := 61) rfl (hb hby d9_36) rfl (flt (by decide : ¬ ((1 : Int32) < (1 : Int32)))).2.2.2 (by decide) (by decide) k) ?_
  refine bk (fun t k => XS.iloadN X140.here hx rfl (hb hby d9_61) rfl k) ?_
  refine bk (fun t k => XS.iconst X140.here hx rfl (hb hby d9_62) k) ?_
  show F (T140.setTop (mkF m 63 #[oR o0, oR o1, .val (.int (1 : Int32)), oR c1, oR s1, oR c2, oR s2, oR c3, oR s3, oR b1, .val (.int (1 : Int32)), .unset, .unset] [(.int (2 : Int32)), (.int (1 : Int32))]))
  refine bk (fun t k => XS.icmpYes X140.here hx rfl (pc0 := 63) (pc' := 88) rfl (hb hby d9_63) rfl (flt (by decide : ¬ ((2 : Int32) < (1 : Int32)))).2.2.2 (by decide) (by decide) k) ?_
  show F (T140.setTop (mkF m 88 #[oR o0, oR o1, .val (.int (1 : Int32)), oR c1, oR s1, oR c2, oR s2, oR c3, oR s3, oR b1, .val (.int (1 : Int32)), .unset, .unset] []))
  exact J88_1 _ _ _ X140 e140 N140 _ f141 f143 f144 f145 f146 f147 f148 f149 f150 V_b1_140 (by rw [own_pickT hc19_139] <;> rfl)
abbrev oM9_2 : Room := { frames := 7, cells := 7, slots := 23, locals := 108 }
theorem d9_39 : decode method_3_code 39 = .ok (.aload 6, 2) := by decide +kernel
theorem d9_41 : decode method_3_code 41 = .ok (.aload_n 1, 1) := by decide +kernel
theorem d9_42 : decode method_3_code 42 = .ok (.invokevirtual 35, 3) := by decide +kernel
theorem d9_45 : decode method_3_code 45 = .ok (.ifCond .eq 16, 3) := by decide +kernel
theorem d9_48 : decode method_3_code 48 = .ok (.aload 9, 2) := by decide +kernel
theorem d9_50 : decode method_3_code 50 = .ok (.iload 10, 2) := by decide +kernel
theorem d9_52 : decode method_3_code 52 = .ok (.aload 5, 2) := by decide +kernel
theorem d9_54 : decode method_3_code 54 = .ok (.aastore, 1) := by decide +kernel
theorem d9_55 : decode method_3_code 55 = .ok (.iload 10, 2) := by decide +kernel
theorem d9_57 : decode method_3_code 57 = .ok (.iconst 1, 1) := by decide +kernel
theorem d9_58 : decode method_3_code 58 = .ok (.iadd, 1) := by decide +kernel
theorem d9_59 : decode method_3_code 59 = .ok (.istore 10, 2) := by decide +kernel
theorem d9_160 : decode method_3_code 160 = .ok (.iload 12, 2) := by decide +kernel
theorem d9_162 : decode method_3_code 162 = .ok (.ifCond .eq 22, 3) := by decide +kernel
theorem d9_165 : decode method_3_code 165 = .ok (.aload 11, 2) := by decide +kernel
theorem d9_167 : decode method_3_code 167 = .ok (.iconst 1, 1) := by decide +kernel
theorem d9_168 : decode method_3_code 168 = .ok (.invokeinterface 51 2, 5) := by decide +kernel
theorem d9_173 : decode method_3_code 173 = .ok (.aload 9, 2) := by decide +kernel
theorem d9_175 : decode method_3_code 175 = .ok (.iconst 1, 1) := by decide +kernel
theorem d9_176 : decode method_3_code 176 = .ok (.aaload, 1) := by decide +kernel
theorem d9_177 : decode method_3_code 177 = .ok (.if_acmp .ne 7, 3) := by decide +kernel
theorem d9_180 : decode method_3_code 180 = .ok (.iconst 1, 1) := by decide +kernel
theorem d9_181 : decode method_3_code 181 = .ok (.goto 4, 3) := by decide +kernel
theorem d9_185 : decode method_3_code 185 = .ok (.istore 12, 2) := by decide +kernel
def Q9_2 (Z : State) (o0 : Addr) (o1 : Addr) (c1 : Addr) (s1 : Addr) (c2 : Addr) (s2 : Addr) (c3 : Addr) (s3 : Addr) (x1 : Int32) (x2 : Int32) (y : Int32) (cs : Int32) (w_e : Addr) (w_de : Addr) (k_de : ClassId) (h0 : Heap) (n0 : Nat) (v : Option Value) (h : Heap) (L : List Loc) : Prop := v = some (.int (1 : Int32)) ∧ Fr n0 L ∧ Keep h0 h []
set_option maxRecDepth 65536 in
set_option maxHeartbeats 40000000 in
theorem rm9_2 (l : Launch) (Z : State) (a0 : Array Value) (hw : ∀ d ∈ tables_1, d.before a0 Z = true) (ws : List Jvm.Cond) (o0 : Addr) (o1 : Addr) (c1 : Addr) (s1 : Addr) (c2 : Addr) (s2 : Addr) (c3 : Addr) (s3 : Addr) (x1 : Int32) (x2 : Int32) (y : Int32) (cs : Int32) (w_e : Addr) (w_de : Addr) (k_de : ClassId) (h0 : Heap) (n0 : Nat) (Z0 : n0 ≤ h0.size) (hKd : own_Kids Z h0 o0 [(c1, s1, x1), (c2, s2, x2)]) (hq : own_St Z h0 o1 (1 : Int32) [(.int y)]) (S_cs : Sta Z h0 "java/lang/String" "COMPACT_STRINGS" "Z" (.int cs)) (hcs : ¬ cs = (0 : Int32)) (S_e : Sta Z h0 "java/util/ImmutableCollections" "EMPTY" "Ljava/lang/Object;" (.ref w_e)) (S_de : Sta Z h0 "java/util/ArrayList" "DEFAULTCAPACITY_EMPTY_ELEMENTDATA" "[Ljava/lang/Object;" (.ref w_de)) (V_de : Arv Z h0 w_de k_de (.object "java/lang/Object") (0 : Int32) [] .null) (own_EW : EW Z a0 consts_1) :
    MetFree l oN36 (head1 (Jvm.Cond.code oN36 method_3_code 13 (some .boolean) :: ws) oM9_2) (fun a U => a = #[(.ref o0), (.ref o1), (.int (2 : Int32)), (.ref c1), (.ref s1), (.ref c2), (.ref s2), (.ref c3), (.ref s3)] ∧ Z.Warmed39 U.vm ∧ U.heap = h0 ∧ CHv Z consts_1 U.vm h0) (fun _ _ _ _ _ => True) (fun _ U o U' => ∃ v L, o = .returned v ∧ Q9_2 Z o0 o1 c1 s1 c2 s2 c3 s3 x1 x2 y cs w_e w_de k_de h0 n0 v U'.heap L ∧ CHr Z consts_1 U.vm U.heap U'.vm U'.heap ∧ ReturnedEndW U o U' L oM9_2.cells oM9_2.slots) := by
  refine MetFree.of_bodySF (plainFor_of_name pn_9) hisR ?_
  intro p e s m args below meth c s₁ Bd hml0 hP hK
  obtain ⟨rfl, hZ, hh, hC0⟩ := hP
  have hx := Bd.exec
  have hby := Bd.bytes
  have hml : c.maxLocals = 13 := hml0
  have hown : s.vm.findClass "com/example/quire/quire/readers/ElementAddPinLaw" = some m.cls := findClass_of_methodNamed Bd.named
  have hnm := (name_of_methodNamed Bd.named Bd.method).1
  have X0 : Stand p l e oM9_2 (s.setVm s.vm) m #[(.ref o0), (.ref o1), (.int (2 : Int32)), (.ref c1), (.ref s1), (.ref c2), (.ref s2), (.ref c3), (.ref s3)] below meth c s₁ [] 0 0 := Stand.of_body Bd
  have e0 : s₁.heap = h0 := by rw [← hh, Bd.state]; rfl
  have N0 := Fr.nil n0
  have hS0 : s.Since s.vm 0 := (State.WarmedH.refl s).since 0
  have hZ : Z.Warmed39 (s.setVm s.vm).vm := hZ
  have hown : (s.setVm s.vm).vm.findClass "com/example/quire/quire/readers/ElementAddPinLaw" = some m.cls := hown
  have hCr : CHr Z consts_1 s.vm h0 s.vm h0 := CHr.refl hC0
  obtain ⟨F, hF⟩ : ∃ F : State → Prop, F = own_FinH Z consts_1 p e below s oM9_2.cells oM9_2.slots (fun v h L => Q9_2 Z o0 o1 c1 s1 c2 s2 c3 s3 x1 x2 y cs w_e w_de k_de h0 n0 v h L) := ⟨_, rfl⟩
  have bk : ∀ {A B : State}, (∀ t, Steps p.tables e below B t → Steps p.tables e below A t) → F B → F A := by
    intro A B h k
    rw [hF] at k ⊢
    exact own_backH h k
  suffices hgo : F (s₁.setTop (mkF m 0 #[.val (.ref o0), .val (.ref o1), .val (.int (2 : Int32)), .val (.ref c1), .val (.ref s1), .val (.ref c2), .val (.ref s2), .val (.ref c3), .val (.ref s3), .unset, .unset, .unset, .unset] [])) by
    have hgo' := bk (fun t k => castTop (T := s₁) (ef_9 m o0 o1 (2 : Int32) c1 s1 c2 s2 c3 s3) k) hgo
    rw [hF] at hgo'
    exact hgo'
  have own_wS : ∀ a ∈ Bundle.stringAtoms, a.before a0 Z = true := by
    intro a ha
    simp only [Bundle.stringAtoms, List.mem_cons, List.not_mem_nil, or_false] at ha
    rcases ha with rfl | rfl | rfl | rfl | rfl | rfl | rfl
    · exact (hw _ (List.mem_of_getElem? (i := 3) rfl))
    · exact (hw _ (List.mem_of_getElem? (i := 11) rfl))
    · exact (hw _ (List.mem_of_getElem? (i := 15) rfl))
    · exact (hw _ (List.mem_of_getElem? (i := 24) rfl))
    · exact (hw _ (List.mem_of_getElem? (i := 26) rfl))
    · exact (hw _ (List.mem_of_getElem? (i := 44) rfl))
    · exact (hw _ (List.mem_of_getElem? (i := 45) rfl))
  have w_3 := hw _ (List.mem_of_getElem? (i := 3) rfl)
  have w_11 := hw _ (List.mem_of_getElem? (i := 11) rfl)
  have w_27 := hw _ (List.mem_of_getElem? (i := 27) rfl)
  have w_28 := hw _ (List.mem_of_getElem? (i := 28) rfl)
  have w_29 := hw _ (List.mem_of_getElem? (i := 29) rfl)
  have w_64 := hw _ (List.mem_of_getElem? (i := 64) rfl)
  have w_65 := hw _ (List.mem_of_getElem? (i := 65) rfl)
  have w_66 := hw _ (List.mem_of_getElem? (i := 66) rfl)
  have w_67 := hw _ (List.mem_of_getElem? (i := 67) rfl)
  have w_68 := hw _ (List.mem_of_getElem? (i := 68) rfl)
  have w_69 := hw _ (List.mem_of_getElem? (i := 69) rfl)
  have w_70 := hw _ (List.mem_of_getElem? (i := 70) rfl)
  have w_71 := hw _ (List.mem_of_getElem? (i := 71) rfl)
  have w_72 := hw _ (List.mem_of_getElem? (i := 72) rfl)
  have w_115 := hw _ (List.mem_of_getElem? (i := 115) rfl)
  have w_133 := hw _ (List.mem_of_getElem? (i := 133) rfl)
  have w_134 := hw _ (List.mem_of_getElem? (i := 134) rfl)
  have w_142 := hw _ (List.mem_of_getElem? (i := 142) rfl)
  have w_143 := hw _ (List.mem_of_getElem? (i := 143) rfl)
  have w_156 := hw _ (List.mem_of_getElem? (i := 156) rfl)
  have w_157 := hw _ (List.mem_of_getElem? (i := 157) rfl)
  have w_158 := hw _ (List.mem_of_getElem? (i := 158) rfl)
  have w_159 := hw _ (List.mem_of_getElem? (i := 159) rfl)
  have w_160 := hw _ (List.mem_of_getElem? (i := 160) rfl)
  have w_161 := hw _ (List.mem_of_getElem? (i := 161) rfl)
  have w_162 := hw _ (List.mem_of_getElem? (i := 162) rfl)
  have w_175 := hw _ (List.mem_of_getElem? (i := 175) rfl)
  have w_176 := hw _ (List.mem_of_getElem? (i := 176) rfl)
  have w_177 := hw _ (List.mem_of_getElem? (i := 177) rfl)
  have w_178 := hw _ (List.mem_of_getElem? (i := 178) rfl)
  have w_179 := hw _ (List.mem_of_getElem? (i := 179) rfl)
  have w_221 := hw _ (List.mem_of_getElem? (i := 221) rfl)
  have w_222 := hw _ (List.mem_of_getElem? (i := 222) rfl)
  have w_223 := hw _ (List.mem_of_getElem? (i := 223) rfl)
  have w_224 := hw _ (List.mem_of_getElem? (i := 224) rfl)
  have w_225 := hw _ (List.mem_of_getElem? (i := 225) rfl)
  have w_226 := hw _ (List.mem_of_getElem? (i := 226) rfl)
  refine bk (fun t k => XS.iconst X0.here hx rfl (hb hby d9_0) k) ?_
  obtain ⟨T1, h1, k1, X1, e1, E1, A1, O1, st1⟩ := newR X0 hx hZ hown w_27 w_64 e0 (g := (mkF m 1 #[oR o0, oR o1, .val (.int (2 : Int32)), oR c1, oR s1, oR c2, oR s2, oR c3, oR s3, .unset, .unset, .unset, .unset] [(.int (3 : Int32))])) rfl (hb hby d9_1) rfl (by decide) (cap := 3) (by decide) (by decide) (by decide) (by decide)
  obtain ⟨b1, g1⟩ : ∃ z, z = h0.size := ⟨_, rfl⟩
  rw [← g1] at A1 st1
  have Gb1 : n0 ≤ b1 := Nat.le_trans Z0 (Nat.le_of_eq g1.symm)
  have sz_b1 : h0.size ≤ b1 := Nat.le_trans (Keep.refl h0 []).1 (Nat.le_of_eq g1.symm)
  have ne_w_de_b1 : w_de ≠ b1 := Nat.ne_of_lt (Nat.lt_of_lt_of_le V_de.lt (Nat.le_of_eq g1.symm))
  have ne_c1_b1 : c1 ≠ b1 := Nat.ne_of_lt (Nat.lt_of_lt_of_le (own_Kids.ch hKd 0 rfl).1.lt (Nat.le_of_eq g1.symm))
  have ne_c2_b1 : c2 ≠ b1 := Nat.ne_of_lt (Nat.lt_of_lt_of_le (own_Kids.ch hKd 1 rfl).1.lt (Nat.le_of_eq g1.symm))
  have ne_o0_b1 : o0 ≠ b1 := Nat.ne_of_lt (Nat.lt_of_lt_of_le hKd.1.lt (Nat.le_of_eq g1.symm))
  have ne_o1_b1 : o1 ≠ b1 := Nat.ne_of_lt (Nat.lt_of_lt_of_le hq.exa.lt (Nat.le_of_eq g1.symm))
  have f2 := hCr.trans (CHr.ext E1 hCr.1)
  have f3 := Nat.le_trans (Nat.zero_le _) E1.1
  have f4 := hKd.ext E1
  have f5 := hq.ext E1
  have f6 := S_cs.ext E1
  have f7 := S_de.ext E1
  have f8 := S_e.ext E1
  have f9 := V_de.ext E1
  have f10 := Nat.le_trans Z0 E1.1
  have f11 := (Keep.refl h0 []).ext E1
  have V_b1 : Arv Z h1 b1 k1 (.object "com/example/quire/quire/readers/Element") (3 : Int32) [.null, .null, .null] .null := (Arv.new A1 (by decide)).pad (pad_rep [] .null 3)
  refine bk (fun t k => st1 t k) ?_
  show F (T1.setTop (mkF m 4 #[oR o0, oR o1, .val (.int (2 : Int32)), oR c1, oR s1, oR c2, oR s2, oR c3, oR s3, .unset, .unset, .unset, .unset] [(.ref b1)]))
  refine bk (fun t k => XS.astore X1.here hx rfl (hb hby d9_4) rfl rfl (l' := #[oR o0, oR o1, .val (.int (2 : Int32)), oR c1, oR s1, oR c2, oR s2, oR c3, oR s3, oR b1, .unset, .unset, .unset]) rfl k) ?_
  have J88_0 : ∀ (TJ : State) (LJ : List Loc) (hJ : Heap) (XJ : Stand p l e oM9_2 (s.setVm s.vm) m #[(.ref o0), (.ref o1), (.int (2 : Int32)), (.ref c1), (.ref s1), (.ref c2), (.ref s2), (.ref c3), (.ref s3)] below meth c TJ LJ 1 3) (eJ : TJ.heap = hJ) (NJ : Fr n0 LJ) (jC : CHr Z consts_1 s.vm h0 s.vm hJ) (jK : own_Kids Z hJ o0 [(c1, s1, x1), (c2, s2, x2)]) (jS : own_St Z hJ o1 (1 : Int32) [(.int y)]) (jcs : Sta Z hJ "java/lang/String" "COMPACT_STRINGS" "Z" (.int cs)) (jde : Sta Z hJ "java/util/ArrayList" "DEFAULTCAPACITY_EMPTY_ELEMENTDATA" "[Ljava/lang/Object;" (.ref w_de)) (je : Sta Z hJ "java/util/ImmutableCollections" "EMPTY" "Ljava/lang/Object;" (.ref w_e)) (jV : Arv Z hJ w_de k_de (.object "java/lang/Object") (0 : Int32) [] .null) (jZ : n0 ≤ hJ.size) (jKp : Keep h0 hJ []) (jX : Arv Z hJ b1 k1 (.object "com/example/quire/quire/readers/Element") (3 : Int32) [.null, .null, .null] .null) (jL : (own_pick (own_beq x2 y) c2 (own_pick (own_beq x1 y) c1 ([] : List Addr))) = []), F (TJ.setTop (mkF m 88 #[oR o0, oR o1, .val (.int (2 : Int32)), oR c1, oR s1, oR c2, oR s2, oR c3, oR s3, oR b1, .val (.int (0 : Int32)), .unset, .unset] [])) := by
    intro TJ LJ hJ XJ eJ NJ jC jK jS jcs jde je jV jZ jKp jX jL
    refine bk (fun t k => XS.aloadN XJ.here hx rfl (hb hby d9_88) rfl rfl k) ?_
    refine bk (fun t k => XS.iconst XJ.here hx rfl (hb hby d9_89) k) ?_
    show F (TJ.setTop (mkF m 90 #[oR o0, oR o1, .val (.int (2 : Int32)), oR c1, oR s1, oR c2, oR s2, oR c3, oR s3, oR b1, .val (.int (0 : Int32)), .unset, .unset] [(.int (0 : Int32)), (.ref o0)]))
    obtain ⟨b12, T12, h12, k112, d12, kk12, X12, e12, E12, hS12, hk12, hZ12, hown12, A12, C12, V12, R12, -, -, CR12, LT12, sf12, st12⟩ := ldcCH XJ hx hZ hown w_65 own_wS eJ hS0 (Nat.zero_le _) own_EW (by simp [consts_1]) jC.1 (vs := []) (z := (0 : Int32)) ⟨by decide, rfl⟩ (by decide) (by decide) (g := (mkF m 90 #[oR o0, oR o1, .val (.int (2 : Int32)), oR c1, oR s1, oR c2, oR s2, oR c3, oR s3, oR b1, .val (.int (0 : Int32)), .unset, .unset] [(.int (0 : Int32)), (.ref o0)])) rfl (hb hby d9_90) (n := 0) (by decide) (by decide) (by decide) (by decide)
    have f13 := hk12
    have f14 := jC.trans CR12
    have f15 := jK.ext E12
    have f16 := jS.ext E12
    have f17 := jcs.ext E12
    have f18 := jde.ext E12
    have f19 := je.ext E12
    have f20 := jV.ext E12
    have f21 := Nat.le_trans jZ E12.1
    have f22 := jKp.ext E12
    have f23 := jX.ext E12
    refine bk (fun t k => st12 t k) ?_
    refine bk (fun t k => XS.iconst X12.here hx rfl (hb hby d9_92) k) ?_
    show F (T12.setTop (mkF m 93 #[oR o0, oR o1, .val (.int (2 : Int32)), oR c1, oR s1, oR c2, oR s2, oR c3, oR s3, oR b1, .val (.int (0 : Int32)), .unset, .unset] [(.int (1 : Int32)), (.ref b12), (.int (0 : Int32)), (.ref o0)]))
    obtain ⟨T24, h24, k24, X24, e24, E24, A24, O24, st24⟩ := newR X12 hx hZ12 hown12 w_66 w_67 e12 (g := (mkF m 93 #[oR o0, oR o1, .val (.int (2 : Int32)), oR c1, oR s1, oR c2, oR s2, oR c3, oR s3, oR b1, .val (.int (0 : Int32)), .unset, .unset] [(.int (1 : Int32)), (.ref b12), (.int (0 : Int32)), (.ref o0)])) rfl (hb hby d9_93) rfl (by decide) (cap := 1) (by decide) (by decide) (by decide) (by decide)
    obtain ⟨b24, g24⟩ : ∃ z, z = h12.size := ⟨_, rfl⟩
    rw [← g24] at A24 st24
    have Gb24 : n0 ≤ b24 := Nat.le_trans f21 (Nat.le_of_eq g24.symm)
    have sz_b24 : h0.size ≤ b24 := Nat.le_trans f22.1 (Nat.le_of_eq g24.symm)
    have ne_w_de_b24 : w_de ≠ b24 := Nat.ne_of_lt (Nat.lt_of_lt_of_le f20.lt (Nat.le_of_eq g24.symm))
    have ne_b1_b24 : b1 ≠ b24 := Nat.ne_of_lt (Nat.lt_of_lt_of_le f23.lt (Nat.le_of_eq g24.symm))
    have ne_c1_b24 : c1 ≠ b24 := Nat.ne_of_lt (Nat.lt_of_lt_of_le (own_Kids.ch f15 0 rfl).1.lt (Nat.le_of_eq g24.symm))
    have ne_c2_b24 : c2 ≠ b24 := Nat.ne_of_lt (Nat.lt_of_lt_of_le (own_Kids.ch f15 1 rfl).1.lt (Nat.le_of_eq g24.symm))
    have ne_o0_b24 : o0 ≠ b24 := Nat.ne_of_lt (Nat.lt_of_lt_of_le f15.1.lt (Nat.le_of_eq g24.symm))
    have ne_o1_b24 : o1 ≠ b24 := Nat.ne_of_lt (Nat.lt_of_lt_of_le f16.exa.lt (Nat.le_of_eq g24.symm))
    have ne_b12_b24 : b12 ≠ b24 := Nat.ne_of_lt (Nat.lt_of_lt_of_le A12.lt (Nat.le_of_eq g24.symm))
    have ne_d12_b24 : d12 ≠ b24 := Nat.ne_of_lt (Nat.lt_of_lt_of_le R12.lt (Nat.le_of_eq g24.symm))
    have f25 := Nat.le_trans f13 E24.1
    have f26 := f14.trans (CHr.ext E24 f14.1)
    have f27 := f15.ext E24
    have f28 := f16.ext E24
    have f29 := f17.ext E24
    have f30 := f18.ext E24
    have f31 := f19.ext E24
    have f32 := f20.ext E24
    have f33 := Nat.le_trans f21 E24.1
    have f34 := f22.ext E24
    have f35 := f23.ext E24
    have f36 := A12.ext E24
    have f37 := V12.ext E24
    have f38 := C12.ext E24
    have f39 := R12.ext E24
    have V_b24 : Arv Z h24 b24 k24 (.object "java/lang/String") (1 : Int32) [.null] .null := (Arv.new A24 (by decide)).pad (pad_rep [] .null 1)
    refine bk (fun t k => st24 t k) ?_
    refine bk (fun t k => XS.dup X24.here hx rfl (hb hby d9_96) rfl rfl k) ?_
    refine bk (fun t k => XS.iconst X24.here hx rfl (hb hby d9_97) k) ?_
    refine bk (fun t k => XS.aloadN X24.here hx rfl (hb hby d9_98) rfl rfl k) ?_
    show F (T24.setTop (mkF m 99 #[oR o0, oR o1, .val (.int (2 : Int32)), oR c1, oR s1, oR c2, oR s2, oR c3, oR s3, oR b1, .val (.int (0 : Int32)), .unset, .unset] [(.ref o1), (.int (0 : Int32)), (.ref b24), (.ref b24), (.ref b12), (.int (0 : Int32)), (.ref o0)]))
    have vv40 := V_b24
    obtain ⟨cl40, Ar40, q40, S40, M40, H40, G40⟩ := vv40
    have hin40 : ¬ ((0 : Int32) < 0 ∨ cl40.slots.size ≤ ((0 : Int32)).toNatClampNeg) := inb_of S40 ⟨by decide, by decide⟩
    obtain ⟨T40, h40, X40, e40, W40, st40⟩ := stR X24 hx hZ12 e24 Ar40 (j := (0 : Int32)) hin40 rfl (Sto.ofV Ar40 q40 O24 (Ins.self f28.exa)) (g := (mkF m 99 #[oR o0, oR o1, .val (.int (2 : Int32)), oR c1, oR s1, oR c2, oR s2, oR c3, oR s3, oR b1, .val (.int (0 : Int32)), .unset, .unset] [(.ref o1), (.int (0 : Int32)), (.ref b24), (.ref b24), (.ref b12), (.int (0 : Int32)), (.ref o0)])) rfl rfl (hb hby d9_99)
    have V_b24_40 : Arv Z h40 b24 k24 (.object "java/lang/String") (1 : Int32) [(.ref o1)] .null := Arv.set Ar40 q40 S40 M40 H40 G40 rfl W40 0 rfl (Nat.le_of_ble_eq_true rfl)
    have f41 := Nat.le_trans f25 (Keep.of_wr W40).1
    have f42 := f26.trans (CHr.wr W40 (own_safeV hZ12.alike V_b24 (by decide)) f26.1)
    have f43 := f27.keep (Keep.of_wr W40) (allS (own_nsV V_b24 (by decide) w_11) all0) (allS (own_neW V_b24 w_28) all0)
    have f44 := f28.keep (Keep.of_wr W40) (allS (own_nsV V_b24 (by decide) w_11) all0)
    have f45 := f29.wr W40
    have f46 := f30.wr W40
    have f47 := f31.wr W40
    have f48 := f32.other W40 ne_w_de_b24
    have f49 := Nat.le_trans f33 (Keep.of_wr W40).1
    have f50 := f34.wr W40 (Or.inr sz_b24)
    have f51 := f35.other W40 ne_b1_b24
    have f52 := f36.wr W40
    have f53 := f37.other W40 (Or.inl ne_b12_b24)
    have f54 := f38.other W40 (Or.inl ne_b12_b24)
    have f55 := f39.other W40 ne_d12_b24
    have N40 := Fr.snoc X40 NJ Gb24
    refine bk (fun t k => st40 t k) ?_
    show F (T40.setTop (mkF m 100 #[oR o0, oR o1, .val (.int (2 : Int32)), oR c1, oR s1, oR c2, oR s2, oR c3, oR s3, oR b1, .val (.int (0 : Int32)), .unset, .unset] [(.ref b24), (.ref b12), (.int (0 : Int32)), (.ref o0)]))
    obtain ⟨cq56, kq56, q56a, q56b, q56c⟩ := isOf hZ12 e40 (f43.1)
    obtain ⟨_, _, ⟨T56, L56, k56, n56⟩, -, X56, ⟨Lc56, hQ56, l56, y56, z56⟩, st56⟩ := X40.virtualBack hx (y := oN33) (z := oN33) hown12 (mvT hZ12 w_68) (mvT hZ12 w_69) (notFace_of_selects (args := #[]) (mvT hZ12 w_71)) (mvT hZ12 w_71) (mvT hZ12 w_70) (by decide) (backOf (W := 0) (rm10 l Z a0 hw [] o0 b12 b24 o1 k24 [(c1, s1, x1), (c2, s2, x2)] y cs w_e w_de k_de h40 n0 f49 (Nat.le_of_ble_eq_true rfl) f43 ⟨_, _, f52, f54, f53, f55⟩ f44 V_b24_40 f45 hcs f47 f46 f48) hZ12 w_72 w_29 (by decide) (by decide)) q56a q56c (g := (mkF m 100 #[oR o0, oR o1, .val (.int (2 : Int32)), oR c1, oR s1, oR c2, oR s2, oR c3, oR s3, oR b1, .val (.int (0 : Int32)), .unset, .unset] [(.ref b24), (.ref b12), (.int (0 : Int32)), (.ref o0)])) rfl (by rw [hml]; rfl) (Steps.refl _) (argsL := [(.int (0 : Int32)), (.ref b12), (.ref b24)]) (rest := []) (lenOf pd9__ZLjava_lang_String__Ljava_lang_String__Ljava_util_List_ rfl) rfl (by show 2 * 0 + _ ≤ _; exact Nat.le_of_eq rfl) (hb hby d9_100) (fun _ _ => ⟨rfl, e40, (by decide : 4 + 3 ≤ _), (by decide : 8 + 15 ≤ _)⟩)
    dsimp only [Pt.U, Pt.locs, Pt.cells, Pt.slots, oM10] at X56 l56 y56 z56 st56 hQ56
    subst l56 y56 z56
    obtain ⟨r56, rfl, N56q, K56, gL56⟩ := hQ56
    have N56 := Fr.app N40 N56q
    have f57 := Nat.le_trans f41 K56.1
    have f58 := f42.trans (CHr.keep K56 all0 f42.1)
    have f59 := f43.keep K56 all0 all0
    have f60 := f44.keep K56 all0
    have f61 := own_sta0 f45 K56
    have f62 := own_sta0 f46 K56
    have f63 := own_sta0 f47 K56
    have f64 := f48.keep K56 nin0
    have f65 := Nat.le_trans f49 K56.1
    have f66 := f50.trans K56 all0
    have f67 := f51.keep K56 nin0
    have f68 := f52.keep K56
    have f69 := f53.keep K56 nin0
    have f70 := f54.keep K56 nin0
    have f71 := f55.keep K56 nin0
    have f72 := V_b24_40.keep K56 nin0
    replace gL56 : own_AL Z T56.heap r56 w_de (own_pick (own_beq x2 y) c2 (own_pick (own_beq x1 y) c1 ([] : List Addr))) := gL56
    rw [jL] at gL56
    have gL56' : own_AL Z T56.heap r56 w_de [] := gL56
    obtain ⟨gE56, gS56, gD56⟩ := gL56'
    refine bk (fun t k => st56.trans k) ?_
    show F (T56.setTop (mkF m 103 #[oR o0, oR o1, .val (.int (2 : Int32)), oR c1, oR s1, oR c2, oR s2, oR c3, oR s3, oR b1, .val (.int (0 : Int32)), .unset, .unset] [(.ref r56)]))
    refine bk (fun t k => XS.astore X56.here hx rfl (hb hby d9_103) rfl rfl (l' := #[oR o0, oR o1, .val (.int (2 : Int32)), oR c1, oR s1, oR c2, oR s2, oR c3, oR s3, oR b1, .val (.int (0 : Int32)), oR r56, .unset]) rfl k) ?_
    refine bk (fun t k => XS.aload X56.here hx rfl (hb hby d9_105) rfl rfl k) ?_
    obtain ⟨cq73, kq73, q73a, q73b, q73c⟩ := isOf hZ12 rfl (gE56)
    obtain ⟨_, _, ⟨T73, L73, k73, n73⟩, -, X73, ⟨Lc73, hQ73, l73, y73, z73⟩, st73⟩ := X56.interfaceBack hx (xi := oN34) (y := oN21) hown12 (mvT hZ12 w_156) (mvT hZ12 w_133) (mvT hZ12 w_134) (mvT hZ12 w_157) (mvT hZ12 w_158) (mvT hZ12 w_159) (mvT hZ12 w_160) (mvT hZ12 w_161) (by decide) (backOf (W := 0) (rm22 l Z a0 hw [] r56 (0 : Int32) T56.heap n0 f65 gS56) hZ12 w_162 w_115 (by decide) (by decide)) q73a q73b q73c (g := (mkF m 107 #[oR o0, oR o1, .val (.int (2 : Int32)), oR c1, oR s1, oR c2, oR s2, oR c3, oR s3, oR b1, .val (.int (0 : Int32)), oR r56, .unset] [(.ref r56)])) rfl (by rw [hml]; rfl) (Steps.refl _) (argsL := []) (rest := []) (lenOf pd9___I rfl) rfl (by show 2 * 0 + _ ≤ _; exact Nat.le_of_eq rfl) (hb hby d9_107) (fun _ _ => ⟨rfl, rfl, (by decide : 7 + 0 ≤ _), (by decide : 23 + 0 ≤ _)⟩)
    dsimp only [Pt.U, Pt.locs, Pt.cells, Pt.slots, oM22] at X73 l73 y73 z73 st73 hQ73
    subst l73 y73 z73
    obtain ⟨rfl, N73q, e73⟩ := hQ73
    have N73 := Fr.app N56 N73q
    refine bk (fun t k => st73.trans k) ?_
    refine bk (fun t k => XS.iload X73.here hx rfl (hb hby d9_112) rfl k) ?_
    show F (T73.setTop (mkF m 114 #[oR o0, oR o1, .val (.int (2 : Int32)), oR c1, oR s1, oR c2, oR s2, oR c3, oR s3, oR b1, .val (.int (0 : Int32)), oR r56, .unset] [(.int (0 : Int32)), (.int (0 : Int32))]))
    refine bk (fun t k => XS.icmpYes X73.here hx rfl (pc0 := 114) (pc' := 119) rfl (hb hby d9_114) rfl (teq (by decide : (0 : Int32) = (0 : Int32))).1 (by decide) (by decide) k) ?_
    refine bk (fun t k => XS.iconst X73.here hx rfl (hb hby d9_119) k) ?_
    refine bk (fun t k => XS.istore X73.here hx rfl (hb hby d9_120) rfl (l' := #[oR o0, oR o1, .val (.int (2 : Int32)), oR c1, oR s1, oR c2, oR s2, oR c3, oR s3, oR b1, .val (.int (0 : Int32)), oR r56, .val (.int (1 : Int32))]) rfl k) ?_
    refine bk (fun t k => XS.iload X73.here hx rfl (hb hby d9_122) rfl k) ?_
    show F (T73.setTop (mkF m 124 #[oR o0, oR o1, .val (.int (2 : Int32)), oR c1, oR s1, oR c2, oR s2, oR c3, oR s3, oR b1, .val (.int (0 : Int32)), oR r56, .val (.int (1 : Int32))] [(.int (0 : Int32))]))
    refine bk (fun t k => XS.ifYes X73.here hx rfl (pc0 := 124) (pc' := 154) rfl (hb hby d9_124) rfl ((if0 _ _).trans (flt (by decide : ¬ ((0 : Int32) < (0 : Int32)))).2.2.2) (by decide) (by decide) k) ?_
    refine bk (fun t k => XS.iload X73.here hx rfl (hb hby d9_154) rfl k) ?_
    refine bk (fun t k => XS.iconst X73.here hx rfl (hb hby d9_156) k) ?_
    show F (T73.setTop (mkF m 157 #[oR o0, oR o1, .val (.int (2 : Int32)), oR c1, oR s1, oR c2, oR s2, oR c3, oR s3, oR b1, .val (.int (0 : Int32)), oR r56, .val (.int (1 : Int32))] [(.int (1 : Int32)), (.int (0 : Int32))]))
    refine bk (fun t k => XS.icmpYes X73.here hx rfl (pc0 := 157) (pc' := 187) rfl (hb hby d9_157) rfl (flt (by decide : ¬ ((1 : Int32) < (0 : Int32)))).2.2.2 (by decide) (by decide) k) ?_
    refine bk (fun t k => XS.iload X73.here hx rfl (hb hby d9_187) rfl k) ?_
    refine bk (fun t k => XS.iconst X73.here hx rfl (hb hby d9_189) k) ?_
    show F (T73.setTop (mkF m 190 #[oR o0, oR o1, .val (.int (2 : Int32)), oR c1, oR s1, oR c2, oR s2, oR c3, oR s3, oR b1, .val (.int (0 : Int32)), oR r56, .val (.int (1 : Int32))] [(.int (2 : Int32)), (.int (0 : Int32))]))
    refine bk (fun t k => XS.icmpYes X73.here hx rfl (pc0 := 190) (pc' := 220) rfl (hb hby d9_190) rfl (flt (by decide : ¬ ((2 : Int32) < (0 : Int32)))).2.2.2 (by decide) (by decide) k) ?_
    refine bk (fun t k => XS.iload X73.here hx rfl (hb hby d9_220) rfl k) ?_
    rw [hF]
    refine own_retZH X73 hx hS12 (by rw [e73]; exact f57) hZ12 own_EW (by rw [hh, e73]; exact f58) Bd.notSynchronized Bd.returns (hb hby d9_222) (by decide) (by decide) ?_
    rw [e73]
    exact ⟨rfl, N73, f66⟩
  have J88_1 : ∀ (TJ : State) (LJ : List Loc) (hJ : Heap) (XJ : Stand p l e oM9_2 (s.setVm s.vm) m #[(.ref o0), (.ref o1), (.int (2 : Int32)), (.ref c1), (.ref s1), (.ref c2), (.ref s2), (.ref c3), (.ref s3)] below meth c TJ LJ 1 3) (eJ : TJ.heap = hJ) (NJ : Fr n0 LJ) (j0 : Addr) (jC : CHr Z consts_1 s.vm h0 s.vm hJ) (jK : own_Kids Z hJ o0 [(c1, s1, x1), (c2, s2, x2)]) (jS : own_St Z hJ o1 (1 : Int32) [(.int y)]) (jcs : Sta Z hJ "java/lang/String" "COMPACT_STRINGS" "Z" (.int cs)) (jde : Sta Z hJ "java/util/ArrayList" "DEFAULTCAPACITY_EMPTY_ELEMENTDATA" "[Ljava/lang/Object;" (.ref w_de)) (je : Sta Z hJ "java/util/ImmutableCollections" "EMPTY" "Ljava/lang/Object;" (.ref w_e)) (jV : Arv Z hJ w_de k_de (.object "java/lang/Object") (0 : Int32) [] .null) (jZ : n0 ≤ hJ.size) (jKp : Keep h0 hJ []) (jX : Arv Z hJ b1 k1 (.object "com/example/quire/quire/readers/Element") (3 : Int32) [(.ref j0), .null, .null] .null) (jL : (own_pick (own_beq x2 y) c2 (own_pick (own_beq x1 y) c1 ([] : List Addr))) = [j0]), F (TJ.setTop (mkF m 88 #[oR o0, oR o1, .val (.int (2 : Int32)), oR c1, oR s1, oR c2, oR s2, oR c3, oR s3, oR b1, .val (.int (1 : Int32)), .unset, .unset] [])) := by
    intro TJ LJ hJ XJ eJ NJ j0 jC jK jS jcs jde je jV jZ jKp jX jL
    refine bk (fun t k => XS.aloadN XJ.here hx rfl (hb hby d9_88) rfl rfl k) ?_
    refine bk (fun t k => XS.iconst XJ.here hx rfl (hb hby d9_89) k) ?_
    show F (TJ.setTop (mkF m 90 #[oR o0, oR o1, .val (.int (2 : Int32)), oR c1, oR s1, oR c2, oR s2, oR c3, oR s3, oR b1, .val (.int (1 : Int32)), .unset, .unset] [(.int (0 : Int32)), (.ref o0)]))
    obtain ⟨b74, T74, h74, k174, d74, kk74, X74, e74, E74, hS74, hk74, hZ74, hown74, A74, C74, V74, R74, -, -, CR74, LT74, sf74, st74⟩ := ldcCH XJ hx hZ hown w_65 own_wS eJ hS0 (Nat.zero_le _) own_EW (by simp [consts_1]) jC.1 (vs := []) (z := (0 : Int32)) ⟨by decide, rfl⟩ (by decide) (by decide) (g := (mkF m 90 #[oR o0, oR o1, .val (.int (2 : Int32)), oR c1, oR s1, oR c2, oR s2, oR c3, oR s3, oR b1, .val (.int (1 : Int32)), .unset, .unset] [(.int (0 : Int32)), (.ref o0)])) rfl (hb hby d9_90) (n := 0) (by decide) (by decide) (by decide) (by decide)
    have f75 := hk74
    have f76 := jC.trans CR74
    have f77 := jK.ext E74
    have f78 := jS.ext E74
    have f79 := jcs.ext E74
    have f80 := jde.ext E74
    have f81 := je.ext E74
    have f82 := jV.ext E74
    have f83 := Nat.le_trans jZ E74.1
    have f84 := jKp.ext E74
    have f85 := jX.ext E74
    refine bk (fun t k => st74 t k) ?_
    refine bk (fun t k => XS.iconst X74.here hx rfl (hb hby d9_92) k) ?_
    show F (T74.setTop (mkF m 93 #[oR o0, oR o1, .val (.int (2 : Int32)), oR c1, oR s1, oR c2, oR s2, oR c3, oR s3, oR b1, .val (.int (1 : Int32)), .unset, .unset] [(.int (1 : Int32)), (.ref b74), (.int (0 : Int32)), (.ref o0)]))
    obtain ⟨T86, h86, k86, X86, e86, E86, A86, O86, st86⟩ := newR X74 hx hZ74 hown74 w_66 w_67 e74 (g := (mkF m 93 #[oR o0, oR o1, .val (.int (2 : Int32)), oR c1, oR s1, oR c2, oR s2, oR c3, oR s3, oR b1, .val (.int (1 : Int32)), .unset, .unset] [(.int (1 : Int32)), (.ref b74), (.int (0 : Int32)), (.ref o0)])) rfl (hb hby d9_93) rfl (by decide) (cap := 1) (by decide) (by decide) (by decide) (by decide)
    obtain ⟨b86, g86⟩ : ∃ z, z = h74.size := ⟨_, rfl⟩
    rw [← g86] at A86 st86
    have Gb86 : n0 ≤ b86 := Nat.le_trans f83 (Nat.le_of_eq g86.symm)
    have sz_b86 : h0.size ≤ b86 := Nat.le_trans f84.1 (Nat.le_of_eq g86.symm)
    have ne_w_de_b86 : w_de ≠ b86 := Nat.ne_of_lt (Nat.lt_of_lt_of_le f82.lt (Nat.le_of_eq g86.symm))
    have ne_b1_b86 : b1 ≠ b86 := Nat.ne_of_lt (Nat.lt_of_lt_of_le f85.lt (Nat.le_of_eq g86.symm))
    have ne_c1_b86 : c1 ≠ b86 := Nat.ne_of_lt (Nat.lt_of_lt_of_le (own_Kids.ch f77 0 rfl).1.lt (Nat.le_of_eq g86.symm))
    have ne_c2_b86 : c2 ≠ b86 := Nat.ne_of_lt (Nat.lt_of_lt_of_le (own_Kids.ch f77 1 rfl).1.lt (Nat.le_of_eq g86.symm))
    have ne_o0_b86 : o0 ≠ b86 := Nat.ne_of_lt (Nat.lt_of_lt_of_le f77.1.lt (Nat.le_of_eq g86.symm))
    have ne_o1_b86 : o1 ≠ b86 := Nat.ne_of_lt (Nat.lt_of_lt_of_le f78.exa.lt (Nat.le_of_eq g86.symm))
    have ne_b74_b86 : b74 ≠ b86 := Nat.ne_of_lt (Nat.lt_of_lt_of_le A74.lt (Nat.le_of_eq g86.symm))
    have ne_d74_b86 : d74 ≠ b86 := Nat.ne_of_lt (Nat.lt_of_lt_of_le R74.lt (Nat.le_of_eq g86.symm))
    have f87 := Nat.le_trans f75 E86.1
    have f88 := f76.trans (CHr.ext E86 f76.1)
    have f89 := f77.ext E86
    have f90 := f78.ext E86
    have f91 := f79.ext E86
    have f92 := f80.ext E86
    have f93 := f81.ext E86
    have f94 := f82.ext E86
    have f95 := Nat.le_trans f83 E86.1
    have f96 := f84.ext E86
    have f97 := f85.ext E86
    have f98 := A74.ext E86
    have f99 := V74.ext E86
    have f100 := C74.ext E86
    have f101 := R74.ext E86
    have V_b86 : Arv Z h86 b86 k86 (.object "java/lang/String") (1 : Int32) [.null] .null := (Arv.new A86 (by decide)).pad (pad_rep [] .null 1)
    refine bk (fun t k => st86 t k) ?_
    refine bk (fun t k => XS.dup X86.here hx rfl (hb hby d9_96) rfl rfl k) ?_
    refine bk (fun t k => XS.iconst X86.here hx rfl (hb hby d9_97) k) ?_
    refine bk (fun t k => XS.aloadN X86.here hx rfl (hb hby d9_98) rfl rfl k) ?_
    show F (T86.setTop (mkF m 99 #[oR o0, oR o1, .val (.int (2 : Int32)), oR c1, oR s1, oR c2, oR s2, oR c3, oR s3, oR b1, .val (.int (1 : Int32)), .unset, .unset] [(.ref o1), (.int (0 : Int32)), (.ref b86), (.ref b86), (.ref b74), (.int (0 : Int32)), (.ref o0)]))
    have vv102 := V_b86
    obtain ⟨cl102, Ar102, q102, S102, M102, H102, G102⟩ := vv102
    have hin102 : ¬ ((0 : Int32) < 0 ∨ cl102.slots.size ≤ ((0 : Int32)).toNatClampNeg) := inb_of S102 ⟨by decide, by decide⟩
    obtain ⟨T102, h102, X102, e102, W102, st102⟩ := stR X86 hx hZ74 e86 Ar102 (j := (0 : Int32)) hin102 rfl (Sto.ofV Ar102 q102 O86 (Ins.self f90.exa)) (g := (mkF m 99 #[oR o0, oR o1, .val (.int (2 : Int32)), oR c1, oR s1, oR c2, oR s2, oR c3, oR s3, oR b1, .val (.int (1 : Int32)), .unset, .unset] [(.ref o1), (.int (0 : Int32)), (.ref b86), (.ref b86), (.ref b74), (.int (0 : Int32)), (.ref o0)])) rfl rfl (hb hby d9_99)
    have V_b86_102 : Arv Z h102 b86 k86 (.object "java/lang/String") (1 : Int32) [(.ref o1)] .null := Arv.set Ar102 q102 S102 M102 H102 G102 rfl W102 0 rfl (Nat.le_of_ble_eq_true rfl)
    have f103 := Nat.le_trans f87 (Keep.of_wr W102).1
    have f104 := f88.trans (CHr.wr W102 (own_safeV hZ74.alike V_b86 (by decide)) f88.1)
    have f105 := f89.keep (Keep.of_wr W102) (allS (own_nsV V_b86 (by decide) w_11) all0) (allS (own_neW V_b86 w_28) all0)
    have f106 := f90.keep (Keep.of_wr W102) (allS (own_nsV V_b86 (by decide) w_11) all0)
    have f107 := f91.wr W102
    have f108 := f92.wr W102
    have f109 := f93.wr W102
    have f110 := f94.other W102 ne_w_de_b86
    have f111 := Nat.le_trans f95 (Keep.of_wr W102).1
    have f112 := f96.wr W102 (Or.inr sz_b86)
    have f113 := f97.other W102 ne_b1_b86
    have f114 := f98.wr W102
    have f115 := f99.other W102 (Or.inl ne_b74_b86)
    have f116 := f100.other W102 (Or.inl ne_b74_b86)
    have f117 := f101.other W102 ne_d74_b86
    have N102 := Fr.snoc X102 NJ Gb86
    refine bk (fun t k => st102 t k) ?_
    show F (T102.setTop (mkF m 100 #[oR o0, oR o1, .val (.int (2 : Int32)), oR c1, oR s1, oR c2, oR s2, oR c3, oR s3, oR b1, .val (.int (1 : Int32)), .unset, .unset] [(.ref b86), (.ref b74), (.int (0 : Int32)), (.ref o0)]))
    obtain ⟨cq118, kq118, q118a, q118b, q118c⟩ := isOf hZ74 e102 (f105.1)
    obtain ⟨_, _, ⟨T118, L118, k118, n118⟩, -, X118, ⟨Lc118, hQ118, l118, y118, z118⟩, st118⟩ := X102.virtualBack hx (y := oN33) (z := oN33) hown74 (mvT hZ74 w_68) (mvT hZ74 w_69) (notFace_of_selects (args := #[]) (mvT hZ74 w_71)) (mvT hZ74 w_71) (mvT hZ74 w_70) (by decide) (backOf (W := 0) (rm10 l Z a0 hw [] o0 b74 b86 o1 k86 [(c1, s1, x1), (c2, s2, x2)] y cs w_e w_de k_de h102 n0 f111 (Nat.le_of_ble_eq_true rfl) f105 ⟨_, _, f114, f116, f115, f117⟩ f106 V_b86_102 f107 hcs f109 f108 f110) hZ74 w_72 w_29 (by decide) (by decide)) q118a q118c (g := (mkF m 100 #[oR o0, oR o1, .val (.int (2 : Int32)), oR c1, oR s1, oR c2, oR s2, oR c3, oR s3, oR b1, .val (.int (1 : Int32)), .unset, .unset] [(.ref b86), (.ref b74), (.int (0 : Int32)), (.ref o0)])) rfl (by rw [hml]; rfl) (Steps.refl _) (argsL := [(.int (0 : Int32)), (.ref b74), (.ref b86)]) (rest := []) (lenOf pd9__ZLjava_lang_String__Ljava_lang_String__Ljava_util_List_ rfl) rfl (by show 2 * 0 + _ ≤ _; exact Nat.le_of_eq rfl) (hb hby d9_100) (fun _ _ => ⟨rfl, e102, (by decide : 4 + 3 ≤ _), (by decide : 8 + 15 ≤ _)⟩)
    dsimp only [Pt.U, Pt.locs, Pt.cells, Pt.slots, oM10] at X118 l118 y118 z118 st118 hQ118
    subst l118 y118 z118
    obtain ⟨r118, rfl, N118q, K118, gL118⟩ := hQ118
    have N118 := Fr.app N102 N118q
    have f119 := Nat.le_trans f103 K118.1
    have f120 := f104.trans (CHr.keep K118 all0 f104.1)
    have f121 := f105.keep K118 all0 all0
    have f122 := f106.keep K118 all0
    have f123 := own_sta0 f107 K118
    have f124 := own_sta0 f108 K118
    have f125 := own_sta0 f109 K118
    have f126 := f110.keep K118 nin0
    have f127 := Nat.le_trans f111 K118.1
    have f128 := f112.trans K118 all0
    have f129 := f113.keep K118 nin0
    have f130 := f114.keep K118
    have f131 := f115.keep K118 nin0
    have f132 := f116.keep K118 nin0
    have f133 := f117.keep K118 nin0
    have f134 := V_b86_102.keep K118 nin0
    replace gL118 : own_AL Z T118.heap r118 w_de (own_pick (own_beq x2 y) c2 (own_pick (own_beq x1 y) c1 ([] : List Addr))) := gL118
    rw [jL] at gL118
    have gL118' : own_AL Z T118.heap r118 w_de [j0] := gL118
    obtain ⟨ra118, ka118, gE118, gS118, gD118, gV118⟩ := gL118'
    refine bk (fun t k => st118.trans k) ?_
    show F (T118.setTop (mkF m 103 #[oR o0, oR o1, .val (.int (2 : Int32)), oR c1, oR s1, oR c2, oR s2, oR c3, oR s3, oR b1, .val (.int (1 : Int32)), .unset, .unset] [(.ref r118)]))
    refine bk (fun t k => XS.astore X118.here hx rfl (hb hby d9_103) rfl rfl (l' := #[oR o0, oR o1, .val (.int (2 : Int32)), oR c1, oR s1, oR c2, oR s2, oR c3, oR s3, oR b1, .val (.int (1 : Int32)), oR r118, .unset]) rfl k) ?_
    refine bk (fun t k => XS.aload X118.here hx rfl (hb hby d9_105) rfl rfl k) ?_
    obtain ⟨cq135, kq135, q135a, q135b, q135c⟩ := isOf hZ74 rfl (gE118)
    obtain ⟨_, _, ⟨T135, L135, k135, n135⟩, -, X135, ⟨Lc135, hQ135, l135, y135, z135⟩, st135⟩ := X118.interfaceBack hx (xi := oN34) (y := oN21) hown74 (mvT hZ74 w_156) (mvT hZ74 w_133) (mvT hZ74 w_134) (mvT hZ74 w_157) (mvT hZ74 w_158) (mvT hZ74 w_159) (mvT hZ74 w_160) (mvT hZ74 w_161) (by decide) (backOf (W := 0) (rm22 l Z a0 hw [] r118 (1 : Int32) T118.heap n0 f127 gS118) hZ74 w_162 w_115 (by decide) (by decide)) q135a q135b q135c (g := (mkF m 107 #[oR o0, oR o1, .val (.int (2 : Int32)), oR c1, oR s1, oR c2, oR s2, oR c3, oR s3, oR b1, .val (.int (1 : Int32)), oR r118, .unset] [(.ref r118)])) rfl (by rw [hml]; rfl) (Steps.refl _) (argsL := []) (rest := []) (lenOf pd9___I rfl) rfl (by show 2 * 0 + _ ≤ _; exact Nat.le_of_eq rfl) (hb hby d9_107) (fun _ _ => ⟨rfl, rfl, (by decide : 7 + 0 ≤ _), (by decide : 23 + 0 ≤ _)⟩)
    dsimp only [Pt.U, Pt.locs, Pt.cells, Pt.slots, oM22] at X135 l135 y135 z135 st135 hQ135
    subst l135 y135 z135
    obtain ⟨rfl, N135q, e135⟩ := hQ135
    have N135 := Fr.app N118 N135q
    refine bk (fun t k => st135.trans k) ?_
    refine bk (fun t k => XS.iload X135.here hx rfl (hb hby d9_112) rfl k) ?_
    show F (T135.setTop (mkF m 114 #[oR o0, oR o1, .val (.int (2 : Int32)), oR c1, oR s1, oR c2, oR s2, oR c3, oR s3, oR b1, .val (.int (1 : Int32)), oR r118, .unset] [(.int (1 : Int32)), (.int (1 : Int32))]))
    refine bk (fun t k => XS.icmpYes X135.here hx rfl (pc0 := 114) (pc' := 119) rfl (hb hby d9_114) rfl (teq (by decide : (1 : Int32) = (1 : Int32))).1 (by decide) (by decide) k) ?_
    refine bk (fun t k => XS.iconst X135.here hx rfl (hb hby d9_119) k) ?_
    refine bk (fun t k => XS.istore X135.here hx rfl (hb hby d9_120) rfl (l' := #[oR o0, oR o1, .val (.int (2 : Int32)), oR c1, oR s1, oR c2, oR s2, oR c3, oR s3, oR b1, .val (.int (1 : Int32)), oR r118, .val (.int (1 : Int32))]) rfl k) ?_
    refine bk (fun t k => XS.iload X135.here hx rfl (hb hby d9_122) rfl k) ?_
    show F (T135.setTop (mkF m 124 #[oR o0, oR o1, .val (.int (2 : Int32)), oR c1, oR s1, oR c2, oR s2, oR c3, oR s3, oR b1, .val (.int (1 : Int32)), oR r118, .val (.int (1 : Int32))] [(.int (1 : Int32))]))
    refine bk (fun t k => XS.ifNo X135.here hx rfl (hb hby d9_124) rfl ((if0 _ _).trans (tlt (by decide : (0 : Int32) < (1 : Int32))).2.2.2) k) ?_
    refine bk (fun t k => XS.iload X135.here hx rfl (hb hby d9_127) rfl k) ?_
    refine bk (fun t k => XS.ifNo X135.here hx rfl (hb hby d9_129) rfl ((if0 _ _).trans (feq (by decide : ¬ ((1 : Int32) = (0 : Int32)))).1) k) ?_
    refine bk (fun t k => XS.aload X135.here hx rfl (hb hby d9_132) rfl rfl k) ?_
    refine bk (fun t k => XS.iconst X135.here hx rfl (hb hby d9_134) k) ?_
    show F (T135.setTop (mkF m 135 #[oR o0, oR o1, .val (.int (2 : Int32)), oR c1, oR s1, oR c2, oR s2, oR c3, oR s3, oR b1, .val (.int (1 : Int32)), oR r118, .val (.int (1 : Int32))] [(.int (0 : Int32)), (.ref r118)]))
    obtain ⟨cq136, kq136, q136a, q136b, q136c⟩ := isOf hZ74 e135 (gE118)
    obtain ⟨_, _, ⟨T136, L136, k136, n136⟩, -, X136, ⟨Lc136, hQ136, l136, y136, z136⟩, st136⟩ := X135.interfaceBack hx (xi := oN35) (y := oN30) hown74 (mvT hZ74 w_221) (mvT hZ74 w_142) (mvT hZ74 w_143) (mvT hZ74 w_222) (mvT hZ74 w_223) (mvT hZ74 w_224) (mvT hZ74 w_225) (mvT hZ74 w_161) (by decide) (backOf (W := 0) (rm32_0 l Z a0 hw [] r118 (1 : Int32) ra118 ka118 j0 .null .null T118.heap n0 f127 gE118 gS118 (by decide) gD118 gV118) hZ74 w_226 w_115 (by decide) (by decide)) q136a q136b q136c (g := (mkF m 135 #[oR o0, oR o1, .val (.int (2 : Int32)), oR c1, oR s1, oR c2, oR s2, oR c3, oR s3, oR b1, .val (.int (1 : Int32)), oR r118, .val (.int (1 : Int32))] [(.int (0 : Int32)), (.ref r118)])) rfl (by rw [hml]; rfl) (Steps.refl _) (argsL := [(.int (0 : Int32))]) (rest := []) (lenOf pd9__I_Ljava_lang_Object_ rfl) rfl (by show 2 * 0 + _ ≤ _; exact Nat.le_of_eq rfl) (hb hby d9_135) (fun _ _ => ⟨rfl, e135, (by decide : 7 + 0 ≤ _), (by decide : 23 + 0 ≤ _)⟩)
    dsimp only [Pt.U, Pt.locs, Pt.cells, Pt.slots, oM32_0] at X136 l136 y136 z136 st136 hQ136
    subst l136 y136 z136
    obtain ⟨rfl, N136q, e136⟩ := hQ136
    have N136 := Fr.app N135 N136q
    refine bk (fun t k => st136.trans k) ?_
    refine bk (fun t k => XS.aload X136.here hx rfl (hb hby d9_140) rfl rfl k) ?_
    refine bk (fun t k => XS.iconst X136.here hx rfl (hb hby d9_142) k) ?_
    show F (T136.setTop (mkF m 143 #[oR o0, oR o1, .val (.int (2 : Int32)), oR c1, oR s1, oR c2, oR s2, oR c3, oR s3, oR b1, .val (.int (1 : Int32)), oR r118, .val (.int (1 : Int32))] [(.int (0 : Int32)), (.ref b1), (.ref j0)]))
    have vv137 := f129
    obtain ⟨cl137, Ar137, q137, S137, M137, H137, G137⟩ := vv137
    have hin137 : ¬ ((0 : Int32) < 0 ∨ cl137.slots.size ≤ ((0 : Int32)).toNatClampNeg) := inb_of S137 ⟨by decide, by decide⟩
    refine bk (fun t k => X136.aaload hx (j := (0 : Int32)) (v := (.ref j0)) (by rw [e136]; exact Ar137.1) (State.isArrayOf_alike hZ74.alike Ar137.2.1) rfl Ar137.2.2 hin137 (Has.at H137 hin137 rfl) (g := (mkF m 143 #[oR o0, oR o1, .val (.int (2 : Int32)), oR c1, oR s1, oR c2, oR s2, oR c3, oR s3, oR b1, .val (.int (1 : Int32)), oR r118, .val (.int (1 : Int32))] [(.int (0 : Int32)), (.ref b1), (.ref j0)])) rfl rfl (hb hby d9_143) t k) ?_
    show F (T136.setTop (mkF m 144 #[oR o0, oR o1, .val (.int (2 : Int32)), oR c1, oR s1, oR c2, oR s2, oR c3, oR s3, oR b1, .val (.int (1 : Int32)), oR r118, .val (.int (1 : Int32))] [(.ref j0), (.ref j0)]))
    refine bk (fun t k => Jvm.RoadKit.acmp (g := (mkF m 144 #[oR o0, oR o1, .val (.int (2 : Int32)), oR c1, oR s1, oR c2, oR s2, oR c3, oR s3, oR b1, .val (.int (1 : Int32)), oR r118, .val (.int (1 : Int32))] [(.ref j0), (.ref j0)])) X136 hx rfl rfl rfl (pc0 := 144) (pc' := 147) (same := true) rfl (hb hby d9_144) rfl (decide_eq_true rfl) (by decide) (by decide) k) ?_
    refine bk (fun t k => XS.iconst X136.here hx rfl (hb hby d9_147) k) ?_
    refine bk (fun t k => XS.goto X136.here hx rfl (pc0 := 148) (pc' := 152) rfl (hb hby d9_148) (by decide) (by decide) k) ?_
    show F (T136.setTop (mkF m 152 #[oR o0, oR o1, .val (.int (2 : Int32)), oR c1, oR s1, oR c2, oR s2, oR c3, oR s3, oR b1, .val (.int (1 : Int32)), oR r118, .val (.int (1 : Int32))] [(.int (1 : Int32))]))
    refine bk (fun t k => XS.istore X136.here hx rfl (hb hby d9_152) rfl (l' := #[oR o0, oR o1, .val (.int (2 : Int32)), oR c1, oR s1, oR c2, oR s2, oR c3, oR s3, oR b1, .val (.int (1 : Int32)), oR r118, .val (.int (1 : Int32))]) rfl k) ?_
    refine bk (fun t k => XS.iload X136.here hx rfl (hb hby d9_154) rfl k) ?_
    refine bk (fun t k => XS.iconst X136.here hx rfl (hb hby d9_156) k) ?_
    show F (T136.setTop (mkF m 157 #[oR o0, oR o1, .val (.int (2 : Int32)), oR c1, oR s1, oR c2, oR s2, oR c3, oR s3, oR b1, .val (.int (1 : Int32)), oR r118, .val (.int (1 : Int32))] [(.int (1 : Int32)), (.int (1 : Int32))]))
    refine bk (fun t k => XS.icmpYes X136.here hx rfl (pc0 := 157) (pc' := 187) rfl (hb hby d9_157) rfl (flt (by decide : ¬ ((1 : Int32) < (1 : Int32)))).2.2.2 (by decide) (by decide) k) ?_
    refine bk (fun t k => XS.iload X136.here hx rfl (hb hby d9_187) rfl k) ?_
    refine bk (fun t k => XS.iconst X136.here hx rfl (hb hby d9_189) k) ?_
    show F (T136.setTop (mkF m 190 #[oR o0, oR o1, .val (.int (2 : Int32)), oR c1, oR s1, oR c2, oR s2, oR c3, oR s3, oR b1, .val (.int (1 : Int32)), oR r118, .val (.int (1 : Int32))] [(.int (2 : Int32)), (.int (1 : Int32))]))
    refine bk (fun t k => XS.icmpYes X136.here hx rfl (pc0 := 190) (pc' := 220) rfl (hb hby d9_190) rfl (flt (by decide : ¬ ((2 : Int32) < (1 : Int32)))).2.2.2 (by decide) (by decide) k) ?_
    refine bk (fun t k => XS.iload X136.here hx rfl (hb hby d9_220) rfl k) ?_
    rw [hF]
    refine own_retZH X136 hx hS74 (by rw [e136]; exact f119) hZ74 own_EW (by rw [hh, e136]; exact f120) Bd.notSynchronized Bd.returns (hb hby d9_222) (by decide) (by decide) ?_
    rw [e136]
    exact ⟨rfl, N136, f128⟩
  have J88_2 : ∀ (TJ : State) (LJ : List Loc) (hJ : Heap) (XJ : Stand p l e oM9_2 (s.setVm s.vm) m #[(.ref o0), (.ref o1), (.int (2 : Int32)), (.ref c1), (.ref s1), (.ref c2), (.ref s2), (.ref c3), (.ref s3)] below meth c TJ LJ 1 3) (eJ : TJ.heap = hJ) (NJ : Fr n0 LJ) (j0 : Addr) (j1 : Addr) (jC : CHr Z consts_1 s.vm h0 s.vm hJ) (jK : own_Kids Z hJ o0 [(c1, s1, x1), (c2, s2, x2)]) (jS : own_St Z hJ o1 (1 : Int32) [(.int y)]) (jcs : Sta Z hJ "java/lang/String" "COMPACT_STRINGS" "Z" (.int cs)) (jde : Sta Z hJ "java/util/ArrayList" "DEFAULTCAPACITY_EMPTY_ELEMENTDATA" "[Ljava/lang/Object;" (.ref w_de)) (je : Sta Z hJ "java/util/ImmutableCollections" "EMPTY" "Ljava/lang/Object;" (.ref w_e)) (jV : Arv Z hJ w_de k_de (.object "java/lang/Object") (0 : Int32) [] .null) (jZ : n0 ≤ hJ.size) (jKp : Keep h0 hJ []) (jX : Arv Z hJ b1 k1 (.object "com/example/quire/quire/readers/Element") (3 : Int32) [(.ref j0), (.ref j1), .null] .null) (jL : (own_pick (own_beq x2 y) c2 (own_pick (own_beq x1 y) c1 ([] : List Addr))) = [j0, j1]), F (TJ.setTop (mkF m 88 #[oR o0, oR o1, .val (.int (2 : Int32)), oR c1, oR s1, oR c2, oR s2, oR c3, oR s3, oR b1, .val (.int (2 : Int32)), .unset, .unset] [])) := by
    intro TJ LJ hJ XJ eJ NJ j0 j1 jC jK jS jcs jde je jV jZ jKp jX jL
    refine bk (fun t k => XS.aloadN XJ.here hx rfl (hb hby d9_88) rfl rfl k) ?_
    refine bk (fun t k => XS.iconst XJ.here hx rfl (hb hby d9_89) k) ?_
    show F (TJ.setTop (mkF m 90 #[oR o0, oR o1, .val (.int (2 : Int32)), oR c1, oR s1, oR c2, oR s2, oR c3, oR s3, oR b1, .val (.int (2 : Int32)), .unset, .unset] [(.int (0 : Int32)), (.ref o0)]))
    obtain ⟨b138, T138, h138, k1138, d138, kk138, X138, e138, E138, hS138, hk138, hZ138, hown138, A138, C138, V138, R138, -, -, CR138, LT138, sf138, st138⟩ := ldcCH XJ hx hZ hown w_65 own_wS eJ hS0 (Nat.zero_le _) own_EW (by simp [consts_1]) jC.1 (vs := []) (z := (0 : Int32)) ⟨by decide, rfl⟩ (by decide) (by decide) (g := (mkF m 90 #[oR o0, oR o1, .val (.int (2 : Int32)), oR c1, oR s1, oR c2, oR s2, oR c3, oR s3, oR b1, .val (.int (2 : Int32)), .unset, .unset] [(.int (0 : Int32)), (.ref o0)])) rfl (hb hby d9_90) (n := 0) (by decide) (by decide) (by decide) (by decide)
    have f139 := hk138
    have f140 := jC.trans CR138
    have f141 := jK.ext E138
    have f142 := jS.ext E138
    have f143 := jcs.ext E138
    have f144 := jde.ext E138
    have f145 := je.ext E138
    have f146 := jV.ext E138
    have f147 := Nat.le_trans jZ E138.1
    have f148 := jKp.ext E138
    have f149 := jX.ext E138
    refine bk (fun t k => st138 t k) ?_
    refine bk (fun t k => XS.iconst X138.here hx rfl (hb hby d9_92) k) ?_
    show F (T138.setTop (mkF m 93 #[oR o0, oR o1, .val (.int (2 : Int32)), oR c1, oR s1, oR c2, oR s2, oR c3, oR s3, oR b1, .val (.int (2 : Int32)), .unset, .unset] [(.int (1 : Int32)), (.ref b138), (.int (0 : Int32)), (.ref o0)]))
    obtain ⟨T150, h150, k150, X150, e150, E150, A150, O150, st150⟩ := newR X138 hx hZ138 hown138 w_66 w_67 e138 (g := (mkF m 93 #[oR o0, oR o1, .val (.int (2 : Int32)), oR c1, oR s1, oR c2, oR s2, oR c3, oR s3, oR b1, .val (.int (2 : Int32)), .unset, .unset] [(.int (1 : Int32)), (.ref b138), (.int (0 : Int32)), (.ref o0)])) rfl (hb hby d9_93) rfl (by decide) (cap := 1) (by decide) (by decide) (by decide) (by decide)
    obtain ⟨b150, g150⟩ : ∃ z, z = h138.size := ⟨_, rfl⟩
    rw [← g150] at A150 st150
    have Gb150 : n0 ≤ b150 := Nat.le_trans f147 (Nat.le_of_eq g150.symm)
    have sz_b150 : h0.size ≤ b150 := Nat.le_trans f148.1 (Nat.le_of_eq g150.symm)
    have ne_w_de_b150 : w_de ≠ b150 := Nat.ne_of_lt (Nat.lt_of_lt_of_le f146.lt (Nat.le_of_eq g150.symm))
    have ne_b1_b150 : b1 ≠ b150 := Nat.ne_of_lt (Nat.lt_of_lt_of_le f149.lt (Nat.le_of_eq g150.symm))
    have ne_c1_b150 : c1 ≠ b150 := Nat.ne_of_lt (Nat.lt_of_lt_of_le (own_Kids.ch f141 0 rfl).1.lt (Nat.le_of_eq g150.symm))
    have ne_c2_b150 : c2 ≠ b150 := Nat.ne_of_lt (Nat.lt_of_lt_of_le (own_Kids.ch f141 1 rfl).1.lt (Nat.le_of_eq g150.symm))
    have ne_o0_b150 : o0 ≠ b150 := Nat.ne_of_lt (Nat.lt_of_lt_of_le f141.1.lt (Nat.le_of_eq g150.symm))
    have ne_o1_b150 : o1 ≠ b150 := Nat.ne_of_lt (Nat.lt_of_lt_of_le f142.exa.lt (Nat.le_of_eq g150.symm))
    have ne_b138_b150 : b138 ≠ b150 := Nat.ne_of_lt (Nat.lt_of_lt_of_le A138.lt (Nat.le_of_eq g150.symm))
    have ne_d138_b150 : d138 ≠ b150 := Nat.ne_of_lt (Nat.lt_of_lt_of_le R138.lt (Nat.le_of_eq g150.symm))
    have f151 := Nat.le_trans f139 E150.1
    have f152 := f140.trans (CHr.ext E150 f140.1)
    have f153 := f141.ext E150
    have f154 := f142.ext E150
    have f155 := f143.ext E150
    have f156 := f144.ext E150
    have f157 := f145.ext E150
    have f158 := f146.ext E150
    have f159 := Nat.le_trans f147 E150.1
    have f160 := f148.ext E150
    have f161 := f149.ext E150
    have f162 := A138.ext E150
    have f163 := V138.ext E150
    have f164 := C138.ext E150
    have f165 := R138.ext E150
    have V_b150 : Arv Z h150 b150 k150 (.object "java/lang/String") (1 : Int32) [.null] .null := (Arv.new A150 (by decide)).pad (pad_rep [] .null 1)
    refine bk (fun t k => st150 t k) ?_
    refine bk (fun t k => XS.dup X150.here hx rfl (hb hby d9_96) rfl rfl k) ?_
    refine bk (fun t k => XS.iconst X150.here hx rfl (hb hby d9_97) k) ?_
    refine bk (fun t k => XS.aloadN X150.here hx rfl (hb hby d9_98) rfl rfl k) ?_
    show F (T150.setTop (mkF m 99 #[oR o0, oR o1, .val (.int (2 : Int32)), oR c1, oR s1, oR c2, oR s2, oR c3, oR s3, oR b1, .val (.int (2 : Int32)), .unset, .unset] [(.ref o1), (.int (0 : Int32)), (.ref b150), (.ref b150), (.ref b138), (.int (0 : Int32)), (.ref o0)]))
    have vv166 := V_b150
    obtain ⟨cl166, Ar166, q166, S166, M166, H166, G166⟩ := vv166
    have hin166 : ¬ ((0 : Int32) < 0 ∨ cl166.slots.size ≤ ((0 : Int32)).toNatClampNeg) := inb_of S166 ⟨by decide, by decide⟩
    obtain ⟨T166, h166, X166, e166, W166, st166⟩ := stR X150 hx hZ138 e150 Ar166 (j := (0 : Int32)) hin166 rfl (Sto.ofV Ar166 q166 O150 (Ins.self f154.exa)) (g := (mkF m 99 #[oR o0, oR o1, .val (.int (2 : Int32)), oR c1, oR s1, oR c2, oR s2, oR c3, oR s3, oR b1, .val (.int (2 : Int32)), .unset, .unset] [(.ref o1), (.int (0 : Int32)), (.ref b150), (.ref b150), (.ref b138), (.int (0 : Int32)), (.ref o0)])) rfl rfl (hb hby d9_99)
    have V_b150_166 : Arv Z h166 b150 k150 (.object "java/lang/String") (1 : Int32) [(.ref o1)] .null := Arv.set Ar166 q166 S166 M166 H166 G166 rfl W166 0 rfl (Nat.le_of_ble_eq_true rfl)
    have f167 := Nat.le_trans f151 (Keep.of_wr W166).1
    have f168 := f152.trans (CHr.wr W166 (own_safeV hZ138.alike V_b150 (by decide)) f152.1)
    have f169 := f153.keep (Keep.of_wr W166) (allS (own_nsV V_b150 (by decide) w_11) all0) (allS (own_neW V_b150 w_28) all0)
    have f170 := f154.keep (Keep.of_wr W166) (allS (own_nsV V_b150 (by decide) w_11) all0)
    have f171 := f155.wr W166
    have f172 := f156.wr W166
    have f173 := f157.wr W166
    have f174 := f158.other W166 ne_w_de_b150
    have f175 := Nat.le_trans f159 (Keep.of_wr W166).1
    have f176 := f160.wr W166 (Or.inr sz_b150)
    have f177 := f161.other W166 ne_b1_b150
    have f178 := f162.wr W166
    have f179 := f163.other W166 (Or.inl ne_b138_b150)
    have f180 := f164.other W166 (Or.inl ne_b138_b150)
    have f181 := f165.other W166 ne_d138_b150
    have N166 := Fr.snoc X166 NJ Gb150
    refine bk (fun t k => st166 t k) ?_
    show F (T166.setTop (mkF m 100 #[oR o0, oR o1, .val (.int (2 : Int32)), oR c1, oR s1, oR c2, oR s2, oR c3, oR s3, oR b1, .val (.int (2 : Int32)), .unset, .unset] [(.ref b150), (.ref b138), (.int (0 : Int32)), (.ref o0)]))
    obtain ⟨cq182, kq182, q182a, q182b, q182c⟩ := isOf hZ138 e166 (f169.1)
    obtain ⟨_, _, ⟨T182, L182, k182, n182⟩, -, X182, ⟨Lc182, hQ182, l182, y182, z182⟩, st182⟩ := X166.virtualBack hx (y := oN33) (z := oN33) hown138 (mvT hZ138 w_68) (mvT hZ138 w_69) (notFace_of_selects (args := #[]) (mvT hZ138 w_71)) (mvT hZ138 w_71) (mvT hZ138 w_70) (by decide) (backOf (W := 0) (rm10 l Z a0 hw [] o0 b138 b150 o1 k150 [(c1, s1, x1), (c2, s2, x2)] y cs w_e w_de k_de h166 n0 f175 (Nat.le_of_ble_eq_true rfl) f169 ⟨_, _, f178, f180, f179, f181⟩ f170 V_b150_166 f171 hcs f173 f172 f174) hZ138 w_72 w_29 (by decide) (by decide)) q182a q182c (g := (mkF m 100 #[oR o0, oR o1, .val (.int (2 : Int32)), oR c1, oR s1, oR c2, oR s2, oR c3, oR s3, oR b1, .val (.int (2 : Int32)), .unset, .unset] [(.ref b150), (.ref b138), (.int (0 : Int32)), (.ref o0)])) rfl (by rw [hml]; rfl) (Steps.refl _) (argsL := [(.int (0 : Int32)), (.ref b138), (.ref b150)]) (rest := []) (lenOf pd9__ZLjava_lang_String__Ljava_lang_String__Ljava_util_List_ rfl) rfl (by show 2 * 0 + _ ≤ _; exact Nat.le_of_eq rfl) (hb hby d9_100) (fun _ _ => ⟨rfl, e166, (by decide : 4 + 3 ≤ _), (by decide : 8 + 15 ≤ _)⟩)
    dsimp only [Pt.U, Pt.locs, Pt.cells, Pt.slots, oM10] at X182 l182 y182 z182 st182 hQ182
    subst l182 y182 z182
    obtain ⟨r182, rfl, N182q, K182, gL182⟩ := hQ182
    have N182 := Fr.app N166 N182q
    have f183 := Nat.le_trans f167 K182.1
    have f184 := f168.trans (CHr.keep K182 all0 f168.1)
    have f185 := f169.keep K182 all0 all0
    have f186 := f170.keep K182 all0
    have f187 := own_sta0 f171 K182
    have f188 := own_sta0 f172 K182
    have f189 := own_sta0 f173 K182
    have f190 := f174.keep K182 nin0
    have f191 := Nat.le_trans f175 K182.1
    have f192 := f176.trans K182 all0
    have f193 := f177.keep K182 nin0
    have f194 := f178.keep K182
    have f195 := f179.keep K182 nin0
    have f196 := f180.keep K182 nin0
    have f197 := f181.keep K182 nin0
    have f198 := V_b150_166.keep K182 nin0
    replace gL182 : own_AL Z T182.heap r182 w_de (own_pick (own_beq x2 y) c2 (own_pick (own_beq x1 y) c1 ([] : List Addr))) := gL182
    rw [jL] at gL182
    have gL182' : own_AL Z T182.heap r182 w_de [j0, j1] := gL182
    obtain ⟨ra182, ka182, gE182, gS182, gD182, gV182⟩ := gL182'
    refine bk (fun t k => st182.trans k) ?_
    show F (T182.setTop (mkF m 103 #[oR o0, oR o1, .val (.int (2 : Int32)), oR c1, oR s1, oR c2, oR s2, oR c3, oR s3, oR b1, .val (.int (2 : Int32)), .unset, .unset] [(.ref r182)]))
    refine bk (fun t k => XS.astore X182.here hx rfl (hb hby d9_103) rfl rfl (l' := #[oR o0, oR o1, .val (.int (2 : Int32)), oR c1, oR s1, oR c2, oR s2, oR c3, oR s3, oR b1, .val (.int (2 : Int32)), oR r182, .unset]) rfl k) ?_
    refine bk (fun t k => XS.aload X182.here hx rfl (hb hby d9_105) rfl rfl k) ?_
    obtain ⟨cq199, kq199, q199a, q199b, q199c⟩ := isOf hZ138 rfl (gE182)
    obtain ⟨_, _, ⟨T199, L199, k199, n199⟩, -, X199, ⟨Lc199, hQ199, l199, y199, z199⟩, st199⟩ := X182.interfaceBack hx (xi := oN34) (y := oN21) hown138 (mvT hZ138 w_156) (mvT hZ138 w_133) (mvT hZ138 w_134) (mvT hZ138 w_157) (mvT hZ138 w_158) (mvT hZ138 w_159) (mvT hZ138 w_160) (mvT hZ138 w_161) (by decide) (backOf (W := 0) (rm22 l Z a0 hw [] r182 (2 : Int32) T182.heap n0 f191 gS182) hZ138 w_162 w_115 (by decide) (by decide)) q199a q199b q199c (g := (mkF m 107 #[oR o0, oR o1, .val (.int (2 : Int32)), oR c1, oR s1, oR c2, oR s2, oR c3, oR s3, oR b1, .val (.int (2 : Int32)), oR r182, .unset] [(.ref r182)])) rfl (by rw [hml]; rfl) (Steps.refl _) (argsL := []) (rest := []) (lenOf pd9___I rfl) rfl (by show 2 * 0 + _ ≤ _; exact Nat.le_of_eq rfl) (hb hby d9_107) (fun _ _ => ⟨rfl, rfl, (by decide : 7 + 0 ≤ _), (by decide : 23 + 0 ≤ _)⟩)
    dsimp only [Pt.U, Pt.locs, Pt.cells, Pt.slots, oM22] at X199 l199 y199 z199 st199 hQ199
    subst l199 y199 z199
    obtain ⟨rfl, N199q, e199⟩ := hQ199
    have N199 := Fr.app N182 N199q
    refine bk (fun t k => st199.trans k) ?_
    refine bk (fun t k => XS.iload X199.here hx rfl (hb hby d9_112) rfl k) ?_
    show F (T199.setTop (mkF m 114 #[oR o0, oR o1, .val (.int (2 : Int32)), oR c1, oR s1, oR c2, oR s2, oR c3, oR s3, oR b1, .val (.int (2 : Int32)), oR r182, .unset] [(.int (2 : Int32)), (.int (2 : Int32))]))
    refine bk (fun t k => XS.icmpYes X199.here hx rfl (pc0 := 114) (pc' := 119) rfl (hb hby d9_114) rfl (teq (by decide : (2 : Int32) = (2 : Int32))).1 (by decide) (by decide) k) ?_
    refine bk (fun t k => XS.iconst X199.here hx rfl (hb hby d9_119) k) ?_
    refine bk (fun t k => XS.istore X199.here hx rfl (hb hby d9_120) rfl (l' := #[oR o0, oR o1, .val (.int (2 : Int32)), oR c1, oR s1, oR c2, oR s2, oR c3, oR s3, oR b1, .val (.int (2 : Int32)), oR r182, .val (.int (1 : Int32))]) rfl k) ?_
    refine bk (fun t k => XS.iload X199.here hx rfl (hb hby d9_122) rfl k) ?_
    show F (T199.setTop (mkF m 124 #[oR o0, oR o1, .val (.int (2 : Int32)), oR c1, oR s1, oR c2, oR s2, oR c3, oR s3, oR b1, .val (.int (2 : Int32)), oR r182, .val (.int (1 : Int32))] [(.int (2 : Int32))]))
    refine bk (fun t k => XS.ifNo X199.here hx rfl (hb hby d9_124) rfl ((if0 _ _).trans (tlt (by decide : (0 : Int32) < (2 : Int32))).2.2.2) k) ?_
    refine bk (fun t k => XS.iload X199.here hx rfl (hb hby d9_127) rfl k) ?_
    refine bk (fun t k => XS.ifNo X199.here hx rfl (hb hby d9_129) rfl ((if0 _ _).trans (feq (by decide : ¬ ((1 : Int32) = (0 : Int32)))).1) k) ?_
    refine bk (fun t k => XS.aload X199.here hx rfl (hb hby d9_132) rfl rfl k) ?_
    refine bk (fun t k => XS.iconst X199.here hx rfl (hb hby d9_134) k) ?_
    show F (T199.setTop (mkF m 135 #[oR o0, oR o1, .val (.int (2 : Int32)), oR c1, oR s1, oR c2, oR s2, oR c3, oR s3, oR b1, .val (.int (2 : Int32)), oR r182, .val (.int (1 : Int32))] [(.int (0 : Int32)), (.ref r182)]))
    obtain ⟨cq200, kq200, q200a, q200b, q200c⟩ := isOf hZ138 e199 (gE182)
    obtain ⟨_, _, ⟨T200, L200, k200, n200⟩, -, X200, ⟨Lc200, hQ200, l200, y200, z200⟩, st200⟩ := X199.interfaceBack hx (xi := oN35) (y := oN30) hown138 (mvT hZ138 w_221) (mvT hZ138 w_142) (mvT hZ138 w_143) (mvT hZ138 w_222) (mvT hZ138 w_223) (mvT hZ138 w_224) (mvT hZ138 w_225) (mvT hZ138 w_161) (by decide) (backOf (W := 0) (rm32_0 l Z a0 hw [] r182 (2 : Int32) ra182 ka182 j0 (.ref j1) .null T182.heap n0 f191 gE182 gS182 (by decide) gD182 gV182) hZ138 w_226 w_115 (by decide) (by decide)) q200a q200b q200c (g := (mkF m 135 #[oR o0, oR o1, .val (.int (2 : Int32)), oR c1, oR s1, oR c2, oR s2, oR c3, oR s3, oR b1, .val (.int (2 : Int32)), oR r182, .val (.int (1 : Int32))] [(.int (0 : Int32)), (.ref r182)])) rfl (by rw [hml]; rfl) (Steps.refl _) (argsL := [(.int (0 : Int32))]) (rest := []) (lenOf pd9__I_Ljava_lang_Object_ rfl) rfl (by show 2 * 0 + _ ≤ _; exact Nat.le_of_eq rfl) (hb hby d9_135) (fun _ _ => ⟨rfl, e199, (by decide : 7 + 0 ≤ _), (by decide : 23 + 0 ≤ _)⟩)
    dsimp only [Pt.U, Pt.locs, Pt.cells, Pt.slots, oM32_0] at X200 l200 y200 z200 st200 hQ200
    subst l200 y200 z200
    obtain ⟨rfl, N200q, e200⟩ := hQ200
    have N200 := Fr.app N199 N200q
    refine bk (fun t k => st200.trans k) ?_
    refine bk (fun t k => XS.aload X200.here hx rfl (hb hby d9_140) rfl rfl k) ?_
    refine bk (fun t k => XS.iconst X200.here hx rfl (hb hby d9_142) k) ?_
    show F (T200.setTop (mkF m 143 #[oR o0, oR o1, .val (.int (2 : Int32)), oR c1, oR s1, oR c2, oR s2, oR c3, oR s3, oR b1, .val (.int (2 : Int32)), oR r182, .val (.int (1 : Int32))] [(.int (0 : Int32)), (.ref b1), (.ref j0)]))
    have vv201 := f193
    obtain ⟨cl201, Ar201, q201, S201, M201, H201, G201⟩ := vv201
    have hin201 : ¬ ((0 : Int32) < 0 ∨ cl201.slots.size ≤ ((0 : Int32)).toNatClampNeg) := inb_of S201 ⟨by decide, by decide⟩
    refine bk (fun t k => X200.aaload hx (j := (0 : Int32)) (v := (.ref j0)) (by rw [e200]; exact Ar201.1) (State.isArrayOf_alike hZ138.alike Ar201.2.1) rfl Ar201.2.2 hin201 (Has.at H201 hin201 rfl) (g := (mkF m 143 #[oR o0, oR o1, .val (.int (2 : Int32)), oR c1, oR s1, oR c2, oR s2, oR c3, oR s3, oR b1, .val (.int (2 : Int32)), oR r182, .val (.int (1 : Int32))] [(.int (0 : Int32)), (.ref b1), (.ref j0)])) rfl rfl (hb hby d9_143) t k) ?_
    show F (T200.setTop (mkF m 144 #[oR o0, oR o1, .val (.int (2 : Int32)), oR c1, oR s1, oR c2, oR s2, oR c3, oR s3, oR b1, .val (.int (2 : Int32)), oR r182, .val (.int (1 : Int32))] [(.ref j0), (.ref j0)]))
    refine bk (fun t k => Jvm.RoadKit.acmp (g := (mkF m 144 #[oR o0, oR o1, .val (.int (2 : Int32)), oR c1, oR s1, oR c2, oR s2, oR c3, oR s3, oR b1, .val (.int (2 : Int32)), oR r182, .val (.int (1 : Int32))] [(.ref j0), (.ref j0)])) X200 hx rfl rfl rfl (pc0 := 144) (pc' := 147) (same := true) rfl (hb hby d9_144) rfl (decide_eq_true rfl) (by decide) (by decide) k) ?_
    refine bk (fun t k => XS.iconst X200.here hx rfl (hb hby d9_147) k) ?_
    refine bk (fun t k => XS.goto X200.here hx rfl (pc0 := 148) (pc' := 152) rfl (hb hby d9_148) (by decide) (by decide) k) ?_
    show F (T200.setTop (mkF m 152 #[oR o0, oR o1, .val (.int (2 : Int32)), oR c1, oR s1, oR c2, oR s2, oR c3, oR s3, oR b1, .val (.int (2 : Int32)), oR r182, .val (.int (1 : Int32))] [(.int (1 : Int32))]))
    refine bk (fun t k => XS.istore X200.here hx rfl (hb hby d9_152) rfl (l' := #[oR o0, oR o1, .val (.int (2 : Int32)), oR c1, oR s1, oR c2, oR s2, oR c3, oR s3, oR b1, .val (.int (2 : Int32)), oR r182, .val (.int (1 : Int32))]) rfl k) ?_
    refine bk (fun t k => XS.iload X200.here hx rfl (hb hby d9_154) rfl k) ?_
    refine bk (fun t k => XS.iconst X200.here hx rfl (hb hby d9_156) k) ?_
    show F (T200.setTop (mkF m 157 #[oR o0, oR o1, .val (.int (2 : Int32)), oR c1, oR s1, oR c2, oR s2, oR c3, oR s3, oR b1, .val (.int (2 : Int32)), oR r182, .val (.int (1 : Int32))] [(.int (1 : Int32)), (.int (2 : Int32))]))
    refine bk (fun t k => XS.icmpNo X200.here hx rfl (hb hby d9_157) rfl (tlt (by decide : (1 : Int32) < (2 : Int32))).2.2.2 k) ?_
    refine bk (fun t k => XS.iload X200.here hx rfl (hb hby d9_160) rfl k) ?_
    refine bk (fun t k => XS.ifNo X200.here hx rfl (hb hby d9_162) rfl ((if0 _ _).trans (feq (by decide : ¬ ((1 : Int32) = (0 : Int32)))).1) k) ?_
    refine bk (fun t k => XS.aload X200.here hx rfl (hb hby d9_165) rfl rfl k) ?_
    refine bk (fun t k => XS.iconst X200.here hx rfl (hb hby d9_167) k) ?_
    show F (T200.setTop (mkF m 168 #[oR o0, oR o1, .val (.int (2 : Int32)), oR c1, oR s1, oR c2, oR s2, oR c3, oR s3, oR b1, .val (.int (2 : Int32)), oR r182, .val (.int (1 : Int32))] [(.int (1 : Int32)), (.ref r182)]))
    obtain ⟨cq202, kq202, q202a, q202b, q202c⟩ := isOf hZ138 e200 (gE182)
    obtain ⟨_, _, ⟨T202, L202, k202, n202⟩, -, X202, ⟨Lc202, hQ202, l202, y202, z202⟩, st202⟩ := X200.interfaceBack hx (xi := oN35) (y := oN30) hown138 (mvT hZ138 w_221) (mvT hZ138 w_142) (mvT hZ138 w_143) (mvT hZ138 w_222) (mvT hZ138 w_223) (mvT hZ138 w_224) (mvT hZ138 w_225) (mvT hZ138 w_161) (by decide) (backOf (W := 0) (rm32_1 l Z a0 hw [] r182 (2 : Int32) ra182 ka182 j1 (.ref j0) .null T182.heap n0 f191 gE182 gS182 (by decide) gD182 gV182) hZ138 w_226 w_115 (by decide) (by decide)) q202a q202b q202c (g := (mkF m 168 #[oR o0, oR o1, .val (.int (2 : Int32)), oR c1, oR s1, oR c2, oR s2, oR c3, oR s3, oR b1, .val (.int (2 : Int32)), oR r182, .val (.int (1 : Int32))] [(.int (1 : Int32)), (.ref r182)])) rfl (by rw [hml]; rfl) (Steps.refl _) (argsL := [(.int (1 : Int32))]) (rest := []) (lenOf pd9__I_Ljava_lang_Object_ rfl) rfl (by show 2 * 0 + _ ≤ _; exact Nat.le_of_eq rfl) (hb hby d9_168) (fun _ _ => ⟨rfl, e200, (by decide : 7 + 0 ≤ _), (by decide : 23 + 0 ≤ _)⟩)
    dsimp only [Pt.U, Pt.locs, Pt.cells, Pt.slots, oM32_1] at X202 l202 y202 z202 st202 hQ202
    subst l202 y202 z202
    obtain ⟨rfl, N202q, e202⟩ := hQ202
    have N202 := Fr.app N200 N202q
    refine bk (fun t k => st202.trans k) ?_
    refine bk (fun t k => XS.aload X202.here hx rfl (hb hby d9_173) rfl rfl k) ?_
    refine bk (fun t k => XS.iconst X202.here hx rfl (hb hby d9_175) k) ?_
    show F (T202.setTop (mkF m 176 #[oR o0, oR o1, .val (.int (2 : Int32)), oR c1, oR s1, oR c2, oR s2, oR c3, oR s3, oR b1, .val (.int (2 : Int32)), oR r182, .val (.int (1 : Int32))] [(.int (1 : Int32)), (.ref b1), (.ref j1)]))
    have vv203 := f193
    obtain ⟨cl203, Ar203, q203, S203, M203, H203, G203⟩ := vv203
    have hin203 : ¬ ((1 : Int32) < 0 ∨ cl203.slots.size ≤ ((1 : Int32)).toNatClampNeg) := inb_of S203 ⟨by decide, by decide⟩
    refine bk (fun t k => X202.aaload hx (j := (1 : Int32)) (v := (.ref j1)) (by rw [e202]; exact Ar203.1) (State.isArrayOf_alike hZ138.alike Ar203.2.1) rfl Ar203.2.2 hin203 (Has.at H203 hin203 rfl) (g := (mkF m 176 #[oR o0, oR o1, .val (.int (2 : Int32)), oR c1, oR s1, oR c2, oR s2, oR c3, oR s3, oR b1, .val (.int (2 : Int32)), oR r182, .val (.int (1 : Int32))] [(.int (1 : Int32)), (.ref b1), (.ref j1)])) rfl rfl (hb hby d9_176) t k) ?_
    show F (T202.setTop (mkF m 177 #[oR o0, oR o1, .val (.int (2 : Int32)), oR c1, oR s1, oR c2, oR s2, oR c3, oR s3, oR b1, .val (.int (2 : Int32)), oR r182, .val (.int (1 : Int32))] [(.ref j1), (.ref j1)]))
    refine bk (fun t k => Jvm.RoadKit.acmp (g := (mkF m 177 #[oR o0, oR o1, .val (.int (2 : Int32)), oR c1, oR s1, oR c2, oR s2, oR c3, oR s3, oR b1, .val (.int (2 : Int32)), oR r182, .val (.int (1 : Int32))] [(.ref j1), (.ref j1)])) X202 hx rfl rfl rfl (pc0 := 177) (pc' := 180) (same := true) rfl (hb hby d9_177) rfl (decide_eq_true rfl) (by decide) (by decide) k) ?_
    refine bk (fun t k => XS.iconst X202.here hx rfl (hb hby d9_180) k) ?_
    refine bk (fun t k => XS.goto X202.here hx rfl (pc0 := 181) (pc' := 185) rfl (hb hby d9_181) (by decide) (by decide) k) ?_
    show F (T202.setTop (mkF m 185 #[oR o0, oR o1, .val (.int (2 : Int32)), oR c1, oR s1, oR c2, oR s2, oR c3, oR s3, oR b1, .val (.int (2 : Int32)), oR r182, .val (.int (1 : Int32))] [(.int (1 : Int32))]))
    refine bk (fun t k => XS.istore X202.here hx rfl (hb hby d9_185) rfl (l' := #[oR o0, oR o1, .val (.int (2 : Int32)), oR c1, oR s1, oR c2, oR s2, oR c3, oR s3, oR b1, .val (.int (2 : Int32)), oR r182, .val (.int (1 : Int32))]) rfl k) ?_
    refine bk (fun t k => XS.iload X202.here hx rfl (hb hby d9_187) rfl k) ?_
    refine bk (fun t k => XS.iconst X202.here hx rfl (hb hby d9_189) k) ?_
    show F (T202.setTop (mkF m 190 #[oR o0, oR o1, .val (.int (2 : Int32)), oR c1, oR s1, oR c2, oR s2, oR c3, oR s3, oR b1, .val (.int (2 : Int32)), oR r182, .val (.int (1 : Int32))] [(.int (2 : Int32)), (.int (2 : Int32))]))
    refine bk (fun t k => XS.icmpYes X202.here hx rfl (pc0 := 190) (pc' := 220) rfl (hb hby d9_190) rfl (flt (by decide : ¬ ((2 : Int32) < (2 : Int32)))).2.2.2 (by decide) (by decide) k) ?_
    refine bk (fun t k => XS.iload X202.here hx rfl (hb hby d9_220) rfl k) ?_
    rw [hF]
    refine own_retZH X202 hx hS138 (by rw [e202]; exact f183) hZ138 own_EW (by rw [hh, e202]; exact f184) Bd.notSynchronized Bd.returns (hb hby d9_222) (by decide) (by decide) ?_
    rw [e202]
    exact ⟨rfl, N202, f192⟩
  refine bk (fun t k => XS.iconst X1.here hx rfl (hb hby d9_6) k) ?_
  refine bk (fun t k => XS.istore X1.here hx rfl (hb hby d9_7) rfl (l' := #[oR o0, oR o1, .val (.int (2 : Int32)), oR c1, oR s1, oR c2, oR s2, oR c3, oR s3, oR b1, .val (.int (0 : Int32)), .unset, .unset]) rfl k) ?_
  refine bk (fun t k => XS.iloadN X1.here hx rfl (hb hby d9_9) rfl k) ?_
  show F (T1.setTop (mkF m 10 #[oR o0, oR o1, .val (.int (2 : Int32)), oR c1, oR s1, oR c2, oR s2, oR c3, oR s3, oR b1, .val (.int (0 : Int32)), .unset, .unset] [(.int (2 : Int32))]))
  refine bk (fun t k => XS.ifNo X1.here hx rfl (hb hby d9_10) rfl ((if0 _ _).trans (tlt (by decide : (0 : Int32) < (2 : Int32))).2.2.2) k) ?_
  refine bk (fun t k => XS.aload X1.here hx rfl (hb hby d9_13) rfl rfl k) ?_
  refine bk (fun t k => XS.aloadN X1.here hx rfl (hb hby d9_15) rfl rfl k) ?_
  show F (T1.setTop (mkF m 16 #[oR o0, oR o1, .val (.int (2 : Int32)), oR c1, oR s1, oR c2, oR s2, oR c3, oR s3, oR b1, .val (.int (0 : Int32)), .unset, .unset] [(.ref o1), (.ref s1)]))
  have vva204 := (own_Kids.ch f4 0 rfl).2.2.1
  obtain ⟨ra204, kda204, taE204, taC204, taF204, taV204⟩ := vva204
  have vvb204 := f5
  obtain ⟨rb204, kdb204, tbE204, tbC204, tbF204, tbV204⟩ := vvb204
  obtain ⟨cq204, kq204, q204a, q204b, q204c⟩ := isOf hZ e1 (taE204)
  obtain ⟨_, _, ⟨T204, L204, k204, n204⟩, -, X204, ⟨Lc204, hQ204, l204, y204, z204⟩, st204⟩ := X1.virtualBack hx (y := oN5) (z := oN5) hown (mvT hZ w_175) (mvT hZ w_176) (notFace_of_selects (args := #[]) (mvT hZ w_178)) (mvT hZ w_178) (mvT hZ w_177) (by decide) (backOf (W := 0) (rm24_1 l Z a0 hw [] s1 o1 ra204 rb204 kda204 kdb204 x1 y cs h1 n0 f10 taE204 tbE204 taF204 tbF204 taC204 tbC204 taV204 tbV204 f6 hcs) hZ w_179 w_3 (by decide) (by decide)) q204a q204c (g := (mkF m 16 #[oR o0, oR o1, .val (.int (2 : Int32)), oR c1, oR s1, oR c2, oR s2, oR c3, oR s3, oR b1, .val (.int (0 : Int32)), .unset, .unset] [(.ref o1), (.ref s1)])) rfl (by rw [hml]; rfl) (Steps.refl _) (argsL := [(.ref o1)]) (rest := []) (lenOf pd9__Ljava_lang_Object__Z rfl) rfl (by show 2 * 0 + _ ≤ _; exact Nat.le_of_eq rfl) (hb hby d9_16) (fun _ _ => ⟨rfl, e1, (by decide : 1 + 0 ≤ _), (by decide : 3 + 0 ≤ _)⟩)
  dsimp only [Pt.U, Pt.locs, Pt.cells, Pt.slots, oM24_1] at X204 l204 y204 z204 st204 hQ204
  subst l204 y204 z204
  obtain ⟨rfl, N204q, e204⟩ := hQ204
  have N204 := Fr.app N0 N204q
  refine bk (fun t k => st204.trans k) ?_
  show F (T204.setTop (mkF m 19 #[oR o0, oR o1, .val (.int (2 : Int32)), oR c1, oR s1, oR c2, oR s2, oR c3, oR s3, oR b1, .val (.int (0 : Int32)), .unset, .unset] [(.int (own_beq x1 y))]))
  by_cases hc19_205 : (own_beq x1 y) = (0 : Int32)
  · refine bk (fun t k => XS.ifYes X204.here hx rfl (pc0 := 19) (pc' := 34) rfl (hb hby d9_19) rfl ((if0 _ _).trans (teq hc19_205).1) (by decide) (by decide) k) ?_
    refine bk (fun t k => XS.iloadN X204.here hx rfl (hb hby d9_34) rfl k) ?_
    refine bk (fun t k => XS.iconst X204.here hx rfl (hb hby d9_35) k) ?_
    show F (T204.setTop (mkF m 36 #[oR o0, oR o1, .val (.int (2 : Int32)), oR c1, oR s1, oR c2, oR s2, oR c3, oR s3, oR b1, .val (.int (0 : Int32)), .unset, .unset] [(.int (1 : Int32)), (.int (2 : Int32))]))
    refine bk (fun t k => XS.icmpNo X204.here hx rfl (hb hby d9_36) rfl (tlt (by decide : (1 : Int32) < (2 : Int32))).2.2.2 k) ?_
    refine bk (fun t k => XS.aload X204.here hx rfl (hb hby d9_39) rfl rfl k) ?_
    refine bk (fun t k => XS.aloadN X204.here hx rfl (hb hby d9_41) rfl rfl k) ?_
    show F (T204.setTop (mkF m 42 #[oR o0, oR o1, .val (.int (2 : Int32)), oR c1, oR s1, oR c2, oR s2, oR c3, oR s3, oR b1, .val (.int (0 : Int32)), .unset, .unset] [(.ref o1), (.ref s2)]))
    have vva206 := (own_Kids.ch f4 1 rfl).2.2.1
    obtain ⟨ra206, kda206, taE206, taC206, taF206, taV206⟩ := vva206
    have vvb206 := f5
    obtain ⟨rb206, kdb206, tbE206, tbC206, tbF206, tbV206⟩ := vvb206
    obtain ⟨cq206, kq206, q206a, q206b, q206c⟩ := isOf hZ e204 (taE206)
    obtain ⟨_, _, ⟨T206, L206, k206, n206⟩, -, X206, ⟨Lc206, hQ206, l206, y206, z206⟩, st206⟩ := X204.virtualBack hx (y := oN5) (z := oN5) hown (mvT hZ w_175) (mvT hZ w_176) (notFace_of_selects (args := #[]) (mvT hZ w_178)) (mvT hZ w_178) (mvT hZ w_177) (by decide) (backOf (W := 0) (rm24_1 l Z a0 hw [] s2 o1 ra206 rb206 kda206 kdb206 x2 y cs h1 n0 f10 taE206 tbE206 taF206 tbF206 taC206 tbC206 taV206 tbV206 f6 hcs) hZ w_179 w_3 (by decide) (by decide)) q206a q206c (g := (mkF m 42 #[oR o0, oR o1, .val (.int (2 : Int32)), oR c1, oR s1, oR c2, oR s2, oR c3, oR s3, oR b1, .val (.int (0 : Int32)), .unset, .unset] [(.ref o1), (.ref s2)])) rfl (by rw [hml]; rfl) (Steps.refl _) (argsL := [(.ref o1)]) (rest := []) (lenOf pd9__Ljava_lang_Object__Z rfl) rfl (by show 2 * 0 + _ ≤ _; exact Nat.le_of_eq rfl) (hb hby d9_42) (fun _ _ => ⟨rfl, e204, (by decide : 1 + 0 ≤ _), (by decide : 3 + 0 ≤ _)⟩)
    dsimp only [Pt.U, Pt.locs, Pt.cells, Pt.slots, oM24_1] at X206 l206 y206 z206 st206 hQ206
    subst l206 y206 z206
    obtain ⟨rfl, N206q, e206⟩ := hQ206
    have N206 := Fr.app N204 N206q
    refine bk (fun t k => st206.trans k) ?_
    show F (T206.setTop (mkF m 45 #[oR o0, oR o1, .val (.int (2 : Int32)), oR c1, oR s1, oR c2, oR s2, oR c3, oR s3, oR b1, .val (.int (0 : Int32)), .unset, .unset] [(.int (own_beq x2 y))]))
    by_cases hc45_207 : (own_beq x2 y) = (0 : Int32)
    · refine bk (fun t k => XS.ifYes X206.here hx rfl (pc0 := 45) (pc' := 61) rfl (hb hby d9_45) rfl ((if0 _ _).trans (teq hc45_207).1) (by decide) (by decide) k) ?_
      refine bk (fun t k => XS.iloadN X206.here hx rfl (hb hby d9_61) rfl k) ?_
      refine bk (fun t k => XS.iconst X206.here hx rfl (hb hby d9_62) k) ?_
      show F (T206.setTop (mkF m 63 #[oR o0, oR o1, .val (.int (2 : Int32)), oR c1, oR s1, oR c2, oR s2, oR c3, oR s3, oR b1, .val (.int (0 : Int32)), .unset, .unset] [(.int (2 : Int32)), (.int (2 : Int32))]))
      refine bk (fun t k => XS.icmpYes X206.here hx rfl (pc0 := 63) (pc' := 88) rfl (hb hby d9_63) rfl (flt (by decide : ¬ ((2 : Int32) < (2 : Int32)))).2.2.2 (by decide) (by decide) k) ?_
      show F (T206.setTop (mkF m 88 #[oR o0, oR o1, .val (.int (2 : Int32)), oR c1, oR s1, oR c2, oR s2, oR c3, oR s3, oR b1, .val (.int (0 : Int32)), .unset, .unset] []))
      exact J88_0 _ _ _ X206 e206 N206  f2 f4 f5 f6 f7 f8 f9 f10 f11 V_b1 (by rw [own_pickF hc19_205, own_pickF hc45_207] <;> rfl)
    refine bk (fun t k => XS.ifNo X206.here hx rfl (hb hby d9_45) rfl ((if0 _ _).trans (feq hc45_207).1) k) ?_
    refine bk (fun t k => XS.aload X206.here hx rfl (hb hby d9_48) rfl rfl k) ?_
    refine bk (fun t k => XS.iload X206.here hx rfl (hb hby d9_50) rfl k) ?_
    refine bk (fun t k => XS.aload X206.here hx rfl (hb hby d9_52) rfl rfl k) ?_
    show F (T206.setTop (mkF m 54 #[oR o0, oR o1, .val (.int (2 : Int32)), oR c1, oR s1, oR c2, oR s2, oR c3, oR s3, oR b1, .val (.int (0 : Int32)), .unset, .unset] [(.ref c2), (.int (0 : Int32)), (.ref b1)]))
    have vv208 := V_b1
    obtain ⟨cl208, Ar208, q208, S208, M208, H208, G208⟩ := vv208
    have hin208 : ¬ ((0 : Int32) < 0 ∨ cl208.slots.size ≤ ((0 : Int32)).toNatClampNeg) := inb_of S208 ⟨by decide, by decide⟩
    obtain ⟨T208, h208, X208, e208, W208, st208⟩ := stR X206 hx hZ e206 Ar208 (j := (0 : Int32)) hin208 rfl (Sto.ofV Ar208 q208 O1 (Ins.self (own_Kids.ch f4 1 rfl).1)) (g := (mkF m 54 #[oR o0, oR o1, .val (.int (2 : Int32)), oR c1, oR s1, oR c2, oR s2, oR c3, oR s3, oR b1, .val (.int (0 : Int32)), .unset, .unset] [(.ref c2), (.int (0 : Int32)), (.ref b1)])) rfl rfl (hb hby d9_54)
    have V_b1_208 : Arv Z h208 b1 k1 (.object "com/example/quire/quire/readers/Element") (3 : Int32) [(.ref c2), .null, .null] .null := Arv.set Ar208 q208 S208 M208 H208 G208 rfl W208 0 rfl (Nat.le_of_ble_eq_true rfl)
    have f209 := f2.trans (CHr.wr W208 (own_safeV hZ.alike V_b1 (by decide)) f2.1)
    have f210 := Nat.le_trans f3 (Keep.of_wr W208).1
    have f211 := f4.keep (Keep.of_wr W208) (allS (own_nsV V_b1 (by decide) w_11) all0) (allS (own_neW V_b1 w_28) all0)
    have f212 := f5.keep (Keep.of_wr W208) (allS (own_nsV V_b1 (by decide) w_11) all0)
    have f213 := f6.wr W208
    have f214 := f7.wr W208
    have f215 := f8.wr W208
    have f216 := f9.other W208 ne_w_de_b1
    have f217 := Nat.le_trans f10 (Keep.of_wr W208).1
    have f218 := f11.wr W208 (Or.inr sz_b1)
    have N208 := Fr.snoc X208 N206 Gb1
    refine bk (fun t k => st208 t k) ?_
    refine bk (fun t k => XS.iload X208.here hx rfl (hb hby d9_55) rfl k) ?_
    refine bk (fun t k => XS.iconst X208.here hx rfl (hb hby d9_57) k) ?_
    show F (T208.setTop (mkF m 58 #[oR o0, oR o1, .val (.int (2 : Int32)), oR c1, oR s1, oR c2, oR s2, oR c3, oR s3, oR b1, .val (.int (0 : Int32)), .unset, .unset] [(.int (1 : Int32)), (.int (0 : Int32))]))
    refine bk (fun t k => XS.iadd X208.here hx rfl (hb hby d9_58) rfl k) ?_
    refine bk (fun t k => XS.istore X208.here hx rfl (hb hby d9_59) rfl (l' := #[oR o0, oR o1, .val (.int (2 : Int32)), oR c1, oR s1, oR c2, oR s2, oR c3, oR s3, oR b1, .val (.int (1 : Int32)), .unset, .unset]) rfl k) ?_
    refine bk (fun t k => XS.iloadN X208.here hx rfl (hb hby d9_61) rfl k) ?_
    refine bk (fun t k => XS.iconst X208.here hx rfl (hb hby d9_62) k) ?_
    show F (T208.setTop (mkF m 63 #[oR o0, oR o1, .val (.int (2 : Int32)), oR c1, oR s1, oR c2, oR s2, oR c3, oR s3, oR b1, .val (.int (1 : Int32)), .unset, .unset] [(.int (2 : Int32)), (.int (2 : Int32))]))
    refine bk (fun t k => XS.icmpYes X208.here hx rfl (pc0 := 63) (pc' := 88) rfl (hb hby d9_63) rfl (flt (by decide : ¬ ((2 : Int32) < (2 : Int32)))).2.2.2 (by decide) (by decide) k) ?_
    show F (T208.setTop (mkF m 88 #[oR o0, oR o1, .val (.int (2 : Int32)), oR c1, oR s1, oR c2, oR s2, oR c3, oR s3, oR b1, .val (.int (1 : Int32)), .unset, .unset] []))
    exact J88_1 _ _ _ X208 e208 N208 _ f209 f211 f212 f213 f214 f215 f216 f217 f218 V_b1_208 (by rw [own_pickF hc19_205, own_pickT hc45_207] <;> rfl)
  refine bk (fun t k => XS.ifNo X204.here hx rfl (hb hby d9_19) rfl ((if0 _ _).trans (feq hc19_205).1) k) ?_
  refine bk (fun t k => XS.aload X204.here hx rfl (hb hby d9_22) rfl rfl k) ?_
  refine bk (fun t k => XS.iload X204.here hx rfl (hb hby d9_24) rfl k) ?_
  refine bk (fun t k => XS.aloadN X204.here hx rfl (hb hby d9_26) rfl rfl k) ?_
  show F (T204.setTop (mkF m 27 #[oR o0, oR o1, .val (.int (2 : Int32)), oR c1, oR s1, oR c2, oR s2, oR c3, oR s3, oR b1, .val (.int (0 : Int32)), .unset, .unset] [(.ref c1), (.int (0 : Int32)), (.ref b1)]))
  have vv219 := V_b1
  obtain ⟨cl219, Ar219, q219, S219, M219, H219, G219⟩ := vv219
  have hin219 : ¬ ((0 : Int32) < 0 ∨ cl219.slots.size ≤ ((0 : Int32)).toNatClampNeg) := inb_of S219 ⟨by decide, by decide⟩
  obtain ⟨T219, h219, X219, e219, W219, st219⟩ := stR X204 hx hZ e204 Ar219 (j := (0 : Int32)) hin219 rfl (Sto.ofV Ar219 q219 O1 (Ins.self (own_Kids.ch f4 0 rfl).1)) (g := (mkF m 27 #[oR o0, oR o1, .val (.int (2 : Int32)), oR c1, oR s1, oR c2, oR s2, oR c3, oR s3, oR b1, .val (.int (0 : Int32)), .unset, .unset] [(.ref c1), (.int (0 : Int32)), (.ref b1)])) rfl rfl (hb hby d9_27)
  have V_b1_219 : Arv Z h219 b1 k1 (.object "com/example/quire/quire/readers/Element") (3 : Int32) [(.ref c1), .null, .null] .null := Arv.set Ar219 q219 S219 M219 H219 G219 rfl W219 0 rfl (Nat.le_of_ble_eq_true rfl)
  have f220 := f2.trans (CHr.wr W219 (own_safeV hZ.alike V_b1 (by decide)) f2.1)
  have f221 := Nat.le_trans f3 (Keep.of_wr W219).1
  have f222 := f4.keep (Keep.of_wr W219) (allS (own_nsV V_b1 (by decide) w_11) all0) (allS (own_neW V_b1 w_28) all0)
  have f223 := f5.keep (Keep.of_wr W219) (allS (own_nsV V_b1 (by decide) w_11) all0)
  have f224 := f6.wr W219
  have f225 := f7.wr W219
  have f226 := f8.wr W219
  have f227 := f9.other W219 ne_w_de_b1
  have f228 := Nat.le_trans f10 (Keep.of_wr W219).1
  have f229 := f11.wr W219 (Or.inr sz_b1)
  have N219 := Fr.snoc X219 N204 Gb1
  refine bk (fun t k => st219 t k) ?_
  refine bk (fun t k => XS.iload X219.here hx rfl (hb hby d9_28) rfl k) ?_
  refine bk (fun t k => XS.iconst X219.here hx rfl (hb hby d9_30) k) ?_
  show F (T219.setTop (mkF m 31 #[oR o0, oR o1, .val (.int (2 : Int32)), oR c1, oR s1, oR c2, oR s2, oR c3, oR s3, oR b1, .val (.int (0 : Int32)), .unset, .unset] [(.int (1 : Int32)), (.int (0 : Int32))]))
  refine bk (fun t k => XS.iadd X219.here hx rfl (hb hby d9_31) rfl k) ?_
  refine bk (fun t k => XS.istore X219.here hx rfl (hb hby d9_32) rfl (l' := #[oR o0, oR o1, .val (.int (2 : Int32)), oR c1, oR s1, oR c2, oR s2, oR c3, oR s3, oR b1, .val (.int (1 : Int32)), .unset, .unset]) rfl k) ?_
  refine bk (fun t k => XS.iloadN X219.here hx rfl (hb hby d9_34) rfl k) ?_
  refine bk (fun t k => XS.iconst X219.here hx rfl (hb hby d9_35) k) ?_
  show F (T219.setTop (mkF m 36 #[oR o0, oR o1, .val (.int (2 : Int32)), oR c1, oR s1, oR c2, oR s2, oR c3, oR s3, oR b1, .val (.int (1 : Int32)), .unset, .unset] [(.int (1 : Int32)), (.int (2 : Int32))]))
  refine bk (fun t k => XS.icmpNo X219.here hx rfl (hb hby d9_36) rfl (tlt (by decide : (1 : Int32) < (2 : Int32))).2.2.2 k) ?_
  refine bk (fun t k => XS.aload X219.here hx rfl (hb hby d9_39) rfl rfl k) ?_
  refine bk (fun t k => XS.aloadN X219.here hx rfl (hb hby d9_41) rfl rfl k) ?_
  show F (T219.setTop (mkF m 42 #[oR o0, oR o1, .val (.int (2 : Int32)), oR c1, oR s1, oR c2, oR s2, oR c3, oR s3, oR b1, .val (.int (1 : Int32)), .unset, .unset] [(.ref o1), (.ref s2)]))
  have vva230 := (own_Kids.ch f222 1 rfl).2.2.1
  obtain ⟨ra230, kda230, taE230, taC230, taF230, taV230⟩ := vva230
  have vvb230 := f223
  obtain ⟨rb230, kdb230, tbE230, tbC230, tbF230, tbV230⟩ := vvb230
  obtain ⟨cq230, kq230, q230a, q230b, q230c⟩ := isOf hZ e219 (taE230)
  obtain ⟨_, _, ⟨T230, L230, k230, n230⟩, -, X230, ⟨Lc230, hQ230, l230, y230, z230⟩, st230⟩ := X219.virtualBack hx (y := oN5) (z := oN5) hown (mvT hZ w_175) (mvT hZ w_176) (notFace_of_selects (args := #[]) (mvT hZ w_178)) (mvT hZ w_178) (mvT hZ w_177) (by decide) (backOf (W := 0) (rm24_1 l Z a0 hw [] s2 o1 ra230 rb230 kda230 kdb230 x2 y cs h219 n0 f228 taE230 tbE230 taF230 tbF230 taC230 tbC230 taV230 tbV230 f224 hcs) hZ w_179 w_3 (by decide) (by decide)) q230a q230c (g := (mkF m 42 #[oR o0, oR o1, .val (.int (2 : Int32)), oR c1, oR s1, oR c2, oR s2, oR c3, oR s3, oR b1, .val (.int (1 : Int32)), .unset, .unset] [(.ref o1), (.ref s2)])) rfl (by rw [hml]; rfl) (Steps.refl _) (argsL := [(.ref o1)]) (rest := []) (lenOf pd9__Ljava_lang_Object__Z rfl) rfl (by show 2 * 0 + _ ≤ _; exact Nat.le_of_eq rfl) (hb hby d9_42) (fun _ _ => ⟨rfl, e219, (by decide : 1 + 0 ≤ _), (by decide : 3 + 0 ≤ _)⟩)
  dsimp only [Pt.U, Pt.locs, Pt.cells, Pt.slots, oM24_1] at X230 l230 y230 z230 st230 hQ230
  subst l230 y230 z230
  obtain ⟨rfl, N230q, e230⟩ := hQ230
  have N230 := Fr.app N219 N230q
  refine bk (fun t k => st230.trans k) ?_
  show F (T230.setTop (mkF m 45 #[oR o0, oR o1, .val (.int (2 : Int32)), oR c1, oR s1, oR c2, oR s2, oR c3, oR s3, oR b1, .val (.int (1 : Int32)), .unset, .unset] [(.int (own_beq x2 y))]))
  by_cases hc45_231 : (own_beq x2 y) = (0 : Int32)
  · refine bk (fun t k => XS.ifYes X230.here hx rfl (pc0 := 45) (pc' := 61) rfl (hb hby d9_45) rfl ((if0 _ _).trans (teq hc45_231).1) (by decide) (by decide) k) ?_
    refine bk (fun t k => XS.iloadN X230.here hx rfl (hb hby d9_61) rfl k) ?_
    refine bk (fun t k => XS.iconst X230.here hx rfl (hb hby d9_62) k) ?_
    show F (T230.setTop (mkF m 63 #[oR o0, oR o1, .val (.int (2 : Int32)), oR c1, oR s1, oR c2, oR s2, oR c3, oR s3, oR b1, .val (.int (1 : Int32)), .unset, .unset] [(.int (2 : Int32)), (.int (2 : Int32))]))
    refine bk (fun t k => XS.icmpYes X230.here hx rfl (pc0 := 63) (pc' := 88) rfl (hb hby d9_63) rfl (flt (by decide : ¬ ((2 : Int32) < (2 : Int32)))).2.2.2 (by decide) (by decide) k) ?_
    show F (T230.setTop (mkF m 88 #[oR o0, oR o1, .val (.int (2 : Int32)), oR c1, oR s1, oR c2, oR s2, oR c3, oR s3, oR b1, .val (.int (1 : Int32)), .unset, .unset] []))
    exact J88_1 _ _ _ X230 e230 N230 _ f220 f222 f223 f224 f225 f226 f227 f228 f229 V_b1_219 (by rw [own_pickT hc19_205, own_pickF hc45_231] <;> rfl)
  refine bk (fun t k => XS.ifNo X230.here hx rfl (hb hby d9_45) rfl ((if0 _ _).trans (feq hc45_231).1) k) ?_
  refine bk (fun t k => XS.aload X230.here hx rfl (hb hby d9_48) rfl rfl k) ?_
  refine bk (fun t k => XS.iload X230.here hx rfl (hb hby d9_50) rfl k) ?_
  refine bk (fun t k => XS.aload X230.here hx rfl (hb hby d9_52) rfl rfl k) ?_
  show F (T230.setTop (mkF m 54 #[oR o0, oR o1, .val (.int (2 : Int32)), oR c1, oR s1, oR c2, oR s2, oR c3, oR s3, oR b1, .val (.int (1 : Int32)), .unset, .unset] [(.ref c2), (.int (1 : Int32)), (.ref b1)]))
  have vv232 := V_b1_219
  obtain ⟨cl232, Ar232, q232, S232, M232, H232, G232⟩ := vv232
  have hin232 : ¬ ((1 : Int32) < 0 ∨ cl232.slots.size ≤ ((1 : Int32)).toNatClampNeg) := inb_of S232 ⟨by decide, by decide⟩
  obtain ⟨T232, h232, X232, e232, W232, st232⟩ := stR X230 hx hZ e230 Ar232 (j := (1 : Int32)) hin232 rfl (Sto.ofV Ar232 q232 O1 (Ins.self (own_Kids.ch f222 1 rfl).1)) (g := (mkF m 54 #[oR o0, oR o1, .val (.int (2 : Int32)), oR c1, oR s1, oR c2, oR s2, oR c3, oR s3, oR b1, .val (.int (1 : Int32)), .unset, .unset] [(.ref c2), (.int (1 : Int32)), (.ref b1)])) rfl rfl (hb hby d9_54)
  have V_b1_232 : Arv Z h232 b1 k1 (.object "com/example/quire/quire/readers/Element") (3 : Int32) [(.ref c1), (.ref c2), .null] .null := Arv.set Ar232 q232 S232 M232 H232 G232 rfl W232 1 rfl (Nat.le_of_ble_eq_true rfl)
  have f233 := f220.trans (CHr.wr W232 (own_safeV hZ.alike V_b1_219 (by decide)) f220.1)
  have f234 := Nat.le_trans f221 (Keep.of_wr W232).1
  have f235 := f222.keep (Keep.of_wr W232) (allS (own_nsV V_b1_219 (by decide) w_11) all0) (allS (own_neW V_b1_219 w_28) all0)
  have f236 := f223.keep (Keep.of_wr W232) (allS (own_nsV V_b1_219 (by decide) w_11) all0)
  have f237 := f224.wr W232
  have f238 := f225.wr W232
  have f239 := f226.wr W232
  have f240 := f227.other W232 ne_w_de_b1
  have f241 := Nat.le_trans f228 (Keep.of_wr W232).1
  have f242 := f229.wr W232 (Or.inr sz_b1)
  have N232 := Fr.snoc X232 N230 Gb1
  refine bk (fun t k => st232 t k) ?_
  refine bk (fun t k => XS.iload X232.here hx rfl (hb hby d9_55) rfl k) ?_
  refine bk (fun t k => XS.iconst X232.here hx rfl (hb hby d9_57) k) ?_
  show F (T232.setTop (mkF m 58 #[oR o0, oR o1, .val (.int (2 : Int32)), oR c1, oR s1, oR c2, oR s2, oR c3, oR s3, oR b1, .val (.int (1 : Int32)), .unset, .unset] [(.int (1 : Int32)), (.int (1 : Int32))]))
  refine bk (fun t k => XS.iadd X232.here hx rfl (hb hby d9_58) rfl k) ?_
  refine bk (fun t k => XS.istore X232.here hx rfl (hb hby d9_59) rfl (l' := #[oR o0, oR o1, .val (.int (2 : Int32)), oR c1, oR s1, oR c2, oR s2, oR c3, oR s3, oR b1, .val (.int (2 : Int32)), .unset, .unset]) rfl k) ?_
  refine bk (fun t k => XS.iloadN X232.here hx rfl (hb hby d9_61) rfl k) ?_
  refine bk (fun t k => XS.iconst X232.here hx rfl (hb hby d9_62) k) ?_
  show F (T232.setTop (mkF m 63 #[oR o0, oR o1, .val (.int (2 : Int32)), oR c1, oR s1, oR c2, oR s2, oR c3, oR s3, oR b1, .val (.int (2 : Int32)), .unset, .unset] [(.int (2 : Int32)), (.int (2 : Int32))]))
  refine bk (fun t k => XS.icmpYes X232.here hx rfl (pc0 := 63) (pc' := 88) rfl (hb hby d9_63) rfl (flt (by decide : ¬ ((2 : Int32) < (2 : Int32)))).2.2.2 (by decide) (by decide) k) ?_
  show F (T232.setTop (mkF m 88 #[oR o0, oR o1, .val (.int (2 : Int32)), oR c1, oR s1, oR c2, oR s2, oR c3, oR s3, oR b1, .val (.int (2 : Int32)), .unset, .unset] []))
  exact J88_2 _ _ _ X232 e232 N232 _ _ f233 f235 f236 f237 f238 f239 f240 f241 f242 V_b1_232 (by rw [own_pickT hc19_205, own_pickT hc45_231] <;> rfl)
abbrev oM9_3 : Room := { frames := 7, cells := 7, slots := 23, locals := 108 }
theorem d9_66 : decode method_3_code 66 = .ok (.aload 8, 2) := by decide +kernel
theorem d9_68 : decode method_3_code 68 = .ok (.aload_n 1, 1) := by decide +kernel
theorem d9_69 : decode method_3_code 69 = .ok (.invokevirtual 35, 3) := by decide +kernel
theorem d9_72 : decode method_3_code 72 = .ok (.ifCond .eq 16, 3) := by decide +kernel
theorem d9_75 : decode method_3_code 75 = .ok (.aload 9, 2) := by decide +kernel
theorem d9_77 : decode method_3_code 77 = .ok (.iload 10, 2) := by decide +kernel
theorem d9_79 : decode method_3_code 79 = .ok (.aload 7, 2) := by decide +kernel
theorem d9_81 : decode method_3_code 81 = .ok (.aastore, 1) := by decide +kernel
theorem d9_82 : decode method_3_code 82 = .ok (.iload 10, 2) := by decide +kernel
theorem d9_84 : decode method_3_code 84 = .ok (.iconst 1, 1) := by decide +kernel
theorem d9_85 : decode method_3_code 85 = .ok (.iadd, 1) := by decide +kernel
theorem d9_86 : decode method_3_code 86 = .ok (.istore 10, 2) := by decide +kernel
theorem d9_193 : decode method_3_code 193 = .ok (.iload 12, 2) := by decide +kernel
theorem d9_195 : decode method_3_code 195 = .ok (.ifCond .eq 22, 3) := by decide +kernel
theorem d9_198 : decode method_3_code 198 = .ok (.aload 11, 2) := by decide +kernel
theorem d9_200 : decode method_3_code 200 = .ok (.iconst 2, 1) := by decide +kernel
theorem d9_201 : decode method_3_code 201 = .ok (.invokeinterface 51 2, 5) := by decide +kernel
theorem d9_206 : decode method_3_code 206 = .ok (.aload 9, 2) := by decide +kernel
theorem d9_208 : decode method_3_code 208 = .ok (.iconst 2, 1) := by decide +kernel
theorem d9_209 : decode method_3_code 209 = .ok (.aaload, 1) := by decide +kernel
theorem d9_210 : decode method_3_code 210 = .ok (.if_acmp .ne 7, 3) := by decide +kernel
theorem d9_213 : decode method_3_code 213 = .ok (.iconst 1, 1) := by decide +kernel
theorem d9_214 : decode method_3_code 214 = .ok (.goto 4, 3) := by decide +kernel
theorem d9_218 : decode method_3_code 218 = .ok (.istore 12, 2) := by decide +kernel
def Q9_3 (Z : State) (o0 : Addr) (o1 : Addr) (c1 : Addr) (s1 : Addr) (c2 : Addr) (s2 : Addr) (c3 : Addr) (s3 : Addr) (x1 : Int32) (x2 : Int32) (x3 : Int32) (y : Int32) (cs : Int32) (w_e : Addr) (w_de : Addr) (k_de : ClassId) (h0 : Heap) (n0 : Nat) (v : Option Value) (h : Heap) (L : List Loc) : Prop := v = some (.int (1 : Int32)) ∧ Fr n0 L ∧ Keep h0 h []
set_option maxRecDepth 65536 in
set_option maxHeartbeats 40000000 in
theorem rm9_3 (l : Launch) (Z : State) (a0 : Array Value) (hw : ∀ d ∈ tables_1, d.before a0 Z = true) (ws : List Jvm.Cond) (o0 : Addr) (o1 : Addr) (c1 : Addr) (s1 : Addr) (c2 : Addr) (s2 : Addr) (c3 : Addr) (s3 : Addr) (x1 : Int32) (x2 : Int32) (x3 : Int32) (y : Int32) (cs : Int32) (w_e : Addr) (w_de : Addr) (k_de : ClassId) (h0 : Heap) (n0 : Nat) (Z0 : n0 ≤ h0.size) (hKd : own_Kids Z h0 o0 [(c1, s1, x1), (c2, s2, x2), (c3, s3, x3)]) (hq : own_St Z h0 o1 (1 : Int32) [(.int y)]) (S_cs : Sta Z h0 "java/lang/String" "COMPACT_STRINGS" "Z" (.int cs)) (hcs : ¬ cs = (0 : Int32)) (S_e : Sta Z h0 "java/util/ImmutableCollections" "EMPTY" "Ljava/lang/Object;" (.ref w_e)) (S_de : Sta Z h0 "java/util/ArrayList" "DEFAULTCAPACITY_EMPTY_ELEMENTDATA" "[Ljava/lang/Object;" (.ref w_de)) (V_de : Arv Z h0 w_de k_de (.object "java/lang/Object") (0 : Int32) [] .null) (own_EW : EW Z a0 consts_1) :
    MetFree l oN36 (head1 (Jvm.Cond.code oN36 method_3_code 13 (some .boolean) :: ws) oM9_3) (fun a U => a = #[(.ref o0), (.ref o1), (.int (3 : Int32)), (.ref c1), (.ref s1), (.ref c2), (.ref s2), (.ref c3), (.ref s3)] ∧ Z.Warmed39 U.vm ∧ U.heap = h0 ∧ CHv Z consts_1 U.vm h0) (fun _ _ _ _ _ => True) (fun _ U o U' => ∃ v L, o = .returned v ∧ Q9_3 Z o0 o1 c1 s1 c2 s2 c3 s3 x1 x2 x3 y cs w_e w_de k_de h0 n0 v U'.heap L ∧ CHr Z consts_1 U.vm U.heap U'.vm U'.heap ∧ ReturnedEndW U o U' L oM9_3.cells oM9_3.slots) := by
  refine MetFree.of_bodySF (plainFor_of_name pn_9) hisR ?_
  intro p e s m args below meth c s₁ Bd hml0 hP hK
  obtain ⟨rfl, hZ, hh, hC0⟩ := hP
  have hx := Bd.exec
  have hby := Bd.bytes
  have hml : c.maxLocals = 13 := hml0
  have hown : s.vm.findClass "com/example/quire/quire/readers/ElementAddPinLaw" = some m.cls := findClass_of_methodNamed Bd.named
  have hnm := (name_of_methodNamed Bd.named Bd.method).1
  have X0 : Stand p l e oM9_3 (s.setVm s.vm) m #[(.ref o0), (.ref o1), (.int (3 : Int32)), (.ref c1), (.ref s1), (.ref c2), (.ref s2), (.ref c3), (.ref s3)] below meth c s₁ [] 0 0 := Stand.of_body Bd
  have e0 : s₁.heap = h0 := by rw [← hh, Bd.state]; rfl
  have N0 := Fr.nil n0
  have hS0 : s.Since s.vm 0 := (State.WarmedH.refl s).since 0
  have hZ : Z.Warmed39 (s.setVm s.vm).vm := hZ
  have hown : (s.setVm s.vm).vm.findClass "com/example/quire/quire/readers/ElementAddPinLaw" = some m.cls := hown
  have hCr : CHr Z consts_1 s.vm h0 s.vm h0 := CHr.refl hC0
  obtain ⟨F, hF⟩ : ∃ F : State → Prop, F = own_FinH Z consts_1 p e below s oM9_3.cells oM9_3.slots (fun v h L => Q9_3 Z o0 o1 c1 s1 c2 s2 c3 s3 x1 x2 x3 y cs w_e w_de k_de h0 n0 v h L) := ⟨_, rfl⟩
  have bk : ∀ {A B : State}, (∀ t, Steps p.tables e below B t → Steps p.tables e below A t) → F B → F A := by
    intro A B h k
    rw [hF] at k ⊢
    exact own_backH h k
  suffices hgo : F (s₁.setTop (mkF m 0 #[.val (.ref o0), .val (.ref o1), .val (.int (3 : Int32)), .val (.ref c1), .val (.ref s1), .val (.ref c2), .val (.ref s2), .val (.ref c3), .val (.ref s3), .unset, .unset, .unset, .unset] [])) by
    have hgo' := bk (fun t k => castTop (T := s₁) (ef_9 m o0 o1 (3 : Int32) c1 s1 c2 s2 c3 s3) k) hgo
    rw [hF] at hgo'
    exact hgo'
  have own_wS : ∀ a ∈ Bundle.stringAtoms, a.before a0 Z = true := by
    intro a ha
    simp only [Bundle.stringAtoms, List.mem_cons, List.not_mem_nil, or_false] at ha
    rcases ha with rfl | rfl | rfl | rfl | rfl | rfl | rfl
    · exact (hw _ (List.mem_of_getElem? (i := 3) rfl))
    · exact (hw _ (List.mem_of_getElem? (i := 11) rfl))
    · exact (hw _ (List.mem_of_getElem? (i := 15) rfl))
    · exact (hw _ (List.mem_of_getElem? (i := 24) rfl))
    · exact (hw _ (List.mem_of_getElem? (i := 26) rfl))
    · exact (hw _ (List.mem_of_getElem? (i := 44) rfl))
    · exact (hw _ (List.mem_of_getElem? (i := 45) rfl))
  have w_3 := hw _ (List.mem_of_getElem? (i := 3) rfl)
  have w_11 := hw _ (List.mem_of_getElem? (i := 11) rfl)
  have w_27 := hw _ (List.mem_of_getElem? (i := 27) rfl)
  have w_28 := hw _ (List.mem_of_getElem? (i := 28) rfl)
  have w_29 := hw _ (List.mem_of_getElem? (i := 29) rfl)
  have w_64 := hw _ (List.mem_of_getElem? (i := 64) rfl)
  have w_65 := hw _ (List.mem_of_getElem? (i := 65) rfl)
  have w_66 := hw _ (List.mem_of_getElem? (i := 66) rfl)
  have w_67 := hw _ (List.mem_of_getElem? (i := 67) rfl)
  have w_68 := hw _ (List.mem_of_getElem? (i := 68) rfl)
  have w_69 := hw _ (List.mem_of_getElem? (i := 69) rfl)
  have w_70 := hw _ (List.mem_of_getElem? (i := 70) rfl)
  have w_71 := hw _ (List.mem_of_getElem? (i := 71) rfl)
  have w_72 := hw _ (List.mem_of_getElem? (i := 72) rfl)
  have w_115 := hw _ (List.mem_of_getElem? (i := 115) rfl)
  have w_133 := hw _ (List.mem_of_getElem? (i := 133) rfl)
  have w_134 := hw _ (List.mem_of_getElem? (i := 134) rfl)
  have w_142 := hw _ (List.mem_of_getElem? (i := 142) rfl)
  have w_143 := hw _ (List.mem_of_getElem? (i := 143) rfl)
  have w_156 := hw _ (List.mem_of_getElem? (i := 156) rfl)
  have w_157 := hw _ (List.mem_of_getElem? (i := 157) rfl)
  have w_158 := hw _ (List.mem_of_getElem? (i := 158) rfl)
  have w_159 := hw _ (List.mem_of_getElem? (i := 159) rfl)
  have w_160 := hw _ (List.mem_of_getElem? (i := 160) rfl)
  have w_161 := hw _ (List.mem_of_getElem? (i := 161) rfl)
  have w_162 := hw _ (List.mem_of_getElem? (i := 162) rfl)
  have w_175 := hw _ (List.mem_of_getElem? (i := 175) rfl)
  have w_176 := hw _ (List.mem_of_getElem? (i := 176) rfl)
  have w_177 := hw _ (List.mem_of_getElem? (i := 177) rfl)
  have w_178 := hw _ (List.mem_of_getElem? (i := 178) rfl)
  have w_179 := hw _ (List.mem_of_getElem? (i := 179) rfl)
  have w_221 := hw _ (List.mem_of_getElem? (i := 221) rfl)
  have w_222 := hw _ (List.mem_of_getElem? (i := 222) rfl)
  have w_223 := hw _ (List.mem_of_getElem? (i := 223) rfl)
  have w_224 := hw _ (List.mem_of_getElem? (i := 224) rfl)
  have w_225 := hw _ (List.mem_of_getElem? (i := 225) rfl)
  have w_226 := hw _ (List.mem_of_getElem? (i := 226) rfl)
  refine bk (fun t k => XS.iconst X0.here hx rfl (hb hby d9_0) k) ?_
  obtain ⟨T1, h1, k1, X1, e1, E1, A1, O1, st1⟩ := newR X0 hx hZ hown w_27 w_64 e0 (g := (mkF m 1 #[oR o0, oR o1, .val (.int (3 : Int32)), oR c1, oR s1, oR c2, oR s2, oR c3, oR s3, .unset, .unset, .unset, .unset] [(.int (3 : Int32))])) rfl (hb hby d9_1) rfl (by decide) (cap := 3) (by decide) (by decide) (by decide) (by decide)
  obtain ⟨b1, g1⟩ : ∃ z, z = h0.size := ⟨_, rfl⟩
  rw [← g1] at A1 st1
  have Gb1 : n0 ≤ b1 := Nat.le_trans Z0 (Nat.le_of_eq g1.symm)
  have sz_b1 : h0.size ≤ b1 := Nat.le_trans (Keep.refl h0 []).1 (Nat.le_of_eq g1.symm)
  have ne_w_de_b1 : w_de ≠ b1 := Nat.ne_of_lt (Nat.lt_of_lt_of_le V_de.lt (Nat.le_of_eq g1.symm))
  have ne_c1_b1 : c1 ≠ b1 := Nat.ne_of_lt (Nat.lt_of_lt_of_le (own_Kids.ch hKd 0 rfl).1.lt (Nat.le_of_eq g1.symm))
  have ne_c2_b1 : c2 ≠ b1 := Nat.ne_of_lt (Nat.lt_of_lt_of_le (own_Kids.ch hKd 1 rfl).1.lt (Nat.le_of_eq g1.symm))
  have ne_c3_b1 : c3 ≠ b1 := Nat.ne_of_lt (Nat.lt_of_lt_of_le (own_Kids.ch hKd 2 rfl).1.lt (Nat.le_of_eq g1.symm))
  have ne_o0_b1 : o0 ≠ b1 := Nat.ne_of_lt (Nat.lt_of_lt_of_le hKd.1.lt (Nat.le_of_eq g1.symm))
  have ne_o1_b1 : o1 ≠ b1 := Nat.ne_of_lt (Nat.lt_of_lt_of_le hq.exa.lt (Nat.le_of_eq g1.symm))
  have f2 := hCr.trans (CHr.ext E1 hCr.1)
  have f3 := Nat.le_trans (Nat.zero_le _) E1.1
  have f4 := hKd.ext E1
  have f5 := hq.ext E1
  have f6 := S_cs.ext E1
  have f7 := S_de.ext E1
  have f8 := S_e.ext E1
  have f9 := V_de.ext E1
  have f10 := Nat.le_trans Z0 E1.1
  have f11 := (Keep.refl h0 []).ext E1
  have V_b1 : Arv Z h1 b1 k1 (.object "com/example/quire/quire/readers/Element") (3 : Int32) [.null, .null, .null] .null := (Arv.new A1 (by decide)).pad (pad_rep [] .null 3)
  refine bk (fun t k => st1 t k) ?_
  show F (T1.setTop (mkF m 4 #[oR o0, oR o1, .val (.int (3 : Int32)), oR c1, oR s1, oR c2, oR s2, oR c3, oR s3, .unset, .unset, .unset, .unset] [(.ref b1)]))
  refine bk (fun t k => XS.astore X1.here hx rfl (hb hby d9_4) rfl rfl (l' := #[oR o0, oR o1, .val (.int (3 : Int32)), oR c1, oR s1, oR c2, oR s2, oR c3, oR s3, oR b1, .unset, .unset, .unset]) rfl k) ?_
  have J88_0 : ∀ (TJ : State) (LJ : List Loc) (hJ : Heap) (XJ : Stand p l e oM9_3 (s.setVm s.vm) m #[(.ref o0), (.ref o1), (.int (3 : Int32)), (.ref c1), (.ref s1), (.ref c2), (.ref s2), (.ref c3), (.ref s3)] below meth c TJ LJ 1 3) (eJ : TJ.heap = hJ) (NJ : Fr n0 LJ) (jC : CHr Z consts_1 s.vm h0 s.vm hJ) (jK : own_Kids Z hJ o0 [(c1, s1, x1), (c2, s2, x2), (c3, s3, x3)]) (jS : own_St Z hJ o1 (1 : Int32) [(.int y)]) (jcs : Sta Z hJ "java/lang/String" "COMPACT_STRINGS" "Z" (.int cs)) (jde : Sta Z hJ "java/util/ArrayList" "DEFAULTCAPACITY_EMPTY_ELEMENTDATA" "[Ljava/lang/Object;" (.ref w_de)) (je : Sta Z hJ "java/util/ImmutableCollections" "EMPTY" "Ljava/lang/Object;" (.ref w_e)) (jV : Arv Z hJ w_de k_de (.object "java/lang/Object") (0 : Int32) [] .null) (jZ : n0 ≤ hJ.size) (jKp : Keep h0 hJ []) (jX : Arv Z hJ b1 k1 (.object "com/example/quire/quire/readers/Element") (3 : Int32) [.null, .null, .null] .null) (jL : (own_pick (own_beq x3 y) c3 (own_pick (own_beq x2 y) c2 (own_pick (own_beq x1 y) c1 ([] : List Addr)))) = []), F (TJ.setTop (mkF m 88 #[oR o0, oR o1, .val (.int (3 : Int32)), oR c1, oR s1, oR c2, oR s2, oR c3, oR s3, oR b1, .val (.int (0 : Int32)), .unset, .unset] [])) := by
    intro TJ LJ hJ XJ eJ NJ jC jK jS jcs jde je jV jZ jKp jX jL
    refine bk (fun t k => XS.aloadN XJ.here hx rfl (hb hby d9_88) rfl rfl k) ?_
    refine bk (fun t k => XS.iconst XJ.here hx rfl (hb hby d9_89) k) ?_
    show F (TJ.setTop (mkF m 90 #[oR o0, oR o1, .val (.int (3 : Int32)), oR c1, oR s1, oR c2, oR s2, oR c3, oR s3, oR b1, .val (.int (0 : Int32)), .unset, .unset] [(.int (0 : Int32)), (.ref o0)]))
    obtain ⟨b12, T12, h12, k112, d12, kk12, X12, e12, E12, hS12, hk12, hZ12, hown12, A12, C12, V12, R12, -, -, CR12, LT12, sf12, st12⟩ := ldcCH XJ hx hZ hown w_65 own_wS eJ hS0 (Nat.zero_le _) own_EW (by simp [consts_1]) jC.1 (vs := []) (z := (0 : Int32)) ⟨by decide, rfl⟩ (by decide) (by decide) (g := (mkF m 90 #[oR o0, oR o1, .val (.int (3 : Int32)), oR c1, oR s1, oR c2, oR s2, oR c3, oR s3, oR b1, .val (.int (0 : Int32)), .unset, .unset] [(.int (0 : Int32)), (.ref o0)])) rfl (hb hby d9_90) (n := 0) (by decide) (by decide) (by decide) (by decide)
    have f13 := hk12
    have f14 := jC.trans CR12
    have f15 := jK.ext E12
    have f16 := jS.ext E12
    have f17 := jcs.ext E12
    have f18 := jde.ext E12
    have f19 := je.ext E12
    have f20 := jV.ext E12
    have f21 := Nat.le_trans jZ E12.1
    have f22 := jKp.ext E12
    have f23 := jX.ext E12
    refine bk (fun t k => st12 t k) ?_
    refine bk (fun t k => XS.iconst X12.here hx rfl (hb hby d9_92) k) ?_
    show F (T12.setTop (mkF m 93 #[oR o0, oR o1, .val (.int (3 : Int32)), oR c1, oR s1, oR c2, oR s2, oR c3, oR s3, oR b1, .val (.int (0 : Int32)), .unset, .unset] [(.int (1 : Int32)), (.ref b12), (.int (0 : Int32)), (.ref o0)]))
    obtain ⟨T24, h24, k24, X24, e24, E24, A24, O24, st24⟩ := newR X12 hx hZ12 hown12 w_66 w_67 e12 (g := (mkF m 93 #[oR o0, oR o1, .val (.int (3 : Int32)), oR c1, oR s1, oR c2, oR s2, oR c3, oR s3, oR b1, .val (.int (0 : Int32)), .unset, .unset] [(.int (1 : Int32)), (.ref b12), (.int (0 : Int32)), (.ref o0)])) rfl (hb hby d9_93) rfl (by decide) (cap := 1) (by decide) (by decide) (by decide) (by decide)
    obtain ⟨b24, g24⟩ : ∃ z, z = h12.size := ⟨_, rfl⟩
    rw [← g24] at A24 st24
    have Gb24 : n0 ≤ b24 := Nat.le_trans f21 (Nat.le_of_eq g24.symm)
    have sz_b24 : h0.size ≤ b24 := Nat.le_trans f22.1 (Nat.le_of_eq g24.symm)
    have ne_w_de_b24 : w_de ≠ b24 := Nat.ne_of_lt (Nat.lt_of_lt_of_le f20.lt (Nat.le_of_eq g24.symm))
    have ne_b1_b24 : b1 ≠ b24 := Nat.ne_of_lt (Nat.lt_of_lt_of_le f23.lt (Nat.le_of_eq g24.symm))
    have ne_c1_b24 : c1 ≠ b24 := Nat.ne_of_lt (Nat.lt_of_lt_of_le (own_Kids.ch f15 0 rfl).1.lt (Nat.le_of_eq g24.symm))
    have ne_c2_b24 : c2 ≠ b24 := Nat.ne_of_lt (Nat.lt_of_lt_of_le (own_Kids.ch f15 1 rfl).1.lt (Nat.le_of_eq g24.symm))
    have ne_c3_b24 : c3 ≠ b24 := Nat.ne_of_lt (Nat.lt_of_lt_of_le (own_Kids.ch f15 2 rfl).1.lt (Nat.le_of_eq g24.symm))
    have ne_o0_b24 : o0 ≠ b24 := Nat.ne_of_lt (Nat.lt_of_lt_of_le f15.1.lt (Nat.le_of_eq g24.symm))
    have ne_o1_b24 : o1 ≠ b24 := Nat.ne_of_lt (Nat.lt_of_lt_of_le f16.exa.lt (Nat.le_of_eq g24.symm))
    have ne_b12_b24 : b12 ≠ b24 := Nat.ne_of_lt (Nat.lt_of_lt_of_le A12.lt (Nat.le_of_eq g24.symm))
    have ne_d12_b24 : d12 ≠ b24 := Nat.ne_of_lt (Nat.lt_of_lt_of_le R12.lt (Nat.le_of_eq g24.symm))
    have f25 := Nat.le_trans f13 E24.1
    have f26 := f14.trans (CHr.ext E24 f14.1)
    have f27 := f15.ext E24
    have f28 := f16.ext E24
    have f29 := f17.ext E24
    have f30 := f18.ext E24
    have f31 := f19.ext E24
    have f32 := f20.ext E24
    have f33 := Nat.le_trans f21 E24.1
    have f34 := f22.ext E24
    have f35 := f23.ext E24
    have f36 := A12.ext E24
    have f37 := V12.ext E24
    have f38 := C12.ext E24
    have f39 := R12.ext E24
    have V_b24 : Arv Z h24 b24 k24 (.object "java/lang/String") (1 : Int32) [.null] .null := (Arv.new A24 (by decide)).pad (pad_rep [] .null 1)
    refine bk (fun t k => st24 t k) ?_
    refine bk (fun t k => XS.dup X24.here hx rfl (hb hby d9_96) rfl rfl k) ?_
    refine bk (fun t k => XS.iconst X24.here hx rfl (hb hby d9_97) k) ?_
    refine bk (fun t k => XS.aloadN X24.here hx rfl (hb hby d9_98) rfl rfl k) ?_
    show F (T24.setTop (mkF m 99 #[oR o0, oR o1, .val (.int (3 : Int32)), oR c1, oR s1, oR c2, oR s2, oR c3, oR s3, oR b1, .val (.int (0 : Int32)), .unset, .unset] [(.ref o1), (.int (0 : Int32)), (.ref b24), (.ref b24), (.ref b12), (.int (0 : Int32)), (.ref o0)]))
    have vv40 := V_b24
    obtain ⟨cl40, Ar40, q40, S40, M40, H40, G40⟩ := vv40
    have hin40 : ¬ ((0 : Int32) < 0 ∨ cl40.slots.size ≤ ((0 : Int32)).toNatClampNeg) := inb_of S40 ⟨by decide, by decide⟩
    obtain ⟨T40, h40, X40, e40, W40, st40⟩ := stR X24 hx hZ12 e24 Ar40 (j := (0 : Int32)) hin40 rfl (Sto.ofV Ar40 q40 O24 (Ins.self f28.exa)) (g := (mkF m 99 #[oR o0, oR o1, .val (.int (3 : Int32)), oR c1, oR s1, oR c2, oR s2, oR c3, oR s3, oR b1, .val (.int (0 : Int32)), .unset, .unset] [(.ref o1), (.int (0 : Int32)), (.ref b24), (.ref b24), (.ref b12), (.int (0 : Int32)), (.ref o0)])) rfl rfl (hb hby d9_99)
    have V_b24_40 : Arv Z h40 b24 k24 (.object "java/lang/String") (1 : Int32) [(.ref o1)] .null := Arv.set Ar40 q40 S40 M40 H40 G40 rfl W40 0 rfl (Nat.le_of_ble_eq_true rfl)
    have f41 := Nat.le_trans f25 (Keep.of_wr W40).1
    have f42 := f26.trans (CHr.wr W40 (own_safeV hZ12.alike V_b24 (by decide)) f26.1)
    have f43 := f27.keep (Keep.of_wr W40) (allS (own_nsV V_b24 (by decide) w_11) all0) (allS (own_neW V_b24 w_28) all0)
    have f44 := f28.keep (Keep.of_wr W40) (allS (own_nsV V_b24 (by decide) w_11) all0)
    have f45 := f29.wr W40
    have f46 := f30.wr W40
    have f47 := f31.wr W40
    have f48 := f32.other W40 ne_w_de_b24
    have f49 := Nat.le_trans f33 (Keep.of_wr W40).1
    have f50 := f34.wr W40 (Or.inr sz_b24)
    have f51 := f35.other W40 ne_b1_b24
    have f52 := f36.wr W40
    have f53 := f37.other W40 (Or.inl ne_b12_b24)
    have f54 := f38.other W40 (Or.inl ne_b12_b24)
    have f55 := f39.other W40 ne_d12_b24
    have N40 := Fr.snoc X40 NJ Gb24
    refine bk (fun t k => st40 t k) ?_
    show F (T40.setTop (mkF m 100 #[oR o0, oR o1, .val (.int (3 : Int32)), oR c1, oR s1, oR c2, oR s2, oR c3, oR s3, oR b1, .val (.int (0 : Int32)), .unset, .unset] [(.ref b24), (.ref b12), (.int (0 : Int32)), (.ref o0)]))
    obtain ⟨cq56, kq56, q56a, q56b, q56c⟩ := isOf hZ12 e40 (f43.1)
    obtain ⟨_, _, ⟨T56, L56, k56, n56⟩, -, X56, ⟨Lc56, hQ56, l56, y56, z56⟩, st56⟩ := X40.virtualBack hx (y := oN33) (z := oN33) hown12 (mvT hZ12 w_68) (mvT hZ12 w_69) (notFace_of_selects (args := #[]) (mvT hZ12 w_71)) (mvT hZ12 w_71) (mvT hZ12 w_70) (by decide) (backOf (W := 0) (rm10 l Z a0 hw [] o0 b12 b24 o1 k24 [(c1, s1, x1), (c2, s2, x2), (c3, s3, x3)] y cs w_e w_de k_de h40 n0 f49 (Nat.le_of_ble_eq_true rfl) f43 ⟨_, _, f52, f54, f53, f55⟩ f44 V_b24_40 f45 hcs f47 f46 f48) hZ12 w_72 w_29 (by decide) (by decide)) q56a q56c (g := (mkF m 100 #[oR o0, oR o1, .val (.int (3 : Int32)), oR c1, oR s1, oR c2, oR s2, oR c3, oR s3, oR b1, .val (.int (0 : Int32)), .unset, .unset] [(.ref b24), (.ref b12), (.int (0 : Int32)), (.ref o0)])) rfl (by rw [hml]; rfl) (Steps.refl _) (argsL := [(.int (0 : Int32)), (.ref b12), (.ref b24)]) (rest := []) (lenOf pd9__ZLjava_lang_String__Ljava_lang_String__Ljava_util_List_ rfl) rfl (by show 2 * 0 + _ ≤ _; exact Nat.le_of_eq rfl) (hb hby d9_100) (fun _ _ => ⟨rfl, e40, (by decide : 4 + 3 ≤ _), (by decide : 8 + 15 ≤ _)⟩)
    dsimp only [Pt.U, Pt.locs, Pt.cells, Pt.slots, oM10] at X56 l56 y56 z56 st56 hQ56
    subst l56 y56 z56
    obtain ⟨r56, rfl, N56q, K56, gL56⟩ := hQ56
    have N56 := Fr.app N40 N56q
    have f57 := Nat.le_trans f41 K56.1
    have f58 := f42.trans (CHr.keep K56 all0 f42.1)
    have f59 := f43.keep K56 all0 all0
    have f60 := f44.keep K56 all0
    have f61 := own_sta0 f45 K56
    have f62 := own_sta0 f46 K56
    have f63 := own_sta0 f47 K56
    have f64 := f48.keep K56 nin0
    have f65 := Nat.le_trans f49 K56.1
    have f66 := f50.trans K56 all0
    have f67 := f51.keep K56 nin0
    have f68 := f52.keep K56
    have f69 := f53.keep K56 nin0
    have f70 := f54.keep K56 nin0
    have f71 := f55.keep K56 nin0
    have f72 := V_b24_40.keep K56 nin0
    replace gL56 : own_AL Z T56.heap r56 w_de (own_pick (own_beq x3 y) c3 (own_pick (own_beq x2 y) c2 (own_pick (own_beq x1 y) c1 ([] : List Addr)))) := gL56
    rw [jL] at gL56
    have gL56' : own_AL Z T56.heap r56 w_de [] := gL56
    obtain ⟨gE56, gS56, gD56⟩ := gL56'
    refine bk (fun t k => st56.trans k) ?_
    show F (T56.setTop (mkF m 103 #[oR o0, oR o1, .val (.int (3 : Int32)), oR c1, oR s1, oR c2, oR s2, oR c3, oR s3, oR b1, .val (.int (0 : Int32)), .unset, .unset] [(.ref r56)]))
    refine bk (fun t k => XS.astore X56.here hx rfl (hb hby d9_103) rfl rfl (l' := #[oR o0, oR o1, .val (.int (3 : Int32)), oR c1, oR s1, oR c2, oR s2, oR c3, oR s3, oR b1, .val (.int (0 : Int32)), oR r56, .unset]) rfl k) ?_
    refine bk (fun t k => XS.aload X56.here hx rfl (hb hby d9_105) rfl rfl k) ?_
    obtain ⟨cq73, kq73, q73a, q73b, q73c⟩ := isOf hZ12 rfl (gE56)
    obtain ⟨_, _, ⟨T73, L73, k73, n73⟩, -, X73, ⟨Lc73, hQ73, l73, y73, z73⟩, st73⟩ := X56.interfaceBack hx (xi := oN34) (y := oN21) hown12 (mvT hZ12 w_156) (mvT hZ12 w_133) (mvT hZ12 w_134) (mvT hZ12 w_157) (mvT hZ12 w_158) (mvT hZ12 w_159) (mvT hZ12 w_160) (mvT hZ12 w_161) (by decide) (backOf (W := 0) (rm22 l Z a0 hw [] r56 (0 : Int32) T56.heap n0 f65 gS56) hZ12 w_162 w_115 (by decide) (by decide)) q73a q73b q73c (g := (mkF m 107 #[oR o0, oR o1, .val (.int (3 : Int32)), oR c1, oR s1, oR c2, oR s2, oR c3, oR s3, oR b1, .val (.int (0 : Int32)), oR r56, .unset] [(.ref r56)])) rfl (by rw [hml]; rfl) (Steps.refl _) (argsL := []) (rest := []) (lenOf pd9___I rfl) rfl (by show 2 * 0 + _ ≤ _; exact Nat.le_of_eq rfl) (hb hby d9_107) (fun _ _ => ⟨rfl, rfl, (by decide : 7 + 0 ≤ _), (by decide : 23 + 0 ≤ _)⟩)
    dsimp only [Pt.U, Pt.locs, Pt.cells, Pt.slots, oM22] at X73 l73 y73 z73 st73 hQ73
    subst l73 y73 z73
    obtain ⟨rfl, N73q, e73⟩ := hQ73
    have N73 := Fr.app N56 N73q
    refine bk (fun t k => st73.trans k) ?_
    refine bk (fun t k => XS.iload X73.here hx rfl (hb hby d9_112) rfl k) ?_
    show F (T73.setTop (mkF m 114 #[oR o0, oR o1, .val (.int (3 : Int32)), oR c1, oR s1, oR c2, oR s2, oR c3, oR s3, oR b1, .val (.int (0 : Int32)), oR r56, .unset] [(.int (0 : Int32)), (.int (0 : Int32))]))
    refine bk (fun t k => XS.icmpYes X73.here hx rfl (pc0 := 114) (pc' := 119) rfl (hb hby d9_114) rfl (teq (by decide : (0 : Int32) = (0 : Int32))).1 (by decide) (by decide) k) ?_
    refine bk (fun t k => XS.iconst X73.here hx rfl (hb hby d9_119) k) ?_
    refine bk (fun t k => XS.istore X73.here hx rfl (hb hby d9_120) rfl (l' := #[oR o0, oR o1, .val (.int (3 : Int32)), oR c1, oR s1, oR c2, oR s2, oR c3, oR s3, oR b1, .val (.int (0 : Int32)), oR r56, .val (.int (1 : Int32))]) rfl k) ?_
    refine bk (fun t k => XS.iload X73.here hx rfl (hb hby d9_122) rfl k) ?_
    show F (T73.setTop (mkF m 124 #[oR o0, oR o1, .val (.int (3 : Int32)), oR c1, oR s1, oR c2, oR s2, oR c3, oR s3, oR b1, .val (.int (0 : Int32)), oR r56, .val (.int (1 : Int32))] [(.int (0 : Int32))]))
    refine bk (fun t k => XS.ifYes X73.here hx rfl (pc0 := 124) (pc' := 154) rfl (hb hby d9_124) rfl ((if0 _ _).trans (flt (by decide : ¬ ((0 : Int32) < (0 : Int32)))).2.2.2) (by decide) (by decide) k) ?_
    refine bk (fun t k => XS.iload X73.here hx rfl (hb hby d9_154) rfl k) ?_
    refine bk (fun t k => XS.iconst X73.here hx rfl (hb hby d9_156) k) ?_
    show F (T73.setTop (mkF m 157 #[oR o0, oR o1, .val (.int (3 : Int32)), oR c1, oR s1, oR c2, oR s2, oR c3, oR s3, oR b1, .val (.int (0 : Int32)), oR r56, .val (.int (1 : Int32))] [(.int (1 : Int32)), (.int (0 : Int32))]))
    refine bk (fun t k => XS.icmpYes X73.here hx rfl (pc0 := 157) (pc' := 187) rfl (hb hby d9_157) rfl (flt (by decide : ¬ ((1 : Int32) < (0 : Int32)))).2.2.2 (by decide) (by decide) k) ?_
    refine bk (fun t k => XS.iload X73.here hx rfl (hb hby d9_187) rfl k) ?_
    refine bk (fun t k => XS.iconst X73.here hx rfl (hb hby d9_189) k) ?_
    show F (T73.setTop (mkF m 190 #[oR o0, oR o1, .val (.int (3 : Int32)), oR c1, oR s1, oR c2, oR s2, oR c3, oR s3, oR b1, .val (.int (0 : Int32)), oR r56, .val (.int (1 : Int32))] [(.int (2 : Int32)), (.int (0 : Int32))]))
    refine bk (fun t k => XS.icmpYes X73.here hx rfl (pc0 := 190) (pc' := 220) rfl (hb hby d9_190) rfl (flt (by decide : ¬ ((2 : Int32) < (0 : Int32)))).2.2.2 (by decide) (by decide) k) ?_
    refine bk (fun t k => XS.iload X73.here hx rfl (hb hby d9_220) rfl k) ?_
    rw [hF]
    refine own_retZH X73 hx hS12 (by rw [e73]; exact f57) hZ12 own_EW (by rw [hh, e73]; exact f58) Bd.notSynchronized Bd.returns (hb hby d9_222) (by decide) (by decide) ?_
    rw [e73]
    exact ⟨rfl, N73, f66⟩
  have J88_1 : ∀ (TJ : State) (LJ : List Loc) (hJ : Heap) (XJ : Stand p l e oM9_3 (s.setVm s.vm) m #[(.ref o0), (.ref o1), (.int (3 : Int32)), (.ref c1), (.ref s1), (.ref c2), (.ref s2), (.ref c3), (.ref s3)] below meth c TJ LJ 1 3) (eJ : TJ.heap = hJ) (NJ : Fr n0 LJ) (j0 : Addr) (jC : CHr Z consts_1 s.vm h0 s.vm hJ) (jK : own_Kids Z hJ o0 [(c1, s1, x1), (c2, s2, x2), (c3, s3, x3)]) (jS : own_St Z hJ o1 (1 : Int32) [(.int y)]) (jcs : Sta Z hJ "java/lang/String" "COMPACT_STRINGS" "Z" (.int cs)) (jde : Sta Z hJ "java/util/ArrayList" "DEFAULTCAPACITY_EMPTY_ELEMENTDATA" "[Ljava/lang/Object;" (.ref w_de)) (je : Sta Z hJ "java/util/ImmutableCollections" "EMPTY" "Ljava/lang/Object;" (.ref w_e)) (jV : Arv Z hJ w_de k_de (.object "java/lang/Object") (0 : Int32) [] .null) (jZ : n0 ≤ hJ.size) (jKp : Keep h0 hJ []) (jX : Arv Z hJ b1 k1 (.object "com/example/quire/quire/readers/Element") (3 : Int32) [(.ref j0), .null, .null] .null) (jL : (own_pick (own_beq x3 y) c3 (own_pick (own_beq x2 y) c2 (own_pick (own_beq x1 y) c1 ([] : List Addr)))) = [j0]), F (TJ.setTop (mkF m 88 #[oR o0, oR o1, .val (.int (3 : Int32)), oR c1, oR s1, oR c2, oR s2, oR c3, oR s3, oR b1, .val (.int (1 : Int32)), .unset, .unset] [])) := by
    intro TJ LJ hJ XJ eJ NJ j0 jC jK jS jcs jde je jV jZ jKp jX jL
    refine bk (fun t k => XS.aloadN XJ.here hx rfl (hb hby d9_88) rfl rfl k) ?_
    refine bk (fun t k => XS.iconst XJ.here hx rfl (hb hby d9_89) k) ?_
    show F (TJ.setTop (mkF m 90 #[oR o0, oR o1, .val (.int (3 : Int32)), oR c1, oR s1, oR c2, oR s2, oR c3, oR s3, oR b1, .val (.int (1 : Int32)), .unset, .unset] [(.int (0 : Int32)), (.ref o0)]))
    obtain ⟨b74, T74, h74, k174, d74, kk74, X74, e74, E74, hS74, hk74, hZ74, hown74, A74, C74, V74, R74, -, -, CR74, LT74, sf74, st74⟩ := ldcCH XJ hx hZ hown w_65 own_wS eJ hS0 (Nat.zero_le _) own_EW (by simp [consts_1]) jC.1 (vs := []) (z := (0 : Int32)) ⟨by decide, rfl⟩ (by decide) (by decide) (g := (mkF m 90 #[oR o0, oR o1, .val (.int (3 : Int32)), oR c1, oR s1, oR c2, oR s2, oR c3, oR s3, oR b1, .val (.int (1 : Int32)), .unset, .unset] [(.int (0 : Int32)), (.ref o0)])) rfl (hb hby d9_90) (n := 0) (by decide) (by decide) (by decide) (by decide)
    have f75 := hk74
    have f76 := jC.trans CR74
    have f77 := jK.ext E74
    have f78 := jS.ext E74
    have f79 := jcs.ext E74
    have f80 := jde.ext E74
    have f81 := je.ext E74
    have f82 := jV.ext E74
    have f83 := Nat.le_trans jZ E74.1
    have f84 := jKp.ext E74
    have f85 := jX.ext E74
    refine bk (fun t k => st74 t k) ?_
    refine bk (fun t k => XS.iconst X74.here hx rfl (hb hby d9_92) k) ?_
    show F (T74.setTop (mkF m 93 #[oR o0, oR o1, .val (.int (3 : Int32)), oR c1, oR s1, oR c2, oR s2, oR c3, oR s3, oR b1, .val (.int (1 : Int32)), .unset, .unset] [(.int (1 : Int32)), (.ref b74), (.int (0 : Int32)), (.ref o0)]))
    obtain ⟨T86, h86, k86, X86, e86, E86, A86, O86, st86⟩ := newR X74 hx hZ74 hown74 w_66 w_67 e74 (g := (mkF m 93 #[oR o0, oR o1, .val (.int (3 : Int32)), oR c1, oR s1, oR c2, oR s2, oR c3, oR s3, oR b1, .val (.int (1 : Int32)), .unset, .unset] [(.int (1 : Int32)), (.ref b74), (.int (0 : Int32)), (.ref o0)])) rfl (hb hby d9_93) rfl (by decide) (cap := 1) (by decide) (by decide) (by decide) (by decide)
    obtain ⟨b86, g86⟩ : ∃ z, z = h74.size := ⟨_, rfl⟩
    rw [← g86] at A86 st86
    have Gb86 : n0 ≤ b86 := Nat.le_trans f83 (Nat.le_of_eq g86.symm)
    have sz_b86 : h0.size ≤ b86 := Nat.le_trans f84.1 (Nat.le_of_eq g86.symm)
    have ne_w_de_b86 : w_de ≠ b86 := Nat.ne_of_lt (Nat.lt_of_lt_of_le f82.lt (Nat.le_of_eq g86.symm))
    have ne_b1_b86 : b1 ≠ b86 := Nat.ne_of_lt (Nat.lt_of_lt_of_le f85.lt (Nat.le_of_eq g86.symm))
    have ne_c1_b86 : c1 ≠ b86 := Nat.ne_of_lt (Nat.lt_of_lt_of_le (own_Kids.ch f77 0 rfl).1.lt (Nat.le_of_eq g86.symm))
    have ne_c2_b86 : c2 ≠ b86 := Nat.ne_of_lt (Nat.lt_of_lt_of_le (own_Kids.ch f77 1 rfl).1.lt (Nat.le_of_eq g86.symm))
    have ne_c3_b86 : c3 ≠ b86 := Nat.ne_of_lt (Nat.lt_of_lt_of_le (own_Kids.ch f77 2 rfl).1.lt (Nat.le_of_eq g86.symm))
    have ne_o0_b86 : o0 ≠ b86 := Nat.ne_of_lt (Nat.lt_of_lt_of_le f77.1.lt (Nat.le_of_eq g86.symm))
    have ne_o1_b86 : o1 ≠ b86 := Nat.ne_of_lt (Nat.lt_of_lt_of_le f78.exa.lt (Nat.le_of_eq g86.symm))
    have ne_b74_b86 : b74 ≠ b86 := Nat.ne_of_lt (Nat.lt_of_lt_of_le A74.lt (Nat.le_of_eq g86.symm))
    have ne_d74_b86 : d74 ≠ b86 := Nat.ne_of_lt (Nat.lt_of_lt_of_le R74.lt (Nat.le_of_eq g86.symm))
    have f87 := Nat.le_trans f75 E86.1
    have f88 := f76.trans (CHr.ext E86 f76.1)
    have f89 := f77.ext E86
    have f90 := f78.ext E86
    have f91 := f79.ext E86
    have f92 := f80.ext E86
    have f93 := f81.ext E86
    have f94 := f82.ext E86
    have f95 := Nat.le_trans f83 E86.1
    have f96 := f84.ext E86
    have f97 := f85.ext E86
    have f98 := A74.ext E86
    have f99 := V74.ext E86
    have f100 := C74.ext E86
    have f101 := R74.ext E86
    have V_b86 : Arv Z h86 b86 k86 (.object "java/lang/String") (1 : Int32) [.null] .null := (Arv.new A86 (by decide)).pad (pad_rep [] .null 1)
    refine bk (fun t k => st86 t k) ?_
    refine bk (fun t k => XS.dup X86.here hx rfl (hb hby d9_96) rfl rfl k) ?_
    refine bk (fun t k => XS.iconst X86.here hx rfl (hb hby d9_97) k) ?_
    refine bk (fun t k => XS.aloadN X86.here hx rfl (hb hby d9_98) rfl rfl k) ?_
    show F (T86.setTop (mkF m 99 #[oR o0, oR o1, .val (.int (3 : Int32)), oR c1, oR s1, oR c2, oR s2, oR c3, oR s3, oR b1, .val (.int (1 : Int32)), .unset, .unset] [(.ref o1), (.int (0 : Int32)), (.ref b86), (.ref b86), (.ref b74), (.int (0 : Int32)), (.ref o0)]))
    have vv102 := V_b86
    obtain ⟨cl102, Ar102, q102, S102, M102, H102, G102⟩ := vv102
    have hin102 : ¬ ((0 : Int32) < 0 ∨ cl102.slots.size ≤ ((0 : Int32)).toNatClampNeg) := inb_of S102 ⟨by decide, by decide⟩
    obtain ⟨T102, h102, X102, e102, W102, st102⟩ := stR X86 hx hZ74 e86 Ar102 (j := (0 : Int32)) hin102 rfl (Sto.ofV Ar102 q102 O86 (Ins.self f90.exa)) (g := (mkF m 99 #[oR o0, oR o1, .val (.int (3 : Int32)), oR c1, oR s1, oR c2, oR s2, oR c3, oR s3, oR b1, .val (.int (1 : Int32)), .unset, .unset] [(.ref o1), (.int (0 : Int32)), (.ref b86), (.ref b86), (.ref b74), (.int (0 : Int32)), (.ref o0)])) rfl rfl (hb hby d9_99)
    have V_b86_102 : Arv Z h102 b86 k86 (.object "java/lang/String") (1 : Int32) [(.ref o1)] .null := Arv.set Ar102 q102 S102 M102 H102 G102 rfl W102 0 rfl (Nat.le_of_ble_eq_true rfl)
    have f103 := Nat.le_trans f87 (Keep.of_wr W102).1
    have f104 := f88.trans (CHr.wr W102 (own_safeV hZ74.alike V_b86 (by decide)) f88.1)
    have f105 := f89.keep (Keep.of_wr W102) (allS (own_nsV V_b86 (by decide) w_11) all0) (allS (own_neW V_b86 w_28) all0)
    have f106 := f90.keep (Keep.of_wr W102) (allS (own_nsV V_b86 (by decide) w_11) all0)
    have f107 := f91.wr W102
    have f108 := f92.wr W102
    have f109 := f93.wr W102
    have f110 := f94.other W102 ne_w_de_b86
    have f111 := Nat.le_trans f95 (Keep.of_wr W102).1
    have f112 := f96.wr W102 (Or.inr sz_b86)
    have f113 := f97.other W102 ne_b1_b86
    have f114 := f98.wr W102
    have f115 := f99.other W102 (Or.inl ne_b74_b86)
    have f116 := f100.other W102 (Or.inl ne_b74_b86)
    have f117 := f101.other W102 ne_d74_b86
    have N102 := Fr.snoc X102 NJ Gb86
    refine bk (fun t k => st102 t k) ?_
    show F (T102.setTop (mkF m 100 #[oR o0, oR o1, .val (.int (3 : Int32)), oR c1, oR s1, oR c2, oR s2, oR c3, oR s3, oR b1, .val (.int (1 : Int32)), .unset, .unset] [(.ref b86), (.ref b74), (.int (0 : Int32)), (.ref o0)]))
    obtain ⟨cq118, kq118, q118a, q118b, q118c⟩ := isOf hZ74 e102 (f105.1)
    obtain ⟨_, _, ⟨T118, L118, k118, n118⟩, -, X118, ⟨Lc118, hQ118, l118, y118, z118⟩, st118⟩ := X102.virtualBack hx (y := oN33) (z := oN33) hown74 (mvT hZ74 w_68) (mvT hZ74 w_69) (notFace_of_selects (args := #[]) (mvT hZ74 w_71)) (mvT hZ74 w_71) (mvT hZ74 w_70) (by decide) (backOf (W := 0) (rm10 l Z a0 hw [] o0 b74 b86 o1 k86 [(c1, s1, x1), (c2, s2, x2), (c3, s3, x3)] y cs w_e w_de k_de h102 n0 f111 (Nat.le_of_ble_eq_true rfl) f105 ⟨_, _, f114, f116, f115, f117⟩ f106 V_b86_102 f107 hcs f109 f108 f110) hZ74 w_72 w_29 (by decide) (by decide)) q118a q118c (g := (mkF m 100 #[oR o0, oR o1, .val (.int (3 : Int32)), oR c1, oR s1, oR c2, oR s2, oR c3, oR s3, oR b1, .val (.int (1 : Int32)), .unset, .unset] [(.ref b86), (.ref b74), (.int (0 : Int32)), (.ref o0)])) rfl (by rw [hml]; rfl) (Steps.refl _) (argsL := [(.int (0 : Int32)), (.ref b74), (.ref b86)]) (rest := []) (lenOf pd9__ZLjava_lang_String__Ljava_lang_String__Ljava_util_List_ rfl) rfl (by show 2 * 0 + _ ≤ _; exact Nat.le_of_eq rfl) (hb hby d9_100) (fun _ _ => ⟨rfl, e102, (by decide : 4 + 3 ≤ _), (by decide : 8 + 15 ≤ _)⟩)
    dsimp only [Pt.U, Pt.locs, Pt.cells, Pt.slots, oM10] at X118 l118 y118 z118 st118 hQ118
    subst l118 y118 z118
    obtain ⟨r118, rfl, N118q, K118, gL118⟩ := hQ118
    have N118 := Fr.app N102 N118q
    have f119 := Nat.le_trans f103 K118.1
    have f120 := f104.trans (CHr.keep K118 all0 f104.1)
    have f121 := f105.keep K118 all0 all0
    have f122 := f106.keep K118 all0
    have f123 := own_sta0 f107 K118
    have f124 := own_sta0 f108 K118
    have f125 := own_sta0 f109 K118
    have f126 := f110.keep K118 nin0
    have f127 := Nat.le_trans f111 K118.1
    have f128 := f112.trans K118 all0
    have f129 := f113.keep K118 nin0
    have f130 := f114.keep K118
    have f131 := f115.keep K118 nin0
    have f132 := f116.keep K118 nin0
    have f133 := f117.keep K118 nin0
    have f134 := V_b86_102.keep K118 nin0
    replace gL118 : own_AL Z T118.heap r118 w_de (own_pick (own_beq x3 y) c3 (own_pick (own_beq x2 y) c2 (own_pick (own_beq x1 y) c1 ([] : List Addr)))) := gL118
    rw [jL] at gL118
    have gL118' : own_AL Z T118.heap r118 w_de [j0] := gL118
    obtain ⟨ra118, ka118, gE118, gS118, gD118, gV118⟩ := gL118'
    refine bk (fun t k => st118.trans k) ?_
    show F (T118.setTop (mkF m 103 #[oR o0, oR o1, .val (.int (3 : Int32)), oR c1, oR s1, oR c2, oR s2, oR c3, oR s3, oR b1, .val (.int (1 : Int32)), .unset, .unset] [(.ref r118)]))
    refine bk (fun t k => XS.astore X118.here hx rfl (hb hby d9_103) rfl rfl (l' := #[oR o0, oR o1, .val (.int (3 : Int32)), oR c1, oR s1, oR c2, oR s2, oR c3, oR s3, oR b1, .val (.int (1 : Int32)), oR r118, .unset]) rfl k) ?_
    refine bk (fun t k => XS.aload X118.here hx rfl (hb hby d9_105) rfl rfl k) ?_
    obtain ⟨cq135, kq135, q135a, q135b, q135c⟩ := isOf hZ74 rfl (gE118)
    obtain ⟨_, _, ⟨T135, L135, k135, n135⟩, -, X135, ⟨Lc135, hQ135, l135, y135, z135⟩, st135⟩ := X118.interfaceBack hx (xi := oN34) (y := oN21) hown74 (mvT hZ74 w_156) (mvT hZ74 w_133) (mvT hZ74 w_134) (mvT hZ74 w_157) (mvT hZ74 w_158) (mvT hZ74 w_159) (mvT hZ74 w_160) (mvT hZ74 w_161) (by decide) (backOf (W := 0) (rm22 l Z a0 hw [] r118 (1 : Int32) T118.heap n0 f127 gS118) hZ74 w_162 w_115 (by decide) (by decide)) q135a q135b q135c (g := (mkF m 107 #[oR o0, oR o1, .val (.int (3 : Int32)), oR c1, oR s1, oR c2, oR s2, oR c3, oR s3, oR b1, .val (.int (1 : Int32)), oR r118, .unset] [(.ref r118)])) rfl (by rw [hml]; rfl) (Steps.refl _) (argsL := []) (rest := []) (lenOf pd9___I rfl) rfl (by show 2 * 0 + _ ≤ _; exact Nat.le_of_eq rfl) (hb hby d9_107) (fun _ _ => ⟨rfl, rfl, (by decide : 7 + 0 ≤ _), (by decide : 23 + 0 ≤ _)⟩)
    dsimp only [Pt.U, Pt.locs, Pt.cells, Pt.slots, oM22] at X135 l135 y135 z135 st135 hQ135
    subst l135 y135 z135
    obtain ⟨rfl, N135q, e135⟩ := hQ135
    have N135 := Fr.app N118 N135q
    refine bk (fun t k => st135.trans k) ?_
    refine bk (fun t k => XS.iload X135.here hx rfl (hb hby d9_112) rfl k) ?_
    show F (T135.setTop (mkF m 114 #[oR o0, oR o1, .val (.int (3 : Int32)), oR c1, oR s1, oR c2, oR s2, oR c3, oR s3, oR b1, .val (.int (1 : Int32)), oR r118, .unset] [(.int (1 : Int32)), (.int (1 : Int32))]))
    refine bk (fun t k => XS.icmpYes X135.here hx rfl (pc0 := 114) (pc' := 119) rfl (hb hby d9_114) rfl (teq (by decide : (1 : Int32) = (1 : Int32))).1 (by decide) (by decide) k) ?_
    refine bk (fun t k => XS.iconst X135.here hx rfl (hb hby d9_119) k) ?_
    refine bk (fun t k => XS.istore X135.here hx rfl (hb hby d9_120) rfl (l' := #[oR o0, oR o1, .val (.int (3 : Int32)), oR c1, oR s1, oR c2, oR s2, oR c3, oR s3, oR b1, .val (.int (1 : Int32)), oR r118, .val (.int (1 : Int32))]) rfl k) ?_
    refine bk (fun t k => XS.iload X135.here hx rfl (hb hby d9_122) rfl k) ?_
    show F (T135.setTop (mkF m 124 #[oR o0, oR o1, .val (.int (3 : Int32)), oR c1, oR s1, oR c2, oR s2, oR c3, oR s3, oR b1, .val (.int (1 : Int32)), oR r118, .val (.int (1 : Int32))] [(.int (1 : Int32))]))
    refine bk (fun t k => XS.ifNo X135.here hx rfl (hb hby d9_124) rfl ((if0 _ _).trans (tlt (by decide : (0 : Int32) < (1 : Int32))).2.2.2) k) ?_
    refine bk (fun t k => XS.iload X135.here hx rfl (hb hby d9_127) rfl k) ?_
    refine bk (fun t k => XS.ifNo X135.here hx rfl (hb hby d9_129) rfl ((if0 _ _).trans (feq (by decide : ¬ ((1 : Int32) = (0 : Int32)))).1) k) ?_
    refine bk (fun t k => XS.aload X135.here hx rfl (hb hby d9_132) rfl rfl k) ?_
    refine bk (fun t k => XS.iconst X135.here hx rfl (hb hby d9_134) k) ?_
    show F (T135.setTop (mkF m 135 #[oR o0, oR o1, .val (.int (3 : Int32)), oR c1, oR s1, oR c2, oR s2, oR c3, oR s3, oR b1, .val (.int (1 : Int32)), oR r118, .val (.int (1 : Int32))] [(.int (0 : Int32)), (.ref r118)]))
    obtain ⟨cq136, kq136, q136a, q136b, q136c⟩ := isOf hZ74 e135 (gE118)
    obtain ⟨_, _, ⟨T136, L136, k136, n136⟩, -, X136, ⟨Lc136, hQ136, l136, y136, z136⟩, st136⟩ := X135.interfaceBack hx (xi := oN35) (y := oN30) hown74 (mvT hZ74 w_221) (mvT hZ74 w_142) (mvT hZ74 w_143) (mvT hZ74 w_222) (mvT hZ74 w_223) (mvT hZ74 w_224) (mvT hZ74 w_225) (mvT hZ74 w_161) (by decide) (backOf (W := 0) (rm32_0 l Z a0 hw [] r118 (1 : Int32) ra118 ka118 j0 .null .null T118.heap n0 f127 gE118 gS118 (by decide) gD118 gV118) hZ74 w_226 w_115 (by decide) (by decide)) q136a q136b q136c (g := (mkF m 135 #[oR o0, oR o1, .val (.int (3 : Int32)), oR c1, oR s1, oR c2, oR s2, oR c3, oR s3, oR b1, .val (.int (1 : Int32)), oR r118, .val (.int (1 : Int32))] [(.int (0 : Int32)), (.ref r118)])) rfl (by rw [hml]; rfl) (Steps.refl _) (argsL := [(.int (0 : Int32))]) (rest := []) (lenOf pd9__I_Ljava_lang_Object_ rfl) rfl (by show 2 * 0 + _ ≤ _; exact Nat.le_of_eq rfl) (hb hby d9_135) (fun _ _ => ⟨rfl, e135, (by decide : 7 + 0 ≤ _), (by decide : 23 + 0 ≤ _)⟩)
    dsimp only [Pt.U, Pt.locs, Pt.cells, Pt.slots, oM32_0] at X136 l136 y136 z136 st136 hQ136
    subst l136 y136 z136
    obtain ⟨rfl, N136q, e136⟩ := hQ136
    have N136 := Fr.app N135 N136q
    refine bk (fun t k => st136.trans k) ?_
    refine bk (fun t k => XS.aload X136.here hx rfl (hb hby d9_140) rfl rfl k) ?_
    refine bk (fun t k => XS.iconst X136.here hx rfl (hb hby d9_142) k) ?_
    show F (T136.setTop (mkF m 143 #[oR o0, oR o1, .val (.int (3 : Int32)), oR c1, oR s1, oR c2, oR s2, oR c3, oR s3, oR b1, .val (.int (1 : Int32)), oR r118, .val (.int (1 : Int32))] [(.int (0 : Int32)), (.ref b1), (.ref j0)]))
    have vv137 := f129
    obtain ⟨cl137, Ar137, q137, S137, M137, H137, G137⟩ := vv137
    have hin137 : ¬ ((0 : Int32) < 0 ∨ cl137.slots.size ≤ ((0 : Int32)).toNatClampNeg) := inb_of S137 ⟨by decide, by decide⟩
    refine bk (fun t k => X136.aaload hx (j := (0 : Int32)) (v := (.ref j0)) (by rw [e136]; exact Ar137.1) (State.isArrayOf_alike hZ74.alike Ar137.2.1) rfl Ar137.2.2 hin137 (Has.at H137 hin137 rfl) (g := (mkF m 143 #[oR o0, oR o1, .val (.int (3 : Int32)), oR c1, oR s1, oR c2, oR s2, oR c3, oR s3, oR b1, .val (.int (1 : Int32)), oR r118, .val (.int (1 : Int32))] [(.int (0 : Int32)), (.ref b1), (.ref j0)])) rfl rfl (hb hby d9_143) t k) ?_
    show F (T136.setTop (mkF m 144 #[oR o0, oR o1, .val (.int (3 : Int32)), oR c1, oR s1, oR c2, oR s2, oR c3, oR s3, oR b1, .val (.int (1 : Int32)), oR r118, .val (.int (1 : Int32))] [(.ref j0), (.ref j0)]))
    refine bk (fun t k => Jvm.RoadKit.acmp (g := (mkF m 144 #[oR o0, oR o1, .val (.int (3 : Int32)), oR c1, oR s1, oR c2, oR s2, oR c3, oR s3, oR b1, .val (.int (1 : Int32)), oR r118, .val (.int (1 : Int32))] [(.ref j0), (.ref j0)])) X136 hx rfl rfl rfl (pc0 := 144) (pc' := 147) (same := true) rfl (hb hby d9_144) rfl (decide_eq_true rfl) (by decide) (by decide) k) ?_
    refine bk (fun t k => XS.iconst X136.here hx rfl (hb hby d9_147) k) ?_
    refine bk (fun t k => XS.goto X136.here hx rfl (pc0 := 148) (pc' := 152) rfl (hb hby d9_148) (by decide) (by decide) k) ?_
    show F (T136.setTop (mkF m 152 #[oR o0, oR o1, .val (.int (3 : Int32)), oR c1, oR s1, oR c2, oR s2, oR c3, oR s3, oR b1, .val (.int (1 : Int32)), oR r118, .val (.int (1 : Int32))] [(.int (1 : Int32))]))
    refine bk (fun t k => XS.istore X136.here hx rfl (hb hby d9_152) rfl (l' := #[oR o0, oR o1, .val (.int (3 : Int32)), oR c1, oR s1, oR c2, oR s2, oR c3, oR s3, oR b1, .val (.int (1 : Int32)), oR r118, .val (.int (1 : Int32))]) rfl k) ?_
    refine bk (fun t k => XS.iload X136.here hx rfl (hb hby d9_154) rfl k) ?_
    refine bk (fun t k => XS.iconst X136.here hx rfl (hb hby d9_156) k) ?_
    show F (T136.setTop (mkF m 157 #[oR o0, oR o1, .val (.int (3 : Int32)), oR c1, oR s1, oR c2, oR s2, oR c3, oR s3, oR b1, .val (.int (1 : Int32)), oR r118, .val (.int (1 : Int32))] [(.int (1 : Int32)), (.int (1 : Int32))]))
    refine bk (fun t k => XS.icmpYes X136.here hx rfl (pc0 := 157) (pc' := 187) rfl (hb hby d9_157) rfl (flt (by decide : ¬ ((1 : Int32) < (1 : Int32)))).2.2.2 (by decide) (by decide) k) ?_
    refine bk (fun t k => XS.iload X136.here hx rfl (hb hby d9_187) rfl k) ?_
    refine bk (fun t k => XS.iconst X136.here hx rfl (hb hby d9_189) k) ?_
    show F (T136.setTop (mkF m 190 #[oR o0, oR o1, .val (.int (3 : Int32)), oR c1, oR s1, oR c2, oR s2, oR c3, oR s3, oR b1, .val (.int (1 : Int32)), oR r118, .val (.int (1 : Int32))] [(.int (2 : Int32)), (.int (1 : Int32))]))
    refine bk (fun t k => XS.icmpYes X136.here hx rfl (pc0 := 190) (pc' := 220) rfl (hb hby d9_190) rfl (flt (by decide : ¬ ((2 : Int32) < (1 : Int32)))).2.2.2 (by decide) (by decide) k) ?_
    refine bk (fun t k => XS.iload X136.here hx rfl (hb hby d9_220) rfl k) ?_
    rw [hF]
    refine own_retZH X136 hx hS74 (by rw [e136]; exact f119) hZ74 own_EW (by rw [hh, e136]; exact f120) Bd.notSynchronized Bd.returns (hb hby d9_222) (by decide) (by decide) ?_
    rw [e136]
    exact ⟨rfl, N136, f128⟩
  have J88_2 : ∀ (TJ : State) (LJ : List Loc) (hJ : Heap) (XJ : Stand p l e oM9_3 (s.setVm s.vm) m #[(.ref o0), (.ref o1), (.int (3 : Int32)), (.ref c1), (.ref s1), (.ref c2), (.ref s2), (.ref c3), (.ref s3)] below meth c TJ LJ 1 3) (eJ : TJ.heap = hJ) (NJ : Fr n0 LJ) (j0 : Addr) (j1 : Addr) (jC : CHr Z consts_1 s.vm h0 s.vm hJ) (jK : own_Kids Z hJ o0 [(c1, s1, x1), (c2, s2, x2), (c3, s3, x3)]) (jS : own_St Z hJ o1 (1 : Int32) [(.int y)]) (jcs : Sta Z hJ "java/lang/String" "COMPACT_STRINGS" "Z" (.int cs)) (jde : Sta Z hJ "java/util/ArrayList" "DEFAULTCAPACITY_EMPTY_ELEMENTDATA" "[Ljava/lang/Object;" (.ref w_de)) (je : Sta Z hJ "java/util/ImmutableCollections" "EMPTY" "Ljava/lang/Object;" (.ref w_e)) (jV : Arv Z hJ w_de k_de (.object "java/lang/Object") (0 : Int32) [] .null) (jZ : n0 ≤ hJ.size) (jKp : Keep h0 hJ []) (jX : Arv Z hJ b1 k1 (.object "com/example/quire/quire/readers/Element") (3 : Int32) [(.ref j0), (.ref j1), .null] .null) (jL : (own_pick (own_beq x3 y) c3 (own_pick (own_beq x2 y) c2 (own_pick (own_beq x1 y) c1 ([] : List Addr)))) = [j0, j1]), F (TJ.setTop (mkF m 88 #[oR o0, oR o1, .val (.int (3 : Int32)), oR c1, oR s1, oR c2, oR s2, oR c3, oR s3, oR b1, .val (.int (2 : Int32)), .unset, .unset] [])) := by
    intro TJ LJ hJ XJ eJ NJ j0 j1 jC jK jS jcs jde je jV jZ jKp jX jL
    refine bk (fun t k => XS.aloadN XJ.here hx rfl (hb hby d9_88) rfl rfl k) ?_
    refine bk (fun t k => XS.iconst XJ.here hx rfl (hb hby d9_89) k) ?_
    show F (TJ.setTop (mkF m 90 #[oR o0, oR o1, .val (.int (3 : Int32)), oR c1, oR s1, oR c2, oR s2, oR c3, oR s3, oR b1, .val (.int (2 : Int32)), .unset, .unset] [(.int (0 : Int32)), (.ref o0)]))
    obtain ⟨b138, T138, h138, k1138, d138, kk138, X138, e138, E138, hS138, hk138, hZ138, hown138, A138, C138, V138, R138, -, -, CR138, LT138, sf138, st138⟩ := ldcCH XJ hx hZ hown w_65 own_wS eJ hS0 (Nat.zero_le _) own_EW (by simp [consts_1]) jC.1 (vs := []) (z := (0 : Int32)) ⟨by decide, rfl⟩ (by decide) (by decide) (g := (mkF m 90 #[oR o0, oR o1, .val (.int (3 : Int32)), oR c1, oR s1, oR c2, oR s2, oR c3, oR s3, oR b1, .val (.int (2 : Int32)), .unset, .unset] [(.int (0 : Int32)), (.ref o0)])) rfl (hb hby d9_90) (n := 0) (by decide) (by decide) (by decide) (by decide)
    have f139 := hk138
    have f140 := jC.trans CR138
    have f141 := jK.ext E138
    have f142 := jS.ext E138
    have f143 := jcs.ext E138
    have f144 := jde.ext E138
    have f145 := je.ext E138
    have f146 := jV.ext E138
    have f147 := Nat.le_trans jZ E138.1
    have f148 := jKp.ext E138
    have f149 := jX.ext E138
    refine bk (fun t k => st138 t k) ?_
    refine bk (fun t k => XS.iconst X138.here hx rfl (hb hby d9_92) k) ?_
    show F (T138.setTop (mkF m 93 #[oR o0, oR o1, .val (.int (3 : Int32)), oR c1, oR s1, oR c2, oR s2, oR c3, oR s3, oR b1, .val (.int (2 : Int32)), .unset, .unset] [(.int (1 : Int32)), (.ref b138), (.int (0 : Int32)), (.ref o0)]))
    obtain ⟨T150, h150, k150, X150, e150, E150, A150, O150, st150⟩ := newR X138 hx hZ138 hown138 w_66 w_67 e138 (g := (mkF m 93 #[oR o0, oR o1, .val (.int (3 : Int32)), oR c1, oR s1, oR c2, oR s2, oR c3, oR s3, oR b1, .val (.int (2 : Int32)), .unset, .unset] [(.int (1 : Int32)), (.ref b138), (.int (0 : Int32)), (.ref o0)])) rfl (hb hby d9_93) rfl (by decide) (cap := 1) (by decide) (by decide) (by decide) (by decide)
    obtain ⟨b150, g150⟩ : ∃ z, z = h138.size := ⟨_, rfl⟩
    rw [← g150] at A150 st150
    have Gb150 : n0 ≤ b150 := Nat.le_trans f147 (Nat.le_of_eq g150.symm)
    have sz_b150 : h0.size ≤ b150 := Nat.le_trans f148.1 (Nat.le_of_eq g150.symm)
    have ne_w_de_b150 : w_de ≠ b150 := Nat.ne_of_lt (Nat.lt_of_lt_of_le f146.lt (Nat.le_of_eq g150.symm))
    have ne_b1_b150 : b1 ≠ b150 := Nat.ne_of_lt (Nat.lt_of_lt_of_le f149.lt (Nat.le_of_eq g150.symm))
    have ne_c1_b150 : c1 ≠ b150 := Nat.ne_of_lt (Nat.lt_of_lt_of_le (own_Kids.ch f141 0 rfl).1.lt (Nat.le_of_eq g150.symm))
    have ne_c2_b150 : c2 ≠ b150 := Nat.ne_of_lt (Nat.lt_of_lt_of_le (own_Kids.ch f141 1 rfl).1.lt (Nat.le_of_eq g150.symm))
    have ne_c3_b150 : c3 ≠ b150 := Nat.ne_of_lt (Nat.lt_of_lt_of_le (own_Kids.ch f141 2 rfl).1.lt (Nat.le_of_eq g150.symm))
    have ne_o0_b150 : o0 ≠ b150 := Nat.ne_of_lt (Nat.lt_of_lt_of_le f141.1.lt (Nat.le_of_eq g150.symm))
    have ne_o1_b150 : o1 ≠ b150 := Nat.ne_of_lt (Nat.lt_of_lt_of_le f142.exa.lt (Nat.le_of_eq g150.symm))
    have ne_b138_b150 : b138 ≠ b150 := Nat.ne_of_lt (Nat.lt_of_lt_of_le A138.lt (Nat.le_of_eq g150.symm))
    have ne_d138_b150 : d138 ≠ b150 := Nat.ne_of_lt (Nat.lt_of_lt_of_le R138.lt (Nat.le_of_eq g150.symm))
    have f151 := Nat.le_trans f139 E150.1
    have f152 := f140.trans (CHr.ext E150 f140.1)
    have f153 := f141.ext E150
    have f154 := f142.ext E150
    have f155 := f143.ext E150
    have f156 := f144.ext E150
    have f157 := f145.ext E150
    have f158 := f146.ext E150
    have f159 := Nat.le_trans f147 E150.1
    have f160 := f148.ext E150
    have f161 := f149.ext E150
    have f162 := A138.ext E150
    have f163 := V138.ext E150
    have f164 := C138.ext E150
    have f165 := R138.ext E150
    have V_b150 : Arv Z h150 b150 k150 (.object "java/lang/String") (1 : Int32) [.null] .null := (Arv.new A150 (by decide)).pad (pad_rep [] .null 1)
    refine bk (fun t k => st150 t k) ?_
    refine bk (fun t k => XS.dup X150.here hx rfl (hb hby d9_96) rfl rfl k) ?_
    refine bk (fun t k => XS.iconst X150.here hx rfl (hb hby d9_97) k) ?_
    refine bk (fun t k => XS.aloadN X150.here hx rfl (hb hby d9_98) rfl rfl k) ?_
    show F (T150.setTop (mkF m 99 #[oR o0, oR o1, .val (.int (3 : Int32)), oR c1, oR s1, oR c2, oR s2, oR c3, oR s3, oR b1, .val (.int (2 : Int32)), .unset, .unset] [(.ref o1), (.int (0 : Int32)), (.ref b150), (.ref b150), (.ref b138), (.int (0 : Int32)), (.ref o0)]))
    have vv166 := V_b150
    obtain ⟨cl166, Ar166, q166, S166, M166, H166, G166⟩ := vv166
    have hin166 : ¬ ((0 : Int32) < 0 ∨ cl166.slots.size ≤ ((0 : Int32)).toNatClampNeg) := inb_of S166 ⟨by decide, by decide⟩
    obtain ⟨T166, h166, X166, e166, W166, st166⟩ := stR X150 hx hZ138 e150 Ar166 (j := (0 : Int32)) hin166 rfl (Sto.ofV Ar166 q166 O150 (Ins.self f154.exa)) (g := (mkF m 99 #[oR o0, oR o1, .val (.int (3 : Int32)), oR c1, oR s1, oR c2, oR s2, oR c3, oR s3, oR b1, .val (.int (2 : Int32)), .unset, .unset] [(.ref o1), (.int (0 : Int32)), (.ref b150), (.ref b150), (.ref b138), (.int (0 : Int32)), (.ref o0)])) rfl rfl (hb hby d9_99)
    have V_b150_166 : Arv Z h166 b150 k150 (.object "java/lang/String") (1 : Int32) [(.ref o1)] .null := Arv.set Ar166 q166 S166 M166 H166 G166 rfl W166 0 rfl (Nat.le_of_ble_eq_true rfl)
    have f167 := Nat.le_trans f151 (Keep.of_wr W166).1
    have f168 := f152.trans (CHr.wr W166 (own_safeV hZ138.alike V_b150 (by decide)) f152.1)
    have f169 := f153.keep (Keep.of_wr W166) (allS (own_nsV V_b150 (by decide) w_11) all0) (allS (own_neW V_b150 w_28) all0)
    have f170 := f154.keep (Keep.of_wr W166) (allS (own_nsV V_b150 (by decide) w_11) all0)
    have f171 := f155.wr W166
    have f172 := f156.wr W166
    have f173 := f157.wr W166
    have f174 := f158.other W166 ne_w_de_b150
    have f175 := Nat.le_trans f159 (Keep.of_wr W166).1
    have f176 := f160.wr W166 (Or.inr sz_b150)
    have f177 := f161.other W166 ne_b1_b150
    have f178 := f162.wr W166
    have f179 := f163.other W166 (Or.inl ne_b138_b150)
    have f180 := f164.other W166 (Or.inl ne_b138_b150)
    have f181 := f165.other W166 ne_d138_b150
    have N166 := Fr.snoc X166 NJ Gb150
    refine bk (fun t k => st166 t k) ?_
    show F (T166.setTop (mkF m 100 #[oR o0, oR o1, .val (.int (3 : Int32)), oR c1, oR s1, oR c2, oR s2, oR c3, oR s3, oR b1, .val (.int (2 : Int32)), .unset, .unset] [(.ref b150), (.ref b138), (.int (0 : Int32)), (.ref o0)]))
    obtain ⟨cq182, kq182, q182a, q182b, q182c⟩ := isOf hZ138 e166 (f169.1)
    obtain ⟨_, _, ⟨T182, L182, k182, n182⟩, -, X182, ⟨Lc182, hQ182, l182, y182, z182⟩, st182⟩ := X166.virtualBack hx (y := oN33) (z := oN33) hown138 (mvT hZ138 w_68) (mvT hZ138 w_69) (notFace_of_selects (args := #[]) (mvT hZ138 w_71)) (mvT hZ138 w_71) (mvT hZ138 w_70) (by decide) (backOf (W := 0) (rm10 l Z a0 hw [] o0 b138 b150 o1 k150 [(c1, s1, x1), (c2, s2, x2), (c3, s3, x3)] y cs w_e w_de k_de h166 n0 f175 (Nat.le_of_ble_eq_true rfl) f169 ⟨_, _, f178, f180, f179, f181⟩ f170 V_b150_166 f171 hcs f173 f172 f174) hZ138 w_72 w_29 (by decide) (by decide)) q182a q182c (g := (mkF m 100 #[oR o0, oR o1, .val (.int (3 : Int32)), oR c1, oR s1, oR c2, oR s2, oR c3, oR s3, oR b1, .val (.int (2 : Int32)), .unset, .unset] [(.ref b150), (.ref b138), (.int (0 : Int32)), (.ref o0)])) rfl (by rw [hml]; rfl) (Steps.refl _) (argsL := [(.int (0 : Int32)), (.ref b138), (.ref b150)]) (rest := []) (lenOf pd9__ZLjava_lang_String__Ljava_lang_String__Ljava_util_List_ rfl) rfl (by show 2 * 0 + _ ≤ _; exact Nat.le_of_eq rfl) (hb hby d9_100) (fun _ _ => ⟨rfl, e166, (by decide : 4 + 3 ≤ _), (by decide : 8 + 15 ≤ _)⟩)
    dsimp only [Pt.U, Pt.locs, Pt.cells, Pt.slots, oM10] at X182 l182 y182 z182 st182 hQ182
    subst l182 y182 z182
    obtain ⟨r182, rfl, N182q, K182, gL182⟩ := hQ182
    have N182 := Fr.app N166 N182q
    have f183 := Nat.le_trans f167 K182.1
    have f184 := f168.trans (CHr.keep K182 all0 f168.1)
    have f185 := f169.keep K182 all0 all0
    have f186 := f170.keep K182 all0
    have f187 := own_sta0 f171 K182
    have f188 := own_sta0 f172 K182
    have f189 := own_sta0 f173 K182
    have f190 := f174.keep K182 nin0
    have f191 := Nat.le_trans f175 K182.1
    have f192 := f176.trans K182 all0
    have f193 := f177.keep K182 nin0
    have f194 := f178.keep K182
    have f195 := f179.keep K182 nin0
    have f196 := f180.keep K182 nin0
    have f197 := f181.keep K182 nin0
    have f198 := V_b150_166.keep K182 nin0
    replace gL182 : own_AL Z T182.heap r182 w_de (own_pick (own_beq x3 y) c3 (own_pick (own_beq x2 y) c2 (own_pick (own_beq x1 y) c1 ([] : List Addr)))) := gL182
    rw [jL] at gL182
    have gL182' : own_AL Z T182.heap r182 w_de [j0, j1] := gL182
    obtain ⟨ra182, ka182, gE182, gS182, gD182, gV182⟩ := gL182'
    refine bk (fun t k => st182.trans k) ?_
    show F (T182.setTop (mkF m 103 #[oR o0, oR o1, .val (.int (3 : Int32)), oR c1, oR s1, oR c2, oR s2, oR c3, oR s3, oR b1, .val (.int (2 : Int32)), .unset, .unset] [(.ref r182)]))
    refine bk (fun t k => XS.astore X182.here hx rfl (hb hby d9_103) rfl rfl (l' := #[oR o0, oR o1, .val (.int (3 : Int32)), oR c1, oR s1, oR c2, oR s2, oR c3, oR s3, oR b1, .val (.int (2 : Int32)), oR r182, .unset]) rfl k) ?_
    refine bk (fun t k => XS.aload X182.here hx rfl (hb hby d9_105) rfl rfl k) ?_
    obtain ⟨cq199, kq199, q199a, q199b, q199c⟩ := isOf hZ138 rfl (gE182)
    obtain ⟨_, _, ⟨T199, L199, k199, n199⟩, -, X199, ⟨Lc199, hQ199, l199, y199, z199⟩, st199⟩ := X182.interfaceBack hx (xi := oN34) (y := oN21) hown138 (mvT hZ138 w_156) (mvT hZ138 w_133) (mvT hZ138 w_134) (mvT hZ138 w_157) (mvT hZ138 w_158) (mvT hZ138 w_159) (mvT hZ138 w_160) (mvT hZ138 w_161) (by decide) (backOf (W := 0) (rm22 l Z a0 hw [] r182 (2 : Int32) T182.heap n0 f191 gS182) hZ138 w_162 w_115 (by decide) (by decide)) q199a q199b q199c (g := (mkF m 107 #[oR o0, oR o1, .val (.int (3 : Int32)), oR c1, oR s1, oR c2, oR s2, oR c3, oR s3, oR b1, .val (.int (2 : Int32)), oR r182, .unset] [(.ref r182)])) rfl (by rw [hml]; rfl) (Steps.refl _) (argsL := []) (rest := []) (lenOf pd9___I rfl) rfl (by show 2 * 0 + _ ≤ _; exact Nat.le_of_eq rfl) (hb hby d9_107) (fun _ _ => ⟨rfl, rfl, (by decide : 7 + 0 ≤ _), (by decide : 23 + 0 ≤ _)⟩)
    dsimp only [Pt.U, Pt.locs, Pt.cells, Pt.slots, oM22] at X199 l199 y199 z199 st199 hQ199
    subst l199 y199 z199
    obtain ⟨rfl, N199q, e199⟩ := hQ199
    have N199 := Fr.app N182 N199q
    refine bk (fun t k => st199.trans k) ?_
    refine bk (fun t k => XS.iload X199.here hx rfl (hb hby d9_112) rfl k) ?_
    show F (T199.setTop (mkF m 114 #[oR o0, oR o1, .val (.int (3 : Int32)), oR c1, oR s1, oR c2, oR s2, oR c3, oR s3, oR b1, .val (.int (2 : Int32)), oR r182, .unset] [(.int (2 : Int32)), (.int (2 : Int32))]))
    refine bk (fun t k => XS.icmpYes X199.here hx rfl (pc0 := 114) (pc' := 119) rfl (hb hby d9_114) rfl (teq (by decide : (2 : Int32) = (2 : Int32))).1 (by decide) (by decide) k) ?_
    refine bk (fun t k => XS.iconst X199.here hx rfl (hb hby d9_119) k) ?_
    refine bk (fun t k => XS.istore X199.here hx rfl (hb hby d9_120) rfl (l' := #[oR o0, oR o1, .val (.int (3 : Int32)), oR c1, oR s1, oR c2, oR s2, oR c3, oR s3, oR b1, .val (.int (2 : Int32)), oR r182, .val (.int (1 : Int32))]) rfl k) ?_
    refine bk (fun t k => XS.iload X199.here hx rfl (hb hby d9_122) rfl k) ?_
    show F (T199.setTop (mkF m 124 #[oR o0, oR o1, .val (.int (3 : Int32)), oR c1, oR s1, oR c2, oR s2, oR c3, oR s3, oR b1, .val (.int (2 : Int32)), oR r182, .val (.int (1 : Int32))] [(.int (2 : Int32))]))
    refine bk (fun t k => XS.ifNo X199.here hx rfl (hb hby d9_124) rfl ((if0 _ _).trans (tlt (by decide : (0 : Int32) < (2 : Int32))).2.2.2) k) ?_
    refine bk (fun t k => XS.iload X199.here hx rfl (hb hby d9_127) rfl k) ?_
    refine bk (fun t k => XS.ifNo X199.here hx rfl (hb hby d9_129) rfl ((if0 _ _).trans (feq (by decide : ¬ ((1 : Int32) = (0 : Int32)))).1) k) ?_
    refine bk (fun t k => XS.aload X199.here hx rfl (hb hby d9_132) rfl rfl k) ?_
    refine bk (fun t k => XS.iconst X199.here hx rfl (hb hby d9_134) k) ?_
    show F (T199.setTop (mkF m 135 #[oR o0, oR o1, .val (.int (3 : Int32)), oR c1, oR s1, oR c2, oR s2, oR c3, oR s3, oR b1, .val (.int (2 : Int32)), oR r182, .val (.int (1 : Int32))] [(.int (0 : Int32)), (.ref r182)]))
    obtain ⟨cq200, kq200, q200a, q200b, q200c⟩ := isOf hZ138 e199 (gE182)
    obtain ⟨_, _, ⟨T200, L200, k200, n200⟩, -, X200, ⟨Lc200, hQ200, l200, y200, z200⟩, st200⟩ := X199.interfaceBack hx (xi := oN35) (y := oN30) hown138 (mvT hZ138 w_221) (mvT hZ138 w_142) (mvT hZ138 w_143) (mvT hZ138 w_222) (mvT hZ138 w_223) (mvT hZ138 w_224) (mvT hZ138 w_225) (mvT hZ138 w_161) (by decide) (backOf (W := 0) (rm32_0 l Z a0 hw [] r182 (2 : Int32) ra182 ka182 j0 (.ref j1) .null T182.heap n0 f191 gE182 gS182 (by decide) gD182 gV182) hZ138 w_226 w_115 (by decide) (by decide)) q200a q200b q200c (g := (mkF m 135 #[oR o0, oR o1, .val (.int (3 : Int32)), oR c1, oR s1, oR c2, oR s2, oR c3, oR s3, oR b1, .val (.int (2 : Int32)), oR r182, .val (.int (1 : Int32))] [(.int (0 : Int32)), (.ref r182)])) rfl (by rw [hml]; rfl) (Steps.refl _) (argsL := [(.int (0 : Int32))]) (rest := []) (lenOf pd9__I_Ljava_lang_Object_ rfl) rfl (by show 2 * 0 + _ ≤ _; exact Nat.le_of_eq rfl) (hb hby d9_135) (fun _ _ => ⟨rfl, e199, (by decide : 7 + 0 ≤ _), (by decide : 23 + 0 ≤ _)⟩)
    dsimp only [Pt.U, Pt.locs, Pt.cells, Pt.slots, oM32_0] at X200 l200 y200 z200 st200 hQ200
    subst l200 y200 z200
    obtain ⟨rfl, N200q, e200⟩ := hQ200
    have N200 := Fr.app N199 N200q
    refine bk (fun t k => st200.trans k) ?_
    refine bk (fun t k => XS.aload X200.here hx rfl (hb hby d9_140) rfl rfl k) ?_
    refine bk (fun t k => XS.iconst X200.here hx rfl (hb hby d9_142) k) ?_
    show F (T200.setTop (mkF m 143 #[oR o0, oR o1, .val (.int (3 : Int32)), oR c1, oR s1, oR c2, oR s2, oR c3, oR s3, oR b1, .val (.int (2 : Int32)), oR r182, .val (.int (1 : Int32))] [(.int (0 : Int32)), (.ref b1), (.ref j0)]))
    have vv201 := f193
    obtain ⟨cl201, Ar201, q201, S201, M201, H201, G201⟩ := vv201
    have hin201 : ¬ ((0 : Int32) < 0 ∨ cl201.slots.size ≤ ((0 : Int32)).toNatClampNeg) := inb_of S201 ⟨by decide, by decide⟩
    refine bk (fun t k => X200.aaload hx (j := (0 : Int32)) (v := (.ref j0)) (by rw [e200]; exact Ar201.1) (State.isArrayOf_alike hZ138.alike Ar201.2.1) rfl Ar201.2.2 hin201 (Has.at H201 hin201 rfl) (g := (mkF m 143 #[oR o0, oR o1, .val (.int (3 : Int32)), oR c1, oR s1, oR c2, oR s2, oR c3, oR s3, oR b1, .val (.int (2 : Int32)), oR r182, .val (.int (1 : Int32))] [(.int (0 : Int32)), (.ref b1), (.ref j0)])) rfl rfl (hb hby d9_143) t k) ?_
    show F (T200.setTop (mkF m 144 #[oR o0, oR o1, .val (.int (3 : Int32)), oR c1, oR s1, oR c2, oR s2, oR c3, oR s3, oR b1, .val (.int (2 : Int32)), oR r182, .val (.int (1 : Int32))] [(.ref j0), (.ref j0)]))
    refine bk (fun t k => Jvm.RoadKit.acmp (g := (mkF m 144 #[oR o0, oR o1, .val (.int (3 : Int32)), oR c1, oR s1, oR c2, oR s2, oR c3, oR s3, oR b1, .val (.int (2 : Int32)), oR r182, .val (.int (1 : Int32))] [(.ref j0), (.ref j0)])) X200 hx rfl rfl rfl (pc0 := 144) (pc' := 147) (same := true) rfl (hb hby d9_144) rfl (decide_eq_true rfl) (by decide) (by decide) k) ?_
    refine bk (fun t k => XS.iconst X200.here hx rfl (hb hby d9_147) k) ?_
    refine bk (fun t k => XS.goto X200.here hx rfl (pc0 := 148) (pc' := 152) rfl (hb hby d9_148) (by decide) (by decide) k) ?_
    show F (T200.setTop (mkF m 152 #[oR o0, oR o1, .val (.int (3 : Int32)), oR c1, oR s1, oR c2, oR s2, oR c3, oR s3, oR b1, .val (.int (2 : Int32)), oR r182, .val (.int (1 : Int32))] [(.int (1 : Int32))]))
    refine bk (fun t k => XS.istore X200.here hx rfl (hb hby d9_152) rfl (l' := #[oR o0, oR o1, .val (.int (3 : Int32)), oR c1, oR s1, oR c2, oR s2, oR c3, oR s3, oR b1, .val (.int (2 : Int32)), oR r182, .val (.int (1 : Int32))]) rfl k) ?_
    refine bk (fun t k => XS.iload X200.here hx rfl (hb hby d9_154) rfl k) ?_
    refine bk (fun t k => XS.iconst X200.here hx rfl (hb hby d9_156) k) ?_
    show F (T200.setTop (mkF m 157 #[oR o0, oR o1, .val (.int (3 : Int32)), oR c1, oR s1, oR c2, oR s2, oR c3, oR s3, oR b1, .val (.int (2 : Int32)), oR r182, .val (.int (1 : Int32))] [(.int (1 : Int32)), (.int (2 : Int32))]))
    refine bk (fun t k => XS.icmpNo X200.here hx rfl (hb hby d9_157) rfl (tlt (by decide : (1 : Int32) < (2 : Int32))).2.2.2 k) ?_
    refine bk (fun t k => XS.iload X200.here hx rfl (hb hby d9_160) rfl k) ?_
    refine bk (fun t k => XS.ifNo X200.here hx rfl (hb hby d9_162) rfl ((if0 _ _).trans (feq (by decide : ¬ ((1 : Int32) = (0 : Int32)))).1) k) ?_
    refine bk (fun t k => XS.aload X200.here hx rfl (hb hby d9_165) rfl rfl k) ?_
    refine bk (fun t k => XS.iconst X200.here hx rfl (hb hby d9_167) k) ?_
    show F (T200.setTop (mkF m 168 #[oR o0, oR o1, .val (.int (3 : Int32)), oR c1, oR s1, oR c2, oR s2, oR c3, oR s3, oR b1, .val (.int (2 : Int32)), oR r182, .val (.int (1 : Int32))] [(.int (1 : Int32)), (.ref r182)]))
    obtain ⟨cq202, kq202, q202a, q202b, q202c⟩ := isOf hZ138 e200 (gE182)
    obtain ⟨_, _, ⟨T202, L202, k202, n202⟩, -, X202, ⟨Lc202, hQ202, l202, y202, z202⟩, st202⟩ := X200.interfaceBack hx (xi := oN35) (y := oN30) hown138 (mvT hZ138 w_221) (mvT hZ138 w_142) (mvT hZ138 w_143) (mvT hZ138 w_222) (mvT hZ138 w_223) (mvT hZ138 w_224) (mvT hZ138 w_225) (mvT hZ138 w_161) (by decide) (backOf (W := 0) (rm32_1 l Z a0 hw [] r182 (2 : Int32) ra182 ka182 j1 (.ref j0) .null T182.heap n0 f191 gE182 gS182 (by decide) gD182 gV182) hZ138 w_226 w_115 (by decide) (by decide)) q202a q202b q202c (g := (mkF m 168 #[oR o0, oR o1, .val (.int (3 : Int32)), oR c1, oR s1, oR c2, oR s2, oR c3, oR s3, oR b1, .val (.int (2 : Int32)), oR r182, .val (.int (1 : Int32))] [(.int (1 : Int32)), (.ref r182)])) rfl (by rw [hml]; rfl) (Steps.refl _) (argsL := [(.int (1 : Int32))]) (rest := []) (lenOf pd9__I_Ljava_lang_Object_ rfl) rfl (by show 2 * 0 + _ ≤ _; exact Nat.le_of_eq rfl) (hb hby d9_168) (fun _ _ => ⟨rfl, e200, (by decide : 7 + 0 ≤ _), (by decide : 23 + 0 ≤ _)⟩)
    dsimp only [Pt.U, Pt.locs, Pt.cells, Pt.slots, oM32_1] at X202 l202 y202 z202 st202 hQ202
    subst l202 y202 z202
    obtain ⟨rfl, N202q, e202⟩ := hQ202
    have N202 := Fr.app N200 N202q
    refine bk (fun t k => st202.trans k) ?_
    refine bk (fun t k => XS.aload X202.here hx rfl (hb hby d9_173) rfl rfl k) ?_
    refine bk (fun t k => XS.iconst X202.here hx rfl (hb hby d9_175) k) ?_
    show F (T202.setTop (mkF m 176 #[oR o0, oR o1, .val (.int (3 : Int32)), oR c1, oR s1, oR c2, oR s2, oR c3, oR s3, oR b1, .val (.int (2 : Int32)), oR r182, .val (.int (1 : Int32))] [(.int (1 : Int32)), (.ref b1), (.ref j1)]))
    have vv203 := f193
    obtain ⟨cl203, Ar203, q203, S203, M203, H203, G203⟩ := vv203
    have hin203 : ¬ ((1 : Int32) < 0 ∨ cl203.slots.size ≤ ((1 : Int32)).toNatClampNeg) := inb_of S203 ⟨by decide, by decide⟩
    refine bk (fun t k => X202.aaload hx (j := (1 : Int32)) (v := (.ref j1)) (by rw [e202]; exact Ar203.1) (State.isArrayOf_alike hZ138.alike Ar203.2.1) rfl Ar203.2.2 hin203 (Has.at H203 hin203 rfl) (g := (mkF m 176 #[oR o0, oR o1, .val (.int (3 : Int32)), oR c1, oR s1, oR c2, oR s2, oR c3, oR s3, oR b1, .val (.int (2 : Int32)), oR r182, .val (.int (1 : Int32))] [(.int (1 : Int32)), (.ref b1), (.ref j1)])) rfl rfl (hb hby d9_176) t k) ?_
    show F (T202.setTop (mkF m 177 #[oR o0, oR o1, .val (.int (3 : Int32)), oR c1, oR s1, oR c2, oR s2, oR c3, oR s3, oR b1, .val (.int (2 : Int32)), oR r182, .val (.int (1 : Int32))] [(.ref j1), (.ref j1)]))
    refine bk (fun t k => Jvm.RoadKit.acmp (g := (mkF m 177 #[oR o0, oR o1, .val (.int (3 : Int32)), oR c1, oR s1, oR c2, oR s2, oR c3, oR s3, oR b1, .val (.int (2 : Int32)), oR r182, .val (.int (1 : Int32))] [(.ref j1), (.ref j1)])) X202 hx rfl rfl rfl (pc0 := 177) (pc' := 180) (same := true) rfl (hb hby d9_177) rfl (decide_eq_true rfl) (by decide) (by decide) k) ?_
    refine bk (fun t k => XS.iconst X202.here hx rfl (hb hby d9_180) k) ?_
    refine bk (fun t k => XS.goto X202.here hx rfl (pc0 := 181) (pc' := 185) rfl (hb hby d9_181) (by decide) (by decide) k) ?_
    show F (T202.setTop (mkF m 185 #[oR o0, oR o1, .val (.int (3 : Int32)), oR c1, oR s1, oR c2, oR s2, oR c3, oR s3, oR b1, .val (.int (2 : Int32)), oR r182, .val (.int (1 : Int32))] [(.int (1 : Int32))]))
    refine bk (fun t k => XS.istore X202.here hx rfl (hb hby d9_185) rfl (l' := #[oR o0, oR o1, .val (.int (3 : Int32)), oR c1, oR s1, oR c2, oR s2, oR c3, oR s3, oR b1, .val (.int (2 : Int32)), oR r182, .val (.int (1 : Int32))]) rfl k) ?_
    refine bk (fun t k => XS.iload X202.here hx rfl (hb hby d9_187) rfl k) ?_
    refine bk (fun t k => XS.iconst X202.here hx rfl (hb hby d9_189) k) ?_
    show F (T202.setTop (mkF m 190 #[oR o0, oR o1, .val (.int (3 : Int32)), oR c1, oR s1, oR c2, oR s2, oR c3, oR s3, oR b1, .val (.int (2 : Int32)), oR r182, .val (.int (1 : Int32))] [(.int (2 : Int32)), (.int (2 : Int32))]))
    refine bk (fun t k => XS.icmpYes X202.here hx rfl (pc0 := 190) (pc' := 220) rfl (hb hby d9_190) rfl (flt (by decide : ¬ ((2 : Int32) < (2 : Int32)))).2.2.2 (by decide) (by decide) k) ?_
    refine bk (fun t k => XS.iload X202.here hx rfl (hb hby d9_220) rfl k) ?_
    rw [hF]
    refine own_retZH X202 hx hS138 (by rw [e202]; exact f183) hZ138 own_EW (by rw [hh, e202]; exact f184) Bd.notSynchronized Bd.returns (hb hby d9_222) (by decide) (by decide) ?_
    rw [e202]
    exact ⟨rfl, N202, f192⟩
  have J88_3 : ∀ (TJ : State) (LJ : List Loc) (hJ : Heap) (XJ : Stand p l e oM9_3 (s.setVm s.vm) m #[(.ref o0), (.ref o1), (.int (3 : Int32)), (.ref c1), (.ref s1), (.ref c2), (.ref s2), (.ref c3), (.ref s3)] below meth c TJ LJ 1 3) (eJ : TJ.heap = hJ) (NJ : Fr n0 LJ) (j0 : Addr) (j1 : Addr) (j2 : Addr) (jC : CHr Z consts_1 s.vm h0 s.vm hJ) (jK : own_Kids Z hJ o0 [(c1, s1, x1), (c2, s2, x2), (c3, s3, x3)]) (jS : own_St Z hJ o1 (1 : Int32) [(.int y)]) (jcs : Sta Z hJ "java/lang/String" "COMPACT_STRINGS" "Z" (.int cs)) (jde : Sta Z hJ "java/util/ArrayList" "DEFAULTCAPACITY_EMPTY_ELEMENTDATA" "[Ljava/lang/Object;" (.ref w_de)) (je : Sta Z hJ "java/util/ImmutableCollections" "EMPTY" "Ljava/lang/Object;" (.ref w_e)) (jV : Arv Z hJ w_de k_de (.object "java/lang/Object") (0 : Int32) [] .null) (jZ : n0 ≤ hJ.size) (jKp : Keep h0 hJ []) (jX : Arv Z hJ b1 k1 (.object "com/example/quire/quire/readers/Element") (3 : Int32) [(.ref j0), (.ref j1), (.ref j2)] .null) (jL : (own_pick (own_beq x3 y) c3 (own_pick (own_beq x2 y) c2 (own_pick (own_beq x1 y) c1 ([] : List Addr)))) = [j0, j1, j2]), F (TJ.setTop (mkF m 88 #[oR o0, oR o1, .val (.int (3 : Int32)), oR c1, oR s1, oR c2, oR s2, oR c3, oR s3, oR b1, .val (.int (3 : Int32)), .unset, .unset] [])) := by
    intro TJ LJ hJ XJ eJ NJ j0 j1 j2 jC jK jS jcs jde je jV jZ jKp jX jL
    refine bk (fun t k => XS.aloadN XJ.here hx rfl (hb hby d9_88) rfl rfl k) ?_
    refine bk (fun t k => XS.iconst XJ.here hx rfl (hb hby d9_89) k) ?_
    show F (TJ.setTop (mkF m 90 #[oR o0, oR o1, .val (.int (3 : Int32)), oR c1, oR s1, oR c2, oR s2, oR c3, oR s3, oR b1, .val (.int (3 : Int32)), .unset, .unset] [(.int (0 : Int32)), (.ref o0)]))
    obtain ⟨b204, T204, h204, k1204, d204, kk204, X204, e204, E204, hS204, hk204, hZ204, hown204, A204, C204, V204, R204, -, -, CR204, LT204, sf204, st204⟩ := ldcCH XJ hx hZ hown w_65 own_wS eJ hS0 (Nat.zero_le _) own_EW (by simp [consts_1]) jC.1 (vs := []) (z := (0 : Int32)) ⟨by decide, rfl⟩ (by decide) (by decide) (g := (mkF m 90 #[oR o0, oR o1, .val (.int (3 : Int32)), oR c1, oR s1, oR c2, oR s2, oR c3, oR s3, oR b1, .val (.int (3 : Int32)), .unset, .unset] [(.int (0 : Int32)), (.ref o0)])) rfl (hb hby d9_90) (n := 0) (by decide) (by decide) (by decide) (by decide)
    have f205 := hk204
    have f206 := jC.trans CR204
    have f207 := jK.ext E204
    have f208 := jS.ext E204
    have f209 := jcs.ext E204
    have f210 := jde.ext E204
    have f211 := je.ext E204
    have f212 := jV.ext E204
    have f213 := Nat.le_trans jZ E204.1
    have f214 := jKp.ext E204
    have f215 := jX.ext E204
    refine bk (fun t k => st204 t k) ?_
    refine bk (fun t k => XS.iconst X204.here hx rfl (hb hby d9_92) k) ?_
    show F (T204.setTop (mkF m 93 #[oR o0, oR o1, .val (.int (3 : Int32)), oR c1, oR s1, oR c2, oR s2, oR c3, oR s3, oR b1, .val (.int (3 : Int32)), .unset, .unset] [(.int (1 : Int32)), (.ref b204), (.int (0 : Int32)), (.ref o0)]))
    obtain ⟨T216, h216, k216, X216, e216, E216, A216, O216, st216⟩ := newR X204 hx hZ204 hown204 w_66 w_67 e204 (g := (mkF m 93 #[oR o0, oR o1, .val (.int (3 : Int32)), oR c1, oR s1, oR c2, oR s2, oR c3, oR s3, oR b1, .val (.int (3 : Int32)), .unset, .unset] [(.int (1 : Int32)), (.ref b204), (.int (0 : Int32)), (.ref o0)])) rfl (hb hby d9_93) rfl (by decide) (cap := 1) (by decide) (by decide) (by decide) (by decide)
    obtain ⟨b216, g216⟩ : ∃ z, z = h204.size := ⟨_, rfl⟩
    rw [← g216] at A216 st216
    have Gb216 : n0 ≤ b216 := Nat.le_trans f213 (Nat.le_of_eq g216.symm)
    have sz_b216 : h0.size ≤ b216 := Nat.le_trans f214.1 (Nat.le_of_eq g216.symm)
    have ne_w_de_b216 : w_de ≠ b216 := Nat.ne_of_lt (Nat.lt_of_lt_of_le f212.lt (Nat.le_of_eq g216.symm))
    have ne_b1_b216 : b1 ≠ b216 := Nat.ne_of_lt (Nat.lt_of_lt_of_le f215.lt (Nat.le_of_eq g216.symm))
    have ne_c1_b216 : c1 ≠ b216 := Nat.ne_of_lt (Nat.lt_of_lt_of_le (own_Kids.ch f207 0 rfl).1.lt (Nat.le_of_eq g216.symm))
    have ne_c2_b216 : c2 ≠ b216 := Nat.ne_of_lt (Nat.lt_of_lt_of_le (own_Kids.ch f207 1 rfl).1.lt (Nat.le_of_eq g216.symm))
    have ne_c3_b216 : c3 ≠ b216 := Nat.ne_of_lt (Nat.lt_of_lt_of_le (own_Kids.ch f207 2 rfl).1.lt (Nat.le_of_eq g216.symm))
    have ne_o0_b216 : o0 ≠ b216 := Nat.ne_of_lt (Nat.lt_of_lt_of_le f207.1.lt (Nat.le_of_eq g216.symm))
    have ne_o1_b216 : o1 ≠ b216 := Nat.ne_of_lt (Nat.lt_of_lt_of_le f208.exa.lt (Nat.le_of_eq g216.symm))
    have ne_b204_b216 : b204 ≠ b216 := Nat.ne_of_lt (Nat.lt_of_lt_of_le A204.lt (Nat.le_of_eq g216.symm))
    have ne_d204_b216 : d204 ≠ b216 := Nat.ne_of_lt (Nat.lt_of_lt_of_le R204.lt (Nat.le_of_eq g216.symm))
    have f217 := Nat.le_trans f205 E216.1
    have f218 := f206.trans (CHr.ext E216 f206.1)
    have f219 := f207.ext E216
    have f220 := f208.ext E216
    have f221 := f209.ext E216
    have f222 := f210.ext E216
    have f223 := f211.ext E216
    have f224 := f212.ext E216
    have f225 := Nat.le_trans f213 E216.1
    have f226 := f214.ext E216
    have f227 := f215.ext E216
    have f228 := A204.ext E216
    have f229 := V204.ext E216
    have f230 := C204.ext E216
    have f231 := R204.ext E216
    have V_b216 : Arv Z h216 b216 k216 (.object "java/lang/String") (1 : Int32) [.null] .null := (Arv.new A216 (by decide)).pad (pad_rep [] .null 1)
    refine bk (fun t k => st216 t k) ?_
    refine bk (fun t k => XS.dup X216.here hx rfl (hb hby d9_96) rfl rfl k) ?_
    refine bk (fun t k => XS.iconst X216.here hx rfl (hb hby d9_97) k) ?_
    refine bk (fun t k => XS.aloadN X216.here hx rfl (hb hby d9_98) rfl rfl k) ?_
    show F (T216.setTop (mkF m 99 #[oR o0, oR o1, .val (.int (3 : Int32)), oR c1, oR s1, oR c2, oR s2, oR c3, oR s3, oR b1, .val (.int (3 : Int32)), .unset, .unset] [(.ref o1), (.int (0 : Int32)), (.ref b216), (.ref b216), (.ref b204), (.int (0 : Int32)), (.ref o0)]))
    have vv232 := V_b216
    obtain ⟨cl232, Ar232, q232, S232, M232, H232, G232⟩ := vv232
    have hin232 : ¬ ((0 : Int32) < 0 ∨ cl232.slots.size ≤ ((0 : Int32)).toNatClampNeg) := inb_of S232 ⟨by decide, by decide⟩
    obtain ⟨T232, h232, X232, e232, W232, st232⟩ := stR X216 hx hZ204 e216 Ar232 (j := (0 : Int32)) hin232 rfl (Sto.ofV Ar232 q232 O216 (Ins.self f220.exa)) (g := (mkF m 99 #[oR o0, oR o1, .val (.int (3 : Int32)), oR c1, oR s1, oR c2, oR s2, oR c3, oR s3, oR b1, .val (.int (3 : Int32)), .unset, .unset] [(.ref o1), (.int (0 : Int32)), (.ref b216), (.ref b216), (.ref b204), (.int (0 : Int32)), (.ref o0)])) rfl rfl (hb hby d9_99)
    have V_b216_232 : Arv Z h232 b216 k216 (.object "java/lang/String") (1 : Int32) [(.ref o1)] .null := Arv.set Ar232 q232 S232 M232 H232 G232 rfl W232 0 rfl (Nat.le_of_ble_eq_true rfl)
    have f233 := Nat.le_trans f217 (Keep.of_wr W232).1
    have f234 := f218.trans (CHr.wr W232 (own_safeV hZ204.alike V_b216 (by decide)) f218.1)
    have f235 := f219.keep (Keep.of_wr W232) (allS (own_nsV V_b216 (by decide) w_11) all0) (allS (own_neW V_b216 w_28) all0)
    have f236 := f220.keep (Keep.of_wr W232) (allS (own_nsV V_b216 (by decide) w_11) all0)
    have f237 := f221.wr W232
    have f238 := f222.wr W232
    have f239 := f223.wr W232
    have f240 := f224.other W232 ne_w_de_b216
    have f241 := Nat.le_trans f225 (Keep.of_wr W232).1
    have f242 := f226.wr W232 (Or.inr sz_b216)
    have f243 := f227.other W232 ne_b1_b216
    have f244 := f228.wr W232
    have f245 := f229.other W232 (Or.inl ne_b204_b216)
    have f246 := f230.other W232 (Or.inl ne_b204_b216)
    have f247 := f231.other W232 ne_d204_b216
    have N232 := Fr.snoc X232 NJ Gb216
    refine bk (fun t k => st232 t k) ?_
    show F (T232.setTop (mkF m 100 #[oR o0, oR o1, .val (.int (3 : Int32)), oR c1, oR s1, oR c2, oR s2, oR c3, oR s3, oR b1, .val (.int (3 : Int32)), .unset, .unset] [(.ref b216), (.ref b204), (.int (0 : Int32)), (.ref o0)]))
    obtain ⟨cq248, kq248, q248a, q248b, q248c⟩ := isOf hZ204 e232 (f235.1)
    obtain ⟨_, _, ⟨T248, L248, k248, n248⟩, -, X248, ⟨Lc248, hQ248, l248, y248, z248⟩, st248⟩ := X232.virtualBack hx (y := oN33) (z := oN33) hown204 (mvT hZ204 w_68) (mvT hZ204 w_69) (notFace_of_selects (args := #[]) (mvT hZ204 w_71)) (mvT hZ204 w_71) (mvT hZ204 w_70) (by decide) (backOf (W := 0) (rm10 l Z a0 hw [] o0 b204 b216 o1 k216 [(c1, s1, x1), (c2, s2, x2), (c3, s3, x3)] y cs w_e w_de k_de h232 n0 f241 (Nat.le_of_ble_eq_true rfl) f235 ⟨_, _, f244, f246, f245, f247⟩ f236 V_b216_232 f237 hcs f239 f238 f240) hZ204 w_72 w_29 (by decide) (by decide)) q248a q248c (g := (mkF m 100 #[oR o0, oR o1, .val (.int (3 : Int32)), oR c1, oR s1, oR c2, oR s2, oR c3, oR s3, oR b1, .val (.int (3 : Int32)), .unset, .unset] [(.ref b216), (.ref b204), (.int (0 : Int32)), (.ref o0)])) rfl (by rw [hml]; rfl) (Steps.refl _) (argsL := [(.int (0 : Int32)), (.ref b204), (.ref b216)]) (rest := []) (lenOf pd9__ZLjava_lang_String__Ljava_lang_String__Ljava_util_List_ rfl) rfl (by show 2 * 0 + _ ≤ _; exact Nat.le_of_eq rfl) (hb hby d9_100) (fun _ _ => ⟨rfl, e232, (by decide : 4 + 3 ≤ _), (by decide : 8 + 15 ≤ _)⟩)
    dsimp only [Pt.U, Pt.locs, Pt.cells, Pt.slots, oM10] at X248 l248 y248 z248 st248 hQ248
    subst l248 y248 z248
    obtain ⟨r248, rfl, N248q, K248, gL248⟩ := hQ248
    have N248 := Fr.app N232 N248q
    have f249 := Nat.le_trans f233 K248.1
    have f250 := f234.trans (CHr.keep K248 all0 f234.1)
    have f251 := f235.keep K248 all0 all0
    have f252 := f236.keep K248 all0
    have f253 := own_sta0 f237 K248
    have f254 := own_sta0 f238 K248
    have f255 := own_sta0 f239 K248
    have f256 := f240.keep K248 nin0
    have f257 := Nat.le_trans f241 K248.1
    have f258 := f242.trans K248 all0
    have f259 := f243.keep K248 nin0
    have f260 := f244.keep K248
    have f261 := f245.keep K248 nin0
    have f262 := f246.keep K248 nin0
    have f263 := f247.keep K248 nin0
    have f264 := V_b216_232.keep K248 nin0
    replace gL248 : own_AL Z T248.heap r248 w_de (own_pick (own_beq x3 y) c3 (own_pick (own_beq x2 y) c2 (own_pick (own_beq x1 y) c1 ([] : List Addr)))) := gL248
    rw [jL] at gL248
    have gL248' : own_AL Z T248.heap r248 w_de [j0, j1, j2] := gL248
    obtain ⟨ra248, ka248, gE248, gS248, gD248, gV248⟩ := gL248'
    refine bk (fun t k => st248.trans k) ?_
    show F (T248.setTop (mkF m 103 #[oR o0, oR o1, .val (.int (3 : Int32)), oR c1, oR s1, oR c2, oR s2, oR c3, oR s3, oR b1, .val (.int (3 : Int32)), .unset, .unset] [(.ref r248)]))
    refine bk (fun t k => XS.astore X248.here hx rfl (hb hby d9_103) rfl rfl (l' := #[oR o0, oR o1, .val (.int (3 : Int32)), oR c1, oR s1, oR c2, oR s2, oR c3, oR s3, oR b1, .val (.int (3 : Int32)), oR r248, .unset]) rfl k) ?_
    refine bk (fun t k => XS.aload X248.here hx rfl (hb hby d9_105) rfl rfl k) ?_
    obtain ⟨cq265, kq265, q265a, q265b, q265c⟩ := isOf hZ204 rfl (gE248)
    obtain ⟨_, _, ⟨T265, L265, k265, n265⟩, -, X265, ⟨Lc265, hQ265, l265, y265, z265⟩, st265⟩ := X248.interfaceBack hx (xi := oN34) (y := oN21) hown204 (mvT hZ204 w_156) (mvT hZ204 w_133) (mvT hZ204 w_134) (mvT hZ204 w_157) (mvT hZ204 w_158) (mvT hZ204 w_159) (mvT hZ204 w_160) (mvT hZ204 w_161) (by decide) (backOf (W := 0) (rm22 l Z a0 hw [] r248 (3 : Int32) T248.heap n0 f257 gS248) hZ204 w_162 w_115 (by decide) (by decide)) q265a q265b q265c (g := (mkF m 107 #[oR o0, oR o1, .val (.int (3 : Int32)), oR c1, oR s1, oR c2, oR s2, oR c3, oR s3, oR b1, .val (.int (3 : Int32)), oR r248, .unset] [(.ref r248)])) rfl (by rw [hml]; rfl) (Steps.refl _) (argsL := []) (rest := []) (lenOf pd9___I rfl) rfl (by show 2 * 0 + _ ≤ _; exact Nat.le_of_eq rfl) (hb hby d9_107) (fun _ _ => ⟨rfl, rfl, (by decide : 7 + 0 ≤ _), (by decide : 23 + 0 ≤ _)⟩)
    dsimp only [Pt.U, Pt.locs, Pt.cells, Pt.slots, oM22] at X265 l265 y265 z265 st265 hQ265
    subst l265 y265 z265
    obtain ⟨rfl, N265q, e265⟩ := hQ265
    have N265 := Fr.app N248 N265q
    refine bk (fun t k => st265.trans k) ?_
    refine bk (fun t k => XS.iload X265.here hx rfl (hb hby d9_112) rfl k) ?_
    show F (T265.setTop (mkF m 114 #[oR o0, oR o1, .val (.int (3 : Int32)), oR c1, oR s1, oR c2, oR s2, oR c3, oR s3, oR b1, .val (.int (3 : Int32)), oR r248, .unset] [(.int (3 : Int32)), (.int (3 : Int32))]))
    refine bk (fun t k => XS.icmpYes X265.here hx rfl (pc0 := 114) (pc' := 119) rfl (hb hby d9_114) rfl (teq (by decide : (3 : Int32) = (3 : Int32))).1 (by decide) (by decide) k) ?_
    refine bk (fun t k => XS.iconst X265.here hx rfl (hb hby d9_119) k) ?_
    refine bk (fun t k => XS.istore X265.here hx rfl (hb hby d9_120) rfl (l' := #[oR o0, oR o1, .val (.int (3 : Int32)), oR c1, oR s1, oR c2, oR s2, oR c3, oR s3, oR b1, .val (.int (3 : Int32)), oR r248, .val (.int (1 : Int32))]) rfl k) ?_
    refine bk (fun t k => XS.iload X265.here hx rfl (hb hby d9_122) rfl k) ?_
    show F (T265.setTop (mkF m 124 #[oR o0, oR o1, .val (.int (3 : Int32)), oR c1, oR s1, oR c2, oR s2, oR c3, oR s3, oR b1, .val (.int (3 : Int32)), oR r248, .val (.int (1 : Int32))] [(.int (3 : Int32))]))
    refine bk (fun t k => XS.ifNo X265.here hx rfl (hb hby d9_124) rfl ((if0 _ _).trans (tlt (by decide : (0 : Int32) < (3 : Int32))).2.2.2) k) ?_
    refine bk (fun t k => XS.iload X265.here hx rfl (hb hby d9_127) rfl k) ?_
    refine bk (fun t k => XS.ifNo X265.here hx rfl (hb hby d9_129) rfl ((if0 _ _).trans (feq (by decide : ¬ ((1 : Int32) = (0 : Int32)))).1) k) ?_
    refine bk (fun t k => XS.aload X265.here hx rfl (hb hby d9_132) rfl rfl k) ?_
    refine bk (fun t k => XS.iconst X265.here hx rfl (hb hby d9_134) k) ?_
    show F (T265.setTop (mkF m 135 #[oR o0, oR o1, .val (.int (3 : Int32)), oR c1, oR s1, oR c2, oR s2, oR c3, oR s3, oR b1, .val (.int (3 : Int32)), oR r248, .val (.int (1 : Int32))] [(.int (0 : Int32)), (.ref r248)]))
    obtain ⟨cq266, kq266, q266a, q266b, q266c⟩ := isOf hZ204 e265 (gE248)
    obtain ⟨_, _, ⟨T266, L266, k266, n266⟩, -, X266, ⟨Lc266, hQ266, l266, y266, z266⟩, st266⟩ := X265.interfaceBack hx (xi := oN35) (y := oN30) hown204 (mvT hZ204 w_221) (mvT hZ204 w_142) (mvT hZ204 w_143) (mvT hZ204 w_222) (mvT hZ204 w_223) (mvT hZ204 w_224) (mvT hZ204 w_225) (mvT hZ204 w_161) (by decide) (backOf (W := 0) (rm32_0 l Z a0 hw [] r248 (3 : Int32) ra248 ka248 j0 (.ref j1) (.ref j2) T248.heap n0 f257 gE248 gS248 (by decide) gD248 gV248) hZ204 w_226 w_115 (by decide) (by decide)) q266a q266b q266c (g := (mkF m 135 #[oR o0, oR o1, .val (.int (3 : Int32)), oR c1, oR s1, oR c2, oR s2, oR c3, oR s3, oR b1, .val (.int (3 : Int32)), oR r248, .val (.int (1 : Int32))] [(.int (0 : Int32)), (.ref r248)])) rfl (by rw [hml]; rfl) (Steps.refl _) (argsL := [(.int (0 : Int32))]) (rest := []) (lenOf pd9__I_Ljava_lang_Object_ rfl) rfl (by show 2 * 0 + _ ≤ _; exact Nat.le_of_eq rfl) (hb hby d9_135) (fun _ _ => ⟨rfl, e265, (by decide : 7 + 0 ≤ _), (by decide : 23 + 0 ≤ _)⟩)
    dsimp only [Pt.U, Pt.locs, Pt.cells, Pt.slots, oM32_0] at X266 l266 y266 z266 st266 hQ266
    subst l266 y266 z266
    obtain ⟨rfl, N266q, e266⟩ := hQ266
    have N266 := Fr.app N265 N266q
    refine bk (fun t k => st266.trans k) ?_
    refine bk (fun t k => XS.aload X266.here hx rfl (hb hby d9_140) rfl rfl k) ?_
    refine bk (fun t k => XS.iconst X266.here hx rfl (hb hby d9_142) k) ?_
    show F (T266.setTop (mkF m 143 #[oR o0, oR o1, .val (.int (3 : Int32)), oR c1, oR s1, oR c2, oR s2, oR c3, oR s3, oR b1, .val (.int (3 : Int32)), oR r248, .val (.int (1 : Int32))] [(.int (0 : Int32)), (.ref b1), (.ref j0)]))
    have vv267 := f259
    obtain ⟨cl267, Ar267, q267, S267, M267, H267, G267⟩ := vv267
    have hin267 : ¬ ((0 : Int32) < 0 ∨ cl267.slots.size ≤ ((0 : Int32)).toNatClampNeg) := inb_of S267 ⟨by decide, by decide⟩
    refine bk (fun t k => X266.aaload hx (j := (0 : Int32)) (v := (.ref j0)) (by rw [e266]; exact Ar267.1) (State.isArrayOf_alike hZ204.alike Ar267.2.1) rfl Ar267.2.2 hin267 (Has.at H267 hin267 rfl) (g := (mkF m 143 #[oR o0, oR o1, .val (.int (3 : Int32)), oR c1, oR s1, oR c2, oR s2, oR c3, oR s3, oR b1, .val (.int (3 : Int32)), oR r248, .val (.int (1 : Int32))] [(.int (0 : Int32)), (.ref b1), (.ref j0)])) rfl rfl (hb hby d9_143) t k) ?_
    show F (T266.setTop (mkF m 144 #[oR o0, oR o1, .val (.int (3 : Int32)), oR c1, oR s1, oR c2, oR s2, oR c3, oR s3, oR b1, .val (.int (3 : Int32)), oR r248, .val (.int (1 : Int32))] [(.ref j0), (.ref j0)]))
    refine bk (fun t k => Jvm.RoadKit.acmp (g := (mkF m 144 #[oR o0, oR o1, .val (.int (3 : Int32)), oR c1, oR s1, oR c2, oR s2, oR c3, oR s3, oR b1, .val (.int (3 : Int32)), oR r248, .val (.int (1 : Int32))] [(.ref j0), (.ref j0)])) X266 hx rfl rfl rfl (pc0 := 144) (pc' := 147) (same := true) rfl (hb hby d9_144) rfl (decide_eq_true rfl) (by decide) (by decide) k) ?_
    refine bk (fun t k => XS.iconst X266.here hx rfl (hb hby d9_147) k) ?_
    refine bk (fun t k => XS.goto X266.here hx rfl (pc0 := 148) (pc' := 152) rfl (hb hby d9_148) (by decide) (by decide) k) ?_
    show F (T266.setTop (mkF m 152 #[oR o0, oR o1, .val (.int (3 : Int32)), oR c1, oR s1, oR c2, oR s2, oR c3, oR s3, oR b1, .val (.int (3 : Int32)), oR r248, .val (.int (1 : Int32))] [(.int (1 : Int32))]))
    refine bk (fun t k => XS.istore X266.here hx rfl (hb hby d9_152) rfl (l' := #[oR o0, oR o1, .val (.int (3 : Int32)), oR c1, oR s1, oR c2, oR s2, oR c3, oR s3, oR b1, .val (.int (3 : Int32)), oR r248, .val (.int (1 : Int32))]) rfl k) ?_
    refine bk (fun t k => XS.iload X266.here hx rfl (hb hby d9_154) rfl k) ?_
    refine bk (fun t k => XS.iconst X266.here hx rfl (hb hby d9_156) k) ?_
    show F (T266.setTop (mkF m 157 #[oR o0, oR o1, .val (.int (3 : Int32)), oR c1, oR s1, oR c2, oR s2, oR c3, oR s3, oR b1, .val (.int (3 : Int32)), oR r248, .val (.int (1 : Int32))] [(.int (1 : Int32)), (.int (3 : Int32))]))
    refine bk (fun t k => XS.icmpNo X266.here hx rfl (hb hby d9_157) rfl (tlt (by decide : (1 : Int32) < (3 : Int32))).2.2.2 k) ?_
    refine bk (fun t k => XS.iload X266.here hx rfl (hb hby d9_160) rfl k) ?_
    refine bk (fun t k => XS.ifNo X266.here hx rfl (hb hby d9_162) rfl ((if0 _ _).trans (feq (by decide : ¬ ((1 : Int32) = (0 : Int32)))).1) k) ?_
    refine bk (fun t k => XS.aload X266.here hx rfl (hb hby d9_165) rfl rfl k) ?_
    refine bk (fun t k => XS.iconst X266.here hx rfl (hb hby d9_167) k) ?_
    show F (T266.setTop (mkF m 168 #[oR o0, oR o1, .val (.int (3 : Int32)), oR c1, oR s1, oR c2, oR s2, oR c3, oR s3, oR b1, .val (.int (3 : Int32)), oR r248, .val (.int (1 : Int32))] [(.int (1 : Int32)), (.ref r248)]))
    obtain ⟨cq268, kq268, q268a, q268b, q268c⟩ := isOf hZ204 e266 (gE248)
    obtain ⟨_, _, ⟨T268, L268, k268, n268⟩, -, X268, ⟨Lc268, hQ268, l268, y268, z268⟩, st268⟩ := X266.interfaceBack hx (xi := oN35) (y := oN30) hown204 (mvT hZ204 w_221) (mvT hZ204 w_142) (mvT hZ204 w_143) (mvT hZ204 w_222) (mvT hZ204 w_223) (mvT hZ204 w_224) (mvT hZ204 w_225) (mvT hZ204 w_161) (by decide) (backOf (W := 0) (rm32_1 l Z a0 hw [] r248 (3 : Int32) ra248 ka248 j1 (.ref j0) (.ref j2) T248.heap n0 f257 gE248 gS248 (by decide) gD248 gV248) hZ204 w_226 w_115 (by decide) (by decide)) q268a q268b q268c (g := (mkF m 168 #[oR o0, oR o1, .val (.int (3 : Int32)), oR c1, oR s1, oR c2, oR s2, oR c3, oR s3, oR b1, .val (.int (3 : Int32)), oR r248, .val (.int (1 : Int32))] [(.int (1 : Int32)), (.ref r248)])) rfl (by rw [hml]; rfl) (Steps.refl _) (argsL := [(.int (1 : Int32))]) (rest := []) (lenOf pd9__I_Ljava_lang_Object_ rfl) rfl (by show 2 * 0 + _ ≤ _; exact Nat.le_of_eq rfl) (hb hby d9_168) (fun _ _ => ⟨rfl, e266, (by decide : 7 + 0 ≤ _), (by decide : 23 + 0 ≤ _)⟩)
    dsimp only [Pt.U, Pt.locs, Pt.cells, Pt.slots, oM32_1] at X268 l268 y268 z268 st268 hQ268
    subst l268 y268 z268
    obtain ⟨rfl, N268q, e268⟩ := hQ268
    have N268 := Fr.app N266 N268q
    refine bk (fun t k => st268.trans k) ?_
    refine bk (fun t k => XS.aload X268.here hx rfl (hb hby d9_173) rfl rfl k) ?_
    refine bk (fun t k => XS.iconst X268.here hx rfl (hb hby d9_175) k) ?_
    show F (T268.setTop (mkF m 176 #[oR o0, oR o1, .val (.int (3 : Int32)), oR c1, oR s1, oR c2, oR s2, oR c3, oR s3, oR b1, .val (.int (3 : Int32)), oR r248, .val (.int (1 : Int32))] [(.int (1 : Int32)), (.ref b1), (.ref j1)]))
    have vv269 := f259
    obtain ⟨cl269, Ar269, q269, S269, M269, H269, G269⟩ := vv269
    have hin269 : ¬ ((1 : Int32) < 0 ∨ cl269.slots.size ≤ ((1 : Int32)).toNatClampNeg) := inb_of S269 ⟨by decide, by decide⟩
    refine bk (fun t k => X268.aaload hx (j := (1 : Int32)) (v := (.ref j1)) (by rw [e268]; exact Ar269.1) (State.isArrayOf_alike hZ204.alike Ar269.2.1) rfl Ar269.2.2 hin269 (Has.at H269 hin269 rfl) (g := (mkF m 176 #[oR o0, oR o1, .val (.int (3 : Int32)), oR c1, oR s1, oR c2, oR s2, oR c3, oR s3, oR b1, .val (.int (3 : Int32)), oR r248, .val (.int (1 : Int32))] [(.int (1 : Int32)), (.ref b1), (.ref j1)])) rfl rfl (hb hby d9_176) t k) ?_
    show F (T268.setTop (mkF m 177 #[oR o0, oR o1, .val (.int (3 : Int32)), oR c1, oR s1, oR c2, oR s2, oR c3, oR s3, oR b1, .val (.int (3 : Int32)), oR r248, .val (.int (1 : Int32))] [(.ref j1), (.ref j1)]))
    refine bk (fun t k => Jvm.RoadKit.acmp (g := (mkF m 177 #[oR o0, oR o1, .val (.int (3 : Int32)), oR c1, oR s1, oR c2, oR s2, oR c3, oR s3, oR b1, .val (.int (3 : Int32)), oR r248, .val (.int (1 : Int32))] [(.ref j1), (.ref j1)])) X268 hx rfl rfl rfl (pc0 := 177) (pc' := 180) (same := true) rfl (hb hby d9_177) rfl (decide_eq_true rfl) (by decide) (by decide) k) ?_
    refine bk (fun t k => XS.iconst X268.here hx rfl (hb hby d9_180) k) ?_
    refine bk (fun t k => XS.goto X268.here hx rfl (pc0 := 181) (pc' := 185) rfl (hb hby d9_181) (by decide) (by decide) k) ?_
    show F (T268.setTop (mkF m 185 #[oR o0, oR o1, .val (.int (3 : Int32)), oR c1, oR s1, oR c2, oR s2, oR c3, oR s3, oR b1, .val (.int (3 : Int32)), oR r248, .val (.int (1 : Int32))] [(.int (1 : Int32))]))
    refine bk (fun t k => XS.istore X268.here hx rfl (hb hby d9_185) rfl (l' := #[oR o0, oR o1, .val (.int (3 : Int32)), oR c1, oR s1, oR c2, oR s2, oR c3, oR s3, oR b1, .val (.int (3 : Int32)), oR r248, .val (.int (1 : Int32))]) rfl k) ?_
    refine bk (fun t k => XS.iload X268.here hx rfl (hb hby d9_187) rfl k) ?_
    refine bk (fun t k => XS.iconst X268.here hx rfl (hb hby d9_189) k) ?_
    show F (T268.setTop (mkF m 190 #[oR o0, oR o1, .val (.int (3 : Int32)), oR c1, oR s1, oR c2, oR s2, oR c3, oR s3, oR b1, .val (.int (3 : Int32)), oR r248, .val (.int (1 : Int32))] [(.int (2 : Int32)), (.int (3 : Int32))]))
    refine bk (fun t k => XS.icmpNo X268.here hx rfl (hb hby d9_190) rfl (tlt (by decide : (2 : Int32) < (3 : Int32))).2.2.2 k) ?_
    refine bk (fun t k => XS.iload X268.here hx rfl (hb hby d9_193) rfl k) ?_
    refine bk (fun t k => XS.ifNo X268.here hx rfl (hb hby d9_195) rfl ((if0 _ _).trans (feq (by decide : ¬ ((1 : Int32) = (0 : Int32)))).1) k) ?_
    refine bk (fun t k => XS.aload X268.here hx rfl (hb hby d9_198) rfl rfl k) ?_
    refine bk (fun t k => XS.iconst X268.here hx rfl (hb hby d9_200) k) ?_
    show F (T268.setTop (mkF m 201 #[oR o0, oR o1, .val (.int (3 : Int32)), oR c1, oR s1, oR c2, oR s2, oR c3, oR s3, oR b1, .val (.int (3 : Int32)), oR r248, .val (.int (1 : Int32))] [(.int (2 : Int32)), (.ref r248)]))
    obtain ⟨cq270, kq270, q270a, q270b, q270c⟩ := isOf hZ204 e268 (gE248)
    obtain ⟨_, _, ⟨T270, L270, k270, n270⟩, -, X270, ⟨Lc270, hQ270, l270, y270, z270⟩, st270⟩ := X268.interfaceBack hx (xi := oN35) (y := oN30) hown204 (mvT hZ204 w_221) (mvT hZ204 w_142) (mvT hZ204 w_143) (mvT hZ204 w_222) (mvT hZ204 w_223) (mvT hZ204 w_224) (mvT hZ204 w_225) (mvT hZ204 w_161) (by decide) (backOf (W := 0) (rm32_2 l Z a0 hw [] r248 (3 : Int32) ra248 ka248 j2 (.ref j0) (.ref j1) T248.heap n0 f257 gE248 gS248 (by decide) gD248 gV248) hZ204 w_226 w_115 (by decide) (by decide)) q270a q270b q270c (g := (mkF m 201 #[oR o0, oR o1, .val (.int (3 : Int32)), oR c1, oR s1, oR c2, oR s2, oR c3, oR s3, oR b1, .val (.int (3 : Int32)), oR r248, .val (.int (1 : Int32))] [(.int (2 : Int32)), (.ref r248)])) rfl (by rw [hml]; rfl) (Steps.refl _) (argsL := [(.int (2 : Int32))]) (rest := []) (lenOf pd9__I_Ljava_lang_Object_ rfl) rfl (by show 2 * 0 + _ ≤ _; exact Nat.le_of_eq rfl) (hb hby d9_201) (fun _ _ => ⟨rfl, e268, (by decide : 7 + 0 ≤ _), (by decide : 23 + 0 ≤ _)⟩)
    dsimp only [Pt.U, Pt.locs, Pt.cells, Pt.slots, oM32_2] at X270 l270 y270 z270 st270 hQ270
    subst l270 y270 z270
    obtain ⟨rfl, N270q, e270⟩ := hQ270
    have N270 := Fr.app N268 N270q
    refine bk (fun t k => st270.trans k) ?_
    refine bk (fun t k => XS.aload X270.here hx rfl (hb hby d9_206) rfl rfl k) ?_
    refine bk (fun t k => XS.iconst X270.here hx rfl (hb hby d9_208) k) ?_
    show F (T270.setTop (mkF m 209 #[oR o0, oR o1, .val (.int (3 : Int32)), oR c1, oR s1, oR c2, oR s2, oR c3, oR s3, oR b1, .val (.int (3 : Int32)), oR r248, .val (.int (1 : Int32))] [(.int (2 : Int32)), (.ref b1), (.ref j2)]))
    have vv271 := f259
    obtain ⟨cl271, Ar271, q271, S271, M271, H271, G271⟩ := vv271
    have hin271 : ¬ ((2 : Int32) < 0 ∨ cl271.slots.size ≤ ((2 : Int32)).toNatClampNeg) := inb_of S271 ⟨by decide, by decide⟩
    refine bk (fun t k => X270.aaload hx (j := (2 : Int32)) (v := (.ref j2)) (by rw [e270]; exact Ar271.1) (State.isArrayOf_alike hZ204.alike Ar271.2.1) rfl Ar271.2.2 hin271 (Has.at H271 hin271 rfl) (g := (mkF m 209 #[oR o0, oR o1, .val (.int (3 : Int32)), oR c1, oR s1, oR c2, oR s2, oR c3, oR s3, oR b1, .val (.int (3 : Int32)), oR r248, .val (.int (1 : Int32))] [(.int (2 : Int32)), (.ref b1), (.ref j2)])) rfl rfl (hb hby d9_209) t k) ?_
    show F (T270.setTop (mkF m 210 #[oR o0, oR o1, .val (.int (3 : Int32)), oR c1, oR s1, oR c2, oR s2, oR c3, oR s3, oR b1, .val (.int (3 : Int32)), oR r248, .val (.int (1 : Int32))] [(.ref j2), (.ref j2)]))
    refine bk (fun t k => Jvm.RoadKit.acmp (g := (mkF m 210 #[oR o0, oR o1, .val (.int (3 : Int32)), oR c1, oR s1, oR c2, oR s2, oR c3, oR s3, oR b1, .val (.int (3 : Int32)), oR r248, .val (.int (1 : Int32))] [(.ref j2), (.ref j2)])) X270 hx rfl rfl rfl (pc0 := 210) (pc' := 213) (same := true) rfl (hb hby d9_210) rfl (decide_eq_true rfl) (by decide) (by decide) k) ?_
    refine bk (fun t k => XS.iconst X270.here hx rfl (hb hby d9_213) k) ?_
    refine bk (fun t k => XS.goto X270.here hx rfl (pc0 := 214) (pc' := 218) rfl (hb hby d9_214) (by decide) (by decide) k) ?_
    show F (T270.setTop (mkF m 218 #[oR o0, oR o1, .val (.int (3 : Int32)), oR c1, oR s1, oR c2, oR s2, oR c3, oR s3, oR b1, .val (.int (3 : Int32)), oR r248, .val (.int (1 : Int32))] [(.int (1 : Int32))]))
    refine bk (fun t k => XS.istore X270.here hx rfl (hb hby d9_218) rfl (l' := #[oR o0, oR o1, .val (.int (3 : Int32)), oR c1, oR s1, oR c2, oR s2, oR c3, oR s3, oR b1, .val (.int (3 : Int32)), oR r248, .val (.int (1 : Int32))]) rfl k) ?_
    refine bk (fun t k => XS.iload X270.here hx rfl (hb hby d9_220) rfl k) ?_
    rw [hF]
    refine own_retZH X270 hx hS204 (by rw [e270]; exact f249) hZ204 own_EW (by rw [hh, e270]; exact f250) Bd.notSynchronized Bd.returns (hb hby d9_222) (by decide) (by decide) ?_
    rw [e270]
    exact ⟨rfl, N270, f258⟩
  refine bk (fun t k => XS.iconst X1.here hx rfl (hb hby d9_6) k) ?_
  refine bk (fun t k => XS.istore X1.here hx rfl (hb hby d9_7) rfl (l' := #[oR o0, oR o1, .val (.int (3 : Int32)), oR c1, oR s1, oR c2, oR s2, oR c3, oR s3, oR b1, .val (.int (0 : Int32)), .unset, .unset]) rfl k) ?_
  refine bk (fun t k => XS.iloadN X1.here hx rfl (hb hby d9_9) rfl k) ?_
  show F (T1.setTop (mkF m 10 #[oR o0, oR o1, .val (.int (3 : Int32)), oR c1, oR s1, oR c2, oR s2, oR c3, oR s3, oR b1, .val (.int (0 : Int32)), .unset, .unset] [(.int (3 : Int32))]))
  refine bk (fun t k => XS.ifNo X1.here hx rfl (hb hby d9_10) rfl ((if0 _ _).trans (tlt (by decide : (0 : Int32) < (3 : Int32))).2.2.2) k) ?_
  refine bk (fun t k => XS.aload X1.here hx rfl (hb hby d9_13) rfl rfl k) ?_
  refine bk (fun t k => XS.aloadN X1.here hx rfl (hb hby d9_15) rfl rfl k) ?_
  show F (T1.setTop (mkF m 16 #[oR o0, oR o1, .val (.int (3 : Int32)), oR c1, oR s1, oR c2, oR s2, oR c3, oR s3, oR b1, .val (.int (0 : Int32)), .unset, .unset] [(.ref o1), (.ref s1)]))
  have vva272 := (own_Kids.ch f4 0 rfl).2.2.1
  obtain ⟨ra272, kda272, taE272, taC272, taF272, taV272⟩ := vva272
  have vvb272 := f5
  obtain ⟨rb272, kdb272, tbE272, tbC272, tbF272, tbV272⟩ := vvb272
  obtain ⟨cq272, kq272, q272a, q272b, q272c⟩ := isOf hZ e1 (taE272)
  obtain ⟨_, _, ⟨T272, L272, k272, n272⟩, -, X272, ⟨Lc272, hQ272, l272, y272, z272⟩, st272⟩ := X1.virtualBack hx (y := oN5) (z := oN5) hown (mvT hZ w_175) (mvT hZ w_176) (notFace_of_selects (args := #[]) (mvT hZ w_178)) (mvT hZ w_178) (mvT hZ w_177) (by decide) (backOf (W := 0) (rm24_1 l Z a0 hw [] s1 o1 ra272 rb272 kda272 kdb272 x1 y cs h1 n0 f10 taE272 tbE272 taF272 tbF272 taC272 tbC272 taV272 tbV272 f6 hcs) hZ w_179 w_3 (by decide) (by decide)) q272a q272c (g := (mkF m 16 #[oR o0, oR o1, .val (.int (3 : Int32)), oR c1, oR s1, oR c2, oR s2, oR c3, oR s3, oR b1, .val (.int (0 : Int32)), .unset, .unset] [(.ref o1), (.ref s1)])) rfl (by rw [hml]; rfl) (Steps.refl _) (argsL := [(.ref o1)]) (rest := []) (lenOf pd9__Ljava_lang_Object__Z rfl) rfl (by show 2 * 0 + _ ≤ _; exact Nat.le_of_eq rfl) (hb hby d9_16) (fun _ _ => ⟨rfl, e1, (by decide : 1 + 0 ≤ _), (by decide : 3 + 0 ≤ _)⟩)
  dsimp only [Pt.U, Pt.locs, Pt.cells, Pt.slots, oM24_1] at X272 l272 y272 z272 st272 hQ272
  subst l272 y272 z272
  obtain ⟨rfl, N272q, e272⟩ := hQ272
  have N272 := Fr.app N0 N272q
  refine bk (fun t k => st272.trans k) ?_
  show F (T272.setTop (mkF m 19 #[oR o0, oR o1, .val (.int (3 : Int32)), oR c1, oR s1, oR c2, oR s2, oR c3, oR s3, oR b1, .val (.int (0 : Int32)), .unset, .unset] [(.int (own_beq x1 y))]))
  by_cases hc19_273 : (own_beq x1 y) = (0 : Int32)
  · refine bk (fun t k => XS.ifYes X272.here hx rfl (pc0 := 19) (pc' := 34) rfl (hb hby d9_19) rfl ((if0 _ _).trans (teq hc19_273).1) (by decide) (by decide) k) ?_
    refine bk (fun t k => XS.iloadN X272.here hx rfl (hb hby d9_34) rfl k) ?_
    refine bk (fun t k => XS.iconst X272.here hx rfl (hb hby d9_35) k) ?_
    show F (T272.setTop (mkF m 36 #[oR o0, oR o1, .val (.int (3 : Int32)), oR c1, oR s1, oR c2, oR s2, oR c3, oR s3, oR b1, .val (.int (0 : Int32)), .unset, .unset] [(.int (1 : Int32)), (.int (3 : Int32))]))
    refine bk (fun t k => XS.icmpNo X272.here hx rfl (hb hby d9_36) rfl (tlt (by decide : (1 : Int32) < (3 : Int32))).2.2.2 k) ?_
    refine bk (fun t k => XS.aload X272.here hx rfl (hb hby d9_39) rfl rfl k) ?_
    refine bk (fun t k => XS.aloadN X272.here hx rfl (hb hby d9_41) rfl rfl k) ?_
    show F (T272.setTop (mkF m 42 #[oR o0, oR o1, .val (.int (3 : Int32)), oR c1, oR s1, oR c2, oR s2, oR c3, oR s3, oR b1, .val (.int (0 : Int32)), .unset, .unset] [(.ref o1), (.ref s2)]))
    have vva274 := (own_Kids.ch f4 1 rfl).2.2.1
    obtain ⟨ra274, kda274, taE274, taC274, taF274, taV274⟩ := vva274
    have vvb274 := f5
    obtain ⟨rb274, kdb274, tbE274, tbC274, tbF274, tbV274⟩ := vvb274
    obtain ⟨cq274, kq274, q274a, q274b, q274c⟩ := isOf hZ e272 (taE274)
    obtain ⟨_, _, ⟨T274, L274, k274, n274⟩, -, X274, ⟨Lc274, hQ274, l274, y274, z274⟩, st274⟩ := X272.virtualBack hx (y := oN5) (z := oN5) hown (mvT hZ w_175) (mvT hZ w_176) (notFace_of_selects (args := #[]) (mvT hZ w_178)) (mvT hZ w_178) (mvT hZ w_177) (by decide) (backOf (W := 0) (rm24_1 l Z a0 hw [] s2 o1 ra274 rb274 kda274 kdb274 x2 y cs h1 n0 f10 taE274 tbE274 taF274 tbF274 taC274 tbC274 taV274 tbV274 f6 hcs) hZ w_179 w_3 (by decide) (by decide)) q274a q274c (g := (mkF m 42 #[oR o0, oR o1, .val (.int (3 : Int32)), oR c1, oR s1, oR c2, oR s2, oR c3, oR s3, oR b1, .val (.int (0 : Int32)), .unset, .unset] [(.ref o1), (.ref s2)])) rfl (by rw [hml]; rfl) (Steps.refl _) (argsL := [(.ref o1)]) (rest := []) (lenOf pd9__Ljava_lang_Object__Z rfl) rfl (by show 2 * 0 + _ ≤ _; exact Nat.le_of_eq rfl) (hb hby d9_42) (fun _ _ => ⟨rfl, e272, (by decide : 1 + 0 ≤ _), (by decide : 3 + 0 ≤ _)⟩)
    dsimp only [Pt.U, Pt.locs, Pt.cells, Pt.slots, oM24_1] at X274 l274 y274 z274 st274 hQ274
    subst l274 y274 z274
    obtain ⟨rfl, N274q, e274⟩ := hQ274
    have N274 := Fr.app N272 N274q
    refine bk (fun t k => st274.trans k) ?_
    show F (T274.setTop (mkF m 45 #[oR o0, oR o1, .val (.int (3 : Int32)), oR c1, oR s1, oR c2, oR s2, oR c3, oR s3, oR b1, .val (.int (0 : Int32)), .unset, .unset] [(.int (own_beq x2 y))]))
    by_cases hc45_275 : (own_beq x2 y) = (0 : Int32)
    · refine bk (fun t k => XS.ifYes X274.here hx rfl (pc0 := 45) (pc' := 61) rfl (hb hby d9_45) rfl ((if0 _ _).trans (teq hc45_275).1) (by decide) (by decide) k) ?_
      refine bk (fun t k => XS.iloadN X274.here hx rfl (hb hby d9_61) rfl k) ?_
      refine bk (fun t k => XS.iconst X274.here hx rfl (hb hby d9_62) k) ?_
      show F (T274.setTop (mkF m 63 #[oR o0, oR o1, .val (.int (3 : Int32)), oR c1, oR s1, oR c2, oR s2, oR c3, oR s3, oR b1, .val (.int (0 : Int32)), .unset, .unset] [(.int (2 : Int32)), (.int (3 : Int32))]))
      refine bk (fun t k => XS.icmpNo X274.here hx rfl (hb hby d9_63) rfl (tlt (by decide : (2 : Int32) < (3 : Int32))).2.2.2 k) ?_
      refine bk (fun t k => XS.aload X274.here hx rfl (hb hby d9_66) rfl rfl k) ?_
      refine bk (fun t k => XS.aloadN X274.here hx rfl (hb hby d9_68) rfl rfl k) ?_
      show F (T274.setTop (mkF m 69 #[oR o0, oR o1, .val (.int (3 : Int32)), oR c1, oR s1, oR c2, oR s2, oR c3, oR s3, oR b1, .val (.int (0 : Int32)), .unset, .unset] [(.ref o1), (.ref s3)]))
      have vva276 := (own_Kids.ch f4 2 rfl).2.2.1
      obtain ⟨ra276, kda276, taE276, taC276, taF276, taV276⟩ := vva276
      have vvb276 := f5
      obtain ⟨rb276, kdb276, tbE276, tbC276, tbF276, tbV276⟩ := vvb276
      obtain ⟨cq276, kq276, q276a, q276b, q276c⟩ := isOf hZ e274 (taE276)
      obtain ⟨_, _, ⟨T276, L276, k276, n276⟩, -, X276, ⟨Lc276, hQ276, l276, y276, z276⟩, st276⟩ := X274.virtualBack hx (y := oN5) (z := oN5) hown (mvT hZ w_175) (mvT hZ w_176) (notFace_of_selects (args := #[]) (mvT hZ w_178)) (mvT hZ w_178) (mvT hZ w_177) (by decide) (backOf (W := 0) (rm24_1 l Z a0 hw [] s3 o1 ra276 rb276 kda276 kdb276 x3 y cs h1 n0 f10 taE276 tbE276 taF276 tbF276 taC276 tbC276 taV276 tbV276 f6 hcs) hZ w_179 w_3 (by decide) (by decide)) q276a q276c (g := (mkF m 69 #[oR o0, oR o1, .val (.int (3 : Int32)), oR c1, oR s1, oR c2, oR s2, oR c3, oR s3, oR b1, .val (.int (0 : Int32)), .unset, .unset] [(.ref o1), (.ref s3)])) rfl (by rw [hml]; rfl) (Steps.refl _) (argsL := [(.ref o1)]) (rest := []) (lenOf pd9__Ljava_lang_Object__Z rfl) rfl (by show 2 * 0 + _ ≤ _; exact Nat.le_of_eq rfl) (hb hby d9_69) (fun _ _ => ⟨rfl, e274, (by decide : 1 + 0 ≤ _), (by decide : 3 + 0 ≤ _)⟩)
      dsimp only [Pt.U, Pt.locs, Pt.cells, Pt.slots, oM24_1] at X276 l276 y276 z276 st276 hQ276
      subst l276 y276 z276
      obtain ⟨rfl, N276q, e276⟩ := hQ276
      have N276 := Fr.app N274 N276q
      refine bk (fun t k => st276.trans k) ?_
      show F (T276.setTop (mkF m 72 #[oR o0, oR o1, .val (.int (3 : Int32)), oR c1, oR s1, oR c2, oR s2, oR c3, oR s3, oR b1, .val (.int (0 : Int32)), .unset, .unset] [(.int (own_beq x3 y))]))
      by_cases hc72_277 : (own_beq x3 y) = (0 : Int32)
      · refine bk (fun t k => XS.ifYes X276.here hx rfl (pc0 := 72) (pc' := 88) rfl (hb hby d9_72) rfl ((if0 _ _).trans (teq hc72_277).1) (by decide) (by decide) k) ?_
        show F (T276.setTop (mkF m 88 #[oR o0, oR o1, .val (.int (3 : Int32)), oR c1, oR s1, oR c2, oR s2, oR c3, oR s3, oR b1, .val (.int (0 : Int32)), .unset, .unset] []))
        exact J88_0 _ _ _ X276 e276 N276  f2 f4 f5 f6 f7 f8 f9 f10 f11 V_b1 (by rw [own_pickF hc19_273, own_pickF hc45_275, own_pickF hc72_277] <;> rfl)
      refine bk (fun t k => XS.ifNo X276.here hx rfl (hb hby d9_72) rfl ((if0 _ _).trans (feq hc72_277).1) k) ?_
      refine bk (fun t k => XS.aload X276.here hx rfl (hb hby d9_75) rfl rfl k) ?_
      refine bk (fun t k => XS.iload X276.here hx rfl (hb hby d9_77) rfl k) ?_
      refine bk (fun t k => XS.aload X276.here hx rfl (hb hby d9_79) rfl rfl k) ?_
      show F (T276.setTop (mkF m 81 #[oR o0, oR o1, .val (.int (3 : Int32)), oR c1, oR s1, oR c2, oR s2, oR c3, oR s3, oR b1, .val (.int (0 : Int32)), .unset, .unset] [(.ref c3), (.int (0 : Int32)), (.ref b1)]))
      have vv278 := V_b1
      obtain ⟨cl278, Ar278, q278, S278, M278, H278, G278⟩ := vv278
      have hin278 : ¬ ((0 : Int32) < 0 ∨ cl278.slots.size ≤ ((0 : Int32)).toNatClampNeg) := inb_of S278 ⟨by decide, by decide⟩
      obtain ⟨T278, h278, X278, e278, W278, st278⟩ := stR X276 hx hZ e276 Ar278 (j := (0 : Int32)) hin278 rfl (Sto.ofV Ar278 q278 O1 (Ins.self (own_Kids.ch f4 2 rfl).1)) (g := (mkF m 81 #[oR o0, oR o1, .val (.int (3 : Int32)), oR c1, oR s1, oR c2, oR s2, oR c3, oR s3, oR b1, .val (.int (0 : Int32)), .unset, .unset] [(.ref c3), (.int (0 : Int32)), (.ref b1)])) rfl rfl (hb hby d9_81)
      have V_b1_278 : Arv Z h278 b1 k1 (.object "com/example/quire/quire/readers/Element") (3 : Int32) [(.ref c3), .null, .null] .null := Arv.set Ar278 q278 S278 M278 H278 G278 rfl W278 0 rfl (Nat.le_of_ble_eq_true rfl)
      have f279 := f2.trans (CHr.wr W278 (own_safeV hZ.alike V_b1 (by decide)) f2.1)
      have f280 := Nat.le_trans f3 (Keep.of_wr W278).1
      have f281 := f4.keep (Keep.of_wr W278) (allS (own_nsV V_b1 (by decide) w_11) all0) (allS (own_neW V_b1 w_28) all0)
      have f282 := f5.keep (Keep.of_wr W278) (allS (own_nsV V_b1 (by decide) w_11) all0)
      have f283 := f6.wr W278
      have f284 := f7.wr W278
      have f285 := f8.wr W278
      have f286 := f9.other W278 ne_w_de_b1
      have f287 := Nat.le_trans f10 (Keep.of_wr W278).1
      have f288 := f11.wr W278 (Or.inr sz_b1)
      have N278 := Fr.snoc X278 N276 Gb1
      refine bk (fun t k => st278 t k) ?_
      refine bk (fun t k => XS.iload X278.here hx rfl (hb hby d9_82) rfl k) ?_
      refine bk (fun t k => XS.iconst X278.here hx rfl (hb hby d9_84) k) ?_
      show F (T278.setTop (mkF m 85 #[oR o0, oR o1, .val (.int (3 : Int32)), oR c1, oR s1, oR c2, oR s2, oR c3, oR s3, oR b1, .val (.int (0 : Int32)), .unset, .unset] [(.int (1 : Int32)), (.int (0 : Int32))]))
      refine bk (fun t k => XS.iadd X278.here hx rfl (hb hby d9_85) rfl k) ?_
      refine bk (fun t k => XS.istore X278.here hx rfl (hb hby d9_86) rfl (l' := #[oR o0, oR o1, .val (.int (3 : Int32)), oR c1, oR s1, oR c2, oR s2, oR c3, oR s3, oR b1, .val (.int (1 : Int32)), .unset, .unset]) rfl k) ?_
      show F (T278.setTop (mkF m 88 #[oR o0, oR o1, .val (.int (3 : Int32)), oR c1, oR s1, oR c2, oR s2, oR c3, oR s3, oR b1, .val (.int (1 : Int32)), .unset, .unset] []))
      exact J88_1 _ _ _ X278 e278 N278 _ f279 f281 f282 f283 f284 f285 f286 f287 f288 V_b1_278 (by rw [own_pickF hc19_273, own_pickF hc45_275, own_pickT hc72_277] <;> rfl)
    refine bk (fun t k => XS.ifNo X274.here hx rfl (hb hby d9_45) rfl ((if0 _ _).trans (feq hc45_275).1) k) ?_
    refine bk (fun t k => XS.aload X274.here hx rfl (hb hby d9_48) rfl rfl k) ?_
    refine bk (fun t k => XS.iload X274.here hx rfl (hb hby d9_50) rfl k) ?_
    refine bk (fun t k => XS.aload X274.here hx rfl (hb hby d9_52) rfl rfl k) ?_
    show F (T274.setTop (mkF m 54 #[oR o0, oR o1, .val (.int (3 : Int32)), oR c1, oR s1, oR c2, oR s2, oR c3, oR s3, oR b1, .val (.int (0 : Int32)), .unset, .unset] [(.ref c2), (.int (0 : Int32)), (.ref b1)]))
    have vv289 := V_b1
    obtain ⟨cl289, Ar289, q289, S289, M289, H289, G289⟩ := vv289
    have hin289 : ¬ ((0 : Int32) < 0 ∨ cl289.slots.size ≤ ((0 : Int32)).toNatClampNeg) := inb_of S289 ⟨by decide, by decide⟩
    obtain ⟨T289, h289, X289, e289, W289, st289⟩ := stR X274 hx hZ e274 Ar289 (j := (0 : Int32)) hin289 rfl (Sto.ofV Ar289 q289 O1 (Ins.self (own_Kids.ch f4 1 rfl).1)) (g := (mkF m 54 #[oR o0, oR o1, .val (.int (3 : Int32)), oR c1, oR s1, oR c2, oR s2, oR c3, oR s3, oR b1, .val (.int (0 : Int32)), .unset, .unset] [(.ref c2), (.int (0 : Int32)), (.ref b1)])) rfl rfl (hb hby d9_54)
    have V_b1_289 : Arv Z h289 b1 k1 (.object "com/example/quire/quire/readers/Element") (3 : Int32) [(.ref c2), .null, .null] .null := Arv.set Ar289 q289 S289 M289 H289 G289 rfl W289 0 rfl (Nat.le_of_ble_eq_true rfl)
    have f290 := f2.trans (CHr.wr W289 (own_safeV hZ.alike V_b1 (by decide)) f2.1)
    have f291 := Nat.le_trans f3 (Keep.of_wr W289).1
    have f292 := f4.keep (Keep.of_wr W289) (allS (own_nsV V_b1 (by decide) w_11) all0) (allS (own_neW V_b1 w_28) all0)
    have f293 := f5.keep (Keep.of_wr W289) (allS (own_nsV V_b1 (by decide) w_11) all0)
    have f294 := f6.wr W289
    have f295 := f7.wr W289
    have f296 := f8.wr W289
    have f297 := f9.other W289 ne_w_de_b1
    have f298 := Nat.le_trans f10 (Keep.of_wr W289).1
    have f299 := f11.wr W289 (Or.inr sz_b1)
    have N289 := Fr.snoc X289 N274 Gb1
    refine bk (fun t k => st289 t k) ?_
    refine bk (fun t k => XS.iload X289.here hx rfl (hb hby d9_55) rfl k) ?_
    refine bk (fun t k => XS.iconst X289.here hx rfl (hb hby d9_57) k) ?_
    show F (T289.setTop (mkF m 58 #[oR o0, oR o1, .val (.int (3 : Int32)), oR c1, oR s1, oR c2, oR s2, oR c3, oR s3, oR b1, .val (.int (0 : Int32)), .unset, .unset] [(.int (1 : Int32)), (.int (0 : Int32))]))
    refine bk (fun t k => XS.iadd X289.here hx rfl (hb hby d9_58) rfl k) ?_
    refine bk (fun t k => XS.istore X289.here hx rfl (hb hby d9_59) rfl (l' := #[oR o0, oR o1, .val (.int (3 : Int32)), oR c1, oR s1, oR c2, oR s2, oR c3, oR s3, oR b1, .val (.int (1 : Int32)), .unset, .unset]) rfl k) ?_
    refine bk (fun t k => XS.iloadN X289.here hx rfl (hb hby d9_61) rfl k) ?_
    refine bk (fun t k => XS.iconst X289.here hx rfl (hb hby d9_62) k) ?_
    show F (T289.setTop (mkF m 63 #[oR o0, oR o1, .val (.int (3 : Int32)), oR c1, oR s1, oR c2, oR s2, oR c3, oR s3, oR b1, .val (.int (1 : Int32)), .unset, .unset] [(.int (2 : Int32)), (.int (3 : Int32))]))
    refine bk (fun t k => XS.icmpNo X289.here hx rfl (hb hby d9_63) rfl (tlt (by decide : (2 : Int32) < (3 : Int32))).2.2.2 k) ?_
    refine bk (fun t k => XS.aload X289.here hx rfl (hb hby d9_66) rfl rfl k) ?_
    refine bk (fun t k => XS.aloadN X289.here hx rfl (hb hby d9_68) rfl rfl k) ?_
    show F (T289.setTop (mkF m 69 #[oR o0, oR o1, .val (.int (3 : Int32)), oR c1, oR s1, oR c2, oR s2, oR c3, oR s3, oR b1, .val (.int (1 : Int32)), .unset, .unset] [(.ref o1), (.ref s3)]))
    have vva300 := (own_Kids.ch f292 2 rfl).2.2.1
    obtain ⟨ra300, kda300, taE300, taC300, taF300, taV300⟩ := vva300
    have vvb300 := f293
    obtain ⟨rb300, kdb300, tbE300, tbC300, tbF300, tbV300⟩ := vvb300
    obtain ⟨cq300, kq300, q300a, q300b, q300c⟩ := isOf hZ e289 (taE300)
    obtain ⟨_, _, ⟨T300, L300, k300, n300⟩, -, X300, ⟨Lc300, hQ300, l300, y300, z300⟩, st300⟩ := X289.virtualBack hx (y := oN5) (z := oN5) hown (mvT hZ w_175) (mvT hZ w_176) (notFace_of_selects (args := #[]) (mvT hZ w_178)) (mvT hZ w_178) (mvT hZ w_177) (by decide) (backOf (W := 0) (rm24_1 l Z a0 hw [] s3 o1 ra300 rb300 kda300 kdb300 x3 y cs h289 n0 f298 taE300 tbE300 taF300 tbF300 taC300 tbC300 taV300 tbV300 f294 hcs) hZ w_179 w_3 (by decide) (by decide)) q300a q300c (g := (mkF m 69 #[oR o0, oR o1, .val (.int (3 : Int32)), oR c1, oR s1, oR c2, oR s2, oR c3, oR s3, oR b1, .val (.int (1 : Int32)), .unset, .unset] [(.ref o1), (.ref s3)])) rfl (by rw [hml]; rfl) (Steps.refl _) (argsL := [(.ref o1)]) (rest := []) (lenOf pd9__Ljava_lang_Object__Z rfl) rfl (by show 2 * 0 + _ ≤ _; exact Nat.le_of_eq rfl) (hb hby d9_69) (fun _ _ => ⟨rfl, e289, (by decide : 1 + 0 ≤ _), (by decide : 3 + 0 ≤ _)⟩)
    dsimp only [Pt.U, Pt.locs, Pt.cells, Pt.slots, oM24_1] at X300 l300 y300 z300 st300 hQ300
    subst l300 y300 z300
    obtain ⟨rfl, N300q, e300⟩ := hQ300
    have N300 := Fr.app N289 N300q
    refine bk (fun t k => st300.trans k) ?_
    show F (T300.setTop (mkF m 72 #[oR o0, oR o1, .val (.int (3 : Int32)), oR c1, oR s1, oR c2, oR s2, oR c3, oR s3, oR b1, .val (.int (1 : Int32)), .unset, .unset] [(.int (own_beq x3 y))]))
    by_cases hc72_301 : (own_beq x3 y) = (0 : Int32)
    · refine bk (fun t k => XS.ifYes X300.here hx rfl (pc0 := 72) (pc' := 88) rfl (hb hby d9_72) rfl ((if0 _ _).trans (teq hc72_301).1) (by decide) (by decide) k) ?_
      show F (T300.setTop (mkF m 88 #[oR o0, oR o1, .val (.int (3 : Int32)), oR c1, oR s1, oR c2, oR s2, oR c3, oR s3, oR b1, .val (.int (1 : Int32)), .unset, .unset] []))
      exact J88_1 _ _ _ X300 e300 N300 _ f290 f292 f293 f294 f295 f296 f297 f298 f299 V_b1_289 (by rw [own_pickF hc19_273, own_pickT hc45_275, own_pickF hc72_301] <;> rfl)
    refine bk (fun t k => XS.ifNo X300.here hx rfl (hb hby d9_72) rfl ((if0 _ _).trans (feq hc72_301).1) k) ?_
    refine bk (fun t k => XS.aload X300.here hx rfl (hb hby d9_75) rfl rfl k) ?_
    refine bk (fun t k => XS.iload X300.here hx rfl (hb hby d9_77) rfl k) ?_
    refine bk (fun t k => XS.aload X300.here hx rfl (hb hby d9_79) rfl rfl k) ?_
    show F (T300.setTop (mkF m 81 #[oR o0, oR o1, .val (.int (3 : Int32)), oR c1, oR s1, oR c2, oR s2, oR c3, oR s3, oR b1, .val (.int (1 : Int32)), .unset, .unset] [(.ref c3), (.int (1 : Int32)), (.ref b1)]))
    have vv302 := V_b1_289
    obtain ⟨cl302, Ar302, q302, S302, M302, H302, G302⟩ := vv302
    have hin302 : ¬ ((1 : Int32) < 0 ∨ cl302.slots.size ≤ ((1 : Int32)).toNatClampNeg) := inb_of S302 ⟨by decide, by decide⟩
    obtain ⟨T302, h302, X302, e302, W302, st302⟩ := stR X300 hx hZ e300 Ar302 (j := (1 : Int32)) hin302 rfl (Sto.ofV Ar302 q302 O1 (Ins.self (own_Kids.ch f292 2 rfl).1)) (g := (mkF m 81 #[oR o0, oR o1, .val (.int (3 : Int32)), oR c1, oR s1, oR c2, oR s2, oR c3, oR s3, oR b1, .val (.int (1 : Int32)), .unset, .unset] [(.ref c3), (.int (1 : Int32)), (.ref b1)])) rfl rfl (hb hby d9_81)
    have V_b1_302 : Arv Z h302 b1 k1 (.object "com/example/quire/quire/readers/Element") (3 : Int32) [(.ref c2), (.ref c3), .null] .null := Arv.set Ar302 q302 S302 M302 H302 G302 rfl W302 1 rfl (Nat.le_of_ble_eq_true rfl)
    have f303 := f290.trans (CHr.wr W302 (own_safeV hZ.alike V_b1_289 (by decide)) f290.1)
    have f304 := Nat.le_trans f291 (Keep.of_wr W302).1
    have f305 := f292.keep (Keep.of_wr W302) (allS (own_nsV V_b1_289 (by decide) w_11) all0) (allS (own_neW V_b1_289 w_28) all0)
    have f306 := f293.keep (Keep.of_wr W302) (allS (own_nsV V_b1_289 (by decide) w_11) all0)
    have f307 := f294.wr W302
    have f308 := f295.wr W302
    have f309 := f296.wr W302
    have f310 := f297.other W302 ne_w_de_b1
    have f311 := Nat.le_trans f298 (Keep.of_wr W302).1
    have f312 := f299.wr W302 (Or.inr sz_b1)
    have N302 := Fr.snoc X302 N300 Gb1
    refine bk (fun t k => st302 t k) ?_
    refine bk (fun t k => XS.iload X302.here hx rfl (hb hby d9_82) rfl k) ?_
    refine bk (fun t k => XS.iconst X302.here hx rfl (hb hby d9_84) k) ?_
    show F (T302.setTop (mkF m 85 #[oR o0, oR o1, .val (.int (3 : Int32)), oR c1, oR s1, oR c2, oR s2, oR c3, oR s3, oR b1, .val (.int (1 : Int32)), .unset, .unset] [(.int (1 : Int32)), (.int (1 : Int32))]))
    refine bk (fun t k => XS.iadd X302.here hx rfl (hb hby d9_85) rfl k) ?_
    refine bk (fun t k => XS.istore X302.here hx rfl (hb hby d9_86) rfl (l' := #[oR o0, oR o1, .val (.int (3 : Int32)), oR c1, oR s1, oR c2, oR s2, oR c3, oR s3, oR b1, .val (.int (2 : Int32)), .unset, .unset]) rfl k) ?_
    show F (T302.setTop (mkF m 88 #[oR o0, oR o1, .val (.int (3 : Int32)), oR c1, oR s1, oR c2, oR s2, oR c3, oR s3, oR b1, .val (.int (2 : Int32)), .unset, .unset] []))
    exact J88_2 _ _ _ X302 e302 N302 _ _ f303 f305 f306 f307 f308 f309 f310 f311 f312 V_b1_302 (by rw [own_pickF hc19_273, own_pickT hc45_275, own_pickT hc72_301] <;> rfl)
  refine bk (fun t k => XS.ifNo X272.here hx rfl (hb hby d9_19) rfl ((if0 _ _).trans (feq hc19_273).1) k) ?_
  refine bk (fun t k => XS.aload X272.here hx rfl (hb hby d9_22) rfl rfl k) ?_
  refine bk (fun t k => XS.iload X272.here hx rfl (hb hby d9_24) rfl k) ?_
  refine bk (fun t k => XS.aloadN X272.here hx rfl (hb hby d9_26) rfl rfl k) ?_
  show F (T272.setTop (mkF m 27 #[oR o0, oR o1, .val (.int (3 : Int32)), oR c1, oR s1, oR c2, oR s2, oR c3, oR s3, oR b1, .val (.int (0 : Int32)), .unset, .unset] [(.ref c1), (.int (0 : Int32)), (.ref b1)]))
  have vv313 := V_b1
  obtain ⟨cl313, Ar313, q313, S313, M313, H313, G313⟩ := vv313
  have hin313 : ¬ ((0 : Int32) < 0 ∨ cl313.slots.size ≤ ((0 : Int32)).toNatClampNeg) := inb_of S313 ⟨by decide, by decide⟩
  obtain ⟨T313, h313, X313, e313, W313, st313⟩ := stR X272 hx hZ e272 Ar313 (j := (0 : Int32)) hin313 rfl (Sto.ofV Ar313 q313 O1 (Ins.self (own_Kids.ch f4 0 rfl).1)) (g := (mkF m 27 #[oR o0, oR o1, .val (.int (3 : Int32)), oR c1, oR s1, oR c2, oR s2, oR c3, oR s3, oR b1, .val (.int (0 : Int32)), .unset, .unset] [(.ref c1), (.int (0 : Int32)), (.ref b1)])) rfl rfl (hb hby d9_27)
  have V_b1_313 : Arv Z h313 b1 k1 (.object "com/example/quire/quire/readers/Element") (3 : Int32) [(.ref c1), .null, .null] .null := Arv.set Ar313 q313 S313 M313 H313 G313 rfl W313 0 rfl (Nat.le_of_ble_eq_true rfl)
  have f314 := f2.trans (CHr.wr W313 (own_safeV hZ.alike V_b1 (by decide)) f2.1)
  have f315 := Nat.le_trans f3 (Keep.of_wr W313).1
  have f316 := f4.keep (Keep.of_wr W313) (allS (own_nsV V_b1 (by decide) w_11) all0) (allS (own_neW V_b1 w_28) all0)
  have f317 := f5.keep (Keep.of_wr W313) (allS (own_nsV V_b1 (by decide) w_11) all0)
  have f318 := f6.wr W313
  have f319 := f7.wr W313
  have f320 := f8.wr W313
  have f321 := f9.other W313 ne_w_de_b1
  have f322 := Nat.le_trans f10 (Keep.of_wr W313).1
  have f323 := f11.wr W313 (Or.inr sz_b1)
  have N313 := Fr.snoc X313 N272 Gb1
  refine bk (fun t k => st313 t k) ?_
  refine bk (fun t k => XS.iload X313.here hx rfl (hb hby d9_28) rfl k) ?_
  refine bk (fun t k => XS.iconst X313.here hx rfl (hb hby d9_30) k) ?_
  show F (T313.setTop (mkF m 31 #[oR o0, oR o1, .val (.int (3 : Int32)), oR c1, oR s1, oR c2, oR s2, oR c3, oR s3, oR b1, .val (.int (0 : Int32)), .unset, .unset] [(.int (1 : Int32)), (.int (0 : Int32))]))
  refine bk (fun t k => XS.iadd X313.here hx rfl (hb hby d9_31) rfl k) ?_
  refine bk (fun t k => XS.istore X313.here hx rfl (hb hby d9_32) rfl (l' := #[oR o0, oR o1, .val (.int (3 : Int32)), oR c1, oR s1, oR c2, oR s2, oR c3, oR s3, oR b1, .val (.int (1 : Int32)), .unset, .unset]) rfl k) ?_
  refine bk (fun t k => XS.iloadN X313.here hx rfl (hb hby d9_34) rfl k) ?_
  refine bk (fun t k => XS.iconst X313.here hx rfl (hb hby d9_35) k) ?_
  show F (T313.setTop (mkF m 36 #[oR o0, oR o1, .val (.int (3 : Int32)), oR c1, oR s1, oR c2, oR s2, oR c3, oR s3, oR b1, .val (.int (1 : Int32)), .unset, .unset] [(.int (1 : Int32)), (.int (3 : Int32))]))
  refine bk (fun t k => XS.icmpNo X313.here hx rfl (hb hby d9_36) rfl (tlt (by decide : (1 : Int32) < (3 : Int32))).2.2.2 k) ?_
  refine bk (fun t k => XS.aload X313.here hx rfl (hb hby d9_39) rfl rfl k) ?_
  refine bk (fun t k => XS.aloadN X313.here hx rfl (hb hby d9_41) rfl rfl k) ?_
  show F (T313.setTop (mkF m 42 #[oR o0, oR o1, .val (.int (3 : Int32)), oR c1, oR s1, oR c2, oR s2, oR c3, oR s3, oR b1, .val (.int (1 : Int32)), .unset, .unset] [(.ref o1), (.ref s2)]))
  have vva324 := (own_Kids.ch f316 1 rfl).2.2.1
  obtain ⟨ra324, kda324, taE324, taC324, taF324, taV324⟩ := vva324
  have vvb324 := f317
  obtain ⟨rb324, kdb324, tbE324, tbC324, tbF324, tbV324⟩ := vvb324
  obtain ⟨cq324, kq324, q324a, q324b, q324c⟩ := isOf hZ e313 (taE324)
  obtain ⟨_, _, ⟨T324, L324, k324, n324⟩, -, X324, ⟨Lc324, hQ324, l324, y324, z324⟩, st324⟩ := X313.virtualBack hx (y := oN5) (z := oN5) hown (mvT hZ w_175) (mvT hZ w_176) (notFace_of_selects (args := #[]) (mvT hZ w_178)) (mvT hZ w_178) (mvT hZ w_177) (by decide) (backOf (W := 0) (rm24_1 l Z a0 hw [] s2 o1 ra324 rb324 kda324 kdb324 x2 y cs h313 n0 f322 taE324 tbE324 taF324 tbF324 taC324 tbC324 taV324 tbV324 f318 hcs) hZ w_179 w_3 (by decide) (by decide)) q324a q324c (g := (mkF m 42 #[oR o0, oR o1, .val (.int (3 : Int32)), oR c1, oR s1, oR c2, oR s2, oR c3, oR s3, oR b1, .val (.int (1 : Int32)), .unset, .unset] [(.ref o1), (.ref s2)])) rfl (by rw [hml]; rfl) (Steps.refl _) (argsL := [(.ref o1)]) (rest := []) (lenOf pd9__Ljava_lang_Object__Z rfl) rfl (by show 2 * 0 + _ ≤ _; exact Nat.le_of_eq rfl) (hb hby d9_42) (fun _ _ => ⟨rfl, e313, (by decide : 1 + 0 ≤ _), (by decide : 3 + 0 ≤ _)⟩)
  dsimp only [Pt.U, Pt.locs, Pt.cells, Pt.slots, oM24_1] at X324 l324 y324 z324 st324 hQ324
  subst l324 y324 z324
  obtain ⟨rfl, N324q, e324⟩ := hQ324
  have N324 := Fr.app N313 N324q
  refine bk (fun t k => st324.trans k) ?_
  show F (T324.setTop (mkF m 45 #[oR o0, oR o1, .val (.int (3 : Int32)), oR c1, oR s1, oR c2, oR s2, oR c3, oR s3, oR b1, .val (.int (1 : Int32)), .unset, .unset] [(.int (own_beq x2 y))]))
  by_cases hc45_325 : (own_beq x2 y) = (0 : Int32)
  · refine bk (fun t k => XS.ifYes X324.here hx rfl (pc0 := 45) (pc' := 61) rfl (hb hby d9_45) rfl ((if0 _ _).trans (teq hc45_325).1) (by decide) (by decide) k) ?_
    refine bk (fun t k => XS.iloadN X324.here hx rfl (hb hby d9_61) rfl k) ?_
    refine bk (fun t k => XS.iconst X324.here hx rfl (hb hby d9_62) k) ?_
    show F (T324.setTop (mkF m 63 #[oR o0, oR o1, .val (.int (3 : Int32)), oR c1, oR s1, oR c2, oR s2, oR c3, oR s3, oR b1, .val (.int (1 : Int32)), .unset, .unset] [(.int (2 : Int32)), (.int (3 : Int32))]))
    refine bk (fun t k => XS.icmpNo X324.here hx rfl (hb hby d9_63) rfl (tlt (by decide : (2 : Int32) < (3 : Int32))).2.2.2 k) ?_
    refine bk (fun t k => XS.aload X324.here hx rfl (hb hby d9_66) rfl rfl k) ?_
    refine bk (fun t k => XS.aloadN X324.here hx rfl (hb hby d9_68) rfl rfl k) ?_
    show F (T324.setTop (mkF m 69 #[oR o0, oR o1, .val (.int (3 : Int32)), oR c1, oR s1, oR c2, oR s2, oR c3, oR s3, oR b1, .val (.int (1 : Int32)), .unset, .unset] [(.ref o1), (.ref s3)]))
    have vva326 := (own_Kids.ch f316 2 rfl).2.2.1
    obtain ⟨ra326, kda326, taE326, taC326, taF326, taV326⟩ := vva326
    have vvb326 := f317
    obtain ⟨rb326, kdb326, tbE326, tbC326, tbF326, tbV326⟩ := vvb326
    obtain ⟨cq326, kq326, q326a, q326b, q326c⟩ := isOf hZ e324 (taE326)
    obtain ⟨_, _, ⟨T326, L326, k326, n326⟩, -, X326, ⟨Lc326, hQ326, l326, y326, z326⟩, st326⟩ := X324.virtualBack hx (y := oN5) (z := oN5) hown (mvT hZ w_175) (mvT hZ w_176) (notFace_of_selects (args := #[]) (mvT hZ w_178)) (mvT hZ w_178) (mvT hZ w_177) (by decide) (backOf (W := 0) (rm24_1 l Z a0 hw [] s3 o1 ra326 rb326 kda326 kdb326 x3 y cs h313 n0 f322 taE326 tbE326 taF326 tbF326 taC326 tbC326 taV326 tbV326 f318 hcs) hZ w_179 w_3 (by decide) (by decide)) q326a q326c (g := (mkF m 69 #[oR o0, oR o1, .val (.int (3 : Int32)), oR c1, oR s1, oR c2, oR s2, oR c3, oR s3, oR b1, .val (.int (1 : Int32)), .unset, .unset] [(.ref o1), (.ref s3)])) rfl (by rw [hml]; rfl) (Steps.refl _) (argsL := [(.ref o1)]) (rest := []) (lenOf pd9__Ljava_lang_Object__Z rfl) rfl (by show 2 * 0 + _ ≤ _; exact Nat.le_of_eq rfl) (hb hby d9_69) (fun _ _ => ⟨rfl, e324, (by decide : 1 + 0 ≤ _), (by decide : 3 + 0 ≤ _)⟩)
    dsimp only [Pt.U, Pt.locs, Pt.cells, Pt.slots, oM24_1] at X326 l326 y326 z326 st326 hQ326
    subst l326 y326 z326
    obtain ⟨rfl, N326q, e326⟩ := hQ326
    have N326 := Fr.app N324 N326q
    refine bk (fun t k => st326.trans k) ?_
    show F (T326.setTop (mkF m 72 #[oR o0, oR o1, .val (.int (3 : Int32)), oR c1, oR s1, oR c2, oR s2, oR c3, oR s3, oR b1, .val (.int (1 : Int32)), .unset, .unset] [(.int (own_beq x3 y))]))
    by_cases hc72_327 : (own_beq x3 y) = (0 : Int32)
    · refine bk (fun t k => XS.ifYes X326.here hx rfl (pc0 := 72) (pc' := 88) rfl (hb hby d9_72) rfl ((if0 _ _).trans (teq hc72_327).1) (by decide) (by decide) k) ?_
      show F (T326.setTop (mkF m 88 #[oR o0, oR o1, .val (.int (3 : Int32)), oR c1, oR s1, oR c2, oR s2, oR c3, oR s3, oR b1, .val (.int (1 : Int32)), .unset, .unset] []))
      exact J88_1 _ _ _ X326 e326 N326 _ f314 f316 f317 f318 f319 f320 f321 f322 f323 V_b1_313 (by rw [own_pickT hc19_273, own_pickF hc45_325, own_pickF hc72_327] <;> rfl)
    refine bk (fun t k => XS.ifNo X326.here hx rfl (hb hby d9_72) rfl ((if0 _ _).trans (feq hc72_327).1) k) ?_
    refine bk (fun t k => XS.aload X326.here hx rfl (hb hby d9_75) rfl rfl k) ?_
    refine bk (fun t k => XS.iload X326.here hx rfl (hb hby d9_77) rfl k) ?_
    refine bk (fun t k => XS.aload X326.here hx rfl (hb hby d9_79) rfl rfl k) ?_
    show F (T326.setTop (mkF m 81 #[oR o0, oR o1, .val (.int (3 : Int32)), oR c1, oR s1, oR c2, oR s2, oR c3, oR s3, oR b1, .val (.int (1 : Int32)), .unset, .unset] [(.ref c3), (.int (1 : Int32)), (.ref b1)]))
    have vv328 := V_b1_313
    obtain ⟨cl328, Ar328, q328, S328, M328, H328, G328⟩ := vv328
    have hin328 : ¬ ((1 : Int32) < 0 ∨ cl328.slots.size ≤ ((1 : Int32)).toNatClampNeg) := inb_of S328 ⟨by decide, by decide⟩
    obtain ⟨T328, h328, X328, e328, W328, st328⟩ := stR X326 hx hZ e326 Ar328 (j := (1 : Int32)) hin328 rfl (Sto.ofV Ar328 q328 O1 (Ins.self (own_Kids.ch f316 2 rfl).1)) (g := (mkF m 81 #[oR o0, oR o1, .val (.int (3 : Int32)), oR c1, oR s1, oR c2, oR s2, oR c3, oR s3, oR b1, .val (.int (1 : Int32)), .unset, .unset] [(.ref c3), (.int (1 : Int32)), (.ref b1)])) rfl rfl (hb hby d9_81)
    have V_b1_328 : Arv Z h328 b1 k1 (.object "com/example/quire/quire/readers/Element") (3 : Int32) [(.ref c1), (.ref c3), .null] .null := Arv.set Ar328 q328 S328 M328 H328 G328 rfl W328 1 rfl (Nat.le_of_ble_eq_true rfl)
    have f329 := f314.trans (CHr.wr W328 (own_safeV hZ.alike V_b1_313 (by decide)) f314.1)
    have f330 := Nat.le_trans f315 (Keep.of_wr W328).1
    have f331 := f316.keep (Keep.of_wr W328) (allS (own_nsV V_b1_313 (by decide) w_11) all0) (allS (own_neW V_b1_313 w_28) all0)
    have f332 := f317.keep (Keep.of_wr W328) (allS (own_nsV V_b1_313 (by decide) w_11) all0)
    have f333 := f318.wr W328
    have f334 := f319.wr W328
    have f335 := f320.wr W328
    have f336 := f321.other W328 ne_w_de_b1
    have f337 := Nat.le_trans f322 (Keep.of_wr W328).1
    have f338 := f323.wr W328 (Or.inr sz_b1)
    have N328 := Fr.snoc X328 N326 Gb1
    refine bk (fun t k => st328 t k) ?_
    refine bk (fun t k => XS.iload X328.here hx rfl (hb hby d9_82) rfl k) ?_
    refine bk (fun t k => XS.iconst X328.here hx rfl (hb hby d9_84) k) ?_
    show F (T328.setTop (mkF m 85 #[oR o0, oR o1, .val (.int (3 : Int32)), oR c1, oR s1, oR c2, oR s2, oR c3, oR s3, oR b1, .val (.int (1 : Int32)), .unset, .unset] [(.int (1 : Int32)), (.int (1 : Int32))]))
    refine bk (fun t k => XS.iadd X328.here hx rfl (hb hby d9_85) rfl k) ?_
    refine bk (fun t k => XS.istore X328.here hx rfl (hb hby d9_86) rfl (l' := #[oR o0, oR o1, .val (.int (3 : Int32)), oR c1, oR s1, oR c2, oR s2, oR c3, oR s3, oR b1, .val (.int (2 : Int32)), .unset, .unset]) rfl k) ?_
    show F (T328.setTop (mkF m 88 #[oR o0, oR o1, .val (.int (3 : Int32)), oR c1, oR s1, oR c2, oR s2, oR c3, oR s3, oR b1, .val (.int (2 : Int32)), .unset, .unset] []))
    exact J88_2 _ _ _ X328 e328 N328 _ _ f329 f331 f332 f333 f334 f335 f336 f337 f338 V_b1_328 (by rw [own_pickT hc19_273, own_pickF hc45_325, own_pickT hc72_327] <;> rfl)
  refine bk (fun t k => XS.ifNo X324.here hx rfl (hb hby d9_45) rfl ((if0 _ _).trans (feq hc45_325).1) k) ?_
  refine bk (fun t k => XS.aload X324.here hx rfl (hb hby d9_48) rfl rfl k) ?_
  refine bk (fun t k => XS.iload X324.here hx rfl (hb hby d9_50) rfl k) ?_
  refine bk (fun t k => XS.aload X324.here hx rfl (hb hby d9_52) rfl rfl k) ?_
  show F (T324.setTop (mkF m 54 #[oR o0, oR o1, .val (.int (3 : Int32)), oR c1, oR s1, oR c2, oR s2, oR c3, oR s3, oR b1, .val (.int (1 : Int32)), .unset, .unset] [(.ref c2), (.int (1 : Int32)), (.ref b1)]))
  have vv339 := V_b1_313
  obtain ⟨cl339, Ar339, q339, S339, M339, H339, G339⟩ := vv339
  have hin339 : ¬ ((1 : Int32) < 0 ∨ cl339.slots.size ≤ ((1 : Int32)).toNatClampNeg) := inb_of S339 ⟨by decide, by decide⟩
  obtain ⟨T339, h339, X339, e339, W339, st339⟩ := stR X324 hx hZ e324 Ar339 (j := (1 : Int32)) hin339 rfl (Sto.ofV Ar339 q339 O1 (Ins.self (own_Kids.ch f316 1 rfl).1)) (g := (mkF m 54 #[oR o0, oR o1, .val (.int (3 : Int32)), oR c1, oR s1, oR c2, oR s2, oR c3, oR s3, oR b1, .val (.int (1 : Int32)), .unset, .unset] [(.ref c2), (.int (1 : Int32)), (.ref b1)])) rfl rfl (hb hby d9_54)
  have V_b1_339 : Arv Z h339 b1 k1 (.object "com/example/quire/quire/readers/Element") (3 : Int32) [(.ref c1), (.ref c2), .null] .null := Arv.set Ar339 q339 S339 M339 H339 G339 rfl W339 1 rfl (Nat.le_of_ble_eq_true rfl)
  have f340 := f314.trans (CHr.wr W339 (own_safeV hZ.alike V_b1_313 (by decide)) f314.1)
  have f341 := Nat.le_trans f315 (Keep.of_wr W339).1
  have f342 := f316.keep (Keep.of_wr W339) (allS (own_nsV V_b1_313 (by decide) w_11) all0) (allS (own_neW V_b1_313 w_28) all0)
  have f343 := f317.keep (Keep.of_wr W339) (allS (own_nsV V_b1_313 (by decide) w_11) all0)
  have f344 := f318.wr W339
  have f345 := f319.wr W339
  have f346 := f320.wr W339
  have f347 := f321.other W339 ne_w_de_b1
  have f348 := Nat.le_trans f322 (Keep.of_wr W339).1
  have f349 := f323.wr W339 (Or.inr sz_b1)
  have N339 := Fr.snoc X339 N324 Gb1
  refine bk (fun t k => st339 t k) ?_
  refine bk (fun t k => XS.iload X339.here hx rfl (hb hby d9_55) rfl k) ?_
  refine bk (fun t k => XS.iconst X339.here hx rfl (hb hby d9_57) k) ?_
  show F (T339.setTop (mkF m 58 #[oR o0, oR o1, .val (.int (3 : Int32)), oR c1, oR s1, oR c2, oR s2, oR c3, oR s3, oR b1, .val (.int (1 : Int32)), .unset, .unset] [(.int (1 : Int32)), (.int (1 : Int32))]))
  refine bk (fun t k => XS.iadd X339.here hx rfl (hb hby d9_58) rfl k) ?_
  refine bk (fun t k => XS.istore X339.here hx rfl (hb hby d9_59) rfl (l' := #[oR o0, oR o1, .val (.int (3 : Int32)), oR c1, oR s1, oR c2, oR s2, oR c3, oR s3, oR b1, .val (.int (2 : Int32)), .unset, .unset]) rfl k) ?_
  refine bk (fun t k => XS.iloadN X339.here hx rfl (hb hby d9_61) rfl k) ?_
  refine bk (fun t k => XS.iconst X339.here hx rfl (hb hby d9_62) k) ?_
  show F (T339.setTop (mkF m 63 #[oR o0, oR o1, .val (.int (3 : Int32)), oR c1, oR s1, oR c2, oR s2, oR c3, oR s3, oR b1, .val (.int (2 : Int32)), .unset, .unset] [(.int (2 : Int32)), (.int (3 : Int32))]))
  refine bk (fun t k => XS.icmpNo X339.here hx rfl (hb hby d9_63) rfl (tlt (by decide : (2 : Int32) < (3 : Int32))).2.2.2 k) ?_
  refine bk (fun t k => XS.aload X339.here hx rfl (hb hby d9_66) rfl rfl k) ?_
  refine bk (fun t k => XS.aloadN X339.here hx rfl (hb hby d9_68) rfl rfl k) ?_
  show F (T339.setTop (mkF m 69 #[oR o0, oR o1, .val (.int (3 : Int32)), oR c1, oR s1, oR c2, oR s2, oR c3, oR s3, oR b1, .val (.int (2 : Int32)), .unset, .unset] [(.ref o1), (.ref s3)]))
  have vva350 := (own_Kids.ch f342 2 rfl).2.2.1
  obtain ⟨ra350, kda350, taE350, taC350, taF350, taV350⟩ := vva350
  have vvb350 := f343
  obtain ⟨rb350, kdb350, tbE350, tbC350, tbF350, tbV350⟩ := vvb350
  obtain ⟨cq350, kq350, q350a, q350b, q350c⟩ := isOf hZ e339 (taE350)
  obtain ⟨_, _, ⟨T350, L350, k350, n350⟩, -, X350, ⟨Lc350, hQ350, l350, y350, z350⟩, st350⟩ := X339.virtualBack hx (y := oN5) (z := oN5) hown (mvT hZ w_175) (mvT hZ w_176) (notFace_of_selects (args := #[]) (mvT hZ w_178)) (mvT hZ w_178) (mvT hZ w_177) (by decide) (backOf (W := 0) (rm24_1 l Z a0 hw [] s3 o1 ra350 rb350 kda350 kdb350 x3 y cs h339 n0 f348 taE350 tbE350 taF350 tbF350 taC350 tbC350 taV350 tbV350 f344 hcs) hZ w_179 w_3 (by decide) (by decide)) q350a q350c (g := (mkF m 69 #[oR o0, oR o1, .val (.int (3 : Int32)), oR c1, oR s1, oR c2, oR s2, oR c3, oR s3, oR b1, .val (.int (2 : Int32)), .unset, .unset] [(.ref o1), (.ref s3)])) rfl (by rw [hml]; rfl) (Steps.refl _) (argsL := [(.ref o1)]) (rest := []) (lenOf pd9__Ljava_lang_Object__Z rfl) rfl (by show 2 * 0 + _ ≤ _; exact Nat.le_of_eq rfl) (hb hby d9_69) (fun _ _ => ⟨rfl, e339, (by decide : 1 + 0 ≤ _), (by decide : 3 + 0 ≤ _)⟩)
  dsimp only [Pt.U, Pt.locs, Pt.cells, Pt.slots, oM24_1] at X350 l350 y350 z350 st350 hQ350
  subst l350 y350 z350
  obtain ⟨rfl, N350q, e350⟩ := hQ350
  have N350 := Fr.app N339 N350q
  refine bk (fun t k => st350.trans k) ?_
  show F (T350.setTop (mkF m 72 #[oR o0, oR o1, .val (.int (3 : Int32)), oR c1, oR s1, oR c2, oR s2, oR c3, oR s3, oR b1, .val (.int (2 : Int32)), .unset, .unset] [(.int (own_beq x3 y))]))
  by_cases hc72_351 : (own_beq x3 y) = (0 : Int32)
  · refine bk (fun t k => XS.ifYes X350.here hx rfl (pc0 := 72) (pc' := 88) rfl (hb hby d9_72) rfl ((if0 _ _).trans (teq hc72_351).1) (by decide) (by decide) k) ?_
    show F (T350.setTop (mkF m 88 #[oR o0, oR o1, .val (.int (3 : Int32)), oR c1, oR s1, oR c2, oR s2, oR c3, oR s3, oR b1, .val (.int (2 : Int32)), .unset, .unset] []))
    exact J88_2 _ _ _ X350 e350 N350 _ _ f340 f342 f343 f344 f345 f346 f347 f348 f349 V_b1_339 (by rw [own_pickT hc19_273, own_pickT hc45_325, own_pickF hc72_351] <;> rfl)
  refine bk (fun t k => XS.ifNo X350.here hx rfl (hb hby d9_72) rfl ((if0 _ _).trans (feq hc72_351).1) k) ?_
  refine bk (fun t k => XS.aload X350.here hx rfl (hb hby d9_75) rfl rfl k) ?_
  refine bk (fun t k => XS.iload X350.here hx rfl (hb hby d9_77) rfl k) ?_
  refine bk (fun t k => XS.aload X350.here hx rfl (hb hby d9_79) rfl rfl k) ?_
  show F (T350.setTop (mkF m 81 #[oR o0, oR o1, .val (.int (3 : Int32)), oR c1, oR s1, oR c2, oR s2, oR c3, oR s3, oR b1, .val (.int (2 : Int32)), .unset, .unset] [(.ref c3), (.int (2 : Int32)), (.ref b1)]))
  have vv352 := V_b1_339
  obtain ⟨cl352, Ar352, q352, S352, M352, H352, G352⟩ := vv352
  have hin352 : ¬ ((2 : Int32) < 0 ∨ cl352.slots.size ≤ ((2 : Int32)).toNatClampNeg) := inb_of S352 ⟨by decide, by decide⟩
  obtain ⟨T352, h352, X352, e352, W352, st352⟩ := stR X350 hx hZ e350 Ar352 (j := (2 : Int32)) hin352 rfl (Sto.ofV Ar352 q352 O1 (Ins.self (own_Kids.ch f342 2 rfl).1)) (g := (mkF m 81 #[oR o0, oR o1, .val (.int (3 : Int32)), oR c1, oR s1, oR c2, oR s2, oR c3, oR s3, oR b1, .val (.int (2 : Int32)), .unset, .unset] [(.ref c3), (.int (2 : Int32)), (.ref b1)])) rfl rfl (hb hby d9_81)
  have V_b1_352 : Arv Z h352 b1 k1 (.object "com/example/quire/quire/readers/Element") (3 : Int32) [(.ref c1), (.ref c2), (.ref c3)] .null := Arv.set Ar352 q352 S352 M352 H352 G352 rfl W352 2 rfl (Nat.le_of_ble_eq_true rfl)
  have f353 := f340.trans (CHr.wr W352 (own_safeV hZ.alike V_b1_339 (by decide)) f340.1)
  have f354 := Nat.le_trans f341 (Keep.of_wr W352).1
  have f355 := f342.keep (Keep.of_wr W352) (allS (own_nsV V_b1_339 (by decide) w_11) all0) (allS (own_neW V_b1_339 w_28) all0)
  have f356 := f343.keep (Keep.of_wr W352) (allS (own_nsV V_b1_339 (by decide) w_11) all0)
  have f357 := f344.wr W352
  have f358 := f345.wr W352
  have f359 := f346.wr W352
  have f360 := f347.other W352 ne_w_de_b1
  have f361 := Nat.le_trans f348 (Keep.of_wr W352).1
  have f362 := f349.wr W352 (Or.inr sz_b1)
  have N352 := Fr.snoc X352 N350 Gb1
  refine bk (fun t k => st352 t k) ?_
  refine bk (fun t k => XS.iload X352.here hx rfl (hb hby d9_82) rfl k) ?_
  refine bk (fun t k => XS.iconst X352.here hx rfl (hb hby d9_84) k) ?_
  show F (T352.setTop (mkF m 85 #[oR o0, oR o1, .val (.int (3 : Int32)), oR c1, oR s1, oR c2, oR s2, oR c3, oR s3, oR b1, .val (.int (2 : Int32)), .unset, .unset] [(.int (1 : Int32)), (.int (2 : Int32))]))
  refine bk (fun t k => XS.iadd X352.here hx rfl (hb hby d9_85) rfl k) ?_
  refine bk (fun t k => XS.istore X352.here hx rfl (hb hby d9_86) rfl (l' := #[oR o0, oR o1, .val (.int (3 : Int32)), oR c1, oR s1, oR c2, oR s2, oR c3, oR s3, oR b1, .val (.int (3 : Int32)), .unset, .unset]) rfl k) ?_
  show F (T352.setTop (mkF m 88 #[oR o0, oR o1, .val (.int (3 : Int32)), oR c1, oR s1, oR c2, oR s2, oR c3, oR s3, oR b1, .val (.int (3 : Int32)), .unset, .unset] []))
  exact J88_3 _ _ _ X352 e352 N352 _ _ _ f353 f355 f356 f357 f358 f359 f360 f361 f362 V_b1_352 (by rw [own_pickT hc19_273, own_pickT hc45_325, own_pickT hc72_351] <;> rfl)
theorem pd0__C_Ljava_lang_String_ : parseMethodDescriptor "(C)Ljava/lang/String;" = some ⟨[.char], some (.object "java/lang/String")⟩ := by decide +kernel
theorem pd0___V : parseMethodDescriptor "()V" = some ⟨[], none⟩ := by decide +kernel
theorem pd0__Ljava_lang_String_I_Lcom_example_quire_quire_readers_Element_ : parseMethodDescriptor "(Ljava/lang/String;I)Lcom/example/quire/quire/readers/Element;" = some ⟨[(.object "java/lang/String"), .int], some (.object "com/example/quire/quire/readers/Element")⟩ := by decide +kernel
theorem pd0__Lcom_example_quire_quire_readers_Element_Ljava_lang_String_ILcom_example_quire_quire_readers_Element_Ljava_lang_String_Lcom_example_quire_quire_readers_Element_Ljava_lang_String_Lcom_example_quire_quire_readers_Element_Ljava_lang_String__Z : parseMethodDescriptor "(Lcom/example/quire/quire/readers/Element;Ljava/lang/String;ILcom/example/quire/quire/readers/Element;Ljava/lang/String;Lcom/example/quire/quire/readers/Element;Ljava/lang/String;Lcom/example/quire/quire/readers/Element;Ljava/lang/String;)Z" = some ⟨[(.object "com/example/quire/quire/readers/Element"), (.object "java/lang/String"), .int, (.object "com/example/quire/quire/readers/Element"), (.object "java/lang/String"), (.object "com/example/quire/quire/readers/Element"), (.object "java/lang/String"), (.object "com/example/quire/quire/readers/Element"), (.object "java/lang/String")], some .boolean⟩ := by decide +kernel
theorem pd0__Lcom_example_quire_quire_readers_Element__V : parseMethodDescriptor "(Lcom/example/quire/quire/readers/Element;)V" = some ⟨[(.object "com/example/quire/quire/readers/Element")], none⟩ := by decide +kernel
theorem pn_0 : plainName "com/example/quire/quire/readers/ElementAddPinLaw" = true := by first | (simp [plainName, overriddenIn]; done) | decide +kernel
theorem ef_0 (m : MethodId) (x0 : Int32) (x1 : Int32) : entryFrame m #[(.int x0), (.int x1)] maxLocals = mkF m 0 #[.val (.int x0), .val (.int x1), .unset, .unset, .unset, .unset, .unset, .unset, .unset, .unset] [] := by first | (simp [entryFrame, mkF, argsToLocals, Value.category, maxLocals]; done) | rfl
def Q0 (Z : State) (p0 : Int32) (p1 : Int32) (cs : Int32) (w_na : Addr) (w_e : Addr) (w_de : Addr) (k_de : ClassId) (h0 : Heap) (n0 : Nat) (v : Option Value) (h : Heap) (L : List Loc) : Prop := v = some (.int (1 : Int32)) ∧ Fr n0 L
set_option maxRecDepth 65536 in
set_option maxHeartbeats 40000000 in
theorem rm0 (l : Launch) (Z : State) (a0 : Array Value) (hw : ∀ d ∈ tables_1, d.before a0 Z = true) (ws : List Jvm.Cond) (p0 : Int32) (p1 : Int32) (cs : Int32) (w_na : Addr) (w_e : Addr) (w_de : Addr) (k_de : ClassId) (h0 : Heap) (n0 : Nat) (Z0 : n0 ≤ h0.size) (S_na : Sta Z h0 "com/example/quire/quire/readers/Element" "NO_ATTRIBUTES" "[Ljava/lang/String;" (.ref w_na)) (S_cs : Sta Z h0 "java/lang/String" "COMPACT_STRINGS" "Z" (.int cs)) (hcs : ¬ cs = (0 : Int32)) (S_e : Sta Z h0 "java/util/ImmutableCollections" "EMPTY" "Ljava/lang/Object;" (.ref w_e)) (S_de : Sta Z h0 "java/util/ArrayList" "DEFAULTCAPACITY_EMPTY_ELEMENTDATA" "[Ljava/lang/Object;" (.ref w_de)) (V_de : Arv Z h0 w_de k_de (.object "java/lang/Object") (0 : Int32) [] .null) (own_EW : EW Z a0 consts_1) :
    MetFree l x (head1 (Jvm.Cond.code x code maxLocals ret :: ws) room_1) (fun a U => a = #[(.int p0), (.int p1)] ∧ Z.Warmed39 U.vm ∧ U.heap = h0 ∧ CHv Z consts_1 U.vm h0) (fun _ _ _ _ _ => True) (fun _ U o U' => ∃ v L, o = .returned v ∧ Q0 Z p0 p1 cs w_na w_e w_de k_de h0 n0 v U'.heap L ∧ CHr Z consts_1 U.vm U.heap U'.vm U'.heap ∧ ReturnedEndW U o U' L room_1.cells room_1.slots) := by
  refine MetFree.of_bodySF (plainFor_of_name pn_0) hisR ?_
  intro p e s m args below meth c s₁ Bd hml0 hP hK
  obtain ⟨rfl, hZ, hh, hC0⟩ := hP
  have hx := Bd.exec
  have hby := Bd.bytes
  have hml : c.maxLocals = 10 := hml0
  have hown : s.vm.findClass "com/example/quire/quire/readers/ElementAddPinLaw" = some m.cls := findClass_of_methodNamed Bd.named
  have hnm := (name_of_methodNamed Bd.named Bd.method).1
  have X0 : Stand p l e room_1 (s.setVm s.vm) m #[(.int p0), (.int p1)] below meth c s₁ [] 0 0 := Stand.of_body Bd
  have e0 : s₁.heap = h0 := by rw [← hh, Bd.state]; rfl
  have N0 := Fr.nil n0
  have hS0 : s.Since s.vm 0 := (State.WarmedH.refl s).since 0
  have hZ : Z.Warmed39 (s.setVm s.vm).vm := hZ
  have hown : (s.setVm s.vm).vm.findClass "com/example/quire/quire/readers/ElementAddPinLaw" = some m.cls := hown
  have hCr : CHr Z consts_1 s.vm h0 s.vm h0 := CHr.refl hC0
  obtain ⟨F, hF⟩ : ∃ F : State → Prop, F = own_FinH Z consts_1 p e below s room_1.cells room_1.slots (fun v h L => Q0 Z p0 p1 cs w_na w_e w_de k_de h0 n0 v h L) := ⟨_, rfl⟩
  have bk : ∀ {A B : State}, (∀ t, Steps p.tables e below B t → Steps p.tables e below A t) → F B → F A := by
    intro A B h k
    rw [hF] at k ⊢
    exact own_backH h k
  suffices hgo : F (s₁.setTop (mkF m 0 #[.val (.int p0), .val (.int p1), .unset, .unset, .unset, .unset, .unset, .unset, .unset, .unset] [])) by
    have hgo' := bk (fun t k => castTop (T := s₁) (ef_0 m p0 p1) k) hgo
    rw [hF] at hgo'
    exact hgo'
  have own_wS : ∀ a ∈ Bundle.stringAtoms, a.before a0 Z = true := by
    intro a ha
    simp only [Bundle.stringAtoms, List.mem_cons, List.not_mem_nil, or_false] at ha
    rcases ha with rfl | rfl | rfl | rfl | rfl | rfl | rfl
    · exact (hw _ (List.mem_of_getElem? (i := 3) rfl))
    · exact (hw _ (List.mem_of_getElem? (i := 11) rfl))
    · exact (hw _ (List.mem_of_getElem? (i := 15) rfl))
    · exact (hw _ (List.mem_of_getElem? (i := 24) rfl))
    · exact (hw _ (List.mem_of_getElem? (i := 26) rfl))
    · exact (hw _ (List.mem_of_getElem? (i := 44) rfl))
    · exact (hw _ (List.mem_of_getElem? (i := 45) rfl))
  have w_0 := hw _ (List.mem_of_getElem? (i := 0) rfl)
  have w_1 := hw _ (List.mem_of_getElem? (i := 1) rfl)
  have w_2 := hw _ (List.mem_of_getElem? (i := 2) rfl)
  have w_3 := hw _ (List.mem_of_getElem? (i := 3) rfl)
  have w_4 := hw _ (List.mem_of_getElem? (i := 4) rfl)
  have w_27 := hw _ (List.mem_of_getElem? (i := 27) rfl)
  have w_28 := hw _ (List.mem_of_getElem? (i := 28) rfl)
  have w_29 := hw _ (List.mem_of_getElem? (i := 29) rfl)
  have w_30 := hw _ (List.mem_of_getElem? (i := 30) rfl)
  have w_31 := hw _ (List.mem_of_getElem? (i := 31) rfl)
  have w_32 := hw _ (List.mem_of_getElem? (i := 32) rfl)
  have w_37 := hw _ (List.mem_of_getElem? (i := 37) rfl)
  have w_38 := hw _ (List.mem_of_getElem? (i := 38) rfl)
  have w_39 := hw _ (List.mem_of_getElem? (i := 39) rfl)
  have w_40 := hw _ (List.mem_of_getElem? (i := 40) rfl)
  have w_47 := hw _ (List.mem_of_getElem? (i := 47) rfl)
  have w_49 := hw _ (List.mem_of_getElem? (i := 49) rfl)
  have w_51 := hw _ (List.mem_of_getElem? (i := 51) rfl)
  have w_58 := hw _ (List.mem_of_getElem? (i := 58) rfl)
  have w_59 := hw _ (List.mem_of_getElem? (i := 59) rfl)
  have w_60 := hw _ (List.mem_of_getElem? (i := 60) rfl)
  have w_61 := hw _ (List.mem_of_getElem? (i := 61) rfl)
  have w_62 := hw _ (List.mem_of_getElem? (i := 62) rfl)
  have w_63 := hw _ (List.mem_of_getElem? (i := 63) rfl)
  have w_155 := hw _ (List.mem_of_getElem? (i := 155) rfl)
  have w_165 := hw _ (List.mem_of_getElem? (i := 165) rfl)
  have w_166 := hw _ (List.mem_of_getElem? (i := 166) rfl)
  have w_167 := hw _ (List.mem_of_getElem? (i := 167) rfl)
  have w_168 := hw _ (List.mem_of_getElem? (i := 168) rfl)
  have w_169 := hw _ (List.mem_of_getElem? (i := 169) rfl)
  have w_170 := hw _ (List.mem_of_getElem? (i := 170) rfl)
  have w_172 := hw _ (List.mem_of_getElem? (i := 172) rfl)
  have w_174 := hw _ (List.mem_of_getElem? (i := 174) rfl)
  refine bk (fun t k => XS.iloadN X0.here hx rfl (hb hby at_0) rfl k) ?_
  refine bk (fun t k => X0.ldcInt hx hown (mvT hZ w_0) (g := (mkF m 1 #[.val (.int p0), .val (.int p1), .unset, .unset, .unset, .unset, .unset, .unset, .unset, .unset] [(.int p0)])) rfl (hb hby at_1) t k) ?_
  show F (s₁.setTop (mkF m 3 #[.val (.int p0), .val (.int p1), .unset, .unset, .unset, .unset, .unset, .unset, .unset, .unset] [(.int (2147483647 : Int32)), (.int p0)]))
  refine bk (fun t k => XS.iand X0.here hx rfl (hb hby at_3) rfl k) ?_
  refine bk (fun t k => XS.iconst X0.here hx rfl (hb hby at_4) k) ?_
  refine bk (fun t k => iremM X0 hx rfl (hb hby at_5) rfl (by decide) k) ?_
  show F (s₁.setTop (mkF m 6 #[.val (.int p0), .val (.int p1), .unset, .unset, .unset, .unset, .unset, .unset, .unset, .unset] [(.int ((p0 &&& (2147483647 : Int32)) % (4 : Int32)))]))
  refine bk (fun t k => XS.istoreN X0.here hx rfl (hb hby at_6) rfl (l' := #[.val (.int p0), .val (.int p1), .val (.int ((p0 &&& (2147483647 : Int32)) % (4 : Int32))), .unset, .unset, .unset, .unset, .unset, .unset, .unset]) rfl k) ?_
  refine bk (fun t k => XS.bipush X0.here hx rfl (hb hby at_7) k) ?_
  refine bk (fun t k => XS.iloadN X0.here hx rfl (hb hby at_9) rfl k) ?_
  refine bk (fun t k => XS.iconst X0.here hx rfl (hb hby at_10) k) ?_
  show F (s₁.setTop (mkF m 11 #[.val (.int p0), .val (.int p1), .val (.int ((p0 &&& (2147483647 : Int32)) % (4 : Int32))), .unset, .unset, .unset, .unset, .unset, .unset, .unset] [(.int (1 : Int32)), (.int p1), (.int (97 : Int32))]))
  refine bk (fun t k => XS.iand X0.here hx rfl (hb hby at_11) rfl k) ?_
  refine bk (fun t k => XS.iadd X0.here hx rfl (hb hby at_12) rfl k) ?_
  refine bk (fun t k => XS.i2c X0.here hx rfl (hb hby at_13) rfl k) ?_
  show F (s₁.setTop (mkF m 14 #[.val (.int p0), .val (.int p1), .val (.int ((p0 &&& (2147483647 : Int32)) % (4 : Int32))), .unset, .unset, .unset, .unset, .unset, .unset, .unset] [(.int (((97 : Int32) + (p1 &&& (1 : Int32))).toUInt32.toUInt16.toUInt32.toInt32))]))
  obtain ⟨_, _, ⟨T1, L1, k1, n1⟩, -, X1, ⟨Lc1, hQ1, l1, y1, z1⟩, st1⟩ := Jvm.LawKit.callS X0 hx (y := oN3) hown (mvT hZ w_1) (mvT hZ w_2) (mvT hZ w_3) (mvT hZ w_4) (by decide) (backOf (W := 0) (rm1 l Z a0 hw [] (((97 : Int32) + (p1 &&& (1 : Int32))).toUInt32.toUInt16.toUInt32.toInt32) cs h0 n0 Z0 S_cs hcs (own_chr _)) hZ w_4 w_3 (by decide) (by decide)) (g := (mkF m 14 #[.val (.int p0), .val (.int p1), .val (.int ((p0 &&& (2147483647 : Int32)) % (4 : Int32))), .unset, .unset, .unset, .unset, .unset, .unset, .unset] [(.int (((97 : Int32) + (p1 &&& (1 : Int32))).toUInt32.toUInt16.toUInt32.toInt32))])) rfl (by rw [hml]; rfl) (argsL := [(.int (((97 : Int32) + (p1 &&& (1 : Int32))).toUInt32.toUInt16.toUInt32.toInt32))]) (rest := []) (lenOf pd0__C_Ljava_lang_String_ rfl) rfl (by show 2 * 0 + _ ≤ _; exact Nat.le_of_eq rfl) (hb hby at_14) (fun _ _ => ⟨rfl, e0, (by decide : 0 + 2 ≤ _), (by decide : 0 + 5 ≤ _)⟩)
  dsimp only [Pt.U, Pt.locs, Pt.cells, Pt.slots, oM1] at X1 l1 y1 z1 st1 hQ1
  subst l1 y1 z1
  obtain ⟨sv1, rv1, kv1, rfl, N1q, K1, gE1, gC1, gF1, gV1, gG1⟩ := hQ1
  have N1 := Fr.app N0 N1q
  have f2 := hCr.trans (CHr.keep K1 all0 hCr.1)
  have f3 := Nat.le_trans (Nat.zero_le _) K1.1
  have f4 := Nat.le_trans Z0 K1.1
  have f5 := own_sta0 S_cs K1
  have f6 := own_sta0 S_de K1
  have f7 := own_sta0 S_e K1
  have f8 := V_de.keep K1 nin0
  have f9 := own_sta0 S_na K1
  obtain ⟨xv1, hxv1⟩ : ∃ z, z = (nar .byte ((((97 : Int32) + (p1 &&& (1 : Int32))).toUInt32.toUInt16.toUInt32.toInt32).toInt8.toInt32)) := ⟨_, rfl⟩
  rw [← hxv1] at gV1
  have gSt1 : own_St Z T1.heap sv1 (1 : Int32) [(.int xv1)] := ⟨_, _, gE1, gC1, gF1, gV1⟩
  refine bk (fun t k => st1 t k) ?_
  show F (T1.setTop (mkF m 17 #[.val (.int p0), .val (.int p1), .val (.int ((p0 &&& (2147483647 : Int32)) % (4 : Int32))), .unset, .unset, .unset, .unset, .unset, .unset, .unset] [(.ref sv1)]))
  refine bk (fun t k => XS.astoreN X1.here hx rfl (hb hby at_17) rfl rfl (l' := #[.val (.int p0), .val (.int p1), .val (.int ((p0 &&& (2147483647 : Int32)) % (4 : Int32))), oR sv1, .unset, .unset, .unset, .unset, .unset, .unset]) rfl k) ?_
  refine bk (fun t k => XS.bipush X1.here hx rfl (hb hby at_18) k) ?_
  refine bk (fun t k => XS.iloadN X1.here hx rfl (hb hby at_20) rfl k) ?_
  refine bk (fun t k => XS.iconst X1.here hx rfl (hb hby at_21) k) ?_
  show F (T1.setTop (mkF m 22 #[.val (.int p0), .val (.int p1), .val (.int ((p0 &&& (2147483647 : Int32)) % (4 : Int32))), oR sv1, .unset, .unset, .unset, .unset, .unset, .unset] [(.int (1 : Int32)), (.int p1), (.int (97 : Int32))]))
  refine bk (fun t k => XS.ishr X1.here hx rfl (hb hby at_22) rfl k) ?_
  refine bk (fun t k => XS.iconst X1.here hx rfl (hb hby at_23) k) ?_
  refine bk (fun t k => XS.iand X1.here hx rfl (hb hby at_24) rfl k) ?_
  show F (T1.setTop (mkF m 25 #[.val (.int p0), .val (.int p1), .val (.int ((p0 &&& (2147483647 : Int32)) % (4 : Int32))), oR sv1, .unset, .unset, .unset, .unset, .unset, .unset] [(.int ((p1 >>> ((1 : Int32) &&& 31)) &&& (1 : Int32))), (.int (97 : Int32))]))
  refine bk (fun t k => XS.iadd X1.here hx rfl (hb hby at_25) rfl k) ?_
  refine bk (fun t k => XS.i2c X1.here hx rfl (hb hby at_26) rfl k) ?_
  obtain ⟨_, _, ⟨T10, L10, k10, n10⟩, -, X10, ⟨Lc10, hQ10, l10, y10, z10⟩, st10⟩ := Jvm.LawKit.callS X1 hx (y := oN3) hown (mvT hZ w_1) (mvT hZ w_2) (mvT hZ w_3) (mvT hZ w_4) (by decide) (backOf (W := 0) (rm1 l Z a0 hw [] (((97 : Int32) + ((p1 >>> ((1 : Int32) &&& 31)) &&& (1 : Int32))).toUInt32.toUInt16.toUInt32.toInt32) cs T1.heap n0 f4 f5 hcs (own_chr _)) hZ w_4 w_3 (by decide) (by decide)) (g := (mkF m 27 #[.val (.int p0), .val (.int p1), .val (.int ((p0 &&& (2147483647 : Int32)) % (4 : Int32))), oR sv1, .unset, .unset, .unset, .unset, .unset, .unset] [(.int (((97 : Int32) + ((p1 >>> ((1 : Int32) &&& 31)) &&& (1 : Int32))).toUInt32.toUInt16.toUInt32.toInt32))])) rfl (by rw [hml]; rfl) (argsL := [(.int (((97 : Int32) + ((p1 >>> ((1 : Int32) &&& 31)) &&& (1 : Int32))).toUInt32.toUInt16.toUInt32.toInt32))]) (rest := []) (lenOf pd0__C_Ljava_lang_String_ rfl) rfl (by show 2 * 0 + _ ≤ _; exact Nat.le_of_eq rfl) (hb hby at_27) (fun _ _ => ⟨rfl, rfl, (by decide : 2 + 2 ≤ _), (by decide : 5 + 5 ≤ _)⟩)
  dsimp only [Pt.U, Pt.locs, Pt.cells, Pt.slots, oM1] at X10 l10 y10 z10 st10 hQ10
  subst l10 y10 z10
  obtain ⟨sv10, rv10, kv10, rfl, N10q, K10, gE10, gC10, gF10, gV10, gG10⟩ := hQ10
  have N10 := Fr.app N1 N10q
  have f11 := f2.trans (CHr.keep K10 all0 f2.1)
  have f12 := Nat.le_trans f3 K10.1
  have f13 := Nat.le_trans f4 K10.1
  have f14 := own_sta0 f5 K10
  have f15 := own_sta0 f6 K10
  have f16 := own_sta0 f7 K10
  have f17 := f8.keep K10 nin0
  have f18 := own_sta0 f9 K10
  have f19 := gSt1.keep K10 all0
  clear f2 f3 f4 f5 f6 f7 f8 f9
  obtain ⟨xv10, hxv10⟩ : ∃ z, z = (nar .byte ((((97 : Int32) + ((p1 >>> ((1 : Int32) &&& 31)) &&& (1 : Int32))).toUInt32.toUInt16.toUInt32.toInt32).toInt8.toInt32)) := ⟨_, rfl⟩
  rw [← hxv10] at gV10
  have gSt10 : own_St Z T10.heap sv10 (1 : Int32) [(.int xv10)] := ⟨_, _, gE10, gC10, gF10, gV10⟩
  refine bk (fun t k => st10 t k) ?_
  show F (T10.setTop (mkF m 30 #[.val (.int p0), .val (.int p1), .val (.int ((p0 &&& (2147483647 : Int32)) % (4 : Int32))), oR sv1, .unset, .unset, .unset, .unset, .unset, .unset] [(.ref sv10)]))
  refine bk (fun t k => XS.astore X10.here hx rfl (hb hby at_30) rfl rfl (l' := #[.val (.int p0), .val (.int p1), .val (.int ((p0 &&& (2147483647 : Int32)) % (4 : Int32))), oR sv1, oR sv10, .unset, .unset, .unset, .unset, .unset]) rfl k) ?_
  refine bk (fun t k => XS.bipush X10.here hx rfl (hb hby at_32) k) ?_
  refine bk (fun t k => XS.iloadN X10.here hx rfl (hb hby at_34) rfl k) ?_
  refine bk (fun t k => XS.iconst X10.here hx rfl (hb hby at_35) k) ?_
  show F (T10.setTop (mkF m 36 #[.val (.int p0), .val (.int p1), .val (.int ((p0 &&& (2147483647 : Int32)) % (4 : Int32))), oR sv1, oR sv10, .unset, .unset, .unset, .unset, .unset] [(.int (2 : Int32)), (.int p1), (.int (97 : Int32))]))
  refine bk (fun t k => XS.ishr X10.here hx rfl (hb hby at_36) rfl k) ?_
  refine bk (fun t k => XS.iconst X10.here hx rfl (hb hby at_37) k) ?_
  refine bk (fun t k => XS.iand X10.here hx rfl (hb hby at_38) rfl k) ?_
  show F (T10.setTop (mkF m 39 #[.val (.int p0), .val (.int p1), .val (.int ((p0 &&& (2147483647 : Int32)) % (4 : Int32))), oR sv1, oR sv10, .unset, .unset, .unset, .unset, .unset] [(.int ((p1 >>> ((2 : Int32) &&& 31)) &&& (1 : Int32))), (.int (97 : Int32))]))
  refine bk (fun t k => XS.iadd X10.here hx rfl (hb hby at_39) rfl k) ?_
  refine bk (fun t k => XS.i2c X10.here hx rfl (hb hby at_40) rfl k) ?_
  obtain ⟨_, _, ⟨T20, L20, k20, n20⟩, -, X20, ⟨Lc20, hQ20, l20, y20, z20⟩, st20⟩ := Jvm.LawKit.callS X10 hx (y := oN3) hown (mvT hZ w_1) (mvT hZ w_2) (mvT hZ w_3) (mvT hZ w_4) (by decide) (backOf (W := 0) (rm1 l Z a0 hw [] (((97 : Int32) + ((p1 >>> ((2 : Int32) &&& 31)) &&& (1 : Int32))).toUInt32.toUInt16.toUInt32.toInt32) cs T10.heap n0 f13 f14 hcs (own_chr _)) hZ w_4 w_3 (by decide) (by decide)) (g := (mkF m 41 #[.val (.int p0), .val (.int p1), .val (.int ((p0 &&& (2147483647 : Int32)) % (4 : Int32))), oR sv1, oR sv10, .unset, .unset, .unset, .unset, .unset] [(.int (((97 : Int32) + ((p1 >>> ((2 : Int32) &&& 31)) &&& (1 : Int32))).toUInt32.toUInt16.toUInt32.toInt32))])) rfl (by rw [hml]; rfl) (argsL := [(.int (((97 : Int32) + ((p1 >>> ((2 : Int32) &&& 31)) &&& (1 : Int32))).toUInt32.toUInt16.toUInt32.toInt32))]) (rest := []) (lenOf pd0__C_Ljava_lang_String_ rfl) rfl (by show 2 * 0 + _ ≤ _; exact Nat.le_of_eq rfl) (hb hby at_41) (fun _ _ => ⟨rfl, rfl, (by decide : 4 + 2 ≤ _), (by decide : 10 + 5 ≤ _)⟩)
  dsimp only [Pt.U, Pt.locs, Pt.cells, Pt.slots, oM1] at X20 l20 y20 z20 st20 hQ20
  subst l20 y20 z20
  obtain ⟨sv20, rv20, kv20, rfl, N20q, K20, gE20, gC20, gF20, gV20, gG20⟩ := hQ20
  have N20 := Fr.app N10 N20q
  have f21 := f11.trans (CHr.keep K20 all0 f11.1)
  have f22 := Nat.le_trans f12 K20.1
  have f23 := Nat.le_trans f13 K20.1
  have f24 := own_sta0 f14 K20
  have f25 := own_sta0 f15 K20
  have f26 := own_sta0 f16 K20
  have f27 := f17.keep K20 nin0
  have f28 := own_sta0 f18 K20
  have f29 := f19.keep K20 all0
  have f30 := gSt10.keep K20 all0
  clear f11 f12 f13 f14 f15 f16 f17 f18 f19
  obtain ⟨xv20, hxv20⟩ : ∃ z, z = (nar .byte ((((97 : Int32) + ((p1 >>> ((2 : Int32) &&& 31)) &&& (1 : Int32))).toUInt32.toUInt16.toUInt32.toInt32).toInt8.toInt32)) := ⟨_, rfl⟩
  rw [← hxv20] at gV20
  have gSt20 : own_St Z T20.heap sv20 (1 : Int32) [(.int xv20)] := ⟨_, _, gE20, gC20, gF20, gV20⟩
  refine bk (fun t k => st20 t k) ?_
  show F (T20.setTop (mkF m 44 #[.val (.int p0), .val (.int p1), .val (.int ((p0 &&& (2147483647 : Int32)) % (4 : Int32))), oR sv1, oR sv10, .unset, .unset, .unset, .unset, .unset] [(.ref sv20)]))
  refine bk (fun t k => XS.astore X20.here hx rfl (hb hby at_44) rfl rfl (l' := #[.val (.int p0), .val (.int p1), .val (.int ((p0 &&& (2147483647 : Int32)) % (4 : Int32))), oR sv1, oR sv10, oR sv20, .unset, .unset, .unset, .unset]) rfl k) ?_
  obtain ⟨T31, h31, X31, e31, E31, A31, D31, -, st31⟩ := newO X20 hx hZ hown w_27 w_28 w_29 rfl (g := (mkF m 46 #[.val (.int p0), .val (.int p1), .val (.int ((p0 &&& (2147483647 : Int32)) % (4 : Int32))), oR sv1, oR sv10, oR sv20, .unset, .unset, .unset, .unset] [])) rfl (hb hby at_46) (by decide) (by decide)
  obtain ⟨b31, g31⟩ : ∃ z, z = T20.heap.size := ⟨_, rfl⟩
  rw [← g31] at A31 D31 st31
  have Gb31 : n0 ≤ b31 := Nat.le_trans f23 (Nat.le_of_eq g31.symm)
  have ne_w_de_b31 : w_de ≠ b31 := Nat.ne_of_lt (Nat.lt_of_lt_of_le f27.lt (Nat.le_of_eq g31.symm))
  have f32 := f21.trans (CHr.ext E31 f21.1)
  have f33 := Nat.le_trans f22 E31.1
  have f34 := Nat.le_trans f23 E31.1
  have f35 := f24.ext E31
  have f36 := f25.ext E31
  have f37 := f26.ext E31
  have f38 := f27.ext E31
  have f39 := f28.ext E31
  have f40 := f29.ext E31
  have f41 := f30.ext E31
  have f42 := gSt20.ext E31
  clear f21 f22 f23 f24 f25 f26 f27 f28 f29 f30
  have F_attributes_b31 : Fld Z h31 b31 "com/example/quire/quire/readers/Element" "attributes" "[Ljava/lang/String;" .null := D31 (Or.inl w_37) (ty := (.array (.object "java/lang/String"))) (by decide)
  have F_namespace_b31 : Fld Z h31 b31 "com/example/quire/quire/readers/Element" "namespace" "Ljava/lang/String;" .null := D31 (Or.inl w_47) (ty := (.object "java/lang/String")) (by decide)
  have F_name_b31 : Fld Z h31 b31 "com/example/quire/quire/readers/Element" "name" "Ljava/lang/String;" .null := D31 (Or.inl w_49) (ty := (.object "java/lang/String")) (by decide)
  have F_line_b31 : Fld Z h31 b31 "com/example/quire/quire/readers/Element" "line" "I" (.int (0 : Int32)) := D31 (Or.inl w_51) (ty := .int) (by decide)
  have F_kept_b31 : Fld Z h31 b31 "com/example/quire/quire/readers/Element" "kept" "Z" (.int (0 : Int32)) := D31 (Or.inl w_58) (ty := .boolean) (by decide)
  have F_firstChild_b31 : Fld Z h31 b31 "com/example/quire/quire/readers/Element" "firstChild" "Lcom/example/quire/quire/readers/Element;" .null := D31 (Or.inl w_155) (ty := (.object "com/example/quire/quire/readers/Element")) (by decide)
  have F_lastChild_b31 : Fld Z h31 b31 "com/example/quire/quire/readers/Element" "lastChild" "Lcom/example/quire/quire/readers/Element;" .null := D31 (Or.inl w_172) (ty := (.object "com/example/quire/quire/readers/Element")) (by decide)
  have F_nextSibling_b31 : Fld Z h31 b31 "com/example/quire/quire/readers/Element" "nextSibling" "Lcom/example/quire/quire/readers/Element;" .null := D31 (Or.inl w_174) (ty := (.object "com/example/quire/quire/readers/Element")) (by decide)
  refine bk (fun t k => st31 t k) ?_
  refine bk (fun t k => XS.dup X31.here hx rfl (hb hby at_49) rfl rfl k) ?_
  show F (T31.setTop (mkF m 50 #[.val (.int p0), .val (.int p1), .val (.int ((p0 &&& (2147483647 : Int32)) % (4 : Int32))), oR sv1, oR sv10, oR sv20, .unset, .unset, .unset, .unset] [(.ref b31), (.ref b31)]))
  obtain ⟨_, _, ⟨T43, L43, k43, n43⟩, -, X43, ⟨Lc43, hQ43, l43, y43, z43⟩, st43⟩ := X31.specialBack hx (y := oN6) rfl hown (mvT hZ w_30) (mvT hZ w_31) (mvT hZ w_32) (by decide) (backOf (W := 1) (rm6 l Z a0 hw [] b31 .null .null .null .null .null w_na h31 n0 f34 A31 F_name_b31 F_namespace_b31 F_firstChild_b31 F_lastChild_b31 F_nextSibling_b31 Gb31 F_attributes_b31 F_line_b31 F_kept_b31 f39) hZ w_32 w_29 (by decide) (by decide)) (g := (mkF m 50 #[.val (.int p0), .val (.int p1), .val (.int ((p0 &&& (2147483647 : Int32)) % (4 : Int32))), oR sv1, oR sv10, oR sv20, .unset, .unset, .unset, .unset] [(.ref b31), (.ref b31)])) rfl (by rw [hml]; rfl) (Steps.refl _) (a := b31) (argsL := []) (rest := [(.ref b31)]) (lenOf pd0___V rfl) rfl (by show 2 * 0 + _ ≤ _; exact Nat.le_of_eq rfl) (hb hby at_50) (fun _ _ => ⟨rfl, e31, (by decide : 7 + 0 ≤ _), (by decide : 27 + 0 ≤ _)⟩)
  dsimp only [Pt.U, Pt.locs, Pt.cells, Pt.slots, oM6] at X43 l43 y43 z43 st43 hQ43
  subst l43 y43 z43
  obtain ⟨rfl, N43q, K43, gE43, gname43, gnamespace43, gfirstChild43, glastChild43, gnextSibling43, gln43, gkp43⟩ := hQ43
  have N43 := Fr.app N20 N43q
  have f44 := f32.trans (CHr.keep K43 (allS (Safe.exa hZ.alike A31 (by decide) (by decide)) all0) f32.1)
  have f45 := Nat.le_trans f33 K43.1
  have f46 := Nat.le_trans f34 K43.1
  have f47 := own_sta1 f35 K43 A31
  have f48 := own_sta1 f36 K43 A31
  have f49 := own_sta1 f37 K43 A31
  have f50 := f38.keep K43 (ninS ne_w_de_b31 nin0)
  have f51 := own_sta1 f39 K43 A31
  have f52 := f40.keep K43 (allS (own_nsE A31 (by decide) w_28) all0)
  have f53 := f41.keep K43 (allS (own_nsE A31 (by decide) w_28) all0)
  have f54 := f42.keep K43 (allS (own_nsE A31 (by decide) w_28) all0)
  have f55 := A31.keep K43
  clear f32 f33 f34 f35 f36 f37 f38 f39 f40 f41 f42
  refine bk (fun t k => st43.trans k) ?_
  show F (T43.setTop (mkF m 53 #[.val (.int p0), .val (.int p1), .val (.int ((p0 &&& (2147483647 : Int32)) % (4 : Int32))), oR sv1, oR sv10, oR sv20, .unset, .unset, .unset, .unset] [(.ref b31)]))
  refine bk (fun t k => XS.astore X43.here hx rfl (hb hby at_53) rfl rfl (l' := #[.val (.int p0), .val (.int p1), .val (.int ((p0 &&& (2147483647 : Int32)) % (4 : Int32))), oR sv1, oR sv10, oR sv20, oR b31, .unset, .unset, .unset]) rfl k) ?_
  refine bk (fun t k => XS.aloadN X43.here hx rfl (hb hby at_55) rfl rfl k) ?_
  refine bk (fun t k => XS.iconst X43.here hx rfl (hb hby at_56) k) ?_
  show F (T43.setTop (mkF m 57 #[.val (.int p0), .val (.int p1), .val (.int ((p0 &&& (2147483647 : Int32)) % (4 : Int32))), oR sv1, oR sv10, oR sv20, oR b31, .unset, .unset, .unset] [(.int (0 : Int32)), (.ref sv1)]))
  obtain ⟨_, _, ⟨T56, L56, k56, n56⟩, -, Y56, hs56, gr56, ⟨Lc56, hQ56, l56, y56, z56, CR56⟩, st56⟩ := callSS X43 hx (y := oN8) hown (mvT hZ w_38) (mvT hZ w_39) (mvT hZ w_29) (mvT hZ w_40) (by decide) (backOfSH (W := 0) (rm7 l Z a0 hw [] sv1 (0 : Int32) w_na xv1 T43.heap n0 f46 f51 f52 own_EW) hZ w_40 w_29 (by decide) (by decide) own_EW f44.1) (g := (mkF m 57 #[.val (.int p0), .val (.int p1), .val (.int ((p0 &&& (2147483647 : Int32)) % (4 : Int32))), oR sv1, oR sv10, oR sv20, oR b31, .unset, .unset, .unset] [(.int (0 : Int32)), (.ref sv1)])) rfl (by rw [hml]; rfl) (argsL := [(.ref sv1), (.int (0 : Int32))]) (rest := []) (lenOf pd0__Ljava_lang_String_I_Lcom_example_quire_quire_readers_Element_ rfl) rfl (by show 2 * 0 + _ ≤ _; exact Nat.le_of_eq rfl) (hb hby at_57) (fun _ _ => ⟨rfl, rfl, (by decide : 7 + 3 ≤ _), (by decide : 27 + 16 ≤ _)⟩)
  dsimp only [Pt.U, Pt.locs, Pt.cells, Pt.slots, oM7] at Y56 hs56 gr56 l56 y56 z56 st56 hQ56
  subst l56 y56 z56
  obtain ⟨X56, hS56, hZ56, hown56⟩ := rebS hS0 f45 Y56 hs56 gr56 hZ hown
  obtain ⟨r56, rfl, N56q, K56, gCh56, gNx56, gs56⟩ := hQ56
  have N56 := Fr.app N43 N56q
  have G_r56 : n0 ≤ r56 := Nat.le_trans f46 gs56
  have ne_b31_r56 : b31 ≠ r56 := Nat.ne_of_lt (Nat.lt_of_lt_of_le (Exa.lt gE43) gs56)
  have f57 := f44.trans CR56
  have f58 := Nat.le_trans f45 K56.1
  have f59 := Nat.le_trans f46 K56.1
  have f60 := own_sta0 f47 K56
  have f61 := own_sta0 f48 K56
  have f62 := own_sta0 f49 K56
  have f63 := f50.keep K56 nin0
  have f64 := own_sta0 f51 K56
  have f65 := f52.keep K56 all0
  have f66 := f53.keep K56 all0
  have f67 := f54.keep K56 all0
  have f68 := gE43.keep K56
  have f69 := gfirstChild43.keep K56 nin0
  have f70 := glastChild43.keep K56 nin0
  clear f44 f45 f46 f47 f48 f49 f50 f51 f52 f53 f54
  refine bk (fun t k => st56.trans k) ?_
  show F (T56.setTop (mkF m 60 #[.val (.int p0), .val (.int p1), .val (.int ((p0 &&& (2147483647 : Int32)) % (4 : Int32))), oR sv1, oR sv10, oR sv20, oR b31, .unset, .unset, .unset] [(.ref r56)]))
  refine bk (fun t k => XS.astore X56.here hx rfl (hb hby at_60) rfl rfl (l' := #[.val (.int p0), .val (.int p1), .val (.int ((p0 &&& (2147483647 : Int32)) % (4 : Int32))), oR sv1, oR sv10, oR sv20, oR b31, oR r56, .unset, .unset]) rfl k) ?_
  refine bk (fun t k => XS.aload X56.here hx rfl (hb hby at_62) rfl rfl k) ?_
  refine bk (fun t k => XS.iconst X56.here hx rfl (hb hby at_64) k) ?_
  show F (T56.setTop (mkF m 65 #[.val (.int p0), .val (.int p1), .val (.int ((p0 &&& (2147483647 : Int32)) % (4 : Int32))), oR sv1, oR sv10, oR sv20, oR b31, oR r56, .unset, .unset] [(.int (1 : Int32)), (.ref sv10)]))
  obtain ⟨_, _, ⟨T71, L71, k71, n71⟩, -, Y71, hs71, gr71, ⟨Lc71, hQ71, l71, y71, z71, CR71⟩, st71⟩ := callSS X56 hx (y := oN8) hown56 (mvT hZ56 w_38) (mvT hZ56 w_39) (mvT hZ56 w_29) (mvT hZ56 w_40) (by decide) (backOfSH (W := 0) (rm7 l Z a0 hw [] sv10 (1 : Int32) w_na xv10 T56.heap n0 f59 f64 f66 own_EW) hZ56 w_40 w_29 (by decide) (by decide) own_EW f57.1) (g := (mkF m 65 #[.val (.int p0), .val (.int p1), .val (.int ((p0 &&& (2147483647 : Int32)) % (4 : Int32))), oR sv1, oR sv10, oR sv20, oR b31, oR r56, .unset, .unset] [(.int (1 : Int32)), (.ref sv10)])) rfl (by rw [hml]; rfl) (argsL := [(.ref sv10), (.int (1 : Int32))]) (rest := []) (lenOf pd0__Ljava_lang_String_I_Lcom_example_quire_quire_readers_Element_ rfl) rfl (by show 2 * 0 + _ ≤ _; exact Nat.le_of_eq rfl) (hb hby at_65) (fun _ _ => ⟨rfl, rfl, (by decide : 10 + 3 ≤ _), (by decide : 43 + 16 ≤ _)⟩)
  dsimp only [Pt.U, Pt.locs, Pt.cells, Pt.slots, oM7] at Y71 hs71 gr71 l71 y71 z71 st71 hQ71
  subst l71 y71 z71
  obtain ⟨X71, hS71, hZ71, hown71⟩ := rebS hS56 (Nat.le_refl _) Y71 hs71 gr71 hZ56 hown56
  obtain ⟨r71, rfl, N71q, K71, gCh71, gNx71, gs71⟩ := hQ71
  have N71 := Fr.app N56 N71q
  have G_r71 : n0 ≤ r71 := Nat.le_trans f59 gs71
  have ne_b31_r71 : b31 ≠ r71 := Nat.ne_of_lt (Nat.lt_of_lt_of_le (Exa.lt f68) gs71)
  have ne_r56_r71 : r56 ≠ r71 := Nat.ne_of_lt (Nat.lt_of_lt_of_le (Exa.lt gCh56.1) gs71)
  have f72 := f57.trans CR71
  have f73 := Nat.le_trans (Nat.le_refl _) K71.1
  have f74 := Nat.le_trans f59 K71.1
  have f75 := own_sta0 f60 K71
  have f76 := own_sta0 f61 K71
  have f77 := own_sta0 f62 K71
  have f78 := f63.keep K71 nin0
  have f79 := own_sta0 f64 K71
  have f80 := f66.keep K71 all0
  have f81 := f67.keep K71 all0
  have f82 := f68.keep K71
  have f83 := f69.keep K71 nin0
  have f84 := f70.keep K71 nin0
  have f85 := gCh56.1.keep K71
  have f86 := gCh56.keep K71 nin0 all0
  have f87 := gNx56.keep K71 nin0
  clear f57 f59 f60 f61 f62 f63 f64 f66 f67 f68 f69 f70
  refine bk (fun t k => st71.trans k) ?_
  show F (T71.setTop (mkF m 68 #[.val (.int p0), .val (.int p1), .val (.int ((p0 &&& (2147483647 : Int32)) % (4 : Int32))), oR sv1, oR sv10, oR sv20, oR b31, oR r56, .unset, .unset] [(.ref r71)]))
  refine bk (fun t k => XS.astore X71.here hx rfl (hb hby at_68) rfl rfl (l' := #[.val (.int p0), .val (.int p1), .val (.int ((p0 &&& (2147483647 : Int32)) % (4 : Int32))), oR sv1, oR sv10, oR sv20, oR b31, oR r56, oR r71, .unset]) rfl k) ?_
  refine bk (fun t k => XS.aload X71.here hx rfl (hb hby at_70) rfl rfl k) ?_
  refine bk (fun t k => XS.iconst X71.here hx rfl (hb hby at_72) k) ?_
  show F (T71.setTop (mkF m 73 #[.val (.int p0), .val (.int p1), .val (.int ((p0 &&& (2147483647 : Int32)) % (4 : Int32))), oR sv1, oR sv10, oR sv20, oR b31, oR r56, oR r71, .unset] [(.int (2 : Int32)), (.ref sv20)]))
  obtain ⟨_, _, ⟨T88, L88, k88, n88⟩, -, Y88, hs88, gr88, ⟨Lc88, hQ88, l88, y88, z88, CR88⟩, st88⟩ := callSS X71 hx (y := oN8) hown71 (mvT hZ71 w_38) (mvT hZ71 w_39) (mvT hZ71 w_29) (mvT hZ71 w_40) (by decide) (backOfSH (W := 0) (rm7 l Z a0 hw [] sv20 (2 : Int32) w_na xv20 T71.heap n0 f74 f79 f81 own_EW) hZ71 w_40 w_29 (by decide) (by decide) own_EW f72.1) (g := (mkF m 73 #[.val (.int p0), .val (.int p1), .val (.int ((p0 &&& (2147483647 : Int32)) % (4 : Int32))), oR sv1, oR sv10, oR sv20, oR b31, oR r56, oR r71, .unset] [(.int (2 : Int32)), (.ref sv20)])) rfl (by rw [hml]; rfl) (argsL := [(.ref sv20), (.int (2 : Int32))]) (rest := []) (lenOf pd0__Ljava_lang_String_I_Lcom_example_quire_quire_readers_Element_ rfl) rfl (by show 2 * 0 + _ ≤ _; exact Nat.le_of_eq rfl) (hb hby at_73) (fun _ _ => ⟨rfl, rfl, (by decide : 13 + 3 ≤ _), (by decide : 59 + 16 ≤ _)⟩)
  dsimp only [Pt.U, Pt.locs, Pt.cells, Pt.slots, oM7] at Y88 hs88 gr88 l88 y88 z88 st88 hQ88
  subst l88 y88 z88
  obtain ⟨X88, hS88, hZ88, hown88⟩ := rebS hS71 (Nat.le_refl _) Y88 hs88 gr88 hZ71 hown71
  obtain ⟨r88, rfl, N88q, K88, gCh88, gNx88, gs88⟩ := hQ88
  have N88 := Fr.app N71 N88q
  have G_r88 : n0 ≤ r88 := Nat.le_trans f74 gs88
  have ne_b31_r88 : b31 ≠ r88 := Nat.ne_of_lt (Nat.lt_of_lt_of_le (Exa.lt f82) gs88)
  have ne_r56_r88 : r56 ≠ r88 := Nat.ne_of_lt (Nat.lt_of_lt_of_le (Exa.lt f85) gs88)
  have ne_r71_r88 : r71 ≠ r88 := Nat.ne_of_lt (Nat.lt_of_lt_of_le (Exa.lt gCh71.1) gs88)
  have f89 := f72.trans CR88
  have f90 := Nat.le_trans (Nat.le_refl _) K88.1
  have f91 := Nat.le_trans f74 K88.1
  have f92 := own_sta0 f75 K88
  have f93 := own_sta0 f76 K88
  have f94 := own_sta0 f77 K88
  have f95 := f78.keep K88 nin0
  have f96 := own_sta0 f79 K88
  have f97 := f81.keep K88 all0
  have f98 := f82.keep K88
  have f99 := f83.keep K88 nin0
  have f100 := f84.keep K88 nin0
  have f101 := f85.keep K88
  have f102 := f86.keep K88 nin0 all0
  have f103 := f87.keep K88 nin0
  have f104 := gCh71.1.keep K88
  have f105 := gCh71.keep K88 nin0 all0
  have f106 := gNx71.keep K88 nin0
  clear f72 f74 f75 f76 f77 f78 f79 f81 f82 f83 f84 f85 f86 f87
  refine bk (fun t k => st88.trans k) ?_
  show F (T88.setTop (mkF m 76 #[.val (.int p0), .val (.int p1), .val (.int ((p0 &&& (2147483647 : Int32)) % (4 : Int32))), oR sv1, oR sv10, oR sv20, oR b31, oR r56, oR r71, .unset] [(.ref r88)]))
  refine bk (fun t k => XS.astore X88.here hx rfl (hb hby at_76) rfl rfl (l' := #[.val (.int p0), .val (.int p1), .val (.int ((p0 &&& (2147483647 : Int32)) % (4 : Int32))), oR sv1, oR sv10, oR sv20, oR b31, oR r56, oR r71, oR r88]) rfl k) ?_
  show F (T88.setTop (mkF m 78 #[.val (.int p0), .val (.int p1), .val (.int ((p0 &&& (2147483647 : Int32)) % (4 : Int32))), oR sv1, oR sv10, oR sv20, oR b31, oR r56, oR r71, oR r88] []))
  rcases own_mod4 p0 with hnk | hnk | hnk | hnk
  · rw [hnk]
    refine bk (fun t k => XS.iloadN X88.here hx rfl (hb hby at_78) rfl k) ?_
    show F (T88.setTop (mkF m 79 #[.val (.int p0), .val (.int p1), .val (.int (0 : Int32)), oR sv1, oR sv10, oR sv20, oR b31, oR r56, oR r71, oR r88] [(.int (0 : Int32))]))
    refine bk (fun t k => XS.ifYes X88.here hx rfl (pc0 := 79) (pc' := 89) rfl (hb hby at_79) rfl ((if0 _ _).trans (flt (by decide : ¬ ((0 : Int32) < (0 : Int32)))).2.2.2) (by decide) (by decide) k) ?_
    refine bk (fun t k => XS.iloadN X88.here hx rfl (hb hby at_89) rfl k) ?_
    refine bk (fun t k => XS.iconst X88.here hx rfl (hb hby at_90) k) ?_
    show F (T88.setTop (mkF m 91 #[.val (.int p0), .val (.int p1), .val (.int (0 : Int32)), oR sv1, oR sv10, oR sv20, oR b31, oR r56, oR r71, oR r88] [(.int (1 : Int32)), (.int (0 : Int32))]))
    refine bk (fun t k => XS.icmpYes X88.here hx rfl (pc0 := 91) (pc' := 101) rfl (hb hby at_91) rfl (flt (by decide : ¬ ((1 : Int32) < (0 : Int32)))).2.2.2 (by decide) (by decide) k) ?_
    refine bk (fun t k => XS.iloadN X88.here hx rfl (hb hby at_101) rfl k) ?_
    refine bk (fun t k => XS.iconst X88.here hx rfl (hb hby at_102) k) ?_
    show F (T88.setTop (mkF m 103 #[.val (.int p0), .val (.int p1), .val (.int (0 : Int32)), oR sv1, oR sv10, oR sv20, oR b31, oR r56, oR r71, oR r88] [(.int (2 : Int32)), (.int (0 : Int32))]))
    refine bk (fun t k => XS.icmpYes X88.here hx rfl (pc0 := 103) (pc' := 113) rfl (hb hby at_103) rfl (flt (by decide : ¬ ((2 : Int32) < (0 : Int32)))).2.2.2 (by decide) (by decide) k) ?_
    refine bk (fun t k => XS.aload X88.here hx rfl (hb hby at_113) rfl rfl k) ?_
    obtain ⟨b107, T107, h107, k1107, d107, kk107, X107, e107, E107, hS107, hk107, hZ107, hown107, A107, C107, V107, R107, -, -, CR107, LT107, sf107, st107⟩ := ldcCH X88 hx hZ88 hown88 w_59 own_wS rfl hS88 (Nat.le_refl _) own_EW (by simp [consts_1]) f89.1 (vs := [(.int (97 : Int32))]) (z := (1 : Int32)) ⟨by decide, rfl⟩ (by decide) (by decide) (g := (mkF m 115 #[.val (.int p0), .val (.int p1), .val (.int (0 : Int32)), oR sv1, oR sv10, oR sv20, oR b31, oR r56, oR r71, oR r88] [(.ref b31)])) rfl (hb hby at_115) (n := 4) (by decide) (by decide) (by decide) (by decide)
    have f108 := f89.trans CR107
    have f109 := hk107
    have f110 := Nat.le_trans f91 E107.1
    have f111 := f92.ext E107
    have f112 := f93.ext E107
    have f113 := f94.ext E107
    have f114 := f95.ext E107
    have f115 := f98.ext E107
    have f116 := f99.ext E107
    have f117 := f100.ext E107
    have f118 := f101.ext E107
    have f119 := f102.ext E107
    have f120 := f103.ext E107
    have f121 := f104.ext E107
    have f122 := f105.ext E107
    have f123 := f106.ext E107
    have f124 := gCh88.1.ext E107
    have f125 := gCh88.ext E107
    have f126 := gNx88.ext E107
    clear f89 f91 f92 f93 f94 f95 f98 f99 f100 f101 f102 f103 f104 f105 f106
    refine bk (fun t k => st107 t k) ?_
    refine bk (fun t k => XS.iloadN X107.here hx rfl (hb hby at_117) rfl k) ?_
    refine bk (fun t k => XS.aload X107.here hx rfl (hb hby at_118) rfl rfl k) ?_
    show F (T107.setTop (mkF m 120 #[.val (.int p0), .val (.int p1), .val (.int (0 : Int32)), oR sv1, oR sv10, oR sv20, oR b31, oR r56, oR r71, oR r88] [(.ref r56), (.int (0 : Int32)), (.ref b107), (.ref b31)]))
    refine bk (fun t k => XS.aloadN X107.here hx rfl (hb hby at_120) rfl rfl k) ?_
    refine bk (fun t k => XS.aload X107.here hx rfl (hb hby at_121) rfl rfl k) ?_
    refine bk (fun t k => XS.aload X107.here hx rfl (hb hby at_123) rfl rfl k) ?_
    refine bk (fun t k => XS.aload X107.here hx rfl (hb hby at_125) rfl rfl k) ?_
    refine bk (fun t k => XS.aload X107.here hx rfl (hb hby at_127) rfl rfl k) ?_
    show F (T107.setTop (mkF m 129 #[.val (.int p0), .val (.int p1), .val (.int (0 : Int32)), oR sv1, oR sv10, oR sv20, oR b31, oR r56, oR r71, oR r88] [(.ref sv20), (.ref r88), (.ref sv10), (.ref r71), (.ref sv1), (.ref r56), (.int (0 : Int32)), (.ref b107), (.ref b31)]))
    obtain ⟨_, _, ⟨T127, L127, k127, n127⟩, -, Y127, hs127, gr127, ⟨Lc127, hQ127, l127, y127, z127, CR127⟩, st127⟩ := callSS X107 hx (y := oN36) hown107 (mvT hZ107 w_60) (mvT hZ107 w_61) (mvT hZ107 w_62) (mvT hZ107 w_63) (by decide) (backOfSH (W := 0) (rm9_0 l Z a0 hw [] b31 b107 r56 sv1 r71 sv10 r88 sv20  (97 : Int32) cs w_e w_de k_de h107 n0 f110 ⟨f115, _, f116, rfl⟩ ⟨_, _, A107, C107, V107, R107⟩ f111 hcs f113 f112 f114 own_EW) hZ107 w_63 w_62 (by decide) (by decide) own_EW f108.1) (g := (mkF m 129 #[.val (.int p0), .val (.int p1), .val (.int (0 : Int32)), oR sv1, oR sv10, oR sv20, oR b31, oR r56, oR r71, oR r88] [(.ref sv20), (.ref r88), (.ref sv10), (.ref r71), (.ref sv1), (.ref r56), (.int (0 : Int32)), (.ref b107), (.ref b31)])) rfl (by rw [hml]; rfl) (argsL := [(.ref b31), (.ref b107), (.int (0 : Int32)), (.ref r56), (.ref sv1), (.ref r71), (.ref sv10), (.ref r88), (.ref sv20)]) (rest := []) (lenOf pd0__Lcom_example_quire_quire_readers_Element_Ljava_lang_String_ILcom_example_quire_quire_readers_Element_Ljava_lang_String_Lcom_example_quire_quire_readers_Element_Ljava_lang_String_Lcom_example_quire_quire_readers_Element_Ljava_lang_String__Z rfl) rfl (by show 2 * 0 + _ ≤ _; exact Nat.le_of_eq rfl) (hb hby at_129) (fun _ _ => ⟨rfl, e107, (by decide : 18 + 7 ≤ _), (by decide : 83 + 23 ≤ _)⟩)
    dsimp only [Pt.U, Pt.locs, Pt.cells, Pt.slots, oM9_0] at Y127 hs127 gr127 l127 y127 z127 st127 hQ127
    subst l127 y127 z127
    obtain ⟨X127, hS127, hZ127, hown127⟩ := rebS hS107 (by rw [e107]; exact f109) Y127 hs127 gr127 hZ107 hown107
    obtain ⟨rfl, N127q, K127⟩ := hQ127
    have N127 := Fr.app N88 N127q
    have f128 := f108.trans CR127
    have f129 := Nat.le_trans f109 K127.1
    have f130 := Nat.le_trans f110 K127.1
    have f131 := own_sta0 f111 K127
    have f132 := own_sta0 f112 K127
    have f133 := own_sta0 f113 K127
    have f134 := f114.keep K127 nin0
    have f135 := f115.keep K127
    have f136 := f116.keep K127 nin0
    have f137 := f117.keep K127 nin0
    have f138 := f118.keep K127
    have f139 := f119.keep K127 nin0 all0
    have f140 := f120.keep K127 nin0
    have f141 := f121.keep K127
    have f142 := f122.keep K127 nin0 all0
    have f143 := f123.keep K127 nin0
    have f144 := f124.keep K127
    have f145 := f125.keep K127 nin0 all0
    have f146 := f126.keep K127 nin0
    have f147 := A107.keep K127
    have f148 := V107.keep K127 nin0
    have f149 := C107.keep K127 nin0
    have f150 := R107.keep K127 nin0
    clear f108 f109 f110 f111 f112 f113 f114 f115 f116 f117 f118 f119 f120 f121 f122 f123 f124 f125 f126
    refine bk (fun t k => st127.trans k) ?_
    show F (T127.setTop (mkF m 132 #[.val (.int p0), .val (.int p1), .val (.int (0 : Int32)), oR sv1, oR sv10, oR sv20, oR b31, oR r56, oR r71, oR r88] [(.int (1 : Int32))]))
    refine bk (fun t k => XS.ifNo X127.here hx rfl (hb hby at_132) rfl ((if0 _ _).trans (feq (by decide : ¬ ((1 : Int32) = (0 : Int32)))).1) k) ?_
    refine bk (fun t k => XS.aload X127.here hx rfl (hb hby at_135) rfl rfl k) ?_
    obtain ⟨b151, T151, h151, k1151, d151, kk151, X151, e151, E151, hS151, hk151, hZ151, hown151, A151, C151, V151, R151, -, -, CR151, LT151, sf151, st151⟩ := ldcCH X127 hx hZ127 hown127 w_165 own_wS rfl hS127 (Nat.le_refl _) own_EW (by simp [consts_1]) f128.1 (vs := [(.int (98 : Int32))]) (z := (1 : Int32)) ⟨by decide, rfl⟩ (by decide) (by decide) (g := (mkF m 137 #[.val (.int p0), .val (.int p1), .val (.int (0 : Int32)), oR sv1, oR sv10, oR sv20, oR b31, oR r56, oR r71, oR r88] [(.ref b31)])) rfl (hb hby at_137) (n := 4) (by decide) (by decide) (by decide) (by decide)
    have f152 := f128.trans CR151
    have f153 := hk151
    have f154 := Nat.le_trans f130 E151.1
    have f155 := f131.ext E151
    have f156 := f132.ext E151
    have f157 := f133.ext E151
    have f158 := f134.ext E151
    have f159 := f135.ext E151
    have f160 := f136.ext E151
    have f161 := f137.ext E151
    have f162 := f138.ext E151
    have f163 := f139.ext E151
    have f164 := f140.ext E151
    have f165 := f141.ext E151
    have f166 := f142.ext E151
    have f167 := f143.ext E151
    have f168 := f144.ext E151
    have f169 := f145.ext E151
    have f170 := f146.ext E151
    have f171 := f147.ext E151
    have f172 := f148.ext E151
    have f173 := f149.ext E151
    have f174 := f150.ext E151
    clear f128 f130 f131 f132 f133 f134 f135 f136 f137 f138 f139 f140 f141 f142 f143 f144 f145 f146 f147 f148 f149 f150
    refine bk (fun t k => st151 t k) ?_
    refine bk (fun t k => XS.iloadN X151.here hx rfl (hb hby at_139) rfl k) ?_
    refine bk (fun t k => XS.aload X151.here hx rfl (hb hby at_140) rfl rfl k) ?_
    show F (T151.setTop (mkF m 142 #[.val (.int p0), .val (.int p1), .val (.int (0 : Int32)), oR sv1, oR sv10, oR sv20, oR b31, oR r56, oR r71, oR r88] [(.ref r56), (.int (0 : Int32)), (.ref b151), (.ref b31)]))
    refine bk (fun t k => XS.aloadN X151.here hx rfl (hb hby at_142) rfl rfl k) ?_
    refine bk (fun t k => XS.aload X151.here hx rfl (hb hby at_143) rfl rfl k) ?_
    refine bk (fun t k => XS.aload X151.here hx rfl (hb hby at_145) rfl rfl k) ?_
    refine bk (fun t k => XS.aload X151.here hx rfl (hb hby at_147) rfl rfl k) ?_
    refine bk (fun t k => XS.aload X151.here hx rfl (hb hby at_149) rfl rfl k) ?_
    show F (T151.setTop (mkF m 151 #[.val (.int p0), .val (.int p1), .val (.int (0 : Int32)), oR sv1, oR sv10, oR sv20, oR b31, oR r56, oR r71, oR r88] [(.ref sv20), (.ref r88), (.ref sv10), (.ref r71), (.ref sv1), (.ref r56), (.int (0 : Int32)), (.ref b151), (.ref b31)]))
    obtain ⟨_, _, ⟨T175, L175, k175, n175⟩, -, Y175, hs175, gr175, ⟨Lc175, hQ175, l175, y175, z175, CR175⟩, st175⟩ := callSS X151 hx (y := oN36) hown151 (mvT hZ151 w_60) (mvT hZ151 w_61) (mvT hZ151 w_62) (mvT hZ151 w_63) (by decide) (backOfSH (W := 0) (rm9_0 l Z a0 hw [] b31 b151 r56 sv1 r71 sv10 r88 sv20  (98 : Int32) cs w_e w_de k_de h151 n0 f154 ⟨f159, _, f160, rfl⟩ ⟨_, _, A151, C151, V151, R151⟩ f155 hcs f157 f156 f158 own_EW) hZ151 w_63 w_62 (by decide) (by decide) own_EW f152.1) (g := (mkF m 151 #[.val (.int p0), .val (.int p1), .val (.int (0 : Int32)), oR sv1, oR sv10, oR sv20, oR b31, oR r56, oR r71, oR r88] [(.ref sv20), (.ref r88), (.ref sv10), (.ref r71), (.ref sv1), (.ref r56), (.int (0 : Int32)), (.ref b151), (.ref b31)])) rfl (by rw [hml]; rfl) (argsL := [(.ref b31), (.ref b151), (.int (0 : Int32)), (.ref r56), (.ref sv1), (.ref r71), (.ref sv10), (.ref r88), (.ref sv20)]) (rest := []) (lenOf pd0__Lcom_example_quire_quire_readers_Element_Ljava_lang_String_ILcom_example_quire_quire_readers_Element_Ljava_lang_String_Lcom_example_quire_quire_readers_Element_Ljava_lang_String_Lcom_example_quire_quire_readers_Element_Ljava_lang_String__Z rfl) rfl (by show 2 * 0 + _ ≤ _; exact Nat.le_of_eq rfl) (hb hby at_151) (fun _ _ => ⟨rfl, e151, (by decide : 27 + 7 ≤ _), (by decide : 114 + 23 ≤ _)⟩)
    dsimp only [Pt.U, Pt.locs, Pt.cells, Pt.slots, oM9_0] at Y175 hs175 gr175 l175 y175 z175 st175 hQ175
    subst l175 y175 z175
    obtain ⟨X175, hS175, hZ175, hown175⟩ := rebS hS151 (by rw [e151]; exact f153) Y175 hs175 gr175 hZ151 hown151
    obtain ⟨rfl, N175q, K175⟩ := hQ175
    have N175 := Fr.app N127 N175q
    have f176 := f152.trans CR175
    have f177 := Nat.le_trans f153 K175.1
    have f178 := Nat.le_trans f154 K175.1
    have f179 := own_sta0 f155 K175
    have f180 := own_sta0 f156 K175
    have f181 := own_sta0 f157 K175
    have f182 := f158.keep K175 nin0
    have f183 := f159.keep K175
    have f184 := f160.keep K175 nin0
    have f185 := f161.keep K175 nin0
    have f186 := f162.keep K175
    have f187 := f163.keep K175 nin0 all0
    have f188 := f164.keep K175 nin0
    have f189 := f165.keep K175
    have f190 := f166.keep K175 nin0 all0
    have f191 := f167.keep K175 nin0
    have f192 := f168.keep K175
    have f193 := f169.keep K175 nin0 all0
    have f194 := f170.keep K175 nin0
    have f195 := f171.keep K175
    have f196 := f172.keep K175 nin0
    have f197 := f173.keep K175 nin0
    have f198 := f174.keep K175 nin0
    have f199 := A151.keep K175
    have f200 := V151.keep K175 nin0
    have f201 := C151.keep K175 nin0
    have f202 := R151.keep K175 nin0
    clear f152 f153 f154 f155 f156 f157 f158 f159 f160 f161 f162 f163 f164 f165 f166 f167 f168 f169 f170 f171 f172 f173 f174
    refine bk (fun t k => st175.trans k) ?_
    show F (T175.setTop (mkF m 154 #[.val (.int p0), .val (.int p1), .val (.int (0 : Int32)), oR sv1, oR sv10, oR sv20, oR b31, oR r56, oR r71, oR r88] [(.int (1 : Int32))]))
    refine bk (fun t k => XS.ifNo X175.here hx rfl (hb hby at_154) rfl ((if0 _ _).trans (feq (by decide : ¬ ((1 : Int32) = (0 : Int32)))).1) k) ?_
    refine bk (fun t k => XS.iconst X175.here hx rfl (hb hby at_157) k) ?_
    refine bk (fun t k => XS.goto X175.here hx rfl (pc0 := 158) (pc' := 162) rfl (hb hby at_158) (by decide) (by decide) k) ?_
    show F (T175.setTop (mkF m 162 #[.val (.int p0), .val (.int p1), .val (.int (0 : Int32)), oR sv1, oR sv10, oR sv20, oR b31, oR r56, oR r71, oR r88] [(.int (1 : Int32))]))
    rw [hF]
    refine own_retZH X175 hx hS175 (Nat.le_refl _) hZ175 own_EW (by rw [hh]; exact f176) Bd.notSynchronized Bd.returns (hb hby at_162) (by decide) (by decide) ?_
    exact ⟨rfl, N175⟩
  · rw [hnk]
    refine bk (fun t k => XS.iloadN X88.here hx rfl (hb hby at_78) rfl k) ?_
    show F (T88.setTop (mkF m 79 #[.val (.int p0), .val (.int p1), .val (.int (1 : Int32)), oR sv1, oR sv10, oR sv20, oR b31, oR r56, oR r71, oR r88] [(.int (1 : Int32))]))
    refine bk (fun t k => XS.ifNo X88.here hx rfl (hb hby at_79) rfl ((if0 _ _).trans (tlt (by decide : (0 : Int32) < (1 : Int32))).2.2.2) k) ?_
    refine bk (fun t k => XS.aload X88.here hx rfl (hb hby at_82) rfl rfl k) ?_
    refine bk (fun t k => XS.aload X88.here hx rfl (hb hby at_84) rfl rfl k) ?_
    show F (T88.setTop (mkF m 86 #[.val (.int p0), .val (.int p1), .val (.int (1 : Int32)), oR sv1, oR sv10, oR sv20, oR b31, oR r56, oR r71, oR r88] [(.ref r56), (.ref b31)]))
    obtain ⟨cq203, kq203, q203a, q203b, q203c⟩ := isOf hZ88 rfl (f98)
    obtain ⟨_, _, ⟨T203, L203, k203, n203⟩, -, X203, ⟨Lc203, hQ203, l203, y203, z203⟩, st203⟩ := X88.virtualBack hx (y := oN9) (z := oN9) hown88 (mvT hZ88 w_166) (mvT hZ88 w_167) (notFace_of_selects (args := #[]) (mvT hZ88 w_169)) (mvT hZ88 w_169) (mvT hZ88 w_168) (by decide) (backOf (W := 0) (rm23_0 l Z a0 hw [] b31 r56 .null T88.heap n0 f91 f98 f99 f100 Gb31) hZ88 w_170 w_29 (by decide) (by decide)) q203a q203c (g := (mkF m 86 #[.val (.int p0), .val (.int p1), .val (.int (1 : Int32)), oR sv1, oR sv10, oR sv20, oR b31, oR r56, oR r71, oR r88] [(.ref r56), (.ref b31)])) rfl (by rw [hml]; rfl) (Steps.refl _) (argsL := [(.ref r56)]) (rest := []) (lenOf pd0__Lcom_example_quire_quire_readers_Element__V rfl) rfl (by show 2 * 0 + _ ≤ _; exact Nat.le_of_eq rfl) (hb hby at_86) (fun _ _ => ⟨rfl, rfl, (by decide : 16 + 0 ≤ _), (by decide : 75 + 0 ≤ _)⟩)
    dsimp only [Pt.U, Pt.locs, Pt.cells, Pt.slots, oM23_0] at X203 l203 y203 z203 st203 hQ203
    subst l203 y203 z203
    obtain ⟨rfl, N203q, K203, gE203, gA203, gB203⟩ := hQ203
    have N203 := Fr.app N88 N203q
    have f204 := f89.trans (CHr.keep K203 (allS (Safe.exa hZ88.alike f98 (by decide) (by decide)) all0) f89.1)
    have f205 := Nat.le_trans (Nat.le_refl _) K203.1
    have f206 := Nat.le_trans f91 K203.1
    have f207 := own_sta1 f92 K203 f98
    have f208 := own_sta1 f93 K203 f98
    have f209 := own_sta1 f94 K203 f98
    have f210 := f95.keep K203 (ninS ne_w_de_b31 nin0)
    have f211 := f98.keep K203
    have f212 := f101.keep K203
    have f213 := f102.keep K203 (ninS (Ne.symm ne_b31_r56) nin0) (allS (own_nsE f98 (by decide) w_28) all0)
    have f214 := f103.keep K203 (ninS (Ne.symm ne_b31_r56) nin0)
    have f215 := f104.keep K203
    have f216 := f105.keep K203 (ninS (Ne.symm ne_b31_r71) nin0) (allS (own_nsE f98 (by decide) w_28) all0)
    have f217 := f106.keep K203 (ninS (Ne.symm ne_b31_r71) nin0)
    have f218 := gCh88.1.keep K203
    have f219 := gCh88.keep K203 (ninS (Ne.symm ne_b31_r88) nin0) (allS (own_nsE f98 (by decide) w_28) all0)
    have f220 := gNx88.keep K203 (ninS (Ne.symm ne_b31_r88) nin0)
    clear f89 f91 f92 f93 f94 f95 f98 f99 f100 f101 f102 f103 f104 f105 f106
    refine bk (fun t k => st203.trans k) ?_
    refine bk (fun t k => XS.iloadN X203.here hx rfl (hb hby at_89) rfl k) ?_
    refine bk (fun t k => XS.iconst X203.here hx rfl (hb hby at_90) k) ?_
    show F (T203.setTop (mkF m 91 #[.val (.int p0), .val (.int p1), .val (.int (1 : Int32)), oR sv1, oR sv10, oR sv20, oR b31, oR r56, oR r71, oR r88] [(.int (1 : Int32)), (.int (1 : Int32))]))
    refine bk (fun t k => XS.icmpYes X203.here hx rfl (pc0 := 91) (pc' := 101) rfl (hb hby at_91) rfl (flt (by decide : ¬ ((1 : Int32) < (1 : Int32)))).2.2.2 (by decide) (by decide) k) ?_
    refine bk (fun t k => XS.iloadN X203.here hx rfl (hb hby at_101) rfl k) ?_
    refine bk (fun t k => XS.iconst X203.here hx rfl (hb hby at_102) k) ?_
    show F (T203.setTop (mkF m 103 #[.val (.int p0), .val (.int p1), .val (.int (1 : Int32)), oR sv1, oR sv10, oR sv20, oR b31, oR r56, oR r71, oR r88] [(.int (2 : Int32)), (.int (1 : Int32))]))
    refine bk (fun t k => XS.icmpYes X203.here hx rfl (pc0 := 103) (pc' := 113) rfl (hb hby at_103) rfl (flt (by decide : ¬ ((2 : Int32) < (1 : Int32)))).2.2.2 (by decide) (by decide) k) ?_
    refine bk (fun t k => XS.aload X203.here hx rfl (hb hby at_113) rfl rfl k) ?_
    obtain ⟨b221, T221, h221, k1221, d221, kk221, X221, e221, E221, hS221, hk221, hZ221, hown221, A221, C221, V221, R221, -, -, CR221, LT221, sf221, st221⟩ := ldcCH X203 hx hZ88 hown88 w_59 own_wS rfl hS88 f205 own_EW (by simp [consts_1]) f204.1 (vs := [(.int (97 : Int32))]) (z := (1 : Int32)) ⟨by decide, rfl⟩ (by decide) (by decide) (g := (mkF m 115 #[.val (.int p0), .val (.int p1), .val (.int (1 : Int32)), oR sv1, oR sv10, oR sv20, oR b31, oR r56, oR r71, oR r88] [(.ref b31)])) rfl (hb hby at_115) (n := 4) (by decide) (by decide) (by decide) (by decide)
    have f222 := f204.trans CR221
    have f223 := hk221
    have f224 := Nat.le_trans f206 E221.1
    have f225 := f207.ext E221
    have f226 := f208.ext E221
    have f227 := f209.ext E221
    have f228 := f210.ext E221
    have f229 := gE203.ext E221
    have f230 := f212.ext E221
    have f231 := f213.ext E221
    have f232 := f214.ext E221
    have f233 := f215.ext E221
    have f234 := f216.ext E221
    have f235 := f217.ext E221
    have f236 := f218.ext E221
    have f237 := f219.ext E221
    have f238 := f220.ext E221
    have f239 := gA203.ext E221
    have f240 := gB203.ext E221
    clear f204 f205 f206 f207 f208 f209 f210 f212 f213 f214 f215 f216 f217 f218 f219 f220
    refine bk (fun t k => st221 t k) ?_
    refine bk (fun t k => XS.iloadN X221.here hx rfl (hb hby at_117) rfl k) ?_
    refine bk (fun t k => XS.aload X221.here hx rfl (hb hby at_118) rfl rfl k) ?_
    show F (T221.setTop (mkF m 120 #[.val (.int p0), .val (.int p1), .val (.int (1 : Int32)), oR sv1, oR sv10, oR sv20, oR b31, oR r56, oR r71, oR r88] [(.ref r56), (.int (1 : Int32)), (.ref b221), (.ref b31)]))
    refine bk (fun t k => XS.aloadN X221.here hx rfl (hb hby at_120) rfl rfl k) ?_
    refine bk (fun t k => XS.aload X221.here hx rfl (hb hby at_121) rfl rfl k) ?_
    refine bk (fun t k => XS.aload X221.here hx rfl (hb hby at_123) rfl rfl k) ?_
    refine bk (fun t k => XS.aload X221.here hx rfl (hb hby at_125) rfl rfl k) ?_
    refine bk (fun t k => XS.aload X221.here hx rfl (hb hby at_127) rfl rfl k) ?_
    show F (T221.setTop (mkF m 129 #[.val (.int p0), .val (.int p1), .val (.int (1 : Int32)), oR sv1, oR sv10, oR sv20, oR b31, oR r56, oR r71, oR r88] [(.ref sv20), (.ref r88), (.ref sv10), (.ref r71), (.ref sv1), (.ref r56), (.int (1 : Int32)), (.ref b221), (.ref b31)]))
    obtain ⟨_, _, ⟨T241, L241, k241, n241⟩, -, Y241, hs241, gr241, ⟨Lc241, hQ241, l241, y241, z241, CR241⟩, st241⟩ := callSS X221 hx (y := oN36) hown221 (mvT hZ221 w_60) (mvT hZ221 w_61) (mvT hZ221 w_62) (mvT hZ221 w_63) (by decide) (backOfSH (W := 0) (rm9_1 l Z a0 hw [] b31 b221 r56 sv1 r71 sv10 r88 sv20 xv1 (97 : Int32) cs w_e w_de k_de h221 n0 f224 ⟨f229, _, f239, ⟨rfl, f231, _, f232, rfl⟩⟩ ⟨_, _, A221, C221, V221, R221⟩ f225 hcs f227 f226 f228 own_EW) hZ221 w_63 w_62 (by decide) (by decide) own_EW f222.1) (g := (mkF m 129 #[.val (.int p0), .val (.int p1), .val (.int (1 : Int32)), oR sv1, oR sv10, oR sv20, oR b31, oR r56, oR r71, oR r88] [(.ref sv20), (.ref r88), (.ref sv10), (.ref r71), (.ref sv1), (.ref r56), (.int (1 : Int32)), (.ref b221), (.ref b31)])) rfl (by rw [hml]; rfl) (argsL := [(.ref b31), (.ref b221), (.int (1 : Int32)), (.ref r56), (.ref sv1), (.ref r71), (.ref sv10), (.ref r88), (.ref sv20)]) (rest := []) (lenOf pd0__Lcom_example_quire_quire_readers_Element_Ljava_lang_String_ILcom_example_quire_quire_readers_Element_Ljava_lang_String_Lcom_example_quire_quire_readers_Element_Ljava_lang_String_Lcom_example_quire_quire_readers_Element_Ljava_lang_String__Z rfl) rfl (by show 2 * 0 + _ ≤ _; exact Nat.le_of_eq rfl) (hb hby at_129) (fun _ _ => ⟨rfl, e221, (by decide : 18 + 7 ≤ _), (by decide : 83 + 23 ≤ _)⟩)
    dsimp only [Pt.U, Pt.locs, Pt.cells, Pt.slots, oM9_1] at Y241 hs241 gr241 l241 y241 z241 st241 hQ241
    subst l241 y241 z241
    obtain ⟨X241, hS241, hZ241, hown241⟩ := rebS hS221 (by rw [e221]; exact f223) Y241 hs241 gr241 hZ221 hown221
    obtain ⟨rfl, N241q, K241⟩ := hQ241
    have N241 := Fr.app N203 N241q
    have f242 := f222.trans CR241
    have f243 := Nat.le_trans f223 K241.1
    have f244 := Nat.le_trans f224 K241.1
    have f245 := own_sta0 f225 K241
    have f246 := own_sta0 f226 K241
    have f247 := own_sta0 f227 K241
    have f248 := f228.keep K241 nin0
    have f249 := f229.keep K241
    have f250 := f230.keep K241
    have f251 := f231.keep K241 nin0 all0
    have f252 := f232.keep K241 nin0
    have f253 := f233.keep K241
    have f254 := f234.keep K241 nin0 all0
    have f255 := f235.keep K241 nin0
    have f256 := f236.keep K241
    have f257 := f237.keep K241 nin0 all0
    have f258 := f238.keep K241 nin0
    have f259 := f239.keep K241 nin0
    have f260 := f240.keep K241 nin0
    have f261 := A221.keep K241
    have f262 := V221.keep K241 nin0
    have f263 := C221.keep K241 nin0
    have f264 := R221.keep K241 nin0
    clear f222 f223 f224 f225 f226 f227 f228 f229 f230 f231 f232 f233 f234 f235 f236 f237 f238 f239 f240
    refine bk (fun t k => st241.trans k) ?_
    show F (T241.setTop (mkF m 132 #[.val (.int p0), .val (.int p1), .val (.int (1 : Int32)), oR sv1, oR sv10, oR sv20, oR b31, oR r56, oR r71, oR r88] [(.int (1 : Int32))]))
    refine bk (fun t k => XS.ifNo X241.here hx rfl (hb hby at_132) rfl ((if0 _ _).trans (feq (by decide : ¬ ((1 : Int32) = (0 : Int32)))).1) k) ?_
    refine bk (fun t k => XS.aload X241.here hx rfl (hb hby at_135) rfl rfl k) ?_
    obtain ⟨b265, T265, h265, k1265, d265, kk265, X265, e265, E265, hS265, hk265, hZ265, hown265, A265, C265, V265, R265, -, -, CR265, LT265, sf265, st265⟩ := ldcCH X241 hx hZ241 hown241 w_165 own_wS rfl hS241 (Nat.le_refl _) own_EW (by simp [consts_1]) f242.1 (vs := [(.int (98 : Int32))]) (z := (1 : Int32)) ⟨by decide, rfl⟩ (by decide) (by decide) (g := (mkF m 137 #[.val (.int p0), .val (.int p1), .val (.int (1 : Int32)), oR sv1, oR sv10, oR sv20, oR b31, oR r56, oR r71, oR r88] [(.ref b31)])) rfl (hb hby at_137) (n := 4) (by decide) (by decide) (by decide) (by decide)
    have f266 := f242.trans CR265
    have f267 := hk265
    have f268 := Nat.le_trans f244 E265.1
    have f269 := f245.ext E265
    have f270 := f246.ext E265
    have f271 := f247.ext E265
    have f272 := f248.ext E265
    have f273 := f249.ext E265
    have f274 := f250.ext E265
    have f275 := f251.ext E265
    have f276 := f252.ext E265
    have f277 := f253.ext E265
    have f278 := f254.ext E265
    have f279 := f255.ext E265
    have f280 := f256.ext E265
    have f281 := f257.ext E265
    have f282 := f258.ext E265
    have f283 := f259.ext E265
    have f284 := f260.ext E265
    have f285 := f261.ext E265
    have f286 := f262.ext E265
    have f287 := f263.ext E265
    have f288 := f264.ext E265
    clear f242 f244 f245 f246 f247 f248 f249 f250 f251 f252 f253 f254 f255 f256 f257 f258 f259 f260 f261 f262 f263 f264
    refine bk (fun t k => st265 t k) ?_
    refine bk (fun t k => XS.iloadN X265.here hx rfl (hb hby at_139) rfl k) ?_
    refine bk (fun t k => XS.aload X265.here hx rfl (hb hby at_140) rfl rfl k) ?_
    show F (T265.setTop (mkF m 142 #[.val (.int p0), .val (.int p1), .val (.int (1 : Int32)), oR sv1, oR sv10, oR sv20, oR b31, oR r56, oR r71, oR r88] [(.ref r56), (.int (1 : Int32)), (.ref b265), (.ref b31)]))
    refine bk (fun t k => XS.aloadN X265.here hx rfl (hb hby at_142) rfl rfl k) ?_
    refine bk (fun t k => XS.aload X265.here hx rfl (hb hby at_143) rfl rfl k) ?_
    refine bk (fun t k => XS.aload X265.here hx rfl (hb hby at_145) rfl rfl k) ?_
    refine bk (fun t k => XS.aload X265.here hx rfl (hb hby at_147) rfl rfl k) ?_
    refine bk (fun t k => XS.aload X265.here hx rfl (hb hby at_149) rfl rfl k) ?_
    show F (T265.setTop (mkF m 151 #[.val (.int p0), .val (.int p1), .val (.int (1 : Int32)), oR sv1, oR sv10, oR sv20, oR b31, oR r56, oR r71, oR r88] [(.ref sv20), (.ref r88), (.ref sv10), (.ref r71), (.ref sv1), (.ref r56), (.int (1 : Int32)), (.ref b265), (.ref b31)]))
    obtain ⟨_, _, ⟨T289, L289, k289, n289⟩, -, Y289, hs289, gr289, ⟨Lc289, hQ289, l289, y289, z289, CR289⟩, st289⟩ := callSS X265 hx (y := oN36) hown265 (mvT hZ265 w_60) (mvT hZ265 w_61) (mvT hZ265 w_62) (mvT hZ265 w_63) (by decide) (backOfSH (W := 0) (rm9_1 l Z a0 hw [] b31 b265 r56 sv1 r71 sv10 r88 sv20 xv1 (98 : Int32) cs w_e w_de k_de h265 n0 f268 ⟨f273, _, f283, ⟨rfl, f275, _, f276, rfl⟩⟩ ⟨_, _, A265, C265, V265, R265⟩ f269 hcs f271 f270 f272 own_EW) hZ265 w_63 w_62 (by decide) (by decide) own_EW f266.1) (g := (mkF m 151 #[.val (.int p0), .val (.int p1), .val (.int (1 : Int32)), oR sv1, oR sv10, oR sv20, oR b31, oR r56, oR r71, oR r88] [(.ref sv20), (.ref r88), (.ref sv10), (.ref r71), (.ref sv1), (.ref r56), (.int (1 : Int32)), (.ref b265), (.ref b31)])) rfl (by rw [hml]; rfl) (argsL := [(.ref b31), (.ref b265), (.int (1 : Int32)), (.ref r56), (.ref sv1), (.ref r71), (.ref sv10), (.ref r88), (.ref sv20)]) (rest := []) (lenOf pd0__Lcom_example_quire_quire_readers_Element_Ljava_lang_String_ILcom_example_quire_quire_readers_Element_Ljava_lang_String_Lcom_example_quire_quire_readers_Element_Ljava_lang_String_Lcom_example_quire_quire_readers_Element_Ljava_lang_String__Z rfl) rfl (by show 2 * 0 + _ ≤ _; exact Nat.le_of_eq rfl) (hb hby at_151) (fun _ _ => ⟨rfl, e265, (by decide : 27 + 7 ≤ _), (by decide : 114 + 23 ≤ _)⟩)
    dsimp only [Pt.U, Pt.locs, Pt.cells, Pt.slots, oM9_1] at Y289 hs289 gr289 l289 y289 z289 st289 hQ289
    subst l289 y289 z289
    obtain ⟨X289, hS289, hZ289, hown289⟩ := rebS hS265 (by rw [e265]; exact f267) Y289 hs289 gr289 hZ265 hown265
    obtain ⟨rfl, N289q, K289⟩ := hQ289
    have N289 := Fr.app N241 N289q
    have f290 := f266.trans CR289
    have f291 := Nat.le_trans f267 K289.1
    have f292 := Nat.le_trans f268 K289.1
    have f293 := own_sta0 f269 K289
    have f294 := own_sta0 f270 K289
    have f295 := own_sta0 f271 K289
    have f296 := f272.keep K289 nin0
    have f297 := f273.keep K289
    have f298 := f274.keep K289
    have f299 := f275.keep K289 nin0 all0
    have f300 := f276.keep K289 nin0
    have f301 := f277.keep K289
    have f302 := f278.keep K289 nin0 all0
    have f303 := f279.keep K289 nin0
    have f304 := f280.keep K289
    have f305 := f281.keep K289 nin0 all0
    have f306 := f282.keep K289 nin0
    have f307 := f283.keep K289 nin0
    have f308 := f284.keep K289 nin0
    have f309 := f285.keep K289
    have f310 := f286.keep K289 nin0
    have f311 := f287.keep K289 nin0
    have f312 := f288.keep K289 nin0
    have f313 := A265.keep K289
    have f314 := V265.keep K289 nin0
    have f315 := C265.keep K289 nin0
    have f316 := R265.keep K289 nin0
    clear f266 f267 f268 f269 f270 f271 f272 f273 f274 f275 f276 f277 f278 f279 f280 f281 f282 f283 f284 f285 f286 f287 f288
    refine bk (fun t k => st289.trans k) ?_
    show F (T289.setTop (mkF m 154 #[.val (.int p0), .val (.int p1), .val (.int (1 : Int32)), oR sv1, oR sv10, oR sv20, oR b31, oR r56, oR r71, oR r88] [(.int (1 : Int32))]))
    refine bk (fun t k => XS.ifNo X289.here hx rfl (hb hby at_154) rfl ((if0 _ _).trans (feq (by decide : ¬ ((1 : Int32) = (0 : Int32)))).1) k) ?_
    refine bk (fun t k => XS.iconst X289.here hx rfl (hb hby at_157) k) ?_
    refine bk (fun t k => XS.goto X289.here hx rfl (pc0 := 158) (pc' := 162) rfl (hb hby at_158) (by decide) (by decide) k) ?_
    show F (T289.setTop (mkF m 162 #[.val (.int p0), .val (.int p1), .val (.int (1 : Int32)), oR sv1, oR sv10, oR sv20, oR b31, oR r56, oR r71, oR r88] [(.int (1 : Int32))]))
    rw [hF]
    refine own_retZH X289 hx hS289 (Nat.le_refl _) hZ289 own_EW (by rw [hh]; exact f290) Bd.notSynchronized Bd.returns (hb hby at_162) (by decide) (by decide) ?_
    exact ⟨rfl, N289⟩
  · rw [hnk]
    refine bk (fun t k => XS.iloadN X88.here hx rfl (hb hby at_78) rfl k) ?_
    show F (T88.setTop (mkF m 79 #[.val (.int p0), .val (.int p1), .val (.int (2 : Int32)), oR sv1, oR sv10, oR sv20, oR b31, oR r56, oR r71, oR r88] [(.int (2 : Int32))]))
    refine bk (fun t k => XS.ifNo X88.here hx rfl (hb hby at_79) rfl ((if0 _ _).trans (tlt (by decide : (0 : Int32) < (2 : Int32))).2.2.2) k) ?_
    refine bk (fun t k => XS.aload X88.here hx rfl (hb hby at_82) rfl rfl k) ?_
    refine bk (fun t k => XS.aload X88.here hx rfl (hb hby at_84) rfl rfl k) ?_
    show F (T88.setTop (mkF m 86 #[.val (.int p0), .val (.int p1), .val (.int (2 : Int32)), oR sv1, oR sv10, oR sv20, oR b31, oR r56, oR r71, oR r88] [(.ref r56), (.ref b31)]))
    obtain ⟨cq317, kq317, q317a, q317b, q317c⟩ := isOf hZ88 rfl (f98)
    obtain ⟨_, _, ⟨T317, L317, k317, n317⟩, -, X317, ⟨Lc317, hQ317, l317, y317, z317⟩, st317⟩ := X88.virtualBack hx (y := oN9) (z := oN9) hown88 (mvT hZ88 w_166) (mvT hZ88 w_167) (notFace_of_selects (args := #[]) (mvT hZ88 w_169)) (mvT hZ88 w_169) (mvT hZ88 w_168) (by decide) (backOf (W := 0) (rm23_0 l Z a0 hw [] b31 r56 .null T88.heap n0 f91 f98 f99 f100 Gb31) hZ88 w_170 w_29 (by decide) (by decide)) q317a q317c (g := (mkF m 86 #[.val (.int p0), .val (.int p1), .val (.int (2 : Int32)), oR sv1, oR sv10, oR sv20, oR b31, oR r56, oR r71, oR r88] [(.ref r56), (.ref b31)])) rfl (by rw [hml]; rfl) (Steps.refl _) (argsL := [(.ref r56)]) (rest := []) (lenOf pd0__Lcom_example_quire_quire_readers_Element__V rfl) rfl (by show 2 * 0 + _ ≤ _; exact Nat.le_of_eq rfl) (hb hby at_86) (fun _ _ => ⟨rfl, rfl, (by decide : 16 + 0 ≤ _), (by decide : 75 + 0 ≤ _)⟩)
    dsimp only [Pt.U, Pt.locs, Pt.cells, Pt.slots, oM23_0] at X317 l317 y317 z317 st317 hQ317
    subst l317 y317 z317
    obtain ⟨rfl, N317q, K317, gE317, gA317, gB317⟩ := hQ317
    have N317 := Fr.app N88 N317q
    have f318 := f89.trans (CHr.keep K317 (allS (Safe.exa hZ88.alike f98 (by decide) (by decide)) all0) f89.1)
    have f319 := Nat.le_trans (Nat.le_refl _) K317.1
    have f320 := Nat.le_trans f91 K317.1
    have f321 := own_sta1 f92 K317 f98
    have f322 := own_sta1 f93 K317 f98
    have f323 := own_sta1 f94 K317 f98
    have f324 := f95.keep K317 (ninS ne_w_de_b31 nin0)
    have f325 := f98.keep K317
    have f326 := f101.keep K317
    have f327 := f102.keep K317 (ninS (Ne.symm ne_b31_r56) nin0) (allS (own_nsE f98 (by decide) w_28) all0)
    have f328 := f103.keep K317 (ninS (Ne.symm ne_b31_r56) nin0)
    have f329 := f104.keep K317
    have f330 := f105.keep K317 (ninS (Ne.symm ne_b31_r71) nin0) (allS (own_nsE f98 (by decide) w_28) all0)
    have f331 := f106.keep K317 (ninS (Ne.symm ne_b31_r71) nin0)
    have f332 := gCh88.1.keep K317
    have f333 := gCh88.keep K317 (ninS (Ne.symm ne_b31_r88) nin0) (allS (own_nsE f98 (by decide) w_28) all0)
    have f334 := gNx88.keep K317 (ninS (Ne.symm ne_b31_r88) nin0)
    clear f89 f91 f92 f93 f94 f95 f98 f99 f100 f101 f102 f103 f104 f105 f106
    refine bk (fun t k => st317.trans k) ?_
    refine bk (fun t k => XS.iloadN X317.here hx rfl (hb hby at_89) rfl k) ?_
    refine bk (fun t k => XS.iconst X317.here hx rfl (hb hby at_90) k) ?_
    show F (T317.setTop (mkF m 91 #[.val (.int p0), .val (.int p1), .val (.int (2 : Int32)), oR sv1, oR sv10, oR sv20, oR b31, oR r56, oR r71, oR r88] [(.int (1 : Int32)), (.int (2 : Int32))]))
    refine bk (fun t k => XS.icmpNo X317.here hx rfl (hb hby at_91) rfl (tlt (by decide : (1 : Int32) < (2 : Int32))).2.2.2 k) ?_
    refine bk (fun t k => XS.aload X317.here hx rfl (hb hby at_94) rfl rfl k) ?_
    refine bk (fun t k => XS.aload X317.here hx rfl (hb hby at_96) rfl rfl k) ?_
    show F (T317.setTop (mkF m 98 #[.val (.int p0), .val (.int p1), .val (.int (2 : Int32)), oR sv1, oR sv10, oR sv20, oR b31, oR r56, oR r71, oR r88] [(.ref r71), (.ref b31)]))
    obtain ⟨cq335, kq335, q335a, q335b, q335c⟩ := isOf hZ88 rfl (gE317)
    obtain ⟨_, _, ⟨T335, L335, k335, n335⟩, -, X335, ⟨Lc335, hQ335, l335, y335, z335⟩, st335⟩ := X317.virtualBack hx (y := oN9) (z := oN9) hown88 (mvT hZ88 w_166) (mvT hZ88 w_167) (notFace_of_selects (args := #[]) (mvT hZ88 w_169)) (mvT hZ88 w_169) (mvT hZ88 w_168) (by decide) (backOf (W := 0) (rm23_1 l Z a0 hw [] b31 r71 r56 r56 sv1 xv1 T317.heap n0 f320 gE317 gA317 gB317 f327 f328 Gb31 G_r56 ne_b31_r56) hZ88 w_170 w_29 (by decide) (by decide)) q335a q335c (g := (mkF m 98 #[.val (.int p0), .val (.int p1), .val (.int (2 : Int32)), oR sv1, oR sv10, oR sv20, oR b31, oR r56, oR r71, oR r88] [(.ref r71), (.ref b31)])) rfl (by rw [hml]; rfl) (Steps.refl _) (argsL := [(.ref r71)]) (rest := []) (lenOf pd0__Lcom_example_quire_quire_readers_Element__V rfl) rfl (by show 2 * 0 + _ ≤ _; exact Nat.le_of_eq rfl) (hb hby at_98) (fun _ _ => ⟨rfl, rfl, (by decide : 16 + 0 ≤ _), (by decide : 75 + 0 ≤ _)⟩)
    dsimp only [Pt.U, Pt.locs, Pt.cells, Pt.slots, oM23_1] at X335 l335 y335 z335 st335 hQ335
    subst l335 y335 z335
    obtain ⟨rfl, N335q, K335, gE335, gA335, gB335, gCh335, gNx335⟩ := hQ335
    have N335 := Fr.app N317 N335q
    have f336 := f318.trans (CHr.keep K335 (allS (Safe.exa hZ88.alike gE317 (by decide) (by decide)) (allS (Safe.exa hZ88.alike f326 (by decide) (by decide)) all0)) f318.1)
    have f337 := Nat.le_trans f319 K335.1
    have f338 := Nat.le_trans f320 K335.1
    have f339 := own_staK f321 K335 (allS (Exa.nostat gE317) (allS (Exa.nostat f326) all0))
    have f340 := own_staK f322 K335 (allS (Exa.nostat gE317) (allS (Exa.nostat f326) all0))
    have f341 := own_staK f323 K335 (allS (Exa.nostat gE317) (allS (Exa.nostat f326) all0))
    have f342 := f324.keep K335 (ninS ne_w_de_b31 (ninS (Ne.symm (Exa.neArv f326 f324 w_28)) nin0))
    have f343 := gE317.keep K335
    have f344 := f326.keep K335
    have f345 := f329.keep K335
    have f346 := f330.keep K335 (ninS (Ne.symm ne_b31_r71) (ninS (Ne.symm ne_r56_r71) nin0)) (allS (own_nsE gE317 (by decide) w_28) (allS (own_nsE f326 (by decide) w_28) all0))
    have f347 := f331.keep K335 (ninS (Ne.symm ne_b31_r71) (ninS (Ne.symm ne_r56_r71) nin0))
    have f348 := f332.keep K335
    have f349 := f333.keep K335 (ninS (Ne.symm ne_b31_r88) (ninS (Ne.symm ne_r56_r88) nin0)) (allS (own_nsE gE317 (by decide) w_28) (allS (own_nsE f326 (by decide) w_28) all0))
    have f350 := f334.keep K335 (ninS (Ne.symm ne_b31_r88) (ninS (Ne.symm ne_r56_r88) nin0))
    clear f318 f319 f320 f321 f322 f323 f324 f326 f327 f328 f329 f330 f331 f332 f333 f334
    refine bk (fun t k => st335.trans k) ?_
    refine bk (fun t k => XS.iloadN X335.here hx rfl (hb hby at_101) rfl k) ?_
    refine bk (fun t k => XS.iconst X335.here hx rfl (hb hby at_102) k) ?_
    show F (T335.setTop (mkF m 103 #[.val (.int p0), .val (.int p1), .val (.int (2 : Int32)), oR sv1, oR sv10, oR sv20, oR b31, oR r56, oR r71, oR r88] [(.int (2 : Int32)), (.int (2 : Int32))]))
    refine bk (fun t k => XS.icmpYes X335.here hx rfl (pc0 := 103) (pc' := 113) rfl (hb hby at_103) rfl (flt (by decide : ¬ ((2 : Int32) < (2 : Int32)))).2.2.2 (by decide) (by decide) k) ?_
    refine bk (fun t k => XS.aload X335.here hx rfl (hb hby at_113) rfl rfl k) ?_
    obtain ⟨b351, T351, h351, k1351, d351, kk351, X351, e351, E351, hS351, hk351, hZ351, hown351, A351, C351, V351, R351, -, -, CR351, LT351, sf351, st351⟩ := ldcCH X335 hx hZ88 hown88 w_59 own_wS rfl hS88 f337 own_EW (by simp [consts_1]) f336.1 (vs := [(.int (97 : Int32))]) (z := (1 : Int32)) ⟨by decide, rfl⟩ (by decide) (by decide) (g := (mkF m 115 #[.val (.int p0), .val (.int p1), .val (.int (2 : Int32)), oR sv1, oR sv10, oR sv20, oR b31, oR r56, oR r71, oR r88] [(.ref b31)])) rfl (hb hby at_115) (n := 4) (by decide) (by decide) (by decide) (by decide)
    have f352 := f336.trans CR351
    have f353 := hk351
    have f354 := Nat.le_trans f338 E351.1
    have f355 := f339.ext E351
    have f356 := f340.ext E351
    have f357 := f341.ext E351
    have f358 := f342.ext E351
    have f359 := gE335.ext E351
    have f360 := f344.ext E351
    have f361 := f345.ext E351
    have f362 := f346.ext E351
    have f363 := f347.ext E351
    have f364 := f348.ext E351
    have f365 := f349.ext E351
    have f366 := f350.ext E351
    have f367 := gA335.ext E351
    have f368 := gB335.ext E351
    have f369 := gCh335.ext E351
    have f370 := gNx335.ext E351
    clear f336 f337 f338 f339 f340 f341 f342 f344 f345 f346 f347 f348 f349 f350
    refine bk (fun t k => st351 t k) ?_
    refine bk (fun t k => XS.iloadN X351.here hx rfl (hb hby at_117) rfl k) ?_
    refine bk (fun t k => XS.aload X351.here hx rfl (hb hby at_118) rfl rfl k) ?_
    show F (T351.setTop (mkF m 120 #[.val (.int p0), .val (.int p1), .val (.int (2 : Int32)), oR sv1, oR sv10, oR sv20, oR b31, oR r56, oR r71, oR r88] [(.ref r56), (.int (2 : Int32)), (.ref b351), (.ref b31)]))
    refine bk (fun t k => XS.aloadN X351.here hx rfl (hb hby at_120) rfl rfl k) ?_
    refine bk (fun t k => XS.aload X351.here hx rfl (hb hby at_121) rfl rfl k) ?_
    refine bk (fun t k => XS.aload X351.here hx rfl (hb hby at_123) rfl rfl k) ?_
    refine bk (fun t k => XS.aload X351.here hx rfl (hb hby at_125) rfl rfl k) ?_
    refine bk (fun t k => XS.aload X351.here hx rfl (hb hby at_127) rfl rfl k) ?_
    show F (T351.setTop (mkF m 129 #[.val (.int p0), .val (.int p1), .val (.int (2 : Int32)), oR sv1, oR sv10, oR sv20, oR b31, oR r56, oR r71, oR r88] [(.ref sv20), (.ref r88), (.ref sv10), (.ref r71), (.ref sv1), (.ref r56), (.int (2 : Int32)), (.ref b351), (.ref b31)]))
    obtain ⟨_, _, ⟨T371, L371, k371, n371⟩, -, Y371, hs371, gr371, ⟨Lc371, hQ371, l371, y371, z371, CR371⟩, st371⟩ := callSS X351 hx (y := oN36) hown351 (mvT hZ351 w_60) (mvT hZ351 w_61) (mvT hZ351 w_62) (mvT hZ351 w_63) (by decide) (backOfSH (W := 0) (rm9_2 l Z a0 hw [] b31 b351 r56 sv1 r71 sv10 r88 sv20 xv1 xv10 (97 : Int32) cs w_e w_de k_de h351 n0 f354 ⟨f359, _, f367, ⟨rfl, f369, _, f370, ⟨rfl, f362, _, f363, rfl⟩⟩⟩ ⟨_, _, A351, C351, V351, R351⟩ f355 hcs f357 f356 f358 own_EW) hZ351 w_63 w_62 (by decide) (by decide) own_EW f352.1) (g := (mkF m 129 #[.val (.int p0), .val (.int p1), .val (.int (2 : Int32)), oR sv1, oR sv10, oR sv20, oR b31, oR r56, oR r71, oR r88] [(.ref sv20), (.ref r88), (.ref sv10), (.ref r71), (.ref sv1), (.ref r56), (.int (2 : Int32)), (.ref b351), (.ref b31)])) rfl (by rw [hml]; rfl) (argsL := [(.ref b31), (.ref b351), (.int (2 : Int32)), (.ref r56), (.ref sv1), (.ref r71), (.ref sv10), (.ref r88), (.ref sv20)]) (rest := []) (lenOf pd0__Lcom_example_quire_quire_readers_Element_Ljava_lang_String_ILcom_example_quire_quire_readers_Element_Ljava_lang_String_Lcom_example_quire_quire_readers_Element_Ljava_lang_String_Lcom_example_quire_quire_readers_Element_Ljava_lang_String__Z rfl) rfl (by show 2 * 0 + _ ≤ _; exact Nat.le_of_eq rfl) (hb hby at_129) (fun _ _ => ⟨rfl, e351, (by decide : 18 + 7 ≤ _), (by decide : 83 + 23 ≤ _)⟩)
    dsimp only [Pt.U, Pt.locs, Pt.cells, Pt.slots, oM9_2] at Y371 hs371 gr371 l371 y371 z371 st371 hQ371
    subst l371 y371 z371
    obtain ⟨X371, hS371, hZ371, hown371⟩ := rebS hS351 (by rw [e351]; exact f353) Y371 hs371 gr371 hZ351 hown351
    obtain ⟨rfl, N371q, K371⟩ := hQ371
    have N371 := Fr.app N335 N371q
    have f372 := f352.trans CR371
    have f373 := Nat.le_trans f353 K371.1
    have f374 := Nat.le_trans f354 K371.1
    have f375 := own_sta0 f355 K371
    have f376 := own_sta0 f356 K371
    have f377 := own_sta0 f357 K371
    have f378 := f358.keep K371 nin0
    have f379 := f359.keep K371
    have f380 := f360.keep K371
    have f381 := f361.keep K371
    have f382 := f362.keep K371 nin0 all0
    have f383 := f363.keep K371 nin0
    have f384 := f364.keep K371
    have f385 := f365.keep K371 nin0 all0
    have f386 := f366.keep K371 nin0
    have f387 := f367.keep K371 nin0
    have f388 := f368.keep K371 nin0
    have f389 := f369.keep K371 nin0 all0
    have f390 := f370.keep K371 nin0
    have f391 := A351.keep K371
    have f392 := V351.keep K371 nin0
    have f393 := C351.keep K371 nin0
    have f394 := R351.keep K371 nin0
    clear f352 f353 f354 f355 f356 f357 f358 f359 f360 f361 f362 f363 f364 f365 f366 f367 f368 f369 f370
    refine bk (fun t k => st371.trans k) ?_
    show F (T371.setTop (mkF m 132 #[.val (.int p0), .val (.int p1), .val (.int (2 : Int32)), oR sv1, oR sv10, oR sv20, oR b31, oR r56, oR r71, oR r88] [(.int (1 : Int32))]))
    refine bk (fun t k => XS.ifNo X371.here hx rfl (hb hby at_132) rfl ((if0 _ _).trans (feq (by decide : ¬ ((1 : Int32) = (0 : Int32)))).1) k) ?_
    refine bk (fun t k => XS.aload X371.here hx rfl (hb hby at_135) rfl rfl k) ?_
    obtain ⟨b395, T395, h395, k1395, d395, kk395, X395, e395, E395, hS395, hk395, hZ395, hown395, A395, C395, V395, R395, -, -, CR395, LT395, sf395, st395⟩ := ldcCH X371 hx hZ371 hown371 w_165 own_wS rfl hS371 (Nat.le_refl _) own_EW (by simp [consts_1]) f372.1 (vs := [(.int (98 : Int32))]) (z := (1 : Int32)) ⟨by decide, rfl⟩ (by decide) (by decide) (g := (mkF m 137 #[.val (.int p0), .val (.int p1), .val (.int (2 : Int32)), oR sv1, oR sv10, oR sv20, oR b31, oR r56, oR r71, oR r88] [(.ref b31)])) rfl (hb hby at_137) (n := 4) (by decide) (by decide) (by decide) (by decide)
    have f396 := f372.trans CR395
    have f397 := hk395
    have f398 := Nat.le_trans f374 E395.1
    have f399 := f375.ext E395
    have f400 := f376.ext E395
    have f401 := f377.ext E395
    have f402 := f378.ext E395
    have f403 := f379.ext E395
    have f404 := f380.ext E395
    have f405 := f381.ext E395
    have f406 := f382.ext E395
    have f407 := f383.ext E395
    have f408 := f384.ext E395
    have f409 := f385.ext E395
    have f410 := f386.ext E395
    have f411 := f387.ext E395
    have f412 := f388.ext E395
    have f413 := f389.ext E395
    have f414 := f390.ext E395
    have f415 := f391.ext E395
    have f416 := f392.ext E395
    have f417 := f393.ext E395
    have f418 := f394.ext E395
    clear f372 f374 f375 f376 f377 f378 f379 f380 f381 f382 f383 f384 f385 f386 f387 f388 f389 f390 f391 f392 f393 f394
    refine bk (fun t k => st395 t k) ?_
    refine bk (fun t k => XS.iloadN X395.here hx rfl (hb hby at_139) rfl k) ?_
    refine bk (fun t k => XS.aload X395.here hx rfl (hb hby at_140) rfl rfl k) ?_
    show F (T395.setTop (mkF m 142 #[.val (.int p0), .val (.int p1), .val (.int (2 : Int32)), oR sv1, oR sv10, oR sv20, oR b31, oR r56, oR r71, oR r88] [(.ref r56), (.int (2 : Int32)), (.ref b395), (.ref b31)]))
    refine bk (fun t k => XS.aloadN X395.here hx rfl (hb hby at_142) rfl rfl k) ?_
    refine bk (fun t k => XS.aload X395.here hx rfl (hb hby at_143) rfl rfl k) ?_
    refine bk (fun t k => XS.aload X395.here hx rfl (hb hby at_145) rfl rfl k) ?_
    refine bk (fun t k => XS.aload X395.here hx rfl (hb hby at_147) rfl rfl k) ?_
    refine bk (fun t k => XS.aload X395.here hx rfl (hb hby at_149) rfl rfl k) ?_
    show F (T395.setTop (mkF m 151 #[.val (.int p0), .val (.int p1), .val (.int (2 : Int32)), oR sv1, oR sv10, oR sv20, oR b31, oR r56, oR r71, oR r88] [(.ref sv20), (.ref r88), (.ref sv10), (.ref r71), (.ref sv1), (.ref r56), (.int (2 : Int32)), (.ref b395), (.ref b31)]))
    obtain ⟨_, _, ⟨T419, L419, k419, n419⟩, -, Y419, hs419, gr419, ⟨Lc419, hQ419, l419, y419, z419, CR419⟩, st419⟩ := callSS X395 hx (y := oN36) hown395 (mvT hZ395 w_60) (mvT hZ395 w_61) (mvT hZ395 w_62) (mvT hZ395 w_63) (by decide) (backOfSH (W := 0) (rm9_2 l Z a0 hw [] b31 b395 r56 sv1 r71 sv10 r88 sv20 xv1 xv10 (98 : Int32) cs w_e w_de k_de h395 n0 f398 ⟨f403, _, f411, ⟨rfl, f413, _, f414, ⟨rfl, f406, _, f407, rfl⟩⟩⟩ ⟨_, _, A395, C395, V395, R395⟩ f399 hcs f401 f400 f402 own_EW) hZ395 w_63 w_62 (by decide) (by decide) own_EW f396.1) (g := (mkF m 151 #[.val (.int p0), .val (.int p1), .val (.int (2 : Int32)), oR sv1, oR sv10, oR sv20, oR b31, oR r56, oR r71, oR r88] [(.ref sv20), (.ref r88), (.ref sv10), (.ref r71), (.ref sv1), (.ref r56), (.int (2 : Int32)), (.ref b395), (.ref b31)])) rfl (by rw [hml]; rfl) (argsL := [(.ref b31), (.ref b395), (.int (2 : Int32)), (.ref r56), (.ref sv1), (.ref r71), (.ref sv10), (.ref r88), (.ref sv20)]) (rest := []) (lenOf pd0__Lcom_example_quire_quire_readers_Element_Ljava_lang_String_ILcom_example_quire_quire_readers_Element_Ljava_lang_String_Lcom_example_quire_quire_readers_Element_Ljava_lang_String_Lcom_example_quire_quire_readers_Element_Ljava_lang_String__Z rfl) rfl (by show 2 * 0 + _ ≤ _; exact Nat.le_of_eq rfl) (hb hby at_151) (fun _ _ => ⟨rfl, e395, (by decide : 27 + 7 ≤ _), (by decide : 114 + 23 ≤ _)⟩)
    dsimp only [Pt.U, Pt.locs, Pt.cells, Pt.slots, oM9_2] at Y419 hs419 gr419 l419 y419 z419 st419 hQ419
    subst l419 y419 z419
    obtain ⟨X419, hS419, hZ419, hown419⟩ := rebS hS395 (by rw [e395]; exact f397) Y419 hs419 gr419 hZ395 hown395
    obtain ⟨rfl, N419q, K419⟩ := hQ419
    have N419 := Fr.app N371 N419q
    have f420 := f396.trans CR419
    have f421 := Nat.le_trans f397 K419.1
    have f422 := Nat.le_trans f398 K419.1
    have f423 := own_sta0 f399 K419
    have f424 := own_sta0 f400 K419
    have f425 := own_sta0 f401 K419
    have f426 := f402.keep K419 nin0
    have f427 := f403.keep K419
    have f428 := f404.keep K419
    have f429 := f405.keep K419
    have f430 := f406.keep K419 nin0 all0
    have f431 := f407.keep K419 nin0
    have f432 := f408.keep K419
    have f433 := f409.keep K419 nin0 all0
    have f434 := f410.keep K419 nin0
    have f435 := f411.keep K419 nin0
    have f436 := f412.keep K419 nin0
    have f437 := f413.keep K419 nin0 all0
    have f438 := f414.keep K419 nin0
    have f439 := f415.keep K419
    have f440 := f416.keep K419 nin0
    have f441 := f417.keep K419 nin0
    have f442 := f418.keep K419 nin0
    have f443 := A395.keep K419
    have f444 := V395.keep K419 nin0
    have f445 := C395.keep K419 nin0
    have f446 := R395.keep K419 nin0
    clear f396 f397 f398 f399 f400 f401 f402 f403 f404 f405 f406 f407 f408 f409 f410 f411 f412 f413 f414 f415 f416 f417 f418
    refine bk (fun t k => st419.trans k) ?_
    show F (T419.setTop (mkF m 154 #[.val (.int p0), .val (.int p1), .val (.int (2 : Int32)), oR sv1, oR sv10, oR sv20, oR b31, oR r56, oR r71, oR r88] [(.int (1 : Int32))]))
    refine bk (fun t k => XS.ifNo X419.here hx rfl (hb hby at_154) rfl ((if0 _ _).trans (feq (by decide : ¬ ((1 : Int32) = (0 : Int32)))).1) k) ?_
    refine bk (fun t k => XS.iconst X419.here hx rfl (hb hby at_157) k) ?_
    refine bk (fun t k => XS.goto X419.here hx rfl (pc0 := 158) (pc' := 162) rfl (hb hby at_158) (by decide) (by decide) k) ?_
    show F (T419.setTop (mkF m 162 #[.val (.int p0), .val (.int p1), .val (.int (2 : Int32)), oR sv1, oR sv10, oR sv20, oR b31, oR r56, oR r71, oR r88] [(.int (1 : Int32))]))
    rw [hF]
    refine own_retZH X419 hx hS419 (Nat.le_refl _) hZ419 own_EW (by rw [hh]; exact f420) Bd.notSynchronized Bd.returns (hb hby at_162) (by decide) (by decide) ?_
    exact ⟨rfl, N419⟩
  · rw [hnk]
    refine bk (fun t k => XS.iloadN X88.here hx rfl (hb hby at_78) rfl k) ?_
    show F (T88.setTop (mkF m 79 #[.val (.int p0), .val (.int p1), .val (.int (3 : Int32)), oR sv1, oR sv10, oR sv20, oR b31, oR r56, oR r71, oR r88] [(.int (3 : Int32))]))
    refine bk (fun t k => XS.ifNo X88.here hx rfl (hb hby at_79) rfl ((if0 _ _).trans (tlt (by decide : (0 : Int32) < (3 : Int32))).2.2.2) k) ?_
    refine bk (fun t k => XS.aload X88.here hx rfl (hb hby at_82) rfl rfl k) ?_
    refine bk (fun t k => XS.aload X88.here hx rfl (hb hby at_84) rfl rfl k) ?_
    show F (T88.setTop (mkF m 86 #[.val (.int p0), .val (.int p1), .val (.int (3 : Int32)), oR sv1, oR sv10, oR sv20, oR b31, oR r56, oR r71, oR r88] [(.ref r56), (.ref b31)]))
    obtain ⟨cq447, kq447, q447a, q447b, q447c⟩ := isOf hZ88 rfl (f98)
    obtain ⟨_, _, ⟨T447, L447, k447, n447⟩, -, X447, ⟨Lc447, hQ447, l447, y447, z447⟩, st447⟩ := X88.virtualBack hx (y := oN9) (z := oN9) hown88 (mvT hZ88 w_166) (mvT hZ88 w_167) (notFace_of_selects (args := #[]) (mvT hZ88 w_169)) (mvT hZ88 w_169) (mvT hZ88 w_168) (by decide) (backOf (W := 0) (rm23_0 l Z a0 hw [] b31 r56 .null T88.heap n0 f91 f98 f99 f100 Gb31) hZ88 w_170 w_29 (by decide) (by decide)) q447a q447c (g := (mkF m 86 #[.val (.int p0), .val (.int p1), .val (.int (3 : Int32)), oR sv1, oR sv10, oR sv20, oR b31, oR r56, oR r71, oR r88] [(.ref r56), (.ref b31)])) rfl (by rw [hml]; rfl) (Steps.refl _) (argsL := [(.ref r56)]) (rest := []) (lenOf pd0__Lcom_example_quire_quire_readers_Element__V rfl) rfl (by show 2 * 0 + _ ≤ _; exact Nat.le_of_eq rfl) (hb hby at_86) (fun _ _ => ⟨rfl, rfl, (by decide : 16 + 0 ≤ _), (by decide : 75 + 0 ≤ _)⟩)
    dsimp only [Pt.U, Pt.locs, Pt.cells, Pt.slots, oM23_0] at X447 l447 y447 z447 st447 hQ447
    subst l447 y447 z447
    obtain ⟨rfl, N447q, K447, gE447, gA447, gB447⟩ := hQ447
    have N447 := Fr.app N88 N447q
    have f448 := f89.trans (CHr.keep K447 (allS (Safe.exa hZ88.alike f98 (by decide) (by decide)) all0) f89.1)
    have f449 := Nat.le_trans (Nat.le_refl _) K447.1
    have f450 := Nat.le_trans f91 K447.1
    have f451 := own_sta1 f92 K447 f98
    have f452 := own_sta1 f93 K447 f98
    have f453 := own_sta1 f94 K447 f98
    have f454 := f95.keep K447 (ninS ne_w_de_b31 nin0)
    have f455 := f98.keep K447
    have f456 := f101.keep K447
    have f457 := f102.keep K447 (ninS (Ne.symm ne_b31_r56) nin0) (allS (own_nsE f98 (by decide) w_28) all0)
    have f458 := f103.keep K447 (ninS (Ne.symm ne_b31_r56) nin0)
    have f459 := f104.keep K447
    have f460 := f105.keep K447 (ninS (Ne.symm ne_b31_r71) nin0) (allS (own_nsE f98 (by decide) w_28) all0)
    have f461 := f106.keep K447 (ninS (Ne.symm ne_b31_r71) nin0)
    have f462 := gCh88.1.keep K447
    have f463 := gCh88.keep K447 (ninS (Ne.symm ne_b31_r88) nin0) (allS (own_nsE f98 (by decide) w_28) all0)
    have f464 := gNx88.keep K447 (ninS (Ne.symm ne_b31_r88) nin0)
    clear f89 f91 f92 f93 f94 f95 f98 f99 f100 f101 f102 f103 f104 f105 f106
    refine bk (fun t k => st447.trans k) ?_
    refine bk (fun t k => XS.iloadN X447.here hx rfl (hb hby at_89) rfl k) ?_
    refine bk (fun t k => XS.iconst X447.here hx rfl (hb hby at_90) k) ?_
    show F (T447.setTop (mkF m 91 #[.val (.int p0), .val (.int p1), .val (.int (3 : Int32)), oR sv1, oR sv10, oR sv20, oR b31, oR r56, oR r71, oR r88] [(.int (1 : Int32)), (.int (3 : Int32))]))
    refine bk (fun t k => XS.icmpNo X447.here hx rfl (hb hby at_91) rfl (tlt (by decide : (1 : Int32) < (3 : Int32))).2.2.2 k) ?_
    refine bk (fun t k => XS.aload X447.here hx rfl (hb hby at_94) rfl rfl k) ?_
    refine bk (fun t k => XS.aload X447.here hx rfl (hb hby at_96) rfl rfl k) ?_
    show F (T447.setTop (mkF m 98 #[.val (.int p0), .val (.int p1), .val (.int (3 : Int32)), oR sv1, oR sv10, oR sv20, oR b31, oR r56, oR r71, oR r88] [(.ref r71), (.ref b31)]))
    obtain ⟨cq465, kq465, q465a, q465b, q465c⟩ := isOf hZ88 rfl (gE447)
    obtain ⟨_, _, ⟨T465, L465, k465, n465⟩, -, X465, ⟨Lc465, hQ465, l465, y465, z465⟩, st465⟩ := X447.virtualBack hx (y := oN9) (z := oN9) hown88 (mvT hZ88 w_166) (mvT hZ88 w_167) (notFace_of_selects (args := #[]) (mvT hZ88 w_169)) (mvT hZ88 w_169) (mvT hZ88 w_168) (by decide) (backOf (W := 0) (rm23_1 l Z a0 hw [] b31 r71 r56 r56 sv1 xv1 T447.heap n0 f450 gE447 gA447 gB447 f457 f458 Gb31 G_r56 ne_b31_r56) hZ88 w_170 w_29 (by decide) (by decide)) q465a q465c (g := (mkF m 98 #[.val (.int p0), .val (.int p1), .val (.int (3 : Int32)), oR sv1, oR sv10, oR sv20, oR b31, oR r56, oR r71, oR r88] [(.ref r71), (.ref b31)])) rfl (by rw [hml]; rfl) (Steps.refl _) (argsL := [(.ref r71)]) (rest := []) (lenOf pd0__Lcom_example_quire_quire_readers_Element__V rfl) rfl (by show 2 * 0 + _ ≤ _; exact Nat.le_of_eq rfl) (hb hby at_98) (fun _ _ => ⟨rfl, rfl, (by decide : 16 + 0 ≤ _), (by decide : 75 + 0 ≤ _)⟩)
    dsimp only [Pt.U, Pt.locs, Pt.cells, Pt.slots, oM23_1] at X465 l465 y465 z465 st465 hQ465
    subst l465 y465 z465
    obtain ⟨rfl, N465q, K465, gE465, gA465, gB465, gCh465, gNx465⟩ := hQ465
    have N465 := Fr.app N447 N465q
    have f466 := f448.trans (CHr.keep K465 (allS (Safe.exa hZ88.alike gE447 (by decide) (by decide)) (allS (Safe.exa hZ88.alike f456 (by decide) (by decide)) all0)) f448.1)
    have f467 := Nat.le_trans f449 K465.1
    have f468 := Nat.le_trans f450 K465.1
    have f469 := own_staK f451 K465 (allS (Exa.nostat gE447) (allS (Exa.nostat f456) all0))
    have f470 := own_staK f452 K465 (allS (Exa.nostat gE447) (allS (Exa.nostat f456) all0))
    have f471 := own_staK f453 K465 (allS (Exa.nostat gE447) (allS (Exa.nostat f456) all0))
    have f472 := f454.keep K465 (ninS ne_w_de_b31 (ninS (Ne.symm (Exa.neArv f456 f454 w_28)) nin0))
    have f473 := gE447.keep K465
    have f474 := f456.keep K465
    have f475 := f459.keep K465
    have f476 := f460.keep K465 (ninS (Ne.symm ne_b31_r71) (ninS (Ne.symm ne_r56_r71) nin0)) (allS (own_nsE gE447 (by decide) w_28) (allS (own_nsE f456 (by decide) w_28) all0))
    have f477 := f461.keep K465 (ninS (Ne.symm ne_b31_r71) (ninS (Ne.symm ne_r56_r71) nin0))
    have f478 := f462.keep K465
    have f479 := f463.keep K465 (ninS (Ne.symm ne_b31_r88) (ninS (Ne.symm ne_r56_r88) nin0)) (allS (own_nsE gE447 (by decide) w_28) (allS (own_nsE f456 (by decide) w_28) all0))
    have f480 := f464.keep K465 (ninS (Ne.symm ne_b31_r88) (ninS (Ne.symm ne_r56_r88) nin0))
    clear f448 f449 f450 f451 f452 f453 f454 f456 f457 f458 f459 f460 f461 f462 f463 f464
    refine bk (fun t k => st465.trans k) ?_
    refine bk (fun t k => XS.iloadN X465.here hx rfl (hb hby at_101) rfl k) ?_
    refine bk (fun t k => XS.iconst X465.here hx rfl (hb hby at_102) k) ?_
    show F (T465.setTop (mkF m 103 #[.val (.int p0), .val (.int p1), .val (.int (3 : Int32)), oR sv1, oR sv10, oR sv20, oR b31, oR r56, oR r71, oR r88] [(.int (2 : Int32)), (.int (3 : Int32))]))
    refine bk (fun t k => XS.icmpNo X465.here hx rfl (hb hby at_103) rfl (tlt (by decide : (2 : Int32) < (3 : Int32))).2.2.2 k) ?_
    refine bk (fun t k => XS.aload X465.here hx rfl (hb hby at_106) rfl rfl k) ?_
    refine bk (fun t k => XS.aload X465.here hx rfl (hb hby at_108) rfl rfl k) ?_
    show F (T465.setTop (mkF m 110 #[.val (.int p0), .val (.int p1), .val (.int (3 : Int32)), oR sv1, oR sv10, oR sv20, oR b31, oR r56, oR r71, oR r88] [(.ref r88), (.ref b31)]))
    obtain ⟨cq481, kq481, q481a, q481b, q481c⟩ := isOf hZ88 rfl (gE465)
    obtain ⟨_, _, ⟨T481, L481, k481, n481⟩, -, X481, ⟨Lc481, hQ481, l481, y481, z481⟩, st481⟩ := X465.virtualBack hx (y := oN9) (z := oN9) hown88 (mvT hZ88 w_166) (mvT hZ88 w_167) (notFace_of_selects (args := #[]) (mvT hZ88 w_169)) (mvT hZ88 w_169) (mvT hZ88 w_168) (by decide) (backOf (W := 0) (rm23_1 l Z a0 hw [] b31 r88 r56 r71 sv10 xv10 T465.heap n0 f468 gE465 gA465 gB465 f476 f477 Gb31 G_r71 ne_b31_r71) hZ88 w_170 w_29 (by decide) (by decide)) q481a q481c (g := (mkF m 110 #[.val (.int p0), .val (.int p1), .val (.int (3 : Int32)), oR sv1, oR sv10, oR sv20, oR b31, oR r56, oR r71, oR r88] [(.ref r88), (.ref b31)])) rfl (by rw [hml]; rfl) (Steps.refl _) (argsL := [(.ref r88)]) (rest := []) (lenOf pd0__Lcom_example_quire_quire_readers_Element__V rfl) rfl (by show 2 * 0 + _ ≤ _; exact Nat.le_of_eq rfl) (hb hby at_110) (fun _ _ => ⟨rfl, rfl, (by decide : 16 + 0 ≤ _), (by decide : 75 + 0 ≤ _)⟩)
    dsimp only [Pt.U, Pt.locs, Pt.cells, Pt.slots, oM23_1] at X481 l481 y481 z481 st481 hQ481
    subst l481 y481 z481
    obtain ⟨rfl, N481q, K481, gE481, gA481, gB481, gCh481, gNx481⟩ := hQ481
    have N481 := Fr.app N465 N481q
    have f482 := f466.trans (CHr.keep K481 (allS (Safe.exa hZ88.alike gE465 (by decide) (by decide)) (allS (Safe.exa hZ88.alike f475 (by decide) (by decide)) all0)) f466.1)
    have f483 := Nat.le_trans f467 K481.1
    have f484 := Nat.le_trans f468 K481.1
    have f485 := own_staK f469 K481 (allS (Exa.nostat gE465) (allS (Exa.nostat f475) all0))
    have f486 := own_staK f470 K481 (allS (Exa.nostat gE465) (allS (Exa.nostat f475) all0))
    have f487 := own_staK f471 K481 (allS (Exa.nostat gE465) (allS (Exa.nostat f475) all0))
    have f488 := f472.keep K481 (ninS ne_w_de_b31 (ninS (Ne.symm (Exa.neArv f475 f472 w_28)) nin0))
    have f489 := gE465.keep K481
    have f490 := f474.keep K481
    have f491 := f475.keep K481
    have f492 := f478.keep K481
    have f493 := f479.keep K481 (ninS (Ne.symm ne_b31_r88) (ninS (Ne.symm ne_r71_r88) nin0)) (allS (own_nsE gE465 (by decide) w_28) (allS (own_nsE f475 (by decide) w_28) all0))
    have f494 := f480.keep K481 (ninS (Ne.symm ne_b31_r88) (ninS (Ne.symm ne_r71_r88) nin0))
    have f495 := gCh465.keep K481 (ninS (Ne.symm ne_b31_r56) (ninS ne_r56_r71 nin0)) (allS (own_nsE gE465 (by decide) w_28) (allS (own_nsE f475 (by decide) w_28) all0))
    have f496 := gNx465.keep K481 (ninS (Ne.symm ne_b31_r56) (ninS ne_r56_r71 nin0))
    clear f466 f467 f468 f469 f470 f471 f472 f474 f475 f476 f477 f478 f479 f480
    refine bk (fun t k => st481.trans k) ?_
    refine bk (fun t k => XS.aload X481.here hx rfl (hb hby at_113) rfl rfl k) ?_
    show F (T481.setTop (mkF m 115 #[.val (.int p0), .val (.int p1), .val (.int (3 : Int32)), oR sv1, oR sv10, oR sv20, oR b31, oR r56, oR r71, oR r88] [(.ref b31)]))
    obtain ⟨b497, T497, h497, k1497, d497, kk497, X497, e497, E497, hS497, hk497, hZ497, hown497, A497, C497, V497, R497, -, -, CR497, LT497, sf497, st497⟩ := ldcCH X481 hx hZ88 hown88 w_59 own_wS rfl hS88 f483 own_EW (by simp [consts_1]) f482.1 (vs := [(.int (97 : Int32))]) (z := (1 : Int32)) ⟨by decide, rfl⟩ (by decide) (by decide) (g := (mkF m 115 #[.val (.int p0), .val (.int p1), .val (.int (3 : Int32)), oR sv1, oR sv10, oR sv20, oR b31, oR r56, oR r71, oR r88] [(.ref b31)])) rfl (hb hby at_115) (n := 4) (by decide) (by decide) (by decide) (by decide)
    have f498 := f482.trans CR497
    have f499 := hk497
    have f500 := Nat.le_trans f484 E497.1
    have f501 := f485.ext E497
    have f502 := f486.ext E497
    have f503 := f487.ext E497
    have f504 := f488.ext E497
    have f505 := gE481.ext E497
    have f506 := f490.ext E497
    have f507 := f491.ext E497
    have f508 := f492.ext E497
    have f509 := f493.ext E497
    have f510 := f494.ext E497
    have f511 := f495.ext E497
    have f512 := f496.ext E497
    have f513 := gA481.ext E497
    have f514 := gB481.ext E497
    have f515 := gCh481.ext E497
    have f516 := gNx481.ext E497
    clear f482 f483 f484 f485 f486 f487 f488 f490 f491 f492 f493 f494 f495 f496
    refine bk (fun t k => st497 t k) ?_
    refine bk (fun t k => XS.iloadN X497.here hx rfl (hb hby at_117) rfl k) ?_
    refine bk (fun t k => XS.aload X497.here hx rfl (hb hby at_118) rfl rfl k) ?_
    refine bk (fun t k => XS.aloadN X497.here hx rfl (hb hby at_120) rfl rfl k) ?_
    refine bk (fun t k => XS.aload X497.here hx rfl (hb hby at_121) rfl rfl k) ?_
    show F (T497.setTop (mkF m 123 #[.val (.int p0), .val (.int p1), .val (.int (3 : Int32)), oR sv1, oR sv10, oR sv20, oR b31, oR r56, oR r71, oR r88] [(.ref r71), (.ref sv1), (.ref r56), (.int (3 : Int32)), (.ref b497), (.ref b31)]))
    refine bk (fun t k => XS.aload X497.here hx rfl (hb hby at_123) rfl rfl k) ?_
    refine bk (fun t k => XS.aload X497.here hx rfl (hb hby at_125) rfl rfl k) ?_
    refine bk (fun t k => XS.aload X497.here hx rfl (hb hby at_127) rfl rfl k) ?_
    show F (T497.setTop (mkF m 129 #[.val (.int p0), .val (.int p1), .val (.int (3 : Int32)), oR sv1, oR sv10, oR sv20, oR b31, oR r56, oR r71, oR r88] [(.ref sv20), (.ref r88), (.ref sv10), (.ref r71), (.ref sv1), (.ref r56), (.int (3 : Int32)), (.ref b497), (.ref b31)]))
    obtain ⟨_, _, ⟨T517, L517, k517, n517⟩, -, Y517, hs517, gr517, ⟨Lc517, hQ517, l517, y517, z517, CR517⟩, st517⟩ := callSS X497 hx (y := oN36) hown497 (mvT hZ497 w_60) (mvT hZ497 w_61) (mvT hZ497 w_62) (mvT hZ497 w_63) (by decide) (backOfSH (W := 0) (rm9_3 l Z a0 hw [] b31 b497 r56 sv1 r71 sv10 r88 sv20 xv1 xv10 xv20 (97 : Int32) cs w_e w_de k_de h497 n0 f500 ⟨f505, _, f513, ⟨rfl, f511, _, f512, ⟨rfl, f515, _, f516, ⟨rfl, f509, _, f510, rfl⟩⟩⟩⟩ ⟨_, _, A497, C497, V497, R497⟩ f501 hcs f503 f502 f504 own_EW) hZ497 w_63 w_62 (by decide) (by decide) own_EW f498.1) (g := (mkF m 129 #[.val (.int p0), .val (.int p1), .val (.int (3 : Int32)), oR sv1, oR sv10, oR sv20, oR b31, oR r56, oR r71, oR r88] [(.ref sv20), (.ref r88), (.ref sv10), (.ref r71), (.ref sv1), (.ref r56), (.int (3 : Int32)), (.ref b497), (.ref b31)])) rfl (by rw [hml]; rfl) (argsL := [(.ref b31), (.ref b497), (.int (3 : Int32)), (.ref r56), (.ref sv1), (.ref r71), (.ref sv10), (.ref r88), (.ref sv20)]) (rest := []) (lenOf pd0__Lcom_example_quire_quire_readers_Element_Ljava_lang_String_ILcom_example_quire_quire_readers_Element_Ljava_lang_String_Lcom_example_quire_quire_readers_Element_Ljava_lang_String_Lcom_example_quire_quire_readers_Element_Ljava_lang_String__Z rfl) rfl (by show 2 * 0 + _ ≤ _; exact Nat.le_of_eq rfl) (hb hby at_129) (fun _ _ => ⟨rfl, e497, (by decide : 18 + 7 ≤ _), (by decide : 83 + 23 ≤ _)⟩)
    dsimp only [Pt.U, Pt.locs, Pt.cells, Pt.slots, oM9_3] at Y517 hs517 gr517 l517 y517 z517 st517 hQ517
    subst l517 y517 z517
    obtain ⟨X517, hS517, hZ517, hown517⟩ := rebS hS497 (by rw [e497]; exact f499) Y517 hs517 gr517 hZ497 hown497
    obtain ⟨rfl, N517q, K517⟩ := hQ517
    have N517 := Fr.app N481 N517q
    have f518 := f498.trans CR517
    have f519 := Nat.le_trans f499 K517.1
    have f520 := Nat.le_trans f500 K517.1
    have f521 := own_sta0 f501 K517
    have f522 := own_sta0 f502 K517
    have f523 := own_sta0 f503 K517
    have f524 := f504.keep K517 nin0
    have f525 := f505.keep K517
    have f526 := f506.keep K517
    have f527 := f507.keep K517
    have f528 := f508.keep K517
    have f529 := f509.keep K517 nin0 all0
    have f530 := f510.keep K517 nin0
    have f531 := f511.keep K517 nin0 all0
    have f532 := f512.keep K517 nin0
    have f533 := f513.keep K517 nin0
    have f534 := f514.keep K517 nin0
    have f535 := f515.keep K517 nin0 all0
    have f536 := f516.keep K517 nin0
    have f537 := A497.keep K517
    have f538 := V497.keep K517 nin0
    have f539 := C497.keep K517 nin0
    have f540 := R497.keep K517 nin0
    clear f498 f499 f500 f501 f502 f503 f504 f505 f506 f507 f508 f509 f510 f511 f512 f513 f514 f515 f516
    refine bk (fun t k => st517.trans k) ?_
    show F (T517.setTop (mkF m 132 #[.val (.int p0), .val (.int p1), .val (.int (3 : Int32)), oR sv1, oR sv10, oR sv20, oR b31, oR r56, oR r71, oR r88] [(.int (1 : Int32))]))
    refine bk (fun t k => XS.ifNo X517.here hx rfl (hb hby at_132) rfl ((if0 _ _).trans (feq (by decide : ¬ ((1 : Int32) = (0 : Int32)))).1) k) ?_
    refine bk (fun t k => XS.aload X517.here hx rfl (hb hby at_135) rfl rfl k) ?_
    obtain ⟨b541, T541, h541, k1541, d541, kk541, X541, e541, E541, hS541, hk541, hZ541, hown541, A541, C541, V541, R541, -, -, CR541, LT541, sf541, st541⟩ := ldcCH X517 hx hZ517 hown517 w_165 own_wS rfl hS517 (Nat.le_refl _) own_EW (by simp [consts_1]) f518.1 (vs := [(.int (98 : Int32))]) (z := (1 : Int32)) ⟨by decide, rfl⟩ (by decide) (by decide) (g := (mkF m 137 #[.val (.int p0), .val (.int p1), .val (.int (3 : Int32)), oR sv1, oR sv10, oR sv20, oR b31, oR r56, oR r71, oR r88] [(.ref b31)])) rfl (hb hby at_137) (n := 4) (by decide) (by decide) (by decide) (by decide)
    have f542 := f518.trans CR541
    have f543 := hk541
    have f544 := Nat.le_trans f520 E541.1
    have f545 := f521.ext E541
    have f546 := f522.ext E541
    have f547 := f523.ext E541
    have f548 := f524.ext E541
    have f549 := f525.ext E541
    have f550 := f526.ext E541
    have f551 := f527.ext E541
    have f552 := f528.ext E541
    have f553 := f529.ext E541
    have f554 := f530.ext E541
    have f555 := f531.ext E541
    have f556 := f532.ext E541
    have f557 := f533.ext E541
    have f558 := f534.ext E541
    have f559 := f535.ext E541
    have f560 := f536.ext E541
    have f561 := f537.ext E541
    have f562 := f538.ext E541
    have f563 := f539.ext E541
    have f564 := f540.ext E541
    clear f518 f520 f521 f522 f523 f524 f525 f526 f527 f528 f529 f530 f531 f532 f533 f534 f535 f536 f537 f538 f539 f540
    refine bk (fun t k => st541 t k) ?_
    refine bk (fun t k => XS.iloadN X541.here hx rfl (hb hby at_139) rfl k) ?_
    refine bk (fun t k => XS.aload X541.here hx rfl (hb hby at_140) rfl rfl k) ?_
    show F (T541.setTop (mkF m 142 #[.val (.int p0), .val (.int p1), .val (.int (3 : Int32)), oR sv1, oR sv10, oR sv20, oR b31, oR r56, oR r71, oR r88] [(.ref r56), (.int (3 : Int32)), (.ref b541), (.ref b31)]))
    refine bk (fun t k => XS.aloadN X541.here hx rfl (hb hby at_142) rfl rfl k) ?_
    refine bk (fun t k => XS.aload X541.here hx rfl (hb hby at_143) rfl rfl k) ?_
    refine bk (fun t k => XS.aload X541.here hx rfl (hb hby at_145) rfl rfl k) ?_
    refine bk (fun t k => XS.aload X541.here hx rfl (hb hby at_147) rfl rfl k) ?_
    refine bk (fun t k => XS.aload X541.here hx rfl (hb hby at_149) rfl rfl k) ?_
    show F (T541.setTop (mkF m 151 #[.val (.int p0), .val (.int p1), .val (.int (3 : Int32)), oR sv1, oR sv10, oR sv20, oR b31, oR r56, oR r71, oR r88] [(.ref sv20), (.ref r88), (.ref sv10), (.ref r71), (.ref sv1), (.ref r56), (.int (3 : Int32)), (.ref b541), (.ref b31)]))
    obtain ⟨_, _, ⟨T565, L565, k565, n565⟩, -, Y565, hs565, gr565, ⟨Lc565, hQ565, l565, y565, z565, CR565⟩, st565⟩ := callSS X541 hx (y := oN36) hown541 (mvT hZ541 w_60) (mvT hZ541 w_61) (mvT hZ541 w_62) (mvT hZ541 w_63) (by decide) (backOfSH (W := 0) (rm9_3 l Z a0 hw [] b31 b541 r56 sv1 r71 sv10 r88 sv20 xv1 xv10 xv20 (98 : Int32) cs w_e w_de k_de h541 n0 f544 ⟨f549, _, f557, ⟨rfl, f555, _, f556, ⟨rfl, f559, _, f560, ⟨rfl, f553, _, f554, rfl⟩⟩⟩⟩ ⟨_, _, A541, C541, V541, R541⟩ f545 hcs f547 f546 f548 own_EW) hZ541 w_63 w_62 (by decide) (by decide) own_EW f542.1) (g := (mkF m 151 #[.val (.int p0), .val (.int p1), .val (.int (3 : Int32)), oR sv1, oR sv10, oR sv20, oR b31, oR r56, oR r71, oR r88] [(.ref sv20), (.ref r88), (.ref sv10), (.ref r71), (.ref sv1), (.ref r56), (.int (3 : Int32)), (.ref b541), (.ref b31)])) rfl (by rw [hml]; rfl) (argsL := [(.ref b31), (.ref b541), (.int (3 : Int32)), (.ref r56), (.ref sv1), (.ref r71), (.ref sv10), (.ref r88), (.ref sv20)]) (rest := []) (lenOf pd0__Lcom_example_quire_quire_readers_Element_Ljava_lang_String_ILcom_example_quire_quire_readers_Element_Ljava_lang_String_Lcom_example_quire_quire_readers_Element_Ljava_lang_String_Lcom_example_quire_quire_readers_Element_Ljava_lang_String__Z rfl) rfl (by show 2 * 0 + _ ≤ _; exact Nat.le_of_eq rfl) (hb hby at_151) (fun _ _ => ⟨rfl, e541, (by decide : 27 + 7 ≤ _), (by decide : 114 + 23 ≤ _)⟩)
    dsimp only [Pt.U, Pt.locs, Pt.cells, Pt.slots, oM9_3] at Y565 hs565 gr565 l565 y565 z565 st565 hQ565
    subst l565 y565 z565
    obtain ⟨X565, hS565, hZ565, hown565⟩ := rebS hS541 (by rw [e541]; exact f543) Y565 hs565 gr565 hZ541 hown541
    obtain ⟨rfl, N565q, K565⟩ := hQ565
    have N565 := Fr.app N517 N565q
    have f566 := f542.trans CR565
    have f567 := Nat.le_trans f543 K565.1
    have f568 := Nat.le_trans f544 K565.1
    have f569 := own_sta0 f545 K565
    have f570 := own_sta0 f546 K565
    have f571 := own_sta0 f547 K565
    have f572 := f548.keep K565 nin0
    have f573 := f549.keep K565
    have f574 := f550.keep K565
    have f575 := f551.keep K565
    have f576 := f552.keep K565
    have f577 := f553.keep K565 nin0 all0
    have f578 := f554.keep K565 nin0
    have f579 := f555.keep K565 nin0 all0
    have f580 := f556.keep K565 nin0
    have f581 := f557.keep K565 nin0
    have f582 := f558.keep K565 nin0
    have f583 := f559.keep K565 nin0 all0
    have f584 := f560.keep K565 nin0
    have f585 := f561.keep K565
    have f586 := f562.keep K565 nin0
    have f587 := f563.keep K565 nin0
    have f588 := f564.keep K565 nin0
    have f589 := A541.keep K565
    have f590 := V541.keep K565 nin0
    have f591 := C541.keep K565 nin0
    have f592 := R541.keep K565 nin0
    clear f542 f543 f544 f545 f546 f547 f548 f549 f550 f551 f552 f553 f554 f555 f556 f557 f558 f559 f560 f561 f562 f563 f564
    refine bk (fun t k => st565.trans k) ?_
    show F (T565.setTop (mkF m 154 #[.val (.int p0), .val (.int p1), .val (.int (3 : Int32)), oR sv1, oR sv10, oR sv20, oR b31, oR r56, oR r71, oR r88] [(.int (1 : Int32))]))
    refine bk (fun t k => XS.ifNo X565.here hx rfl (hb hby at_154) rfl ((if0 _ _).trans (feq (by decide : ¬ ((1 : Int32) = (0 : Int32)))).1) k) ?_
    refine bk (fun t k => XS.iconst X565.here hx rfl (hb hby at_157) k) ?_
    refine bk (fun t k => XS.goto X565.here hx rfl (pc0 := 158) (pc' := 162) rfl (hb hby at_158) (by decide) (by decide) k) ?_
    show F (T565.setTop (mkF m 162 #[.val (.int p0), .val (.int p1), .val (.int (3 : Int32)), oR sv1, oR sv10, oR sv20, oR b31, oR r56, oR r71, oR r88] [(.int (1 : Int32))]))
    rw [hF]
    refine own_retZH X565 hx hS565 (Nat.le_refl _) hZ565 own_EW (by rw [hh]; exact f566) Bd.notSynchronized Bd.returns (hb hby at_162) (by decide) (by decide) ?_
    exact ⟨rfl, N565⟩
set_option maxRecDepth 65536 in
set_option maxHeartbeats 40000000 in
theorem comes_1 {Post : Tables → Env → Array Value → State → Outcome → State → Prop} (hpost : ∀ tb e args s v u, (limb_1_1.after args s (.returned v) u = true ∧ limb_1_2.after args s (.returned v) u = true ∧ True) → ReturnedEndW s (.returned v) u (Jvm.fieldLocs frame_1_writes args s ++ Jvm.arrayLocs frame_1_arrays args s ++ Jvm.staticLocs frame_1_statics s) 56 4416 → Post tb e args s (.returned v) u) :
    ArmFor flags0 classFile x code maxLocals ret World_1 tables_1 room_1 Calls_1 rest_1 Pre_1 Post := by
  intro l hfl _ _ p e ha hc hk s m args below hf hA hF happ hP
  obtain ⟨hcalls, hrest, hpre⟩ := hP
  obtain ⟨-, -, -, hnamed, -, -, -, hat⟩ := (Spec.applies_iff hf).mp happ
  obtain ⟨hg, hn⟩ := and_e (Cond.before_iff.mp (show (Jvm.Cond.and given_1 narrow_1).before args s = true from hpre))
  obtain ⟨hcount, hk0⟩ := and_e hg
  obtain ⟨hi0, hk1⟩ := and_e hk0
  have hi1 := hk1
  obtain ⟨w0, w1, rfl⟩ : ∃ w0 w1 : Value, args = #[w0, w1] := by
    have hs : args.size = 2 := by simpa [Cond.value, given_1] using hcount
    obtain ⟨L⟩ := args
    match L, hs with
    | [w0, w1], _ => exact ⟨w0, w1, rfl⟩
  have hw := fun d (hd : d ∈ tables_1) => atoms_spec (ws := Jvm.Cond.code x code maxLocals ret :: tables_1) hat d (List.mem_cons_of_mem _ hd)
  obtain ⟨i0, ei0⟩ := is_v hi0
  obtain rfl : w0 = (.int i0) := Option.some.inj ei0
  obtain ⟨i1, ei1⟩ := is_v hi1
  obtain rfl : w1 = (.int i1) := Option.some.inj ei1
  obtain ⟨hsets, hown0⟩ := atoms_of _ (rest_1_c_eq ▸ (show rest_1_c.before _ s = true from hrest))
  obtain ⟨cs, ecs⟩ := is_v (Cond.before_iff.mp (hsets _ (List.mem_of_getElem? (i := 1) rfl)))
  have S_cs : Sta s s.heap "java/lang/String" "COMPACT_STRINGS" "Z" (.int cs) := Sta.start ecs (Or.inl (hsets _ (List.mem_of_getElem? (i := 0) rfl)))
  have own_hc := hsets _ (List.mem_of_getElem? (i := 2) rfl)
  have hcs : ¬ cs = (0 : Int32) := gotF (P := cs = (0 : Int32)) (by simp [Cond.value, ecs, Term.int_eval]) (not_v (Cond.before_iff.mp own_hc))
  obtain ⟨hna, hnl⟩ := and_e hn
  obtain ⟨w_na, ev_na⟩ := arr_v hna
  have S_na : Sta s s.heap "com/example/quire/quire/readers/Element" "NO_ATTRIBUTES" "[Ljava/lang/String;" (.ref w_na) := Sta.start ev_na (Or.inr ⟨(hw _ (List.mem_of_getElem? (i := 29) rfl)), (hw _ (List.mem_of_getElem? (i := 35) rfl))⟩)
  have ha_e := Cond.before_iff.mp (hsets _ (List.mem_of_getElem? (i := 11) rfl))
  obtain ⟨w_e, ev_e⟩ := exa_v ha_e
  have S_e : Sta s s.heap "java/util/ImmutableCollections" "EMPTY" "Ljava/lang/Object;" (.ref w_e) := Sta.start ev_e (Or.inl (hsets _ (List.mem_of_getElem? (i := 10) rfl)))
  have ha_d := Cond.before_iff.mp (hsets _ (List.mem_of_getElem? (i := 24) rfl))
  have hl_d := Cond.before_iff.mp (hsets _ (List.mem_of_getElem? (i := 26) rfl))
  obtain ⟨w_de, ev_d⟩ := arr_v ha_d
  have S_de : Sta s s.heap "java/util/ArrayList" "DEFAULTCAPACITY_EMPTY_ELEMENTDATA" "[Ljava/lang/Object;" (.ref w_de) := Sta.start ev_d (Or.inr ⟨(hw _ (List.mem_of_getElem? (i := 115) rfl)), hsets _ (List.mem_of_getElem? (i := 20) rfl)⟩)
  obtain ⟨k_de, V_de⟩ := own_arv0 ev_d ha_d hl_d
  have own_EW : EW s #[.int i0, .int i1] consts_1 := EW.cons (hw _ (List.mem_of_getElem? (i := 43) rfl)) (by decide) (EW.cons (hw _ (List.mem_of_getElem? (i := 59) rfl)) (by decide) (EW.cons (hw _ (List.mem_of_getElem? (i := 165) rfl)) (by decide) (EW.cons (hw _ (List.mem_of_getElem? (i := 65) rfl)) (by decide) EW.nil)))
  have own_C0 : CHv s consts_1 s.vm s.heap := CHv.start own_EW (fun p hp => hcalls.1 p hp) own_hc (hw _ (List.mem_of_getElem? (i := 15) rfl)) (hw _ (List.mem_of_getElem? (i := 11) rfl))
  obtain ⟨n, o, h1, h2, h3, _, L, rfl, ⟨rfl, N⟩, -, hq⟩ := rm0 l s _ hw tables_1 i0 i1 cs w_na w_e w_de k_de s.heap s.heap.size (Nat.le_refl _) S_na S_cs hcs S_e S_de V_de own_EW p e ha hc hk s m _ below hf ((Spec.applies_iff_loose hf).mp happ).1 ⟨rfl, State.Warmed39.refl s, rfl, own_C0⟩ trivial
  refine ⟨n, _, h1, h2, h3, hpost _ _ _ _ _ _ ⟨Cond.after_iff.mpr rfl, Cond.after_iff.mpr (eq_i res_at (Term.int_eval (1)) rfl), trivial⟩ ⟨hq.1, hq.2.1, hq.2.2.1, (hq.2.2.2.sift fun y hy => Or.inr (N y hy)).mono (by decide) (by decide)⟩⟩
theorem main_1_1 : Claimed_1_1 := comes_1 fun _ _ _ _ _ _ h hF => ⟨h.1, hF⟩
theorem main_1_2 : Claimed_1_2 := comes_1 fun _ _ _ _ _ _ h hF => ⟨h.2.1, hF⟩
end Jvm.Pilot.@@N@@
namespace Jvm.Pilot.@@N@@
open Jvm Jvm.ClassFile Sem Op Lib Jvm.Free Jvm.Stand Jvm.Pilot.@@N@@.Jvm.D
/-! MADE BY PROGRAM (witnessworld.py) out of the Statement's table words and the real class files: 35 classes; the members and pool entries that the words name. The judged class is class 1, her method 1. -/
namespace start1
open Jvm.ClassFile
def u (s : String) : CpInfo := .utf8 (stringToUtf16 s)
/-- a pool by its gaps: so many unusable entries, then the entry; so many at the end -/
def gap : Nat → List CpInfo → List CpInfo
  | 0, r => r
  | n + 1, r => .unusable :: gap n r
def poolList (es : List (Nat × CpInfo)) (last : Nat) : List CpInfo := es.foldr (fun e r => gap e.1 (e.2 :: r)) (gap last [])
def pool (es : List (Nat × CpInfo)) (last : Nat) : Array CpInfo := ⟨poolList es last⟩
def fileOf (pool : Array CpInfo) (this : Nat) (attrs : Array Attribute := #[]) (ms : Array MethodInfo := #[]) (fl : Nat := 33) (sup : Nat := 0) (ifs : Array Nat := #[]) (fds : Array FieldInfo := #[]) : ClassFile where
  minorVersion := 0
  majorVersion := 65
  constantPool := pool
  accessFlags := fl
  thisClass := this
  superClass := sup
  interfaces := ifs
  fields := fds
  methods := ms
  attributes := attrs
def plain (name : String) (sup : Option ClassId) : Class where
  name := name
  kind := .ordinary
  loader := none
  accessFlags := 33
  super := sup
  interfaces := #[]
  cf := none
  fields := #[]
  methods := #[]
  instanceTypes := #[]
  staticTypes := #[]
  resolved := #[]
  callSites := []
  init := .initialized
  statics := none
  mirror := none

def pool0 : Array CpInfo := pool [(5, u "<init>"), (0, u "()V"), (1, .class_ 10), (1, u "java/lang/Object")] 113

def k0c0 : Code := { maxStack := 0, maxLocals := 1, code := object_method_1_code, exceptionTable := #[], attributes := #[] }
def k0m0 : Method := { name := "<init>", desc := "()V", sig := { parameters := [], returnType := none }, accessFlags := 1, code := some k0c0 }
/-- java/lang/Object -/
def k0 : Class := { plain "java/lang/Object" none with
  accessFlags := 33
  interfaces := #[]
  cf := some (fileOf pool0 8 #[] #[{ accessFlags := 1, nameIndex := 5, descriptorIndex := 6, attributes := #[] }] 33 0 #[] #[])
  fields := #[]
  methods := #[k0m0]
  instanceTypes := #[]
  staticTypes := #[]
  resolved := Array.replicate 124 none
  statics := none }

def pool1 : Array CpInfo := pool [(2, .class_ 4), (0, .nameAndType 5 6), (0, u "java/lang/Object"), (0, u "<init>"), (0, u "()V"), (0, .integer 2147483647), (0, .methodref 9 10), (0, .class_ 11), (0, .nameAndType 12 13), (0, u "java/lang/String"), (0, u "valueOf"), (0, u "(C)Ljava/lang/String;"), (0, .class_ 15), (0, u "com/example/quire/quire/readers/Element"), (0, .methodref 14 3), (0, .methodref 14 18), (0, .nameAndType 19 20), (0, u "holdingNothing"), (0, u "(Ljava/lang/String;I)Lcom/example/quire/quire/readers/Element;"), (0, .methodref 14 22), (0, .nameAndType 23 24), (0, u "add"), (0, u "(Lcom/example/quire/quire/readers/Element;)V"), (0, .string 26), (0, u "a"), (0, .methodref 28 29), (0, .class_ 30), (0, .nameAndType 31 32), (0, u "com/example/quire/quire/readers/ElementAddPinLaw"), (0, u "matches"), (0, u "(Lcom/example/quire/quire/readers/Element;Ljava/lang/String;ILcom/example/quire/quire/readers/Element;Ljava/lang/String;Lcom/example/quire/quire/readers/Element;Ljava/lang/String;Lcom/example/quire/quire/readers/Element;Ljava/lang/String;)Z"), (0, .string 34), (0, u "b"), (0, .methodref 9 36), (0, .nameAndType 37 38), (0, u "equals"), (0, u "(Ljava/lang/Object;)Z"), (0, .string 40), (0, u ""), (0, .methodref 14 42), (0, .nameAndType 43 44), (0, u "find"), (0, u "(ZLjava/lang/String;[Ljava/lang/String;)Ljava/util/List;"), (0, .interfaceMethodref 46 47), (0, .class_ 48), (0, .nameAndType 49 50), (0, u "java/util/List"), (0, u "size"), (0, u "()I"), (0, .interfaceMethodref 46 52), (0, .nameAndType 53 54), (0, u "get"), (0, u "(I)Ljava/lang/Object;"), (2, u "law"), (0, u "(II)Z")] 5

def k1m0 : Method := { name := "<init>", desc := "()V", sig := { parameters := [], returnType := none }, accessFlags := 1, code := none }
def k1c1 : Code := { maxStack := 9, maxLocals := 10, code := code, exceptionTable := #[], attributes := #[] }
def k1m1 : Method := { name := "law", desc := "(II)Z", sig := { parameters := [.int, .int], returnType := some .boolean }, accessFlags := 9, code := some k1c1 }
def k1c2 : Code := { maxStack := 7, maxLocals := 13, code := method_3_code, exceptionTable := #[], attributes := #[] }
def k1m2 : Method := { name := "matches", desc := "(Lcom/example/quire/quire/readers/Element;Ljava/lang/String;ILcom/example/quire/quire/readers/Element;Ljava/lang/String;Lcom/example/quire/quire/readers/Element;Ljava/lang/String;Lcom/example/quire/quire/readers/Element;Ljava/lang/String;)Z", sig := { parameters := [(.object "com/example/quire/quire/readers/Element"), (.object "java/lang/String"), .int, (.object "com/example/quire/quire/readers/Element"), (.object "java/lang/String"), (.object "com/example/quire/quire/readers/Element"), (.object "java/lang/String"), (.object "com/example/quire/quire/readers/Element"), (.object "java/lang/String")], returnType := some .boolean }, accessFlags := 10, code := some k1c2 }
/-- com/example/quire/quire/readers/ElementAddPinLaw -/
def k1 : Class := { plain "com/example/quire/quire/readers/ElementAddPinLaw" (some 0) with
  accessFlags := 49
  interfaces := #[]
  cf := some (fileOf pool1 28 #[] #[{ accessFlags := 1, nameIndex := 5, descriptorIndex := 6, attributes := #[] }, { accessFlags := 9, nameIndex := 57, descriptorIndex := 58, attributes := #[] }, { accessFlags := 10, nameIndex := 31, descriptorIndex := 32, attributes := #[] }] 49 2 #[] #[])
  fields := #[]
  methods := #[k1m0, k1m1, k1m2]
  instanceTypes := #[]
  staticTypes := #[]
  resolved := Array.replicate 64 none
  statics := none }

def pool2 : Array CpInfo := pool [(1, .class_ 2), (0, u "java/io/Serializable"), (0, .class_ 4), (0, u "java/lang/Object")] 2

/-- java/io/Serializable -/
def k2 : Class := { plain "java/io/Serializable" (some 0) with
  accessFlags := 1537
  interfaces := #[]
  cf := some (fileOf pool2 1 #[] #[] 1537 3 #[] #[])
  fields := #[]
  methods := #[]
  instanceTypes := #[]
  staticTypes := #[]
  resolved := Array.replicate 7 none
  statics := none }

def pool3 : Array CpInfo := pool [(1, .class_ 2), (0, u "java/lang/Comparable"), (0, .class_ 4), (0, u "java/lang/Object")] 7

/-- java/lang/Comparable -/
def k3 : Class := { plain "java/lang/Comparable" (some 0) with
  accessFlags := 1537
  interfaces := #[]
  cf := some (fileOf pool3 1 #[] #[] 1537 3 #[] #[])
  fields := #[]
  methods := #[]
  instanceTypes := #[]
  staticTypes := #[]
  resolved := Array.replicate 12 none
  statics := none }

def pool4 : Array CpInfo := pool [(2, .class_ 4), (1, u "java/lang/CharSequence"), (42, .class_ 48), (0, u "java/lang/CharSequence$1CodePointIterator"), (10, .class_ 60), (0, u "java/lang/CharSequence$1CharIterator"), (5, .class_ 67), (0, u "java/lang/Object")] 63

/-- java/lang/CharSequence -/
def k4 : Class := { plain "java/lang/CharSequence" (some 0) with
  accessFlags := 1537
  interfaces := #[]
  cf := some (fileOf pool4 2 #[.nestMembers #[47, 59]] #[] 1537 66 #[] #[])
  fields := #[]
  methods := #[]
  instanceTypes := #[]
  staticTypes := #[]
  resolved := Array.replicate 131 none
  statics := none }

def pool5 : Array CpInfo := pool [(1, .class_ 2), (0, u "java/lang/constant/Constable"), (0, .class_ 4), (0, u "java/lang/Object")] 6

/-- java/lang/constant/Constable -/
def k5 : Class := { plain "java/lang/constant/Constable" (some 0) with
  accessFlags := 1537
  interfaces := #[]
  cf := some (fileOf pool5 1 #[] #[] 1537 3 #[] #[])
  fields := #[]
  methods := #[]
  instanceTypes := #[]
  staticTypes := #[]
  resolved := Array.replicate 11 none
  statics := none }

def pool6 : Array CpInfo := pool [(1, .class_ 2), (0, u "java/lang/constant/ConstantDesc"), (0, .class_ 4), (0, u "java/lang/Object")] 32

/-- java/lang/constant/ConstantDesc -/
def k6 : Class := { plain "java/lang/constant/ConstantDesc" (some 0) with
  accessFlags := 1537
  interfaces := #[]
  cf := some (fileOf pool6 1 #[] #[] 1537 3 #[] #[])
  fields := #[]
  methods := #[]
  instanceTypes := #[]
  staticTypes := #[]
  resolved := Array.replicate 37 none
  statics := none }

def pool7 : Array CpInfo := pool [(1, .methodref 2 3), (0, .class_ 4), (0, .nameAndType 5 6), (0, u "java/lang/Object"), (0, u "<init>"), (0, u "()V"), (2, .fieldref 10 11), (0, .class_ 12), (0, .nameAndType 13 14), (0, u "java/lang/String"), (0, u "value"), (0, u "[B"), (0, .fieldref 10 16), (0, .nameAndType 17 18), (0, u "coder"), (0, u "B"), (2, u "hash"), (0, u "I"), (2, u "hashIsZero"), (0, u "Z"), (11, .fieldref 10 39), (0, .nameAndType 40 26), (0, u "COMPACT_STRINGS"), (12, u "toBytes"), (53, .class_ 109), (1, u "java/lang/StringLatin1"), (99, .methodref 10 210), (0, .nameAndType 5 211), (0, u "([BB)V"), (157, u "(C)Z"), (171, .methodref 107 542), (0, .nameAndType 543 544), (0, u "equals"), (0, u "([B[B)Z"), (28, u "(Ljava/lang/Object;)Z"), (1, .class_ 576), (0, u "java/lang/CharSequence"), (22, u "CASE_INSENSITIVE_ORDER"), (0, u "Ljava/util/Comparator;"), (181, u "valueOf"), (0, u "(C)Ljava/lang/String;"), (231, .methodref 107 1016), (0, .nameAndType 1017 369), (0, u "canEncode"), (0, .methodref 107 1019), (0, .nameAndType 53 1020), (0, u "(C)[B"), (80, u "serialPersistentFields"), (0, u "[Ljava/io/ObjectStreamField;"), (0, .class_ 1104), (0, u "java/lang/String$CaseInsensitiveComparator"), (1, .class_ 1107), (0, u "java/io/Serializable"), (0, .class_ 1109), (0, u "java/lang/Comparable"), (0, .class_ 1111), (0, u "java/lang/constant/Constable"), (0, .class_ 1113), (0, u "java/lang/constant/ConstantDesc"), (2, u "serialVersionUID"), (0, u "J"), (3, u "REPL"), (0, u "C"), (2, u "LATIN1"), (1, u "UTF16")] 323

def k7m0 : Method := { name := "<init>", desc := "()V", sig := { parameters := [], returnType := none }, accessFlags := 1, code := none }
def k7c1 : Code := { maxStack := 2, maxLocals := 3, code := jdk_42_method_66_code, exceptionTable := #[], attributes := #[] }
def k7m1 : Method := { name := "equals", desc := "(Ljava/lang/Object;)Z", sig := { parameters := [(.object "java/lang/Object")], returnType := some .boolean }, accessFlags := 1, code := some k7c1 }
def k7c2 : Code := { maxStack := 4, maxLocals := 1, code := jdk_42_method_139_code, exceptionTable := #[], attributes := #[] }
def k7m2 : Method := { name := "valueOf", desc := "(C)Ljava/lang/String;", sig := { parameters := [.char], returnType := some (.object "java/lang/String") }, accessFlags := 9, code := some k7c2 }
def k7c3 : Code := { maxStack := 2, maxLocals := 3, code := jdk_42_method_151_code, exceptionTable := #[], attributes := #[] }
def k7m3 : Method := { name := "<init>", desc := "([BB)V", sig := { parameters := [(.array .byte), .byte], returnType := none }, accessFlags := 0, code := some k7c3 }
/-- java/lang/String -/
def k7 : Class := { plain "java/lang/String" (some 0) with
  accessFlags := 49
  interfaces := #[2, 3, 4, 5, 6]
  cf := some (fileOf pool7 10 #[.nestMembers #[1103]] #[{ accessFlags := 1, nameIndex := 5, descriptorIndex := 6, attributes := #[] }, { accessFlags := 1, nameIndex := 543, descriptorIndex := 573, attributes := #[] }, { accessFlags := 9, nameIndex := 782, descriptorIndex := 783, attributes := #[] }, { accessFlags := 0, nameIndex := 5, descriptorIndex := 211, attributes := #[] }] 49 2 #[1106, 1108, 575, 1110, 1112] #[{ accessFlags := 18, nameIndex := 13, descriptorIndex := 14, attributes := #[] }, { accessFlags := 18, nameIndex := 17, descriptorIndex := 18, attributes := #[] }, { accessFlags := 2, nameIndex := 21, descriptorIndex := 22, attributes := #[] }, { accessFlags := 2, nameIndex := 25, descriptorIndex := 26, attributes := #[] }, { accessFlags := 26, nameIndex := 1116, descriptorIndex := 1117, attributes := #[] }, { accessFlags := 24, nameIndex := 40, descriptorIndex := 26, attributes := #[] }, { accessFlags := 26, nameIndex := 1101, descriptorIndex := 1102, attributes := #[] }, { accessFlags := 26, nameIndex := 1121, descriptorIndex := 1122, attributes := #[] }, { accessFlags := 25, nameIndex := 599, descriptorIndex := 600, attributes := #[] }, { accessFlags := 24, nameIndex := 1125, descriptorIndex := 18, attributes := #[] }, { accessFlags := 24, nameIndex := 1127, descriptorIndex := 18, attributes := #[] }])
  fields := #[{ name := "value", type := (.array .byte), accessFlags := 18, slot := 0, constantValue := 0 }, { name := "coder", type := .byte, accessFlags := 18, slot := 1, constantValue := 0 }, { name := "hash", type := .int, accessFlags := 2, slot := 2, constantValue := 0 }, { name := "hashIsZero", type := .boolean, accessFlags := 2, slot := 3, constantValue := 0 }, { name := "serialVersionUID", type := .long, accessFlags := 26, slot := 0, constantValue := 0 }, { name := "COMPACT_STRINGS", type := .boolean, accessFlags := 24, slot := 1, constantValue := 0 }, { name := "serialPersistentFields", type := (.array (.object "java/io/ObjectStreamField")), accessFlags := 26, slot := 2, constantValue := 0 }, { name := "REPL", type := .char, accessFlags := 26, slot := 3, constantValue := 0 }, { name := "CASE_INSENSITIVE_ORDER", type := (.object "java/util/Comparator"), accessFlags := 25, slot := 4, constantValue := 0 }, { name := "LATIN1", type := .byte, accessFlags := 24, slot := 5, constantValue := 0 }, { name := "UTF16", type := .byte, accessFlags := 24, slot := 6, constantValue := 0 }]
  methods := #[k7m0, k7m1, k7m2, k7m3]
  instanceTypes := #[(.array .byte), .byte, .int, .boolean]
  staticTypes := #[.long, .boolean, (.array (.object "java/io/ObjectStreamField")), .char, (.object "java/util/Comparator"), .byte, .byte]
  resolved := Array.replicate 1451 none
  statics := some 0 }

def pool8 : Array CpInfo := pool [(4, .class_ 6), (1, u "java/lang/Object"), (0, u "<init>"), (0, u "()V"), (5, .class_ 16), (1, u "java/lang/StringLatin1"), (73, u "canEncode"), (14, u "(C)Z"), (15, u "$assertionsDisabled"), (0, u "Z"), (98, .class_ 223), (1, u "java/lang/StringLatin1$LinesSpliterator"), (57, u "equals"), (0, u "([B[B)Z"), (97, u "toBytes"), (1, u "(C)[B"), (7, .class_ 391), (0, u "java/lang/StringLatin1$CharsSpliterator")] 3

def k8m0 : Method := { name := "<init>", desc := "()V", sig := { parameters := [], returnType := none }, accessFlags := 0, code := none }
def k8c1 : Code := { maxStack := 2, maxLocals := 1, code := jdk_43_method_3_code, exceptionTable := #[], attributes := #[] }
def k8m1 : Method := { name := "canEncode", desc := "(C)Z", sig := { parameters := [.char], returnType := some .boolean }, accessFlags := 9, code := some k8c1 }
def k8c2 : Code := { maxStack := 3, maxLocals := 3, code := jdk_43_method_13_code, exceptionTable := #[], attributes := #[] }
def k8m2 : Method := { name := "equals", desc := "([B[B)Z", sig := { parameters := [(.array .byte), (.array .byte)], returnType := some .boolean }, accessFlags := 9, code := some k8c2 }
def k8c3 : Code := { maxStack := 4, maxLocals := 1, code := jdk_43_method_46_code, exceptionTable := #[], attributes := #[] }
def k8m3 : Method := { name := "toBytes", desc := "(C)[B", sig := { parameters := [.char], returnType := some (.array .byte) }, accessFlags := 9, code := some k8c3 }
/-- java/lang/StringLatin1 -/
def k8 : Class := { plain "java/lang/StringLatin1" (some 0) with
  accessFlags := 48
  interfaces := #[]
  cf := some (fileOf pool8 14 #[.nestMembers #[390, 221]] #[{ accessFlags := 0, nameIndex := 7, descriptorIndex := 8, attributes := #[] }, { accessFlags := 9, nameIndex := 90, descriptorIndex := 105, attributes := #[] }, { accessFlags := 9, nameIndex := 281, descriptorIndex := 282, attributes := #[] }, { accessFlags := 9, nameIndex := 380, descriptorIndex := 382, attributes := #[] }] 48 4 #[] #[{ accessFlags := 4120, nameIndex := 121, descriptorIndex := 122, attributes := #[] }])
  fields := #[{ name := "$assertionsDisabled", type := .boolean, accessFlags := 4120, slot := 0, constantValue := 0 }]
  methods := #[k8m0, k8m1, k8m2, k8m3]
  instanceTypes := #[]
  staticTypes := #[.boolean]
  resolved := Array.replicate 395 none
  statics := none }

def pool9 : Array CpInfo := pool [(1, .methodref 2 3), (0, .class_ 4), (0, .nameAndType 5 6), (0, u "java/lang/Object"), (0, u "<init>"), (0, u "()V"), (0, .fieldref 8 9), (0, .class_ 10), (0, .nameAndType 11 12), (0, u "com/example/quire/quire/readers/Element"), (0, u "NO_ATTRIBUTES"), (0, u "[Ljava/lang/String;"), (0, .fieldref 8 14), (0, .nameAndType 15 12), (0, u "attributes"), (2, u "parent"), (0, u "Lcom/example/quire/quire/readers/Element;"), (0, .fieldref 8 21), (0, .nameAndType 22 23), (0, u "namespace"), (0, u "Ljava/lang/String;"), (0, .fieldref 8 25), (0, .nameAndType 26 23), (0, u "name"), (0, .fieldref 8 28), (0, .nameAndType 29 30), (0, u "line"), (0, u "I"), (5, u "()I"), (2, u "count"), (0, .class_ 41), (0, u "java/lang/String"), (10, .fieldref 8 53), (0, .nameAndType 54 55), (0, u "kept"), (0, u "Z"), (2, u "held"), (0, .fieldref 8 60), (0, .nameAndType 61 19), (0, u "firstChild"), (0, .fieldref 8 63), (0, .nameAndType 64 19), (0, u "lastChild"), (0, .fieldref 8 66), (0, .nameAndType 67 19), (0, u "nextSibling"), (2, u "text"), (0, u "Ljava/lang/StringBuilder;"), (6, .methodref 8 3), (0, .string 80), (0, u ""), (0, .methodref 8 82), (0, .nameAndType 83 6), (0, u "keep"), (0, .methodref 40 85), (0, .nameAndType 86 87), (0, u "equals"), (0, u "(Ljava/lang/Object;)Z"), (54, .interfaceMethodref 143 144), (0, .class_ 145), (0, .nameAndType 146 147), (0, u "java/util/List"), (0, u "of"), (0, u "(Ljava/lang/Object;)Ljava/util/List;"), (0, .class_ 149), (0, u "java/util/ArrayList"), (0, .methodref 148 3), (0, .interfaceMethodref 143 152), (0, .nameAndType 153 36), (0, u "size"), (0, .interfaceMethodref 143 155), (0, .nameAndType 156 157), (0, u "get"), (0, u "(I)Ljava/lang/Object;"), (0, .methodref 8 159), (0, .nameAndType 160 161), (0, u "collect"), (0, u "(ZLjava/lang/String;Ljava/lang/String;Ljava/util/List;)V"), (4, .methodref 8 167), (0, .nameAndType 168 169), (0, u "is"), (0, u "(Ljava/lang/String;Ljava/lang/String;)Z"), (0, .interfaceMethodref 143 171), (0, .nameAndType 172 87), (0, u "add"), (5, u "holdingNothing"), (0, u "(Ljava/lang/String;I)Lcom/example/quire/quire/readers/Element;"), (5, u "(Lcom/example/quire/quire/readers/Element;)V"), (6, u "find"), (0, u "(ZLjava/lang/String;[Ljava/lang/String;)Ljava/util/List;")] 10

def k9c0 : Code := { maxStack := 2, maxLocals := 1, code := prog_45_method_1_code, exceptionTable := #[], attributes := #[] }
def k9m0 : Method := { name := "<init>", desc := "()V", sig := { parameters := [], returnType := none }, accessFlags := 0, code := some k9c0 }
def k9c1 : Code := { maxStack := 2, maxLocals := 3, code := prog_45_method_3_code, exceptionTable := #[], attributes := #[] }
def k9m1 : Method := { name := "holdingNothing", desc := "(Ljava/lang/String;I)Lcom/example/quire/quire/readers/Element;", sig := { parameters := [(.object "java/lang/String"), .int], returnType := some (.object "com/example/quire/quire/readers/Element") }, accessFlags := 9, code := some k9c1 }
def k9c2 : Code := { maxStack := 2, maxLocals := 3, code := prog_45_method_8_code, exceptionTable := #[], attributes := #[] }
def k9m2 : Method := { name := "is", desc := "(Ljava/lang/String;Ljava/lang/String;)Z", sig := { parameters := [(.object "java/lang/String"), (.object "java/lang/String")], returnType := some .boolean }, accessFlags := 1, code := some k9c2 }
def k9c3 : Code := { maxStack := 2, maxLocals := 1, code := prog_45_method_12_code, exceptionTable := #[], attributes := #[] }
def k9m3 : Method := { name := "keep", desc := "()V", sig := { parameters := [], returnType := none }, accessFlags := 0, code := some k9c3 }
def k9c4 : Code := { maxStack := 2, maxLocals := 2, code := prog_45_method_15_code, exceptionTable := #[], attributes := #[] }
def k9m4 : Method := { name := "add", desc := "(Lcom/example/quire/quire/readers/Element;)V", sig := { parameters := [(.object "com/example/quire/quire/readers/Element")], returnType := none }, accessFlags := 0, code := some k9c4 }
def k9c5 : Code := { maxStack := 5, maxLocals := 11, code := prog_45_method_20_code, exceptionTable := #[], attributes := #[] }
def k9m5 : Method := { name := "find", desc := "(ZLjava/lang/String;[Ljava/lang/String;)Ljava/util/List;", sig := { parameters := [.boolean, (.object "java/lang/String"), (.array (.object "java/lang/String"))], returnType := some (.object "java/util/List") }, accessFlags := 129, code := some k9c5 }
def k9c6 : Code := { maxStack := 5, maxLocals := 6, code := prog_45_method_25_code, exceptionTable := #[], attributes := #[] }
def k9m6 : Method := { name := "collect", desc := "(ZLjava/lang/String;Ljava/lang/String;Ljava/util/List;)V", sig := { parameters := [.boolean, (.object "java/lang/String"), (.object "java/lang/String"), (.object "java/util/List")], returnType := none }, accessFlags := 2, code := some k9c6 }
/-- com/example/quire/quire/readers/Element -/
def k9 : Class := { plain "com/example/quire/quire/readers/Element" (some 0) with
  accessFlags := 49
  interfaces := #[]
  cf := some (fileOf pool9 8 #[] #[{ accessFlags := 0, nameIndex := 5, descriptorIndex := 6, attributes := #[] }, { accessFlags := 9, nameIndex := 178, descriptorIndex := 179, attributes := #[] }, { accessFlags := 1, nameIndex := 168, descriptorIndex := 169, attributes := #[] }, { accessFlags := 0, nameIndex := 83, descriptorIndex := 6, attributes := #[] }, { accessFlags := 0, nameIndex := 172, descriptorIndex := 185, attributes := #[] }, { accessFlags := 129, nameIndex := 192, descriptorIndex := 193, attributes := #[] }, { accessFlags := 2, nameIndex := 160, descriptorIndex := 161, attributes := #[] }] 49 2 #[] #[{ accessFlags := 26, nameIndex := 11, descriptorIndex := 12, attributes := #[] }, { accessFlags := 2, nameIndex := 18, descriptorIndex := 19, attributes := #[] }, { accessFlags := 2, nameIndex := 22, descriptorIndex := 23, attributes := #[] }, { accessFlags := 2, nameIndex := 26, descriptorIndex := 23, attributes := #[] }, { accessFlags := 2, nameIndex := 15, descriptorIndex := 12, attributes := #[] }, { accessFlags := 2, nameIndex := 39, descriptorIndex := 30, attributes := #[] }, { accessFlags := 2, nameIndex := 29, descriptorIndex := 30, attributes := #[] }, { accessFlags := 2, nameIndex := 54, descriptorIndex := 55, attributes := #[] }, { accessFlags := 2, nameIndex := 58, descriptorIndex := 55, attributes := #[] }, { accessFlags := 2, nameIndex := 61, descriptorIndex := 19, attributes := #[] }, { accessFlags := 2, nameIndex := 64, descriptorIndex := 19, attributes := #[] }, { accessFlags := 2, nameIndex := 67, descriptorIndex := 19, attributes := #[] }, { accessFlags := 2, nameIndex := 70, descriptorIndex := 71, attributes := #[] }])
  fields := #[{ name := "NO_ATTRIBUTES", type := (.array (.object "java/lang/String")), accessFlags := 26, slot := 0, constantValue := 0 }, { name := "parent", type := (.object "com/example/quire/quire/readers/Element"), accessFlags := 2, slot := 0, constantValue := 0 }, { name := "namespace", type := (.object "java/lang/String"), accessFlags := 2, slot := 1, constantValue := 0 }, { name := "name", type := (.object "java/lang/String"), accessFlags := 2, slot := 2, constantValue := 0 }, { name := "attributes", type := (.array (.object "java/lang/String")), accessFlags := 2, slot := 3, constantValue := 0 }, { name := "count", type := .int, accessFlags := 2, slot := 4, constantValue := 0 }, { name := "line", type := .int, accessFlags := 2, slot := 5, constantValue := 0 }, { name := "kept", type := .boolean, accessFlags := 2, slot := 6, constantValue := 0 }, { name := "held", type := .boolean, accessFlags := 2, slot := 7, constantValue := 0 }, { name := "firstChild", type := (.object "com/example/quire/quire/readers/Element"), accessFlags := 2, slot := 8, constantValue := 0 }, { name := "lastChild", type := (.object "com/example/quire/quire/readers/Element"), accessFlags := 2, slot := 9, constantValue := 0 }, { name := "nextSibling", type := (.object "com/example/quire/quire/readers/Element"), accessFlags := 2, slot := 10, constantValue := 0 }, { name := "text", type := (.object "java/lang/StringBuilder"), accessFlags := 2, slot := 11, constantValue := 0 }]
  methods := #[k9m0, k9m1, k9m2, k9m3, k9m4, k9m5, k9m6]
  instanceTypes := #[(.object "com/example/quire/quire/readers/Element"), (.object "java/lang/String"), (.object "java/lang/String"), (.array (.object "java/lang/String")), .int, .int, .boolean, .boolean, (.object "com/example/quire/quire/readers/Element"), (.object "com/example/quire/quire/readers/Element"), (.object "com/example/quire/quire/readers/Element"), (.object "java/lang/StringBuilder")]
  staticTypes := #[(.array (.object "java/lang/String"))]
  resolved := Array.replicate 204 none
  statics := some 1 }

def pool10 : Array CpInfo := pool [(8, .class_ 10), (1, u "java/lang/Iterable"), (24, .class_ 36), (0, u "java/lang/Object")] 25

/-- java/lang/Iterable -/
def k10 : Class := { plain "java/lang/Iterable" (some 0) with
  accessFlags := 1537
  interfaces := #[]
  cf := some (fileOf pool10 8 #[] #[] 1537 35 #[] #[])
  fields := #[]
  methods := #[]
  instanceTypes := #[]
  staticTypes := #[]
  resolved := Array.replicate 62 none
  statics := none }

def pool11 : Array CpInfo := pool [(10, .class_ 12), (1, u "java/util/Collection"), (47, .class_ 61), (0, u "java/lang/Object"), (0, .class_ 63), (0, u "java/lang/Iterable")] 51

/-- java/util/Collection -/
def k11 : Class := { plain "java/util/Collection" (some 0) with
  accessFlags := 1537
  interfaces := #[10]
  cf := some (fileOf pool11 10 #[] #[] 1537 60 #[62] #[])
  fields := #[]
  methods := #[]
  instanceTypes := #[]
  staticTypes := #[]
  resolved := Array.replicate 115 none
  statics := none }

def pool12 : Array CpInfo := pool [(8, .class_ 10), (1, u "java/util/SequencedCollection"), (15, .class_ 27), (0, u "java/lang/Object"), (0, .class_ 29), (0, u "java/util/Collection")] 27

/-- java/util/SequencedCollection -/
def k12 : Class := { plain "java/util/SequencedCollection" (some 0) with
  accessFlags := 1537
  interfaces := #[11]
  cf := some (fileOf pool12 8 #[] #[] 1537 26 #[28] #[])
  fields := #[]
  methods := #[]
  instanceTypes := #[]
  staticTypes := #[]
  resolved := Array.replicate 57 none
  statics := none }

def pool13 : Array CpInfo := pool [(8, .class_ 10), (1, u "java/util/List"), (20, u "(Ljava/lang/Object;)V"), (16, u "<init>"), (11, u "add"), (3, u "(Ljava/lang/Object;)Z"), (10, u "get"), (0, u "(I)Ljava/lang/Object;"), (2, u "size"), (0, u "()I"), (7, u "of"), (7, .class_ 97), (0, u "java/util/ImmutableCollections$List12"), (0, .methodref 96 99), (0, .nameAndType 48 31), (3, .class_ 104), (0, u "java/lang/Object"), (15, .class_ 121), (0, u "java/util/SequencedCollection"), (76, u "(Ljava/lang/Object;)Ljava/util/List;")] 52

def k13m0 : Method := { name := "size", desc := "()I", sig := { parameters := [], returnType := some .int }, accessFlags := 1025, code := none }
def k13m1 : Method := { name := "add", desc := "(Ljava/lang/Object;)Z", sig := { parameters := [(.object "java/lang/Object")], returnType := some .boolean }, accessFlags := 1025, code := none }
def k13m2 : Method := { name := "get", desc := "(I)Ljava/lang/Object;", sig := { parameters := [.int], returnType := some (.object "java/lang/Object") }, accessFlags := 1025, code := none }
def k13c3 : Code := { maxStack := 3, maxLocals := 1, code := jdk_40_method_37_code, exceptionTable := #[], attributes := #[] }
def k13m3 : Method := { name := "of", desc := "(Ljava/lang/Object;)Ljava/util/List;", sig := { parameters := [(.object "java/lang/Object")], returnType := some (.object "java/util/List") }, accessFlags := 9, code := some k13c3 }
/-- java/util/List -/
def k13 : Class := { plain "java/util/List" (some 0) with
  accessFlags := 1537
  interfaces := #[12]
  cf := some (fileOf pool13 8 #[] #[{ accessFlags := 1025, nameIndex := 79, descriptorIndex := 80, attributes := #[] }, { accessFlags := 1025, nameIndex := 60, descriptorIndex := 64, attributes := #[] }, { accessFlags := 1025, nameIndex := 75, descriptorIndex := 76, attributes := #[] }, { accessFlags := 9, nameIndex := 88, descriptorIndex := 198, attributes := #[] }] 1537 103 #[120] #[])
  fields := #[]
  methods := #[k13m0, k13m1, k13m2, k13m3]
  instanceTypes := #[]
  staticTypes := #[]
  resolved := Array.replicate 251 none
  statics := none }

def pool14 : Array CpInfo := pool [(1, .methodref 2 3), (0, .class_ 4), (0, .nameAndType 5 6), (0, u "java/lang/Object"), (0, u "<init>"), (0, u "()V"), (1, .class_ 10), (1, u "java/util/AbstractCollection"), (66, .class_ 78), (0, u "java/util/Collection")] 81

def k14c0 : Code := { maxStack := 1, maxLocals := 1, code := jdk_22_method_1_code, exceptionTable := #[], attributes := #[] }
def k14m0 : Method := { name := "<init>", desc := "()V", sig := { parameters := [], returnType := none }, accessFlags := 4, code := some k14c0 }
/-- java/util/AbstractCollection -/
def k14 : Class := { plain "java/util/AbstractCollection" (some 0) with
  accessFlags := 1057
  interfaces := #[11]
  cf := some (fileOf pool14 8 #[] #[{ accessFlags := 4, nameIndex := 5, descriptorIndex := 6, attributes := #[] }] 1057 2 #[77] #[])
  fields := #[]
  methods := #[k14m0]
  instanceTypes := #[]
  staticTypes := #[]
  resolved := Array.replicate 160 none
  statics := none }

def pool15 : Array CpInfo := pool [(1, .methodref 2 3), (0, .class_ 4), (0, .nameAndType 5 6), (0, u "java/util/AbstractCollection"), (0, u "<init>"), (0, u "()V"), (1, .class_ 10), (1, u "java/util/ImmutableCollections"), (2, .class_ 14), (0, u "java/util/ImmutableCollections$AbstractImmutableCollection")] 41

def k15c0 : Code := { maxStack := 1, maxLocals := 1, code := jdk_47_method_1_code, exceptionTable := #[], attributes := #[] }
def k15m0 : Method := { name := "<init>", desc := "()V", sig := { parameters := [], returnType := none }, accessFlags := 0, code := some k15c0 }
/-- java/util/ImmutableCollections$AbstractImmutableCollection -/
def k15 : Class := { plain "java/util/ImmutableCollections$AbstractImmutableCollection" (some 14) with
  accessFlags := 1056
  interfaces := #[]
  cf := some (fileOf pool15 13 #[.nestHost 8] #[{ accessFlags := 0, nameIndex := 5, descriptorIndex := 6, attributes := #[] }] 1056 2 #[] #[])
  fields := #[]
  methods := #[k15m0]
  instanceTypes := #[]
  staticTypes := #[]
  resolved := Array.replicate 56 none
  statics := none }

def pool16 : Array CpInfo := pool [(1, .class_ 2), (0, u "java/util/RandomAccess"), (0, .class_ 4), (0, u "java/lang/Object")] 2

/-- java/util/RandomAccess -/
def k16 : Class := { plain "java/util/RandomAccess" (some 0) with
  accessFlags := 1537
  interfaces := #[]
  cf := some (fileOf pool16 1 #[] #[] 1537 3 #[] #[])
  fields := #[]
  methods := #[]
  instanceTypes := #[]
  staticTypes := #[]
  resolved := Array.replicate 7 none
  statics := none }

def pool17 : Array CpInfo := pool [(1, .methodref 2 3), (0, .class_ 4), (0, .nameAndType 5 6), (0, u "java/util/ImmutableCollections$AbstractImmutableCollection"), (0, u "<init>"), (0, u "()V"), (1, .class_ 10), (1, u "java/util/ImmutableCollections"), (3, .class_ 16), (1, u "java/util/ImmutableCollections$AbstractImmutableList"), (60, .class_ 78), (0, u "java/util/List"), (45, .class_ 125), (0, u "java/util/RandomAccess")] 70

def k17c0 : Code := { maxStack := 1, maxLocals := 1, code := jdk_46_method_1_code, exceptionTable := #[], attributes := #[] }
def k17m0 : Method := { name := "<init>", desc := "()V", sig := { parameters := [], returnType := none }, accessFlags := 0, code := some k17c0 }
/-- java/util/ImmutableCollections$AbstractImmutableList -/
def k17 : Class := { plain "java/util/ImmutableCollections$AbstractImmutableList" (some 15) with
  accessFlags := 1056
  interfaces := #[13, 16]
  cf := some (fileOf pool17 14 #[.nestHost 8] #[{ accessFlags := 0, nameIndex := 5, descriptorIndex := 6, attributes := #[] }] 1056 2 #[77, 124] #[])
  fields := #[]
  methods := #[k17m0]
  instanceTypes := #[]
  staticTypes := #[]
  resolved := Array.replicate 196 none
  statics := none }

def pool18 : Array CpInfo := pool [(1, .methodref 2 3), (0, .class_ 4), (0, .nameAndType 5 6), (0, u "java/util/ImmutableCollections$AbstractImmutableList"), (0, u "<init>"), (0, u "()V"), (0, .methodref 8 9), (0, .class_ 10), (0, .nameAndType 11 12), (0, u "java/util/Objects"), (0, u "requireNonNull"), (0, u "(Ljava/lang/Object;)Ljava/lang/Object;"), (0, .fieldref 14 15), (0, .class_ 16), (0, .nameAndType 17 18), (0, u "java/util/ImmutableCollections$List12"), (0, u "e0"), (0, u "Ljava/lang/Object;"), (0, .fieldref 20 21), (0, .class_ 22), (0, .nameAndType 23 18), (0, u "java/util/ImmutableCollections"), (0, u "EMPTY"), (0, .fieldref 14 25), (0, .nameAndType 26 18), (0, u "e1"), (24, u "size"), (0, u "()I"), (17, .class_ 71), (0, u "java/io/Serializable"), (4, u "(Ljava/lang/Object;)V"), (13, u "get"), (0, u "(I)Ljava/lang/Object;")] 33

def k18c0 : Code := { maxStack := 2, maxLocals := 2, code := jdk_44_method_1_code, exceptionTable := #[], attributes := #[] }
def k18m0 : Method := { name := "<init>", desc := "(Ljava/lang/Object;)V", sig := { parameters := [(.object "java/lang/Object")], returnType := none }, accessFlags := 0, code := some k18c0 }
def k18c1 : Code := { maxStack := 2, maxLocals := 1, code := jdk_44_method_3_code, exceptionTable := #[], attributes := #[] }
def k18m1 : Method := { name := "size", desc := "()I", sig := { parameters := [], returnType := some .int }, accessFlags := 1, code := some k18c1 }
def k18c2 : Code := { maxStack := 2, maxLocals := 2, code := jdk_44_method_5_code, exceptionTable := #[], attributes := #[] }
def k18m2 : Method := { name := "get", desc := "(I)Ljava/lang/Object;", sig := { parameters := [.int], returnType := some (.object "java/lang/Object") }, accessFlags := 1, code := some k18c2 }
/-- java/util/ImmutableCollections$List12 -/
def k18 : Class := { plain "java/util/ImmutableCollections$List12" (some 17) with
  accessFlags := 48
  interfaces := #[2]
  cf := some (fileOf pool18 14 #[.nestHost 20] #[{ accessFlags := 0, nameIndex := 5, descriptorIndex := 76, attributes := #[] }, { accessFlags := 1, nameIndex := 51, descriptorIndex := 52, attributes := #[] }, { accessFlags := 1, nameIndex := 90, descriptorIndex := 91, attributes := #[] }] 48 2 #[70] #[{ accessFlags := 18, nameIndex := 17, descriptorIndex := 18, attributes := #[] }, { accessFlags := 18, nameIndex := 26, descriptorIndex := 18, attributes := #[] }])
  fields := #[{ name := "e0", type := (.object "java/lang/Object"), accessFlags := 18, slot := 0, constantValue := 0 }, { name := "e1", type := (.object "java/lang/Object"), accessFlags := 18, slot := 1, constantValue := 0 }]
  methods := #[k18m0, k18m1, k18m2]
  instanceTypes := #[(.object "java/lang/Object"), (.object "java/lang/Object")]
  staticTypes := #[]
  resolved := Array.replicate 125 none
  statics := none }

def pool19 : Array CpInfo := pool [(2, .class_ 4), (1, u "java/lang/Object"), (0, u "<init>"), (0, u "()V"), (35, .class_ 44), (1, u "java/util/Objects"), (0, u "requireNonNull"), (0, u "(Ljava/lang/Object;)Ljava/lang/Object;"), (58, .methodref 106 107), (0, .class_ 108), (0, .nameAndType 109 110), (0, u "jdk/internal/util/Preconditions"), (0, u "checkIndex"), (0, u "(IILjava/util/function/BiFunction;)I"), (60, u "(II)I")] 12

def k19m0 : Method := { name := "<init>", desc := "()V", sig := { parameters := [], returnType := none }, accessFlags := 2, code := none }
def k19c1 : Code := { maxStack := 2, maxLocals := 1, code := jdk_31_method_10_code, exceptionTable := #[], attributes := #[] }
def k19m1 : Method := { name := "requireNonNull", desc := "(Ljava/lang/Object;)Ljava/lang/Object;", sig := { parameters := [(.object "java/lang/Object")], returnType := some (.object "java/lang/Object") }, accessFlags := 9, code := some k19c1 }
def k19c2 : Code := { maxStack := 3, maxLocals := 2, code := jdk_31_method_17_code, exceptionTable := #[], attributes := #[] }
def k19m2 : Method := { name := "checkIndex", desc := "(II)I", sig := { parameters := [.int, .int], returnType := some .int }, accessFlags := 9, code := some k19c2 }
/-- java/util/Objects -/
def k19 : Class := { plain "java/util/Objects" (some 0) with
  accessFlags := 49
  interfaces := #[]
  cf := some (fileOf pool19 42 #[] #[{ accessFlags := 2, nameIndex := 5, descriptorIndex := 6, attributes := #[] }, { accessFlags := 9, nameIndex := 45, descriptorIndex := 46, attributes := #[] }, { accessFlags := 9, nameIndex := 109, descriptorIndex := 171, attributes := #[] }] 49 2 #[] #[])
  fields := #[]
  methods := #[k19m0, k19m1, k19m2]
  instanceTypes := #[]
  staticTypes := #[]
  resolved := Array.replicate 184 none
  statics := none }

def pool20 : Array CpInfo := pool [(2, .class_ 4), (1, u "java/lang/Object"), (0, u "<init>"), (0, u "()V"), (3, .class_ 11), (0, u "java/util/ImmutableCollections$List12"), (0, .class_ 13), (0, u "java/util/ImmutableCollections$ListN"), (3, u "Z"), (29, .class_ 49), (1, u "java/util/ImmutableCollections"), (0, u "$assertionsDisabled"), (5, u "[Ljava/lang/Object;"), (5, u "EMPTY_LIST"), (0, u "Ljava/util/ImmutableCollections$ListN;"), (8, u "EMPTY_LIST_NULLS"), (22, u "SALT32L"), (0, u "J"), (2, u "REVERSE"), (6, u "archivedObjects"), (2, u "EMPTY"), (0, u "Ljava/lang/Object;"), (0, .class_ 112), (0, u "java/util/ImmutableCollections$SetN"), (5, u "EMPTY_SET"), (0, u "Ljava/util/ImmutableCollections$SetN;"), (0, .class_ 121), (0, u "java/util/ImmutableCollections$MapN"), (3, u "EMPTY_MAP"), (0, u "Ljava/util/ImmutableCollections$MapN;"), (4, u "EXPAND_FACTOR"), (0, u "I"), (36, .class_ 170), (0, u "java/util/ImmutableCollections$MapN$MapNIterator"), (0, .class_ 172), (0, u "java/util/ImmutableCollections$MapN$1"), (0, .class_ 174), (0, u "java/util/ImmutableCollections$Map1"), (0, .class_ 176), (0, u "java/util/ImmutableCollections$AbstractImmutableMap"), (0, .class_ 178), (0, u "java/util/ImmutableCollections$SetN$SetNIterator"), (0, .class_ 180), (0, u "java/util/ImmutableCollections$Set12"), (0, .class_ 182), (0, u "java/util/ImmutableCollections$Set12$1"), (0, .class_ 184), (0, u "java/util/ImmutableCollections$AbstractImmutableSet"), (0, .class_ 186), (0, u "java/util/ImmutableCollections$SubList"), (0, .class_ 188), (0, u "java/util/ImmutableCollections$ListItr"), (0, .class_ 190), (0, u "java/util/ImmutableCollections$AbstractImmutableList"), (0, .class_ 192), (0, u "java/util/ImmutableCollections$AbstractImmutableCollection"), (0, .class_ 194), (0, u "java/util/ImmutableCollections$Access"), (0, .class_ 196), (0, u "java/util/ImmutableCollections$Access$1")] 16

def k20m0 : Method := { name := "<init>", desc := "()V", sig := { parameters := [], returnType := none }, accessFlags := 2, code := none }
/-- java/util/ImmutableCollections -/
def k20 : Class := { plain "java/util/ImmutableCollections" (some 0) with
  accessFlags := 32
  interfaces := #[]
  cf := some (fileOf pool20 47 #[.nestMembers #[120, 169, 171, 173, 175, 111, 177, 179, 181, 183, 12, 10, 185, 187, 189, 191, 193, 195]] #[{ accessFlags := 2, nameIndex := 5, descriptorIndex := 6, attributes := #[] }] 32 2 #[] #[{ accessFlags := 26, nameIndex := 95, descriptorIndex := 96, attributes := #[] }, { accessFlags := 26, nameIndex := 99, descriptorIndex := 17, attributes := #[] }, { accessFlags := 10, nameIndex := 106, descriptorIndex := 56, attributes := #[] }, { accessFlags := 26, nameIndex := 109, descriptorIndex := 110, attributes := #[] }, { accessFlags := 24, nameIndex := 62, descriptorIndex := 63, attributes := #[] }, { accessFlags := 24, nameIndex := 72, descriptorIndex := 63, attributes := #[] }, { accessFlags := 24, nameIndex := 118, descriptorIndex := 119, attributes := #[] }, { accessFlags := 24, nameIndex := 125, descriptorIndex := 126, attributes := #[] }, { accessFlags := 24, nameIndex := 131, descriptorIndex := 132, attributes := #[] }, { accessFlags := 4120, nameIndex := 50, descriptorIndex := 17, attributes := #[] }])
  fields := #[{ name := "SALT32L", type := .long, accessFlags := 26, slot := 0, constantValue := 0 }, { name := "REVERSE", type := .boolean, accessFlags := 26, slot := 1, constantValue := 0 }, { name := "archivedObjects", type := (.array (.object "java/lang/Object")), accessFlags := 10, slot := 2, constantValue := 0 }, { name := "EMPTY", type := (.object "java/lang/Object"), accessFlags := 26, slot := 3, constantValue := 0 }, { name := "EMPTY_LIST", type := (.object "java/util/ImmutableCollections$ListN"), accessFlags := 24, slot := 4, constantValue := 0 }, { name := "EMPTY_LIST_NULLS", type := (.object "java/util/ImmutableCollections$ListN"), accessFlags := 24, slot := 5, constantValue := 0 }, { name := "EMPTY_SET", type := (.object "java/util/ImmutableCollections$SetN"), accessFlags := 24, slot := 6, constantValue := 0 }, { name := "EMPTY_MAP", type := (.object "java/util/ImmutableCollections$MapN"), accessFlags := 24, slot := 7, constantValue := 0 }, { name := "EXPAND_FACTOR", type := .int, accessFlags := 24, slot := 8, constantValue := 0 }, { name := "$assertionsDisabled", type := .boolean, accessFlags := 4120, slot := 9, constantValue := 0 }]
  methods := #[k20m0]
  instanceTypes := #[]
  staticTypes := #[.long, .boolean, (.array (.object "java/lang/Object")), (.object "java/lang/Object"), (.object "java/util/ImmutableCollections$ListN"), (.object "java/util/ImmutableCollections$ListN"), (.object "java/util/ImmutableCollections$SetN"), (.object "java/util/ImmutableCollections$MapN"), .int, .boolean]
  resolved := Array.replicate 213 none
  statics := some 2 }

def pool21 : Array CpInfo := pool [(1, .methodref 2 3), (0, .class_ 4), (0, .nameAndType 5 6), (0, u "java/util/AbstractCollection"), (0, u "<init>"), (0, u "()V"), (0, .fieldref 8 9), (0, .class_ 10), (0, .nameAndType 11 12), (0, u "java/util/AbstractList"), (0, u "modCount"), (0, u "I"), (64, .class_ 78), (0, u "java/util/AbstractList$Itr"), (3, .class_ 83), (0, u "java/util/AbstractList$ListItr"), (9, .class_ 94), (0, u "java/util/AbstractList$RandomAccessSubList"), (3, .class_ 99), (0, u "java/util/AbstractList$SubList"), (33, .class_ 134), (0, u "java/util/List"), (73, .class_ 209), (0, u "java/util/AbstractList$SubList$1"), (0, .class_ 211), (0, u "java/util/AbstractList$RandomAccessSpliterator")] 6

def k21c0 : Code := { maxStack := 2, maxLocals := 1, code := jdk_39_method_1_code, exceptionTable := #[], attributes := #[] }
def k21m0 : Method := { name := "<init>", desc := "()V", sig := { parameters := [], returnType := none }, accessFlags := 4, code := some k21c0 }
/-- java/util/AbstractList -/
def k21 : Class := { plain "java/util/AbstractList" (some 14) with
  accessFlags := 1057
  interfaces := #[13]
  cf := some (fileOf pool21 8 #[.nestMembers #[93, 98, 208, 210, 82, 77]] #[{ accessFlags := 4, nameIndex := 5, descriptorIndex := 6, attributes := #[] }] 1057 2 #[133] #[{ accessFlags := 132, nameIndex := 11, descriptorIndex := 12, attributes := #[] }])
  fields := #[{ name := "modCount", type := .int, accessFlags := 132, slot := 0, constantValue := 0 }]
  methods := #[k21m0]
  instanceTypes := #[.int]
  staticTypes := #[]
  resolved := Array.replicate 218 none
  statics := none }

def pool22 : Array CpInfo := pool [(1, .class_ 2), (0, u "java/lang/Cloneable"), (0, .class_ 4), (0, u "java/lang/Object")] 2

/-- java/lang/Cloneable -/
def k22 : Class := { plain "java/lang/Cloneable" (some 0) with
  accessFlags := 1537
  interfaces := #[]
  cf := some (fileOf pool22 1 #[] #[] 1537 3 #[] #[])
  fields := #[]
  methods := #[]
  instanceTypes := #[]
  staticTypes := #[]
  resolved := Array.replicate 7 none
  statics := none }

def pool23 : Array CpInfo := pool [(1, .methodref 2 3), (0, .class_ 4), (0, .nameAndType 5 6), (0, u "java/util/AbstractList"), (0, u "<init>"), (0, u "()V"), (0, .class_ 8), (0, u "java/lang/Object"), (0, .fieldref 10 11), (0, .class_ 12), (0, .nameAndType 13 14), (0, u "java/util/ArrayList"), (0, u "elementData"), (0, u "[Ljava/lang/Object;"), (2, u "EMPTY_ELEMENTDATA"), (21, .fieldref 10 40), (0, .nameAndType 41 14), (0, u "DEFAULTCAPACITY_EMPTY_ELEMENTDATA"), (5, u "()[Ljava/lang/Object;"), (0, .fieldref 10 49), (0, .nameAndType 50 51), (0, u "size"), (0, u "I"), (11, .fieldref 10 64), (0, .nameAndType 65 51), (0, u "modCount"), (3, .methodref 10 70), (0, .nameAndType 71 72), (0, u "grow"), (0, u "(I)[Ljava/lang/Object;"), (6, .methodref 80 81), (0, .class_ 82), (0, .nameAndType 83 84), (0, u "java/lang/Math"), (0, u "max"), (0, u "(II)I"), (11, u "(Ljava/lang/Object;)Z"), (21, .methodref 119 120), (0, .class_ 121), (0, .nameAndType 122 84), (0, u "java/util/Objects"), (0, u "checkIndex"), (0, .methodref 10 124), (0, .nameAndType 13 125), (0, u "(I)Ljava/lang/Object;"), (3, .methodref 10 130), (0, .nameAndType 71 47), (0, .methodref 10 132), (0, .nameAndType 133 134), (0, u "add"), (0, u "(Ljava/lang/Object;[Ljava/lang/Object;I)V"), (13, .class_ 149), (0, u "java/util/List"), (36, u "()I"), (75, .class_ 263), (0, u "java/util/ArrayList$ListItr"), (3, .class_ 268), (0, u "java/util/ArrayList$Itr"), (7, .class_ 277), (0, u "java/util/ArrayList$SubList"), (12, .class_ 291), (0, u "java/util/ArrayList$ArrayListSpliterator"), (37, .class_ 330), (0, u "java/util/RandomAccess"), (0, .class_ 332), (0, u "java/lang/Cloneable"), (0, .class_ 334), (0, u "java/io/Serializable"), (0, u "serialVersionUID"), (0, u "J"), (3, u "DEFAULT_CAPACITY"), (40, u "get"), (118, .class_ 501), (0, u "java/util/ArrayList$SubList$2"), (0, .class_ 503), (0, u "java/util/ArrayList$SubList$1")] 5

def k23c0 : Code := { maxStack := 2, maxLocals := 1, code := jdk_38_method_2_code, exceptionTable := #[], attributes := #[] }
def k23m0 : Method := { name := "<init>", desc := "()V", sig := { parameters := [], returnType := none }, accessFlags := 1, code := some k23c0 }
def k23c1 : Code := { maxStack := 4, maxLocals := 4, code := jdk_38_method_6_code, exceptionTable := #[], attributes := #[] }
def k23m1 : Method := { name := "grow", desc := "(I)[Ljava/lang/Object;", sig := { parameters := [.int], returnType := some (.array (.object "java/lang/Object")) }, accessFlags := 2, code := some k23c1 }
def k23c2 : Code := { maxStack := 3, maxLocals := 1, code := jdk_38_method_7_code, exceptionTable := #[], attributes := #[] }
def k23m2 : Method := { name := "grow", desc := "()[Ljava/lang/Object;", sig := { parameters := [], returnType := some (.array (.object "java/lang/Object")) }, accessFlags := 2, code := some k23c2 }
def k23c3 : Code := { maxStack := 1, maxLocals := 1, code := jdk_38_method_8_code, exceptionTable := #[], attributes := #[] }
def k23m3 : Method := { name := "size", desc := "()I", sig := { parameters := [], returnType := some .int }, accessFlags := 1, code := some k23c3 }
def k23c4 : Code := { maxStack := 2, maxLocals := 2, code := jdk_38_method_18_code, exceptionTable := #[], attributes := #[] }
def k23m4 : Method := { name := "elementData", desc := "(I)Ljava/lang/Object;", sig := { parameters := [.int], returnType := some (.object "java/lang/Object") }, accessFlags := 0, code := some k23c4 }
def k23c5 : Code := { maxStack := 2, maxLocals := 2, code := jdk_38_method_20_code, exceptionTable := #[], attributes := #[] }
def k23m5 : Method := { name := "get", desc := "(I)Ljava/lang/Object;", sig := { parameters := [.int], returnType := some (.object "java/lang/Object") }, accessFlags := 1, code := some k23c5 }
def k23c6 : Code := { maxStack := 3, maxLocals := 4, code := jdk_38_method_24_code, exceptionTable := #[], attributes := #[] }
def k23m6 : Method := { name := "add", desc := "(Ljava/lang/Object;[Ljava/lang/Object;I)V", sig := { parameters := [(.object "java/lang/Object"), (.array (.object "java/lang/Object")), .int], returnType := none }, accessFlags := 2, code := some k23c6 }
def k23c7 : Code := { maxStack := 4, maxLocals := 2, code := jdk_38_method_25_code, exceptionTable := #[], attributes := #[] }
def k23m7 : Method := { name := "add", desc := "(Ljava/lang/Object;)Z", sig := { parameters := [(.object "java/lang/Object")], returnType := some .boolean }, accessFlags := 1, code := some k23c7 }
/-- java/util/ArrayList -/
def k23 : Class := { plain "java/util/ArrayList" (some 21) with
  accessFlags := 33
  interfaces := #[13, 16, 22, 2]
  cf := some (fileOf pool23 10 #[.nestMembers #[290, 276, 500, 502, 262, 267]] #[{ accessFlags := 1, nameIndex := 5, descriptorIndex := 6, attributes := #[] }, { accessFlags := 2, nameIndex := 71, descriptorIndex := 72, attributes := #[] }, { accessFlags := 2, nameIndex := 71, descriptorIndex := 47, attributes := #[] }, { accessFlags := 1, nameIndex := 50, descriptorIndex := 186, attributes := #[] }, { accessFlags := 0, nameIndex := 13, descriptorIndex := 125, attributes := #[] }, { accessFlags := 1, nameIndex := 381, descriptorIndex := 125, attributes := #[] }, { accessFlags := 2, nameIndex := 133, descriptorIndex := 134, attributes := #[] }, { accessFlags := 1, nameIndex := 133, descriptorIndex := 96, attributes := #[] }] 33 2 #[148, 329, 331, 333] #[{ accessFlags := 26, nameIndex := 335, descriptorIndex := 336, attributes := #[] }, { accessFlags := 26, nameIndex := 340, descriptorIndex := 51, attributes := #[] }, { accessFlags := 26, nameIndex := 17, descriptorIndex := 14, attributes := #[] }, { accessFlags := 26, nameIndex := 41, descriptorIndex := 14, attributes := #[] }, { accessFlags := 128, nameIndex := 13, descriptorIndex := 14, attributes := #[] }, { accessFlags := 2, nameIndex := 50, descriptorIndex := 51, attributes := #[] }])
  fields := #[{ name := "serialVersionUID", type := .long, accessFlags := 26, slot := 0, constantValue := 0 }, { name := "DEFAULT_CAPACITY", type := .int, accessFlags := 26, slot := 1, constantValue := 0 }, { name := "EMPTY_ELEMENTDATA", type := (.array (.object "java/lang/Object")), accessFlags := 26, slot := 2, constantValue := 0 }, { name := "DEFAULTCAPACITY_EMPTY_ELEMENTDATA", type := (.array (.object "java/lang/Object")), accessFlags := 26, slot := 3, constantValue := 0 }, { name := "elementData", type := (.array (.object "java/lang/Object")), accessFlags := 128, slot := 1, constantValue := 0 }, { name := "size", type := .int, accessFlags := 2, slot := 2, constantValue := 0 }]
  methods := #[k23m0, k23m1, k23m2, k23m3, k23m4, k23m5, k23m6, k23m7]
  instanceTypes := #[.int, (.array (.object "java/lang/Object")), .int]
  staticTypes := #[.long, .int, (.array (.object "java/lang/Object")), (.array (.object "java/lang/Object"))]
  resolved := Array.replicate 509 none
  statics := some 3 }

def pool24 : Array CpInfo := pool [(1, .class_ 2), (0, u "java/lang/Math"), (1, .class_ 6), (1, u "java/lang/Object"), (0, u "<init>"), (0, u "()V"), (89, .class_ 100), (1, u "java/lang/Math$RandomNumberGeneratorHolder"), (71, u "negativeZeroFloatBits"), (0, u "J"), (2, u "negativeZeroDoubleBits"), (21, u "max"), (46, u "$assertionsDisabled"), (0, u "Z"), (88, u "(II)I"), (2, u "twoToTheDoubleScaleDown"), (0, u "D"), (4, u "twoToTheDoubleScaleUp"), (9, u "E"), (3, u "PI"), (2, u "TAU"), (2, u "DEGREES_TO_RADIANS"), (0, u "RADIANS_TO_DEGREES")] 94

def k24m0 : Method := { name := "<init>", desc := "()V", sig := { parameters := [], returnType := none }, accessFlags := 2, code := none }
def k24c1 : Code := { maxStack := 2, maxLocals := 2, code := jdk_29_method_65_code, exceptionTable := #[], attributes := #[] }
def k24m1 : Method := { name := "max", desc := "(II)I", sig := { parameters := [.int, .int], returnType := some .int }, accessFlags := 9, code := some k24c1 }
/-- java/lang/Math -/
def k24 : Class := { plain "java/lang/Math" (some 0) with
  accessFlags := 49
  interfaces := #[]
  cf := some (fileOf pool24 1 #[.nestMembers #[98]] #[{ accessFlags := 2, nameIndex := 7, descriptorIndex := 8, attributes := #[] }, { accessFlags := 9, nameIndex := 198, descriptorIndex := 335, attributes := #[] }] 49 4 #[] #[{ accessFlags := 25, nameIndex := 354, descriptorIndex := 339, attributes := #[] }, { accessFlags := 25, nameIndex := 358, descriptorIndex := 339, attributes := #[] }, { accessFlags := 25, nameIndex := 361, descriptorIndex := 339, attributes := #[] }, { accessFlags := 26, nameIndex := 364, descriptorIndex := 339, attributes := #[] }, { accessFlags := 26, nameIndex := 365, descriptorIndex := 339, attributes := #[] }, { accessFlags := 26, nameIndex := 172, descriptorIndex := 173, attributes := #[] }, { accessFlags := 26, nameIndex := 176, descriptorIndex := 173, attributes := #[] }, { accessFlags := 8, nameIndex := 344, descriptorIndex := 339, attributes := #[] }, { accessFlags := 8, nameIndex := 338, descriptorIndex := 339, attributes := #[] }, { accessFlags := 4120, nameIndex := 245, descriptorIndex := 246, attributes := #[] }])
  fields := #[{ name := "E", type := .double, accessFlags := 25, slot := 0, constantValue := 0 }, { name := "PI", type := .double, accessFlags := 25, slot := 1, constantValue := 0 }, { name := "TAU", type := .double, accessFlags := 25, slot := 2, constantValue := 0 }, { name := "DEGREES_TO_RADIANS", type := .double, accessFlags := 26, slot := 3, constantValue := 0 }, { name := "RADIANS_TO_DEGREES", type := .double, accessFlags := 26, slot := 4, constantValue := 0 }, { name := "negativeZeroFloatBits", type := .long, accessFlags := 26, slot := 5, constantValue := 0 }, { name := "negativeZeroDoubleBits", type := .long, accessFlags := 26, slot := 6, constantValue := 0 }, { name := "twoToTheDoubleScaleUp", type := .double, accessFlags := 8, slot := 7, constantValue := 0 }, { name := "twoToTheDoubleScaleDown", type := .double, accessFlags := 8, slot := 8, constantValue := 0 }, { name := "$assertionsDisabled", type := .boolean, accessFlags := 4120, slot := 9, constantValue := 0 }]
  methods := #[k24m0, k24m1]
  instanceTypes := #[]
  staticTypes := #[.double, .double, .double, .double, .double, .long, .long, .double, .double, .boolean]
  resolved := Array.replicate 460 none
  statics := none }

def pool25 : Array CpInfo := pool [(2, .class_ 4), (1, u "java/lang/Object"), (0, u "<init>"), (0, u "()V"), (17, .class_ 26), (1, u "jdk/internal/util/Preconditions"), (6, u "checkIndex"), (21, .class_ 56), (0, u "jdk/internal/util/Preconditions$4"), (57, .class_ 115), (0, u "jdk/internal/util/Preconditions$1"), (7, u "SIOOBE_FORMATTER"), (0, u "Ljava/util/function/BiFunction;"), (0, .class_ 126), (0, u "jdk/internal/util/Preconditions$2"), (3, u "AIOOBE_FORMATTER"), (0, .class_ 132), (0, u "jdk/internal/util/Preconditions$3"), (3, u "IOOBE_FORMATTER"), (41, u "(IILjava/util/function/BiFunction;)I")] 15

def k25m0 : Method := { name := "<init>", desc := "()V", sig := { parameters := [], returnType := none }, accessFlags := 1, code := none }
def k25c1 : Code := { maxStack := 3, maxLocals := 3, code := jdk_41_method_11_code, exceptionTable := #[], attributes := #[] }
def k25m1 : Method := { name := "checkIndex", desc := "(IILjava/util/function/BiFunction;)I", sig := { parameters := [.int, .int, (.object "java/util/function/BiFunction")], returnType := some .int }, accessFlags := 9, code := some k25c1 }
/-- jdk/internal/util/Preconditions -/
def k25 : Class := { plain "jdk/internal/util/Preconditions" (some 0) with
  accessFlags := 33
  interfaces := #[]
  cf := some (fileOf pool25 24 #[.nestMembers #[55, 131, 125, 114]] #[{ accessFlags := 1, nameIndex := 5, descriptorIndex := 6, attributes := #[] }, { accessFlags := 9, nameIndex := 33, descriptorIndex := 178, attributes := #[] }] 33 2 #[] #[{ accessFlags := 25, nameIndex := 123, descriptorIndex := 124, attributes := #[] }, { accessFlags := 25, nameIndex := 130, descriptorIndex := 124, attributes := #[] }, { accessFlags := 25, nameIndex := 136, descriptorIndex := 124, attributes := #[] }])
  fields := #[{ name := "SIOOBE_FORMATTER", type := (.object "java/util/function/BiFunction"), accessFlags := 25, slot := 0, constantValue := 0 }, { name := "AIOOBE_FORMATTER", type := (.object "java/util/function/BiFunction"), accessFlags := 25, slot := 1, constantValue := 0 }, { name := "IOOBE_FORMATTER", type := (.object "java/util/function/BiFunction"), accessFlags := 25, slot := 2, constantValue := 0 }]
  methods := #[k25m0, k25m1]
  instanceTypes := #[]
  staticTypes := #[(.object "java/util/function/BiFunction"), (.object "java/util/function/BiFunction"), (.object "java/util/function/BiFunction")]
  resolved := Array.replicate 194 none
  statics := some 4 }

def pool26 : Array CpInfo := pool [(9, u "<init>"), (6, .class_ 18), (1, u "java/lang/Object"), (0, u "()V"), (1, .class_ 23), (1, u "jdk/internal/util/ArraysSupport"), (0, u "LOG2_ARRAY_LONG_INDEX_SCALE"), (0, u "I"), (2, u "U"), (0, u "Ljdk/internal/misc/Unsafe;"), (8, u "BIG_ENDIAN"), (0, u "Z"), (8, u "LOG2_BYTE_BIT_SIZE"), (4, u "LOG2_ARRAY_INT_INDEX_SCALE"), (54, u "JLA"), (0, u "Ljdk/internal/access/JavaLangAccess;"), (11, u "LOG2_ARRAY_BOOLEAN_INDEX_SCALE"), (9, u "LOG2_ARRAY_BYTE_INDEX_SCALE"), (5, u "LOG2_ARRAY_CHAR_INDEX_SCALE"), (5, u "LOG2_ARRAY_SHORT_INDEX_SCALE"), (18, u "LOG2_ARRAY_FLOAT_INDEX_SCALE"), (24, u "LOG2_ARRAY_DOUBLE_INDEX_SCALE"), (89, u "T_BOOLEAN"), (2, u "T_CHAR"), (1, u "T_FLOAT"), (1, u "T_DOUBLE"), (1, u "T_BYTE"), (1, u "T_SHORT"), (1, u "T_INT"), (1, u "T_LONG"), (1, u "SOFT_MAX_ARRAY_LENGTH")] 83

def k26m0 : Method := { name := "<init>", desc := "()V", sig := { parameters := [], returnType := none }, accessFlags := 2, code := none }
/-- jdk/internal/util/ArraysSupport -/
def k26 : Class := { plain "jdk/internal/util/ArraysSupport" (some 0) with
  accessFlags := 33
  interfaces := #[]
  cf := some (fileOf pool26 21 #[] #[{ accessFlags := 2, nameIndex := 9, descriptorIndex := 19, attributes := #[] }] 33 16 #[] #[{ accessFlags := 24, nameIndex := 28, descriptorIndex := 29, attributes := #[] }, { accessFlags := 26, nameIndex := 38, descriptorIndex := 39, attributes := #[] }, { accessFlags := 25, nameIndex := 121, descriptorIndex := 25, attributes := #[] }, { accessFlags := 25, nameIndex := 131, descriptorIndex := 25, attributes := #[] }, { accessFlags := 25, nameIndex := 137, descriptorIndex := 25, attributes := #[] }, { accessFlags := 25, nameIndex := 143, descriptorIndex := 25, attributes := #[] }, { accessFlags := 25, nameIndex := 53, descriptorIndex := 25, attributes := #[] }, { accessFlags := 25, nameIndex := 24, descriptorIndex := 25, attributes := #[] }, { accessFlags := 25, nameIndex := 162, descriptorIndex := 25, attributes := #[] }, { accessFlags := 25, nameIndex := 187, descriptorIndex := 25, attributes := #[] }, { accessFlags := 26, nameIndex := 48, descriptorIndex := 25, attributes := #[] }, { accessFlags := 25, nameIndex := 277, descriptorIndex := 25, attributes := #[] }, { accessFlags := 25, nameIndex := 280, descriptorIndex := 25, attributes := #[] }, { accessFlags := 25, nameIndex := 282, descriptorIndex := 25, attributes := #[] }, { accessFlags := 25, nameIndex := 284, descriptorIndex := 25, attributes := #[] }, { accessFlags := 25, nameIndex := 286, descriptorIndex := 25, attributes := #[] }, { accessFlags := 25, nameIndex := 288, descriptorIndex := 25, attributes := #[] }, { accessFlags := 25, nameIndex := 290, descriptorIndex := 25, attributes := #[] }, { accessFlags := 25, nameIndex := 292, descriptorIndex := 25, attributes := #[] }, { accessFlags := 26, nameIndex := 108, descriptorIndex := 109, attributes := #[] }, { accessFlags := 25, nameIndex := 294, descriptorIndex := 25, attributes := #[] }])
  fields := #[{ name := "U", type := (.object "jdk/internal/misc/Unsafe"), accessFlags := 24, slot := 0, constantValue := 0 }, { name := "BIG_ENDIAN", type := .boolean, accessFlags := 26, slot := 1, constantValue := 0 }, { name := "LOG2_ARRAY_BOOLEAN_INDEX_SCALE", type := .int, accessFlags := 25, slot := 2, constantValue := 0 }, { name := "LOG2_ARRAY_BYTE_INDEX_SCALE", type := .int, accessFlags := 25, slot := 3, constantValue := 0 }, { name := "LOG2_ARRAY_CHAR_INDEX_SCALE", type := .int, accessFlags := 25, slot := 4, constantValue := 0 }, { name := "LOG2_ARRAY_SHORT_INDEX_SCALE", type := .int, accessFlags := 25, slot := 5, constantValue := 0 }, { name := "LOG2_ARRAY_INT_INDEX_SCALE", type := .int, accessFlags := 25, slot := 6, constantValue := 0 }, { name := "LOG2_ARRAY_LONG_INDEX_SCALE", type := .int, accessFlags := 25, slot := 7, constantValue := 0 }, { name := "LOG2_ARRAY_FLOAT_INDEX_SCALE", type := .int, accessFlags := 25, slot := 8, constantValue := 0 }, { name := "LOG2_ARRAY_DOUBLE_INDEX_SCALE", type := .int, accessFlags := 25, slot := 9, constantValue := 0 }, { name := "LOG2_BYTE_BIT_SIZE", type := .int, accessFlags := 26, slot := 10, constantValue := 0 }, { name := "T_BOOLEAN", type := .int, accessFlags := 25, slot := 11, constantValue := 0 }, { name := "T_CHAR", type := .int, accessFlags := 25, slot := 12, constantValue := 0 }, { name := "T_FLOAT", type := .int, accessFlags := 25, slot := 13, constantValue := 0 }, { name := "T_DOUBLE", type := .int, accessFlags := 25, slot := 14, constantValue := 0 }, { name := "T_BYTE", type := .int, accessFlags := 25, slot := 15, constantValue := 0 }, { name := "T_SHORT", type := .int, accessFlags := 25, slot := 16, constantValue := 0 }, { name := "T_INT", type := .int, accessFlags := 25, slot := 17, constantValue := 0 }, { name := "T_LONG", type := .int, accessFlags := 25, slot := 18, constantValue := 0 }, { name := "JLA", type := (.object "jdk/internal/access/JavaLangAccess"), accessFlags := 26, slot := 19, constantValue := 0 }, { name := "SOFT_MAX_ARRAY_LENGTH", type := .int, accessFlags := 25, slot := 20, constantValue := 0 }]
  methods := #[k26m0]
  instanceTypes := #[]
  staticTypes := #[(.object "jdk/internal/misc/Unsafe"), .boolean, .int, .int, .int, .int, .int, .int, .int, .int, .int, .int, .int, .int, .int, .int, .int, .int, .int, (.object "jdk/internal/access/JavaLangAccess"), .int]
  resolved := Array.replicate 378 none
  statics := none }

def pool27 : Array CpInfo := pool [(2, .class_ 4), (1, u "java/util/ImmutableCollections$AbstractImmutableList"), (3, .class_ 10), (1, u "java/util/ImmutableCollections$ListN"), (0, u "elements"), (0, u "[Ljava/lang/Object;"), (2, u "allowNulls"), (0, u "Z"), (42, .class_ 60), (0, u "java/io/Serializable"), (53, .class_ 115), (0, u "java/util/ImmutableCollections")] 3

/-- java/util/ImmutableCollections$ListN -/
def k27 : Class := { plain "java/util/ImmutableCollections$ListN" (some 17) with
  accessFlags := 48
  interfaces := #[2]
  cf := some (fileOf pool27 8 #[.nestHost 114] #[] 48 2 #[59] #[{ accessFlags := 18, nameIndex := 11, descriptorIndex := 12, attributes := #[] }, { accessFlags := 18, nameIndex := 15, descriptorIndex := 16, attributes := #[] }])
  fields := #[{ name := "elements", type := (.array (.object "java/lang/Object")), accessFlags := 18, slot := 0, constantValue := 0 }, { name := "allowNulls", type := .boolean, accessFlags := 18, slot := 1, constantValue := 0 }]
  methods := #[]
  instanceTypes := #[(.array (.object "java/lang/Object")), .boolean]
  staticTypes := #[]
  resolved := Array.replicate 119 none
  statics := none }

/-- the primitive byte -/
def k28 : Class := { plain "byte" none with kind := .primitive 'B', accessFlags := 0x411 }
/-- [B -/
def k29 : Class := { plain "[B" (some 0) with kind := .array 28 .byte, interfaces := #[22, 2], accessFlags := 1041 }

/-- the primitive int -/
def k30 : Class := { plain "int" none with kind := .primitive 'I', accessFlags := 0x411 }
/-- [I -/
def k31 : Class := { plain "[I" (some 0) with kind := .array 30 .int, interfaces := #[22, 2], accessFlags := 1041 }

/-- [Lcom/example/quire/quire/readers/Element; -/
def k32 : Class := { plain "[Lcom/example/quire/quire/readers/Element;" (some 0) with kind := .array 9 (.object "com/example/quire/quire/readers/Element"), interfaces := #[22, 2], accessFlags := 1041 }

/-- [Ljava/lang/Object; -/
def k33 : Class := { plain "[Ljava/lang/Object;" (some 0) with kind := .array 0 (.object "java/lang/Object"), interfaces := #[22, 2], accessFlags := 1041 }

/-- [Ljava/lang/String; -/
def k34 : Class := { plain "[Ljava/lang/String;" (some 0) with kind := .array 7 (.object "java/lang/String"), interfaces := #[22, 2], accessFlags := 1041 }

def heap : Heap := #[{ cls := 7, slots := #[.long 0, .int 1, .null, .int 0, .null, .int 0, .int 0], vm := .statics 7 },
  { cls := 9, slots := #[.ref 5], vm := .statics 9 },
  { cls := 20, slots := #[.long 0, .int 0, .null, .ref 6, .ref 7, .null, .null, .null, .int 0, .int 1], vm := .statics 20 },
  { cls := 23, slots := #[.long 0, .int 0, .ref 8, .ref 9], vm := .statics 23 },
  { cls := 25, slots := #[.null, .null, .null], vm := .statics 25 },
  { cls := 34, slots := #[], vm := .none },
  { cls := 0, slots := #[], vm := .none },
  { cls := 27, slots := #[.null, .int 0], vm := .none },
  { cls := 33, slots := #[], vm := .none },
  { cls := 33, slots := #[], vm := .none }]
def classes : Array Class := #[k0, k1, k2, k3, k4, k5, k6, k7, k8, k9, k10, k11, k12, k13, k14, k15, k16, k17, k18, k19, k20, k21, k22, k23, k24, k25, k26, k27, k28, k29, k30, k31, k32, k33, k34]
def interned : List (Array UInt16 × Addr) := []
def slotsUsed : Nat := 27
def theMethod : MethodId := ⟨1, 1⟩
def args0 : Array Value := #[.int 5, .int 3]
def aboutOver (below : List Frame) : State where
  vm := { classes := classes, interned := interned.toArray }
  heap := heap
  slotsUsed := slotsUsed
  threads := #[{ frames := .invoking theMethod args0 :: below }]
def below0 : List Frame := [.native { method := ⟨0, 0⟩, args := #[] }]
def about1 : State := aboutOver below0
def p0 : Program := .bare "" "" ""
def e0 : Env := launch0.env 0 0 0
theorem w_frames : about1.frames = Frame.invoking theMethod args0 :: below0 := rfl
set_option maxRecDepth 65536 in
theorem w_args : argsFit about1.vm theMethod args0 = true := by decide +kernel
set_option maxRecDepth 65536 in
theorem w_heap : heapFits about1 = true := by decide +kernel
set_option maxRecDepth 65536 in
theorem w_runnable : about1.curStatus? = some .runnable := by decide +kernel
set_option maxRecDepth 65536 in
theorem w_alone : about1.alone = true := by decide +kernel
set_option maxRecDepth 65536 in
theorem w_named : about1.methodNamed? x = some theMethod := by decide +kernel
set_option maxRecDepth 65536 in
theorem w_hears : about1.hears theMethod below0 = true := by decide +kernel
set_option maxRecDepth 65536 in
theorem w_ripe : about1.ripe theMethod args0 below0 = true := by decide +kernel
theorem w_running : about1.status = .running := rfl
set_option maxRecDepth 65536 in
theorem w_room : about1.hasRoom e0.platform room_1 = true :=
  launch0.hasRoom_least _ room_1 (by decide +kernel) (by decide +kernel) (by decide +kernel) (by decide +kernel) (by decide +kernel) (by decide +kernel)
theorem allAtoms_all (ts : List Jvm.Cond) (a : Array Jvm.Value) (st : Jvm.State) : (allAtoms ts).before a st = ts.all (fun c => c.before a st) := by
  induction ts with
  | nil => rfl
  | cons c t ih =>
    show (Jvm.Cond.and c (allAtoms t)).before a st = _
    rw [Jvm.Cond.before_and, ih, List.all_cons]
def words1 : List Jvm.Cond := Jvm.Cond.code x code maxLocals ret :: tables_1
/-- a 'code' word, met by the world's own term for the bytes: nothing is compared byte by byte -/
theorem code_word {y : MethodName} {bytes : ByteArray} {mx : Nat} {rt : Option FieldType} {a : Array Value} {s : State} {m : MethodId} {meth : Method} {c : Code} (h1 : s.methodNamed? y = some m) (h2 : s.vm.method? m = some meth) (h3 : meth.code = some c) (h4 : c.code = bytes)
    (h5 : (c.maxLocals == mx && c.exceptionTable.isEmpty && decide (c.maxStack ≤ mostOperands) && decide (meth.sig.returnType = rt) && !meth.locks && decide (parseMethodDescriptor y.desc = some meth.sig)) = true) : (Jvm.Cond.code y bytes mx rt).before a s = true := by
  simp only [Bool.and_eq_true, beq_iff_eq, Bool.not_eq_true', decide_eq_true_eq] at h5
  obtain ⟨⟨⟨⟨⟨g1, g2⟩, g3⟩, g4⟩, g5⟩, g6⟩ := h5
  simp [Cond.before, Cond.holds, Cond.value, h1, h2, h3, h4, g1, g2, g3, g4, g5, g6]
def isCode : Jvm.Cond → Bool
  | .code _ _ _ _ => true
  | _ => false
theorem all_split {L : List Jvm.Cond} {P : Jvm.Cond → Bool} (h1 : L.all (fun c => isCode c || P c) = true) (h2 : ∀ c ∈ L.filter isCode, P c = true) : L.all P = true := by
  refine List.all_eq_true.mpr fun c hc => ?_
  have h := List.all_eq_true.mp h1 c hc
  rcases Bool.eq_false_or_eq_true (isCode c) with hi | hi
  · exact h2 c (List.mem_filter.mpr ⟨hc, hi⟩)
  · simpa [hi] using h
set_option maxRecDepth 65536 in
theorem w_c0 : (Jvm.Cond.code x code maxLocals ret).before args0 about1 = true := code_word (m := ⟨1, 1⟩) (meth := k1m1) (c := k1c1) (by decide +kernel) rfl rfl rfl (by decide +kernel)
set_option maxRecDepth 65536 in
theorem w_c1 : (Jvm.Cond.code ({ cls := "java/lang/String", name := "valueOf", desc := "(C)Ljava/lang/String;" } : Jvm.MethodName) jdk_42_method_139_code (1 : Nat) (Option.some (Jvm.ClassFile.FieldType.object "java/lang/String"))).before args0 about1 = true := code_word (m := ⟨7, 2⟩) (meth := k7m2) (c := k7c2) (by decide +kernel) rfl rfl rfl (by decide +kernel)
set_option maxRecDepth 65536 in
theorem w_c2 : (Jvm.Cond.code ({ cls := "java/lang/StringLatin1", name := "canEncode", desc := "(C)Z" } : Jvm.MethodName) jdk_43_method_3_code (1 : Nat) (Option.some Jvm.ClassFile.FieldType.boolean)).before args0 about1 = true := code_word (m := ⟨8, 1⟩) (meth := k8m1) (c := k8c1) (by decide +kernel) rfl rfl rfl (by decide +kernel)
set_option maxRecDepth 65536 in
theorem w_c3 : (Jvm.Cond.code ({ cls := "java/lang/StringLatin1", name := "toBytes", desc := "(C)[B" } : Jvm.MethodName) jdk_43_method_46_code (1 : Nat) (Option.some (Jvm.ClassFile.FieldType.array Jvm.ClassFile.FieldType.byte))).before args0 about1 = true := code_word (m := ⟨8, 3⟩) (meth := k8m3) (c := k8c3) (by decide +kernel) rfl rfl rfl (by decide +kernel)
set_option maxRecDepth 65536 in
theorem w_c4 : (Jvm.Cond.code ({ cls := "java/lang/String", name := "<init>", desc := "([BB)V" } : Jvm.MethodName) jdk_42_method_151_code (3 : Nat) (Option.none : Option Jvm.ClassFile.FieldType)).before args0 about1 = true := code_word (m := ⟨7, 3⟩) (meth := k7m3) (c := k7c3) (by decide +kernel) rfl rfl rfl (by decide +kernel)
set_option maxRecDepth 65536 in
theorem w_c5 : (Jvm.Cond.code ({ cls := "java/lang/Object", name := "<init>", desc := "()V" } : Jvm.MethodName) object_method_1_code (1 : Nat) (Option.none : Option Jvm.ClassFile.FieldType)).before args0 about1 = true := code_word (m := ⟨0, 0⟩) (meth := k0m0) (c := k0c0) (by decide +kernel) rfl rfl rfl (by decide +kernel)
set_option maxRecDepth 65536 in
theorem w_c6 : (Jvm.Cond.code ({ cls := "com/example/quire/quire/readers/Element", name := "<init>", desc := "()V" } : Jvm.MethodName) prog_45_method_1_code (1 : Nat) (Option.none : Option Jvm.ClassFile.FieldType)).before args0 about1 = true := code_word (m := ⟨9, 0⟩) (meth := k9m0) (c := k9c0) (by decide +kernel) rfl rfl rfl (by decide +kernel)
set_option maxRecDepth 65536 in
theorem w_c7 : (Jvm.Cond.code ({ cls := "com/example/quire/quire/readers/Element", name := "holdingNothing", desc := "(Ljava/lang/String;I)Lcom/example/quire/quire/readers/Element;" } : Jvm.MethodName) prog_45_method_3_code (3 : Nat) (Option.some (Jvm.ClassFile.FieldType.object "com/example/quire/quire/readers/Element"))).before args0 about1 = true := code_word (m := ⟨9, 1⟩) (meth := k9m1) (c := k9c1) (by decide +kernel) rfl rfl rfl (by decide +kernel)
set_option maxRecDepth 65536 in
theorem w_c8 : (Jvm.Cond.code ({ cls := "com/example/quire/quire/readers/Element", name := "keep", desc := "()V" } : Jvm.MethodName) prog_45_method_12_code (1 : Nat) (Option.none : Option Jvm.ClassFile.FieldType)).before args0 about1 = true := code_word (m := ⟨9, 3⟩) (meth := k9m3) (c := k9c3) (by decide +kernel) rfl rfl rfl (by decide +kernel)
set_option maxRecDepth 65536 in
theorem w_c9 : (Jvm.Cond.code ({ cls := "com/example/quire/quire/readers/ElementAddPinLaw", name := "matches", desc := "(Lcom/example/quire/quire/readers/Element;Ljava/lang/String;ILcom/example/quire/quire/readers/Element;Ljava/lang/String;Lcom/example/quire/quire/readers/Element;Ljava/lang/String;Lcom/example/quire/quire/readers/Element;Ljava/lang/String;)Z" } : Jvm.MethodName) method_3_code (13 : Nat) (Option.some Jvm.ClassFile.FieldType.boolean)).before args0 about1 = true := code_word (m := ⟨1, 2⟩) (meth := k1m2) (c := k1c2) (by decide +kernel) rfl rfl rfl (by decide +kernel)
set_option maxRecDepth 65536 in
theorem w_c10 : (Jvm.Cond.code ({ cls := "com/example/quire/quire/readers/Element", name := "find", desc := "(ZLjava/lang/String;[Ljava/lang/String;)Ljava/util/List;" } : Jvm.MethodName) prog_45_method_20_code (11 : Nat) (Option.some (Jvm.ClassFile.FieldType.object "java/util/List"))).before args0 about1 = true := code_word (m := ⟨9, 5⟩) (meth := k9m5) (c := k9c5) (by decide +kernel) rfl rfl rfl (by decide +kernel)
set_option maxRecDepth 65536 in
theorem w_c11 : (Jvm.Cond.code ({ cls := "java/util/List", name := "of", desc := "(Ljava/lang/Object;)Ljava/util/List;" } : Jvm.MethodName) jdk_40_method_37_code (1 : Nat) (Option.some (Jvm.ClassFile.FieldType.object "java/util/List"))).before args0 about1 = true := code_word (m := ⟨13, 3⟩) (meth := k13m3) (c := k13c3) (by decide +kernel) rfl rfl rfl (by decide +kernel)
set_option maxRecDepth 65536 in
theorem w_c12 : (Jvm.Cond.code ({ cls := "java/util/ImmutableCollections$List12", name := "<init>", desc := "(Ljava/lang/Object;)V" } : Jvm.MethodName) jdk_44_method_1_code (2 : Nat) (Option.none : Option Jvm.ClassFile.FieldType)).before args0 about1 = true := code_word (m := ⟨18, 0⟩) (meth := k18m0) (c := k18c0) (by decide +kernel) rfl rfl rfl (by decide +kernel)
set_option maxRecDepth 65536 in
theorem w_c13 : (Jvm.Cond.code ({ cls := "java/util/ImmutableCollections$AbstractImmutableList", name := "<init>", desc := "()V" } : Jvm.MethodName) jdk_46_method_1_code (1 : Nat) (Option.none : Option Jvm.ClassFile.FieldType)).before args0 about1 = true := code_word (m := ⟨17, 0⟩) (meth := k17m0) (c := k17c0) (by decide +kernel) rfl rfl rfl (by decide +kernel)
set_option maxRecDepth 65536 in
theorem w_c14 : (Jvm.Cond.code ({ cls := "java/util/ImmutableCollections$AbstractImmutableCollection", name := "<init>", desc := "()V" } : Jvm.MethodName) jdk_47_method_1_code (1 : Nat) (Option.none : Option Jvm.ClassFile.FieldType)).before args0 about1 = true := code_word (m := ⟨15, 0⟩) (meth := k15m0) (c := k15c0) (by decide +kernel) rfl rfl rfl (by decide +kernel)
set_option maxRecDepth 65536 in
theorem w_c15 : (Jvm.Cond.code ({ cls := "java/util/AbstractCollection", name := "<init>", desc := "()V" } : Jvm.MethodName) jdk_22_method_1_code (1 : Nat) (Option.none : Option Jvm.ClassFile.FieldType)).before args0 about1 = true := code_word (m := ⟨14, 0⟩) (meth := k14m0) (c := k14c0) (by decide +kernel) rfl rfl rfl (by decide +kernel)
set_option maxRecDepth 65536 in
theorem w_c16 : (Jvm.Cond.code ({ cls := "java/util/Objects", name := "requireNonNull", desc := "(Ljava/lang/Object;)Ljava/lang/Object;" } : Jvm.MethodName) jdk_31_method_10_code (1 : Nat) (Option.some (Jvm.ClassFile.FieldType.object "java/lang/Object"))).before args0 about1 = true := code_word (m := ⟨19, 1⟩) (meth := k19m1) (c := k19c1) (by decide +kernel) rfl rfl rfl (by decide +kernel)
set_option maxRecDepth 65536 in
theorem w_c17 : (Jvm.Cond.code ({ cls := "java/util/ArrayList", name := "<init>", desc := "()V" } : Jvm.MethodName) jdk_38_method_2_code (1 : Nat) (Option.none : Option Jvm.ClassFile.FieldType)).before args0 about1 = true := code_word (m := ⟨23, 0⟩) (meth := k23m0) (c := k23c0) (by decide +kernel) rfl rfl rfl (by decide +kernel)
set_option maxRecDepth 65536 in
theorem w_c18 : (Jvm.Cond.code ({ cls := "java/util/AbstractList", name := "<init>", desc := "()V" } : Jvm.MethodName) jdk_39_method_1_code (1 : Nat) (Option.none : Option Jvm.ClassFile.FieldType)).before args0 about1 = true := code_word (m := ⟨21, 0⟩) (meth := k21m0) (c := k21c0) (by decide +kernel) rfl rfl rfl (by decide +kernel)
set_option maxRecDepth 65536 in
theorem w_c19 : (Jvm.Cond.code ({ cls := "java/util/ImmutableCollections$List12", name := "size", desc := "()I" } : Jvm.MethodName) jdk_44_method_3_code (1 : Nat) (Option.some Jvm.ClassFile.FieldType.int)).before args0 about1 = true := code_word (m := ⟨18, 1⟩) (meth := k18m1) (c := k18c1) (by decide +kernel) rfl rfl rfl (by decide +kernel)
set_option maxRecDepth 65536 in
theorem w_c20 : (Jvm.Cond.code ({ cls := "java/util/ImmutableCollections$List12", name := "get", desc := "(I)Ljava/lang/Object;" } : Jvm.MethodName) jdk_44_method_5_code (2 : Nat) (Option.some (Jvm.ClassFile.FieldType.object "java/lang/Object"))).before args0 about1 = true := code_word (m := ⟨18, 2⟩) (meth := k18m2) (c := k18c2) (by decide +kernel) rfl rfl rfl (by decide +kernel)
set_option maxRecDepth 65536 in
theorem w_c21 : (Jvm.Cond.code ({ cls := "com/example/quire/quire/readers/Element", name := "collect", desc := "(ZLjava/lang/String;Ljava/lang/String;Ljava/util/List;)V" } : Jvm.MethodName) prog_45_method_25_code (6 : Nat) (Option.none : Option Jvm.ClassFile.FieldType)).before args0 about1 = true := code_word (m := ⟨9, 6⟩) (meth := k9m6) (c := k9c6) (by decide +kernel) rfl rfl rfl (by decide +kernel)
set_option maxRecDepth 65536 in
theorem w_c22 : (Jvm.Cond.code ({ cls := "java/util/ArrayList", name := "size", desc := "()I" } : Jvm.MethodName) jdk_38_method_8_code (1 : Nat) (Option.some Jvm.ClassFile.FieldType.int)).before args0 about1 = true := code_word (m := ⟨23, 3⟩) (meth := k23m3) (c := k23c3) (by decide +kernel) rfl rfl rfl (by decide +kernel)
set_option maxRecDepth 65536 in
theorem w_c23 : (Jvm.Cond.code ({ cls := "com/example/quire/quire/readers/Element", name := "add", desc := "(Lcom/example/quire/quire/readers/Element;)V" } : Jvm.MethodName) prog_45_method_15_code (2 : Nat) (Option.none : Option Jvm.ClassFile.FieldType)).before args0 about1 = true := code_word (m := ⟨9, 4⟩) (meth := k9m4) (c := k9c4) (by decide +kernel) rfl rfl rfl (by decide +kernel)
set_option maxRecDepth 65536 in
theorem w_c24 : (Jvm.Cond.code ({ cls := "java/lang/String", name := "equals", desc := "(Ljava/lang/Object;)Z" } : Jvm.MethodName) jdk_42_method_66_code (3 : Nat) (Option.some Jvm.ClassFile.FieldType.boolean)).before args0 about1 = true := code_word (m := ⟨7, 1⟩) (meth := k7m1) (c := k7c1) (by decide +kernel) rfl rfl rfl (by decide +kernel)
set_option maxRecDepth 65536 in
theorem w_c25 : (Jvm.Cond.code ({ cls := "java/lang/StringLatin1", name := "equals", desc := "([B[B)Z" } : Jvm.MethodName) jdk_43_method_13_code (3 : Nat) (Option.some Jvm.ClassFile.FieldType.boolean)).before args0 about1 = true := code_word (m := ⟨8, 2⟩) (meth := k8m2) (c := k8c2) (by decide +kernel) rfl rfl rfl (by decide +kernel)
set_option maxRecDepth 65536 in
theorem w_c26 : (Jvm.Cond.code ({ cls := "com/example/quire/quire/readers/Element", name := "is", desc := "(Ljava/lang/String;Ljava/lang/String;)Z" } : Jvm.MethodName) prog_45_method_8_code (3 : Nat) (Option.some Jvm.ClassFile.FieldType.boolean)).before args0 about1 = true := code_word (m := ⟨9, 2⟩) (meth := k9m2) (c := k9c2) (by decide +kernel) rfl rfl rfl (by decide +kernel)
set_option maxRecDepth 65536 in
theorem w_c27 : (Jvm.Cond.code ({ cls := "java/util/ArrayList", name := "add", desc := "(Ljava/lang/Object;)Z" } : Jvm.MethodName) jdk_38_method_25_code (2 : Nat) (Option.some Jvm.ClassFile.FieldType.boolean)).before args0 about1 = true := code_word (m := ⟨23, 7⟩) (meth := k23m7) (c := k23c7) (by decide +kernel) rfl rfl rfl (by decide +kernel)
set_option maxRecDepth 65536 in
theorem w_c28 : (Jvm.Cond.code ({ cls := "java/util/ArrayList", name := "add", desc := "(Ljava/lang/Object;[Ljava/lang/Object;I)V" } : Jvm.MethodName) jdk_38_method_24_code (4 : Nat) (Option.none : Option Jvm.ClassFile.FieldType)).before args0 about1 = true := code_word (m := ⟨23, 6⟩) (meth := k23m6) (c := k23c6) (by decide +kernel) rfl rfl rfl (by decide +kernel)
set_option maxRecDepth 65536 in
theorem w_c29 : (Jvm.Cond.code ({ cls := "java/util/ArrayList", name := "grow", desc := "()[Ljava/lang/Object;" } : Jvm.MethodName) jdk_38_method_7_code (1 : Nat) (Option.some (Jvm.ClassFile.FieldType.array (Jvm.ClassFile.FieldType.object "java/lang/Object")))).before args0 about1 = true := code_word (m := ⟨23, 2⟩) (meth := k23m2) (c := k23c2) (by decide +kernel) rfl rfl rfl (by decide +kernel)
set_option maxRecDepth 65536 in
theorem w_c30 : (Jvm.Cond.code ({ cls := "java/util/ArrayList", name := "grow", desc := "(I)[Ljava/lang/Object;" } : Jvm.MethodName) jdk_38_method_6_code (4 : Nat) (Option.some (Jvm.ClassFile.FieldType.array (Jvm.ClassFile.FieldType.object "java/lang/Object")))).before args0 about1 = true := code_word (m := ⟨23, 1⟩) (meth := k23m1) (c := k23c1) (by decide +kernel) rfl rfl rfl (by decide +kernel)
set_option maxRecDepth 65536 in
theorem w_c31 : (Jvm.Cond.code ({ cls := "java/lang/Math", name := "max", desc := "(II)I" } : Jvm.MethodName) jdk_29_method_65_code (2 : Nat) (Option.some Jvm.ClassFile.FieldType.int)).before args0 about1 = true := code_word (m := ⟨24, 1⟩) (meth := k24m1) (c := k24c1) (by decide +kernel) rfl rfl rfl (by decide +kernel)
set_option maxRecDepth 65536 in
theorem w_c32 : (Jvm.Cond.code ({ cls := "java/util/ArrayList", name := "get", desc := "(I)Ljava/lang/Object;" } : Jvm.MethodName) jdk_38_method_20_code (2 : Nat) (Option.some (Jvm.ClassFile.FieldType.object "java/lang/Object"))).before args0 about1 = true := code_word (m := ⟨23, 5⟩) (meth := k23m5) (c := k23c5) (by decide +kernel) rfl rfl rfl (by decide +kernel)
set_option maxRecDepth 65536 in
theorem w_c33 : (Jvm.Cond.code ({ cls := "java/util/Objects", name := "checkIndex", desc := "(II)I" } : Jvm.MethodName) jdk_31_method_17_code (2 : Nat) (Option.some Jvm.ClassFile.FieldType.int)).before args0 about1 = true := code_word (m := ⟨19, 2⟩) (meth := k19m2) (c := k19c2) (by decide +kernel) rfl rfl rfl (by decide +kernel)
set_option maxRecDepth 65536 in
theorem w_c34 : (Jvm.Cond.code ({ cls := "jdk/internal/util/Preconditions", name := "checkIndex", desc := "(IILjava/util/function/BiFunction;)I" } : Jvm.MethodName) jdk_41_method_11_code (3 : Nat) (Option.some Jvm.ClassFile.FieldType.int)).before args0 about1 = true := code_word (m := ⟨25, 1⟩) (meth := k25m1) (c := k25c1) (by decide +kernel) rfl rfl rfl (by decide +kernel)
set_option maxRecDepth 65536 in
theorem w_c35 : (Jvm.Cond.code ({ cls := "java/util/ArrayList", name := "elementData", desc := "(I)Ljava/lang/Object;" } : Jvm.MethodName) jdk_38_method_18_code (2 : Nat) (Option.some (Jvm.ClassFile.FieldType.object "java/lang/Object"))).before args0 about1 = true := code_word (m := ⟨23, 4⟩) (meth := k23m4) (c := k23c4) (by decide +kernel) rfl rfl rfl (by decide +kernel)
def codes1 : List Jvm.Cond := [Jvm.Cond.code x code maxLocals ret, Jvm.Cond.code ({ cls := "java/lang/String", name := "valueOf", desc := "(C)Ljava/lang/String;" } : Jvm.MethodName) jdk_42_method_139_code (1 : Nat) (Option.some (Jvm.ClassFile.FieldType.object "java/lang/String")), Jvm.Cond.code ({ cls := "java/lang/StringLatin1", name := "canEncode", desc := "(C)Z" } : Jvm.MethodName) jdk_43_method_3_code (1 : Nat) (Option.some Jvm.ClassFile.FieldType.boolean), Jvm.Cond.code ({ cls := "java/lang/StringLatin1", name := "toBytes", desc := "(C)[B" } : Jvm.MethodName) jdk_43_method_46_code (1 : Nat) (Option.some (Jvm.ClassFile.FieldType.array Jvm.ClassFile.FieldType.byte)), Jvm.Cond.code ({ cls := "java/lang/String", name := "<init>", desc := "([BB)V" } : Jvm.MethodName) jdk_42_method_151_code (3 : Nat) (Option.none : Option Jvm.ClassFile.FieldType), Jvm.Cond.code ({ cls := "java/lang/Object", name := "<init>", desc := "()V" } : Jvm.MethodName) object_method_1_code (1 : Nat) (Option.none : Option Jvm.ClassFile.FieldType), Jvm.Cond.code ({ cls := "com/example/quire/quire/readers/Element", name := "<init>", desc := "()V" } : Jvm.MethodName) prog_45_method_1_code (1 : Nat) (Option.none : Option Jvm.ClassFile.FieldType), Jvm.Cond.code ({ cls := "com/example/quire/quire/readers/Element", name := "holdingNothing", desc := "(Ljava/lang/String;I)Lcom/example/quire/quire/readers/Element;" } : Jvm.MethodName) prog_45_method_3_code (3 : Nat) (Option.some (Jvm.ClassFile.FieldType.object "com/example/quire/quire/readers/Element")), Jvm.Cond.code ({ cls := "com/example/quire/quire/readers/Element", name := "keep", desc := "()V" } : Jvm.MethodName) prog_45_method_12_code (1 : Nat) (Option.none : Option Jvm.ClassFile.FieldType), Jvm.Cond.code ({ cls := "com/example/quire/quire/readers/ElementAddPinLaw", name := "matches", desc := "(Lcom/example/quire/quire/readers/Element;Ljava/lang/String;ILcom/example/quire/quire/readers/Element;Ljava/lang/String;Lcom/example/quire/quire/readers/Element;Ljava/lang/String;Lcom/example/quire/quire/readers/Element;Ljava/lang/String;)Z" } : Jvm.MethodName) method_3_code (13 : Nat) (Option.some Jvm.ClassFile.FieldType.boolean), Jvm.Cond.code ({ cls := "com/example/quire/quire/readers/Element", name := "find", desc := "(ZLjava/lang/String;[Ljava/lang/String;)Ljava/util/List;" } : Jvm.MethodName) prog_45_method_20_code (11 : Nat) (Option.some (Jvm.ClassFile.FieldType.object "java/util/List")), Jvm.Cond.code ({ cls := "java/util/List", name := "of", desc := "(Ljava/lang/Object;)Ljava/util/List;" } : Jvm.MethodName) jdk_40_method_37_code (1 : Nat) (Option.some (Jvm.ClassFile.FieldType.object "java/util/List")), Jvm.Cond.code ({ cls := "java/util/ImmutableCollections$List12", name := "<init>", desc := "(Ljava/lang/Object;)V" } : Jvm.MethodName) jdk_44_method_1_code (2 : Nat) (Option.none : Option Jvm.ClassFile.FieldType), Jvm.Cond.code ({ cls := "java/util/ImmutableCollections$AbstractImmutableList", name := "<init>", desc := "()V" } : Jvm.MethodName) jdk_46_method_1_code (1 : Nat) (Option.none : Option Jvm.ClassFile.FieldType), Jvm.Cond.code ({ cls := "java/util/ImmutableCollections$AbstractImmutableCollection", name := "<init>", desc := "()V" } : Jvm.MethodName) jdk_47_method_1_code (1 : Nat) (Option.none : Option Jvm.ClassFile.FieldType), Jvm.Cond.code ({ cls := "java/util/AbstractCollection", name := "<init>", desc := "()V" } : Jvm.MethodName) jdk_22_method_1_code (1 : Nat) (Option.none : Option Jvm.ClassFile.FieldType), Jvm.Cond.code ({ cls := "java/util/Objects", name := "requireNonNull", desc := "(Ljava/lang/Object;)Ljava/lang/Object;" } : Jvm.MethodName) jdk_31_method_10_code (1 : Nat) (Option.some (Jvm.ClassFile.FieldType.object "java/lang/Object")), Jvm.Cond.code ({ cls := "java/util/ArrayList", name := "<init>", desc := "()V" } : Jvm.MethodName) jdk_38_method_2_code (1 : Nat) (Option.none : Option Jvm.ClassFile.FieldType), Jvm.Cond.code ({ cls := "java/util/AbstractList", name := "<init>", desc := "()V" } : Jvm.MethodName) jdk_39_method_1_code (1 : Nat) (Option.none : Option Jvm.ClassFile.FieldType), Jvm.Cond.code ({ cls := "java/util/ImmutableCollections$List12", name := "size", desc := "()I" } : Jvm.MethodName) jdk_44_method_3_code (1 : Nat) (Option.some Jvm.ClassFile.FieldType.int), Jvm.Cond.code ({ cls := "java/util/ImmutableCollections$List12", name := "get", desc := "(I)Ljava/lang/Object;" } : Jvm.MethodName) jdk_44_method_5_code (2 : Nat) (Option.some (Jvm.ClassFile.FieldType.object "java/lang/Object")), Jvm.Cond.code ({ cls := "com/example/quire/quire/readers/Element", name := "collect", desc := "(ZLjava/lang/String;Ljava/lang/String;Ljava/util/List;)V" } : Jvm.MethodName) prog_45_method_25_code (6 : Nat) (Option.none : Option Jvm.ClassFile.FieldType), Jvm.Cond.code ({ cls := "java/util/ArrayList", name := "size", desc := "()I" } : Jvm.MethodName) jdk_38_method_8_code (1 : Nat) (Option.some Jvm.ClassFile.FieldType.int), Jvm.Cond.code ({ cls := "com/example/quire/quire/readers/Element", name := "add", desc := "(Lcom/example/quire/quire/readers/Element;)V" } : Jvm.MethodName) prog_45_method_15_code (2 : Nat) (Option.none : Option Jvm.ClassFile.FieldType), Jvm.Cond.code ({ cls := "java/lang/String", name := "equals", desc := "(Ljava/lang/Object;)Z" } : Jvm.MethodName) jdk_42_method_66_code (3 : Nat) (Option.some Jvm.ClassFile.FieldType.boolean), Jvm.Cond.code ({ cls := "java/lang/StringLatin1", name := "equals", desc := "([B[B)Z" } : Jvm.MethodName) jdk_43_method_13_code (3 : Nat) (Option.some Jvm.ClassFile.FieldType.boolean), Jvm.Cond.code ({ cls := "com/example/quire/quire/readers/Element", name := "is", desc := "(Ljava/lang/String;Ljava/lang/String;)Z" } : Jvm.MethodName) prog_45_method_8_code (3 : Nat) (Option.some Jvm.ClassFile.FieldType.boolean), Jvm.Cond.code ({ cls := "java/util/ArrayList", name := "add", desc := "(Ljava/lang/Object;)Z" } : Jvm.MethodName) jdk_38_method_25_code (2 : Nat) (Option.some Jvm.ClassFile.FieldType.boolean), Jvm.Cond.code ({ cls := "java/util/ArrayList", name := "add", desc := "(Ljava/lang/Object;[Ljava/lang/Object;I)V" } : Jvm.MethodName) jdk_38_method_24_code (4 : Nat) (Option.none : Option Jvm.ClassFile.FieldType), Jvm.Cond.code ({ cls := "java/util/ArrayList", name := "grow", desc := "()[Ljava/lang/Object;" } : Jvm.MethodName) jdk_38_method_7_code (1 : Nat) (Option.some (Jvm.ClassFile.FieldType.array (Jvm.ClassFile.FieldType.object "java/lang/Object"))), Jvm.Cond.code ({ cls := "java/util/ArrayList", name := "grow", desc := "(I)[Ljava/lang/Object;" } : Jvm.MethodName) jdk_38_method_6_code (4 : Nat) (Option.some (Jvm.ClassFile.FieldType.array (Jvm.ClassFile.FieldType.object "java/lang/Object"))), Jvm.Cond.code ({ cls := "java/lang/Math", name := "max", desc := "(II)I" } : Jvm.MethodName) jdk_29_method_65_code (2 : Nat) (Option.some Jvm.ClassFile.FieldType.int), Jvm.Cond.code ({ cls := "java/util/ArrayList", name := "get", desc := "(I)Ljava/lang/Object;" } : Jvm.MethodName) jdk_38_method_20_code (2 : Nat) (Option.some (Jvm.ClassFile.FieldType.object "java/lang/Object")), Jvm.Cond.code ({ cls := "java/util/Objects", name := "checkIndex", desc := "(II)I" } : Jvm.MethodName) jdk_31_method_17_code (2 : Nat) (Option.some Jvm.ClassFile.FieldType.int), Jvm.Cond.code ({ cls := "jdk/internal/util/Preconditions", name := "checkIndex", desc := "(IILjava/util/function/BiFunction;)I" } : Jvm.MethodName) jdk_41_method_11_code (3 : Nat) (Option.some Jvm.ClassFile.FieldType.int), Jvm.Cond.code ({ cls := "java/util/ArrayList", name := "elementData", desc := "(I)Ljava/lang/Object;" } : Jvm.MethodName) jdk_38_method_18_code (2 : Nat) (Option.some (Jvm.ClassFile.FieldType.object "java/lang/Object"))]
set_option maxRecDepth 65536 in
theorem codes_eq : words1.filter isCode = codes1 := rfl
theorem w_codes : ∀ c ∈ words1.filter isCode, c.before args0 about1 = true := by
  rw [codes_eq]
  intro c hc
  simp only [codes1, List.mem_cons, List.not_mem_nil, or_false] at hc
  rcases hc with rfl | rfl | rfl | rfl | rfl | rfl | rfl | rfl | rfl | rfl | rfl | rfl | rfl | rfl | rfl | rfl | rfl | rfl | rfl | rfl | rfl | rfl | rfl | rfl | rfl | rfl | rfl | rfl | rfl | rfl | rfl | rfl | rfl | rfl | rfl | rfl
  · exact w_c0
  · exact w_c1
  · exact w_c2
  · exact w_c3
  · exact w_c4
  · exact w_c5
  · exact w_c6
  · exact w_c7
  · exact w_c8
  · exact w_c9
  · exact w_c10
  · exact w_c11
  · exact w_c12
  · exact w_c13
  · exact w_c14
  · exact w_c15
  · exact w_c16
  · exact w_c17
  · exact w_c18
  · exact w_c19
  · exact w_c20
  · exact w_c21
  · exact w_c22
  · exact w_c23
  · exact w_c24
  · exact w_c25
  · exact w_c26
  · exact w_c27
  · exact w_c28
  · exact w_c29
  · exact w_c30
  · exact w_c31
  · exact w_c32
  · exact w_c33
  · exact w_c34
  · exact w_c35
set_option maxRecDepth 65536 in
theorem w_t1 : (words1.take 24).all (fun c => isCode c || c.before args0 about1) = true := by decide +kernel
set_option maxRecDepth 65536 in
theorem w_t2 : ((words1.drop 24).take 24).all (fun c => isCode c || c.before args0 about1) = true := by decide +kernel
set_option maxRecDepth 65536 in
theorem w_t3 : (((words1.drop 24).drop 24).take 24).all (fun c => isCode c || c.before args0 about1) = true := by decide +kernel
set_option maxRecDepth 65536 in
theorem w_t4 : ((((words1.drop 24).drop 24).drop 24).take 24).all (fun c => isCode c || c.before args0 about1) = true := by decide +kernel
set_option maxRecDepth 65536 in
theorem w_t5 : (((((words1.drop 24).drop 24).drop 24).drop 24).take 24).all (fun c => isCode c || c.before args0 about1) = true := by decide +kernel
set_option maxRecDepth 65536 in
theorem w_t6 : ((((((words1.drop 24).drop 24).drop 24).drop 24).drop 24).take 24).all (fun c => isCode c || c.before args0 about1) = true := by decide +kernel
set_option maxRecDepth 65536 in
theorem w_t7 : (((((((words1.drop 24).drop 24).drop 24).drop 24).drop 24).drop 24).take 24).all (fun c => isCode c || c.before args0 about1) = true := by decide +kernel
set_option maxRecDepth 65536 in
theorem w_t8 : ((((((((words1.drop 24).drop 24).drop 24).drop 24).drop 24).drop 24).drop 24).take 24).all (fun c => isCode c || c.before args0 about1) = true := by decide +kernel
set_option maxRecDepth 65536 in
theorem w_t9 : (((((((((words1.drop 24).drop 24).drop 24).drop 24).drop 24).drop 24).drop 24).drop 24).take 24).all (fun c => isCode c || c.before args0 about1) = true := by decide +kernel
set_option maxRecDepth 65536 in
theorem w_t10 : (((((((((words1.drop 24).drop 24).drop 24).drop 24).drop 24).drop 24).drop 24).drop 24).drop 24).all (fun c => isCode c || c.before args0 about1) = true := by decide +kernel
theorem w_tables : (allAtoms (Jvm.Cond.code x code maxLocals ret :: tables_1)).before args0 about1 = true := by
  rw [allAtoms_all]
  show words1.all (fun c => c.before args0 about1) = true
  refine all_split ?_ w_codes
  rw [← List.take_append_drop 24 words1, List.all_append, w_t1, ← List.take_append_drop 24 (words1.drop 24), List.all_append, w_t2, ← List.take_append_drop 24 ((words1.drop 24).drop 24), List.all_append, w_t3, ← List.take_append_drop 24 (((words1.drop 24).drop 24).drop 24), List.all_append, w_t4, ← List.take_append_drop 24 ((((words1.drop 24).drop 24).drop 24).drop 24), List.all_append, w_t5, ← List.take_append_drop 24 (((((words1.drop 24).drop 24).drop 24).drop 24).drop 24), List.all_append, w_t6, ← List.take_append_drop 24 ((((((words1.drop 24).drop 24).drop 24).drop 24).drop 24).drop 24), List.all_append, w_t7, ← List.take_append_drop 24 (((((((words1.drop 24).drop 24).drop 24).drop 24).drop 24).drop 24).drop 24), List.all_append, w_t8, ← List.take_append_drop 24 ((((((((words1.drop 24).drop 24).drop 24).drop 24).drop 24).drop 24).drop 24).drop 24), List.all_append, w_t9, w_t10]
  rfl
set_option maxRecDepth 65536 in
theorem w_rest : rest_1_c.before args0 about1 = true := by decide +kernel
set_option maxRecDepth 65536 in
theorem w_case : (Jvm.Cond.and given_1 narrow_1).before args0 about1 = true := by decide +kernel
set_option maxRecDepth 65536 in
theorem w_consts : constsHeld consts_1 about1 := Jvm.Lit.constsHeldB_iff.mp (by decide +kernel)
theorem w_applies : (headSpec (Jvm.Cond.code x code maxLocals ret :: tables_1) room_1).applies x e0.platform about1 = true :=
  (Spec.applies_iff w_frames).mpr ⟨w_running, w_runnable, w_alone, w_named, w_hears, w_ripe, w_room, w_tables⟩
theorem atStart : AtStart classFile x code maxLocals ret World_1 tables_1 room_1 Calls_1 rest_1 Pre_1 launch0 p0 e0 about1 theMethod args0 below0 :=
  ⟨lists_1, trivial, launch0.admits_env _ _ _, launch0.least_env, fairChoices_fair.cas, fairChoices_fair.clock, w_frames, w_args, w_heap, w_applies, ⟨w_consts, trivial⟩, w_rest, w_case⟩
end start1
theorem witness_1 : WitnessClaimed_1 := ⟨start1.p0, start1.e0, start1.about1, start1.theMethod, start1.args0, start1.below0, start1.atStart⟩
end Jvm.Pilot.@@N@@
