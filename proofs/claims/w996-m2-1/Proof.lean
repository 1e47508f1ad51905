import JvmDerived
import JvmDerived.Pilot.@@N@@Statement
import JvmDerived.Pilot.@@N@@Code
set_option linter.unusedVariables false
set_option linter.unusedSimpArgs false
namespace Jvm.Pilot.@@N@@
open Jvm Jvm.ClassFile Sem Op Lib Jvm.Free Jvm.Stand Jvm.LawKit Jvm.RoadKit Bundle Jvm.Pilot.@@N@@.Jvm.D
/-- the run from A comes to a return that Q speaks of -/
def own_Fin (p : Program) (e : Env) (below : List Frame) (s : State) (kc ks : Nat) (Q : Option Value → Heap → List Loc → Prop) (A : State) : Prop :=
  ∃ s₂ o, Steps p.tables e below A s₂ ∧ s₂.status = .running ∧ Ended s₂ below o ∧ ∃ v L, o = .returned v ∧ Q v s₂.heap L ∧ FrameEnd s o s₂ L kc ks
section Own
variable {p : Program} {l : Launch} {e : Env} {R : Room} {s : State} {m : MethodId} {args : Array Value} {below : List Frame} {meth : Method} {c : Code} {T : State} {locs : List Loc} {cells slots kc ks : Nat} {Q : Option Value → Heap → List Loc → Prop}
theorem own_back {A B : State} (h : ∀ t, Steps p.tables e below B t → Steps p.tables e below A t) (k : own_Fin p e below s kc ks Q B) : own_Fin p e below s kc ks Q A := by
  obtain ⟨s2, o, h1, r⟩ := k
  exact ⟨s2, o, h _ h1, r⟩
theorem own_retN (X : Stand p l e R s m args below meth c T locs cells slots) (hx : p.tables.exec = Jvm.exec) (hlk : meth.locks = false) {t : FieldType} (ht : t = .boolean ∨ t = .byte ∨ t = .char ∨ t = .short) {pc : Nat} {Ls : Array Slot} {z : Int32} {rest : List Value} (hret : meth.sig.returnType = some t) (hd : decode c.code pc = .ok (.ireturn, 1)) (hc : cells ≤ kc) (hs : slots ≤ ks)
    (hQ : Q (some (.int (nar t z))) T.heap locs) : own_Fin p e below s kc ks Q (T.setTop (mkF m pc Ls (.int z :: rest))) := by
  obtain ⟨fs, hr, hrun, hended, hW, hsame⟩ := X.leave (v := some (.int (nar t z))) (fun h => by rw [hret] at h; cases h) hlk
  exact ⟨_, _, retN X hx hret ht hd hr, hrun, hended, _, _, rfl, hQ, ⟨_, rfl⟩, hW, hsame.mono hc hs⟩
theorem own_retZ (X : Stand p l e R s m args below meth c T locs cells slots) (hx : p.tables.exec = Jvm.exec) (hlk : meth.locks = false) {pc : Nat} {Ls : Array Slot} {z : Int32} {rest : List Value} (hret : meth.sig.returnType = some .boolean) (hd : decode c.code pc = .ok (.ireturn, 1)) (hc : cells ≤ kc) (hs : slots ≤ ks)
    (hQ : Q (some (.int (z &&& 1))) T.heap locs) : own_Fin p e below s kc ks Q (T.setTop (mkF m pc Ls (.int z :: rest))) := own_retN X hx hlk (Or.inl rfl) hret hd hc hs hQ
theorem own_retB (X : Stand p l e R s m args below meth c T locs cells slots) (hx : p.tables.exec = Jvm.exec) (hlk : meth.locks = false) {pc : Nat} {Ls : Array Slot} {z : Int32} {rest : List Value} (hret : meth.sig.returnType = some .byte) (hd : decode c.code pc = .ok (.ireturn, 1)) (hc : cells ≤ kc) (hs : slots ≤ ks)
    (hQ : Q (some (.int (nar .byte z))) T.heap locs) : own_Fin p e below s kc ks Q (T.setTop (mkF m pc Ls (.int z :: rest))) := own_retN X hx hlk (Or.inr (Or.inl rfl)) hret hd hc hs hQ
theorem own_retI (X : Stand p l e R s m args below meth c T locs cells slots) (hx : p.tables.exec = Jvm.exec) (hlk : meth.locks = false) {pc : Nat} {Ls : Array Slot} {z : Int32} {rest : List Value} (hret : meth.sig.returnType = some .int) (hd : decode c.code pc = .ok (.ireturn, 1)) (hc : cells ≤ kc) (hs : slots ≤ ks)
    (hQ : Q (some (.int z)) T.heap locs) : own_Fin p e below s kc ks Q (T.setTop (mkF m pc Ls (.int z :: rest))) := by
  obtain ⟨fs, hr, hrun, hended, hW, hsame⟩ := X.leave (v := some (.int z)) (fun h => by rw [hret] at h; cases h) hlk
  exact ⟨_, _, retOut X hx hret rfl (Or.inl ⟨rfl, Or.inl rfl, z, rfl⟩) hd hr, hrun, hended, _, _, rfl, hQ, ⟨_, rfl⟩, hW, hsame.mono hc hs⟩
theorem own_retJ (X : Stand p l e R s m args below meth c T locs cells slots) (hx : p.tables.exec = Jvm.exec) (hlk : meth.locks = false) {pc : Nat} {Ls : Array Slot} {z : Int64} {rest : List Value} (hret : meth.sig.returnType = some .long) (hd : decode c.code pc = .ok (.lreturn, 1)) (hc : cells ≤ kc) (hs : slots ≤ ks)
    (hQ : Q (some (.long z)) T.heap locs) : own_Fin p e below s kc ks Q (T.setTop (mkF m pc Ls (.long z :: rest))) := by
  obtain ⟨fs, hr, hrun, hended, hW, hsame⟩ := X.leave (v := some (.long z)) (fun h => by rw [hret] at h; cases h) hlk
  exact ⟨_, _, retOut X hx hret rfl (Or.inr (Or.inl ⟨rfl, rfl, z, rfl⟩)) hd hr, hrun, hended, _, _, rfl, hQ, ⟨_, rfl⟩, hW, hsame.mono hc hs⟩
theorem own_retA (X : Stand p l e R s m args below meth c T locs cells slots) (hx : p.tables.exec = Jvm.exec) (hlk : meth.locks = false) {pc : Nat} {Ls : Array Slot} {w : Value} {rest : List Value} {t : FieldType} (hret : meth.sig.returnType = some t) (ht : t.isReference = true) (hw : w.isRef = true) (hd : decode c.code pc = .ok (.areturn, 1)) (hc : cells ≤ kc) (hs : slots ≤ ks)
    (hQ : Q (some w) T.heap locs) : own_Fin p e below s kc ks Q (T.setTop (mkF m pc Ls (w :: rest))) := by
  obtain ⟨fs, hr, hrun, hended, hW, hsame⟩ := X.leave (v := some w) (fun h => by rw [hret] at h; cases h) hlk
  have hn : narrow t w = w := by cases t <;> first | rfl | cases ht
  exact ⟨_, _, retOut X hx hret hn (Or.inr (Or.inr (Or.inr (Or.inr ⟨rfl, ht, hw⟩)))) hd hr, hrun, hended, _, _, rfl, hQ, ⟨_, rfl⟩, hW, hsame.mono hc hs⟩
theorem own_ret0 (X : Stand p l e R s m args below meth c T locs cells slots) (hx : p.tables.exec = Jvm.exec) (hlk : meth.locks = false) {pc : Nat} {Ls : Array Slot} (hret : meth.sig.returnType = none) (hd : decode c.code pc = .ok (.return_, 1)) (hc : cells ≤ kc) (hs : slots ≤ ks)
    (hQ : Q none T.heap locs) : own_Fin p e below s kc ks Q (T.setTop (mkF m pc Ls [])) := by
  obtain ⟨fs, hr, hrun, hended, hW, hsame⟩ := X.leave (v := none) (fun _ => rfl) hlk
  exact ⟨_, _, X.returnOut hx hret hd hr, hrun, hended, _, _, rfl, hQ, ⟨_, rfl⟩, hW, hsame.mono hc hs⟩
end Own
theorem own_fldAt {args : Array Value} {s : State} {t : Term} {a : Addr} {C n d : String} {k : Int32} (ev : t.eval args s none [] s = some (.ref a)) (h : (Cond.eq (Term.field t C n d) (Term.int k)).value args s none s [] = some true) : Fld s s.heap a C n d (.int k) := by
  obtain ⟨x, y, h1, h2, k1, k2⟩ := cmp_v (Or.inl h)
  have h2' : y = .int k := by simpa [Term.eval] using h2.symm
  subst h2'
  obtain ⟨z, rfl⟩ := k2
  have e : (Cond.eq (Term.field t C n d) (Term.int k)).value args s none s [] = some (decide (z = k)) := by simp [Cond.value, h1, h2]
  have hz : z = k := gotT e h
  subst hz
  rw [fld_at ev] at h1
  exact Fld.start h1
def own_of (s t n nt : Int64) (wN wU wD wF : Addr) : Addr := if s = n + (1 : Int64) then wN else if n < s then wU else if s = n then (if t = nt then wD else wF) else wF
theorem own_mask (x : Int64) : ¬ (x &&& (9223372036854775807 : Int64)) < 0 := by
  have h : (x &&& (9223372036854775807 : Int64)).toBitVec.toNat < 2 ^ 63 := by
    simp only [Int64.toBitVec_and, BitVec.toNat_and]
    exact Nat.lt_of_le_of_lt Nat.and_le_right (by decide)
  rw [Int64.lt_iff_toInt_lt]
  show ¬ (x &&& (9223372036854775807 : Int64)).toBitVec.toInt < 0
  rw [BitVec.toInt_eq_toNat_of_lt (by omega)]
  omega
theorem own_addI (n : Int64) (h : n.toInt < 9223372036854775807) : (n + (1 : Int64)).toInt = n.toInt + 1 := by
  have h1 := Int64.le_toInt n
  rw [Int64.toInt_add]
  show (n.toInt + 1).bmod (2 ^ 64) = _
  rw [Int.bmod_eq_of_le] <;> omega
theorem own_addO (n : Int64) (h : ¬ n.toInt < 9223372036854775807) : (n + (1 : Int64)).toInt = -9223372036854775808 := by
  have h1 := Int64.toInt_lt n
  have e : n.toInt = 9223372036854775807 := by omega
  rw [Int64.toInt_add, e]
  rfl
theorem own_subI (n : Int64) (h : 0 ≤ n.toInt) : (n - (1 : Int64)).toInt = n.toInt - 1 := by
  have h1 := Int64.toInt_lt n
  rw [Int64.toInt_sub]
  show (n.toInt - 1).bmod (2 ^ 64) = _
  rw [Int.bmod_eq_of_le] <;> omega
theorem own_nn {a : Int64} (h : ¬ a < 0) : 0 ≤ a.toInt := by
  rw [Int64.lt_iff_toInt_lt] at h
  have : (0 : Int64).toInt = 0 := rfl
  omega
theorem own_ofnn {a : Int64} (h : 0 ≤ a.toInt) : ¬ a < 0 := by
  rw [Int64.lt_iff_toInt_lt]
  have : (0 : Int64).toInt = 0 := rfl
  omega
theorem own_next {s n : Int64} (hs : ¬ s < 0) (hn : ¬ n < 0) (e : s = n + (1 : Int64)) : n < s := by
  have h1 := own_nn hs
  have h2 := own_nn hn
  rw [Int64.lt_iff_toInt_lt]
  by_cases h : n.toInt < 9223372036854775807
  · have := own_addI n h
    rw [← e] at this
    omega
  · have := own_addO n h
    rw [← e] at this
    omega
theorem own_diff {s n : Int64} : s - n = (1 : Int64) ↔ s = n + (1 : Int64) := by
  constructor
  · intro h
    rw [← h, Int64.add_comm, Int64.sub_add_cancel]
  · intro h
    rw [h, Int64.add_comm, Int64.add_sub_cancel]
theorem own_upnn {n : Int64} (hn : ¬ n < 0) (h : ¬ n = (9223372036854775807 : Int64)) : ¬ (n + (1 : Int64)) < 0 := by
  have h2 := own_nn hn
  have h3 := Int64.toInt_lt n
  have e : ¬ n.toInt = 9223372036854775807 := fun q => h (Int64.toInt_inj.mp q)
  apply own_ofnn
  rw [own_addI n (by omega)]
  omega
theorem own_downnn {n : Int64} (hn : ¬ n < 0) (h : ¬ n = (0 : Int64)) : ¬ (n - (1 : Int64)) < 0 := by
  have h2 := own_nn hn
  have e : ¬ n.toInt = 0 := fun q => h (Int64.toInt_inj.mp q)
  apply own_ofnn
  rw [own_subI n h2]
  omega
theorem own_neq {s n : Int64} (hs : ¬ s < 0) (hn : ¬ n < 0) (h : ¬ n < s) : ¬ s = n + (1 : Int64) := fun e => h (own_next hs hn e)
theorem own_lne {s n : Int64} (h : s < n) : ¬ s = n := fun e => by subst e; exact absurd h Int64.lt_irrefl
theorem own_eqof {s n : Int64} (h1 : ¬ n < s) (h2 : ¬ s < n) : s = n := by
  apply Int64.toInt_inj.mp
  rw [Int64.lt_iff_toInt_lt] at h1 h2
  omega
theorem d1_0 : decode prog_70_method_5_code 0 = .ok (.lload_n 0, 1) := by decide +kernel
theorem d1_1 : decode prog_70_method_5_code 1 = .ok (.lload 4, 2) := by decide +kernel
theorem d1_3 : decode prog_70_method_5_code 3 = .ok (.lconst 1, 1) := by decide +kernel
theorem d1_4 : decode prog_70_method_5_code 4 = .ok (.ladd, 1) := by decide +kernel
theorem d1_5 : decode prog_70_method_5_code 5 = .ok (.lcmp, 1) := by decide +kernel
theorem d1_6 : decode prog_70_method_5_code 6 = .ok (.ifCond .ne 11, 3) := by decide +kernel
theorem d1_9 : decode prog_70_method_5_code 9 = .ok (.getstatic 3, 3) := by decide +kernel
theorem d1_12 : decode prog_70_method_5_code 12 = .ok (.astore 8, 2) := by decide +kernel
theorem d1_14 : decode prog_70_method_5_code 14 = .ok (.goto 45, 3) := by decide +kernel
theorem d1_17 : decode prog_70_method_5_code 17 = .ok (.lload_n 0, 1) := by decide +kernel
theorem d1_18 : decode prog_70_method_5_code 18 = .ok (.lload 4, 2) := by decide +kernel
theorem d1_20 : decode prog_70_method_5_code 20 = .ok (.lcmp, 1) := by decide +kernel
theorem d1_21 : decode prog_70_method_5_code 21 = .ok (.ifCond .le 11, 3) := by decide +kernel
theorem d1_24 : decode prog_70_method_5_code 24 = .ok (.getstatic 16, 3) := by decide +kernel
theorem d1_27 : decode prog_70_method_5_code 27 = .ok (.astore 8, 2) := by decide +kernel
theorem d1_29 : decode prog_70_method_5_code 29 = .ok (.goto 30, 3) := by decide +kernel
theorem d1_32 : decode prog_70_method_5_code 32 = .ok (.lload_n 0, 1) := by decide +kernel
theorem d1_33 : decode prog_70_method_5_code 33 = .ok (.lload 4, 2) := by decide +kernel
theorem d1_35 : decode prog_70_method_5_code 35 = .ok (.lcmp, 1) := by decide +kernel
theorem d1_36 : decode prog_70_method_5_code 36 = .ok (.ifCond .ne 18, 3) := by decide +kernel
theorem d1_39 : decode prog_70_method_5_code 39 = .ok (.lload_n 2, 1) := by decide +kernel
theorem d1_40 : decode prog_70_method_5_code 40 = .ok (.lload 6, 2) := by decide +kernel
theorem d1_42 : decode prog_70_method_5_code 42 = .ok (.lcmp, 1) := by decide +kernel
theorem d1_43 : decode prog_70_method_5_code 43 = .ok (.ifCond .ne 11, 3) := by decide +kernel
theorem d1_46 : decode prog_70_method_5_code 46 = .ok (.getstatic 7, 3) := by decide +kernel
theorem d1_49 : decode prog_70_method_5_code 49 = .ok (.astore 8, 2) := by decide +kernel
theorem d1_51 : decode prog_70_method_5_code 51 = .ok (.goto 8, 3) := by decide +kernel
theorem d1_54 : decode prog_70_method_5_code 54 = .ok (.getstatic 13, 3) := by decide +kernel
theorem d1_57 : decode prog_70_method_5_code 57 = .ok (.astore 8, 2) := by decide +kernel
theorem d1_59 : decode prog_70_method_5_code 59 = .ok (.aload 8, 2) := by decide +kernel
theorem d1_61 : decode prog_70_method_5_code 61 = .ok (.areturn, 1) := by decide +kernel
theorem pn_1 : plainName "com/example/onceward/onceward/log/Sequencing" = true := by first | (simp [plainName, overriddenIn]; done) | decide +kernel
theorem ef_1 (m : MethodId) (x0 : Int64) (x1 : Int64) (x2 : Int64) (x3 : Int64) : entryFrame m #[(.long x0), (.long x1), (.long x2), (.long x3)] 9 = mkF m 0 #[.val (.long x0), .second, .val (.long x1), .second, .val (.long x2), .second, .val (.long x3), .second, .unset] [] := by first | (simp [entryFrame, mkF, argsToLocals, Value.category]; done) | rfl
def Q1 (Z : State) (q0 : Int64) (q1 : Int64) (q2 : Int64) (q3 : Int64) (w_NEXT : Addr) (w_UNKNOWN_SESSION : Addr) (w_DUPLICATE : Addr) (w_FENCED : Addr) (h0 : Heap) (n0 : Nat) (v : Option Value) (h : Heap) (L : List Loc) : Prop := v = some (.ref (own_of q0 q1 q2 q3 w_NEXT w_UNKNOWN_SESSION w_DUPLICATE w_FENCED)) ∧ Fr n0 L ∧ h = h0
set_option maxRecDepth 65536 in
set_option maxHeartbeats 40000000 in
theorem rm1 (l : Launch) (Z : State) (a0 : Array Value) (hw : ∀ d ∈ tables_1, d.before a0 Z = true) (ws : List Jvm.Cond) (q0 : Int64) (q1 : Int64) (q2 : Int64) (q3 : Int64) (w_NEXT : Addr) (w_UNKNOWN_SESSION : Addr) (w_DUPLICATE : Addr) (w_FENCED : Addr) (h0 : Heap) (n0 : Nat) (Z0 : n0 ≤ h0.size) (S_NEXT : Sta Z h0 "com/example/onceward/onceward/log/Sequencing" "NEXT" "Lcom/example/onceward/onceward/log/Sequencing;" (.ref w_NEXT)) (S_UNKNOWN_SESSION : Sta Z h0 "com/example/onceward/onceward/log/Sequencing" "UNKNOWN_SESSION" "Lcom/example/onceward/onceward/log/Sequencing;" (.ref w_UNKNOWN_SESSION)) (S_DUPLICATE : Sta Z h0 "com/example/onceward/onceward/log/Sequencing" "DUPLICATE" "Lcom/example/onceward/onceward/log/Sequencing;" (.ref w_DUPLICATE)) (S_FENCED : Sta Z h0 "com/example/onceward/onceward/log/Sequencing" "FENCED" "Lcom/example/onceward/onceward/log/Sequencing;" (.ref w_FENCED)) :
    MetFree l (⟨"com/example/onceward/onceward/log/Sequencing", "ofSession", "(JJJJ)Lcom/example/onceward/onceward/log/Sequencing;"⟩ : MethodName) (head1 (Jvm.Cond.code (⟨"com/example/onceward/onceward/log/Sequencing", "ofSession", "(JJJJ)Lcom/example/onceward/onceward/log/Sequencing;"⟩ : MethodName) prog_70_method_5_code 9 (some (.object "com/example/onceward/onceward/log/Sequencing")) :: ws) ({ frames := 0, cells := 0, slots := 0, locals := 0 } : Room)) (fun a U => a = #[(.long q0), (.long q1), (.long q2), (.long q3)] ∧ Z.Warmed39 U.vm ∧ U.heap = h0) (fun _ _ _ _ _ => True) (fun _ U o U' => ∃ v L, o = .returned v ∧ Q1 Z q0 q1 q2 q3 w_NEXT w_UNKNOWN_SESSION w_DUPLICATE w_FENCED h0 n0 v U'.heap L ∧ FrameEnd U o U' L ({ frames := 0, cells := 0, slots := 0, locals := 0 } : Room).cells ({ frames := 0, cells := 0, slots := 0, locals := 0 } : Room).slots) := by
  refine MetFree.of_bodySF (plainFor_of_name pn_1) hisR ?_
  intro p e s m args below meth c s₁ Bd hml0 hP hK
  obtain ⟨rfl, hZ, hh⟩ := hP
  have hx := Bd.exec
  have hby := Bd.bytes
  have hml : c.maxLocals = 9 := hml0
  have hown : s.vm.findClass "com/example/onceward/onceward/log/Sequencing" = some m.cls := findClass_of_methodNamed Bd.named
  have hnm := (name_of_methodNamed Bd.named Bd.method).1
  have X0 : Stand p l e ({ frames := 0, cells := 0, slots := 0, locals := 0 } : Room) s m #[(.long q0), (.long q1), (.long q2), (.long q3)] below meth c s₁ [] 0 0 := Stand.of_body Bd
  have e0 : s₁.heap = h0 := by rw [← hh, Bd.state]; rfl
  have N0 := Fr.nil n0
  obtain ⟨F, hF⟩ : ∃ F : State → Prop, F = own_Fin p e below s ({ frames := 0, cells := 0, slots := 0, locals := 0 } : Room).cells ({ frames := 0, cells := 0, slots := 0, locals := 0 } : Room).slots (fun v h L => Q1 Z q0 q1 q2 q3 w_NEXT w_UNKNOWN_SESSION w_DUPLICATE w_FENCED h0 n0 v h L) := ⟨_, rfl⟩
  have bk : ∀ {A B : State}, (∀ t, Steps p.tables e below B t → Steps p.tables e below A t) → F B → F A := by
    intro A B h k
    rw [hF] at k ⊢
    exact own_back h k
  suffices hgo : F (s₁.setTop (mkF m 0 #[.val (.long q0), .second, .val (.long q1), .second, .val (.long q2), .second, .val (.long q3), .second, .unset] [])) by
    have hgo' := bk (fun t k => castTop (T := s₁) (ef_1 m q0 q1 q2 q3) k) hgo
    rw [hF] at hgo'
    exact hgo'
  show F (s₁.setTop (mkF m 0 #[.val (.long q0), .second, .val (.long q1), .second, .val (.long q2), .second, .val (.long q3), .second, .unset] []))
  refine bk (fun t k => XS.lloadN X0.here hx rfl (hb hby d1_0) rfl k) ?_
  show F (s₁.setTop (mkF m 1 #[.val (.long q0), .second, .val (.long q1), .second, .val (.long q2), .second, .val (.long q3), .second, .unset] [(.long q0)]))
  refine bk (fun t k => XS.lload X0.here hx rfl (hb hby d1_1) rfl k) ?_
  show F (s₁.setTop (mkF m 3 #[.val (.long q0), .second, .val (.long q1), .second, .val (.long q2), .second, .val (.long q3), .second, .unset] [(.long q2), (.long q0)]))
  refine bk (fun t k => XS.lconst X0.here hx rfl (hb hby d1_3) k) ?_
  show F (s₁.setTop (mkF m 4 #[.val (.long q0), .second, .val (.long q1), .second, .val (.long q2), .second, .val (.long q3), .second, .unset] [(.long (1 : Int64)), (.long q2), (.long q0)]))
  refine bk (fun t k => XS.ladd X0.here hx rfl (hb hby d1_4) rfl k) ?_
  show F (s₁.setTop (mkF m 5 #[.val (.long q0), .second, .val (.long q1), .second, .val (.long q2), .second, .val (.long q3), .second, .unset] [(.long (q2 + (1 : Int64))), (.long q0)]))
  refine bk (fun t k => XS.lcmp X0.here hx rfl (hb hby d1_5) rfl k) ?_
  show F (s₁.setTop (mkF m 6 #[.val (.long q0), .second, .val (.long q1), .second, .val (.long q2), .second, .val (.long q3), .second, .unset] [(.int (lcmpW q0 (q2 + (1 : Int64))))]))
  by_cases hc6_1 : q0 = (q2 + (1 : Int64))
  · refine bk (fun t k => XS.ifNo X0.here hx rfl (hb hby d1_6) rfl ((if0 _ _).trans (teq ((lw_eq _ _).mpr hc6_1)).2) k) ?_
    show F (s₁.setTop (mkF m 9 #[.val (.long q0), .second, .val (.long q1), .second, .val (.long q2), .second, .val (.long q3), .second, .unset] []))
    obtain ⟨T2, X2, e2, st2⟩ := getS2 X0 hx hZ hown (host := "") (Or.inl (hw _ (List.mem_of_getElem? (i := 16) rfl))) Via.refl e0 S_NEXT (g := (mkF m 9 #[.val (.long q0), .second, .val (.long q1), .second, .val (.long q2), .second, .val (.long q3), .second, .unset] [])) rfl (hb hby d1_9)
    refine bk (fun t k => st2 t k) ?_
    show F (T2.setTop (mkF m 12 #[.val (.long q0), .second, .val (.long q1), .second, .val (.long q2), .second, .val (.long q3), .second, .unset] [(.ref w_NEXT)]))
    refine bk (fun t k => XS.astore X2.here hx rfl (hb hby d1_12) rfl rfl (l' := #[.val (.long q0), .second, .val (.long q1), .second, .val (.long q2), .second, .val (.long q3), .second, .val (.ref w_NEXT)]) rfl k) ?_
    show F (T2.setTop (mkF m 14 #[.val (.long q0), .second, .val (.long q1), .second, .val (.long q2), .second, .val (.long q3), .second, .val (.ref w_NEXT)] []))
    refine bk (fun t k => XS.goto X2.here hx rfl (pc0 := 14) (pc' := 59) rfl (hb hby d1_14) (by decide) (by decide) k) ?_
    show F (T2.setTop (mkF m 59 #[.val (.long q0), .second, .val (.long q1), .second, .val (.long q2), .second, .val (.long q3), .second, .val (.ref w_NEXT)] []))
    refine bk (fun t k => XS.aload X2.here hx rfl (hb hby d1_59) rfl rfl k) ?_
    show F (T2.setTop (mkF m 61 #[.val (.long q0), .second, .val (.long q1), .second, .val (.long q2), .second, .val (.long q3), .second, .val (.ref w_NEXT)] [(.ref w_NEXT)]))
    rw [hF]
    refine own_retA X2 hx Bd.notSynchronized Bd.returns rfl rfl (hb hby d1_61) (by decide) (by decide) ?_
    rw [e2]
    refine ⟨?_, N0, rfl⟩
    show some (Value.ref w_NEXT) = some (Value.ref (own_of q0 q1 q2 q3 w_NEXT w_UNKNOWN_SESSION w_DUPLICATE w_FENCED))
    simp [own_of, hc6_1]
  · refine bk (fun t k => XS.ifYes X0.here hx rfl (pc0 := 6) (pc' := 17) rfl (hb hby d1_6) rfl ((if0 _ _).trans (feq (fun q => hc6_1 ((lw_eq _ _).mp q))).2) (by decide) (by decide) k) ?_
    show F (s₁.setTop (mkF m 17 #[.val (.long q0), .second, .val (.long q1), .second, .val (.long q2), .second, .val (.long q3), .second, .unset] []))
    refine bk (fun t k => XS.lloadN X0.here hx rfl (hb hby d1_17) rfl k) ?_
    show F (s₁.setTop (mkF m 18 #[.val (.long q0), .second, .val (.long q1), .second, .val (.long q2), .second, .val (.long q3), .second, .unset] [(.long q0)]))
    refine bk (fun t k => XS.lload X0.here hx rfl (hb hby d1_18) rfl k) ?_
    show F (s₁.setTop (mkF m 20 #[.val (.long q0), .second, .val (.long q1), .second, .val (.long q2), .second, .val (.long q3), .second, .unset] [(.long q2), (.long q0)]))
    refine bk (fun t k => XS.lcmp X0.here hx rfl (hb hby d1_20) rfl k) ?_
    show F (s₁.setTop (mkF m 21 #[.val (.long q0), .second, .val (.long q1), .second, .val (.long q2), .second, .val (.long q3), .second, .unset] [(.int (lcmpW q0 q2))]))
    by_cases hc21_3 : q2 < q0
    · refine bk (fun t k => XS.ifNo X0.here hx rfl (hb hby d1_21) rfl ((if0 _ _).trans (tlt ((lw_gt _ _).mpr hc21_3)).2.2.2) k) ?_
      show F (s₁.setTop (mkF m 24 #[.val (.long q0), .second, .val (.long q1), .second, .val (.long q2), .second, .val (.long q3), .second, .unset] []))
      obtain ⟨T4, X4, e4, st4⟩ := getS2 X0 hx hZ hown (host := "") (Or.inl (hw _ (List.mem_of_getElem? (i := 7) rfl))) Via.refl e0 S_UNKNOWN_SESSION (g := (mkF m 24 #[.val (.long q0), .second, .val (.long q1), .second, .val (.long q2), .second, .val (.long q3), .second, .unset] [])) rfl (hb hby d1_24)
      refine bk (fun t k => st4 t k) ?_
      show F (T4.setTop (mkF m 27 #[.val (.long q0), .second, .val (.long q1), .second, .val (.long q2), .second, .val (.long q3), .second, .unset] [(.ref w_UNKNOWN_SESSION)]))
      refine bk (fun t k => XS.astore X4.here hx rfl (hb hby d1_27) rfl rfl (l' := #[.val (.long q0), .second, .val (.long q1), .second, .val (.long q2), .second, .val (.long q3), .second, .val (.ref w_UNKNOWN_SESSION)]) rfl k) ?_
      show F (T4.setTop (mkF m 29 #[.val (.long q0), .second, .val (.long q1), .second, .val (.long q2), .second, .val (.long q3), .second, .val (.ref w_UNKNOWN_SESSION)] []))
      refine bk (fun t k => XS.goto X4.here hx rfl (pc0 := 29) (pc' := 59) rfl (hb hby d1_29) (by decide) (by decide) k) ?_
      show F (T4.setTop (mkF m 59 #[.val (.long q0), .second, .val (.long q1), .second, .val (.long q2), .second, .val (.long q3), .second, .val (.ref w_UNKNOWN_SESSION)] []))
      refine bk (fun t k => XS.aload X4.here hx rfl (hb hby d1_59) rfl rfl k) ?_
      show F (T4.setTop (mkF m 61 #[.val (.long q0), .second, .val (.long q1), .second, .val (.long q2), .second, .val (.long q3), .second, .val (.ref w_UNKNOWN_SESSION)] [(.ref w_UNKNOWN_SESSION)]))
      rw [hF]
      refine own_retA X4 hx Bd.notSynchronized Bd.returns rfl rfl (hb hby d1_61) (by decide) (by decide) ?_
      rw [e4]
      refine ⟨?_, N0, rfl⟩
      show some (Value.ref w_UNKNOWN_SESSION) = some (Value.ref (own_of q0 q1 q2 q3 w_NEXT w_UNKNOWN_SESSION w_DUPLICATE w_FENCED))
      simp [own_of, hc6_1, hc21_3]
    · refine bk (fun t k => XS.ifYes X0.here hx rfl (pc0 := 21) (pc' := 32) rfl (hb hby d1_21) rfl ((if0 _ _).trans (flt (fun q => hc21_3 ((lw_gt _ _).mp q))).2.2.2) (by decide) (by decide) k) ?_
      show F (s₁.setTop (mkF m 32 #[.val (.long q0), .second, .val (.long q1), .second, .val (.long q2), .second, .val (.long q3), .second, .unset] []))
      refine bk (fun t k => XS.lloadN X0.here hx rfl (hb hby d1_32) rfl k) ?_
      show F (s₁.setTop (mkF m 33 #[.val (.long q0), .second, .val (.long q1), .second, .val (.long q2), .second, .val (.long q3), .second, .unset] [(.long q0)]))
      refine bk (fun t k => XS.lload X0.here hx rfl (hb hby d1_33) rfl k) ?_
      show F (s₁.setTop (mkF m 35 #[.val (.long q0), .second, .val (.long q1), .second, .val (.long q2), .second, .val (.long q3), .second, .unset] [(.long q2), (.long q0)]))
      refine bk (fun t k => XS.lcmp X0.here hx rfl (hb hby d1_35) rfl k) ?_
      show F (s₁.setTop (mkF m 36 #[.val (.long q0), .second, .val (.long q1), .second, .val (.long q2), .second, .val (.long q3), .second, .unset] [(.int (lcmpW q0 q2))]))
      by_cases hc36_5 : q0 = q2
      · refine bk (fun t k => XS.ifNo X0.here hx rfl (hb hby d1_36) rfl ((if0 _ _).trans (teq ((lw_eq _ _).mpr hc36_5)).2) k) ?_
        show F (s₁.setTop (mkF m 39 #[.val (.long q0), .second, .val (.long q1), .second, .val (.long q2), .second, .val (.long q3), .second, .unset] []))
        refine bk (fun t k => XS.lloadN X0.here hx rfl (hb hby d1_39) rfl k) ?_
        show F (s₁.setTop (mkF m 40 #[.val (.long q0), .second, .val (.long q1), .second, .val (.long q2), .second, .val (.long q3), .second, .unset] [(.long q1)]))
        refine bk (fun t k => XS.lload X0.here hx rfl (hb hby d1_40) rfl k) ?_
        show F (s₁.setTop (mkF m 42 #[.val (.long q0), .second, .val (.long q1), .second, .val (.long q2), .second, .val (.long q3), .second, .unset] [(.long q3), (.long q1)]))
        refine bk (fun t k => XS.lcmp X0.here hx rfl (hb hby d1_42) rfl k) ?_
        show F (s₁.setTop (mkF m 43 #[.val (.long q0), .second, .val (.long q1), .second, .val (.long q2), .second, .val (.long q3), .second, .unset] [(.int (lcmpW q1 q3))]))
        by_cases hc43_6 : q1 = q3
        · refine bk (fun t k => XS.ifNo X0.here hx rfl (hb hby d1_43) rfl ((if0 _ _).trans (teq ((lw_eq _ _).mpr hc43_6)).2) k) ?_
          show F (s₁.setTop (mkF m 46 #[.val (.long q0), .second, .val (.long q1), .second, .val (.long q2), .second, .val (.long q3), .second, .unset] []))
          obtain ⟨T7, X7, e7, st7⟩ := getS2 X0 hx hZ hown (host := "") (Or.inl (hw _ (List.mem_of_getElem? (i := 10) rfl))) Via.refl e0 S_DUPLICATE (g := (mkF m 46 #[.val (.long q0), .second, .val (.long q1), .second, .val (.long q2), .second, .val (.long q3), .second, .unset] [])) rfl (hb hby d1_46)
          refine bk (fun t k => st7 t k) ?_
          show F (T7.setTop (mkF m 49 #[.val (.long q0), .second, .val (.long q1), .second, .val (.long q2), .second, .val (.long q3), .second, .unset] [(.ref w_DUPLICATE)]))
          refine bk (fun t k => XS.astore X7.here hx rfl (hb hby d1_49) rfl rfl (l' := #[.val (.long q0), .second, .val (.long q1), .second, .val (.long q2), .second, .val (.long q3), .second, .val (.ref w_DUPLICATE)]) rfl k) ?_
          show F (T7.setTop (mkF m 51 #[.val (.long q0), .second, .val (.long q1), .second, .val (.long q2), .second, .val (.long q3), .second, .val (.ref w_DUPLICATE)] []))
          refine bk (fun t k => XS.goto X7.here hx rfl (pc0 := 51) (pc' := 59) rfl (hb hby d1_51) (by decide) (by decide) k) ?_
          show F (T7.setTop (mkF m 59 #[.val (.long q0), .second, .val (.long q1), .second, .val (.long q2), .second, .val (.long q3), .second, .val (.ref w_DUPLICATE)] []))
          refine bk (fun t k => XS.aload X7.here hx rfl (hb hby d1_59) rfl rfl k) ?_
          show F (T7.setTop (mkF m 61 #[.val (.long q0), .second, .val (.long q1), .second, .val (.long q2), .second, .val (.long q3), .second, .val (.ref w_DUPLICATE)] [(.ref w_DUPLICATE)]))
          rw [hF]
          refine own_retA X7 hx Bd.notSynchronized Bd.returns rfl rfl (hb hby d1_61) (by decide) (by decide) ?_
          rw [e7]
          refine ⟨?_, N0, rfl⟩
          show some (Value.ref w_DUPLICATE) = some (Value.ref (own_of q0 q1 q2 q3 w_NEXT w_UNKNOWN_SESSION w_DUPLICATE w_FENCED))
          simp [own_of, hc6_1, hc21_3, hc36_5, hc43_6]
        · refine bk (fun t k => XS.ifYes X0.here hx rfl (pc0 := 43) (pc' := 54) rfl (hb hby d1_43) rfl ((if0 _ _).trans (feq (fun q => hc43_6 ((lw_eq _ _).mp q))).2) (by decide) (by decide) k) ?_
          show F (s₁.setTop (mkF m 54 #[.val (.long q0), .second, .val (.long q1), .second, .val (.long q2), .second, .val (.long q3), .second, .unset] []))
          obtain ⟨T8, X8, e8, st8⟩ := getS2 X0 hx hZ hown (host := "") (Or.inl (hw _ (List.mem_of_getElem? (i := 13) rfl))) Via.refl e0 S_FENCED (g := (mkF m 54 #[.val (.long q0), .second, .val (.long q1), .second, .val (.long q2), .second, .val (.long q3), .second, .unset] [])) rfl (hb hby d1_54)
          refine bk (fun t k => st8 t k) ?_
          show F (T8.setTop (mkF m 57 #[.val (.long q0), .second, .val (.long q1), .second, .val (.long q2), .second, .val (.long q3), .second, .unset] [(.ref w_FENCED)]))
          refine bk (fun t k => XS.astore X8.here hx rfl (hb hby d1_57) rfl rfl (l' := #[.val (.long q0), .second, .val (.long q1), .second, .val (.long q2), .second, .val (.long q3), .second, .val (.ref w_FENCED)]) rfl k) ?_
          show F (T8.setTop (mkF m 59 #[.val (.long q0), .second, .val (.long q1), .second, .val (.long q2), .second, .val (.long q3), .second, .val (.ref w_FENCED)] []))
          refine bk (fun t k => XS.aload X8.here hx rfl (hb hby d1_59) rfl rfl k) ?_
          show F (T8.setTop (mkF m 61 #[.val (.long q0), .second, .val (.long q1), .second, .val (.long q2), .second, .val (.long q3), .second, .val (.ref w_FENCED)] [(.ref w_FENCED)]))
          rw [hF]
          refine own_retA X8 hx Bd.notSynchronized Bd.returns rfl rfl (hb hby d1_61) (by decide) (by decide) ?_
          rw [e8]
          refine ⟨?_, N0, rfl⟩
          show some (Value.ref w_FENCED) = some (Value.ref (own_of q0 q1 q2 q3 w_NEXT w_UNKNOWN_SESSION w_DUPLICATE w_FENCED))
          simp [own_of, hc6_1, hc21_3, hc36_5, hc43_6]
      · refine bk (fun t k => XS.ifYes X0.here hx rfl (pc0 := 36) (pc' := 54) rfl (hb hby d1_36) rfl ((if0 _ _).trans (feq (fun q => hc36_5 ((lw_eq _ _).mp q))).2) (by decide) (by decide) k) ?_
        show F (s₁.setTop (mkF m 54 #[.val (.long q0), .second, .val (.long q1), .second, .val (.long q2), .second, .val (.long q3), .second, .unset] []))
        obtain ⟨T9, X9, e9, st9⟩ := getS2 X0 hx hZ hown (host := "") (Or.inl (hw _ (List.mem_of_getElem? (i := 13) rfl))) Via.refl e0 S_FENCED (g := (mkF m 54 #[.val (.long q0), .second, .val (.long q1), .second, .val (.long q2), .second, .val (.long q3), .second, .unset] [])) rfl (hb hby d1_54)
        refine bk (fun t k => st9 t k) ?_
        show F (T9.setTop (mkF m 57 #[.val (.long q0), .second, .val (.long q1), .second, .val (.long q2), .second, .val (.long q3), .second, .unset] [(.ref w_FENCED)]))
        refine bk (fun t k => XS.astore X9.here hx rfl (hb hby d1_57) rfl rfl (l' := #[.val (.long q0), .second, .val (.long q1), .second, .val (.long q2), .second, .val (.long q3), .second, .val (.ref w_FENCED)]) rfl k) ?_
        show F (T9.setTop (mkF m 59 #[.val (.long q0), .second, .val (.long q1), .second, .val (.long q2), .second, .val (.long q3), .second, .val (.ref w_FENCED)] []))
        refine bk (fun t k => XS.aload X9.here hx rfl (hb hby d1_59) rfl rfl k) ?_
        show F (T9.setTop (mkF m 61 #[.val (.long q0), .second, .val (.long q1), .second, .val (.long q2), .second, .val (.long q3), .second, .val (.ref w_FENCED)] [(.ref w_FENCED)]))
        rw [hF]
        refine own_retA X9 hx Bd.notSynchronized Bd.returns rfl rfl (hb hby d1_61) (by decide) (by decide) ?_
        rw [e9]
        refine ⟨?_, N0, rfl⟩
        show some (Value.ref w_FENCED) = some (Value.ref (own_of q0 q1 q2 q3 w_NEXT w_UNKNOWN_SESSION w_DUPLICATE w_FENCED))
        simp [own_of, hc6_1, hc21_3, hc36_5]
theorem pd0__JJJJ_Lcom_example_onceward_onceward_log_Sequencing_ : parseMethodDescriptor "(JJJJ)Lcom/example/onceward/onceward/log/Sequencing;" = some ⟨[.long, .long, .long, .long], some (.object "com/example/onceward/onceward/log/Sequencing")⟩ := by decide +kernel
theorem pn_0 : plainName "com/example/onceward/onceward/log/SequencingOfSessionPinLaw" = true := by first | (simp [plainName, overriddenIn]; done) | decide +kernel
theorem ef_0 (m : MethodId) (x0 : Int64) (x1 : Int64) (x2 : Int64) (x3 : Int64) (x4 : Int32) : entryFrame m #[(.long x0), (.long x1), (.long x2), (.long x3), (.int x4)] maxLocals = mkF m 0 #[.val (.long x0), .second, .val (.long x1), .second, .val (.long x2), .second, .val (.long x3), .second, .val (.int x4), .unset, .unset, .unset, .unset, .unset, .unset, .unset, .unset, .unset, .unset] [] := by first | (simp [entryFrame, mkF, argsToLocals, Value.category, maxLocals]; done) | rfl
def Q0 (Z : State) (q0 : Int64) (q1 : Int64) (q2 : Int64) (q3 : Int64) (p4 : Int32) (w_NEXT : Addr) (w_UNKNOWN_SESSION : Addr) (w_DUPLICATE : Addr) (w_FENCED : Addr) (h0 : Heap) (n0 : Nat) (v : Option Value) (h : Heap) (L : List Loc) : Prop := v = some (.int (1 : Int32)) ∧ Fr n0 L
set_option maxRecDepth 65536 in
set_option maxHeartbeats 40000000 in
theorem rm0 (l : Launch) (Z : State) (a0 : Array Value) (hw : ∀ d ∈ tables_1, d.before a0 Z = true) (ws : List Jvm.Cond) (q0 : Int64) (q1 : Int64) (q2 : Int64) (q3 : Int64) (p4 : Int32) (w_NEXT : Addr) (w_UNKNOWN_SESSION : Addr) (w_DUPLICATE : Addr) (w_FENCED : Addr) (h0 : Heap) (n0 : Nat) (Z0 : n0 ≤ h0.size) (S_NEXT : Sta Z h0 "com/example/onceward/onceward/log/Sequencing" "NEXT" "Lcom/example/onceward/onceward/log/Sequencing;" (.ref w_NEXT)) (S_UNKNOWN_SESSION : Sta Z h0 "com/example/onceward/onceward/log/Sequencing" "UNKNOWN_SESSION" "Lcom/example/onceward/onceward/log/Sequencing;" (.ref w_UNKNOWN_SESSION)) (S_DUPLICATE : Sta Z h0 "com/example/onceward/onceward/log/Sequencing" "DUPLICATE" "Lcom/example/onceward/onceward/log/Sequencing;" (.ref w_DUPLICATE)) (S_FENCED : Sta Z h0 "com/example/onceward/onceward/log/Sequencing" "FENCED" "Lcom/example/onceward/onceward/log/Sequencing;" (.ref w_FENCED)) :
    MetFree l x (head1 (Jvm.Cond.code x code maxLocals ret :: ws) room_1) (fun a U => a = #[(.long q0), (.long q1), (.long q2), (.long q3), (.int p4)] ∧ Z.Warmed39 U.vm ∧ U.heap = h0) (fun _ _ _ _ _ => True) (fun _ U o U' => ∃ v L, o = .returned v ∧ Q0 Z q0 q1 q2 q3 p4 w_NEXT w_UNKNOWN_SESSION w_DUPLICATE w_FENCED h0 n0 v U'.heap L ∧ FrameEnd U o U' L room_1.cells room_1.slots) := by
  refine MetFree.of_bodySF (plainFor_of_name pn_0) hisR ?_
  intro p e s m args below meth c s₁ Bd hml0 hP hK
  obtain ⟨rfl, hZ, hh⟩ := hP
  have hx := Bd.exec
  have hby := Bd.bytes
  have hml : c.maxLocals = 19 := hml0
  have hown : s.vm.findClass "com/example/onceward/onceward/log/SequencingOfSessionPinLaw" = some m.cls := findClass_of_methodNamed Bd.named
  have hnm := (name_of_methodNamed Bd.named Bd.method).1
  have X0 : Stand p l e room_1 s m #[(.long q0), (.long q1), (.long q2), (.long q3), (.int p4)] below meth c s₁ [] 0 0 := Stand.of_body Bd
  have e0 : s₁.heap = h0 := by rw [← hh, Bd.state]; rfl
  have N0 := Fr.nil n0
  obtain ⟨F, hF⟩ : ∃ F : State → Prop, F = own_Fin p e below s room_1.cells room_1.slots (fun v h L => Q0 Z q0 q1 q2 q3 p4 w_NEXT w_UNKNOWN_SESSION w_DUPLICATE w_FENCED h0 n0 v h L) := ⟨_, rfl⟩
  have bk : ∀ {A B : State}, (∀ t, Steps p.tables e below B t → Steps p.tables e below A t) → F B → F A := by
    intro A B h k
    rw [hF] at k ⊢
    exact own_back h k
  suffices hgo : F (s₁.setTop (mkF m 0 #[.val (.long q0), .second, .val (.long q1), .second, .val (.long q2), .second, .val (.long q3), .second, .val (.int p4), .unset, .unset, .unset, .unset, .unset, .unset, .unset, .unset, .unset, .unset] [])) by
    have hgo' := bk (fun t k => castTop (T := s₁) (ef_0 m q0 q1 q2 q3 p4) k) hgo
    rw [hF] at hgo'
    exact hgo'
  have w_0 := hw _ (List.mem_of_getElem? (i := 0) rfl)
  have w_1 := hw _ (List.mem_of_getElem? (i := 1) rfl)
  have w_2 := hw _ (List.mem_of_getElem? (i := 2) rfl)
  have w_4 := hw _ (List.mem_of_getElem? (i := 4) rfl)
  have w_5 := hw _ (List.mem_of_getElem? (i := 5) rfl)
  have w_6 := hw _ (List.mem_of_getElem? (i := 6) rfl)
  have w_8 := hw _ (List.mem_of_getElem? (i := 8) rfl)
  have w_11 := hw _ (List.mem_of_getElem? (i := 11) rfl)
  have w_14 := hw _ (List.mem_of_getElem? (i := 14) rfl)
  have J164 : ∀ (TJ : State) (LJ : List Loc)  (XJ : Stand p l e room_1 s m #[(.long q0), (.long q1), (.long q2), (.long q3), (.int p4)] below meth c TJ LJ 0 0) (eJ : TJ.heap = h0) (NJ : Fr n0 LJ) (ses : Int64) (tag : Int64) (r : Addr) (hses : ¬ ses < 0) (hr : r = own_of ses tag (q1 &&& (9223372036854775807 : Int64)) q3 w_NEXT w_UNKNOWN_SESSION w_DUPLICATE w_FENCED), F (TJ.setTop (mkF m 164 #[.val (.long q0), .second, .val (.long q1), .second, .val (.long q2), .second, .val (.long q3), .second, .val (.int p4), .val (.long (q1 &&& (9223372036854775807 : Int64))), .second, .val (.long (q0 &&& (9223372036854775807 : Int64))), .second, .val (.int (p4 &&& (3 : Int32))), .val (.long ses), .second, .val (.long tag), .second, .val (.ref r)] [])) := by
    intro TJ LJ XJ eJ NJ ses tag r hses hr
    show F (TJ.setTop (mkF m 164 #[.val (.long q0), .second, .val (.long q1), .second, .val (.long q2), .second, .val (.long q3), .second, .val (.int p4), .val (.long (q1 &&& (9223372036854775807 : Int64))), .second, .val (.long (q0 &&& (9223372036854775807 : Int64))), .second, .val (.int (p4 &&& (3 : Int32))), .val (.long ses), .second, .val (.long tag), .second, .val (.ref r)] []))
    refine bk (fun t k => XS.lload XJ.here hx rfl (hb hby at_164) rfl k) ?_
    show F (TJ.setTop (mkF m 166 #[.val (.long q0), .second, .val (.long q1), .second, .val (.long q2), .second, .val (.long q3), .second, .val (.int p4), .val (.long (q1 &&& (9223372036854775807 : Int64))), .second, .val (.long (q0 &&& (9223372036854775807 : Int64))), .second, .val (.int (p4 &&& (3 : Int32))), .val (.long ses), .second, .val (.long tag), .second, .val (.ref r)] [(.long ses)]))
    refine bk (fun t k => XS.lload XJ.here hx rfl (hb hby at_166) rfl k) ?_
    show F (TJ.setTop (mkF m 168 #[.val (.long q0), .second, .val (.long q1), .second, .val (.long q2), .second, .val (.long q3), .second, .val (.int p4), .val (.long (q1 &&& (9223372036854775807 : Int64))), .second, .val (.long (q0 &&& (9223372036854775807 : Int64))), .second, .val (.int (p4 &&& (3 : Int32))), .val (.long ses), .second, .val (.long tag), .second, .val (.ref r)] [(.long tag), (.long ses)]))
    refine bk (fun t k => XS.lload XJ.here hx rfl (hb hby at_168) rfl k) ?_
    show F (TJ.setTop (mkF m 170 #[.val (.long q0), .second, .val (.long q1), .second, .val (.long q2), .second, .val (.long q3), .second, .val (.int p4), .val (.long (q1 &&& (9223372036854775807 : Int64))), .second, .val (.long (q0 &&& (9223372036854775807 : Int64))), .second, .val (.int (p4 &&& (3 : Int32))), .val (.long ses), .second, .val (.long tag), .second, .val (.ref r)] [(.long (q1 &&& (9223372036854775807 : Int64))), (.long tag), (.long ses)]))
    refine bk (fun t k => XS.lload XJ.here hx rfl (hb hby at_170) rfl k) ?_
    show F (TJ.setTop (mkF m 172 #[.val (.long q0), .second, .val (.long q1), .second, .val (.long q2), .second, .val (.long q3), .second, .val (.int p4), .val (.long (q1 &&& (9223372036854775807 : Int64))), .second, .val (.long (q0 &&& (9223372036854775807 : Int64))), .second, .val (.int (p4 &&& (3 : Int32))), .val (.long ses), .second, .val (.long tag), .second, .val (.ref r)] [(.long q3), (.long (q1 &&& (9223372036854775807 : Int64))), (.long tag), (.long ses)]))
    obtain ⟨_, _, ⟨T1, L1, k1, n1⟩, -, X1, ⟨Lc1, hQ1, l1, y1, z1⟩, st1⟩ := Jvm.LawKit.callS XJ hx (y := (⟨"com/example/onceward/onceward/log/Sequencing", "ofSession", "(JJJJ)Lcom/example/onceward/onceward/log/Sequencing;"⟩ : MethodName)) hown (mvT hZ w_4) (mvT hZ w_5) (mvT hZ w_2) (mvT hZ w_6) (by decide) (backOf (W := 0) (rm1 l Z a0 hw [] ses tag (q1 &&& (9223372036854775807 : Int64)) q3 w_NEXT w_UNKNOWN_SESSION w_DUPLICATE w_FENCED h0 n0 Z0 S_NEXT S_UNKNOWN_SESSION S_DUPLICATE S_FENCED) hZ w_6 w_2 (by decide) (by decide)) (g := (mkF m 172 #[.val (.long q0), .second, .val (.long q1), .second, .val (.long q2), .second, .val (.long q3), .second, .val (.int p4), .val (.long (q1 &&& (9223372036854775807 : Int64))), .second, .val (.long (q0 &&& (9223372036854775807 : Int64))), .second, .val (.int (p4 &&& (3 : Int32))), .val (.long ses), .second, .val (.long tag), .second, .val (.ref r)] [(.long q3), (.long (q1 &&& (9223372036854775807 : Int64))), (.long tag), (.long ses)])) rfl (by rw [hml]; rfl) (argsL := [(.long ses), (.long tag), (.long (q1 &&& (9223372036854775807 : Int64))), (.long q3)]) (rest := []) (lenOf pd0__JJJJ_Lcom_example_onceward_onceward_log_Sequencing_ rfl) rfl (by show 2 * 0 + _ ≤ _; exact Nat.le_of_eq rfl) (hb hby at_172) (fun _ _ => ⟨rfl, eJ, (by decide : 0 + 0 ≤ _), (by decide : 0 + 0 ≤ _)⟩)
    dsimp only [Pt.U, Pt.locs, Pt.cells, Pt.slots] at X1 l1 y1 z1 st1 hQ1
    subst l1 y1 z1
    obtain ⟨rfl, N1q, e1⟩ := hQ1
    have N1 := Fr.app NJ N1q
    refine bk (fun t k => st1 t k) ?_
    show F (T1.setTop (mkF m 175 #[.val (.long q0), .second, .val (.long q1), .second, .val (.long q2), .second, .val (.long q3), .second, .val (.int p4), .val (.long (q1 &&& (9223372036854775807 : Int64))), .second, .val (.long (q0 &&& (9223372036854775807 : Int64))), .second, .val (.int (p4 &&& (3 : Int32))), .val (.long ses), .second, .val (.long tag), .second, .val (.ref r)] [(.ref (own_of ses tag (q1 &&& (9223372036854775807 : Int64)) q3 w_NEXT w_UNKNOWN_SESSION w_DUPLICATE w_FENCED))]))
    refine bk (fun t k => XS.aload X1.here hx rfl (hb hby at_175) rfl rfl k) ?_
    show F (T1.setTop (mkF m 177 #[.val (.long q0), .second, .val (.long q1), .second, .val (.long q2), .second, .val (.long q3), .second, .val (.int p4), .val (.long (q1 &&& (9223372036854775807 : Int64))), .second, .val (.long (q0 &&& (9223372036854775807 : Int64))), .second, .val (.int (p4 &&& (3 : Int32))), .val (.long ses), .second, .val (.long tag), .second, .val (.ref r)] [(.ref r), (.ref (own_of ses tag (q1 &&& (9223372036854775807 : Int64)) q3 w_NEXT w_UNKNOWN_SESSION w_DUPLICATE w_FENCED))]))
    refine bk (fun t k => Jvm.RoadKit.acmp (g := (mkF m 177 #[.val (.long q0), .second, .val (.long q1), .second, .val (.long q2), .second, .val (.long q3), .second, .val (.int p4), .val (.long (q1 &&& (9223372036854775807 : Int64))), .second, .val (.long (q0 &&& (9223372036854775807 : Int64))), .second, .val (.int (p4 &&& (3 : Int32))), .val (.long ses), .second, .val (.long tag), .second, .val (.ref r)] [(.ref r), (.ref (own_of ses tag (q1 &&& (9223372036854775807 : Int64)) q3 w_NEXT w_UNKNOWN_SESSION w_DUPLICATE w_FENCED))])) X1 hx rfl rfl rfl (pc0 := 177) (pc' := 180) (same := true) rfl (hb hby at_177) rfl (decide_eq_true (congrArg Value.ref hr.symm)) (by decide) (by decide) k) ?_
    show F (T1.setTop (mkF m 180 #[.val (.long q0), .second, .val (.long q1), .second, .val (.long q2), .second, .val (.long q3), .second, .val (.int p4), .val (.long (q1 &&& (9223372036854775807 : Int64))), .second, .val (.long (q0 &&& (9223372036854775807 : Int64))), .second, .val (.int (p4 &&& (3 : Int32))), .val (.long ses), .second, .val (.long tag), .second, .val (.ref r)] []))
    refine bk (fun t k => XS.iconst X1.here hx rfl (hb hby at_180) k) ?_
    show F (T1.setTop (mkF m 181 #[.val (.long q0), .second, .val (.long q1), .second, .val (.long q2), .second, .val (.long q3), .second, .val (.int p4), .val (.long (q1 &&& (9223372036854775807 : Int64))), .second, .val (.long (q0 &&& (9223372036854775807 : Int64))), .second, .val (.int (p4 &&& (3 : Int32))), .val (.long ses), .second, .val (.long tag), .second, .val (.ref r)] [(.int (1 : Int32))]))
    refine bk (fun t k => XS.goto X1.here hx rfl (pc0 := 181) (pc' := 185) rfl (hb hby at_181) (by decide) (by decide) k) ?_
    show F (T1.setTop (mkF m 185 #[.val (.long q0), .second, .val (.long q1), .second, .val (.long q2), .second, .val (.long q3), .second, .val (.int p4), .val (.long (q1 &&& (9223372036854775807 : Int64))), .second, .val (.long (q0 &&& (9223372036854775807 : Int64))), .second, .val (.int (p4 &&& (3 : Int32))), .val (.long ses), .second, .val (.long tag), .second, .val (.ref r)] [(.int (1 : Int32))]))
    rw [hF]
    refine own_retZ X1 hx Bd.notSynchronized Bd.returns (hb hby at_185) (by decide) (by decide) ?_
    rw [e1]
    exact ⟨rfl, N1⟩
  have J95 : ∀ (ses : Int64) (tag : Int64) (hses : ¬ ses < 0), F (s₁.setTop (mkF m 95 #[.val (.long q0), .second, .val (.long q1), .second, .val (.long q2), .second, .val (.long q3), .second, .val (.int p4), .val (.long (q1 &&& (9223372036854775807 : Int64))), .second, .val (.long (q0 &&& (9223372036854775807 : Int64))), .second, .val (.int (p4 &&& (3 : Int32))), .val (.long ses), .second, .unset, .unset, .unset] [(.long tag)])) := by
    intro ses tag hses
    show F (s₁.setTop (mkF m 95 #[.val (.long q0), .second, .val (.long q1), .second, .val (.long q2), .second, .val (.long q3), .second, .val (.int p4), .val (.long (q1 &&& (9223372036854775807 : Int64))), .second, .val (.long (q0 &&& (9223372036854775807 : Int64))), .second, .val (.int (p4 &&& (3 : Int32))), .val (.long ses), .second, .unset, .unset, .unset] [(.long tag)]))
    refine bk (fun t k => XS.lstore X0.here hx rfl (hb hby at_95) rfl (l' := #[.val (.long q0), .second, .val (.long q1), .second, .val (.long q2), .second, .val (.long q3), .second, .val (.int p4), .val (.long (q1 &&& (9223372036854775807 : Int64))), .second, .val (.long (q0 &&& (9223372036854775807 : Int64))), .second, .val (.int (p4 &&& (3 : Int32))), .val (.long ses), .second, .val (.long tag), .second, .unset]) rfl k) ?_
    show F (s₁.setTop (mkF m 97 #[.val (.long q0), .second, .val (.long q1), .second, .val (.long q2), .second, .val (.long q3), .second, .val (.int p4), .val (.long (q1 &&& (9223372036854775807 : Int64))), .second, .val (.long (q0 &&& (9223372036854775807 : Int64))), .second, .val (.int (p4 &&& (3 : Int32))), .val (.long ses), .second, .val (.long tag), .second, .unset] []))
    refine bk (fun t k => XS.lload X0.here hx rfl (hb hby at_97) rfl k) ?_
    show F (s₁.setTop (mkF m 99 #[.val (.long q0), .second, .val (.long q1), .second, .val (.long q2), .second, .val (.long q3), .second, .val (.int p4), .val (.long (q1 &&& (9223372036854775807 : Int64))), .second, .val (.long (q0 &&& (9223372036854775807 : Int64))), .second, .val (.int (p4 &&& (3 : Int32))), .val (.long ses), .second, .val (.long tag), .second, .unset] [(.long ses)]))
    refine bk (fun t k => XS.lload X0.here hx rfl (hb hby at_99) rfl k) ?_
    show F (s₁.setTop (mkF m 101 #[.val (.long q0), .second, .val (.long q1), .second, .val (.long q2), .second, .val (.long q3), .second, .val (.int p4), .val (.long (q1 &&& (9223372036854775807 : Int64))), .second, .val (.long (q0 &&& (9223372036854775807 : Int64))), .second, .val (.int (p4 &&& (3 : Int32))), .val (.long ses), .second, .val (.long tag), .second, .unset] [(.long (q1 &&& (9223372036854775807 : Int64))), (.long ses)]))
    refine bk (fun t k => XS.lcmp X0.here hx rfl (hb hby at_101) rfl k) ?_
    show F (s₁.setTop (mkF m 102 #[.val (.long q0), .second, .val (.long q1), .second, .val (.long q2), .second, .val (.long q3), .second, .val (.int p4), .val (.long (q1 &&& (9223372036854775807 : Int64))), .second, .val (.long (q0 &&& (9223372036854775807 : Int64))), .second, .val (.int (p4 &&& (3 : Int32))), .val (.long ses), .second, .val (.long tag), .second, .unset] [(.int (lcmpW ses (q1 &&& (9223372036854775807 : Int64))))]))
    by_cases hc102_2 : (q1 &&& (9223372036854775807 : Int64)) < ses
    · refine bk (fun t k => XS.ifNo X0.here hx rfl (hb hby at_102) rfl ((if0 _ _).trans (tlt ((lw_gt _ _).mpr hc102_2)).2.2.2) k) ?_
      show F (s₁.setTop (mkF m 105 #[.val (.long q0), .second, .val (.long q1), .second, .val (.long q2), .second, .val (.long q3), .second, .val (.int p4), .val (.long (q1 &&& (9223372036854775807 : Int64))), .second, .val (.long (q0 &&& (9223372036854775807 : Int64))), .second, .val (.int (p4 &&& (3 : Int32))), .val (.long ses), .second, .val (.long tag), .second, .unset] []))
      refine bk (fun t k => XS.lload X0.here hx rfl (hb hby at_105) rfl k) ?_
      show F (s₁.setTop (mkF m 107 #[.val (.long q0), .second, .val (.long q1), .second, .val (.long q2), .second, .val (.long q3), .second, .val (.int p4), .val (.long (q1 &&& (9223372036854775807 : Int64))), .second, .val (.long (q0 &&& (9223372036854775807 : Int64))), .second, .val (.int (p4 &&& (3 : Int32))), .val (.long ses), .second, .val (.long tag), .second, .unset] [(.long ses)]))
      refine bk (fun t k => XS.lload X0.here hx rfl (hb hby at_107) rfl k) ?_
      show F (s₁.setTop (mkF m 109 #[.val (.long q0), .second, .val (.long q1), .second, .val (.long q2), .second, .val (.long q3), .second, .val (.int p4), .val (.long (q1 &&& (9223372036854775807 : Int64))), .second, .val (.long (q0 &&& (9223372036854775807 : Int64))), .second, .val (.int (p4 &&& (3 : Int32))), .val (.long ses), .second, .val (.long tag), .second, .unset] [(.long (q1 &&& (9223372036854775807 : Int64))), (.long ses)]))
      refine bk (fun t k => XS.lsub X0.here hx rfl (hb hby at_109) rfl k) ?_
      show F (s₁.setTop (mkF m 110 #[.val (.long q0), .second, .val (.long q1), .second, .val (.long q2), .second, .val (.long q3), .second, .val (.int p4), .val (.long (q1 &&& (9223372036854775807 : Int64))), .second, .val (.long (q0 &&& (9223372036854775807 : Int64))), .second, .val (.int (p4 &&& (3 : Int32))), .val (.long ses), .second, .val (.long tag), .second, .unset] [(.long (ses - (q1 &&& (9223372036854775807 : Int64))))]))
      refine bk (fun t k => XS.lconst X0.here hx rfl (hb hby at_110) k) ?_
      show F (s₁.setTop (mkF m 111 #[.val (.long q0), .second, .val (.long q1), .second, .val (.long q2), .second, .val (.long q3), .second, .val (.int p4), .val (.long (q1 &&& (9223372036854775807 : Int64))), .second, .val (.long (q0 &&& (9223372036854775807 : Int64))), .second, .val (.int (p4 &&& (3 : Int32))), .val (.long ses), .second, .val (.long tag), .second, .unset] [(.long (1 : Int64)), (.long (ses - (q1 &&& (9223372036854775807 : Int64))))]))
      refine bk (fun t k => XS.lcmp X0.here hx rfl (hb hby at_111) rfl k) ?_
      show F (s₁.setTop (mkF m 112 #[.val (.long q0), .second, .val (.long q1), .second, .val (.long q2), .second, .val (.long q3), .second, .val (.int p4), .val (.long (q1 &&& (9223372036854775807 : Int64))), .second, .val (.long (q0 &&& (9223372036854775807 : Int64))), .second, .val (.int (p4 &&& (3 : Int32))), .val (.long ses), .second, .val (.long tag), .second, .unset] [(.int (lcmpW (ses - (q1 &&& (9223372036854775807 : Int64))) (1 : Int64)))]))
      by_cases hc112_3 : (ses - (q1 &&& (9223372036854775807 : Int64))) = (1 : Int64)
      · refine bk (fun t k => XS.ifNo X0.here hx rfl (hb hby at_112) rfl ((if0 _ _).trans (teq ((lw_eq _ _).mpr hc112_3)).2) k) ?_
        show F (s₁.setTop (mkF m 115 #[.val (.long q0), .second, .val (.long q1), .second, .val (.long q2), .second, .val (.long q3), .second, .val (.int p4), .val (.long (q1 &&& (9223372036854775807 : Int64))), .second, .val (.long (q0 &&& (9223372036854775807 : Int64))), .second, .val (.int (p4 &&& (3 : Int32))), .val (.long ses), .second, .val (.long tag), .second, .unset] []))
        obtain ⟨T4, X4, e4, st4⟩ := getS2 X0 hx hZ hown (host := "") (Or.inl w_14) Via.refl e0 S_NEXT (g := (mkF m 115 #[.val (.long q0), .second, .val (.long q1), .second, .val (.long q2), .second, .val (.long q3), .second, .val (.int p4), .val (.long (q1 &&& (9223372036854775807 : Int64))), .second, .val (.long (q0 &&& (9223372036854775807 : Int64))), .second, .val (.int (p4 &&& (3 : Int32))), .val (.long ses), .second, .val (.long tag), .second, .unset] [])) rfl (hb hby at_115)
        refine bk (fun t k => st4 t k) ?_
        show F (T4.setTop (mkF m 118 #[.val (.long q0), .second, .val (.long q1), .second, .val (.long q2), .second, .val (.long q3), .second, .val (.int p4), .val (.long (q1 &&& (9223372036854775807 : Int64))), .second, .val (.long (q0 &&& (9223372036854775807 : Int64))), .second, .val (.int (p4 &&& (3 : Int32))), .val (.long ses), .second, .val (.long tag), .second, .unset] [(.ref w_NEXT)]))
        refine bk (fun t k => XS.goto X4.here hx rfl (pc0 := 118) (pc' := 124) rfl (hb hby at_118) (by decide) (by decide) k) ?_
        show F (T4.setTop (mkF m 124 #[.val (.long q0), .second, .val (.long q1), .second, .val (.long q2), .second, .val (.long q3), .second, .val (.int p4), .val (.long (q1 &&& (9223372036854775807 : Int64))), .second, .val (.long (q0 &&& (9223372036854775807 : Int64))), .second, .val (.int (p4 &&& (3 : Int32))), .val (.long ses), .second, .val (.long tag), .second, .unset] [(.ref w_NEXT)]))
        refine bk (fun t k => XS.astore X4.here hx rfl (hb hby at_124) rfl rfl (l' := #[.val (.long q0), .second, .val (.long q1), .second, .val (.long q2), .second, .val (.long q3), .second, .val (.int p4), .val (.long (q1 &&& (9223372036854775807 : Int64))), .second, .val (.long (q0 &&& (9223372036854775807 : Int64))), .second, .val (.int (p4 &&& (3 : Int32))), .val (.long ses), .second, .val (.long tag), .second, .val (.ref w_NEXT)]) rfl k) ?_
        show F (T4.setTop (mkF m 126 #[.val (.long q0), .second, .val (.long q1), .second, .val (.long q2), .second, .val (.long q3), .second, .val (.int p4), .val (.long (q1 &&& (9223372036854775807 : Int64))), .second, .val (.long (q0 &&& (9223372036854775807 : Int64))), .second, .val (.int (p4 &&& (3 : Int32))), .val (.long ses), .second, .val (.long tag), .second, .val (.ref w_NEXT)] []))
        refine bk (fun t k => XS.goto X4.here hx rfl (pc0 := 126) (pc' := 164) rfl (hb hby at_126) (by decide) (by decide) k) ?_
        show F (T4.setTop (mkF m 164 #[.val (.long q0), .second, .val (.long q1), .second, .val (.long q2), .second, .val (.long q3), .second, .val (.int p4), .val (.long (q1 &&& (9223372036854775807 : Int64))), .second, .val (.long (q0 &&& (9223372036854775807 : Int64))), .second, .val (.int (p4 &&& (3 : Int32))), .val (.long ses), .second, .val (.long tag), .second, .val (.ref w_NEXT)] []))
        exact J164 _ _ X4 e4 N0 _ _ _ hses (by rw [own_of, if_pos (own_diff.mp hc112_3)])
      · refine bk (fun t k => XS.ifYes X0.here hx rfl (pc0 := 112) (pc' := 121) rfl (hb hby at_112) rfl ((if0 _ _).trans (feq (fun q => hc112_3 ((lw_eq _ _).mp q))).2) (by decide) (by decide) k) ?_
        show F (s₁.setTop (mkF m 121 #[.val (.long q0), .second, .val (.long q1), .second, .val (.long q2), .second, .val (.long q3), .second, .val (.int p4), .val (.long (q1 &&& (9223372036854775807 : Int64))), .second, .val (.long (q0 &&& (9223372036854775807 : Int64))), .second, .val (.int (p4 &&& (3 : Int32))), .val (.long ses), .second, .val (.long tag), .second, .unset] []))
        obtain ⟨T5, X5, e5, st5⟩ := getS2 X0 hx hZ hown (host := "") (Or.inl w_1) Via.refl e0 S_UNKNOWN_SESSION (g := (mkF m 121 #[.val (.long q0), .second, .val (.long q1), .second, .val (.long q2), .second, .val (.long q3), .second, .val (.int p4), .val (.long (q1 &&& (9223372036854775807 : Int64))), .second, .val (.long (q0 &&& (9223372036854775807 : Int64))), .second, .val (.int (p4 &&& (3 : Int32))), .val (.long ses), .second, .val (.long tag), .second, .unset] [])) rfl (hb hby at_121)
        refine bk (fun t k => st5 t k) ?_
        show F (T5.setTop (mkF m 124 #[.val (.long q0), .second, .val (.long q1), .second, .val (.long q2), .second, .val (.long q3), .second, .val (.int p4), .val (.long (q1 &&& (9223372036854775807 : Int64))), .second, .val (.long (q0 &&& (9223372036854775807 : Int64))), .second, .val (.int (p4 &&& (3 : Int32))), .val (.long ses), .second, .val (.long tag), .second, .unset] [(.ref w_UNKNOWN_SESSION)]))
        refine bk (fun t k => XS.astore X5.here hx rfl (hb hby at_124) rfl rfl (l' := #[.val (.long q0), .second, .val (.long q1), .second, .val (.long q2), .second, .val (.long q3), .second, .val (.int p4), .val (.long (q1 &&& (9223372036854775807 : Int64))), .second, .val (.long (q0 &&& (9223372036854775807 : Int64))), .second, .val (.int (p4 &&& (3 : Int32))), .val (.long ses), .second, .val (.long tag), .second, .val (.ref w_UNKNOWN_SESSION)]) rfl k) ?_
        show F (T5.setTop (mkF m 126 #[.val (.long q0), .second, .val (.long q1), .second, .val (.long q2), .second, .val (.long q3), .second, .val (.int p4), .val (.long (q1 &&& (9223372036854775807 : Int64))), .second, .val (.long (q0 &&& (9223372036854775807 : Int64))), .second, .val (.int (p4 &&& (3 : Int32))), .val (.long ses), .second, .val (.long tag), .second, .val (.ref w_UNKNOWN_SESSION)] []))
        refine bk (fun t k => XS.goto X5.here hx rfl (pc0 := 126) (pc' := 164) rfl (hb hby at_126) (by decide) (by decide) k) ?_
        show F (T5.setTop (mkF m 164 #[.val (.long q0), .second, .val (.long q1), .second, .val (.long q2), .second, .val (.long q3), .second, .val (.int p4), .val (.long (q1 &&& (9223372036854775807 : Int64))), .second, .val (.long (q0 &&& (9223372036854775807 : Int64))), .second, .val (.int (p4 &&& (3 : Int32))), .val (.long ses), .second, .val (.long tag), .second, .val (.ref w_UNKNOWN_SESSION)] []))
        exact J164 _ _ X5 e5 N0 _ _ _ hses (by rw [own_of, if_neg (fun q => hc112_3 (own_diff.mpr q)), if_pos hc102_2])
    · refine bk (fun t k => XS.ifYes X0.here hx rfl (pc0 := 102) (pc' := 129) rfl (hb hby at_102) rfl ((if0 _ _).trans (flt (fun q => hc102_2 ((lw_gt _ _).mp q))).2.2.2) (by decide) (by decide) k) ?_
      show F (s₁.setTop (mkF m 129 #[.val (.long q0), .second, .val (.long q1), .second, .val (.long q2), .second, .val (.long q3), .second, .val (.int p4), .val (.long (q1 &&& (9223372036854775807 : Int64))), .second, .val (.long (q0 &&& (9223372036854775807 : Int64))), .second, .val (.int (p4 &&& (3 : Int32))), .val (.long ses), .second, .val (.long tag), .second, .unset] []))
      refine bk (fun t k => XS.lload X0.here hx rfl (hb hby at_129) rfl k) ?_
      show F (s₁.setTop (mkF m 131 #[.val (.long q0), .second, .val (.long q1), .second, .val (.long q2), .second, .val (.long q3), .second, .val (.int p4), .val (.long (q1 &&& (9223372036854775807 : Int64))), .second, .val (.long (q0 &&& (9223372036854775807 : Int64))), .second, .val (.int (p4 &&& (3 : Int32))), .val (.long ses), .second, .val (.long tag), .second, .unset] [(.long ses)]))
      refine bk (fun t k => XS.lload X0.here hx rfl (hb hby at_131) rfl k) ?_
      show F (s₁.setTop (mkF m 133 #[.val (.long q0), .second, .val (.long q1), .second, .val (.long q2), .second, .val (.long q3), .second, .val (.int p4), .val (.long (q1 &&& (9223372036854775807 : Int64))), .second, .val (.long (q0 &&& (9223372036854775807 : Int64))), .second, .val (.int (p4 &&& (3 : Int32))), .val (.long ses), .second, .val (.long tag), .second, .unset] [(.long (q1 &&& (9223372036854775807 : Int64))), (.long ses)]))
      refine bk (fun t k => XS.lcmp X0.here hx rfl (hb hby at_133) rfl k) ?_
      show F (s₁.setTop (mkF m 134 #[.val (.long q0), .second, .val (.long q1), .second, .val (.long q2), .second, .val (.long q3), .second, .val (.int p4), .val (.long (q1 &&& (9223372036854775807 : Int64))), .second, .val (.long (q0 &&& (9223372036854775807 : Int64))), .second, .val (.int (p4 &&& (3 : Int32))), .val (.long ses), .second, .val (.long tag), .second, .unset] [(.int (lcmpW ses (q1 &&& (9223372036854775807 : Int64))))]))
      by_cases hc134_6 : ses < (q1 &&& (9223372036854775807 : Int64))
      · refine bk (fun t k => XS.ifNo X0.here hx rfl (hb hby at_134) rfl ((if0 _ _).trans (tlt ((lw_lt _ _).mpr hc134_6)).2.1) k) ?_
        show F (s₁.setTop (mkF m 137 #[.val (.long q0), .second, .val (.long q1), .second, .val (.long q2), .second, .val (.long q3), .second, .val (.int p4), .val (.long (q1 &&& (9223372036854775807 : Int64))), .second, .val (.long (q0 &&& (9223372036854775807 : Int64))), .second, .val (.int (p4 &&& (3 : Int32))), .val (.long ses), .second, .val (.long tag), .second, .unset] []))
        obtain ⟨T7, X7, e7, st7⟩ := getS2 X0 hx hZ hown (host := "") (Or.inl w_11) Via.refl e0 S_FENCED (g := (mkF m 137 #[.val (.long q0), .second, .val (.long q1), .second, .val (.long q2), .second, .val (.long q3), .second, .val (.int p4), .val (.long (q1 &&& (9223372036854775807 : Int64))), .second, .val (.long (q0 &&& (9223372036854775807 : Int64))), .second, .val (.int (p4 &&& (3 : Int32))), .val (.long ses), .second, .val (.long tag), .second, .unset] [])) rfl (hb hby at_137)
        refine bk (fun t k => st7 t k) ?_
        show F (T7.setTop (mkF m 140 #[.val (.long q0), .second, .val (.long q1), .second, .val (.long q2), .second, .val (.long q3), .second, .val (.int p4), .val (.long (q1 &&& (9223372036854775807 : Int64))), .second, .val (.long (q0 &&& (9223372036854775807 : Int64))), .second, .val (.int (p4 &&& (3 : Int32))), .val (.long ses), .second, .val (.long tag), .second, .unset] [(.ref w_FENCED)]))
        refine bk (fun t k => XS.astore X7.here hx rfl (hb hby at_140) rfl rfl (l' := #[.val (.long q0), .second, .val (.long q1), .second, .val (.long q2), .second, .val (.long q3), .second, .val (.int p4), .val (.long (q1 &&& (9223372036854775807 : Int64))), .second, .val (.long (q0 &&& (9223372036854775807 : Int64))), .second, .val (.int (p4 &&& (3 : Int32))), .val (.long ses), .second, .val (.long tag), .second, .val (.ref w_FENCED)]) rfl k) ?_
        show F (T7.setTop (mkF m 142 #[.val (.long q0), .second, .val (.long q1), .second, .val (.long q2), .second, .val (.long q3), .second, .val (.int p4), .val (.long (q1 &&& (9223372036854775807 : Int64))), .second, .val (.long (q0 &&& (9223372036854775807 : Int64))), .second, .val (.int (p4 &&& (3 : Int32))), .val (.long ses), .second, .val (.long tag), .second, .val (.ref w_FENCED)] []))
        refine bk (fun t k => XS.goto X7.here hx rfl (pc0 := 142) (pc' := 164) rfl (hb hby at_142) (by decide) (by decide) k) ?_
        show F (T7.setTop (mkF m 164 #[.val (.long q0), .second, .val (.long q1), .second, .val (.long q2), .second, .val (.long q3), .second, .val (.int p4), .val (.long (q1 &&& (9223372036854775807 : Int64))), .second, .val (.long (q0 &&& (9223372036854775807 : Int64))), .second, .val (.int (p4 &&& (3 : Int32))), .val (.long ses), .second, .val (.long tag), .second, .val (.ref w_FENCED)] []))
        exact J164 _ _ X7 e7 N0 _ _ _ hses (by rw [own_of, if_neg (own_neq hses (own_mask q1) hc102_2), if_neg hc102_2, if_neg (own_lne hc134_6)])
      · refine bk (fun t k => XS.ifYes X0.here hx rfl (pc0 := 134) (pc' := 145) rfl (hb hby at_134) rfl ((if0 _ _).trans (flt (fun q => hc134_6 ((lw_lt _ _).mp q))).2.1) (by decide) (by decide) k) ?_
        show F (s₁.setTop (mkF m 145 #[.val (.long q0), .second, .val (.long q1), .second, .val (.long q2), .second, .val (.long q3), .second, .val (.int p4), .val (.long (q1 &&& (9223372036854775807 : Int64))), .second, .val (.long (q0 &&& (9223372036854775807 : Int64))), .second, .val (.int (p4 &&& (3 : Int32))), .val (.long ses), .second, .val (.long tag), .second, .unset] []))
        refine bk (fun t k => XS.lload X0.here hx rfl (hb hby at_145) rfl k) ?_
        show F (s₁.setTop (mkF m 147 #[.val (.long q0), .second, .val (.long q1), .second, .val (.long q2), .second, .val (.long q3), .second, .val (.int p4), .val (.long (q1 &&& (9223372036854775807 : Int64))), .second, .val (.long (q0 &&& (9223372036854775807 : Int64))), .second, .val (.int (p4 &&& (3 : Int32))), .val (.long ses), .second, .val (.long tag), .second, .unset] [(.long tag)]))
        refine bk (fun t k => XS.lload X0.here hx rfl (hb hby at_147) rfl k) ?_
        show F (s₁.setTop (mkF m 149 #[.val (.long q0), .second, .val (.long q1), .second, .val (.long q2), .second, .val (.long q3), .second, .val (.int p4), .val (.long (q1 &&& (9223372036854775807 : Int64))), .second, .val (.long (q0 &&& (9223372036854775807 : Int64))), .second, .val (.int (p4 &&& (3 : Int32))), .val (.long ses), .second, .val (.long tag), .second, .unset] [(.long q3), (.long tag)]))
        refine bk (fun t k => XS.lcmp X0.here hx rfl (hb hby at_149) rfl k) ?_
        show F (s₁.setTop (mkF m 150 #[.val (.long q0), .second, .val (.long q1), .second, .val (.long q2), .second, .val (.long q3), .second, .val (.int p4), .val (.long (q1 &&& (9223372036854775807 : Int64))), .second, .val (.long (q0 &&& (9223372036854775807 : Int64))), .second, .val (.int (p4 &&& (3 : Int32))), .val (.long ses), .second, .val (.long tag), .second, .unset] [(.int (lcmpW tag q3))]))
        by_cases hc150_8 : tag = q3
        · refine bk (fun t k => XS.ifNo X0.here hx rfl (hb hby at_150) rfl ((if0 _ _).trans (teq ((lw_eq _ _).mpr hc150_8)).2) k) ?_
          show F (s₁.setTop (mkF m 153 #[.val (.long q0), .second, .val (.long q1), .second, .val (.long q2), .second, .val (.long q3), .second, .val (.int p4), .val (.long (q1 &&& (9223372036854775807 : Int64))), .second, .val (.long (q0 &&& (9223372036854775807 : Int64))), .second, .val (.int (p4 &&& (3 : Int32))), .val (.long ses), .second, .val (.long tag), .second, .unset] []))
          obtain ⟨T9, X9, e9, st9⟩ := getS2 X0 hx hZ hown (host := "") (Or.inl w_8) Via.refl e0 S_DUPLICATE (g := (mkF m 153 #[.val (.long q0), .second, .val (.long q1), .second, .val (.long q2), .second, .val (.long q3), .second, .val (.int p4), .val (.long (q1 &&& (9223372036854775807 : Int64))), .second, .val (.long (q0 &&& (9223372036854775807 : Int64))), .second, .val (.int (p4 &&& (3 : Int32))), .val (.long ses), .second, .val (.long tag), .second, .unset] [])) rfl (hb hby at_153)
          refine bk (fun t k => st9 t k) ?_
          show F (T9.setTop (mkF m 156 #[.val (.long q0), .second, .val (.long q1), .second, .val (.long q2), .second, .val (.long q3), .second, .val (.int p4), .val (.long (q1 &&& (9223372036854775807 : Int64))), .second, .val (.long (q0 &&& (9223372036854775807 : Int64))), .second, .val (.int (p4 &&& (3 : Int32))), .val (.long ses), .second, .val (.long tag), .second, .unset] [(.ref w_DUPLICATE)]))
          refine bk (fun t k => XS.goto X9.here hx rfl (pc0 := 156) (pc' := 162) rfl (hb hby at_156) (by decide) (by decide) k) ?_
          show F (T9.setTop (mkF m 162 #[.val (.long q0), .second, .val (.long q1), .second, .val (.long q2), .second, .val (.long q3), .second, .val (.int p4), .val (.long (q1 &&& (9223372036854775807 : Int64))), .second, .val (.long (q0 &&& (9223372036854775807 : Int64))), .second, .val (.int (p4 &&& (3 : Int32))), .val (.long ses), .second, .val (.long tag), .second, .unset] [(.ref w_DUPLICATE)]))
          refine bk (fun t k => XS.astore X9.here hx rfl (hb hby at_162) rfl rfl (l' := #[.val (.long q0), .second, .val (.long q1), .second, .val (.long q2), .second, .val (.long q3), .second, .val (.int p4), .val (.long (q1 &&& (9223372036854775807 : Int64))), .second, .val (.long (q0 &&& (9223372036854775807 : Int64))), .second, .val (.int (p4 &&& (3 : Int32))), .val (.long ses), .second, .val (.long tag), .second, .val (.ref w_DUPLICATE)]) rfl k) ?_
          show F (T9.setTop (mkF m 164 #[.val (.long q0), .second, .val (.long q1), .second, .val (.long q2), .second, .val (.long q3), .second, .val (.int p4), .val (.long (q1 &&& (9223372036854775807 : Int64))), .second, .val (.long (q0 &&& (9223372036854775807 : Int64))), .second, .val (.int (p4 &&& (3 : Int32))), .val (.long ses), .second, .val (.long tag), .second, .val (.ref w_DUPLICATE)] []))
          exact J164 _ _ X9 e9 N0 _ _ _ hses (by rw [own_of, if_neg (own_neq hses (own_mask q1) hc102_2), if_neg hc102_2, if_pos (own_eqof hc102_2 hc134_6), if_pos hc150_8])
        · refine bk (fun t k => XS.ifYes X0.here hx rfl (pc0 := 150) (pc' := 159) rfl (hb hby at_150) rfl ((if0 _ _).trans (feq (fun q => hc150_8 ((lw_eq _ _).mp q))).2) (by decide) (by decide) k) ?_
          show F (s₁.setTop (mkF m 159 #[.val (.long q0), .second, .val (.long q1), .second, .val (.long q2), .second, .val (.long q3), .second, .val (.int p4), .val (.long (q1 &&& (9223372036854775807 : Int64))), .second, .val (.long (q0 &&& (9223372036854775807 : Int64))), .second, .val (.int (p4 &&& (3 : Int32))), .val (.long ses), .second, .val (.long tag), .second, .unset] []))
          obtain ⟨T10, X10, e10, st10⟩ := getS2 X0 hx hZ hown (host := "") (Or.inl w_11) Via.refl e0 S_FENCED (g := (mkF m 159 #[.val (.long q0), .second, .val (.long q1), .second, .val (.long q2), .second, .val (.long q3), .second, .val (.int p4), .val (.long (q1 &&& (9223372036854775807 : Int64))), .second, .val (.long (q0 &&& (9223372036854775807 : Int64))), .second, .val (.int (p4 &&& (3 : Int32))), .val (.long ses), .second, .val (.long tag), .second, .unset] [])) rfl (hb hby at_159)
          refine bk (fun t k => st10 t k) ?_
          show F (T10.setTop (mkF m 162 #[.val (.long q0), .second, .val (.long q1), .second, .val (.long q2), .second, .val (.long q3), .second, .val (.int p4), .val (.long (q1 &&& (9223372036854775807 : Int64))), .second, .val (.long (q0 &&& (9223372036854775807 : Int64))), .second, .val (.int (p4 &&& (3 : Int32))), .val (.long ses), .second, .val (.long tag), .second, .unset] [(.ref w_FENCED)]))
          refine bk (fun t k => XS.astore X10.here hx rfl (hb hby at_162) rfl rfl (l' := #[.val (.long q0), .second, .val (.long q1), .second, .val (.long q2), .second, .val (.long q3), .second, .val (.int p4), .val (.long (q1 &&& (9223372036854775807 : Int64))), .second, .val (.long (q0 &&& (9223372036854775807 : Int64))), .second, .val (.int (p4 &&& (3 : Int32))), .val (.long ses), .second, .val (.long tag), .second, .val (.ref w_FENCED)]) rfl k) ?_
          show F (T10.setTop (mkF m 164 #[.val (.long q0), .second, .val (.long q1), .second, .val (.long q2), .second, .val (.long q3), .second, .val (.int p4), .val (.long (q1 &&& (9223372036854775807 : Int64))), .second, .val (.long (q0 &&& (9223372036854775807 : Int64))), .second, .val (.int (p4 &&& (3 : Int32))), .val (.long ses), .second, .val (.long tag), .second, .val (.ref w_FENCED)] []))
          exact J164 _ _ X10 e10 N0 _ _ _ hses (by rw [own_of, if_neg (own_neq hses (own_mask q1) hc102_2), if_neg hc102_2, if_pos (own_eqof hc102_2 hc134_6), if_neg hc150_8])
  have J79 : ∀ (ses : Int64) (hses : ¬ ses < 0), F (s₁.setTop (mkF m 79 #[.val (.long q0), .second, .val (.long q1), .second, .val (.long q2), .second, .val (.long q3), .second, .val (.int p4), .val (.long (q1 &&& (9223372036854775807 : Int64))), .second, .val (.long (q0 &&& (9223372036854775807 : Int64))), .second, .val (.int (p4 &&& (3 : Int32))), .val (.long ses), .second, .unset, .unset, .unset] [])) := by
    intro ses hses
    show F (s₁.setTop (mkF m 79 #[.val (.long q0), .second, .val (.long q1), .second, .val (.long q2), .second, .val (.long q3), .second, .val (.int p4), .val (.long (q1 &&& (9223372036854775807 : Int64))), .second, .val (.long (q0 &&& (9223372036854775807 : Int64))), .second, .val (.int (p4 &&& (3 : Int32))), .val (.long ses), .second, .unset, .unset, .unset] []))
    refine bk (fun t k => XS.iload X0.here hx rfl (hb hby at_79) rfl k) ?_
    show F (s₁.setTop (mkF m 81 #[.val (.long q0), .second, .val (.long q1), .second, .val (.long q2), .second, .val (.long q3), .second, .val (.int p4), .val (.long (q1 &&& (9223372036854775807 : Int64))), .second, .val (.long (q0 &&& (9223372036854775807 : Int64))), .second, .val (.int (p4 &&& (3 : Int32))), .val (.long ses), .second, .unset, .unset, .unset] [(.int p4)]))
    refine bk (fun t k => XS.iconst X0.here hx rfl (hb hby at_81) k) ?_
    show F (s₁.setTop (mkF m 82 #[.val (.long q0), .second, .val (.long q1), .second, .val (.long q2), .second, .val (.long q3), .second, .val (.int p4), .val (.long (q1 &&& (9223372036854775807 : Int64))), .second, .val (.long (q0 &&& (9223372036854775807 : Int64))), .second, .val (.int (p4 &&& (3 : Int32))), .val (.long ses), .second, .unset, .unset, .unset] [(.int (2 : Int32)), (.int p4)]))
    refine bk (fun t k => XS.iushr X0.here hx rfl (hb hby at_82) rfl k) ?_
    show F (s₁.setTop (mkF m 83 #[.val (.long q0), .second, .val (.long q1), .second, .val (.long q2), .second, .val (.long q3), .second, .val (.int p4), .val (.long (q1 &&& (9223372036854775807 : Int64))), .second, .val (.long (q0 &&& (9223372036854775807 : Int64))), .second, .val (.int (p4 &&& (3 : Int32))), .val (.long ses), .second, .unset, .unset, .unset] [(.int ((p4.toUInt32 >>> ((2 : Int32) &&& 31).toUInt32).toInt32))]))
    refine bk (fun t k => XS.iconst X0.here hx rfl (hb hby at_83) k) ?_
    show F (s₁.setTop (mkF m 84 #[.val (.long q0), .second, .val (.long q1), .second, .val (.long q2), .second, .val (.long q3), .second, .val (.int p4), .val (.long (q1 &&& (9223372036854775807 : Int64))), .second, .val (.long (q0 &&& (9223372036854775807 : Int64))), .second, .val (.int (p4 &&& (3 : Int32))), .val (.long ses), .second, .unset, .unset, .unset] [(.int (1 : Int32)), (.int ((p4.toUInt32 >>> ((2 : Int32) &&& 31).toUInt32).toInt32))]))
    refine bk (fun t k => XS.iand X0.here hx rfl (hb hby at_84) rfl k) ?_
    show F (s₁.setTop (mkF m 85 #[.val (.long q0), .second, .val (.long q1), .second, .val (.long q2), .second, .val (.long q3), .second, .val (.int p4), .val (.long (q1 &&& (9223372036854775807 : Int64))), .second, .val (.long (q0 &&& (9223372036854775807 : Int64))), .second, .val (.int (p4 &&& (3 : Int32))), .val (.long ses), .second, .unset, .unset, .unset] [(.int (((p4.toUInt32 >>> ((2 : Int32) &&& 31).toUInt32).toInt32) &&& (1 : Int32)))]))
    by_cases hc85_11 : (((p4.toUInt32 >>> ((2 : Int32) &&& 31).toUInt32).toInt32) &&& (1 : Int32)) = (0 : Int32)
    · refine bk (fun t k => XS.ifYes X0.here hx rfl (pc0 := 85) (pc' := 93) rfl (hb hby at_85) rfl ((if0 _ _).trans (teq hc85_11).1) (by decide) (by decide) k) ?_
      show F (s₁.setTop (mkF m 93 #[.val (.long q0), .second, .val (.long q1), .second, .val (.long q2), .second, .val (.long q3), .second, .val (.int p4), .val (.long (q1 &&& (9223372036854775807 : Int64))), .second, .val (.long (q0 &&& (9223372036854775807 : Int64))), .second, .val (.int (p4 &&& (3 : Int32))), .val (.long ses), .second, .unset, .unset, .unset] []))
      refine bk (fun t k => XS.lload X0.here hx rfl (hb hby at_93) rfl k) ?_
      show F (s₁.setTop (mkF m 95 #[.val (.long q0), .second, .val (.long q1), .second, .val (.long q2), .second, .val (.long q3), .second, .val (.int p4), .val (.long (q1 &&& (9223372036854775807 : Int64))), .second, .val (.long (q0 &&& (9223372036854775807 : Int64))), .second, .val (.int (p4 &&& (3 : Int32))), .val (.long ses), .second, .unset, .unset, .unset] [(.long q2)]))
      exact J95 _ _ hses
    · refine bk (fun t k => XS.ifNo X0.here hx rfl (hb hby at_85) rfl ((if0 _ _).trans (feq hc85_11).1) k) ?_
      show F (s₁.setTop (mkF m 88 #[.val (.long q0), .second, .val (.long q1), .second, .val (.long q2), .second, .val (.long q3), .second, .val (.int p4), .val (.long (q1 &&& (9223372036854775807 : Int64))), .second, .val (.long (q0 &&& (9223372036854775807 : Int64))), .second, .val (.int (p4 &&& (3 : Int32))), .val (.long ses), .second, .unset, .unset, .unset] []))
      refine bk (fun t k => XS.lload X0.here hx rfl (hb hby at_88) rfl k) ?_
      show F (s₁.setTop (mkF m 90 #[.val (.long q0), .second, .val (.long q1), .second, .val (.long q2), .second, .val (.long q3), .second, .val (.int p4), .val (.long (q1 &&& (9223372036854775807 : Int64))), .second, .val (.long (q0 &&& (9223372036854775807 : Int64))), .second, .val (.int (p4 &&& (3 : Int32))), .val (.long ses), .second, .unset, .unset, .unset] [(.long q3)]))
      refine bk (fun t k => XS.goto X0.here hx rfl (pc0 := 90) (pc' := 95) rfl (hb hby at_90) (by decide) (by decide) k) ?_
      show F (s₁.setTop (mkF m 95 #[.val (.long q0), .second, .val (.long q1), .second, .val (.long q2), .second, .val (.long q3), .second, .val (.int p4), .val (.long (q1 &&& (9223372036854775807 : Int64))), .second, .val (.long (q0 &&& (9223372036854775807 : Int64))), .second, .val (.int (p4 &&& (3 : Int32))), .val (.long ses), .second, .unset, .unset, .unset] [(.long q3)]))
      exact J95 _ _ hses
  show F (s₁.setTop (mkF m 0 #[.val (.long q0), .second, .val (.long q1), .second, .val (.long q2), .second, .val (.long q3), .second, .val (.int p4), .unset, .unset, .unset, .unset, .unset, .unset, .unset, .unset, .unset, .unset] []))
  refine bk (fun t k => XS.lloadN X0.here hx rfl (hb hby at_0) rfl k) ?_
  show F (s₁.setTop (mkF m 1 #[.val (.long q0), .second, .val (.long q1), .second, .val (.long q2), .second, .val (.long q3), .second, .val (.int p4), .unset, .unset, .unset, .unset, .unset, .unset, .unset, .unset, .unset, .unset] [(.long q1)]))
  refine bk (fun t k => X0.ldc2Long hx hown (mvT hZ w_0) (g := (mkF m 1 #[.val (.long q0), .second, .val (.long q1), .second, .val (.long q2), .second, .val (.long q3), .second, .val (.int p4), .unset, .unset, .unset, .unset, .unset, .unset, .unset, .unset, .unset, .unset] [(.long q1)])) rfl (hb hby at_1) t k) ?_
  show F (s₁.setTop (mkF m 4 #[.val (.long q0), .second, .val (.long q1), .second, .val (.long q2), .second, .val (.long q3), .second, .val (.int p4), .unset, .unset, .unset, .unset, .unset, .unset, .unset, .unset, .unset, .unset] [(.long (9223372036854775807 : Int64)), (.long q1)]))
  refine bk (fun t k => XS.land X0.here hx rfl (hb hby at_4) rfl k) ?_
  show F (s₁.setTop (mkF m 5 #[.val (.long q0), .second, .val (.long q1), .second, .val (.long q2), .second, .val (.long q3), .second, .val (.int p4), .unset, .unset, .unset, .unset, .unset, .unset, .unset, .unset, .unset, .unset] [(.long (q1 &&& (9223372036854775807 : Int64)))]))
  refine bk (fun t k => XS.lstore X0.here hx rfl (hb hby at_5) rfl (l' := #[.val (.long q0), .second, .val (.long q1), .second, .val (.long q2), .second, .val (.long q3), .second, .val (.int p4), .val (.long (q1 &&& (9223372036854775807 : Int64))), .second, .unset, .unset, .unset, .unset, .unset, .unset, .unset, .unset]) rfl k) ?_
  show F (s₁.setTop (mkF m 7 #[.val (.long q0), .second, .val (.long q1), .second, .val (.long q2), .second, .val (.long q3), .second, .val (.int p4), .val (.long (q1 &&& (9223372036854775807 : Int64))), .second, .unset, .unset, .unset, .unset, .unset, .unset, .unset, .unset] []))
  refine bk (fun t k => XS.lloadN X0.here hx rfl (hb hby at_7) rfl k) ?_
  show F (s₁.setTop (mkF m 8 #[.val (.long q0), .second, .val (.long q1), .second, .val (.long q2), .second, .val (.long q3), .second, .val (.int p4), .val (.long (q1 &&& (9223372036854775807 : Int64))), .second, .unset, .unset, .unset, .unset, .unset, .unset, .unset, .unset] [(.long q0)]))
  refine bk (fun t k => X0.ldc2Long hx hown (mvT hZ w_0) (g := (mkF m 8 #[.val (.long q0), .second, .val (.long q1), .second, .val (.long q2), .second, .val (.long q3), .second, .val (.int p4), .val (.long (q1 &&& (9223372036854775807 : Int64))), .second, .unset, .unset, .unset, .unset, .unset, .unset, .unset, .unset] [(.long q0)])) rfl (hb hby at_8) t k) ?_
  show F (s₁.setTop (mkF m 11 #[.val (.long q0), .second, .val (.long q1), .second, .val (.long q2), .second, .val (.long q3), .second, .val (.int p4), .val (.long (q1 &&& (9223372036854775807 : Int64))), .second, .unset, .unset, .unset, .unset, .unset, .unset, .unset, .unset] [(.long (9223372036854775807 : Int64)), (.long q0)]))
  refine bk (fun t k => XS.land X0.here hx rfl (hb hby at_11) rfl k) ?_
  show F (s₁.setTop (mkF m 12 #[.val (.long q0), .second, .val (.long q1), .second, .val (.long q2), .second, .val (.long q3), .second, .val (.int p4), .val (.long (q1 &&& (9223372036854775807 : Int64))), .second, .unset, .unset, .unset, .unset, .unset, .unset, .unset, .unset] [(.long (q0 &&& (9223372036854775807 : Int64)))]))
  refine bk (fun t k => XS.lstore X0.here hx rfl (hb hby at_12) rfl (l' := #[.val (.long q0), .second, .val (.long q1), .second, .val (.long q2), .second, .val (.long q3), .second, .val (.int p4), .val (.long (q1 &&& (9223372036854775807 : Int64))), .second, .val (.long (q0 &&& (9223372036854775807 : Int64))), .second, .unset, .unset, .unset, .unset, .unset, .unset]) rfl k) ?_
  show F (s₁.setTop (mkF m 14 #[.val (.long q0), .second, .val (.long q1), .second, .val (.long q2), .second, .val (.long q3), .second, .val (.int p4), .val (.long (q1 &&& (9223372036854775807 : Int64))), .second, .val (.long (q0 &&& (9223372036854775807 : Int64))), .second, .unset, .unset, .unset, .unset, .unset, .unset] []))
  refine bk (fun t k => XS.iload X0.here hx rfl (hb hby at_14) rfl k) ?_
  show F (s₁.setTop (mkF m 16 #[.val (.long q0), .second, .val (.long q1), .second, .val (.long q2), .second, .val (.long q3), .second, .val (.int p4), .val (.long (q1 &&& (9223372036854775807 : Int64))), .second, .val (.long (q0 &&& (9223372036854775807 : Int64))), .second, .unset, .unset, .unset, .unset, .unset, .unset] [(.int p4)]))
  refine bk (fun t k => XS.iconst X0.here hx rfl (hb hby at_16) k) ?_
  show F (s₁.setTop (mkF m 17 #[.val (.long q0), .second, .val (.long q1), .second, .val (.long q2), .second, .val (.long q3), .second, .val (.int p4), .val (.long (q1 &&& (9223372036854775807 : Int64))), .second, .val (.long (q0 &&& (9223372036854775807 : Int64))), .second, .unset, .unset, .unset, .unset, .unset, .unset] [(.int (3 : Int32)), (.int p4)]))
  refine bk (fun t k => XS.iand X0.here hx rfl (hb hby at_17) rfl k) ?_
  show F (s₁.setTop (mkF m 18 #[.val (.long q0), .second, .val (.long q1), .second, .val (.long q2), .second, .val (.long q3), .second, .val (.int p4), .val (.long (q1 &&& (9223372036854775807 : Int64))), .second, .val (.long (q0 &&& (9223372036854775807 : Int64))), .second, .unset, .unset, .unset, .unset, .unset, .unset] [(.int (p4 &&& (3 : Int32)))]))
  refine bk (fun t k => XS.istore X0.here hx rfl (hb hby at_18) rfl (l' := #[.val (.long q0), .second, .val (.long q1), .second, .val (.long q2), .second, .val (.long q3), .second, .val (.int p4), .val (.long (q1 &&& (9223372036854775807 : Int64))), .second, .val (.long (q0 &&& (9223372036854775807 : Int64))), .second, .val (.int (p4 &&& (3 : Int32))), .unset, .unset, .unset, .unset, .unset]) rfl k) ?_
  show F (s₁.setTop (mkF m 20 #[.val (.long q0), .second, .val (.long q1), .second, .val (.long q2), .second, .val (.long q3), .second, .val (.int p4), .val (.long (q1 &&& (9223372036854775807 : Int64))), .second, .val (.long (q0 &&& (9223372036854775807 : Int64))), .second, .val (.int (p4 &&& (3 : Int32))), .unset, .unset, .unset, .unset, .unset] []))
  refine bk (fun t k => XS.lload X0.here hx rfl (hb hby at_20) rfl k) ?_
  show F (s₁.setTop (mkF m 22 #[.val (.long q0), .second, .val (.long q1), .second, .val (.long q2), .second, .val (.long q3), .second, .val (.int p4), .val (.long (q1 &&& (9223372036854775807 : Int64))), .second, .val (.long (q0 &&& (9223372036854775807 : Int64))), .second, .val (.int (p4 &&& (3 : Int32))), .unset, .unset, .unset, .unset, .unset] [(.long (q0 &&& (9223372036854775807 : Int64)))]))
  refine bk (fun t k => XS.lstore X0.here hx rfl (hb hby at_22) rfl (l' := #[.val (.long q0), .second, .val (.long q1), .second, .val (.long q2), .second, .val (.long q3), .second, .val (.int p4), .val (.long (q1 &&& (9223372036854775807 : Int64))), .second, .val (.long (q0 &&& (9223372036854775807 : Int64))), .second, .val (.int (p4 &&& (3 : Int32))), .val (.long (q0 &&& (9223372036854775807 : Int64))), .second, .unset, .unset, .unset]) rfl k) ?_
  show F (s₁.setTop (mkF m 24 #[.val (.long q0), .second, .val (.long q1), .second, .val (.long q2), .second, .val (.long q3), .second, .val (.int p4), .val (.long (q1 &&& (9223372036854775807 : Int64))), .second, .val (.long (q0 &&& (9223372036854775807 : Int64))), .second, .val (.int (p4 &&& (3 : Int32))), .val (.long (q0 &&& (9223372036854775807 : Int64))), .second, .unset, .unset, .unset] []))
  refine bk (fun t k => XS.iload X0.here hx rfl (hb hby at_24) rfl k) ?_
  show F (s₁.setTop (mkF m 26 #[.val (.long q0), .second, .val (.long q1), .second, .val (.long q2), .second, .val (.long q3), .second, .val (.int p4), .val (.long (q1 &&& (9223372036854775807 : Int64))), .second, .val (.long (q0 &&& (9223372036854775807 : Int64))), .second, .val (.int (p4 &&& (3 : Int32))), .val (.long (q0 &&& (9223372036854775807 : Int64))), .second, .unset, .unset, .unset] [(.int (p4 &&& (3 : Int32)))]))
  by_cases hc26_12 : (p4 &&& (3 : Int32)) = (0 : Int32)
  · refine bk (fun t k => XS.ifNo X0.here hx rfl (hb hby at_26) rfl ((if0 _ _).trans (teq hc26_12).2) k) ?_
    show F (s₁.setTop (mkF m 29 #[.val (.long q0), .second, .val (.long q1), .second, .val (.long q2), .second, .val (.long q3), .second, .val (.int p4), .val (.long (q1 &&& (9223372036854775807 : Int64))), .second, .val (.long (q0 &&& (9223372036854775807 : Int64))), .second, .val (.int (p4 &&& (3 : Int32))), .val (.long (q0 &&& (9223372036854775807 : Int64))), .second, .unset, .unset, .unset] []))
    refine bk (fun t k => XS.lload X0.here hx rfl (hb hby at_29) rfl k) ?_
    show F (s₁.setTop (mkF m 31 #[.val (.long q0), .second, .val (.long q1), .second, .val (.long q2), .second, .val (.long q3), .second, .val (.int p4), .val (.long (q1 &&& (9223372036854775807 : Int64))), .second, .val (.long (q0 &&& (9223372036854775807 : Int64))), .second, .val (.int (p4 &&& (3 : Int32))), .val (.long (q0 &&& (9223372036854775807 : Int64))), .second, .unset, .unset, .unset] [(.long (q1 &&& (9223372036854775807 : Int64)))]))
    refine bk (fun t k => X0.ldc2Long hx hown (mvT hZ w_0) (g := (mkF m 31 #[.val (.long q0), .second, .val (.long q1), .second, .val (.long q2), .second, .val (.long q3), .second, .val (.int p4), .val (.long (q1 &&& (9223372036854775807 : Int64))), .second, .val (.long (q0 &&& (9223372036854775807 : Int64))), .second, .val (.int (p4 &&& (3 : Int32))), .val (.long (q0 &&& (9223372036854775807 : Int64))), .second, .unset, .unset, .unset] [(.long (q1 &&& (9223372036854775807 : Int64)))])) rfl (hb hby at_31) t k) ?_
    show F (s₁.setTop (mkF m 34 #[.val (.long q0), .second, .val (.long q1), .second, .val (.long q2), .second, .val (.long q3), .second, .val (.int p4), .val (.long (q1 &&& (9223372036854775807 : Int64))), .second, .val (.long (q0 &&& (9223372036854775807 : Int64))), .second, .val (.int (p4 &&& (3 : Int32))), .val (.long (q0 &&& (9223372036854775807 : Int64))), .second, .unset, .unset, .unset] [(.long (9223372036854775807 : Int64)), (.long (q1 &&& (9223372036854775807 : Int64)))]))
    refine bk (fun t k => XS.lcmp X0.here hx rfl (hb hby at_34) rfl k) ?_
    show F (s₁.setTop (mkF m 35 #[.val (.long q0), .second, .val (.long q1), .second, .val (.long q2), .second, .val (.long q3), .second, .val (.int p4), .val (.long (q1 &&& (9223372036854775807 : Int64))), .second, .val (.long (q0 &&& (9223372036854775807 : Int64))), .second, .val (.int (p4 &&& (3 : Int32))), .val (.long (q0 &&& (9223372036854775807 : Int64))), .second, .unset, .unset, .unset] [(.int (lcmpW (q1 &&& (9223372036854775807 : Int64)) (9223372036854775807 : Int64)))]))
    by_cases hc35_13 : (q1 &&& (9223372036854775807 : Int64)) = (9223372036854775807 : Int64)
    · refine bk (fun t k => XS.ifYes X0.here hx rfl (pc0 := 35) (pc' := 47) rfl (hb hby at_35) rfl ((if0 _ _).trans (teq ((lw_eq _ _).mpr hc35_13)).1) (by decide) (by decide) k) ?_
      show F (s₁.setTop (mkF m 47 #[.val (.long q0), .second, .val (.long q1), .second, .val (.long q2), .second, .val (.long q3), .second, .val (.int p4), .val (.long (q1 &&& (9223372036854775807 : Int64))), .second, .val (.long (q0 &&& (9223372036854775807 : Int64))), .second, .val (.int (p4 &&& (3 : Int32))), .val (.long (q0 &&& (9223372036854775807 : Int64))), .second, .unset, .unset, .unset] []))
      refine bk (fun t k => XS.iload X0.here hx rfl (hb hby at_47) rfl k) ?_
      show F (s₁.setTop (mkF m 49 #[.val (.long q0), .second, .val (.long q1), .second, .val (.long q2), .second, .val (.long q3), .second, .val (.int p4), .val (.long (q1 &&& (9223372036854775807 : Int64))), .second, .val (.long (q0 &&& (9223372036854775807 : Int64))), .second, .val (.int (p4 &&& (3 : Int32))), .val (.long (q0 &&& (9223372036854775807 : Int64))), .second, .unset, .unset, .unset] [(.int (p4 &&& (3 : Int32)))]))
      refine bk (fun t k => XS.iconst X0.here hx rfl (hb hby at_49) k) ?_
      show F (s₁.setTop (mkF m 50 #[.val (.long q0), .second, .val (.long q1), .second, .val (.long q2), .second, .val (.long q3), .second, .val (.int p4), .val (.long (q1 &&& (9223372036854775807 : Int64))), .second, .val (.long (q0 &&& (9223372036854775807 : Int64))), .second, .val (.int (p4 &&& (3 : Int32))), .val (.long (q0 &&& (9223372036854775807 : Int64))), .second, .unset, .unset, .unset] [(.int (1 : Int32)), (.int (p4 &&& (3 : Int32)))]))
      by_cases hc50_14 : (p4 &&& (3 : Int32)) = (1 : Int32)
      · refine bk (fun t k => XS.icmpNo X0.here hx rfl (hb hby at_50) rfl (teq hc50_14).2 k) ?_
        show F (s₁.setTop (mkF m 53 #[.val (.long q0), .second, .val (.long q1), .second, .val (.long q2), .second, .val (.long q3), .second, .val (.int p4), .val (.long (q1 &&& (9223372036854775807 : Int64))), .second, .val (.long (q0 &&& (9223372036854775807 : Int64))), .second, .val (.int (p4 &&& (3 : Int32))), .val (.long (q0 &&& (9223372036854775807 : Int64))), .second, .unset, .unset, .unset] []))
        refine bk (fun t k => XS.lload X0.here hx rfl (hb hby at_53) rfl k) ?_
        show F (s₁.setTop (mkF m 55 #[.val (.long q0), .second, .val (.long q1), .second, .val (.long q2), .second, .val (.long q3), .second, .val (.int p4), .val (.long (q1 &&& (9223372036854775807 : Int64))), .second, .val (.long (q0 &&& (9223372036854775807 : Int64))), .second, .val (.int (p4 &&& (3 : Int32))), .val (.long (q0 &&& (9223372036854775807 : Int64))), .second, .unset, .unset, .unset] [(.long (q1 &&& (9223372036854775807 : Int64)))]))
        refine bk (fun t k => XS.lstore X0.here hx rfl (hb hby at_55) rfl (l' := #[.val (.long q0), .second, .val (.long q1), .second, .val (.long q2), .second, .val (.long q3), .second, .val (.int p4), .val (.long (q1 &&& (9223372036854775807 : Int64))), .second, .val (.long (q0 &&& (9223372036854775807 : Int64))), .second, .val (.int (p4 &&& (3 : Int32))), .val (.long (q1 &&& (9223372036854775807 : Int64))), .second, .unset, .unset, .unset]) rfl k) ?_
        show F (s₁.setTop (mkF m 57 #[.val (.long q0), .second, .val (.long q1), .second, .val (.long q2), .second, .val (.long q3), .second, .val (.int p4), .val (.long (q1 &&& (9223372036854775807 : Int64))), .second, .val (.long (q0 &&& (9223372036854775807 : Int64))), .second, .val (.int (p4 &&& (3 : Int32))), .val (.long (q1 &&& (9223372036854775807 : Int64))), .second, .unset, .unset, .unset] []))
        refine bk (fun t k => XS.goto X0.here hx rfl (pc0 := 57) (pc' := 79) rfl (hb hby at_57) (by decide) (by decide) k) ?_
        show F (s₁.setTop (mkF m 79 #[.val (.long q0), .second, .val (.long q1), .second, .val (.long q2), .second, .val (.long q3), .second, .val (.int p4), .val (.long (q1 &&& (9223372036854775807 : Int64))), .second, .val (.long (q0 &&& (9223372036854775807 : Int64))), .second, .val (.int (p4 &&& (3 : Int32))), .val (.long (q1 &&& (9223372036854775807 : Int64))), .second, .unset, .unset, .unset] []))
        exact J79 _ (own_mask q1)
      · refine bk (fun t k => XS.icmpYes X0.here hx rfl (pc0 := 50) (pc' := 60) rfl (hb hby at_50) rfl (feq hc50_14).2 (by decide) (by decide) k) ?_
        show F (s₁.setTop (mkF m 60 #[.val (.long q0), .second, .val (.long q1), .second, .val (.long q2), .second, .val (.long q3), .second, .val (.int p4), .val (.long (q1 &&& (9223372036854775807 : Int64))), .second, .val (.long (q0 &&& (9223372036854775807 : Int64))), .second, .val (.int (p4 &&& (3 : Int32))), .val (.long (q0 &&& (9223372036854775807 : Int64))), .second, .unset, .unset, .unset] []))
        refine bk (fun t k => XS.iload X0.here hx rfl (hb hby at_60) rfl k) ?_
        show F (s₁.setTop (mkF m 62 #[.val (.long q0), .second, .val (.long q1), .second, .val (.long q2), .second, .val (.long q3), .second, .val (.int p4), .val (.long (q1 &&& (9223372036854775807 : Int64))), .second, .val (.long (q0 &&& (9223372036854775807 : Int64))), .second, .val (.int (p4 &&& (3 : Int32))), .val (.long (q0 &&& (9223372036854775807 : Int64))), .second, .unset, .unset, .unset] [(.int (p4 &&& (3 : Int32)))]))
        refine bk (fun t k => XS.iconst X0.here hx rfl (hb hby at_62) k) ?_
        show F (s₁.setTop (mkF m 63 #[.val (.long q0), .second, .val (.long q1), .second, .val (.long q2), .second, .val (.long q3), .second, .val (.int p4), .val (.long (q1 &&& (9223372036854775807 : Int64))), .second, .val (.long (q0 &&& (9223372036854775807 : Int64))), .second, .val (.int (p4 &&& (3 : Int32))), .val (.long (q0 &&& (9223372036854775807 : Int64))), .second, .unset, .unset, .unset] [(.int (2 : Int32)), (.int (p4 &&& (3 : Int32)))]))
        by_cases hc63_15 : (p4 &&& (3 : Int32)) = (2 : Int32)
        · refine bk (fun t k => XS.icmpNo X0.here hx rfl (hb hby at_63) rfl (teq hc63_15).2 k) ?_
          show F (s₁.setTop (mkF m 66 #[.val (.long q0), .second, .val (.long q1), .second, .val (.long q2), .second, .val (.long q3), .second, .val (.int p4), .val (.long (q1 &&& (9223372036854775807 : Int64))), .second, .val (.long (q0 &&& (9223372036854775807 : Int64))), .second, .val (.int (p4 &&& (3 : Int32))), .val (.long (q0 &&& (9223372036854775807 : Int64))), .second, .unset, .unset, .unset] []))
          refine bk (fun t k => XS.lload X0.here hx rfl (hb hby at_66) rfl k) ?_
          show F (s₁.setTop (mkF m 68 #[.val (.long q0), .second, .val (.long q1), .second, .val (.long q2), .second, .val (.long q3), .second, .val (.int p4), .val (.long (q1 &&& (9223372036854775807 : Int64))), .second, .val (.long (q0 &&& (9223372036854775807 : Int64))), .second, .val (.int (p4 &&& (3 : Int32))), .val (.long (q0 &&& (9223372036854775807 : Int64))), .second, .unset, .unset, .unset] [(.long (q1 &&& (9223372036854775807 : Int64)))]))
          refine bk (fun t k => XS.lconst X0.here hx rfl (hb hby at_68) k) ?_
          show F (s₁.setTop (mkF m 69 #[.val (.long q0), .second, .val (.long q1), .second, .val (.long q2), .second, .val (.long q3), .second, .val (.int p4), .val (.long (q1 &&& (9223372036854775807 : Int64))), .second, .val (.long (q0 &&& (9223372036854775807 : Int64))), .second, .val (.int (p4 &&& (3 : Int32))), .val (.long (q0 &&& (9223372036854775807 : Int64))), .second, .unset, .unset, .unset] [(.long (0 : Int64)), (.long (q1 &&& (9223372036854775807 : Int64)))]))
          refine bk (fun t k => XS.lcmp X0.here hx rfl (hb hby at_69) rfl k) ?_
          show F (s₁.setTop (mkF m 70 #[.val (.long q0), .second, .val (.long q1), .second, .val (.long q2), .second, .val (.long q3), .second, .val (.int p4), .val (.long (q1 &&& (9223372036854775807 : Int64))), .second, .val (.long (q0 &&& (9223372036854775807 : Int64))), .second, .val (.int (p4 &&& (3 : Int32))), .val (.long (q0 &&& (9223372036854775807 : Int64))), .second, .unset, .unset, .unset] [(.int (lcmpW (q1 &&& (9223372036854775807 : Int64)) (0 : Int64)))]))
          by_cases hc70_16 : (q1 &&& (9223372036854775807 : Int64)) = (0 : Int64)
          · refine bk (fun t k => XS.ifYes X0.here hx rfl (pc0 := 70) (pc' := 79) rfl (hb hby at_70) rfl ((if0 _ _).trans (teq ((lw_eq _ _).mpr hc70_16)).1) (by decide) (by decide) k) ?_
            show F (s₁.setTop (mkF m 79 #[.val (.long q0), .second, .val (.long q1), .second, .val (.long q2), .second, .val (.long q3), .second, .val (.int p4), .val (.long (q1 &&& (9223372036854775807 : Int64))), .second, .val (.long (q0 &&& (9223372036854775807 : Int64))), .second, .val (.int (p4 &&& (3 : Int32))), .val (.long (q0 &&& (9223372036854775807 : Int64))), .second, .unset, .unset, .unset] []))
            exact J79 _ (own_mask q0)
          · refine bk (fun t k => XS.ifNo X0.here hx rfl (hb hby at_70) rfl ((if0 _ _).trans (feq (fun q => hc70_16 ((lw_eq _ _).mp q))).1) k) ?_
            show F (s₁.setTop (mkF m 73 #[.val (.long q0), .second, .val (.long q1), .second, .val (.long q2), .second, .val (.long q3), .second, .val (.int p4), .val (.long (q1 &&& (9223372036854775807 : Int64))), .second, .val (.long (q0 &&& (9223372036854775807 : Int64))), .second, .val (.int (p4 &&& (3 : Int32))), .val (.long (q0 &&& (9223372036854775807 : Int64))), .second, .unset, .unset, .unset] []))
            refine bk (fun t k => XS.lload X0.here hx rfl (hb hby at_73) rfl k) ?_
            show F (s₁.setTop (mkF m 75 #[.val (.long q0), .second, .val (.long q1), .second, .val (.long q2), .second, .val (.long q3), .second, .val (.int p4), .val (.long (q1 &&& (9223372036854775807 : Int64))), .second, .val (.long (q0 &&& (9223372036854775807 : Int64))), .second, .val (.int (p4 &&& (3 : Int32))), .val (.long (q0 &&& (9223372036854775807 : Int64))), .second, .unset, .unset, .unset] [(.long (q1 &&& (9223372036854775807 : Int64)))]))
            refine bk (fun t k => XS.lconst X0.here hx rfl (hb hby at_75) k) ?_
            show F (s₁.setTop (mkF m 76 #[.val (.long q0), .second, .val (.long q1), .second, .val (.long q2), .second, .val (.long q3), .second, .val (.int p4), .val (.long (q1 &&& (9223372036854775807 : Int64))), .second, .val (.long (q0 &&& (9223372036854775807 : Int64))), .second, .val (.int (p4 &&& (3 : Int32))), .val (.long (q0 &&& (9223372036854775807 : Int64))), .second, .unset, .unset, .unset] [(.long (1 : Int64)), (.long (q1 &&& (9223372036854775807 : Int64)))]))
            refine bk (fun t k => XS.lsub X0.here hx rfl (hb hby at_76) rfl k) ?_
            show F (s₁.setTop (mkF m 77 #[.val (.long q0), .second, .val (.long q1), .second, .val (.long q2), .second, .val (.long q3), .second, .val (.int p4), .val (.long (q1 &&& (9223372036854775807 : Int64))), .second, .val (.long (q0 &&& (9223372036854775807 : Int64))), .second, .val (.int (p4 &&& (3 : Int32))), .val (.long (q0 &&& (9223372036854775807 : Int64))), .second, .unset, .unset, .unset] [(.long ((q1 &&& (9223372036854775807 : Int64)) - (1 : Int64)))]))
            refine bk (fun t k => XS.lstore X0.here hx rfl (hb hby at_77) rfl (l' := #[.val (.long q0), .second, .val (.long q1), .second, .val (.long q2), .second, .val (.long q3), .second, .val (.int p4), .val (.long (q1 &&& (9223372036854775807 : Int64))), .second, .val (.long (q0 &&& (9223372036854775807 : Int64))), .second, .val (.int (p4 &&& (3 : Int32))), .val (.long ((q1 &&& (9223372036854775807 : Int64)) - (1 : Int64))), .second, .unset, .unset, .unset]) rfl k) ?_
            show F (s₁.setTop (mkF m 79 #[.val (.long q0), .second, .val (.long q1), .second, .val (.long q2), .second, .val (.long q3), .second, .val (.int p4), .val (.long (q1 &&& (9223372036854775807 : Int64))), .second, .val (.long (q0 &&& (9223372036854775807 : Int64))), .second, .val (.int (p4 &&& (3 : Int32))), .val (.long ((q1 &&& (9223372036854775807 : Int64)) - (1 : Int64))), .second, .unset, .unset, .unset] []))
            exact J79 _ (own_downnn (own_mask q1) hc70_16)
        · refine bk (fun t k => XS.icmpYes X0.here hx rfl (pc0 := 63) (pc' := 79) rfl (hb hby at_63) rfl (feq hc63_15).2 (by decide) (by decide) k) ?_
          show F (s₁.setTop (mkF m 79 #[.val (.long q0), .second, .val (.long q1), .second, .val (.long q2), .second, .val (.long q3), .second, .val (.int p4), .val (.long (q1 &&& (9223372036854775807 : Int64))), .second, .val (.long (q0 &&& (9223372036854775807 : Int64))), .second, .val (.int (p4 &&& (3 : Int32))), .val (.long (q0 &&& (9223372036854775807 : Int64))), .second, .unset, .unset, .unset] []))
          exact J79 _ (own_mask q0)
    · refine bk (fun t k => XS.ifNo X0.here hx rfl (hb hby at_35) rfl ((if0 _ _).trans (feq (fun q => hc35_13 ((lw_eq _ _).mp q))).1) k) ?_
      show F (s₁.setTop (mkF m 38 #[.val (.long q0), .second, .val (.long q1), .second, .val (.long q2), .second, .val (.long q3), .second, .val (.int p4), .val (.long (q1 &&& (9223372036854775807 : Int64))), .second, .val (.long (q0 &&& (9223372036854775807 : Int64))), .second, .val (.int (p4 &&& (3 : Int32))), .val (.long (q0 &&& (9223372036854775807 : Int64))), .second, .unset, .unset, .unset] []))
      refine bk (fun t k => XS.lload X0.here hx rfl (hb hby at_38) rfl k) ?_
      show F (s₁.setTop (mkF m 40 #[.val (.long q0), .second, .val (.long q1), .second, .val (.long q2), .second, .val (.long q3), .second, .val (.int p4), .val (.long (q1 &&& (9223372036854775807 : Int64))), .second, .val (.long (q0 &&& (9223372036854775807 : Int64))), .second, .val (.int (p4 &&& (3 : Int32))), .val (.long (q0 &&& (9223372036854775807 : Int64))), .second, .unset, .unset, .unset] [(.long (q1 &&& (9223372036854775807 : Int64)))]))
      refine bk (fun t k => XS.lconst X0.here hx rfl (hb hby at_40) k) ?_
      show F (s₁.setTop (mkF m 41 #[.val (.long q0), .second, .val (.long q1), .second, .val (.long q2), .second, .val (.long q3), .second, .val (.int p4), .val (.long (q1 &&& (9223372036854775807 : Int64))), .second, .val (.long (q0 &&& (9223372036854775807 : Int64))), .second, .val (.int (p4 &&& (3 : Int32))), .val (.long (q0 &&& (9223372036854775807 : Int64))), .second, .unset, .unset, .unset] [(.long (1 : Int64)), (.long (q1 &&& (9223372036854775807 : Int64)))]))
      refine bk (fun t k => XS.ladd X0.here hx rfl (hb hby at_41) rfl k) ?_
      show F (s₁.setTop (mkF m 42 #[.val (.long q0), .second, .val (.long q1), .second, .val (.long q2), .second, .val (.long q3), .second, .val (.int p4), .val (.long (q1 &&& (9223372036854775807 : Int64))), .second, .val (.long (q0 &&& (9223372036854775807 : Int64))), .second, .val (.int (p4 &&& (3 : Int32))), .val (.long (q0 &&& (9223372036854775807 : Int64))), .second, .unset, .unset, .unset] [(.long ((q1 &&& (9223372036854775807 : Int64)) + (1 : Int64)))]))
      refine bk (fun t k => XS.lstore X0.here hx rfl (hb hby at_42) rfl (l' := #[.val (.long q0), .second, .val (.long q1), .second, .val (.long q2), .second, .val (.long q3), .second, .val (.int p4), .val (.long (q1 &&& (9223372036854775807 : Int64))), .second, .val (.long (q0 &&& (9223372036854775807 : Int64))), .second, .val (.int (p4 &&& (3 : Int32))), .val (.long ((q1 &&& (9223372036854775807 : Int64)) + (1 : Int64))), .second, .unset, .unset, .unset]) rfl k) ?_
      show F (s₁.setTop (mkF m 44 #[.val (.long q0), .second, .val (.long q1), .second, .val (.long q2), .second, .val (.long q3), .second, .val (.int p4), .val (.long (q1 &&& (9223372036854775807 : Int64))), .second, .val (.long (q0 &&& (9223372036854775807 : Int64))), .second, .val (.int (p4 &&& (3 : Int32))), .val (.long ((q1 &&& (9223372036854775807 : Int64)) + (1 : Int64))), .second, .unset, .unset, .unset] []))
      refine bk (fun t k => XS.goto X0.here hx rfl (pc0 := 44) (pc' := 79) rfl (hb hby at_44) (by decide) (by decide) k) ?_
      show F (s₁.setTop (mkF m 79 #[.val (.long q0), .second, .val (.long q1), .second, .val (.long q2), .second, .val (.long q3), .second, .val (.int p4), .val (.long (q1 &&& (9223372036854775807 : Int64))), .second, .val (.long (q0 &&& (9223372036854775807 : Int64))), .second, .val (.int (p4 &&& (3 : Int32))), .val (.long ((q1 &&& (9223372036854775807 : Int64)) + (1 : Int64))), .second, .unset, .unset, .unset] []))
      exact J79 _ (own_upnn (own_mask q1) hc35_13)
  · refine bk (fun t k => XS.ifYes X0.here hx rfl (pc0 := 26) (pc' := 47) rfl (hb hby at_26) rfl ((if0 _ _).trans (feq hc26_12).2) (by decide) (by decide) k) ?_
    show F (s₁.setTop (mkF m 47 #[.val (.long q0), .second, .val (.long q1), .second, .val (.long q2), .second, .val (.long q3), .second, .val (.int p4), .val (.long (q1 &&& (9223372036854775807 : Int64))), .second, .val (.long (q0 &&& (9223372036854775807 : Int64))), .second, .val (.int (p4 &&& (3 : Int32))), .val (.long (q0 &&& (9223372036854775807 : Int64))), .second, .unset, .unset, .unset] []))
    refine bk (fun t k => XS.iload X0.here hx rfl (hb hby at_47) rfl k) ?_
    show F (s₁.setTop (mkF m 49 #[.val (.long q0), .second, .val (.long q1), .second, .val (.long q2), .second, .val (.long q3), .second, .val (.int p4), .val (.long (q1 &&& (9223372036854775807 : Int64))), .second, .val (.long (q0 &&& (9223372036854775807 : Int64))), .second, .val (.int (p4 &&& (3 : Int32))), .val (.long (q0 &&& (9223372036854775807 : Int64))), .second, .unset, .unset, .unset] [(.int (p4 &&& (3 : Int32)))]))
    refine bk (fun t k => XS.iconst X0.here hx rfl (hb hby at_49) k) ?_
    show F (s₁.setTop (mkF m 50 #[.val (.long q0), .second, .val (.long q1), .second, .val (.long q2), .second, .val (.long q3), .second, .val (.int p4), .val (.long (q1 &&& (9223372036854775807 : Int64))), .second, .val (.long (q0 &&& (9223372036854775807 : Int64))), .second, .val (.int (p4 &&& (3 : Int32))), .val (.long (q0 &&& (9223372036854775807 : Int64))), .second, .unset, .unset, .unset] [(.int (1 : Int32)), (.int (p4 &&& (3 : Int32)))]))
    by_cases hc50_17 : (p4 &&& (3 : Int32)) = (1 : Int32)
    · refine bk (fun t k => XS.icmpNo X0.here hx rfl (hb hby at_50) rfl (teq hc50_17).2 k) ?_
      show F (s₁.setTop (mkF m 53 #[.val (.long q0), .second, .val (.long q1), .second, .val (.long q2), .second, .val (.long q3), .second, .val (.int p4), .val (.long (q1 &&& (9223372036854775807 : Int64))), .second, .val (.long (q0 &&& (9223372036854775807 : Int64))), .second, .val (.int (p4 &&& (3 : Int32))), .val (.long (q0 &&& (9223372036854775807 : Int64))), .second, .unset, .unset, .unset] []))
      refine bk (fun t k => XS.lload X0.here hx rfl (hb hby at_53) rfl k) ?_
      show F (s₁.setTop (mkF m 55 #[.val (.long q0), .second, .val (.long q1), .second, .val (.long q2), .second, .val (.long q3), .second, .val (.int p4), .val (.long (q1 &&& (9223372036854775807 : Int64))), .second, .val (.long (q0 &&& (9223372036854775807 : Int64))), .second, .val (.int (p4 &&& (3 : Int32))), .val (.long (q0 &&& (9223372036854775807 : Int64))), .second, .unset, .unset, .unset] [(.long (q1 &&& (9223372036854775807 : Int64)))]))
      refine bk (fun t k => XS.lstore X0.here hx rfl (hb hby at_55) rfl (l' := #[.val (.long q0), .second, .val (.long q1), .second, .val (.long q2), .second, .val (.long q3), .second, .val (.int p4), .val (.long (q1 &&& (9223372036854775807 : Int64))), .second, .val (.long (q0 &&& (9223372036854775807 : Int64))), .second, .val (.int (p4 &&& (3 : Int32))), .val (.long (q1 &&& (9223372036854775807 : Int64))), .second, .unset, .unset, .unset]) rfl k) ?_
      show F (s₁.setTop (mkF m 57 #[.val (.long q0), .second, .val (.long q1), .second, .val (.long q2), .second, .val (.long q3), .second, .val (.int p4), .val (.long (q1 &&& (9223372036854775807 : Int64))), .second, .val (.long (q0 &&& (9223372036854775807 : Int64))), .second, .val (.int (p4 &&& (3 : Int32))), .val (.long (q1 &&& (9223372036854775807 : Int64))), .second, .unset, .unset, .unset] []))
      refine bk (fun t k => XS.goto X0.here hx rfl (pc0 := 57) (pc' := 79) rfl (hb hby at_57) (by decide) (by decide) k) ?_
      show F (s₁.setTop (mkF m 79 #[.val (.long q0), .second, .val (.long q1), .second, .val (.long q2), .second, .val (.long q3), .second, .val (.int p4), .val (.long (q1 &&& (9223372036854775807 : Int64))), .second, .val (.long (q0 &&& (9223372036854775807 : Int64))), .second, .val (.int (p4 &&& (3 : Int32))), .val (.long (q1 &&& (9223372036854775807 : Int64))), .second, .unset, .unset, .unset] []))
      exact J79 _ (own_mask q1)
    · refine bk (fun t k => XS.icmpYes X0.here hx rfl (pc0 := 50) (pc' := 60) rfl (hb hby at_50) rfl (feq hc50_17).2 (by decide) (by decide) k) ?_
      show F (s₁.setTop (mkF m 60 #[.val (.long q0), .second, .val (.long q1), .second, .val (.long q2), .second, .val (.long q3), .second, .val (.int p4), .val (.long (q1 &&& (9223372036854775807 : Int64))), .second, .val (.long (q0 &&& (9223372036854775807 : Int64))), .second, .val (.int (p4 &&& (3 : Int32))), .val (.long (q0 &&& (9223372036854775807 : Int64))), .second, .unset, .unset, .unset] []))
      refine bk (fun t k => XS.iload X0.here hx rfl (hb hby at_60) rfl k) ?_
      show F (s₁.setTop (mkF m 62 #[.val (.long q0), .second, .val (.long q1), .second, .val (.long q2), .second, .val (.long q3), .second, .val (.int p4), .val (.long (q1 &&& (9223372036854775807 : Int64))), .second, .val (.long (q0 &&& (9223372036854775807 : Int64))), .second, .val (.int (p4 &&& (3 : Int32))), .val (.long (q0 &&& (9223372036854775807 : Int64))), .second, .unset, .unset, .unset] [(.int (p4 &&& (3 : Int32)))]))
      refine bk (fun t k => XS.iconst X0.here hx rfl (hb hby at_62) k) ?_
      show F (s₁.setTop (mkF m 63 #[.val (.long q0), .second, .val (.long q1), .second, .val (.long q2), .second, .val (.long q3), .second, .val (.int p4), .val (.long (q1 &&& (9223372036854775807 : Int64))), .second, .val (.long (q0 &&& (9223372036854775807 : Int64))), .second, .val (.int (p4 &&& (3 : Int32))), .val (.long (q0 &&& (9223372036854775807 : Int64))), .second, .unset, .unset, .unset] [(.int (2 : Int32)), (.int (p4 &&& (3 : Int32)))]))
      by_cases hc63_18 : (p4 &&& (3 : Int32)) = (2 : Int32)
      · refine bk (fun t k => XS.icmpNo X0.here hx rfl (hb hby at_63) rfl (teq hc63_18).2 k) ?_
        show F (s₁.setTop (mkF m 66 #[.val (.long q0), .second, .val (.long q1), .second, .val (.long q2), .second, .val (.long q3), .second, .val (.int p4), .val (.long (q1 &&& (9223372036854775807 : Int64))), .second, .val (.long (q0 &&& (9223372036854775807 : Int64))), .second, .val (.int (p4 &&& (3 : Int32))), .val (.long (q0 &&& (9223372036854775807 : Int64))), .second, .unset, .unset, .unset] []))
        refine bk (fun t k => XS.lload X0.here hx rfl (hb hby at_66) rfl k) ?_
        show F (s₁.setTop (mkF m 68 #[.val (.long q0), .second, .val (.long q1), .second, .val (.long q2), .second, .val (.long q3), .second, .val (.int p4), .val (.long (q1 &&& (9223372036854775807 : Int64))), .second, .val (.long (q0 &&& (9223372036854775807 : Int64))), .second, .val (.int (p4 &&& (3 : Int32))), .val (.long (q0 &&& (9223372036854775807 : Int64))), .second, .unset, .unset, .unset] [(.long (q1 &&& (9223372036854775807 : Int64)))]))
        refine bk (fun t k => XS.lconst X0.here hx rfl (hb hby at_68) k) ?_
        show F (s₁.setTop (mkF m 69 #[.val (.long q0), .second, .val (.long q1), .second, .val (.long q2), .second, .val (.long q3), .second, .val (.int p4), .val (.long (q1 &&& (9223372036854775807 : Int64))), .second, .val (.long (q0 &&& (9223372036854775807 : Int64))), .second, .val (.int (p4 &&& (3 : Int32))), .val (.long (q0 &&& (9223372036854775807 : Int64))), .second, .unset, .unset, .unset] [(.long (0 : Int64)), (.long (q1 &&& (9223372036854775807 : Int64)))]))
        refine bk (fun t k => XS.lcmp X0.here hx rfl (hb hby at_69) rfl k) ?_
        show F (s₁.setTop (mkF m 70 #[.val (.long q0), .second, .val (.long q1), .second, .val (.long q2), .second, .val (.long q3), .second, .val (.int p4), .val (.long (q1 &&& (9223372036854775807 : Int64))), .second, .val (.long (q0 &&& (9223372036854775807 : Int64))), .second, .val (.int (p4 &&& (3 : Int32))), .val (.long (q0 &&& (9223372036854775807 : Int64))), .second, .unset, .unset, .unset] [(.int (lcmpW (q1 &&& (9223372036854775807 : Int64)) (0 : Int64)))]))
        by_cases hc70_19 : (q1 &&& (9223372036854775807 : Int64)) = (0 : Int64)
        · refine bk (fun t k => XS.ifYes X0.here hx rfl (pc0 := 70) (pc' := 79) rfl (hb hby at_70) rfl ((if0 _ _).trans (teq ((lw_eq _ _).mpr hc70_19)).1) (by decide) (by decide) k) ?_
          show F (s₁.setTop (mkF m 79 #[.val (.long q0), .second, .val (.long q1), .second, .val (.long q2), .second, .val (.long q3), .second, .val (.int p4), .val (.long (q1 &&& (9223372036854775807 : Int64))), .second, .val (.long (q0 &&& (9223372036854775807 : Int64))), .second, .val (.int (p4 &&& (3 : Int32))), .val (.long (q0 &&& (9223372036854775807 : Int64))), .second, .unset, .unset, .unset] []))
          exact J79 _ (own_mask q0)
        · refine bk (fun t k => XS.ifNo X0.here hx rfl (hb hby at_70) rfl ((if0 _ _).trans (feq (fun q => hc70_19 ((lw_eq _ _).mp q))).1) k) ?_
          show F (s₁.setTop (mkF m 73 #[.val (.long q0), .second, .val (.long q1), .second, .val (.long q2), .second, .val (.long q3), .second, .val (.int p4), .val (.long (q1 &&& (9223372036854775807 : Int64))), .second, .val (.long (q0 &&& (9223372036854775807 : Int64))), .second, .val (.int (p4 &&& (3 : Int32))), .val (.long (q0 &&& (9223372036854775807 : Int64))), .second, .unset, .unset, .unset] []))
          refine bk (fun t k => XS.lload X0.here hx rfl (hb hby at_73) rfl k) ?_
          show F (s₁.setTop (mkF m 75 #[.val (.long q0), .second, .val (.long q1), .second, .val (.long q2), .second, .val (.long q3), .second, .val (.int p4), .val (.long (q1 &&& (9223372036854775807 : Int64))), .second, .val (.long (q0 &&& (9223372036854775807 : Int64))), .second, .val (.int (p4 &&& (3 : Int32))), .val (.long (q0 &&& (9223372036854775807 : Int64))), .second, .unset, .unset, .unset] [(.long (q1 &&& (9223372036854775807 : Int64)))]))
          refine bk (fun t k => XS.lconst X0.here hx rfl (hb hby at_75) k) ?_
          show F (s₁.setTop (mkF m 76 #[.val (.long q0), .second, .val (.long q1), .second, .val (.long q2), .second, .val (.long q3), .second, .val (.int p4), .val (.long (q1 &&& (9223372036854775807 : Int64))), .second, .val (.long (q0 &&& (9223372036854775807 : Int64))), .second, .val (.int (p4 &&& (3 : Int32))), .val (.long (q0 &&& (9223372036854775807 : Int64))), .second, .unset, .unset, .unset] [(.long (1 : Int64)), (.long (q1 &&& (9223372036854775807 : Int64)))]))
          refine bk (fun t k => XS.lsub X0.here hx rfl (hb hby at_76) rfl k) ?_
          show F (s₁.setTop (mkF m 77 #[.val (.long q0), .second, .val (.long q1), .second, .val (.long q2), .second, .val (.long q3), .second, .val (.int p4), .val (.long (q1 &&& (9223372036854775807 : Int64))), .second, .val (.long (q0 &&& (9223372036854775807 : Int64))), .second, .val (.int (p4 &&& (3 : Int32))), .val (.long (q0 &&& (9223372036854775807 : Int64))), .second, .unset, .unset, .unset] [(.long ((q1 &&& (9223372036854775807 : Int64)) - (1 : Int64)))]))
          refine bk (fun t k => XS.lstore X0.here hx rfl (hb hby at_77) rfl (l' := #[.val (.long q0), .second, .val (.long q1), .second, .val (.long q2), .second, .val (.long q3), .second, .val (.int p4), .val (.long (q1 &&& (9223372036854775807 : Int64))), .second, .val (.long (q0 &&& (9223372036854775807 : Int64))), .second, .val (.int (p4 &&& (3 : Int32))), .val (.long ((q1 &&& (9223372036854775807 : Int64)) - (1 : Int64))), .second, .unset, .unset, .unset]) rfl k) ?_
          show F (s₁.setTop (mkF m 79 #[.val (.long q0), .second, .val (.long q1), .second, .val (.long q2), .second, .val (.long q3), .second, .val (.int p4), .val (.long (q1 &&& (9223372036854775807 : Int64))), .second, .val (.long (q0 &&& (9223372036854775807 : Int64))), .second, .val (.int (p4 &&& (3 : Int32))), .val (.long ((q1 &&& (9223372036854775807 : Int64)) - (1 : Int64))), .second, .unset, .unset, .unset] []))
          exact J79 _ (own_downnn (own_mask q1) hc70_19)
      · refine bk (fun t k => XS.icmpYes X0.here hx rfl (pc0 := 63) (pc' := 79) rfl (hb hby at_63) rfl (feq hc63_18).2 (by decide) (by decide) k) ?_
        show F (s₁.setTop (mkF m 79 #[.val (.long q0), .second, .val (.long q1), .second, .val (.long q2), .second, .val (.long q3), .second, .val (.int p4), .val (.long (q1 &&& (9223372036854775807 : Int64))), .second, .val (.long (q0 &&& (9223372036854775807 : Int64))), .second, .val (.int (p4 &&& (3 : Int32))), .val (.long (q0 &&& (9223372036854775807 : Int64))), .second, .unset, .unset, .unset] []))
        exact J79 _ (own_mask q0)
set_option maxRecDepth 65536 in
set_option maxHeartbeats 40000000 in
theorem comes_1 {Post : Tables → Env → Array Value → State → Outcome → State → Prop} (hpost : ∀ tb e args s v u, (limb_1_1.after args s (.returned v) u = true ∧ limb_1_2.after args s (.returned v) u = true ∧ True) → FrameEnd s (.returned v) u (Jvm.fieldLocs frame_1_writes args s ++ Jvm.arrayLocs frame_1_arrays args s ++ Jvm.staticLocs frame_1_statics s) 0 0 → Post tb e args s (.returned v) u) :
    ArmFor flags0 classFile x code maxLocals ret World_1 tables_1 room_1 Calls_1 rest_1 Pre_1 Post := by
  intro l hfl _ _ p e ha hc hk s m args below hf hA hF happ hP
  obtain ⟨hcalls, hrest, hpre⟩ := hP
  obtain ⟨-, -, -, hnamed, -, -, -, hat⟩ := (Spec.applies_iff hf).mp happ
  obtain ⟨hg, hn⟩ := and_e (Cond.before_iff.mp (show (Jvm.Cond.and given_1 narrow_1).before args s = true from hpre))
  obtain ⟨hcount, hk0⟩ := and_e hg
  obtain ⟨hi0, hk1⟩ := and_e hk0
  obtain ⟨hi1, hk2⟩ := and_e hk1
  obtain ⟨hi2, hk3⟩ := and_e hk2
  obtain ⟨hi3, hk4⟩ := and_e hk3
  have hi4 := hk4
  obtain ⟨w0, w1, w2, w3, w4, rfl⟩ : ∃ w0 w1 w2 w3 w4 : Value, args = #[w0, w1, w2, w3, w4] := by
    have hs : args.size = 5 := by simpa [Cond.value, given_1] using hcount
    obtain ⟨L⟩ := args
    match L, hs with
    | [w0, w1, w2, w3, w4], _ => exact ⟨w0, w1, w2, w3, w4, rfl⟩
  have hw := fun d (hd : d ∈ tables_1) => atoms_spec (ws := Jvm.Cond.code x code maxLocals ret :: tables_1) hat d (List.mem_cons_of_mem _ hd)
  obtain ⟨i0, ei0⟩ := isL_v hi0
  obtain rfl : w0 = (.long i0) := Option.some.inj ei0
  obtain ⟨i1, ei1⟩ := isL_v hi1
  obtain rfl : w1 = (.long i1) := Option.some.inj ei1
  obtain ⟨i2, ei2⟩ := isL_v hi2
  obtain rfl : w2 = (.long i2) := Option.some.inj ei2
  obtain ⟨i3, ei3⟩ := isL_v hi3
  obtain rfl : w3 = (.long i3) := Option.some.inj ei3
  obtain ⟨i4, ei4⟩ := is_v hi4
  obtain rfl : w4 = (.int i4) := Option.some.inj ei4
  obtain ⟨na1, nb1⟩ := and_e hn
  obtain ⟨na2, nb2⟩ := and_e nb1
  obtain ⟨na3, nb3⟩ := and_e nb2
  obtain ⟨w_UNKNOWN_SESSION, ev_UNKNOWN_SESSION⟩ := exa_v na1
  have S_UNKNOWN_SESSION : Sta s s.heap "com/example/onceward/onceward/log/Sequencing" "UNKNOWN_SESSION" "Lcom/example/onceward/onceward/log/Sequencing;" (.ref w_UNKNOWN_SESSION) := Sta.start ev_UNKNOWN_SESSION (Or.inr ⟨(hw _ (List.mem_of_getElem? (i := 2) rfl)), (hw _ (List.mem_of_getElem? (i := 3) rfl))⟩)
  have E_UNKNOWN_SESSION : Exa s s.heap w_UNKNOWN_SESSION "com/example/onceward/onceward/log/Sequencing" := Exa.start ev_UNKNOWN_SESSION na1
  obtain ⟨w_DUPLICATE, ev_DUPLICATE⟩ := exa_v na2
  have S_DUPLICATE : Sta s s.heap "com/example/onceward/onceward/log/Sequencing" "DUPLICATE" "Lcom/example/onceward/onceward/log/Sequencing;" (.ref w_DUPLICATE) := Sta.start ev_DUPLICATE (Or.inr ⟨(hw _ (List.mem_of_getElem? (i := 2) rfl)), (hw _ (List.mem_of_getElem? (i := 9) rfl))⟩)
  have E_DUPLICATE : Exa s s.heap w_DUPLICATE "com/example/onceward/onceward/log/Sequencing" := Exa.start ev_DUPLICATE na2
  obtain ⟨w_FENCED, ev_FENCED⟩ := exa_v na3
  have S_FENCED : Sta s s.heap "com/example/onceward/onceward/log/Sequencing" "FENCED" "Lcom/example/onceward/onceward/log/Sequencing;" (.ref w_FENCED) := Sta.start ev_FENCED (Or.inr ⟨(hw _ (List.mem_of_getElem? (i := 2) rfl)), (hw _ (List.mem_of_getElem? (i := 12) rfl))⟩)
  have E_FENCED : Exa s s.heap w_FENCED "com/example/onceward/onceward/log/Sequencing" := Exa.start ev_FENCED na3
  obtain ⟨w_NEXT, ev_NEXT⟩ := exa_v nb3
  have S_NEXT : Sta s s.heap "com/example/onceward/onceward/log/Sequencing" "NEXT" "Lcom/example/onceward/onceward/log/Sequencing;" (.ref w_NEXT) := Sta.start ev_NEXT (Or.inr ⟨(hw _ (List.mem_of_getElem? (i := 2) rfl)), (hw _ (List.mem_of_getElem? (i := 15) rfl))⟩)
  have E_NEXT : Exa s s.heap w_NEXT "com/example/onceward/onceward/log/Sequencing" := Exa.start ev_NEXT nb3
  obtain ⟨n, o, h1, h2, h3, _, L, rfl, ⟨rfl, N⟩, hq⟩ := rm0 l s _ hw tables_1 i0 i1 i2 i3 i4 w_NEXT w_UNKNOWN_SESSION w_DUPLICATE w_FENCED s.heap s.heap.size (Nat.le_refl _) S_NEXT S_UNKNOWN_SESSION S_DUPLICATE S_FENCED p e ha hc hk s m _ below hf ((Spec.applies_iff_loose hf).mp happ).1 ⟨rfl, State.Warmed39.refl s, rfl⟩ trivial
  refine ⟨n, _, h1, h2, h3, hpost _ _ _ _ _ _ ⟨Cond.after_iff.mpr rfl, Cond.after_iff.mpr (eq_i res_at (Term.int_eval (1)) rfl), trivial⟩ ⟨hq.1, hq.2.1, (hq.2.2.sift fun y hy => Or.inr (N y hy)).mono (by decide) (by decide)⟩⟩
theorem main_1_1 : Claimed_1_1 := comes_1 fun _ _ _ _ _ _ h hF => ⟨h.1, hF⟩
theorem main_1_2 : Claimed_1_2 := comes_1 fun _ _ _ _ _ _ h hF => ⟨h.2.1, hF⟩
end Jvm.Pilot.@@N@@
namespace Jvm.Pilot.@@N@@
open Jvm Jvm.ClassFile Sem Op Lib Jvm.Free Jvm.Stand Jvm.Pilot.@@N@@.Jvm.D
/-! MADE BY PROGRAM (witnessworld.py) out of the Statement's table words and the real class files: 12 classes; the members and pool entries that the words name. The judged class is class 1, her method 1. -/
namespace start1
open Jvm.ClassFile
def u (s : String) : CpInfo := .utf8 (stringToUtf16 s)
/-- a pool by its gaps: so many unusable entries, then the entry; so many at the end -/
def gap : Nat → List CpInfo → List CpInfo
  | 0, r => r
  | n + 1, r => .unusable :: gap n r
def poolList (es : List (Nat × CpInfo)) (last : Nat) : List CpInfo := es.foldr (fun e r => gap e.1 (e.2 :: r)) (gap last [])
def pool (es : List (Nat × CpInfo)) (last : Nat) : Array CpInfo := ⟨poolList es last⟩
def fileOf (pool : Array CpInfo) (this : Nat) (attrs : Array Attribute := #[]) (ms : Array MethodInfo := #[]) (fl : Nat := 33) (sup : Nat := 0) (ifs : Array Nat := #[]) (fds : Array FieldInfo := #[]) : ClassFile where
  minorVersion := 0
  majorVersion := 65
  constantPool := pool
  accessFlags := fl
  thisClass := this
  superClass := sup
  interfaces := ifs
  fields := fds
  methods := ms
  attributes := attrs
def plain (name : String) (sup : Option ClassId) : Class where
  name := name
  kind := .ordinary
  loader := none
  accessFlags := 33
  super := sup
  interfaces := #[]
  cf := none
  fields := #[]
  methods := #[]
  instanceTypes := #[]
  staticTypes := #[]
  resolved := #[]
  callSites := []
  init := .initialized
  statics := none
  mirror := none

def pool0 : Array CpInfo := pool [(5, u "<init>"), (0, u "()V"), (1, .class_ 10), (1, u "java/lang/Object")] 113

def k0m0 : Method := { name := "<init>", desc := "()V", sig := { parameters := [], returnType := none }, accessFlags := 1, code := none }
/-- java/lang/Object -/
def k0 : Class := { plain "java/lang/Object" none with
  accessFlags := 33
  interfaces := #[]
  cf := some (fileOf pool0 8 #[] #[{ accessFlags := 1, nameIndex := 5, descriptorIndex := 6, attributes := #[] }] 33 0 #[] #[])
  fields := #[]
  methods := #[k0m0]
  instanceTypes := #[]
  staticTypes := #[]
  resolved := Array.replicate 124 none
  statics := none }

def pool1 : Array CpInfo := pool [(2, .class_ 4), (1, u "java/lang/Object"), (0, u "<init>"), (0, u "()V"), (2, .long 9223372036854775807), (1, .fieldref 12 13), (0, .class_ 14), (0, .nameAndType 15 16), (0, u "com/example/onceward/onceward/log/Sequencing"), (0, u "NEXT"), (0, u "Lcom/example/onceward/onceward/log/Sequencing;"), (0, .fieldref 12 18), (0, .nameAndType 19 16), (0, u "UNKNOWN_SESSION"), (0, .fieldref 12 21), (0, .nameAndType 22 16), (0, u "FENCED"), (0, .fieldref 12 24), (0, .nameAndType 25 16), (0, u "DUPLICATE"), (0, .methodref 12 27), (0, .nameAndType 28 29), (0, u "ofSession"), (0, u "(JJJJ)Lcom/example/onceward/onceward/log/Sequencing;"), (0, .class_ 31), (0, u "com/example/onceward/onceward/log/SequencingOfSessionPinLaw"), (2, u "law"), (0, u "(JJJJI)Z")] 3

def k1m0 : Method := { name := "<init>", desc := "()V", sig := { parameters := [], returnType := none }, accessFlags := 1, code := none }
def k1c1 : Code := { maxStack := 8, maxLocals := 19, code := code, exceptionTable := #[], attributes := #[] }
def k1m1 : Method := { name := "law", desc := "(JJJJI)Z", sig := { parameters := [.long, .long, .long, .long, .int], returnType := some .boolean }, accessFlags := 9, code := some k1c1 }
/-- com/example/onceward/onceward/log/SequencingOfSessionPinLaw -/
def k1 : Class := { plain "com/example/onceward/onceward/log/SequencingOfSessionPinLaw" (some 0) with
  accessFlags := 49
  interfaces := #[]
  cf := some (fileOf pool1 30 #[] #[{ accessFlags := 1, nameIndex := 5, descriptorIndex := 6, attributes := #[] }, { accessFlags := 9, nameIndex := 34, descriptorIndex := 35, attributes := #[] }] 49 2 #[] #[])
  fields := #[]
  methods := #[k1m0, k1m1]
  instanceTypes := #[]
  staticTypes := #[]
  resolved := Array.replicate 39 none
  statics := none }

def pool2 : Array CpInfo := pool [(1, .class_ 2), (0, u "java/lang/constant/Constable"), (0, .class_ 4), (0, u "java/lang/Object")] 6

/-- java/lang/constant/Constable -/
def k2 : Class := { plain "java/lang/constant/Constable" (some 0) with
  accessFlags := 1537
  interfaces := #[]
  cf := some (fileOf pool2 1 #[] #[] 1537 3 #[] #[])
  fields := #[]
  methods := #[]
  instanceTypes := #[]
  staticTypes := #[]
  resolved := Array.replicate 11 none
  statics := none }

def pool3 : Array CpInfo := pool [(1, .class_ 2), (0, u "java/lang/Comparable"), (0, .class_ 4), (0, u "java/lang/Object")] 7

/-- java/lang/Comparable -/
def k3 : Class := { plain "java/lang/Comparable" (some 0) with
  accessFlags := 1537
  interfaces := #[]
  cf := some (fileOf pool3 1 #[] #[] 1537 3 #[] #[])
  fields := #[]
  methods := #[]
  instanceTypes := #[]
  staticTypes := #[]
  resolved := Array.replicate 12 none
  statics := none }

def pool4 : Array CpInfo := pool [(1, .class_ 2), (0, u "java/io/Serializable"), (0, .class_ 4), (0, u "java/lang/Object")] 2

/-- java/io/Serializable -/
def k4 : Class := { plain "java/io/Serializable" (some 0) with
  accessFlags := 1537
  interfaces := #[]
  cf := some (fileOf pool4 1 #[] #[] 1537 3 #[] #[])
  fields := #[]
  methods := #[]
  instanceTypes := #[]
  staticTypes := #[]
  resolved := Array.replicate 7 none
  statics := none }

def pool5 : Array CpInfo := pool [(2, .class_ 4), (1, u "java/lang/Enum"), (0, u "name"), (0, u "Ljava/lang/String;"), (2, u "ordinal"), (0, u "I"), (1, .class_ 14), (1, u "java/lang/Object"), (4, u "hash"), (86, .class_ 108), (1, u "java/lang/Enum$EnumDesc"), (2, .class_ 112), (0, u "java/lang/constant/Constable"), (0, .class_ 114), (0, u "java/lang/Comparable"), (0, .class_ 116), (0, u "java/io/Serializable")] 87

/-- java/lang/Enum -/
def k5 : Class := { plain "java/lang/Enum" (some 0) with
  accessFlags := 1057
  interfaces := #[2, 3, 4]
  cf := some (fileOf pool5 2 #[.nestMembers #[106]] #[] 1057 12 #[111, 113, 115] #[{ accessFlags := 18, nameIndex := 5, descriptorIndex := 6, attributes := #[] }, { accessFlags := 18, nameIndex := 9, descriptorIndex := 10, attributes := #[] }, { accessFlags := 2, nameIndex := 19, descriptorIndex := 10, attributes := #[] }])
  fields := #[{ name := "name", type := (.object "java/lang/String"), accessFlags := 18, slot := 0, constantValue := 0 }, { name := "ordinal", type := .int, accessFlags := 18, slot := 1, constantValue := 0 }, { name := "hash", type := .int, accessFlags := 2, slot := 2, constantValue := 0 }]
  methods := #[]
  instanceTypes := #[(.object "java/lang/String"), .int, .int]
  staticTypes := #[]
  resolved := Array.replicate 204 none
  statics := none }

def pool6 : Array CpInfo := pool [(1, .class_ 2), (0, u "com/example/onceward/onceward/log/Sequencing"), (0, .fieldref 1 4), (0, .nameAndType 5 6), (0, u "NEXT"), (0, u "Lcom/example/onceward/onceward/log/Sequencing;"), (0, .fieldref 1 8), (0, .nameAndType 9 6), (0, u "DUPLICATE"), (2, u "GAP"), (0, .fieldref 1 14), (0, .nameAndType 15 6), (0, u "FENCED"), (0, .fieldref 1 17), (0, .nameAndType 18 6), (0, u "UNKNOWN_SESSION"), (2, u "$VALUES"), (0, u "[Lcom/example/onceward/onceward/log/Sequencing;"), (6, .class_ 31), (1, u "java/lang/Enum"), (26, u "ofSession"), (0, u "(JJJJ)Lcom/example/onceward/onceward/log/Sequencing;")] 4

def k6c0 : Code := { maxStack := 6, maxLocals := 9, code := prog_70_method_5_code, exceptionTable := #[], attributes := #[] }
def k6m0 : Method := { name := "ofSession", desc := "(JJJJ)Lcom/example/onceward/onceward/log/Sequencing;", sig := { parameters := [.long, .long, .long, .long], returnType := some (.object "com/example/onceward/onceward/log/Sequencing") }, accessFlags := 9, code := some k6c0 }
/-- com/example/onceward/onceward/log/Sequencing -/
def k6 : Class := { plain "com/example/onceward/onceward/log/Sequencing" (some 5) with
  accessFlags := 16433
  interfaces := #[]
  cf := some (fileOf pool6 1 #[] #[{ accessFlags := 9, nameIndex := 58, descriptorIndex := 59, attributes := #[] }] 16433 29 #[] #[{ accessFlags := 16409, nameIndex := 5, descriptorIndex := 6, attributes := #[] }, { accessFlags := 16409, nameIndex := 9, descriptorIndex := 6, attributes := #[] }, { accessFlags := 16409, nameIndex := 12, descriptorIndex := 6, attributes := #[] }, { accessFlags := 16409, nameIndex := 15, descriptorIndex := 6, attributes := #[] }, { accessFlags := 16409, nameIndex := 18, descriptorIndex := 6, attributes := #[] }, { accessFlags := 4122, nameIndex := 21, descriptorIndex := 22, attributes := #[] }])
  fields := #[{ name := "NEXT", type := (.object "com/example/onceward/onceward/log/Sequencing"), accessFlags := 16409, slot := 0, constantValue := 0 }, { name := "DUPLICATE", type := (.object "com/example/onceward/onceward/log/Sequencing"), accessFlags := 16409, slot := 1, constantValue := 0 }, { name := "GAP", type := (.object "com/example/onceward/onceward/log/Sequencing"), accessFlags := 16409, slot := 2, constantValue := 0 }, { name := "FENCED", type := (.object "com/example/onceward/onceward/log/Sequencing"), accessFlags := 16409, slot := 3, constantValue := 0 }, { name := "UNKNOWN_SESSION", type := (.object "com/example/onceward/onceward/log/Sequencing"), accessFlags := 16409, slot := 4, constantValue := 0 }, { name := "$VALUES", type := (.array (.object "com/example/onceward/onceward/log/Sequencing")), accessFlags := 4122, slot := 5, constantValue := 0 }]
  methods := #[k6m0]
  instanceTypes := #[(.object "java/lang/String"), .int, .int]
  staticTypes := #[(.object "com/example/onceward/onceward/log/Sequencing"), (.object "com/example/onceward/onceward/log/Sequencing"), (.object "com/example/onceward/onceward/log/Sequencing"), (.object "com/example/onceward/onceward/log/Sequencing"), (.object "com/example/onceward/onceward/log/Sequencing"), (.array (.object "com/example/onceward/onceward/log/Sequencing"))]
  resolved := Array.replicate 64 none
  statics := some 0 }

def pool7 : Array CpInfo := pool [(1, u "java/lang/Cloneable"), (0, .class_ 1), (0, u "java/lang/Object"), (0, .class_ 3)] 3

/-- java/lang/Cloneable -/
def k7 : Class := { plain "java/lang/Cloneable" (some 0) with
  accessFlags := 1537
  interfaces := #[]
  cf := some (fileOf pool7 2 #[] #[] 1537 4 #[] #[])
  fields := #[]
  methods := #[]
  instanceTypes := #[]
  staticTypes := #[]
  resolved := Array.replicate 8 none
  statics := none }

/-- the primitive byte -/
def k8 : Class := { plain "byte" none with kind := .primitive 'B', accessFlags := 0x411 }
/-- [B -/
def k9 : Class := { plain "[B" (some 0) with kind := .array 8 .byte, interfaces := #[7, 4], accessFlags := 1041 }

/-- the primitive int -/
def k10 : Class := { plain "int" none with kind := .primitive 'I', accessFlags := 0x411 }
/-- [I -/
def k11 : Class := { plain "[I" (some 0) with kind := .array 10 .int, interfaces := #[7, 4], accessFlags := 1041 }

def heap : Heap := #[{ cls := 6, slots := #[.ref 1, .ref 2, .null, .ref 4, .ref 5, .null], vm := .statics 6 },
  { cls := 6, slots := #[.null, .int 0, .int 0], vm := .none },
  { cls := 6, slots := #[.null, .int 1, .int 0], vm := .none },
  { cls := 6, slots := #[.null, .int 2, .int 0], vm := .none },
  { cls := 6, slots := #[.null, .int 3, .int 0], vm := .none },
  { cls := 6, slots := #[.null, .int 4, .int 0], vm := .none }]
def classes : Array Class := #[k0, k1, k2, k3, k4, k5, k6, k7, k8, k9, k10, k11]
def interned : List (Array UInt16 × Addr) := []
def slotsUsed : Nat := 21
def theMethod : MethodId := ⟨1, 1⟩
def args0 : Array Value := #[.long 5, .long 3, .long 1, .long 2, .int 3]
def aboutOver (below : List Frame) : State where
  vm := { classes := classes, interned := interned.toArray }
  heap := heap
  slotsUsed := slotsUsed
  threads := #[{ frames := .invoking theMethod args0 :: below }]
def below0 : List Frame := [.native { method := ⟨0, 0⟩, args := #[] }]
def about1 : State := aboutOver below0
def p0 : Program := .bare "" "" ""
def e0 : Env := launch0.env 0 0 0
theorem w_frames : about1.frames = Frame.invoking theMethod args0 :: below0 := rfl
set_option maxRecDepth 65536 in
theorem w_args : argsFit about1.vm theMethod args0 = true := by decide +kernel
set_option maxRecDepth 65536 in
theorem w_heap : heapFits about1 = true := by decide +kernel
set_option maxRecDepth 65536 in
theorem w_runnable : about1.curStatus? = some .runnable := by decide +kernel
set_option maxRecDepth 65536 in
theorem w_alone : about1.alone = true := by decide +kernel
set_option maxRecDepth 65536 in
theorem w_named : about1.methodNamed? x = some theMethod := by decide +kernel
set_option maxRecDepth 65536 in
theorem w_hears : about1.hears theMethod below0 = true := by decide +kernel
set_option maxRecDepth 65536 in
theorem w_ripe : about1.ripe theMethod args0 below0 = true := by decide +kernel
theorem w_running : about1.status = .running := rfl
set_option maxRecDepth 65536 in
theorem w_room : about1.hasRoom e0.platform room_1 = true :=
  launch0.hasRoom_least _ room_1 (by decide +kernel) (by decide +kernel) (by decide +kernel) (by decide +kernel) (by decide +kernel) (by decide +kernel)
theorem allAtoms_all (ts : List Jvm.Cond) (a : Array Jvm.Value) (st : Jvm.State) : (allAtoms ts).before a st = ts.all (fun c => c.before a st) := by
  induction ts with
  | nil => rfl
  | cons c t ih =>
    show (Jvm.Cond.and c (allAtoms t)).before a st = _
    rw [Jvm.Cond.before_and, ih, List.all_cons]
def words1 : List Jvm.Cond := Jvm.Cond.code x code maxLocals ret :: tables_1
/-- a 'code' word, met by the world's own term for the bytes: nothing is compared byte by byte -/
theorem code_word {y : MethodName} {bytes : ByteArray} {mx : Nat} {rt : Option FieldType} {a : Array Value} {s : State} {m : MethodId} {meth : Method} {c : Code} (h1 : s.methodNamed? y = some m) (h2 : s.vm.method? m = some meth) (h3 : meth.code = some c) (h4 : c.code = bytes)
    (h5 : (c.maxLocals == mx && c.exceptionTable.isEmpty && decide (c.maxStack ≤ mostOperands) && decide (meth.sig.returnType = rt) && !meth.locks && decide (parseMethodDescriptor y.desc = some meth.sig)) = true) : (Jvm.Cond.code y bytes mx rt).before a s = true := by
  simp only [Bool.and_eq_true, beq_iff_eq, Bool.not_eq_true', decide_eq_true_eq] at h5
  obtain ⟨⟨⟨⟨⟨g1, g2⟩, g3⟩, g4⟩, g5⟩, g6⟩ := h5
  simp [Cond.before, Cond.holds, Cond.value, h1, h2, h3, h4, g1, g2, g3, g4, g5, g6]
def isCode : Jvm.Cond → Bool
  | .code _ _ _ _ => true
  | _ => false
theorem all_split {L : List Jvm.Cond} {P : Jvm.Cond → Bool} (h1 : L.all (fun c => isCode c || P c) = true) (h2 : ∀ c ∈ L.filter isCode, P c = true) : L.all P = true := by
  refine List.all_eq_true.mpr fun c hc => ?_
  have h := List.all_eq_true.mp h1 c hc
  rcases Bool.eq_false_or_eq_true (isCode c) with hi | hi
  · exact h2 c (List.mem_filter.mpr ⟨hc, hi⟩)
  · simpa [hi] using h
set_option maxRecDepth 65536 in
theorem w_c0 : (Jvm.Cond.code x code maxLocals ret).before args0 about1 = true := code_word (m := ⟨1, 1⟩) (meth := k1m1) (c := k1c1) (by decide +kernel) rfl rfl rfl (by decide +kernel)
set_option maxRecDepth 65536 in
theorem w_c1 : (Jvm.Cond.code ({ cls := "com/example/onceward/onceward/log/Sequencing", name := "ofSession", desc := "(JJJJ)Lcom/example/onceward/onceward/log/Sequencing;" } : Jvm.MethodName) prog_70_method_5_code (9 : Nat) (Option.some (Jvm.ClassFile.FieldType.object "com/example/onceward/onceward/log/Sequencing"))).before args0 about1 = true := code_word (m := ⟨6, 0⟩) (meth := k6m0) (c := k6c0) (by decide +kernel) rfl rfl rfl (by decide +kernel)
def codes1 : List Jvm.Cond := [Jvm.Cond.code x code maxLocals ret, Jvm.Cond.code ({ cls := "com/example/onceward/onceward/log/Sequencing", name := "ofSession", desc := "(JJJJ)Lcom/example/onceward/onceward/log/Sequencing;" } : Jvm.MethodName) prog_70_method_5_code (9 : Nat) (Option.some (Jvm.ClassFile.FieldType.object "com/example/onceward/onceward/log/Sequencing"))]
set_option maxRecDepth 65536 in
theorem codes_eq : words1.filter isCode = codes1 := rfl
theorem w_codes : ∀ c ∈ words1.filter isCode, c.before args0 about1 = true := by
  rw [codes_eq]
  intro c hc
  simp only [codes1, List.mem_cons, List.not_mem_nil, or_false] at hc
  rcases hc with rfl | rfl
  · exact w_c0
  · exact w_c1
set_option maxRecDepth 65536 in
theorem w_t1 : words1.all (fun c => isCode c || c.before args0 about1) = true := by decide +kernel
theorem w_tables : (allAtoms (Jvm.Cond.code x code maxLocals ret :: tables_1)).before args0 about1 = true := by
  rw [allAtoms_all]
  show words1.all (fun c => c.before args0 about1) = true
  refine all_split ?_ w_codes
  rw [w_t1]
set_option maxRecDepth 65536 in
theorem w_case : (Jvm.Cond.and given_1 narrow_1).before args0 about1 = true := by decide +kernel
theorem w_applies : (headSpec (Jvm.Cond.code x code maxLocals ret :: tables_1) room_1).applies x e0.platform about1 = true :=
  (Spec.applies_iff w_frames).mpr ⟨w_running, w_runnable, w_alone, w_named, w_hears, w_ripe, w_room, w_tables⟩
theorem atStart : AtStart classFile x code maxLocals ret World_1 tables_1 room_1 Calls_1 rest_1 Pre_1 launch0 p0 e0 about1 theMethod args0 below0 :=
  ⟨lists_1, trivial, launch0.admits_env _ _ _, launch0.least_env, fairChoices_fair.cas, fairChoices_fair.clock, w_frames, w_args, w_heap, w_applies, trivial, trivial, w_case⟩
end start1
theorem witness_1 : WitnessClaimed_1 := ⟨start1.p0, start1.e0, start1.about1, start1.theMethod, start1.args0, start1.below0, start1.atStart⟩
end Jvm.Pilot.@@N@@
