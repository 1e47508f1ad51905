import JvmDerived
import JvmDerived.Pilot.@@N@@Statement
import JvmDerived.Pilot.@@N@@Code
set_option linter.unusedVariables false
set_option linter.unusedSimpArgs false
namespace Jvm.Pilot.@@N@@
open Jvm Jvm.ClassFile Sem Op Lib Jvm.Free Jvm.Stand Jvm.LawKit Jvm.RoadKit Bundle Jvm.Pilot.@@N@@.Jvm.D
/-- the run from A comes to a return that Q speaks of -/
def own_Fin (p : Program) (e : Env) (below : List Frame) (s : State) (kc ks : Nat) (Q : Option Value → Heap → List Loc → Prop) (A : State) : Prop :=
  ∃ s₂ o, Steps p.tables e below A s₂ ∧ s₂.status = .running ∧ Ended s₂ below o ∧ ∃ v L, o = .returned v ∧ Q v s₂.heap L ∧ FrameEnd s o s₂ L kc ks
section Own
variable {p : Program} {l : Launch} {e : Env} {R : Room} {s : State} {m : MethodId} {args : Array Value} {below : List Frame} {meth : Method} {c : Code} {T : State} {locs : List Loc} {cells slots kc ks : Nat} {Q : Option Value → Heap → List Loc → Prop}
theorem own_back {A B : State} (h : ∀ t, Steps p.tables e below B t → Steps p.tables e below A t) (k : own_Fin p e below s kc ks Q B) : own_Fin p e below s kc ks Q A := by
  obtain ⟨s2, o, h1, r⟩ := k
  exact ⟨s2, o, h _ h1, r⟩
theorem own_retN (X : Stand p l e R s m args below meth c T locs cells slots) (hx : p.tables.exec = Jvm.exec) (hlk : meth.locks = false) {t : FieldType} (ht : t = .boolean ∨ t = .byte ∨ t = .char ∨ t = .short) {pc : Nat} {Ls : Array Slot} {z : Int32} {rest : List Value} (hret : meth.sig.returnType = some t) (hd : decode c.code pc = .ok (.ireturn, 1)) (hc : cells ≤ kc) (hs : slots ≤ ks)
    (hQ : Q (some (.int (nar t z))) T.heap locs) : own_Fin p e below s kc ks Q (T.setTop (mkF m pc Ls (.int z :: rest))) := by
  obtain ⟨fs, hr, hrun, hended, hW, hsame⟩ := X.leave (v := some (.int (nar t z))) (fun h => by rw [hret] at h; cases h) hlk
  exact ⟨_, _, retN X hx hret ht hd hr, hrun, hended, _, _, rfl, hQ, ⟨_, rfl⟩, hW, hsame.mono hc hs⟩
theorem own_retZ (X : Stand p l e R s m args below meth c T locs cells slots) (hx : p.tables.exec = Jvm.exec) (hlk : meth.locks = false) {pc : Nat} {Ls : Array Slot} {z : Int32} {rest : List Value} (hret : meth.sig.returnType = some .boolean) (hd : decode c.code pc = .ok (.ireturn, 1)) (hc : cells ≤ kc) (hs : slots ≤ ks)
    (hQ : Q (some (.int (z &&& 1))) T.heap locs) : own_Fin p e below s kc ks Q (T.setTop (mkF m pc Ls (.int z :: rest))) := own_retN X hx hlk (Or.inl rfl) hret hd hc hs hQ
theorem own_retB (X : Stand p l e R s m args below meth c T locs cells slots) (hx : p.tables.exec = Jvm.exec) (hlk : meth.locks = false) {pc : Nat} {Ls : Array Slot} {z : Int32} {rest : List Value} (hret : meth.sig.returnType = some .byte) (hd : decode c.code pc = .ok (.ireturn, 1)) (hc : cells ≤ kc) (hs : slots ≤ ks)
    (hQ : Q (some (.int (nar .byte z))) T.heap locs) : own_Fin p e below s kc ks Q (T.setTop (mkF m pc Ls (.int z :: rest))) := own_retN X hx hlk (Or.inr (Or.inl rfl)) hret hd hc hs hQ
theorem own_retI (X : Stand p l e R s m args below meth c T locs cells slots) (hx : p.tables.exec = Jvm.exec) (hlk : meth.locks = false) {pc : Nat} {Ls : Array Slot} {z : Int32} {rest : List Value} (hret : meth.sig.returnType = some .int) (hd : decode c.code pc = .ok (.ireturn, 1)) (hc : cells ≤ kc) (hs : slots ≤ ks)
    (hQ : Q (some (.int z)) T.heap locs) : own_Fin p e below s kc ks Q (T.setTop (mkF m pc Ls (.int z :: rest))) := by
  obtain ⟨fs, hr, hrun, hended, hW, hsame⟩ := X.leave (v := some (.int z)) (fun h => by rw [hret] at h; cases h) hlk
  exact ⟨_, _, retOut X hx hret rfl (Or.inl ⟨rfl, Or.inl rfl, z, rfl⟩) hd hr, hrun, hended, _, _, rfl, hQ, ⟨_, rfl⟩, hW, hsame.mono hc hs⟩
theorem own_retJ (X : Stand p l e R s m args below meth c T locs cells slots) (hx : p.tables.exec = Jvm.exec) (hlk : meth.locks = false) {pc : Nat} {Ls : Array Slot} {z : Int64} {rest : List Value} (hret : meth.sig.returnType = some .long) (hd : decode c.code pc = .ok (.lreturn, 1)) (hc : cells ≤ kc) (hs : slots ≤ ks)
    (hQ : Q (some (.long z)) T.heap locs) : own_Fin p e below s kc ks Q (T.setTop (mkF m pc Ls (.long z :: rest))) := by
  obtain ⟨fs, hr, hrun, hended, hW, hsame⟩ := X.leave (v := some (.long z)) (fun h => by rw [hret] at h; cases h) hlk
  exact ⟨_, _, retOut X hx hret rfl (Or.inr (Or.inl ⟨rfl, rfl, z, rfl⟩)) hd hr, hrun, hended, _, _, rfl, hQ, ⟨_, rfl⟩, hW, hsame.mono hc hs⟩
theorem own_retA (X : Stand p l e R s m args below meth c T locs cells slots) (hx : p.tables.exec = Jvm.exec) (hlk : meth.locks = false) {pc : Nat} {Ls : Array Slot} {w : Value} {rest : List Value} {t : FieldType} (hret : meth.sig.returnType = some t) (ht : t.isReference = true) (hw : w.isRef = true) (hd : decode c.code pc = .ok (.areturn, 1)) (hc : cells ≤ kc) (hs : slots ≤ ks)
    (hQ : Q (some w) T.heap locs) : own_Fin p e below s kc ks Q (T.setTop (mkF m pc Ls (w :: rest))) := by
  obtain ⟨fs, hr, hrun, hended, hW, hsame⟩ := X.leave (v := some w) (fun h => by rw [hret] at h; cases h) hlk
  have hn : narrow t w = w := by cases t <;> first | rfl | cases ht
  exact ⟨_, _, retOut X hx hret hn (Or.inr (Or.inr (Or.inr (Or.inr ⟨rfl, ht, hw⟩)))) hd hr, hrun, hended, _, _, rfl, hQ, ⟨_, rfl⟩, hW, hsame.mono hc hs⟩
theorem own_ret0 (X : Stand p l e R s m args below meth c T locs cells slots) (hx : p.tables.exec = Jvm.exec) (hlk : meth.locks = false) {pc : Nat} {Ls : Array Slot} (hret : meth.sig.returnType = none) (hd : decode c.code pc = .ok (.return_, 1)) (hc : cells ≤ kc) (hs : slots ≤ ks)
    (hQ : Q none T.heap locs) : own_Fin p e below s kc ks Q (T.setTop (mkF m pc Ls [])) := by
  obtain ⟨fs, hr, hrun, hended, hW, hsame⟩ := X.leave (v := none) (fun _ => rfl) hlk
  exact ⟨_, _, X.returnOut hx hret hd hr, hrun, hended, _, _, rfl, hQ, ⟨_, rfl⟩, hW, hsame.mono hc hs⟩
end Own
def own_ush (x : Int64) (k : Int32) : Int64 := ((x.toUInt64 >>> (k &&& 0x3f).toInt64.toUInt64).toInt64)
def own_x1 (x : Int64) (k : Int32) : Int64 := x ^^^ own_ush x k
def own_x2 (x : Int64) (k j : Int32) : Int64 := own_x1 x k ^^^ own_ush x j
def own_nw (c x : Int64) : Int64 := x * ((2 : Int64) - (c * x))
def own_inv (c : Int64) : Int64 := own_nw c (own_nw c (own_nw c (own_nw c (own_nw c c))))
def own_mix (z : Int64) : Int64 := own_x1 (own_x1 (own_x1 z 30 * (-4658895280553007687 : Int64)) 27 * (-7723592293110705685 : Int64)) 31
def own_unmix (e : Int64) : Int64 := own_x2 (own_x2 (own_x2 e 31 62 * own_inv (-7723592293110705685 : Int64)) 27 54 * own_inv (-4658895280553007687 : Int64)) 30 60
theorem own_ush_bv (x : Int64) (k : Nat) (hk : k < 64) : (own_ush x (Int32.ofNat k)).toBitVec = x.toBitVec >>> k := by
  have e : ((Int32.ofNat k &&& 0x3f).toInt64.toUInt64) = UInt64.ofNat k := by
    have : ∀ j : Fin 64, ((Int32.ofNat j.val &&& 0x3f).toInt64.toUInt64) = UInt64.ofNat j.val := by decide
    exact this ⟨k, hk⟩
  unfold own_ush
  rw [e]
  show (x.toUInt64 >>> UInt64.ofNat k).toBitVec = _
  rw [UInt64.toBitVec_shiftRight]
  show x.toBitVec >>> (((UInt64.ofNat k).toBitVec % 64)) = _
  have e2 : ((UInt64.ofNat k).toBitVec % 64) = BitVec.ofNat 64 k := by
    apply BitVec.eq_of_toNat_eq
    simp
    omega
  rw [e2]
  show x.toBitVec >>> (BitVec.ofNat 64 k).toNat = _
  congr 1
  simp
  omega
theorem own_bits (x : BitVec 64) (k : Nat) (hk : 64 ≤ 3 * k) : ((x ^^^ (x >>> k)) ^^^ ((x ^^^ (x >>> k)) >>> k)) ^^^ ((x ^^^ (x >>> k)) >>> (2 * k)) = x := by
  apply BitVec.eq_of_getLsbD_eq
  intro i hi
  simp only [BitVec.getLsbD_xor, BitVec.getLsbD_ushiftRight]
  have h3 : x.getLsbD (k + (2 * k + i)) = false := BitVec.getLsbD_of_ge _ _ (by omega)
  rw [h3, show k + (k + i) = 2 * k + i by omega]
  cases x.getLsbD i <;> cases x.getLsbD (k + i) <;> cases x.getLsbD (2 * k + i) <;> rfl
theorem own_bits' (y : BitVec 64) (k : Nat) (hk : 64 ≤ 3 * k) : (((y ^^^ (y >>> k)) ^^^ (y >>> (2 * k))) ^^^ (((y ^^^ (y >>> k)) ^^^ (y >>> (2 * k))) >>> k)) = y := by
  apply BitVec.eq_of_getLsbD_eq
  intro i hi
  simp only [BitVec.getLsbD_xor, BitVec.getLsbD_ushiftRight]
  have h3 : y.getLsbD (2 * k + (k + i)) = false := BitVec.getLsbD_of_ge _ _ (by omega)
  rw [h3, show k + (k + i) = 2 * k + i by omega]
  cases y.getLsbD i <;> cases y.getLsbD (k + i) <;> cases y.getLsbD (2 * k + i) <;> rfl
theorem own_x21 (x : Int64) (k : Nat) (hk : 64 ≤ 3 * k) (h2 : 2 * k < 64) : own_x2 (own_x1 x (Int32.ofNat k)) (Int32.ofNat k) (Int32.ofNat (2 * k)) = x := by
  apply Int64.toBitVec_inj.mp
  simp only [own_x2, own_x1, Int64.toBitVec_xor, own_ush_bv _ k (by omega), own_ush_bv _ (2 * k) h2]
  exact own_bits _ k hk
theorem own_x12 (y : Int64) (k : Nat) (hk : 64 ≤ 3 * k) (h2 : 2 * k < 64) : own_x1 (own_x2 y (Int32.ofNat k) (Int32.ofNat (2 * k))) (Int32.ofNat k) = y := by
  apply Int64.toBitVec_inj.mp
  simp only [own_x2, own_x1, Int64.toBitVec_xor, own_ush_bv _ k (by omega), own_ush_bv _ (2 * k) h2]
  exact own_bits' _ k hk
theorem own_c1 : (-4658895280553007687 : Int64) * own_inv (-4658895280553007687 : Int64) = 1 := by decide
theorem own_c2 : (-7723592293110705685 : Int64) * own_inv (-7723592293110705685 : Int64) = 1 := by decide
theorem own_c1' : own_inv (-4658895280553007687 : Int64) * (-4658895280553007687 : Int64) = 1 := by decide
theorem own_c2' : own_inv (-7723592293110705685 : Int64) * (-7723592293110705685 : Int64) = 1 := by decide
theorem own_mul {a b : Int64} (h : a * b = 1) (z : Int64) : z * a * b = z := by rw [Int64.mul_assoc, h, Int64.mul_one]
theorem own_a31 (x : Int64) : own_x2 (own_x1 x 31) 31 62 = x := own_x21 x 31 (by decide) (by decide)
theorem own_a27 (x : Int64) : own_x2 (own_x1 x 27) 27 54 = x := own_x21 x 27 (by decide) (by decide)
theorem own_a30 (x : Int64) : own_x2 (own_x1 x 30) 30 60 = x := own_x21 x 30 (by decide) (by decide)
theorem own_b31 (x : Int64) : own_x1 (own_x2 x 31 62) 31 = x := own_x12 x 31 (by decide) (by decide)
theorem own_b27 (x : Int64) : own_x1 (own_x2 x 27 54) 27 = x := own_x12 x 27 (by decide) (by decide)
theorem own_b30 (x : Int64) : own_x1 (own_x2 x 30 60) 30 = x := own_x12 x 30 (by decide) (by decide)
theorem own_um (z : Int64) : own_unmix (own_mix z) = z := by
  unfold own_unmix own_mix
  rw [own_a31, own_mul own_c2, own_a27, own_mul own_c1, own_a30]
theorem own_mu (z : Int64) : own_mix (own_unmix z) = z := by
  unfold own_unmix own_mix
  rw [own_b30, own_mul own_c1', own_b27, own_mul own_c2', own_b31]
theorem own_m0 : own_mix (0 : Int64) = (0 : Int64) := by decide
theorem d1_0 : decode prog_65_method_4_code 0 = .ok (.lload_n 0, 1) := by decide +kernel
theorem d1_1 : decode prog_65_method_4_code 1 = .ok (.lload_n 0, 1) := by decide +kernel
theorem d1_2 : decode prog_65_method_4_code 2 = .ok (.bipush 30, 2) := by decide +kernel
theorem d1_4 : decode prog_65_method_4_code 4 = .ok (.lushr, 1) := by decide +kernel
theorem d1_5 : decode prog_65_method_4_code 5 = .ok (.lxor, 1) := by decide +kernel
theorem d1_6 : decode prog_65_method_4_code 6 = .ok (.ldc2_w 25, 3) := by decide +kernel
theorem d1_9 : decode prog_65_method_4_code 9 = .ok (.lmul, 1) := by decide +kernel
theorem d1_10 : decode prog_65_method_4_code 10 = .ok (.lstore_n 0, 1) := by decide +kernel
theorem d1_11 : decode prog_65_method_4_code 11 = .ok (.lload_n 0, 1) := by decide +kernel
theorem d1_12 : decode prog_65_method_4_code 12 = .ok (.lload_n 0, 1) := by decide +kernel
theorem d1_13 : decode prog_65_method_4_code 13 = .ok (.bipush 27, 2) := by decide +kernel
theorem d1_15 : decode prog_65_method_4_code 15 = .ok (.lushr, 1) := by decide +kernel
theorem d1_16 : decode prog_65_method_4_code 16 = .ok (.lxor, 1) := by decide +kernel
theorem d1_17 : decode prog_65_method_4_code 17 = .ok (.ldc2_w 27, 3) := by decide +kernel
theorem d1_20 : decode prog_65_method_4_code 20 = .ok (.lmul, 1) := by decide +kernel
theorem d1_21 : decode prog_65_method_4_code 21 = .ok (.lstore_n 0, 1) := by decide +kernel
theorem d1_22 : decode prog_65_method_4_code 22 = .ok (.lload_n 0, 1) := by decide +kernel
theorem d1_23 : decode prog_65_method_4_code 23 = .ok (.lload_n 0, 1) := by decide +kernel
theorem d1_24 : decode prog_65_method_4_code 24 = .ok (.bipush 31, 2) := by decide +kernel
theorem d1_26 : decode prog_65_method_4_code 26 = .ok (.lushr, 1) := by decide +kernel
theorem d1_27 : decode prog_65_method_4_code 27 = .ok (.lxor, 1) := by decide +kernel
theorem d1_28 : decode prog_65_method_4_code 28 = .ok (.lreturn, 1) := by decide +kernel
theorem pn_1 : plainName "com/example/occoquan/occoquan/SeededRandom" = true := by first | (simp [plainName, overriddenIn]; done) | decide +kernel
theorem ef_1 (m : MethodId) (x0 : Int64) : entryFrame m #[(.long x0)] 2 = mkF m 0 #[.val (.long x0), .second] [] := by first | (simp [entryFrame, mkF, argsToLocals, Value.category]; done) | rfl
def Q1 (Z : State) (q0 : Int64) (h0 : Heap) (n0 : Nat) (v : Option Value) (h : Heap) (L : List Loc) : Prop := v = some (.long (own_mix q0)) ∧ Fr n0 L ∧ h = h0
set_option maxRecDepth 65536 in
set_option maxHeartbeats 40000000 in
theorem rm1 (l : Launch) (Z : State) (a0 : Array Value) (hw : ∀ d ∈ tables_1, d.before a0 Z = true) (ws : List Jvm.Cond) (q0 : Int64) (h0 : Heap) (n0 : Nat) (Z0 : n0 ≤ h0.size) :
    MetFree l (⟨"com/example/occoquan/occoquan/SeededRandom", "mix", "(J)J"⟩ : MethodName) (head1 (Jvm.Cond.code (⟨"com/example/occoquan/occoquan/SeededRandom", "mix", "(J)J"⟩ : MethodName) prog_65_method_4_code 2 (some .long) :: ws) ({ frames := 0, cells := 0, slots := 0, locals := 0 } : Room)) (fun a U => a = #[(.long q0)] ∧ Z.Warmed39 U.vm ∧ U.heap = h0) (fun _ _ _ _ _ => True) (fun _ U o U' => ∃ v L, o = .returned v ∧ Q1 Z q0 h0 n0 v U'.heap L ∧ FrameEnd U o U' L ({ frames := 0, cells := 0, slots := 0, locals := 0 } : Room).cells ({ frames := 0, cells := 0, slots := 0, locals := 0 } : Room).slots) := by
  refine MetFree.of_bodySF (plainFor_of_name pn_1) hisR ?_
  intro p e s m args below meth c s₁ Bd hml0 hP hK
  obtain ⟨rfl, hZ, hh⟩ := hP
  have hx := Bd.exec
  have hby := Bd.bytes
  have hml : c.maxLocals = 2 := hml0
  have hown : s.vm.findClass "com/example/occoquan/occoquan/SeededRandom" = some m.cls := findClass_of_methodNamed Bd.named
  have hnm := (name_of_methodNamed Bd.named Bd.method).1
  have X0 : Stand p l e ({ frames := 0, cells := 0, slots := 0, locals := 0 } : Room) s m #[(.long q0)] below meth c s₁ [] 0 0 := Stand.of_body Bd
  have e0 : s₁.heap = h0 := by rw [← hh, Bd.state]; rfl
  have N0 := Fr.nil n0
  obtain ⟨F, hF⟩ : ∃ F : State → Prop, F = own_Fin p e below s ({ frames := 0, cells := 0, slots := 0, locals := 0 } : Room).cells ({ frames := 0, cells := 0, slots := 0, locals := 0 } : Room).slots (fun v h L => Q1 Z q0 h0 n0 v h L) := ⟨_, rfl⟩
  have bk : ∀ {A B : State}, (∀ t, Steps p.tables e below B t → Steps p.tables e below A t) → F B → F A := by
    intro A B h k
    rw [hF] at k ⊢
    exact own_back h k
  suffices hgo : F (s₁.setTop (mkF m 0 #[.val (.long q0), .second] [])) by
    have hgo' := bk (fun t k => castTop (T := s₁) (ef_1 m q0) k) hgo
    rw [hF] at hgo'
    exact hgo'
  show F (s₁.setTop (mkF m 0 #[.val (.long q0), .second] []))
  refine bk (fun t k => XS.lloadN X0.here hx rfl (hb hby d1_0) rfl k) ?_
  show F (s₁.setTop (mkF m 1 #[.val (.long q0), .second] [(.long q0)]))
  refine bk (fun t k => XS.lloadN X0.here hx rfl (hb hby d1_1) rfl k) ?_
  show F (s₁.setTop (mkF m 2 #[.val (.long q0), .second] [(.long q0), (.long q0)]))
  refine bk (fun t k => XS.bipush X0.here hx rfl (hb hby d1_2) k) ?_
  show F (s₁.setTop (mkF m 4 #[.val (.long q0), .second] [(.int (30 : Int32)), (.long q0), (.long q0)]))
  refine bk (fun t k => XS.lushr X0.here hx rfl (hb hby d1_4) rfl k) ?_
  show F (s₁.setTop (mkF m 5 #[.val (.long q0), .second] [(.long (own_ush q0 (30 : Int32))), (.long q0)]))
  refine bk (fun t k => XS.lxor X0.here hx rfl (hb hby d1_5) rfl k) ?_
  show F (s₁.setTop (mkF m 6 #[.val (.long q0), .second] [(.long (own_x1 q0 (30 : Int32)))]))
  refine bk (fun t k => X0.ldc2Long hx hown (mvT hZ (hw _ (List.mem_of_getElem? (i := 4) rfl))) (g := (mkF m 6 #[.val (.long q0), .second] [(.long (own_x1 q0 (30 : Int32)))])) rfl (hb hby d1_6) t k) ?_
  show F (s₁.setTop (mkF m 9 #[.val (.long q0), .second] [(.long (-4658895280553007687 : Int64)), (.long (own_x1 q0 (30 : Int32)))]))
  refine bk (fun t k => XS.lmul X0.here hx rfl (hb hby d1_9) rfl k) ?_
  show F (s₁.setTop (mkF m 10 #[.val (.long q0), .second] [(.long ((own_x1 q0 (30 : Int32)) * (-4658895280553007687 : Int64)))]))
  refine bk (fun t k => XS.lstoreN X0.here hx rfl (hb hby d1_10) rfl (l' := #[.val (.long ((own_x1 q0 (30 : Int32)) * (-4658895280553007687 : Int64))), .second]) rfl k) ?_
  show F (s₁.setTop (mkF m 11 #[.val (.long ((own_x1 q0 (30 : Int32)) * (-4658895280553007687 : Int64))), .second] []))
  refine bk (fun t k => XS.lloadN X0.here hx rfl (hb hby d1_11) rfl k) ?_
  show F (s₁.setTop (mkF m 12 #[.val (.long ((own_x1 q0 (30 : Int32)) * (-4658895280553007687 : Int64))), .second] [(.long ((own_x1 q0 (30 : Int32)) * (-4658895280553007687 : Int64)))]))
  refine bk (fun t k => XS.lloadN X0.here hx rfl (hb hby d1_12) rfl k) ?_
  show F (s₁.setTop (mkF m 13 #[.val (.long ((own_x1 q0 (30 : Int32)) * (-4658895280553007687 : Int64))), .second] [(.long ((own_x1 q0 (30 : Int32)) * (-4658895280553007687 : Int64))), (.long ((own_x1 q0 (30 : Int32)) * (-4658895280553007687 : Int64)))]))
  refine bk (fun t k => XS.bipush X0.here hx rfl (hb hby d1_13) k) ?_
  show F (s₁.setTop (mkF m 15 #[.val (.long ((own_x1 q0 (30 : Int32)) * (-4658895280553007687 : Int64))), .second] [(.int (27 : Int32)), (.long ((own_x1 q0 (30 : Int32)) * (-4658895280553007687 : Int64))), (.long ((own_x1 q0 (30 : Int32)) * (-4658895280553007687 : Int64)))]))
  refine bk (fun t k => XS.lushr X0.here hx rfl (hb hby d1_15) rfl k) ?_
  show F (s₁.setTop (mkF m 16 #[.val (.long ((own_x1 q0 (30 : Int32)) * (-4658895280553007687 : Int64))), .second] [(.long (own_ush ((own_x1 q0 (30 : Int32)) * (-4658895280553007687 : Int64)) (27 : Int32))), (.long ((own_x1 q0 (30 : Int32)) * (-4658895280553007687 : Int64)))]))
  refine bk (fun t k => XS.lxor X0.here hx rfl (hb hby d1_16) rfl k) ?_
  show F (s₁.setTop (mkF m 17 #[.val (.long ((own_x1 q0 (30 : Int32)) * (-4658895280553007687 : Int64))), .second] [(.long (own_x1 ((own_x1 q0 (30 : Int32)) * (-4658895280553007687 : Int64)) (27 : Int32)))]))
  refine bk (fun t k => X0.ldc2Long hx hown (mvT hZ (hw _ (List.mem_of_getElem? (i := 5) rfl))) (g := (mkF m 17 #[.val (.long ((own_x1 q0 (30 : Int32)) * (-4658895280553007687 : Int64))), .second] [(.long (own_x1 ((own_x1 q0 (30 : Int32)) * (-4658895280553007687 : Int64)) (27 : Int32)))])) rfl (hb hby d1_17) t k) ?_
  show F (s₁.setTop (mkF m 20 #[.val (.long ((own_x1 q0 (30 : Int32)) * (-4658895280553007687 : Int64))), .second] [(.long (-7723592293110705685 : Int64)), (.long (own_x1 ((own_x1 q0 (30 : Int32)) * (-4658895280553007687 : Int64)) (27 : Int32)))]))
  refine bk (fun t k => XS.lmul X0.here hx rfl (hb hby d1_20) rfl k) ?_
  show F (s₁.setTop (mkF m 21 #[.val (.long ((own_x1 q0 (30 : Int32)) * (-4658895280553007687 : Int64))), .second] [(.long ((own_x1 ((own_x1 q0 (30 : Int32)) * (-4658895280553007687 : Int64)) (27 : Int32)) * (-7723592293110705685 : Int64)))]))
  refine bk (fun t k => XS.lstoreN X0.here hx rfl (hb hby d1_21) rfl (l' := #[.val (.long ((own_x1 ((own_x1 q0 (30 : Int32)) * (-4658895280553007687 : Int64)) (27 : Int32)) * (-7723592293110705685 : Int64))), .second]) rfl k) ?_
  show F (s₁.setTop (mkF m 22 #[.val (.long ((own_x1 ((own_x1 q0 (30 : Int32)) * (-4658895280553007687 : Int64)) (27 : Int32)) * (-7723592293110705685 : Int64))), .second] []))
  refine bk (fun t k => XS.lloadN X0.here hx rfl (hb hby d1_22) rfl k) ?_
  show F (s₁.setTop (mkF m 23 #[.val (.long ((own_x1 ((own_x1 q0 (30 : Int32)) * (-4658895280553007687 : Int64)) (27 : Int32)) * (-7723592293110705685 : Int64))), .second] [(.long ((own_x1 ((own_x1 q0 (30 : Int32)) * (-4658895280553007687 : Int64)) (27 : Int32)) * (-7723592293110705685 : Int64)))]))
  refine bk (fun t k => XS.lloadN X0.here hx rfl (hb hby d1_23) rfl k) ?_
  show F (s₁.setTop (mkF m 24 #[.val (.long ((own_x1 ((own_x1 q0 (30 : Int32)) * (-4658895280553007687 : Int64)) (27 : Int32)) * (-7723592293110705685 : Int64))), .second] [(.long ((own_x1 ((own_x1 q0 (30 : Int32)) * (-4658895280553007687 : Int64)) (27 : Int32)) * (-7723592293110705685 : Int64))), (.long ((own_x1 ((own_x1 q0 (30 : Int32)) * (-4658895280553007687 : Int64)) (27 : Int32)) * (-7723592293110705685 : Int64)))]))
  refine bk (fun t k => XS.bipush X0.here hx rfl (hb hby d1_24) k) ?_
  show F (s₁.setTop (mkF m 26 #[.val (.long ((own_x1 ((own_x1 q0 (30 : Int32)) * (-4658895280553007687 : Int64)) (27 : Int32)) * (-7723592293110705685 : Int64))), .second] [(.int (31 : Int32)), (.long ((own_x1 ((own_x1 q0 (30 : Int32)) * (-4658895280553007687 : Int64)) (27 : Int32)) * (-7723592293110705685 : Int64))), (.long ((own_x1 ((own_x1 q0 (30 : Int32)) * (-4658895280553007687 : Int64)) (27 : Int32)) * (-7723592293110705685 : Int64)))]))
  refine bk (fun t k => XS.lushr X0.here hx rfl (hb hby d1_26) rfl k) ?_
  show F (s₁.setTop (mkF m 27 #[.val (.long ((own_x1 ((own_x1 q0 (30 : Int32)) * (-4658895280553007687 : Int64)) (27 : Int32)) * (-7723592293110705685 : Int64))), .second] [(.long (own_ush ((own_x1 ((own_x1 q0 (30 : Int32)) * (-4658895280553007687 : Int64)) (27 : Int32)) * (-7723592293110705685 : Int64)) (31 : Int32))), (.long ((own_x1 ((own_x1 q0 (30 : Int32)) * (-4658895280553007687 : Int64)) (27 : Int32)) * (-7723592293110705685 : Int64)))]))
  refine bk (fun t k => XS.lxor X0.here hx rfl (hb hby d1_27) rfl k) ?_
  show F (s₁.setTop (mkF m 28 #[.val (.long ((own_x1 ((own_x1 q0 (30 : Int32)) * (-4658895280553007687 : Int64)) (27 : Int32)) * (-7723592293110705685 : Int64))), .second] [(.long (own_x1 ((own_x1 ((own_x1 q0 (30 : Int32)) * (-4658895280553007687 : Int64)) (27 : Int32)) * (-7723592293110705685 : Int64)) (31 : Int32)))]))
  rw [hF]
  refine own_retJ X0 hx Bd.notSynchronized Bd.returns (hb hby d1_28) (by decide) (by decide) ?_
  rw [e0]
  exact ⟨rfl, N0, rfl⟩
theorem d3_0 : decode method_2_code 0 = .ok (.lload_n 0, 1) := by decide +kernel
theorem d3_1 : decode method_2_code 1 = .ok (.lstore_n 2, 1) := by decide +kernel
theorem d3_2 : decode method_2_code 2 = .ok (.lload_n 2, 1) := by decide +kernel
theorem d3_3 : decode method_2_code 3 = .ok (.ldc2_w 7, 3) := by decide +kernel
theorem d3_6 : decode method_2_code 6 = .ok (.lload_n 0, 1) := by decide +kernel
theorem d3_7 : decode method_2_code 7 = .ok (.lload_n 2, 1) := by decide +kernel
theorem d3_8 : decode method_2_code 8 = .ok (.lmul, 1) := by decide +kernel
theorem d3_9 : decode method_2_code 9 = .ok (.lsub, 1) := by decide +kernel
theorem d3_10 : decode method_2_code 10 = .ok (.lmul, 1) := by decide +kernel
theorem d3_11 : decode method_2_code 11 = .ok (.lstore_n 2, 1) := by decide +kernel
theorem d3_12 : decode method_2_code 12 = .ok (.lload_n 2, 1) := by decide +kernel
theorem d3_13 : decode method_2_code 13 = .ok (.ldc2_w 7, 3) := by decide +kernel
theorem d3_16 : decode method_2_code 16 = .ok (.lload_n 0, 1) := by decide +kernel
theorem d3_17 : decode method_2_code 17 = .ok (.lload_n 2, 1) := by decide +kernel
theorem d3_18 : decode method_2_code 18 = .ok (.lmul, 1) := by decide +kernel
theorem d3_19 : decode method_2_code 19 = .ok (.lsub, 1) := by decide +kernel
theorem d3_20 : decode method_2_code 20 = .ok (.lmul, 1) := by decide +kernel
theorem d3_21 : decode method_2_code 21 = .ok (.lstore_n 2, 1) := by decide +kernel
theorem d3_22 : decode method_2_code 22 = .ok (.lload_n 2, 1) := by decide +kernel
theorem d3_23 : decode method_2_code 23 = .ok (.ldc2_w 7, 3) := by decide +kernel
theorem d3_26 : decode method_2_code 26 = .ok (.lload_n 0, 1) := by decide +kernel
theorem d3_27 : decode method_2_code 27 = .ok (.lload_n 2, 1) := by decide +kernel
theorem d3_28 : decode method_2_code 28 = .ok (.lmul, 1) := by decide +kernel
theorem d3_29 : decode method_2_code 29 = .ok (.lsub, 1) := by decide +kernel
theorem d3_30 : decode method_2_code 30 = .ok (.lmul, 1) := by decide +kernel
theorem d3_31 : decode method_2_code 31 = .ok (.lstore_n 2, 1) := by decide +kernel
theorem d3_32 : decode method_2_code 32 = .ok (.lload_n 2, 1) := by decide +kernel
theorem d3_33 : decode method_2_code 33 = .ok (.ldc2_w 7, 3) := by decide +kernel
theorem d3_36 : decode method_2_code 36 = .ok (.lload_n 0, 1) := by decide +kernel
theorem d3_37 : decode method_2_code 37 = .ok (.lload_n 2, 1) := by decide +kernel
theorem d3_38 : decode method_2_code 38 = .ok (.lmul, 1) := by decide +kernel
theorem d3_39 : decode method_2_code 39 = .ok (.lsub, 1) := by decide +kernel
theorem d3_40 : decode method_2_code 40 = .ok (.lmul, 1) := by decide +kernel
theorem d3_41 : decode method_2_code 41 = .ok (.lstore_n 2, 1) := by decide +kernel
theorem d3_42 : decode method_2_code 42 = .ok (.lload_n 2, 1) := by decide +kernel
theorem d3_43 : decode method_2_code 43 = .ok (.ldc2_w 7, 3) := by decide +kernel
theorem d3_46 : decode method_2_code 46 = .ok (.lload_n 0, 1) := by decide +kernel
theorem d3_47 : decode method_2_code 47 = .ok (.lload_n 2, 1) := by decide +kernel
theorem d3_48 : decode method_2_code 48 = .ok (.lmul, 1) := by decide +kernel
theorem d3_49 : decode method_2_code 49 = .ok (.lsub, 1) := by decide +kernel
theorem d3_50 : decode method_2_code 50 = .ok (.lmul, 1) := by decide +kernel
theorem d3_51 : decode method_2_code 51 = .ok (.lstore_n 2, 1) := by decide +kernel
theorem d3_52 : decode method_2_code 52 = .ok (.lload_n 2, 1) := by decide +kernel
theorem d3_53 : decode method_2_code 53 = .ok (.lreturn, 1) := by decide +kernel
theorem pn_3 : plainName "com/example/occoquan/occoquan/SeededRandomMixPinLaw" = true := by first | (simp [plainName, overriddenIn]; done) | decide +kernel
theorem ef_3 (m : MethodId) (x0 : Int64) : entryFrame m #[(.long x0)] 4 = mkF m 0 #[.val (.long x0), .second, .unset, .unset] [] := by first | (simp [entryFrame, mkF, argsToLocals, Value.category]; done) | rfl
def Q3 (Z : State) (q0 : Int64) (h0 : Heap) (n0 : Nat) (v : Option Value) (h : Heap) (L : List Loc) : Prop := v = some (.long (own_inv q0)) ∧ Fr n0 L ∧ h = h0
set_option maxRecDepth 65536 in
set_option maxHeartbeats 40000000 in
theorem rm3 (l : Launch) (Z : State) (a0 : Array Value) (hw : ∀ d ∈ tables_1, d.before a0 Z = true) (ws : List Jvm.Cond) (q0 : Int64) (h0 : Heap) (n0 : Nat) (Z0 : n0 ≤ h0.size) :
    MetFree l (⟨"com/example/occoquan/occoquan/SeededRandomMixPinLaw", "inv", "(J)J"⟩ : MethodName) (head1 (Jvm.Cond.code (⟨"com/example/occoquan/occoquan/SeededRandomMixPinLaw", "inv", "(J)J"⟩ : MethodName) method_2_code 4 (some .long) :: ws) ({ frames := 0, cells := 0, slots := 0, locals := 0 } : Room)) (fun a U => a = #[(.long q0)] ∧ Z.Warmed39 U.vm ∧ U.heap = h0) (fun _ _ _ _ _ => True) (fun _ U o U' => ∃ v L, o = .returned v ∧ Q3 Z q0 h0 n0 v U'.heap L ∧ FrameEnd U o U' L ({ frames := 0, cells := 0, slots := 0, locals := 0 } : Room).cells ({ frames := 0, cells := 0, slots := 0, locals := 0 } : Room).slots) := by
  refine MetFree.of_bodySF (plainFor_of_name pn_3) hisR ?_
  intro p e s m args below meth c s₁ Bd hml0 hP hK
  obtain ⟨rfl, hZ, hh⟩ := hP
  have hx := Bd.exec
  have hby := Bd.bytes
  have hml : c.maxLocals = 4 := hml0
  have hown : s.vm.findClass "com/example/occoquan/occoquan/SeededRandomMixPinLaw" = some m.cls := findClass_of_methodNamed Bd.named
  have hnm := (name_of_methodNamed Bd.named Bd.method).1
  have X0 : Stand p l e ({ frames := 0, cells := 0, slots := 0, locals := 0 } : Room) s m #[(.long q0)] below meth c s₁ [] 0 0 := Stand.of_body Bd
  have e0 : s₁.heap = h0 := by rw [← hh, Bd.state]; rfl
  have N0 := Fr.nil n0
  obtain ⟨F, hF⟩ : ∃ F : State → Prop, F = own_Fin p e below s ({ frames := 0, cells := 0, slots := 0, locals := 0 } : Room).cells ({ frames := 0, cells := 0, slots := 0, locals := 0 } : Room).slots (fun v h L => Q3 Z q0 h0 n0 v h L) := ⟨_, rfl⟩
  have bk : ∀ {A B : State}, (∀ t, Steps p.tables e below B t → Steps p.tables e below A t) → F B → F A := by
    intro A B h k
    rw [hF] at k ⊢
    exact own_back h k
  suffices hgo : F (s₁.setTop (mkF m 0 #[.val (.long q0), .second, .unset, .unset] [])) by
    have hgo' := bk (fun t k => castTop (T := s₁) (ef_3 m q0) k) hgo
    rw [hF] at hgo'
    exact hgo'
  show F (s₁.setTop (mkF m 0 #[.val (.long q0), .second, .unset, .unset] []))
  refine bk (fun t k => XS.lloadN X0.here hx rfl (hb hby d3_0) rfl k) ?_
  show F (s₁.setTop (mkF m 1 #[.val (.long q0), .second, .unset, .unset] [(.long q0)]))
  refine bk (fun t k => XS.lstoreN X0.here hx rfl (hb hby d3_1) rfl (l' := #[.val (.long q0), .second, .val (.long q0), .second]) rfl k) ?_
  show F (s₁.setTop (mkF m 2 #[.val (.long q0), .second, .val (.long q0), .second] []))
  refine bk (fun t k => XS.lloadN X0.here hx rfl (hb hby d3_2) rfl k) ?_
  show F (s₁.setTop (mkF m 3 #[.val (.long q0), .second, .val (.long q0), .second] [(.long q0)]))
  refine bk (fun t k => X0.ldc2Long hx hown (mvT hZ (hw _ (List.mem_of_getElem? (i := 14) rfl))) (g := (mkF m 3 #[.val (.long q0), .second, .val (.long q0), .second] [(.long q0)])) rfl (hb hby d3_3) t k) ?_
  show F (s₁.setTop (mkF m 6 #[.val (.long q0), .second, .val (.long q0), .second] [(.long (2 : Int64)), (.long q0)]))
  refine bk (fun t k => XS.lloadN X0.here hx rfl (hb hby d3_6) rfl k) ?_
  show F (s₁.setTop (mkF m 7 #[.val (.long q0), .second, .val (.long q0), .second] [(.long q0), (.long (2 : Int64)), (.long q0)]))
  refine bk (fun t k => XS.lloadN X0.here hx rfl (hb hby d3_7) rfl k) ?_
  show F (s₁.setTop (mkF m 8 #[.val (.long q0), .second, .val (.long q0), .second] [(.long q0), (.long q0), (.long (2 : Int64)), (.long q0)]))
  refine bk (fun t k => XS.lmul X0.here hx rfl (hb hby d3_8) rfl k) ?_
  show F (s₁.setTop (mkF m 9 #[.val (.long q0), .second, .val (.long q0), .second] [(.long (q0 * q0)), (.long (2 : Int64)), (.long q0)]))
  refine bk (fun t k => XS.lsub X0.here hx rfl (hb hby d3_9) rfl k) ?_
  show F (s₁.setTop (mkF m 10 #[.val (.long q0), .second, .val (.long q0), .second] [(.long ((2 : Int64) - (q0 * q0))), (.long q0)]))
  refine bk (fun t k => XS.lmul X0.here hx rfl (hb hby d3_10) rfl k) ?_
  show F (s₁.setTop (mkF m 11 #[.val (.long q0), .second, .val (.long q0), .second] [(.long (own_nw q0 q0))]))
  refine bk (fun t k => XS.lstoreN X0.here hx rfl (hb hby d3_11) rfl (l' := #[.val (.long q0), .second, .val (.long (own_nw q0 q0)), .second]) rfl k) ?_
  show F (s₁.setTop (mkF m 12 #[.val (.long q0), .second, .val (.long (own_nw q0 q0)), .second] []))
  refine bk (fun t k => XS.lloadN X0.here hx rfl (hb hby d3_12) rfl k) ?_
  show F (s₁.setTop (mkF m 13 #[.val (.long q0), .second, .val (.long (own_nw q0 q0)), .second] [(.long (own_nw q0 q0))]))
  refine bk (fun t k => X0.ldc2Long hx hown (mvT hZ (hw _ (List.mem_of_getElem? (i := 14) rfl))) (g := (mkF m 13 #[.val (.long q0), .second, .val (.long (own_nw q0 q0)), .second] [(.long (own_nw q0 q0))])) rfl (hb hby d3_13) t k) ?_
  show F (s₁.setTop (mkF m 16 #[.val (.long q0), .second, .val (.long (own_nw q0 q0)), .second] [(.long (2 : Int64)), (.long (own_nw q0 q0))]))
  refine bk (fun t k => XS.lloadN X0.here hx rfl (hb hby d3_16) rfl k) ?_
  show F (s₁.setTop (mkF m 17 #[.val (.long q0), .second, .val (.long (own_nw q0 q0)), .second] [(.long q0), (.long (2 : Int64)), (.long (own_nw q0 q0))]))
  refine bk (fun t k => XS.lloadN X0.here hx rfl (hb hby d3_17) rfl k) ?_
  show F (s₁.setTop (mkF m 18 #[.val (.long q0), .second, .val (.long (own_nw q0 q0)), .second] [(.long (own_nw q0 q0)), (.long q0), (.long (2 : Int64)), (.long (own_nw q0 q0))]))
  refine bk (fun t k => XS.lmul X0.here hx rfl (hb hby d3_18) rfl k) ?_
  show F (s₁.setTop (mkF m 19 #[.val (.long q0), .second, .val (.long (own_nw q0 q0)), .second] [(.long (q0 * (own_nw q0 q0))), (.long (2 : Int64)), (.long (own_nw q0 q0))]))
  refine bk (fun t k => XS.lsub X0.here hx rfl (hb hby d3_19) rfl k) ?_
  show F (s₁.setTop (mkF m 20 #[.val (.long q0), .second, .val (.long (own_nw q0 q0)), .second] [(.long ((2 : Int64) - (q0 * (own_nw q0 q0)))), (.long (own_nw q0 q0))]))
  refine bk (fun t k => XS.lmul X0.here hx rfl (hb hby d3_20) rfl k) ?_
  show F (s₁.setTop (mkF m 21 #[.val (.long q0), .second, .val (.long (own_nw q0 q0)), .second] [(.long (own_nw q0 (own_nw q0 q0)))]))
  refine bk (fun t k => XS.lstoreN X0.here hx rfl (hb hby d3_21) rfl (l' := #[.val (.long q0), .second, .val (.long (own_nw q0 (own_nw q0 q0))), .second]) rfl k) ?_
  show F (s₁.setTop (mkF m 22 #[.val (.long q0), .second, .val (.long (own_nw q0 (own_nw q0 q0))), .second] []))
  refine bk (fun t k => XS.lloadN X0.here hx rfl (hb hby d3_22) rfl k) ?_
  show F (s₁.setTop (mkF m 23 #[.val (.long q0), .second, .val (.long (own_nw q0 (own_nw q0 q0))), .second] [(.long (own_nw q0 (own_nw q0 q0)))]))
  refine bk (fun t k => X0.ldc2Long hx hown (mvT hZ (hw _ (List.mem_of_getElem? (i := 14) rfl))) (g := (mkF m 23 #[.val (.long q0), .second, .val (.long (own_nw q0 (own_nw q0 q0))), .second] [(.long (own_nw q0 (own_nw q0 q0)))])) rfl (hb hby d3_23) t k) ?_
  show F (s₁.setTop (mkF m 26 #[.val (.long q0), .second, .val (.long (own_nw q0 (own_nw q0 q0))), .second] [(.long (2 : Int64)), (.long (own_nw q0 (own_nw q0 q0)))]))
  refine bk (fun t k => XS.lloadN X0.here hx rfl (hb hby d3_26) rfl k) ?_
  show F (s₁.setTop (mkF m 27 #[.val (.long q0), .second, .val (.long (own_nw q0 (own_nw q0 q0))), .second] [(.long q0), (.long (2 : Int64)), (.long (own_nw q0 (own_nw q0 q0)))]))
  refine bk (fun t k => XS.lloadN X0.here hx rfl (hb hby d3_27) rfl k) ?_
  show F (s₁.setTop (mkF m 28 #[.val (.long q0), .second, .val (.long (own_nw q0 (own_nw q0 q0))), .second] [(.long (own_nw q0 (own_nw q0 q0))), (.long q0), (.long (2 : Int64)), (.long (own_nw q0 (own_nw q0 q0)))]))
  refine bk (fun t k => XS.lmul X0.here hx rfl (hb hby d3_28) rfl k) ?_
  show F (s₁.setTop (mkF m 29 #[.val (.long q0), .second, .val (.long (own_nw q0 (own_nw q0 q0))), .second] [(.long (q0 * (own_nw q0 (own_nw q0 q0)))), (.long (2 : Int64)), (.long (own_nw q0 (own_nw q0 q0)))]))
  refine bk (fun t k => XS.lsub X0.here hx rfl (hb hby d3_29) rfl k) ?_
  show F (s₁.setTop (mkF m 30 #[.val (.long q0), .second, .val (.long (own_nw q0 (own_nw q0 q0))), .second] [(.long ((2 : Int64) - (q0 * (own_nw q0 (own_nw q0 q0))))), (.long (own_nw q0 (own_nw q0 q0)))]))
  refine bk (fun t k => XS.lmul X0.here hx rfl (hb hby d3_30) rfl k) ?_
  show F (s₁.setTop (mkF m 31 #[.val (.long q0), .second, .val (.long (own_nw q0 (own_nw q0 q0))), .second] [(.long (own_nw q0 (own_nw q0 (own_nw q0 q0))))]))
  refine bk (fun t k => XS.lstoreN X0.here hx rfl (hb hby d3_31) rfl (l' := #[.val (.long q0), .second, .val (.long (own_nw q0 (own_nw q0 (own_nw q0 q0)))), .second]) rfl k) ?_
  show F (s₁.setTop (mkF m 32 #[.val (.long q0), .second, .val (.long (own_nw q0 (own_nw q0 (own_nw q0 q0)))), .second] []))
  refine bk (fun t k => XS.lloadN X0.here hx rfl (hb hby d3_32) rfl k) ?_
  show F (s₁.setTop (mkF m 33 #[.val (.long q0), .second, .val (.long (own_nw q0 (own_nw q0 (own_nw q0 q0)))), .second] [(.long (own_nw q0 (own_nw q0 (own_nw q0 q0))))]))
  refine bk (fun t k => X0.ldc2Long hx hown (mvT hZ (hw _ (List.mem_of_getElem? (i := 14) rfl))) (g := (mkF m 33 #[.val (.long q0), .second, .val (.long (own_nw q0 (own_nw q0 (own_nw q0 q0)))), .second] [(.long (own_nw q0 (own_nw q0 (own_nw q0 q0))))])) rfl (hb hby d3_33) t k) ?_
  show F (s₁.setTop (mkF m 36 #[.val (.long q0), .second, .val (.long (own_nw q0 (own_nw q0 (own_nw q0 q0)))), .second] [(.long (2 : Int64)), (.long (own_nw q0 (own_nw q0 (own_nw q0 q0))))]))
  refine bk (fun t k => XS.lloadN X0.here hx rfl (hb hby d3_36) rfl k) ?_
  show F (s₁.setTop (mkF m 37 #[.val (.long q0), .second, .val (.long (own_nw q0 (own_nw q0 (own_nw q0 q0)))), .second] [(.long q0), (.long (2 : Int64)), (.long (own_nw q0 (own_nw q0 (own_nw q0 q0))))]))
  refine bk (fun t k => XS.lloadN X0.here hx rfl (hb hby d3_37) rfl k) ?_
  show F (s₁.setTop (mkF m 38 #[.val (.long q0), .second, .val (.long (own_nw q0 (own_nw q0 (own_nw q0 q0)))), .second] [(.long (own_nw q0 (own_nw q0 (own_nw q0 q0)))), (.long q0), (.long (2 : Int64)), (.long (own_nw q0 (own_nw q0 (own_nw q0 q0))))]))
  refine bk (fun t k => XS.lmul X0.here hx rfl (hb hby d3_38) rfl k) ?_
  show F (s₁.setTop (mkF m 39 #[.val (.long q0), .second, .val (.long (own_nw q0 (own_nw q0 (own_nw q0 q0)))), .second] [(.long (q0 * (own_nw q0 (own_nw q0 (own_nw q0 q0))))), (.long (2 : Int64)), (.long (own_nw q0 (own_nw q0 (own_nw q0 q0))))]))
  refine bk (fun t k => XS.lsub X0.here hx rfl (hb hby d3_39) rfl k) ?_
  show F (s₁.setTop (mkF m 40 #[.val (.long q0), .second, .val (.long (own_nw q0 (own_nw q0 (own_nw q0 q0)))), .second] [(.long ((2 : Int64) - (q0 * (own_nw q0 (own_nw q0 (own_nw q0 q0)))))), (.long (own_nw q0 (own_nw q0 (own_nw q0 q0))))]))
  refine bk (fun t k => XS.lmul X0.here hx rfl (hb hby d3_40) rfl k) ?_
  show F (s₁.setTop (mkF m 41 #[.val (.long q0), .second, .val (.long (own_nw q0 (own_nw q0 (own_nw q0 q0)))), .second] [(.long (own_nw q0 (own_nw q0 (own_nw q0 (own_nw q0 q0)))))]))
  refine bk (fun t k => XS.lstoreN X0.here hx rfl (hb hby d3_41) rfl (l' := #[.val (.long q0), .second, .val (.long (own_nw q0 (own_nw q0 (own_nw q0 (own_nw q0 q0))))), .second]) rfl k) ?_
  show F (s₁.setTop (mkF m 42 #[.val (.long q0), .second, .val (.long (own_nw q0 (own_nw q0 (own_nw q0 (own_nw q0 q0))))), .second] []))
  refine bk (fun t k => XS.lloadN X0.here hx rfl (hb hby d3_42) rfl k) ?_
  show F (s₁.setTop (mkF m 43 #[.val (.long q0), .second, .val (.long (own_nw q0 (own_nw q0 (own_nw q0 (own_nw q0 q0))))), .second] [(.long (own_nw q0 (own_nw q0 (own_nw q0 (own_nw q0 q0)))))]))
  refine bk (fun t k => X0.ldc2Long hx hown (mvT hZ (hw _ (List.mem_of_getElem? (i := 14) rfl))) (g := (mkF m 43 #[.val (.long q0), .second, .val (.long (own_nw q0 (own_nw q0 (own_nw q0 (own_nw q0 q0))))), .second] [(.long (own_nw q0 (own_nw q0 (own_nw q0 (own_nw q0 q0)))))])) rfl (hb hby d3_43) t k) ?_
  show F (s₁.setTop (mkF m 46 #[.val (.long q0), .second, .val (.long (own_nw q0 (own_nw q0 (own_nw q0 (own_nw q0 q0))))), .second] [(.long (2 : Int64)), (.long (own_nw q0 (own_nw q0 (own_nw q0 (own_nw q0 q0)))))]))
  refine bk (fun t k => XS.lloadN X0.here hx rfl (hb hby d3_46) rfl k) ?_
  show F (s₁.setTop (mkF m 47 #[.val (.long q0), .second, .val (.long (own_nw q0 (own_nw q0 (own_nw q0 (own_nw q0 q0))))), .second] [(.long q0), (.long (2 : Int64)), (.long (own_nw q0 (own_nw q0 (own_nw q0 (own_nw q0 q0)))))]))
  refine bk (fun t k => XS.lloadN X0.here hx rfl (hb hby d3_47) rfl k) ?_
  show F (s₁.setTop (mkF m 48 #[.val (.long q0), .second, .val (.long (own_nw q0 (own_nw q0 (own_nw q0 (own_nw q0 q0))))), .second] [(.long (own_nw q0 (own_nw q0 (own_nw q0 (own_nw q0 q0))))), (.long q0), (.long (2 : Int64)), (.long (own_nw q0 (own_nw q0 (own_nw q0 (own_nw q0 q0)))))]))
  refine bk (fun t k => XS.lmul X0.here hx rfl (hb hby d3_48) rfl k) ?_
  show F (s₁.setTop (mkF m 49 #[.val (.long q0), .second, .val (.long (own_nw q0 (own_nw q0 (own_nw q0 (own_nw q0 q0))))), .second] [(.long (q0 * (own_nw q0 (own_nw q0 (own_nw q0 (own_nw q0 q0)))))), (.long (2 : Int64)), (.long (own_nw q0 (own_nw q0 (own_nw q0 (own_nw q0 q0)))))]))
  refine bk (fun t k => XS.lsub X0.here hx rfl (hb hby d3_49) rfl k) ?_
  show F (s₁.setTop (mkF m 50 #[.val (.long q0), .second, .val (.long (own_nw q0 (own_nw q0 (own_nw q0 (own_nw q0 q0))))), .second] [(.long ((2 : Int64) - (q0 * (own_nw q0 (own_nw q0 (own_nw q0 (own_nw q0 q0))))))), (.long (own_nw q0 (own_nw q0 (own_nw q0 (own_nw q0 q0)))))]))
  refine bk (fun t k => XS.lmul X0.here hx rfl (hb hby d3_50) rfl k) ?_
  show F (s₁.setTop (mkF m 51 #[.val (.long q0), .second, .val (.long (own_nw q0 (own_nw q0 (own_nw q0 (own_nw q0 q0))))), .second] [(.long (own_nw q0 (own_nw q0 (own_nw q0 (own_nw q0 (own_nw q0 q0))))))]))
  refine bk (fun t k => XS.lstoreN X0.here hx rfl (hb hby d3_51) rfl (l' := #[.val (.long q0), .second, .val (.long (own_nw q0 (own_nw q0 (own_nw q0 (own_nw q0 (own_nw q0 q0)))))), .second]) rfl k) ?_
  show F (s₁.setTop (mkF m 52 #[.val (.long q0), .second, .val (.long (own_nw q0 (own_nw q0 (own_nw q0 (own_nw q0 (own_nw q0 q0)))))), .second] []))
  refine bk (fun t k => XS.lloadN X0.here hx rfl (hb hby d3_52) rfl k) ?_
  show F (s₁.setTop (mkF m 53 #[.val (.long q0), .second, .val (.long (own_nw q0 (own_nw q0 (own_nw q0 (own_nw q0 (own_nw q0 q0)))))), .second] [(.long (own_nw q0 (own_nw q0 (own_nw q0 (own_nw q0 (own_nw q0 q0))))))]))
  rw [hF]
  refine own_retJ X0 hx Bd.notSynchronized Bd.returns (hb hby d3_53) (by decide) (by decide) ?_
  rw [e0]
  exact ⟨rfl, N0, rfl⟩
theorem d2_0 : decode method_3_code 0 = .ok (.lload_n 0, 1) := by decide +kernel
theorem d2_1 : decode method_3_code 1 = .ok (.lload_n 0, 1) := by decide +kernel
theorem d2_2 : decode method_3_code 2 = .ok (.bipush 31, 2) := by decide +kernel
theorem d2_4 : decode method_3_code 4 = .ok (.lushr, 1) := by decide +kernel
theorem d2_5 : decode method_3_code 5 = .ok (.lxor, 1) := by decide +kernel
theorem d2_6 : decode method_3_code 6 = .ok (.lload_n 0, 1) := by decide +kernel
theorem d2_7 : decode method_3_code 7 = .ok (.bipush 62, 2) := by decide +kernel
theorem d2_9 : decode method_3_code 9 = .ok (.lushr, 1) := by decide +kernel
theorem d2_10 : decode method_3_code 10 = .ok (.lxor, 1) := by decide +kernel
theorem d2_11 : decode method_3_code 11 = .ok (.lstore_n 2, 1) := by decide +kernel
theorem d2_12 : decode method_3_code 12 = .ok (.lload_n 2, 1) := by decide +kernel
theorem d2_13 : decode method_3_code 13 = .ok (.ldc2_w 11, 3) := by decide +kernel
theorem d2_16 : decode method_3_code 16 = .ok (.invokestatic 13, 3) := by decide +kernel
theorem d2_19 : decode method_3_code 19 = .ok (.lmul, 1) := by decide +kernel
theorem d2_20 : decode method_3_code 20 = .ok (.lstore 4, 2) := by decide +kernel
theorem d2_22 : decode method_3_code 22 = .ok (.lload 4, 2) := by decide +kernel
theorem d2_24 : decode method_3_code 24 = .ok (.lload 4, 2) := by decide +kernel
theorem d2_26 : decode method_3_code 26 = .ok (.bipush 27, 2) := by decide +kernel
theorem d2_28 : decode method_3_code 28 = .ok (.lushr, 1) := by decide +kernel
theorem d2_29 : decode method_3_code 29 = .ok (.lxor, 1) := by decide +kernel
theorem d2_30 : decode method_3_code 30 = .ok (.lload 4, 2) := by decide +kernel
theorem d2_32 : decode method_3_code 32 = .ok (.bipush 54, 2) := by decide +kernel
theorem d2_34 : decode method_3_code 34 = .ok (.lushr, 1) := by decide +kernel
theorem d2_35 : decode method_3_code 35 = .ok (.lxor, 1) := by decide +kernel
theorem d2_36 : decode method_3_code 36 = .ok (.lstore 6, 2) := by decide +kernel
theorem d2_38 : decode method_3_code 38 = .ok (.lload 6, 2) := by decide +kernel
theorem d2_40 : decode method_3_code 40 = .ok (.ldc2_w 17, 3) := by decide +kernel
theorem d2_43 : decode method_3_code 43 = .ok (.invokestatic 13, 3) := by decide +kernel
theorem d2_46 : decode method_3_code 46 = .ok (.lmul, 1) := by decide +kernel
theorem d2_47 : decode method_3_code 47 = .ok (.lstore 8, 2) := by decide +kernel
theorem d2_49 : decode method_3_code 49 = .ok (.lload 8, 2) := by decide +kernel
theorem d2_51 : decode method_3_code 51 = .ok (.lload 8, 2) := by decide +kernel
theorem d2_53 : decode method_3_code 53 = .ok (.bipush 30, 2) := by decide +kernel
theorem d2_55 : decode method_3_code 55 = .ok (.lushr, 1) := by decide +kernel
theorem d2_56 : decode method_3_code 56 = .ok (.lxor, 1) := by decide +kernel
theorem d2_57 : decode method_3_code 57 = .ok (.lload 8, 2) := by decide +kernel
theorem d2_59 : decode method_3_code 59 = .ok (.bipush 60, 2) := by decide +kernel
theorem d2_61 : decode method_3_code 61 = .ok (.lushr, 1) := by decide +kernel
theorem d2_62 : decode method_3_code 62 = .ok (.lxor, 1) := by decide +kernel
theorem d2_63 : decode method_3_code 63 = .ok (.lreturn, 1) := by decide +kernel
theorem pd2__J_J : parseMethodDescriptor "(J)J" = some ⟨[.long], some .long⟩ := by decide +kernel
theorem pn_2 : plainName "com/example/occoquan/occoquan/SeededRandomMixPinLaw" = true := by first | (simp [plainName, overriddenIn]; done) | decide +kernel
theorem ef_2 (m : MethodId) (x0 : Int64) : entryFrame m #[(.long x0)] 10 = mkF m 0 #[.val (.long x0), .second, .unset, .unset, .unset, .unset, .unset, .unset, .unset, .unset] [] := by first | (simp [entryFrame, mkF, argsToLocals, Value.category]; done) | rfl
def Q2 (Z : State) (q0 : Int64) (h0 : Heap) (n0 : Nat) (v : Option Value) (h : Heap) (L : List Loc) : Prop := v = some (.long (own_unmix q0)) ∧ Fr n0 L ∧ h = h0
set_option maxRecDepth 65536 in
set_option maxHeartbeats 40000000 in
theorem rm2 (l : Launch) (Z : State) (a0 : Array Value) (hw : ∀ d ∈ tables_1, d.before a0 Z = true) (ws : List Jvm.Cond) (q0 : Int64) (h0 : Heap) (n0 : Nat) (Z0 : n0 ≤ h0.size) :
    MetFree l (⟨"com/example/occoquan/occoquan/SeededRandomMixPinLaw", "unmix", "(J)J"⟩ : MethodName) (head1 (Jvm.Cond.code (⟨"com/example/occoquan/occoquan/SeededRandomMixPinLaw", "unmix", "(J)J"⟩ : MethodName) method_3_code 10 (some .long) :: ws) ({ frames := 1, cells := 0, slots := 0, locals := 17 } : Room)) (fun a U => a = #[(.long q0)] ∧ Z.Warmed39 U.vm ∧ U.heap = h0) (fun _ _ _ _ _ => True) (fun _ U o U' => ∃ v L, o = .returned v ∧ Q2 Z q0 h0 n0 v U'.heap L ∧ FrameEnd U o U' L ({ frames := 1, cells := 0, slots := 0, locals := 17 } : Room).cells ({ frames := 1, cells := 0, slots := 0, locals := 17 } : Room).slots) := by
  refine MetFree.of_bodySF (plainFor_of_name pn_2) hisR ?_
  intro p e s m args below meth c s₁ Bd hml0 hP hK
  obtain ⟨rfl, hZ, hh⟩ := hP
  have hx := Bd.exec
  have hby := Bd.bytes
  have hml : c.maxLocals = 10 := hml0
  have hown : s.vm.findClass "com/example/occoquan/occoquan/SeededRandomMixPinLaw" = some m.cls := findClass_of_methodNamed Bd.named
  have hnm := (name_of_methodNamed Bd.named Bd.method).1
  have X0 : Stand p l e ({ frames := 1, cells := 0, slots := 0, locals := 17 } : Room) s m #[(.long q0)] below meth c s₁ [] 0 0 := Stand.of_body Bd
  have e0 : s₁.heap = h0 := by rw [← hh, Bd.state]; rfl
  have N0 := Fr.nil n0
  obtain ⟨F, hF⟩ : ∃ F : State → Prop, F = own_Fin p e below s ({ frames := 1, cells := 0, slots := 0, locals := 17 } : Room).cells ({ frames := 1, cells := 0, slots := 0, locals := 17 } : Room).slots (fun v h L => Q2 Z q0 h0 n0 v h L) := ⟨_, rfl⟩
  have bk : ∀ {A B : State}, (∀ t, Steps p.tables e below B t → Steps p.tables e below A t) → F B → F A := by
    intro A B h k
    rw [hF] at k ⊢
    exact own_back h k
  suffices hgo : F (s₁.setTop (mkF m 0 #[.val (.long q0), .second, .unset, .unset, .unset, .unset, .unset, .unset, .unset, .unset] [])) by
    have hgo' := bk (fun t k => castTop (T := s₁) (ef_2 m q0) k) hgo
    rw [hF] at hgo'
    exact hgo'
  have w_8 := hw _ (List.mem_of_getElem? (i := 8) rfl)
  have w_10 := hw _ (List.mem_of_getElem? (i := 10) rfl)
  have w_11 := hw _ (List.mem_of_getElem? (i := 11) rfl)
  have w_12 := hw _ (List.mem_of_getElem? (i := 12) rfl)
  have w_13 := hw _ (List.mem_of_getElem? (i := 13) rfl)
  have w_15 := hw _ (List.mem_of_getElem? (i := 15) rfl)
  show F (s₁.setTop (mkF m 0 #[.val (.long q0), .second, .unset, .unset, .unset, .unset, .unset, .unset, .unset, .unset] []))
  refine bk (fun t k => XS.lloadN X0.here hx rfl (hb hby d2_0) rfl k) ?_
  show F (s₁.setTop (mkF m 1 #[.val (.long q0), .second, .unset, .unset, .unset, .unset, .unset, .unset, .unset, .unset] [(.long q0)]))
  refine bk (fun t k => XS.lloadN X0.here hx rfl (hb hby d2_1) rfl k) ?_
  show F (s₁.setTop (mkF m 2 #[.val (.long q0), .second, .unset, .unset, .unset, .unset, .unset, .unset, .unset, .unset] [(.long q0), (.long q0)]))
  refine bk (fun t k => XS.bipush X0.here hx rfl (hb hby d2_2) k) ?_
  show F (s₁.setTop (mkF m 4 #[.val (.long q0), .second, .unset, .unset, .unset, .unset, .unset, .unset, .unset, .unset] [(.int (31 : Int32)), (.long q0), (.long q0)]))
  refine bk (fun t k => XS.lushr X0.here hx rfl (hb hby d2_4) rfl k) ?_
  show F (s₁.setTop (mkF m 5 #[.val (.long q0), .second, .unset, .unset, .unset, .unset, .unset, .unset, .unset, .unset] [(.long (own_ush q0 (31 : Int32))), (.long q0)]))
  refine bk (fun t k => XS.lxor X0.here hx rfl (hb hby d2_5) rfl k) ?_
  show F (s₁.setTop (mkF m 6 #[.val (.long q0), .second, .unset, .unset, .unset, .unset, .unset, .unset, .unset, .unset] [(.long (own_x1 q0 (31 : Int32)))]))
  refine bk (fun t k => XS.lloadN X0.here hx rfl (hb hby d2_6) rfl k) ?_
  show F (s₁.setTop (mkF m 7 #[.val (.long q0), .second, .unset, .unset, .unset, .unset, .unset, .unset, .unset, .unset] [(.long q0), (.long (own_x1 q0 (31 : Int32)))]))
  refine bk (fun t k => XS.bipush X0.here hx rfl (hb hby d2_7) k) ?_
  show F (s₁.setTop (mkF m 9 #[.val (.long q0), .second, .unset, .unset, .unset, .unset, .unset, .unset, .unset, .unset] [(.int (62 : Int32)), (.long q0), (.long (own_x1 q0 (31 : Int32)))]))
  refine bk (fun t k => XS.lushr X0.here hx rfl (hb hby d2_9) rfl k) ?_
  show F (s₁.setTop (mkF m 10 #[.val (.long q0), .second, .unset, .unset, .unset, .unset, .unset, .unset, .unset, .unset] [(.long (own_ush q0 (62 : Int32))), (.long (own_x1 q0 (31 : Int32)))]))
  refine bk (fun t k => XS.lxor X0.here hx rfl (hb hby d2_10) rfl k) ?_
  show F (s₁.setTop (mkF m 11 #[.val (.long q0), .second, .unset, .unset, .unset, .unset, .unset, .unset, .unset, .unset] [(.long (own_x2 q0 (31 : Int32) (62 : Int32)))]))
  refine bk (fun t k => XS.lstoreN X0.here hx rfl (hb hby d2_11) rfl (l' := #[.val (.long q0), .second, .val (.long (own_x2 q0 (31 : Int32) (62 : Int32))), .second, .unset, .unset, .unset, .unset, .unset, .unset]) rfl k) ?_
  show F (s₁.setTop (mkF m 12 #[.val (.long q0), .second, .val (.long (own_x2 q0 (31 : Int32) (62 : Int32))), .second, .unset, .unset, .unset, .unset, .unset, .unset] []))
  refine bk (fun t k => XS.lloadN X0.here hx rfl (hb hby d2_12) rfl k) ?_
  show F (s₁.setTop (mkF m 13 #[.val (.long q0), .second, .val (.long (own_x2 q0 (31 : Int32) (62 : Int32))), .second, .unset, .unset, .unset, .unset, .unset, .unset] [(.long (own_x2 q0 (31 : Int32) (62 : Int32)))]))
  refine bk (fun t k => X0.ldc2Long hx hown (mvT hZ w_10) (g := (mkF m 13 #[.val (.long q0), .second, .val (.long (own_x2 q0 (31 : Int32) (62 : Int32))), .second, .unset, .unset, .unset, .unset, .unset, .unset] [(.long (own_x2 q0 (31 : Int32) (62 : Int32)))])) rfl (hb hby d2_13) t k) ?_
  show F (s₁.setTop (mkF m 16 #[.val (.long q0), .second, .val (.long (own_x2 q0 (31 : Int32) (62 : Int32))), .second, .unset, .unset, .unset, .unset, .unset, .unset] [(.long (-7723592293110705685 : Int64)), (.long (own_x2 q0 (31 : Int32) (62 : Int32)))]))
  obtain ⟨_, _, ⟨T1, L1, k1, n1⟩, -, X1, ⟨Lc1, hQ1, l1, y1, z1⟩, st1⟩ := Jvm.LawKit.callS X0 hx (y := (⟨"com/example/occoquan/occoquan/SeededRandomMixPinLaw", "inv", "(J)J"⟩ : MethodName)) hown (mvT hZ w_11) (mvT hZ w_12) (mvT hZ w_8) (mvT hZ w_13) (by decide) (backOf (W := 2) (rm3 l Z a0 hw [] (-7723592293110705685 : Int64) h0 n0 Z0) hZ w_13 w_8 (by decide) (by decide)) (g := (mkF m 16 #[.val (.long q0), .second, .val (.long (own_x2 q0 (31 : Int32) (62 : Int32))), .second, .unset, .unset, .unset, .unset, .unset, .unset] [(.long (-7723592293110705685 : Int64)), (.long (own_x2 q0 (31 : Int32) (62 : Int32)))])) rfl (by rw [hml]; rfl) (argsL := [(.long (-7723592293110705685 : Int64))]) (rest := [(.long (own_x2 q0 (31 : Int32) (62 : Int32)))]) (lenOf pd2__J_J rfl) rfl (by show 2 * 0 + _ ≤ _; exact Nat.le_of_eq rfl) (hb hby d2_16) (fun _ _ => ⟨rfl, e0, (by decide : 0 + 0 ≤ _), (by decide : 0 + 0 ≤ _)⟩)
  dsimp only [Pt.U, Pt.locs, Pt.cells, Pt.slots] at X1 l1 y1 z1 st1 hQ1
  subst l1 y1 z1
  obtain ⟨rfl, N1q, e1⟩ := hQ1
  have N1 := Fr.app N0 N1q
  refine bk (fun t k => st1 t k) ?_
  show F (T1.setTop (mkF m 19 #[.val (.long q0), .second, .val (.long (own_x2 q0 (31 : Int32) (62 : Int32))), .second, .unset, .unset, .unset, .unset, .unset, .unset] [(.long (own_inv (-7723592293110705685 : Int64))), (.long (own_x2 q0 (31 : Int32) (62 : Int32)))]))
  refine bk (fun t k => XS.lmul X1.here hx rfl (hb hby d2_19) rfl k) ?_
  show F (T1.setTop (mkF m 20 #[.val (.long q0), .second, .val (.long (own_x2 q0 (31 : Int32) (62 : Int32))), .second, .unset, .unset, .unset, .unset, .unset, .unset] [(.long ((own_x2 q0 (31 : Int32) (62 : Int32)) * (own_inv (-7723592293110705685 : Int64))))]))
  refine bk (fun t k => XS.lstore X1.here hx rfl (hb hby d2_20) rfl (l' := #[.val (.long q0), .second, .val (.long (own_x2 q0 (31 : Int32) (62 : Int32))), .second, .val (.long ((own_x2 q0 (31 : Int32) (62 : Int32)) * (own_inv (-7723592293110705685 : Int64)))), .second, .unset, .unset, .unset, .unset]) rfl k) ?_
  show F (T1.setTop (mkF m 22 #[.val (.long q0), .second, .val (.long (own_x2 q0 (31 : Int32) (62 : Int32))), .second, .val (.long ((own_x2 q0 (31 : Int32) (62 : Int32)) * (own_inv (-7723592293110705685 : Int64)))), .second, .unset, .unset, .unset, .unset] []))
  refine bk (fun t k => XS.lload X1.here hx rfl (hb hby d2_22) rfl k) ?_
  show F (T1.setTop (mkF m 24 #[.val (.long q0), .second, .val (.long (own_x2 q0 (31 : Int32) (62 : Int32))), .second, .val (.long ((own_x2 q0 (31 : Int32) (62 : Int32)) * (own_inv (-7723592293110705685 : Int64)))), .second, .unset, .unset, .unset, .unset] [(.long ((own_x2 q0 (31 : Int32) (62 : Int32)) * (own_inv (-7723592293110705685 : Int64))))]))
  refine bk (fun t k => XS.lload X1.here hx rfl (hb hby d2_24) rfl k) ?_
  show F (T1.setTop (mkF m 26 #[.val (.long q0), .second, .val (.long (own_x2 q0 (31 : Int32) (62 : Int32))), .second, .val (.long ((own_x2 q0 (31 : Int32) (62 : Int32)) * (own_inv (-7723592293110705685 : Int64)))), .second, .unset, .unset, .unset, .unset] [(.long ((own_x2 q0 (31 : Int32) (62 : Int32)) * (own_inv (-7723592293110705685 : Int64)))), (.long ((own_x2 q0 (31 : Int32) (62 : Int32)) * (own_inv (-7723592293110705685 : Int64))))]))
  refine bk (fun t k => XS.bipush X1.here hx rfl (hb hby d2_26) k) ?_
  show F (T1.setTop (mkF m 28 #[.val (.long q0), .second, .val (.long (own_x2 q0 (31 : Int32) (62 : Int32))), .second, .val (.long ((own_x2 q0 (31 : Int32) (62 : Int32)) * (own_inv (-7723592293110705685 : Int64)))), .second, .unset, .unset, .unset, .unset] [(.int (27 : Int32)), (.long ((own_x2 q0 (31 : Int32) (62 : Int32)) * (own_inv (-7723592293110705685 : Int64)))), (.long ((own_x2 q0 (31 : Int32) (62 : Int32)) * (own_inv (-7723592293110705685 : Int64))))]))
  refine bk (fun t k => XS.lushr X1.here hx rfl (hb hby d2_28) rfl k) ?_
  show F (T1.setTop (mkF m 29 #[.val (.long q0), .second, .val (.long (own_x2 q0 (31 : Int32) (62 : Int32))), .second, .val (.long ((own_x2 q0 (31 : Int32) (62 : Int32)) * (own_inv (-7723592293110705685 : Int64)))), .second, .unset, .unset, .unset, .unset] [(.long (own_ush ((own_x2 q0 (31 : Int32) (62 : Int32)) * (own_inv (-7723592293110705685 : Int64))) (27 : Int32))), (.long ((own_x2 q0 (31 : Int32) (62 : Int32)) * (own_inv (-7723592293110705685 : Int64))))]))
  refine bk (fun t k => XS.lxor X1.here hx rfl (hb hby d2_29) rfl k) ?_
  show F (T1.setTop (mkF m 30 #[.val (.long q0), .second, .val (.long (own_x2 q0 (31 : Int32) (62 : Int32))), .second, .val (.long ((own_x2 q0 (31 : Int32) (62 : Int32)) * (own_inv (-7723592293110705685 : Int64)))), .second, .unset, .unset, .unset, .unset] [(.long (own_x1 ((own_x2 q0 (31 : Int32) (62 : Int32)) * (own_inv (-7723592293110705685 : Int64))) (27 : Int32)))]))
  refine bk (fun t k => XS.lload X1.here hx rfl (hb hby d2_30) rfl k) ?_
  show F (T1.setTop (mkF m 32 #[.val (.long q0), .second, .val (.long (own_x2 q0 (31 : Int32) (62 : Int32))), .second, .val (.long ((own_x2 q0 (31 : Int32) (62 : Int32)) * (own_inv (-7723592293110705685 : Int64)))), .second, .unset, .unset, .unset, .unset] [(.long ((own_x2 q0 (31 : Int32) (62 : Int32)) * (own_inv (-7723592293110705685 : Int64)))), (.long (own_x1 ((own_x2 q0 (31 : Int32) (62 : Int32)) * (own_inv (-7723592293110705685 : Int64))) (27 : Int32)))]))
  refine bk (fun t k => XS.bipush X1.here hx rfl (hb hby d2_32) k) ?_
  show F (T1.setTop (mkF m 34 #[.val (.long q0), .second, .val (.long (own_x2 q0 (31 : Int32) (62 : Int32))), .second, .val (.long ((own_x2 q0 (31 : Int32) (62 : Int32)) * (own_inv (-7723592293110705685 : Int64)))), .second, .unset, .unset, .unset, .unset] [(.int (54 : Int32)), (.long ((own_x2 q0 (31 : Int32) (62 : Int32)) * (own_inv (-7723592293110705685 : Int64)))), (.long (own_x1 ((own_x2 q0 (31 : Int32) (62 : Int32)) * (own_inv (-7723592293110705685 : Int64))) (27 : Int32)))]))
  refine bk (fun t k => XS.lushr X1.here hx rfl (hb hby d2_34) rfl k) ?_
  show F (T1.setTop (mkF m 35 #[.val (.long q0), .second, .val (.long (own_x2 q0 (31 : Int32) (62 : Int32))), .second, .val (.long ((own_x2 q0 (31 : Int32) (62 : Int32)) * (own_inv (-7723592293110705685 : Int64)))), .second, .unset, .unset, .unset, .unset] [(.long (own_ush ((own_x2 q0 (31 : Int32) (62 : Int32)) * (own_inv (-7723592293110705685 : Int64))) (54 : Int32))), (.long (own_x1 ((own_x2 q0 (31 : Int32) (62 : Int32)) * (own_inv (-7723592293110705685 : Int64))) (27 : Int32)))]))
  refine bk (fun t k => XS.lxor X1.here hx rfl (hb hby d2_35) rfl k) ?_
  show F (T1.setTop (mkF m 36 #[.val (.long q0), .second, .val (.long (own_x2 q0 (31 : Int32) (62 : Int32))), .second, .val (.long ((own_x2 q0 (31 : Int32) (62 : Int32)) * (own_inv (-7723592293110705685 : Int64)))), .second, .unset, .unset, .unset, .unset] [(.long (own_x2 ((own_x2 q0 (31 : Int32) (62 : Int32)) * (own_inv (-7723592293110705685 : Int64))) (27 : Int32) (54 : Int32)))]))
  refine bk (fun t k => XS.lstore X1.here hx rfl (hb hby d2_36) rfl (l' := #[.val (.long q0), .second, .val (.long (own_x2 q0 (31 : Int32) (62 : Int32))), .second, .val (.long ((own_x2 q0 (31 : Int32) (62 : Int32)) * (own_inv (-7723592293110705685 : Int64)))), .second, .val (.long (own_x2 ((own_x2 q0 (31 : Int32) (62 : Int32)) * (own_inv (-7723592293110705685 : Int64))) (27 : Int32) (54 : Int32))), .second, .unset, .unset]) rfl k) ?_
  show F (T1.setTop (mkF m 38 #[.val (.long q0), .second, .val (.long (own_x2 q0 (31 : Int32) (62 : Int32))), .second, .val (.long ((own_x2 q0 (31 : Int32) (62 : Int32)) * (own_inv (-7723592293110705685 : Int64)))), .second, .val (.long (own_x2 ((own_x2 q0 (31 : Int32) (62 : Int32)) * (own_inv (-7723592293110705685 : Int64))) (27 : Int32) (54 : Int32))), .second, .unset, .unset] []))
  refine bk (fun t k => XS.lload X1.here hx rfl (hb hby d2_38) rfl k) ?_
  show F (T1.setTop (mkF m 40 #[.val (.long q0), .second, .val (.long (own_x2 q0 (31 : Int32) (62 : Int32))), .second, .val (.long ((own_x2 q0 (31 : Int32) (62 : Int32)) * (own_inv (-7723592293110705685 : Int64)))), .second, .val (.long (own_x2 ((own_x2 q0 (31 : Int32) (62 : Int32)) * (own_inv (-7723592293110705685 : Int64))) (27 : Int32) (54 : Int32))), .second, .unset, .unset] [(.long (own_x2 ((own_x2 q0 (31 : Int32) (62 : Int32)) * (own_inv (-7723592293110705685 : Int64))) (27 : Int32) (54 : Int32)))]))
  refine bk (fun t k => X1.ldc2Long hx hown (mvT hZ w_15) (g := (mkF m 40 #[.val (.long q0), .second, .val (.long (own_x2 q0 (31 : Int32) (62 : Int32))), .second, .val (.long ((own_x2 q0 (31 : Int32) (62 : Int32)) * (own_inv (-7723592293110705685 : Int64)))), .second, .val (.long (own_x2 ((own_x2 q0 (31 : Int32) (62 : Int32)) * (own_inv (-7723592293110705685 : Int64))) (27 : Int32) (54 : Int32))), .second, .unset, .unset] [(.long (own_x2 ((own_x2 q0 (31 : Int32) (62 : Int32)) * (own_inv (-7723592293110705685 : Int64))) (27 : Int32) (54 : Int32)))])) rfl (hb hby d2_40) t k) ?_
  show F (T1.setTop (mkF m 43 #[.val (.long q0), .second, .val (.long (own_x2 q0 (31 : Int32) (62 : Int32))), .second, .val (.long ((own_x2 q0 (31 : Int32) (62 : Int32)) * (own_inv (-7723592293110705685 : Int64)))), .second, .val (.long (own_x2 ((own_x2 q0 (31 : Int32) (62 : Int32)) * (own_inv (-7723592293110705685 : Int64))) (27 : Int32) (54 : Int32))), .second, .unset, .unset] [(.long (-4658895280553007687 : Int64)), (.long (own_x2 ((own_x2 q0 (31 : Int32) (62 : Int32)) * (own_inv (-7723592293110705685 : Int64))) (27 : Int32) (54 : Int32)))]))
  obtain ⟨_, _, ⟨T2, L2, k2, n2⟩, -, X2, ⟨Lc2, hQ2, l2, y2, z2⟩, st2⟩ := Jvm.LawKit.callS X1 hx (y := (⟨"com/example/occoquan/occoquan/SeededRandomMixPinLaw", "inv", "(J)J"⟩ : MethodName)) hown (mvT hZ w_11) (mvT hZ w_12) (mvT hZ w_8) (mvT hZ w_13) (by decide) (backOf (W := 2) (rm3 l Z a0 hw [] (-4658895280553007687 : Int64) h0 n0 Z0) hZ w_13 w_8 (by decide) (by decide)) (g := (mkF m 43 #[.val (.long q0), .second, .val (.long (own_x2 q0 (31 : Int32) (62 : Int32))), .second, .val (.long ((own_x2 q0 (31 : Int32) (62 : Int32)) * (own_inv (-7723592293110705685 : Int64)))), .second, .val (.long (own_x2 ((own_x2 q0 (31 : Int32) (62 : Int32)) * (own_inv (-7723592293110705685 : Int64))) (27 : Int32) (54 : Int32))), .second, .unset, .unset] [(.long (-4658895280553007687 : Int64)), (.long (own_x2 ((own_x2 q0 (31 : Int32) (62 : Int32)) * (own_inv (-7723592293110705685 : Int64))) (27 : Int32) (54 : Int32)))])) rfl (by rw [hml]; rfl) (argsL := [(.long (-4658895280553007687 : Int64))]) (rest := [(.long (own_x2 ((own_x2 q0 (31 : Int32) (62 : Int32)) * (own_inv (-7723592293110705685 : Int64))) (27 : Int32) (54 : Int32)))]) (lenOf pd2__J_J rfl) rfl (by show 2 * 0 + _ ≤ _; exact Nat.le_of_eq rfl) (hb hby d2_43) (fun _ _ => ⟨rfl, e1, (by decide : 0 + 0 ≤ _), (by decide : 0 + 0 ≤ _)⟩)
  dsimp only [Pt.U, Pt.locs, Pt.cells, Pt.slots] at X2 l2 y2 z2 st2 hQ2
  subst l2 y2 z2
  obtain ⟨rfl, N2q, e2⟩ := hQ2
  have N2 := Fr.app N1 N2q
  refine bk (fun t k => st2 t k) ?_
  show F (T2.setTop (mkF m 46 #[.val (.long q0), .second, .val (.long (own_x2 q0 (31 : Int32) (62 : Int32))), .second, .val (.long ((own_x2 q0 (31 : Int32) (62 : Int32)) * (own_inv (-7723592293110705685 : Int64)))), .second, .val (.long (own_x2 ((own_x2 q0 (31 : Int32) (62 : Int32)) * (own_inv (-7723592293110705685 : Int64))) (27 : Int32) (54 : Int32))), .second, .unset, .unset] [(.long (own_inv (-4658895280553007687 : Int64))), (.long (own_x2 ((own_x2 q0 (31 : Int32) (62 : Int32)) * (own_inv (-7723592293110705685 : Int64))) (27 : Int32) (54 : Int32)))]))
  refine bk (fun t k => XS.lmul X2.here hx rfl (hb hby d2_46) rfl k) ?_
  show F (T2.setTop (mkF m 47 #[.val (.long q0), .second, .val (.long (own_x2 q0 (31 : Int32) (62 : Int32))), .second, .val (.long ((own_x2 q0 (31 : Int32) (62 : Int32)) * (own_inv (-7723592293110705685 : Int64)))), .second, .val (.long (own_x2 ((own_x2 q0 (31 : Int32) (62 : Int32)) * (own_inv (-7723592293110705685 : Int64))) (27 : Int32) (54 : Int32))), .second, .unset, .unset] [(.long ((own_x2 ((own_x2 q0 (31 : Int32) (62 : Int32)) * (own_inv (-7723592293110705685 : Int64))) (27 : Int32) (54 : Int32)) * (own_inv (-4658895280553007687 : Int64))))]))
  refine bk (fun t k => XS.lstore X2.here hx rfl (hb hby d2_47) rfl (l' := #[.val (.long q0), .second, .val (.long (own_x2 q0 (31 : Int32) (62 : Int32))), .second, .val (.long ((own_x2 q0 (31 : Int32) (62 : Int32)) * (own_inv (-7723592293110705685 : Int64)))), .second, .val (.long (own_x2 ((own_x2 q0 (31 : Int32) (62 : Int32)) * (own_inv (-7723592293110705685 : Int64))) (27 : Int32) (54 : Int32))), .second, .val (.long ((own_x2 ((own_x2 q0 (31 : Int32) (62 : Int32)) * (own_inv (-7723592293110705685 : Int64))) (27 : Int32) (54 : Int32)) * (own_inv (-4658895280553007687 : Int64)))), .second]) rfl k) ?_
  show F (T2.setTop (mkF m 49 #[.val (.long q0), .second, .val (.long (own_x2 q0 (31 : Int32) (62 : Int32))), .second, .val (.long ((own_x2 q0 (31 : Int32) (62 : Int32)) * (own_inv (-7723592293110705685 : Int64)))), .second, .val (.long (own_x2 ((own_x2 q0 (31 : Int32) (62 : Int32)) * (own_inv (-7723592293110705685 : Int64))) (27 : Int32) (54 : Int32))), .second, .val (.long ((own_x2 ((own_x2 q0 (31 : Int32) (62 : Int32)) * (own_inv (-7723592293110705685 : Int64))) (27 : Int32) (54 : Int32)) * (own_inv (-4658895280553007687 : Int64)))), .second] []))
  refine bk (fun t k => XS.lload X2.here hx rfl (hb hby d2_49) rfl k) ?_
  show F (T2.setTop (mkF m 51 #[.val (.long q0), .second, .val (.long (own_x2 q0 (31 : Int32) (62 : Int32))), .second, .val (.long ((own_x2 q0 (31 : Int32) (62 : Int32)) * (own_inv (-7723592293110705685 : Int64)))), .second, .val (.long (own_x2 ((own_x2 q0 (31 : Int32) (62 : Int32)) * (own_inv (-7723592293110705685 : Int64))) (27 : Int32) (54 : Int32))), .second, .val (.long ((own_x2 ((own_x2 q0 (31 : Int32) (62 : Int32)) * (own_inv (-7723592293110705685 : Int64))) (27 : Int32) (54 : Int32)) * (own_inv (-4658895280553007687 : Int64)))), .second] [(.long ((own_x2 ((own_x2 q0 (31 : Int32) (62 : Int32)) * (own_inv (-7723592293110705685 : Int64))) (27 : Int32) (54 : Int32)) * (own_inv (-4658895280553007687 : Int64))))]))
  refine bk (fun t k => XS.lload X2.here hx rfl (hb hby d2_51) rfl k) ?_
  show F (T2.setTop (mkF m 53 #[.val (.long q0), .second, .val (.long (own_x2 q0 (31 : Int32) (62 : Int32))), .second, .val (.long ((own_x2 q0 (31 : Int32) (62 : Int32)) * (own_inv (-7723592293110705685 : Int64)))), .second, .val (.long (own_x2 ((own_x2 q0 (31 : Int32) (62 : Int32)) * (own_inv (-7723592293110705685 : Int64))) (27 : Int32) (54 : Int32))), .second, .val (.long ((own_x2 ((own_x2 q0 (31 : Int32) (62 : Int32)) * (own_inv (-7723592293110705685 : Int64))) (27 : Int32) (54 : Int32)) * (own_inv (-4658895280553007687 : Int64)))), .second] [(.long ((own_x2 ((own_x2 q0 (31 : Int32) (62 : Int32)) * (own_inv (-7723592293110705685 : Int64))) (27 : Int32) (54 : Int32)) * (own_inv (-4658895280553007687 : Int64)))), (.long ((own_x2 ((own_x2 q0 (31 : Int32) (62 : Int32)) * (own_inv (-7723592293110705685 : Int64))) (27 : Int32) (54 : Int32)) * (own_inv (-4658895280553007687 : Int64))))]))
  refine bk (fun t k => XS.bipush X2.here hx rfl (hb hby d2_53) k) ?_
  show F (T2.setTop (mkF m 55 #[.val (.long q0), .second, .val (.long (own_x2 q0 (31 : Int32) (62 : Int32))), .second, .val (.long ((own_x2 q0 (31 : Int32) (62 : Int32)) * (own_inv (-7723592293110705685 : Int64)))), .second, .val (.long (own_x2 ((own_x2 q0 (31 : Int32) (62 : Int32)) * (own_inv (-7723592293110705685 : Int64))) (27 : Int32) (54 : Int32))), .second, .val (.long ((own_x2 ((own_x2 q0 (31 : Int32) (62 : Int32)) * (own_inv (-7723592293110705685 : Int64))) (27 : Int32) (54 : Int32)) * (own_inv (-4658895280553007687 : Int64)))), .second] [(.int (30 : Int32)), (.long ((own_x2 ((own_x2 q0 (31 : Int32) (62 : Int32)) * (own_inv (-7723592293110705685 : Int64))) (27 : Int32) (54 : Int32)) * (own_inv (-4658895280553007687 : Int64)))), (.long ((own_x2 ((own_x2 q0 (31 : Int32) (62 : Int32)) * (own_inv (-7723592293110705685 : Int64))) (27 : Int32) (54 : Int32)) * (own_inv (-4658895280553007687 : Int64))))]))
  refine bk (fun t k => XS.lushr X2.here hx rfl (hb hby d2_55) rfl k) ?_
  show F (T2.setTop (mkF m 56 #[.val (.long q0), .second, .val (.long (own_x2 q0 (31 : Int32) (62 : Int32))), .second, .val (.long ((own_x2 q0 (31 : Int32) (62 : Int32)) * (own_inv (-7723592293110705685 : Int64)))), .second, .val (.long (own_x2 ((own_x2 q0 (31 : Int32) (62 : Int32)) * (own_inv (-7723592293110705685 : Int64))) (27 : Int32) (54 : Int32))), .second, .val (.long ((own_x2 ((own_x2 q0 (31 : Int32) (62 : Int32)) * (own_inv (-7723592293110705685 : Int64))) (27 : Int32) (54 : Int32)) * (own_inv (-4658895280553007687 : Int64)))), .second] [(.long (own_ush ((own_x2 ((own_x2 q0 (31 : Int32) (62 : Int32)) * (own_inv (-7723592293110705685 : Int64))) (27 : Int32) (54 : Int32)) * (own_inv (-4658895280553007687 : Int64))) (30 : Int32))), (.long ((own_x2 ((own_x2 q0 (31 : Int32) (62 : Int32)) * (own_inv (-7723592293110705685 : Int64))) (27 : Int32) (54 : Int32)) * (own_inv (-4658895280553007687 : Int64))))]))
  refine bk (fun t k => XS.lxor X2.here hx rfl (hb hby d2_56) rfl k) ?_
  show F (T2.setTop (mkF m 57 #[.val (.long q0), .second, .val (.long (own_x2 q0 (31 : Int32) (62 : Int32))), .second, .val (.long ((own_x2 q0 (31 : Int32) (62 : Int32)) * (own_inv (-7723592293110705685 : Int64)))), .second, .val (.long (own_x2 ((own_x2 q0 (31 : Int32) (62 : Int32)) * (own_inv (-7723592293110705685 : Int64))) (27 : Int32) (54 : Int32))), .second, .val (.long ((own_x2 ((own_x2 q0 (31 : Int32) (62 : Int32)) * (own_inv (-7723592293110705685 : Int64))) (27 : Int32) (54 : Int32)) * (own_inv (-4658895280553007687 : Int64)))), .second] [(.long (own_x1 ((own_x2 ((own_x2 q0 (31 : Int32) (62 : Int32)) * (own_inv (-7723592293110705685 : Int64))) (27 : Int32) (54 : Int32)) * (own_inv (-4658895280553007687 : Int64))) (30 : Int32)))]))
  refine bk (fun t k => XS.lload X2.here hx rfl (hb hby d2_57) rfl k) ?_
  show F (T2.setTop (mkF m 59 #[.val (.long q0), .second, .val (.long (own_x2 q0 (31 : Int32) (62 : Int32))), .second, .val (.long ((own_x2 q0 (31 : Int32) (62 : Int32)) * (own_inv (-7723592293110705685 : Int64)))), .second, .val (.long (own_x2 ((own_x2 q0 (31 : Int32) (62 : Int32)) * (own_inv (-7723592293110705685 : Int64))) (27 : Int32) (54 : Int32))), .second, .val (.long ((own_x2 ((own_x2 q0 (31 : Int32) (62 : Int32)) * (own_inv (-7723592293110705685 : Int64))) (27 : Int32) (54 : Int32)) * (own_inv (-4658895280553007687 : Int64)))), .second] [(.long ((own_x2 ((own_x2 q0 (31 : Int32) (62 : Int32)) * (own_inv (-7723592293110705685 : Int64))) (27 : Int32) (54 : Int32)) * (own_inv (-4658895280553007687 : Int64)))), (.long (own_x1 ((own_x2 ((own_x2 q0 (31 : Int32) (62 : Int32)) * (own_inv (-7723592293110705685 : Int64))) (27 : Int32) (54 : Int32)) * (own_inv (-4658895280553007687 : Int64))) (30 : Int32)))]))
  refine bk (fun t k => XS.bipush X2.here hx rfl (hb hby d2_59) k) ?_
  show F (T2.setTop (mkF m 61 #[.val (.long q0), .second, .val (.long (own_x2 q0 (31 : Int32) (62 : Int32))), .second, .val (.long ((own_x2 q0 (31 : Int32) (62 : Int32)) * (own_inv (-7723592293110705685 : Int64)))), .second, .val (.long (own_x2 ((own_x2 q0 (31 : Int32) (62 : Int32)) * (own_inv (-7723592293110705685 : Int64))) (27 : Int32) (54 : Int32))), .second, .val (.long ((own_x2 ((own_x2 q0 (31 : Int32) (62 : Int32)) * (own_inv (-7723592293110705685 : Int64))) (27 : Int32) (54 : Int32)) * (own_inv (-4658895280553007687 : Int64)))), .second] [(.int (60 : Int32)), (.long ((own_x2 ((own_x2 q0 (31 : Int32) (62 : Int32)) * (own_inv (-7723592293110705685 : Int64))) (27 : Int32) (54 : Int32)) * (own_inv (-4658895280553007687 : Int64)))), (.long (own_x1 ((own_x2 ((own_x2 q0 (31 : Int32) (62 : Int32)) * (own_inv (-7723592293110705685 : Int64))) (27 : Int32) (54 : Int32)) * (own_inv (-4658895280553007687 : Int64))) (30 : Int32)))]))
  refine bk (fun t k => XS.lushr X2.here hx rfl (hb hby d2_61) rfl k) ?_
  show F (T2.setTop (mkF m 62 #[.val (.long q0), .second, .val (.long (own_x2 q0 (31 : Int32) (62 : Int32))), .second, .val (.long ((own_x2 q0 (31 : Int32) (62 : Int32)) * (own_inv (-7723592293110705685 : Int64)))), .second, .val (.long (own_x2 ((own_x2 q0 (31 : Int32) (62 : Int32)) * (own_inv (-7723592293110705685 : Int64))) (27 : Int32) (54 : Int32))), .second, .val (.long ((own_x2 ((own_x2 q0 (31 : Int32) (62 : Int32)) * (own_inv (-7723592293110705685 : Int64))) (27 : Int32) (54 : Int32)) * (own_inv (-4658895280553007687 : Int64)))), .second] [(.long (own_ush ((own_x2 ((own_x2 q0 (31 : Int32) (62 : Int32)) * (own_inv (-7723592293110705685 : Int64))) (27 : Int32) (54 : Int32)) * (own_inv (-4658895280553007687 : Int64))) (60 : Int32))), (.long (own_x1 ((own_x2 ((own_x2 q0 (31 : Int32) (62 : Int32)) * (own_inv (-7723592293110705685 : Int64))) (27 : Int32) (54 : Int32)) * (own_inv (-4658895280553007687 : Int64))) (30 : Int32)))]))
  refine bk (fun t k => XS.lxor X2.here hx rfl (hb hby d2_62) rfl k) ?_
  show F (T2.setTop (mkF m 63 #[.val (.long q0), .second, .val (.long (own_x2 q0 (31 : Int32) (62 : Int32))), .second, .val (.long ((own_x2 q0 (31 : Int32) (62 : Int32)) * (own_inv (-7723592293110705685 : Int64)))), .second, .val (.long (own_x2 ((own_x2 q0 (31 : Int32) (62 : Int32)) * (own_inv (-7723592293110705685 : Int64))) (27 : Int32) (54 : Int32))), .second, .val (.long ((own_x2 ((own_x2 q0 (31 : Int32) (62 : Int32)) * (own_inv (-7723592293110705685 : Int64))) (27 : Int32) (54 : Int32)) * (own_inv (-4658895280553007687 : Int64)))), .second] [(.long (own_x2 ((own_x2 ((own_x2 q0 (31 : Int32) (62 : Int32)) * (own_inv (-7723592293110705685 : Int64))) (27 : Int32) (54 : Int32)) * (own_inv (-4658895280553007687 : Int64))) (30 : Int32) (60 : Int32)))]))
  rw [hF]
  refine own_retJ X2 hx Bd.notSynchronized Bd.returns (hb hby d2_63) (by decide) (by decide) ?_
  rw [e2]
  exact ⟨rfl, N2, rfl⟩
theorem pd0__J_J : parseMethodDescriptor "(J)J" = some ⟨[.long], some .long⟩ := by decide +kernel
theorem pn_0 : plainName "com/example/occoquan/occoquan/SeededRandomMixPinLaw" = true := by first | (simp [plainName, overriddenIn]; done) | decide +kernel
theorem ef_0 (m : MethodId) (x0 : Int64) (x1 : Int64) : entryFrame m #[(.long x0), (.long x1)] maxLocals = mkF m 0 #[.val (.long x0), .second, .val (.long x1), .second, .unset, .unset, .unset] [] := by first | (simp [entryFrame, mkF, argsToLocals, Value.category, maxLocals]; done) | rfl
def Q0 (Z : State) (q0 : Int64) (q1 : Int64) (h0 : Heap) (n0 : Nat) (v : Option Value) (h : Heap) (L : List Loc) : Prop := v = some (.int (1 : Int32)) ∧ Fr n0 L
set_option maxRecDepth 65536 in
set_option maxHeartbeats 40000000 in
theorem rm0 (l : Launch) (Z : State) (a0 : Array Value) (hw : ∀ d ∈ tables_1, d.before a0 Z = true) (ws : List Jvm.Cond) (q0 : Int64) (q1 : Int64) (h0 : Heap) (n0 : Nat) (Z0 : n0 ≤ h0.size) :
    MetFree l x (head1 (Jvm.Cond.code x code maxLocals ret :: ws) room_1) (fun a U => a = #[(.long q0), (.long q1)] ∧ Z.Warmed39 U.vm ∧ U.heap = h0) (fun _ _ _ _ _ => True) (fun _ U o U' => ∃ v L, o = .returned v ∧ Q0 Z q0 q1 h0 n0 v U'.heap L ∧ FrameEnd U o U' L room_1.cells room_1.slots) := by
  refine MetFree.of_bodySF (plainFor_of_name pn_0) hisR ?_
  intro p e s m args below meth c s₁ Bd hml0 hP hK
  obtain ⟨rfl, hZ, hh⟩ := hP
  have hx := Bd.exec
  have hby := Bd.bytes
  have hml : c.maxLocals = 7 := hml0
  have hown : s.vm.findClass "com/example/occoquan/occoquan/SeededRandomMixPinLaw" = some m.cls := findClass_of_methodNamed Bd.named
  have hnm := (name_of_methodNamed Bd.named Bd.method).1
  have X0 : Stand p l e room_1 s m #[(.long q0), (.long q1)] below meth c s₁ [] 0 0 := Stand.of_body Bd
  have e0 : s₁.heap = h0 := by rw [← hh, Bd.state]; rfl
  have N0 := Fr.nil n0
  obtain ⟨F, hF⟩ : ∃ F : State → Prop, F = own_Fin p e below s room_1.cells room_1.slots (fun v h L => Q0 Z q0 q1 h0 n0 v h L) := ⟨_, rfl⟩
  have bk : ∀ {A B : State}, (∀ t, Steps p.tables e below B t → Steps p.tables e below A t) → F B → F A := by
    intro A B h k
    rw [hF] at k ⊢
    exact own_back h k
  suffices hgo : F (s₁.setTop (mkF m 0 #[.val (.long q0), .second, .val (.long q1), .second, .unset, .unset, .unset] [])) by
    have hgo' := bk (fun t k => castTop (T := s₁) (ef_0 m q0 q1) k) hgo
    rw [hF] at hgo'
    exact hgo'
  show F (s₁.setTop (mkF m 0 #[.val (.long q0), .second, .val (.long q1), .second, .unset, .unset, .unset] []))
  refine bk (fun t k => XS.lconst X0.here hx rfl (hb hby at_0) k) ?_
  show F (s₁.setTop (mkF m 1 #[.val (.long q0), .second, .val (.long q1), .second, .unset, .unset, .unset] [(.long (0 : Int64))]))
  obtain ⟨_, _, ⟨T1, L1, k1, n1⟩, -, X1, ⟨Lc1, hQ1, l1, y1, z1⟩, st1⟩ := Jvm.LawKit.callS X0 hx (y := (⟨"com/example/occoquan/occoquan/SeededRandom", "mix", "(J)J"⟩ : MethodName)) hown (mvT hZ (hw _ (List.mem_of_getElem? (i := 0) rfl))) (mvT hZ (hw _ (List.mem_of_getElem? (i := 1) rfl))) (mvT hZ (hw _ (List.mem_of_getElem? (i := 2) rfl))) (mvT hZ (hw _ (List.mem_of_getElem? (i := 3) rfl))) (by decide) (backOf (W := 0) (rm1 l Z a0 hw [] (0 : Int64) h0 n0 Z0) hZ (hw _ (List.mem_of_getElem? (i := 3) rfl)) (hw _ (List.mem_of_getElem? (i := 2) rfl)) (by decide) (by decide)) (g := (mkF m 1 #[.val (.long q0), .second, .val (.long q1), .second, .unset, .unset, .unset] [(.long (0 : Int64))])) rfl (by rw [hml]; rfl) (argsL := [(.long (0 : Int64))]) (rest := []) (lenOf pd0__J_J rfl) rfl (by show 2 * 0 + _ ≤ _; exact Nat.le_of_eq rfl) (hb hby at_1) (fun _ _ => ⟨rfl, e0, (by decide : 0 + 0 ≤ _), (by decide : 0 + 0 ≤ _)⟩)
  dsimp only [Pt.U, Pt.locs, Pt.cells, Pt.slots] at X1 l1 y1 z1 st1 hQ1
  subst l1 y1 z1
  obtain ⟨rfl, N1q, e1⟩ := hQ1
  have N1 := Fr.app N0 N1q
  refine bk (fun t k => st1 t k) ?_
  show F (T1.setTop (mkF m 4 #[.val (.long q0), .second, .val (.long q1), .second, .unset, .unset, .unset] [(.long (own_mix (0 : Int64)))]))
  refine bk (fun t k => XS.lconst X1.here hx rfl (hb hby at_4) k) ?_
  show F (T1.setTop (mkF m 5 #[.val (.long q0), .second, .val (.long q1), .second, .unset, .unset, .unset] [(.long (0 : Int64)), (.long (own_mix (0 : Int64)))]))
  refine bk (fun t k => XS.lcmp X1.here hx rfl (hb hby at_5) rfl k) ?_
  show F (T1.setTop (mkF m 6 #[.val (.long q0), .second, .val (.long q1), .second, .unset, .unset, .unset] [(.int (lcmpW (own_mix (0 : Int64)) (0 : Int64)))]))
  refine bk (fun t k => XS.ifNo X1.here hx rfl (hb hby at_6) rfl ((if0 _ _).trans (teq ((lw_eq _ _).mpr own_m0)).2) k) ?_
  show F (T1.setTop (mkF m 9 #[.val (.long q0), .second, .val (.long q1), .second, .unset, .unset, .unset] []))
  refine bk (fun t k => XS.iconst X1.here hx rfl (hb hby at_9) k) ?_
  show F (T1.setTop (mkF m 10 #[.val (.long q0), .second, .val (.long q1), .second, .unset, .unset, .unset] [(.int (1 : Int32))]))
  refine bk (fun t k => XS.goto X1.here hx rfl (pc0 := 10) (pc' := 14) rfl (hb hby at_10) (by decide) (by decide) k) ?_
  show F (T1.setTop (mkF m 14 #[.val (.long q0), .second, .val (.long q1), .second, .unset, .unset, .unset] [(.int (1 : Int32))]))
  refine bk (fun t k => XS.istore X1.here hx rfl (hb hby at_14) rfl (l' := #[.val (.long q0), .second, .val (.long q1), .second, .val (.int (1 : Int32)), .unset, .unset]) rfl k) ?_
  show F (T1.setTop (mkF m 16 #[.val (.long q0), .second, .val (.long q1), .second, .val (.int (1 : Int32)), .unset, .unset] []))
  refine bk (fun t k => XS.lloadN X1.here hx rfl (hb hby at_16) rfl k) ?_
  show F (T1.setTop (mkF m 17 #[.val (.long q0), .second, .val (.long q1), .second, .val (.int (1 : Int32)), .unset, .unset] [(.long q0)]))
  obtain ⟨_, _, ⟨T2, L2, k2, n2⟩, -, X2, ⟨Lc2, hQ2, l2, y2, z2⟩, st2⟩ := Jvm.LawKit.callS X1 hx (y := (⟨"com/example/occoquan/occoquan/SeededRandom", "mix", "(J)J"⟩ : MethodName)) hown (mvT hZ (hw _ (List.mem_of_getElem? (i := 0) rfl))) (mvT hZ (hw _ (List.mem_of_getElem? (i := 1) rfl))) (mvT hZ (hw _ (List.mem_of_getElem? (i := 2) rfl))) (mvT hZ (hw _ (List.mem_of_getElem? (i := 3) rfl))) (by decide) (backOf (W := 0) (rm1 l Z a0 hw [] q0 h0 n0 Z0) hZ (hw _ (List.mem_of_getElem? (i := 3) rfl)) (hw _ (List.mem_of_getElem? (i := 2) rfl)) (by decide) (by decide)) (g := (mkF m 17 #[.val (.long q0), .second, .val (.long q1), .second, .val (.int (1 : Int32)), .unset, .unset] [(.long q0)])) rfl (by rw [hml]; rfl) (argsL := [(.long q0)]) (rest := []) (lenOf pd0__J_J rfl) rfl (by show 2 * 0 + _ ≤ _; exact Nat.le_of_eq rfl) (hb hby at_17) (fun _ _ => ⟨rfl, e1, (by decide : 0 + 0 ≤ _), (by decide : 0 + 0 ≤ _)⟩)
  dsimp only [Pt.U, Pt.locs, Pt.cells, Pt.slots] at X2 l2 y2 z2 st2 hQ2
  subst l2 y2 z2
  obtain ⟨rfl, N2q, e2⟩ := hQ2
  have N2 := Fr.app N1 N2q
  refine bk (fun t k => st2 t k) ?_
  show F (T2.setTop (mkF m 20 #[.val (.long q0), .second, .val (.long q1), .second, .val (.int (1 : Int32)), .unset, .unset] [(.long (own_mix q0))]))
  obtain ⟨_, _, ⟨T3, L3, k3, n3⟩, -, X3, ⟨Lc3, hQ3, l3, y3, z3⟩, st3⟩ := Jvm.LawKit.callS X2 hx (y := (⟨"com/example/occoquan/occoquan/SeededRandomMixPinLaw", "unmix", "(J)J"⟩ : MethodName)) hown (mvT hZ (hw _ (List.mem_of_getElem? (i := 6) rfl))) (mvT hZ (hw _ (List.mem_of_getElem? (i := 7) rfl))) (mvT hZ (hw _ (List.mem_of_getElem? (i := 8) rfl))) (mvT hZ (hw _ (List.mem_of_getElem? (i := 9) rfl))) (by decide) (backOf (W := 0) (rm2 l Z a0 hw [] (own_mix q0) h0 n0 Z0) hZ (hw _ (List.mem_of_getElem? (i := 9) rfl)) (hw _ (List.mem_of_getElem? (i := 8) rfl)) (by decide) (by decide)) (g := (mkF m 20 #[.val (.long q0), .second, .val (.long q1), .second, .val (.int (1 : Int32)), .unset, .unset] [(.long (own_mix q0))])) rfl (by rw [hml]; rfl) (argsL := [(.long (own_mix q0))]) (rest := []) (lenOf pd0__J_J rfl) rfl (by show 2 * 0 + _ ≤ _; exact Nat.le_of_eq rfl) (hb hby at_20) (fun _ _ => ⟨rfl, e2, (by decide : 0 + 0 ≤ _), (by decide : 0 + 0 ≤ _)⟩)
  dsimp only [Pt.U, Pt.locs, Pt.cells, Pt.slots] at X3 l3 y3 z3 st3 hQ3
  subst l3 y3 z3
  obtain ⟨rfl, N3q, e3⟩ := hQ3
  have N3 := Fr.app N2 N3q
  refine bk (fun t k => st3 t k) ?_
  show F (T3.setTop (mkF m 23 #[.val (.long q0), .second, .val (.long q1), .second, .val (.int (1 : Int32)), .unset, .unset] [(.long (own_unmix (own_mix q0)))]))
  refine bk (fun t k => XS.lloadN X3.here hx rfl (hb hby at_23) rfl k) ?_
  show F (T3.setTop (mkF m 24 #[.val (.long q0), .second, .val (.long q1), .second, .val (.int (1 : Int32)), .unset, .unset] [(.long q0), (.long (own_unmix (own_mix q0)))]))
  refine bk (fun t k => XS.lcmp X3.here hx rfl (hb hby at_24) rfl k) ?_
  show F (T3.setTop (mkF m 25 #[.val (.long q0), .second, .val (.long q1), .second, .val (.int (1 : Int32)), .unset, .unset] [(.int (lcmpW (own_unmix (own_mix q0)) q0))]))
  refine bk (fun t k => XS.ifNo X3.here hx rfl (hb hby at_25) rfl ((if0 _ _).trans (teq ((lw_eq _ _).mpr (own_um q0))).2) k) ?_
  show F (T3.setTop (mkF m 28 #[.val (.long q0), .second, .val (.long q1), .second, .val (.int (1 : Int32)), .unset, .unset] []))
  refine bk (fun t k => XS.iconst X3.here hx rfl (hb hby at_28) k) ?_
  show F (T3.setTop (mkF m 29 #[.val (.long q0), .second, .val (.long q1), .second, .val (.int (1 : Int32)), .unset, .unset] [(.int (1 : Int32))]))
  refine bk (fun t k => XS.goto X3.here hx rfl (pc0 := 29) (pc' := 33) rfl (hb hby at_29) (by decide) (by decide) k) ?_
  show F (T3.setTop (mkF m 33 #[.val (.long q0), .second, .val (.long q1), .second, .val (.int (1 : Int32)), .unset, .unset] [(.int (1 : Int32))]))
  refine bk (fun t k => XS.istore X3.here hx rfl (hb hby at_33) rfl (l' := #[.val (.long q0), .second, .val (.long q1), .second, .val (.int (1 : Int32)), .val (.int (1 : Int32)), .unset]) rfl k) ?_
  show F (T3.setTop (mkF m 35 #[.val (.long q0), .second, .val (.long q1), .second, .val (.int (1 : Int32)), .val (.int (1 : Int32)), .unset] []))
  refine bk (fun t k => XS.lloadN X3.here hx rfl (hb hby at_35) rfl k) ?_
  show F (T3.setTop (mkF m 36 #[.val (.long q0), .second, .val (.long q1), .second, .val (.int (1 : Int32)), .val (.int (1 : Int32)), .unset] [(.long q1)]))
  obtain ⟨_, _, ⟨T4, L4, k4, n4⟩, -, X4, ⟨Lc4, hQ4, l4, y4, z4⟩, st4⟩ := Jvm.LawKit.callS X3 hx (y := (⟨"com/example/occoquan/occoquan/SeededRandomMixPinLaw", "unmix", "(J)J"⟩ : MethodName)) hown (mvT hZ (hw _ (List.mem_of_getElem? (i := 6) rfl))) (mvT hZ (hw _ (List.mem_of_getElem? (i := 7) rfl))) (mvT hZ (hw _ (List.mem_of_getElem? (i := 8) rfl))) (mvT hZ (hw _ (List.mem_of_getElem? (i := 9) rfl))) (by decide) (backOf (W := 0) (rm2 l Z a0 hw [] q1 h0 n0 Z0) hZ (hw _ (List.mem_of_getElem? (i := 9) rfl)) (hw _ (List.mem_of_getElem? (i := 8) rfl)) (by decide) (by decide)) (g := (mkF m 36 #[.val (.long q0), .second, .val (.long q1), .second, .val (.int (1 : Int32)), .val (.int (1 : Int32)), .unset] [(.long q1)])) rfl (by rw [hml]; rfl) (argsL := [(.long q1)]) (rest := []) (lenOf pd0__J_J rfl) rfl (by show 2 * 0 + _ ≤ _; exact Nat.le_of_eq rfl) (hb hby at_36) (fun _ _ => ⟨rfl, e3, (by decide : 0 + 0 ≤ _), (by decide : 0 + 0 ≤ _)⟩)
  dsimp only [Pt.U, Pt.locs, Pt.cells, Pt.slots] at X4 l4 y4 z4 st4 hQ4
  subst l4 y4 z4
  obtain ⟨rfl, N4q, e4⟩ := hQ4
  have N4 := Fr.app N3 N4q
  refine bk (fun t k => st4 t k) ?_
  show F (T4.setTop (mkF m 39 #[.val (.long q0), .second, .val (.long q1), .second, .val (.int (1 : Int32)), .val (.int (1 : Int32)), .unset] [(.long (own_unmix q1))]))
  obtain ⟨_, _, ⟨T5, L5, k5, n5⟩, -, X5, ⟨Lc5, hQ5, l5, y5, z5⟩, st5⟩ := Jvm.LawKit.callS X4 hx (y := (⟨"com/example/occoquan/occoquan/SeededRandom", "mix", "(J)J"⟩ : MethodName)) hown (mvT hZ (hw _ (List.mem_of_getElem? (i := 0) rfl))) (mvT hZ (hw _ (List.mem_of_getElem? (i := 1) rfl))) (mvT hZ (hw _ (List.mem_of_getElem? (i := 2) rfl))) (mvT hZ (hw _ (List.mem_of_getElem? (i := 3) rfl))) (by decide) (backOf (W := 0) (rm1 l Z a0 hw [] (own_unmix q1) h0 n0 Z0) hZ (hw _ (List.mem_of_getElem? (i := 3) rfl)) (hw _ (List.mem_of_getElem? (i := 2) rfl)) (by decide) (by decide)) (g := (mkF m 39 #[.val (.long q0), .second, .val (.long q1), .second, .val (.int (1 : Int32)), .val (.int (1 : Int32)), .unset] [(.long (own_unmix q1))])) rfl (by rw [hml]; rfl) (argsL := [(.long (own_unmix q1))]) (rest := []) (lenOf pd0__J_J rfl) rfl (by show 2 * 0 + _ ≤ _; exact Nat.le_of_eq rfl) (hb hby at_39) (fun _ _ => ⟨rfl, e4, (by decide : 0 + 0 ≤ _), (by decide : 0 + 0 ≤ _)⟩)
  dsimp only [Pt.U, Pt.locs, Pt.cells, Pt.slots] at X5 l5 y5 z5 st5 hQ5
  subst l5 y5 z5
  obtain ⟨rfl, N5q, e5⟩ := hQ5
  have N5 := Fr.app N4 N5q
  refine bk (fun t k => st5 t k) ?_
  show F (T5.setTop (mkF m 42 #[.val (.long q0), .second, .val (.long q1), .second, .val (.int (1 : Int32)), .val (.int (1 : Int32)), .unset] [(.long (own_mix (own_unmix q1)))]))
  refine bk (fun t k => XS.lloadN X5.here hx rfl (hb hby at_42) rfl k) ?_
  show F (T5.setTop (mkF m 43 #[.val (.long q0), .second, .val (.long q1), .second, .val (.int (1 : Int32)), .val (.int (1 : Int32)), .unset] [(.long q1), (.long (own_mix (own_unmix q1)))]))
  refine bk (fun t k => XS.lcmp X5.here hx rfl (hb hby at_43) rfl k) ?_
  show F (T5.setTop (mkF m 44 #[.val (.long q0), .second, .val (.long q1), .second, .val (.int (1 : Int32)), .val (.int (1 : Int32)), .unset] [(.int (lcmpW (own_mix (own_unmix q1)) q1))]))
  refine bk (fun t k => XS.ifNo X5.here hx rfl (hb hby at_44) rfl ((if0 _ _).trans (teq ((lw_eq _ _).mpr (own_mu q1))).2) k) ?_
  show F (T5.setTop (mkF m 47 #[.val (.long q0), .second, .val (.long q1), .second, .val (.int (1 : Int32)), .val (.int (1 : Int32)), .unset] []))
  refine bk (fun t k => XS.iconst X5.here hx rfl (hb hby at_47) k) ?_
  show F (T5.setTop (mkF m 48 #[.val (.long q0), .second, .val (.long q1), .second, .val (.int (1 : Int32)), .val (.int (1 : Int32)), .unset] [(.int (1 : Int32))]))
  refine bk (fun t k => XS.goto X5.here hx rfl (pc0 := 48) (pc' := 52) rfl (hb hby at_48) (by decide) (by decide) k) ?_
  show F (T5.setTop (mkF m 52 #[.val (.long q0), .second, .val (.long q1), .second, .val (.int (1 : Int32)), .val (.int (1 : Int32)), .unset] [(.int (1 : Int32))]))
  refine bk (fun t k => XS.istore X5.here hx rfl (hb hby at_52) rfl (l' := #[.val (.long q0), .second, .val (.long q1), .second, .val (.int (1 : Int32)), .val (.int (1 : Int32)), .val (.int (1 : Int32))]) rfl k) ?_
  show F (T5.setTop (mkF m 54 #[.val (.long q0), .second, .val (.long q1), .second, .val (.int (1 : Int32)), .val (.int (1 : Int32)), .val (.int (1 : Int32))] []))
  refine bk (fun t k => XS.iload X5.here hx rfl (hb hby at_54) rfl k) ?_
  show F (T5.setTop (mkF m 56 #[.val (.long q0), .second, .val (.long q1), .second, .val (.int (1 : Int32)), .val (.int (1 : Int32)), .val (.int (1 : Int32))] [(.int (1 : Int32))]))
  refine bk (fun t k => XS.ifNo X5.here hx rfl (hb hby at_56) rfl ((if0 _ _).trans (feq (by decide : ¬ ((1 : Int32) = (0 : Int32)))).1) k) ?_
  show F (T5.setTop (mkF m 59 #[.val (.long q0), .second, .val (.long q1), .second, .val (.int (1 : Int32)), .val (.int (1 : Int32)), .val (.int (1 : Int32))] []))
  refine bk (fun t k => XS.iload X5.here hx rfl (hb hby at_59) rfl k) ?_
  show F (T5.setTop (mkF m 61 #[.val (.long q0), .second, .val (.long q1), .second, .val (.int (1 : Int32)), .val (.int (1 : Int32)), .val (.int (1 : Int32))] [(.int (1 : Int32))]))
  refine bk (fun t k => XS.ifNo X5.here hx rfl (hb hby at_61) rfl ((if0 _ _).trans (feq (by decide : ¬ ((1 : Int32) = (0 : Int32)))).1) k) ?_
  show F (T5.setTop (mkF m 64 #[.val (.long q0), .second, .val (.long q1), .second, .val (.int (1 : Int32)), .val (.int (1 : Int32)), .val (.int (1 : Int32))] []))
  refine bk (fun t k => XS.iload X5.here hx rfl (hb hby at_64) rfl k) ?_
  show F (T5.setTop (mkF m 66 #[.val (.long q0), .second, .val (.long q1), .second, .val (.int (1 : Int32)), .val (.int (1 : Int32)), .val (.int (1 : Int32))] [(.int (1 : Int32))]))
  refine bk (fun t k => XS.ifNo X5.here hx rfl (hb hby at_66) rfl ((if0 _ _).trans (feq (by decide : ¬ ((1 : Int32) = (0 : Int32)))).1) k) ?_
  show F (T5.setTop (mkF m 69 #[.val (.long q0), .second, .val (.long q1), .second, .val (.int (1 : Int32)), .val (.int (1 : Int32)), .val (.int (1 : Int32))] []))
  refine bk (fun t k => XS.iconst X5.here hx rfl (hb hby at_69) k) ?_
  show F (T5.setTop (mkF m 70 #[.val (.long q0), .second, .val (.long q1), .second, .val (.int (1 : Int32)), .val (.int (1 : Int32)), .val (.int (1 : Int32))] [(.int (1 : Int32))]))
  refine bk (fun t k => XS.goto X5.here hx rfl (pc0 := 70) (pc' := 74) rfl (hb hby at_70) (by decide) (by decide) k) ?_
  show F (T5.setTop (mkF m 74 #[.val (.long q0), .second, .val (.long q1), .second, .val (.int (1 : Int32)), .val (.int (1 : Int32)), .val (.int (1 : Int32))] [(.int (1 : Int32))]))
  rw [hF]
  refine own_retZ X5 hx Bd.notSynchronized Bd.returns (hb hby at_74) (by decide) (by decide) ?_
  rw [e5]
  exact ⟨rfl, N5⟩
set_option maxRecDepth 65536 in
set_option maxHeartbeats 40000000 in
theorem comes_1 {Post : Tables → Env → Array Value → State → Outcome → State → Prop} (hpost : ∀ tb e args s v u, (limb_1_1.after args s (.returned v) u = true ∧ limb_1_2.after args s (.returned v) u = true ∧ True) → FrameEnd s (.returned v) u (Jvm.fieldLocs frame_1_writes args s ++ Jvm.arrayLocs frame_1_arrays args s ++ Jvm.staticLocs frame_1_statics s) 0 0 → Post tb e args s (.returned v) u) :
    ArmFor flags0 classFile x code maxLocals ret World_1 tables_1 room_1 Calls_1 rest_1 Pre_1 Post := by
  intro l hfl _ _ p e ha hc hk s m args below hf hA hF happ hP
  obtain ⟨hcalls, hrest, hpre⟩ := hP
  obtain ⟨-, -, -, hnamed, -, -, -, hat⟩ := (Spec.applies_iff hf).mp happ
  obtain ⟨hg, hn⟩ := and_e (Cond.before_iff.mp (show (Jvm.Cond.and given_1 narrow_1).before args s = true from hpre))
  obtain ⟨hcount, hk0⟩ := and_e hg
  obtain ⟨hi0, hk1⟩ := and_e hk0
  have hi1 := hk1
  obtain ⟨w0, w1, rfl⟩ : ∃ w0 w1 : Value, args = #[w0, w1] := by
    have hs : args.size = 2 := by simpa [Cond.value, given_1] using hcount
    obtain ⟨L⟩ := args
    match L, hs with
    | [w0, w1], _ => exact ⟨w0, w1, rfl⟩
  have hw := fun d (hd : d ∈ tables_1) => atoms_spec (ws := Jvm.Cond.code x code maxLocals ret :: tables_1) hat d (List.mem_cons_of_mem _ hd)
  obtain ⟨i0, ei0⟩ := isL_v hi0
  obtain rfl : w0 = (.long i0) := Option.some.inj ei0
  obtain ⟨i1, ei1⟩ := isL_v hi1
  obtain rfl : w1 = (.long i1) := Option.some.inj ei1
  obtain ⟨n, o, h1, h2, h3, _, L, rfl, ⟨rfl, N⟩, hq⟩ := rm0 l s _ hw tables_1 i0 i1  s.heap s.heap.size (Nat.le_refl _)  p e ha hc hk s m _ below hf ((Spec.applies_iff_loose hf).mp happ).1 ⟨rfl, State.Warmed39.refl s, rfl⟩ trivial
  refine ⟨n, _, h1, h2, h3, hpost _ _ _ _ _ _ ⟨Cond.after_iff.mpr rfl, Cond.after_iff.mpr (eq_i res_at (Term.int_eval (1)) rfl), trivial⟩ ⟨hq.1, hq.2.1, (hq.2.2.sift fun y hy => Or.inr (N y hy)).mono (by decide) (by decide)⟩⟩
theorem main_1_1 : Claimed_1_1 := comes_1 fun _ _ _ _ _ _ h hF => ⟨h.1, hF⟩
theorem main_1_2 : Claimed_1_2 := comes_1 fun _ _ _ _ _ _ h hF => ⟨h.2.1, hF⟩
end Jvm.Pilot.@@N@@
namespace Jvm.Pilot.@@N@@
open Jvm Jvm.ClassFile Sem Op Lib Jvm.Free Jvm.Stand Jvm.Pilot.@@N@@.Jvm.D
/-! MADE BY PROGRAM (witnessworld.py) out of the Statement's table words and the real class files: 10 classes; the members and pool entries that the words name. The judged class is class 1, her method 3. -/
namespace start1
open Jvm.ClassFile
def u (s : String) : CpInfo := .utf8 (stringToUtf16 s)
/-- a pool by its gaps: so many unusable entries, then the entry; so many at the end -/
def gap : Nat → List CpInfo → List CpInfo
  | 0, r => r
  | n + 1, r => .unusable :: gap n r
def poolList (es : List (Nat × CpInfo)) (last : Nat) : List CpInfo := es.foldr (fun e r => gap e.1 (e.2 :: r)) (gap last [])
def pool (es : List (Nat × CpInfo)) (last : Nat) : Array CpInfo := ⟨poolList es last⟩
def fileOf (pool : Array CpInfo) (this : Nat) (attrs : Array Attribute := #[]) (ms : Array MethodInfo := #[]) (fl : Nat := 33) (sup : Nat := 0) (ifs : Array Nat := #[]) (fds : Array FieldInfo := #[]) : ClassFile where
  minorVersion := 0
  majorVersion := 65
  constantPool := pool
  accessFlags := fl
  thisClass := this
  superClass := sup
  interfaces := ifs
  fields := fds
  methods := ms
  attributes := attrs
def plain (name : String) (sup : Option ClassId) : Class where
  name := name
  kind := .ordinary
  loader := none
  accessFlags := 33
  super := sup
  interfaces := #[]
  cf := none
  fields := #[]
  methods := #[]
  instanceTypes := #[]
  staticTypes := #[]
  resolved := #[]
  callSites := []
  init := .initialized
  statics := none
  mirror := none

def pool0 : Array CpInfo := pool [(5, u "<init>"), (0, u "()V"), (1, .class_ 10), (1, u "java/lang/Object")] 113

def k0m0 : Method := { name := "<init>", desc := "()V", sig := { parameters := [], returnType := none }, accessFlags := 1, code := none }
/-- java/lang/Object -/
def k0 : Class := { plain "java/lang/Object" none with
  accessFlags := 33
  interfaces := #[]
  cf := some (fileOf pool0 8 #[] #[{ accessFlags := 1, nameIndex := 5, descriptorIndex := 6, attributes := #[] }] 33 0 #[] #[])
  fields := #[]
  methods := #[k0m0]
  instanceTypes := #[]
  staticTypes := #[]
  resolved := Array.replicate 124 none
  statics := none }

def pool1 : Array CpInfo := pool [(2, .class_ 4), (1, u "java/lang/Object"), (0, u "<init>"), (0, u "()V"), (0, .long 2), (1, .class_ 10), (0, u "com/example/occoquan/occoquan/SeededRandomMixPinLaw"), (0, .long 10723151780598845931), (1, .methodref 9 14), (0, .nameAndType 15 16), (0, u "inv"), (0, u "(J)J"), (0, .long 13787848793156543929), (1, .methodref 20 21), (0, .class_ 22), (0, .nameAndType 23 16), (0, u "com/example/occoquan/occoquan/SeededRandom"), (0, u "mix"), (0, .methodref 9 25), (0, .nameAndType 26 16), (0, u "unmix"), (0, u "C1"), (0, u "J"), (1, u "C2"), (2, u "law"), (0, u "(JJ)Z")] 3

def k1m0 : Method := { name := "<init>", desc := "()V", sig := { parameters := [], returnType := none }, accessFlags := 1, code := none }
def k1c1 : Code := { maxStack := 8, maxLocals := 4, code := method_2_code, exceptionTable := #[], attributes := #[] }
def k1m1 : Method := { name := "inv", desc := "(J)J", sig := { parameters := [.long], returnType := some .long }, accessFlags := 10, code := some k1c1 }
def k1c2 : Code := { maxStack := 5, maxLocals := 10, code := method_3_code, exceptionTable := #[], attributes := #[] }
def k1m2 : Method := { name := "unmix", desc := "(J)J", sig := { parameters := [.long], returnType := some .long }, accessFlags := 10, code := some k1c2 }
def k1c3 : Code := { maxStack := 4, maxLocals := 7, code := code, exceptionTable := #[], attributes := #[] }
def k1m3 : Method := { name := "law", desc := "(JJ)Z", sig := { parameters := [.long, .long], returnType := some .boolean }, accessFlags := 9, code := some k1c3 }
/-- com/example/occoquan/occoquan/SeededRandomMixPinLaw -/
def k1 : Class := { plain "com/example/occoquan/occoquan/SeededRandomMixPinLaw" (some 0) with
  accessFlags := 49
  interfaces := #[]
  cf := some (fileOf pool1 9 #[] #[{ accessFlags := 1, nameIndex := 5, descriptorIndex := 6, attributes := #[] }, { accessFlags := 10, nameIndex := 15, descriptorIndex := 16, attributes := #[] }, { accessFlags := 10, nameIndex := 26, descriptorIndex := 16, attributes := #[] }, { accessFlags := 9, nameIndex := 33, descriptorIndex := 34, attributes := #[] }] 49 2 #[] #[{ accessFlags := 26, nameIndex := 27, descriptorIndex := 28, attributes := #[] }, { accessFlags := 26, nameIndex := 30, descriptorIndex := 28, attributes := #[] }])
  fields := #[{ name := "C1", type := .long, accessFlags := 26, slot := 0, constantValue := 0 }, { name := "C2", type := .long, accessFlags := 26, slot := 1, constantValue := 0 }]
  methods := #[k1m0, k1m1, k1m2, k1m3]
  instanceTypes := #[]
  staticTypes := #[.long, .long]
  resolved := Array.replicate 38 none
  statics := none }

def pool2 : Array CpInfo := pool [(7, .class_ 8), (0, u "java/util/random/RandomGenerator"), (199, .class_ 209), (0, u "java/lang/Object"), (52, .class_ 263), (0, u "java/util/random/RandomGenerator$ArbitrarilyJumpableGenerator"), (0, .class_ 265), (0, u "java/util/random/RandomGenerator$LeapableGenerator"), (0, .class_ 267), (0, u "java/util/random/RandomGenerator$JumpableGenerator"), (0, .class_ 269), (0, u "java/util/random/RandomGenerator$SplittableGenerator"), (0, .class_ 271), (0, u "java/util/random/RandomGenerator$StreamableGenerator")] 36

/-- java/util/random/RandomGenerator -/
def k2 : Class := { plain "java/util/random/RandomGenerator" (some 0) with
  accessFlags := 1537
  interfaces := #[]
  cf := some (fileOf pool2 7 #[.nestMembers #[262, 264, 266, 268, 270]] #[] 1537 208 #[] #[])
  fields := #[]
  methods := #[]
  instanceTypes := #[]
  staticTypes := #[]
  resolved := Array.replicate 308 none
  statics := none }

def pool3 : Array CpInfo := pool [(2, .class_ 4), (1, u "java/lang/Object"), (3, .class_ 10), (1, u "com/example/occoquan/occoquan/SeededRandom"), (0, u "state"), (0, u "J"), (4, u "mix"), (0, u "(J)J"), (6, .long 13787848793156543929), (1, .long 10723151780598845931), (1, .class_ 30), (0, u "java/util/random/RandomGenerator"), (0, u "GAMMA")] 8

def k3c0 : Code := { maxStack := 5, maxLocals := 2, code := prog_65_method_4_code, exceptionTable := #[], attributes := #[] }
def k3m0 : Method := { name := "mix", desc := "(J)J", sig := { parameters := [.long], returnType := some .long }, accessFlags := 8, code := some k3c0 }
/-- com/example/occoquan/occoquan/SeededRandom -/
def k3 : Class := { plain "com/example/occoquan/occoquan/SeededRandom" (some 0) with
  accessFlags := 48
  interfaces := #[2]
  cf := some (fileOf pool3 8 #[] #[{ accessFlags := 8, nameIndex := 17, descriptorIndex := 18, attributes := #[] }] 48 2 #[29] #[{ accessFlags := 26, nameIndex := 31, descriptorIndex := 12, attributes := #[] }, { accessFlags := 2, nameIndex := 11, descriptorIndex := 12, attributes := #[] }])
  fields := #[{ name := "GAMMA", type := .long, accessFlags := 26, slot := 0, constantValue := 0 }, { name := "state", type := .long, accessFlags := 2, slot := 0, constantValue := 0 }]
  methods := #[k3m0]
  instanceTypes := #[.long]
  staticTypes := #[.long]
  resolved := Array.replicate 40 none
  statics := none }

def pool4 : Array CpInfo := pool [(1, u "java/lang/Cloneable"), (0, .class_ 1), (0, u "java/lang/Object"), (0, .class_ 3)] 3

/-- java/lang/Cloneable -/
def k4 : Class := { plain "java/lang/Cloneable" (some 0) with
  accessFlags := 1537
  interfaces := #[]
  cf := some (fileOf pool4 2 #[] #[] 1537 4 #[] #[])
  fields := #[]
  methods := #[]
  instanceTypes := #[]
  staticTypes := #[]
  resolved := Array.replicate 8 none
  statics := none }

def pool5 : Array CpInfo := pool [(1, u "java/io/Serializable"), (0, .class_ 1), (0, u "java/lang/Object"), (0, .class_ 3)] 3

/-- java/io/Serializable -/
def k5 : Class := { plain "java/io/Serializable" (some 0) with
  accessFlags := 1537
  interfaces := #[]
  cf := some (fileOf pool5 2 #[] #[] 1537 4 #[] #[])
  fields := #[]
  methods := #[]
  instanceTypes := #[]
  staticTypes := #[]
  resolved := Array.replicate 8 none
  statics := none }

/-- the primitive byte -/
def k6 : Class := { plain "byte" none with kind := .primitive 'B', accessFlags := 0x411 }
/-- [B -/
def k7 : Class := { plain "[B" (some 0) with kind := .array 6 .byte, interfaces := #[4, 5], accessFlags := 1041 }

/-- the primitive int -/
def k8 : Class := { plain "int" none with kind := .primitive 'I', accessFlags := 0x411 }
/-- [I -/
def k9 : Class := { plain "[I" (some 0) with kind := .array 8 .int, interfaces := #[4, 5], accessFlags := 1041 }

def heap : Heap := #[]
def classes : Array Class := #[k0, k1, k2, k3, k4, k5, k6, k7, k8, k9]
def interned : List (Array UInt16 × Addr) := []
def slotsUsed : Nat := 0
def theMethod : MethodId := ⟨1, 3⟩
def args0 : Array Value := #[.long 5, .long 3]
def aboutOver (below : List Frame) : State where
  vm := { classes := classes, interned := interned.toArray }
  heap := heap
  slotsUsed := slotsUsed
  threads := #[{ frames := .invoking theMethod args0 :: below }]
def below0 : List Frame := [.native { method := ⟨0, 0⟩, args := #[] }]
def about1 : State := aboutOver below0
def p0 : Program := .bare "" "" ""
def e0 : Env := launch0.env 0 0 0
theorem w_frames : about1.frames = Frame.invoking theMethod args0 :: below0 := rfl
set_option maxRecDepth 65536 in
theorem w_args : argsFit about1.vm theMethod args0 = true := by decide +kernel
set_option maxRecDepth 65536 in
theorem w_heap : heapFits about1 = true := by decide +kernel
set_option maxRecDepth 65536 in
theorem w_runnable : about1.curStatus? = some .runnable := by decide +kernel
set_option maxRecDepth 65536 in
theorem w_alone : about1.alone = true := by decide +kernel
set_option maxRecDepth 65536 in
theorem w_named : about1.methodNamed? x = some theMethod := by decide +kernel
set_option maxRecDepth 65536 in
theorem w_hears : about1.hears theMethod below0 = true := by decide +kernel
set_option maxRecDepth 65536 in
theorem w_ripe : about1.ripe theMethod args0 below0 = true := by decide +kernel
theorem w_running : about1.status = .running := rfl
set_option maxRecDepth 65536 in
theorem w_room : about1.hasRoom e0.platform room_1 = true :=
  launch0.hasRoom_least _ room_1 (by decide +kernel) (by decide +kernel) (by decide +kernel) (by decide +kernel) (by decide +kernel) (by decide +kernel)
theorem allAtoms_all (ts : List Jvm.Cond) (a : Array Jvm.Value) (st : Jvm.State) : (allAtoms ts).before a st = ts.all (fun c => c.before a st) := by
  induction ts with
  | nil => rfl
  | cons c t ih =>
    show (Jvm.Cond.and c (allAtoms t)).before a st = _
    rw [Jvm.Cond.before_and, ih, List.all_cons]
def words1 : List Jvm.Cond := Jvm.Cond.code x code maxLocals ret :: tables_1
/-- a 'code' word, met by the world's own term for the bytes: nothing is compared byte by byte -/
theorem code_word {y : MethodName} {bytes : ByteArray} {mx : Nat} {rt : Option FieldType} {a : Array Value} {s : State} {m : MethodId} {meth : Method} {c : Code} (h1 : s.methodNamed? y = some m) (h2 : s.vm.method? m = some meth) (h3 : meth.code = some c) (h4 : c.code = bytes)
    (h5 : (c.maxLocals == mx && c.exceptionTable.isEmpty && decide (c.maxStack ≤ mostOperands) && decide (meth.sig.returnType = rt) && !meth.locks && decide (parseMethodDescriptor y.desc = some meth.sig)) = true) : (Jvm.Cond.code y bytes mx rt).before a s = true := by
  simp only [Bool.and_eq_true, beq_iff_eq, Bool.not_eq_true', decide_eq_true_eq] at h5
  obtain ⟨⟨⟨⟨⟨g1, g2⟩, g3⟩, g4⟩, g5⟩, g6⟩ := h5
  simp [Cond.before, Cond.holds, Cond.value, h1, h2, h3, h4, g1, g2, g3, g4, g5, g6]
def isCode : Jvm.Cond → Bool
  | .code _ _ _ _ => true
  | _ => false
theorem all_split {L : List Jvm.Cond} {P : Jvm.Cond → Bool} (h1 : L.all (fun c => isCode c || P c) = true) (h2 : ∀ c ∈ L.filter isCode, P c = true) : L.all P = true := by
  refine List.all_eq_true.mpr fun c hc => ?_
  have h := List.all_eq_true.mp h1 c hc
  rcases Bool.eq_false_or_eq_true (isCode c) with hi | hi
  · exact h2 c (List.mem_filter.mpr ⟨hc, hi⟩)
  · simpa [hi] using h
set_option maxRecDepth 65536 in
theorem w_c0 : (Jvm.Cond.code x code maxLocals ret).before args0 about1 = true := code_word (m := ⟨1, 3⟩) (meth := k1m3) (c := k1c3) (by decide +kernel) rfl rfl rfl (by decide +kernel)
set_option maxRecDepth 65536 in
theorem w_c1 : (Jvm.Cond.code ({ cls := "com/example/occoquan/occoquan/SeededRandom", name := "mix", desc := "(J)J" } : Jvm.MethodName) prog_65_method_4_code (2 : Nat) (Option.some Jvm.ClassFile.FieldType.long)).before args0 about1 = true := code_word (m := ⟨3, 0⟩) (meth := k3m0) (c := k3c0) (by decide +kernel) rfl rfl rfl (by decide +kernel)
set_option maxRecDepth 65536 in
theorem w_c2 : (Jvm.Cond.code ({ cls := "com/example/occoquan/occoquan/SeededRandomMixPinLaw", name := "unmix", desc := "(J)J" } : Jvm.MethodName) method_3_code (10 : Nat) (Option.some Jvm.ClassFile.FieldType.long)).before args0 about1 = true := code_word (m := ⟨1, 2⟩) (meth := k1m2) (c := k1c2) (by decide +kernel) rfl rfl rfl (by decide +kernel)
set_option maxRecDepth 65536 in
theorem w_c3 : (Jvm.Cond.code ({ cls := "com/example/occoquan/occoquan/SeededRandomMixPinLaw", name := "inv", desc := "(J)J" } : Jvm.MethodName) method_2_code (4 : Nat) (Option.some Jvm.ClassFile.FieldType.long)).before args0 about1 = true := code_word (m := ⟨1, 1⟩) (meth := k1m1) (c := k1c1) (by decide +kernel) rfl rfl rfl (by decide +kernel)
def codes1 : List Jvm.Cond := [Jvm.Cond.code x code maxLocals ret, Jvm.Cond.code ({ cls := "com/example/occoquan/occoquan/SeededRandom", name := "mix", desc := "(J)J" } : Jvm.MethodName) prog_65_method_4_code (2 : Nat) (Option.some Jvm.ClassFile.FieldType.long), Jvm.Cond.code ({ cls := "com/example/occoquan/occoquan/SeededRandomMixPinLaw", name := "unmix", desc := "(J)J" } : Jvm.MethodName) method_3_code (10 : Nat) (Option.some Jvm.ClassFile.FieldType.long), Jvm.Cond.code ({ cls := "com/example/occoquan/occoquan/SeededRandomMixPinLaw", name := "inv", desc := "(J)J" } : Jvm.MethodName) method_2_code (4 : Nat) (Option.some Jvm.ClassFile.FieldType.long)]
set_option maxRecDepth 65536 in
theorem codes_eq : words1.filter isCode = codes1 := rfl
theorem w_codes : ∀ c ∈ words1.filter isCode, c.before args0 about1 = true := by
  rw [codes_eq]
  intro c hc
  simp only [codes1, List.mem_cons, List.not_mem_nil, or_false] at hc
  rcases hc with rfl | rfl | rfl | rfl
  · exact w_c0
  · exact w_c1
  · exact w_c2
  · exact w_c3
set_option maxRecDepth 65536 in
theorem w_t1 : words1.all (fun c => isCode c || c.before args0 about1) = true := by decide +kernel
theorem w_tables : (allAtoms (Jvm.Cond.code x code maxLocals ret :: tables_1)).before args0 about1 = true := by
  rw [allAtoms_all]
  show words1.all (fun c => c.before args0 about1) = true
  refine all_split ?_ w_codes
  rw [w_t1]
set_option maxRecDepth 65536 in
theorem w_case : (Jvm.Cond.and given_1 narrow_1).before args0 about1 = true := by decide +kernel
theorem w_applies : (headSpec (Jvm.Cond.code x code maxLocals ret :: tables_1) room_1).applies x e0.platform about1 = true :=
  (Spec.applies_iff w_frames).mpr ⟨w_running, w_runnable, w_alone, w_named, w_hears, w_ripe, w_room, w_tables⟩
theorem atStart : AtStart classFile x code maxLocals ret World_1 tables_1 room_1 Calls_1 rest_1 Pre_1 launch0 p0 e0 about1 theMethod args0 below0 :=
  ⟨lists_1, trivial, launch0.admits_env _ _ _, launch0.least_env, fairChoices_fair.cas, fairChoices_fair.clock, w_frames, w_args, w_heap, w_applies, trivial, trivial, w_case⟩
end start1
theorem witness_1 : WitnessClaimed_1 := ⟨start1.p0, start1.e0, start1.about1, start1.theMethod, start1.args0, start1.below0, start1.atStart⟩
end Jvm.Pilot.@@N@@
