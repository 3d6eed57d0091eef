import JvmDerived
import JvmDerived.Pilot.@@N@@Statement
import JvmDerived.Pilot.@@N@@Code
set_option linter.unusedVariables false
set_option linter.unusedSimpArgs false
namespace Jvm.RoadKit
open Sem ClassFile Op Lib Jvm.Stand Jvm.Free Jvm.LawKit
section New
variable {p : Program} {l : Launch} {e : Env} {R : Room} {s : State} {m : MethodId} {args : Array Value} {below : List Frame} {meth : Method} {c : Code} {T : State} {locs : List Loc} {cells slots : Nat}
theorem retI (X : Stand p l e R s m args below meth c T locs cells slots) (hx : p.tables.exec = Jvm.exec) {pc : Nat} {Ls : Array Slot} {z : Int32} {rest : List Value} (hret : meth.sig.returnType = some .int) (hd : decode c.code pc = .ok (.ireturn, 1)) {fs : List Frame}
    (hl : ∀ (f : JFrame) (acts : List Action), f.method = m → f.locked = none → f.entered = [] → (doReturn e (T.setTop f) acts (some (.int z))).1 = T.setFrames fs) : Steps p.tables e below (T.setTop (mkF m pc Ls (.int z :: rest))) (T.setFrames fs) := by
  have hm' : T.vm.method? m = some meth := X.method'
  have hn : narrow .int (.int z) = .int z := rfl
  show Steps p.tables e below (T.setTop { method := m, pc := pc, locals := Ls, stack := _ :: rest, locked := none }) _
  jvm_step X.here [X.here.top, hx, hd, hm', hret, hn]
  first | (intro acts; rw [hl _ acts rfl rfl rfl]) | rw [hl _ _ rfl rfl rfl]
  exact Steps.refl _
theorem retJ (X : Stand p l e R s m args below meth c T locs cells slots) (hx : p.tables.exec = Jvm.exec) {pc : Nat} {Ls : Array Slot} {z : Int64} {rest : List Value} (hret : meth.sig.returnType = some .long) (hd : decode c.code pc = .ok (.lreturn, 1)) {fs : List Frame}
    (hl : ∀ (f : JFrame) (acts : List Action), f.method = m → f.locked = none → f.entered = [] → (doReturn e (T.setTop f) acts (some (.long z))).1 = T.setFrames fs) : Steps p.tables e below (T.setTop (mkF m pc Ls (.long z :: rest))) (T.setFrames fs) := by
  have hm' : T.vm.method? m = some meth := X.method'
  have hn : narrow .long (.long z) = .long z := rfl
  show Steps p.tables e below (T.setTop { method := m, pc := pc, locals := Ls, stack := _ :: rest, locked := none }) _
  jvm_step X.here [X.here.top, hx, hd, hm', hret, hn]
  first | (intro acts; rw [hl _ acts rfl rfl rfl]) | rw [hl _ _ rfl rfl rfl]
  exact Steps.refl _
theorem retD (X : Stand p l e R s m args below meth c T locs cells slots) (hx : p.tables.exec = Jvm.exec) {pc : Nat} {Ls : Array Slot} {z : UInt64} {rest : List Value} (hret : meth.sig.returnType = some .double) (hd : decode c.code pc = .ok (.dreturn, 1)) {fs : List Frame}
    (hl : ∀ (f : JFrame) (acts : List Action), f.method = m → f.locked = none → f.entered = [] → (doReturn e (T.setTop f) acts (some (.double z))).1 = T.setFrames fs) : Steps p.tables e below (T.setTop (mkF m pc Ls (.double z :: rest))) (T.setFrames fs) := by
  have hm' : T.vm.method? m = some meth := X.method'
  have hn : narrow .double (.double z) = .double z := rfl
  show Steps p.tables e below (T.setTop { method := m, pc := pc, locals := Ls, stack := _ :: rest, locked := none }) _
  jvm_step X.here [X.here.top, hx, hd, hm', hret, hn]
  first | (intro acts; rw [hl _ acts rfl rfl rfl]) | rw [hl _ _ rfl rfl rfl]
  exact Steps.refl _
theorem retR (X : Stand p l e R s m args below meth c T locs cells slots) (hx : p.tables.exec = Jvm.exec) {pc : Nat} {Ls : Array Slot} {w : Value} {t : FieldType} {rest : List Value} (hret : meth.sig.returnType = some t) (hn : narrow t w = w) (ht : t.isReference = true) (hw : w.isRef = true) (hd : decode c.code pc = .ok (.areturn, 1)) {fs : List Frame}
    (hl : ∀ (f : JFrame) (acts : List Action), f.method = m → f.locked = none → f.entered = [] → (doReturn e (T.setTop f) acts (some w)).1 = T.setFrames fs) : Steps p.tables e below (T.setTop (mkF m pc Ls (w :: rest))) (T.setFrames fs) := by
  have hm' : T.vm.method? m = some meth := X.method'
  show Steps p.tables e below (T.setTop { method := m, pc := pc, locals := Ls, stack := _ :: rest, locked := none }) _
  jvm_step X.here [X.here.top, hx, hd, hm', hret, hn, hw]
  try (refine ⟨ht, ?_⟩)
  first | (intro acts; rw [hl _ acts rfl rfl rfl]) | rw [hl _ _ rfl rfl rfl]
  exact Steps.refl _
theorem own_up (X : Stand p l e R s m args below meth c T locs cells slots) {k n : Nat} (h1 : cells ≤ k) (h2 : slots ≤ n) : Stand p l e R s m args below meth c T locs k n :=
  ⟨X.admits, X.cas, X.clock, X.frames, X.room, X.hears, X.method, X.code, X.here, X.tail, X.warmed, X.limits, X.bytes, X.same.mono h1 h2⟩
theorem own_ext {h h' : Heap} (K : Keep h h' []) : Ext h h' := ⟨K.1, fun a c q => K.2.1 a c q nin0⟩
theorem own_narR {v : Value} {ty : FieldType} (h : v.isRef = true) (ht : ty.isReference = true) : narrow ty v = v := by
  rcases ref_cases h with rfl | ⟨a, rfl⟩ <;> cases ty <;> first | rfl | (simp [FieldType.isReference] at ht)
theorem own_fitR {v : Value} {ty : FieldType} (h : v.isRef = true) (ht : ty.isReference = true) : fits ty v = true := by
  rcases ref_cases h with rfl | ⟨a, rfl⟩ <;> cases ty <;> first | rfl | (simp [FieldType.isReference] at ht)
theorem own_wmono {s t : State} {o : Outcome} {L : List Loc} {k n k' n' : Nat} (h : ReturnedEndW s o t L k n) (hk : k ≤ k') (hn : n ≤ n') : ReturnedEndW s o t L k' n' := ⟨h.1, h.2.1, h.2.2.1, h.2.2.2.mono hk hn⟩
theorem own_chr {Z s T : State} {EL : List (String × Nat)} {h0 H : Heap} (hh : s.heap = h0) (e : T.heap = H) (c : CHr Z EL s.vm h0 T.vm H) : CHr Z EL s.vm s.heap T.vm T.heap := by subst hh e; exact c
theorem own_nb0 : nar .boolean 0 = 0 := by decide
theorem own_nb1 : nar .boolean 1 = 1 := by decide
end New
end Jvm.RoadKit
namespace Jvm.Pilot.@@N@@
open Jvm Jvm.ClassFile Sem Op Lib Jvm.Free Jvm.Stand Jvm.LawKit Jvm.RoadKit Bundle Jvm.Pilot.@@N@@.Jvm.D
theorem and255_chars (x : Int32) : ¬ nar .char ((x &&& (255 : Int32)).toUInt32.toUInt16.toUInt32.toInt32) < 0 ∧ ¬ (255 : Int32) < nar .char ((x &&& (255 : Int32)).toUInt32.toUInt16.toUInt32.toInt32) := by
  have t : ∀ k : Fin 256, ¬ nar .char ((Int32.ofNat k.val).toUInt32.toUInt16.toUInt32.toInt32) < 0 ∧ ¬ (255 : Int32) < nar .char ((Int32.ofNat k.val).toUInt32.toUInt16.toUInt32.toInt32) := by decide +kernel
  have h : (x &&& 255).toBitVec.toNat < 256 := by
    simp only [Int32.toBitVec_and, BitVec.toNat_and]
    exact Nat.lt_succ_of_le Nat.and_le_right
  have e : (x &&& 255) = Int32.ofNat (x &&& 255).toBitVec.toNat := by
    apply Int32.toBitVec_inj.mp
    show _ = BitVec.ofNat 32 _
    rw [BitVec.ofNat_toNat]; simp
  rw [e]
  exact t ⟨_, h⟩
theorem up (cs : List Int32) (h : ∀ c ∈ cs, ¬ c < 0 ∧ ¬ (255 : Int32) < c) : ∀ c ∈ cs, ¬ c < 0 ∧ ¬ (65535 : Int32) < c := fun c hc => ⟨(h c hc).1, fun q => (h c hc).2 (by rw [Int32.lt_iff_toInt_lt] at q ⊢; have e1 : (65535 : Int32).toInt = 65535 := rfl; have e2 : (255 : Int32).toInt = 255 := rfl; omega)⟩
theorem own_pd0 : parseMethodDescriptor "(IID)D" = some ⟨[.int, .int, .double], some .double⟩ := by decide +kernel
section Rel
open Jvm.FP.Core
theorem own_q64 : b64.qmin = -1074 := by decide +kernel
theorem own_qx64 : b64.qmax = 971 := by decide +kernel
theorem own_p64 : b64.p = 53 := by decide +kernel
theorem own_t64 : b64.tails = 2 ^ 52 := by decide +kernel
theorem own_gridj (K j : Nat) (h0 : 0 < K) (hK : K ≤ 2 ^ 53) (hj : 52 ≤ j + Nat.log2 K) (hj2 : j ≤ 1500) : ∃ V : Datum, Jvm.FP.Core.fits b64 V ∧ V ≠ .nan ∧ zval b64 V = ((K * 2 ^ j : Nat) : Int) := by
  by_cases hc : K = 2 ^ 53
  · refine ⟨.fin false (2 ^ 52) ((j : Int) - 1073), ?_, Datum.noConfusion, ?_⟩
    · show _ < 2 ^ b64.p ∧ b64.qmin ≤ _ ∧ _ ≤ b64.qmax ∧ (_ ∨ b64.tails ≤ _)
      rw [own_p64, own_q64, own_t64, own_qx64]
      refine ⟨by decide, by omega, by omega, Or.inr (Nat.le_refl _)⟩
    · show ((inUnits (2 ^ 52) ((j : Int) - 1073) b64.qmin : Nat) : Int) = _
      congr 1
      unfold inUnits
      rw [own_q64, hc, ← Nat.pow_add, ← Nat.pow_add]
      congr 1
      omega
  · have hk : K ≠ 0 := by omega
    have a := Nat.log2_self_le hk
    have b := Nat.lt_log2_self (n := K)
    have hL : Nat.log2 K < 53 := (Nat.log2_lt hk).mpr (by omega)
    obtain ⟨L, hLe⟩ : ∃ L, L = Nat.log2 K := ⟨_, rfl⟩
    rw [← hLe] at a b hL hj
    refine ⟨.fin false (K * 2 ^ (52 - L)) ((j : Int) + L - 1126), ?_, Datum.noConfusion, ?_⟩
    · show _ < 2 ^ b64.p ∧ b64.qmin ≤ _ ∧ _ ≤ b64.qmax ∧ (_ ∨ b64.tails ≤ _)
      rw [own_p64, own_q64, own_t64, own_qx64]
      have e1 : 2 ^ (L + 1) * 2 ^ (52 - L) = 2 ^ 53 := by rw [← Nat.pow_add]; congr 1; omega
      have e2 : 2 ^ L * 2 ^ (52 - L) = 2 ^ 52 := by rw [← Nat.pow_add]; congr 1; omega
      refine ⟨?_, by omega, by omega, Or.inr ?_⟩
      · rw [← e1]; exact Nat.mul_lt_mul_of_pos_right b (Nat.two_pow_pos _)
      · rw [← e2]; exact Nat.mul_le_mul_right _ a
    · show ((inUnits (K * 2 ^ (52 - L)) ((j : Int) + L - 1126) b64.qmin : Nat) : Int) = _
      congr 1
      unfold inUnits
      rw [own_q64, Nat.mul_assoc, ← Nat.pow_add]
      congr 2
      omega
def own_P : Nat := 2 ^ 1500
/-- the neighbour above -/
theorem own_up (A B : Nat) (hB : 0 < B) (hlo : 2 ^ 60 * B ≤ A) (hhi : A < own_P * B) : ∃ V : Datum, Jvm.FP.Core.fits b64 V ∧ V ≠ .nan ∧ ∃ z : Nat, zval b64 V = z ∧ A ≤ z * B ∧ 2 ^ 51 * (z * B) ≤ (2 ^ 51 + 1) * A ∧ z < 2 ^ 1502 := by
  obtain ⟨y, hy⟩ : ∃ y, y = A / B + 1 := ⟨_, rfl⟩
  have h1 : A < y * B := by rw [hy]; have := Nat.lt_div_mul_add (a := A) hB; rw [Nat.succ_mul]; exact this
  have h2 : y * B ≤ A + B := by rw [hy, Nat.succ_mul]; have := Nat.div_mul_le_self A B; omega
  have h3 : 2 ^ 60 ≤ A / B := (Nat.le_div_iff_mul_le hB).mpr hlo
  have h4 : A / B < 2 ^ 1500 := (Nat.div_lt_iff_lt_mul hB).mpr hhi
  have y0 : y ≠ 0 := by omega
  have a := Nat.log2_self_le y0
  have b := Nat.lt_log2_self (n := y)
  have l1 : 60 ≤ Nat.log2 y := (Nat.le_log2 y0).mpr (by omega)
  have l2 : Nat.log2 y < 1501 := (Nat.log2_lt y0).mpr (by rw [Nat.pow_succ]; omega)
  obtain ⟨j, hj⟩ : ∃ j, Nat.log2 y = j + 52 := ⟨Nat.log2 y - 52, by omega⟩
  rw [hj] at a b l1 l2
  have e1 : 2 ^ (j + 52) = 2 ^ 52 * 2 ^ j := by rw [Nat.pow_add, Nat.mul_comm]
  have e2 : 2 ^ (j + 52 + 1) = 2 ^ 53 * 2 ^ j := by rw [show j + 52 + 1 = 53 + j by omega, Nat.pow_add]
  have pj := Nat.two_pow_pos j
  have c1 : y / 2 ^ j < 2 ^ 53 := (Nat.div_lt_iff_lt_mul pj).mpr (by rw [← e2]; exact b)
  have c2 : 2 ^ 52 ≤ y / 2 ^ j := (Nat.le_div_iff_mul_le pj).mpr (by rw [← e1]; exact a)
  obtain ⟨V, f, n, hz⟩ := own_gridj (y / 2 ^ j + 1) j (by omega) (by omega) (by have := (Nat.le_log2 (n := y / 2 ^ j + 1) (k := 52) (by omega)).mpr (by omega); omega) (by omega)
  refine ⟨V, f, n, _, hz, ?_, ?_, ?_⟩
  · have d1 : y ≤ (y / 2 ^ j + 1) * 2 ^ j := by rw [Nat.succ_mul]; exact Nat.le_of_lt (Nat.lt_div_mul_add pj)
    exact Nat.le_trans (Nat.le_of_lt h1) (Nat.mul_le_mul_right B d1)
  · have d2 : (y / 2 ^ j + 1) * 2 ^ j ≤ y + 2 ^ j := by rw [Nat.succ_mul]; have := Nat.div_mul_le_self y (2 ^ j); omega
    have d3 : 2 ^ 52 * ((y / 2 ^ j + 1) * 2 ^ j) ≤ (2 ^ 52 + 1) * y := by rw [e1] at a; omega
    have d4 : 2 ^ 52 * ((y / 2 ^ j + 1) * 2 ^ j * B) ≤ (2 ^ 52 + 1) * (y * B) := by
      have := Nat.mul_le_mul_right B d3
      rw [Nat.mul_assoc (2 ^ 52) _ B, Nat.mul_assoc (2 ^ 52 + 1) y B] at this
      exact this
    generalize (y / 2 ^ j + 1) * 2 ^ j * B = m at *
    generalize y * B = k at *
    omega
  · have d5 : (y / 2 ^ j + 1) * 2 ^ j ≤ 2 ^ 53 * 2 ^ j := Nat.mul_le_mul_right _ (by omega)
    rw [← e2] at d5
    have : 2 ^ (j + 52 + 1) ≤ 2 ^ 1501 := Nat.pow_le_pow_right (by decide) (by omega)
    have : 2 ^ 1501 < 2 ^ 1502 := Nat.pow_lt_pow_right (by decide) (by decide)
    omega
/-- the neighbour below -/
theorem own_dn (A B : Nat) (hB : 0 < B) (hlo : 2 ^ 60 * B ≤ A) (hhi : A < own_P * B) : ∃ V : Datum, Jvm.FP.Core.fits b64 V ∧ V ≠ .nan ∧ ∃ z : Nat, zval b64 V = z ∧ z * B ≤ A ∧ (2 ^ 51 - 1) * A ≤ 2 ^ 51 * (z * B) := by
  obtain ⟨y, hy⟩ : ∃ y, y = A / B := ⟨_, rfl⟩
  have h1 : A < y * B + B := by rw [hy]; exact Nat.lt_div_mul_add hB
  have h2 : y * B ≤ A := by rw [hy]; exact Nat.div_mul_le_self A B
  have h3 : 2 ^ 60 ≤ y := by rw [hy]; exact (Nat.le_div_iff_mul_le hB).mpr hlo
  have h4 : y < 2 ^ 1500 := by rw [hy]; exact (Nat.div_lt_iff_lt_mul hB).mpr hhi
  have y0 : y ≠ 0 := by omega
  have a := Nat.log2_self_le y0
  have b := Nat.lt_log2_self (n := y)
  have l1 : 60 ≤ Nat.log2 y := (Nat.le_log2 y0).mpr h3
  have l2 : Nat.log2 y < 1500 := (Nat.log2_lt y0).mpr h4
  obtain ⟨j, hj⟩ : ∃ j, Nat.log2 y = j + 52 := ⟨Nat.log2 y - 52, by omega⟩
  rw [hj] at a b l1 l2
  have e1 : 2 ^ (j + 52) = 2 ^ 52 * 2 ^ j := by rw [Nat.pow_add, Nat.mul_comm]
  have e2 : 2 ^ (j + 52 + 1) = 2 ^ 53 * 2 ^ j := by rw [show j + 52 + 1 = 53 + j by omega, Nat.pow_add]
  have pj := Nat.two_pow_pos j
  have c1 : y / 2 ^ j < 2 ^ 53 := (Nat.div_lt_iff_lt_mul pj).mpr (by rw [← e2]; exact b)
  have c2 : 2 ^ 52 ≤ y / 2 ^ j := (Nat.le_div_iff_mul_le pj).mpr (by rw [← e1]; exact a)
  obtain ⟨V, f, n, hz⟩ := own_gridj (y / 2 ^ j) j (by omega) (by omega) (by have := (Nat.le_log2 (n := y / 2 ^ j) (k := 52) (by omega)).mpr c2; omega) (by omega)
  have d1 : y / 2 ^ j * 2 ^ j ≤ y := Nat.div_mul_le_self _ _
  have d2 : y < y / 2 ^ j * 2 ^ j + 2 ^ j := Nat.lt_div_mul_add pj
  refine ⟨V, f, n, _, hz, Nat.le_trans (Nat.mul_le_mul_right B d1) h2, ?_⟩
  have d3 : (2 ^ 52 - 1) * y ≤ 2 ^ 52 * (y / 2 ^ j * 2 ^ j) := by rw [e1] at a; omega
  have d4 : (2 ^ 52 - 1) * (y * B) ≤ 2 ^ 52 * (y / 2 ^ j * 2 ^ j * B) := by
    have := Nat.mul_le_mul_right B d3
    rw [Nat.mul_assoc (2 ^ 52 - 1) y B, Nat.mul_assoc (2 ^ 52) _ B] at this
    exact this
  generalize y / 2 ^ j * 2 ^ j * B = m at *
  generalize y * B = k at *
  omega
/-- a finite double that isn't negative, and its units -/
def own_z (a : UInt64) (z : Nat) : Prop := DFin a ∧ zval b64 (val64 a) = (z : Int)
theorem own_top : 2 ^ 1502 < b64.tails * 2 ^ (b64.exps - 2) := by
  have e : b64.exps - 2 = 2046 := by decide +kernel
  rw [own_t64, e, ← Nat.pow_add]
  exact Nat.pow_lt_pow_right (by decide) (by decide)
theorem own_mk {r : UInt64} (A B : Nat) (hB : 0 < B) (hlo : 2 ^ 60 * B ≤ A) (hhi : A < own_P * B) (hn : val64 r ≠ .nan)
    (hle : ∀ V : Datum, Jvm.FP.Core.fits b64 V → V ≠ .nan → (A : Int) ≤ zval b64 V * (B : Int) → zval b64 (val64 r) ≤ zval b64 V)
    (hge : ∀ V : Datum, Jvm.FP.Core.fits b64 V → V ≠ .nan → zval b64 V * (B : Int) ≤ (A : Int) → zval b64 V ≤ zval b64 (val64 r)) :
    ∃ z : Nat, own_z r z ∧ 2 ^ 51 * (z * B) ≤ (2 ^ 51 + 1) * A ∧ (2 ^ 51 - 1) * A ≤ 2 ^ 51 * (z * B) := by
  obtain ⟨V, f, n, zv, e, u1, u2, u3⟩ := own_up A B hB hlo hhi
  obtain ⟨V', f', n', zd, e', d1, d2⟩ := own_dn A B hB hlo hhi
  have h1 := hle V f n (by rw [e]; exact_mod_cast u1)
  have h2 := hge V' f' n' (by rw [e']; exact_mod_cast d1)
  rw [e] at h1
  rw [e'] at h2
  have hz : zval b64 (val64 r) = ((zval b64 (val64 r)).toNat : Int) := by omega
  refine ⟨(zval b64 (val64 r)).toNat, ⟨?_, hz⟩, ?_, ?_⟩
  · cases hv : val64 r with
    | nan => exact absurd hv hn
    | fin s c q => exact ⟨s, c, q, hv⟩
    | inf s =>
      exfalso
      have ht := own_top
      rw [hv] at h1 h2
      have hi : zval b64 (.inf s) = signed s (b64.tails * 2 ^ (b64.exps - 2)) := rfl
      rw [hi] at h1 h2
      generalize b64.tails * 2 ^ (b64.exps - 2) = top at *
      cases s <;> simp only [signed, if_true, Bool.false_eq_true, if_false] at h1 h2 <;> omega
  · have : (zval b64 (val64 r)).toNat * B ≤ zv * B := Nat.mul_le_mul_right B (by omega)
    omega
  · have : zd * B ≤ (zval b64 (val64 r)).toNat * B := Nat.mul_le_mul_right B (by omega)
    omega
theorem own_zs {a : UInt64} {z : Nat} (h : own_z a z) : ∃ s c q, val64 a = .fin s c q ∧ Jvm.FP.Core.fits b64 (.fin s c q) ∧ inUnits c q b64.qmin = z ∧ (s = false ∨ z = 0) := by
  obtain ⟨⟨s, c, q, hv⟩, hz⟩ := h
  have f := val64_fits a
  rw [hv] at f hz
  have e : zval b64 (.fin s c q) = signed s (inUnits c q b64.qmin) := rfl
  rw [e] at hz
  refine ⟨s, c, q, hv, f, ?_⟩
  cases s <;> simp only [signed, if_true, Bool.false_eq_true, if_false] at hz
  · exact ⟨by omega, Or.inl rfl⟩
  · exact ⟨by omega, Or.inr (by omega)⟩
theorem own_radd {a b : UInt64} {x y : Nat} (ha : own_z a x) (hb : own_z b y) (hlo : 2 ^ 60 ≤ x + y) (hhi : x + y < own_P) :
    ∃ z : Nat, own_z (FP.dadd a b) z ∧ 2 ^ 51 * z ≤ (2 ^ 51 + 1) * (x + y) ∧ (2 ^ 51 - 1) * (x + y) ≤ 2 ^ 51 * z := by
  have e : val64 (FP.dadd a b) = round b64 (exactSum (val64 a) (val64 b)) := val64_dadd a b
  have q := own_mk (r := FP.dadd a b) (x + y) 1 (by decide) (by omega) (by omega) (by
      rw [e]; obtain ⟨s, c, q, h1⟩ := ha.1; obtain ⟨t, d, r, h2⟩ := hb.1; rw [h1, h2]; exact roundRatio_ne_nan _ _ _ _ _)
    (fun V f n h => by rw [e]; exact sum_le good_b64 ha.1 hb.1 (val64_fits a) (val64_fits b) f n (by rw [ha.2, hb.2]; omega))
    (fun V f n h => by rw [e]; exact sum_ge good_b64 ha.1 hb.1 (val64_fits a) (val64_fits b) f n (by rw [ha.2, hb.2]; omega))
  obtain ⟨z, hz, h1, h2⟩ := q
  rw [Nat.mul_one] at h1 h2
  exact ⟨z, hz, h1, h2⟩
theorem own_one : 2 ^ (-b64.qmin).toNat = one64 := pow_qmin64
theorem own_sgz {V : Datum} (n : Nat) (h : (n : Int) ≤ zval b64 V) : n ≤ zmag b64 V := by
  unfold zval at h
  cases hs : sgn V <;> rw [hs] at h <;> simp only [signed, if_true, Bool.false_eq_true, if_false] at h <;> omega
theorem own_rdiv {a b : UInt64} {x y : Nat} (ha : own_z a x) (hb : own_z b y) (hy : 0 < y) (hlo : 2 ^ 60 * y ≤ x * one64) (hhi : x * one64 < own_P * y) :
    ∃ z : Nat, own_z (FP.ddiv a b) z ∧ 2 ^ 51 * (z * y) ≤ (2 ^ 51 + 1) * (x * one64) ∧ (2 ^ 51 - 1) * (x * one64) ≤ 2 ^ 51 * (z * y) := by
  obtain ⟨s, c, q, h1, f1, z1, s1⟩ := own_zs ha
  obtain ⟨t, d, r, h2, f2, z2, s2⟩ := own_zs hb
  have t0 : t = false := by rcases s2 with h | h; exact h; omega
  subst t0
  have d0 : d ≠ 0 := by intro q; rw [q] at z2; unfold inUnits at z2; rw [Nat.zero_mul] at z2; omega
  have x0 : x ≠ 0 := by intro q; rw [q, Nat.zero_mul] at hlo; have : 0 < 2 ^ 60 * y := Nat.mul_pos (by decide) hy; omega
  have s0 : s = false := by rcases s1 with h | h; exact h; exact absurd h x0
  subst s0
  have e : val64 (FP.ddiv a b) = roundRatio b64 false c d (q - r) := by
    have q1 : val64 (FP.ddiv a b) = quotient b64 (val64 a) (val64 b) := val64_ddiv a b
    rw [q1, h1, h2]
    show (if d = 0 then _ else _) = _
    rw [if_neg d0]; rfl
  have hq : b64.qmin ≤ q := f1.2.1
  have hr : b64.qmin ≤ r := f2.2.1
  have qm := own_q64
  have u1 : inUnits c (q - r) (2 * b64.qmin - r) = x * one64 := by
    rw [← z1, ← own_one]
    unfold inUnits
    rw [Nat.mul_assoc, ← Nat.pow_add]
    congr 2
    omega
  have u2 : d * 2 ^ (b64.qmin - (2 * b64.qmin - r)).toNat = y := by
    rw [← z2]
    unfold inUnits
    congr 3
    omega
  have zz : zval b64 (roundRatio b64 false c d (q - r)) = (zmag b64 (roundRatio b64 false c d (q - r)) : Int) := by
    unfold zval; rw [sgn_roundRatio]; rfl
  refine own_mk (r := FP.ddiv a b) (x * one64) y hy hlo hhi (by rw [e]; exact roundRatio_ne_nan _ _ _ _ _) (fun V f n h => ?_) (fun V f n h => ?_)
  · rw [e, zz]
    have hV : 0 ≤ zval b64 V := by
      refine Int.not_lt.mp fun q => ?_
      have : zval b64 V * (y : Int) ≤ 0 := Int.mul_nonpos_of_nonpos_of_nonneg (Int.le_of_lt q) (Int.natCast_nonneg _)
      have : 0 < x * one64 := Nat.mul_pos (by omega) one64_pos
      omega
    have hVz : zval b64 V = (zmag b64 V : Int) := by
      unfold zval at hV ⊢
      cases hs : sgn V <;> rw [hs] at hV <;> simp only [signed, if_true, Bool.false_eq_true, if_false] at hV ⊢ <;> omega
    rw [hVz] at h ⊢
    have h' : x * one64 ≤ zmag b64 V * y := by exact_mod_cast h
    have := zmag_roundRatio_le good_b64 (s := false) (A := c) (B := d) (e := q - r) (e0 := 2 * b64.qmin - r) (V := V) (by omega) f n (by omega) (by omega) (by
      rw [u1, Nat.mul_assoc, Nat.mul_comm (2 ^ _) d, u2]; exact h')
    omega
  · rw [e, zz]
    by_cases hV : 0 ≤ zval b64 V
    · have hVz : zval b64 V = (zmag b64 V : Int) := by
        unfold zval at hV ⊢
        cases hs : sgn V <;> rw [hs] at hV <;> simp only [signed, if_true, Bool.false_eq_true, if_false] at hV ⊢ <;> omega
      rw [hVz] at h ⊢
      have h' : zmag b64 V * y ≤ x * one64 := by exact_mod_cast h
      have := zmag_roundRatio_ge good_b64 (s := false) (A := c) (B := d) (e := q - r) (e0 := 2 * b64.qmin - r) (V := V) (by omega) f (by omega) (by omega) (by
        rw [u1, Nat.mul_assoc, Nat.mul_comm (2 ^ _) d, u2]; exact h')
      omega
    · omega
theorem own_rmul {a b : UInt64} {x y : Nat} (ha : own_z a x) (hb : own_z b y) (hlo : 2 ^ 60 * one64 ≤ x * y) (hhi : x * y < own_P * one64) :
    ∃ z : Nat, own_z (FP.dmul a b) z ∧ 2 ^ 51 * (z * one64) ≤ (2 ^ 51 + 1) * (x * y) ∧ (2 ^ 51 - 1) * (x * y) ≤ 2 ^ 51 * (z * one64) := by
  obtain ⟨s, c, q, h1, f1, z1, s1⟩ := own_zs ha
  obtain ⟨t, d, r, h2, f2, z2, s2⟩ := own_zs hb
  have p0 : 0 < 2 ^ 60 * one64 := Nat.mul_pos (by decide) one64_pos
  have x0 : x ≠ 0 := by intro q; rw [q, Nat.zero_mul] at hlo; omega
  have y0 : y ≠ 0 := by intro q; rw [q, Nat.mul_zero] at hlo; omega
  have t0 : t = false := by rcases s2 with h | h; exact h; exact absurd h y0
  have s0 : s = false := by rcases s1 with h | h; exact h; exact absurd h x0
  subst t0 s0
  have e : val64 (FP.dmul a b) = round b64 (.fin false (c * d) (q + r)) := by
    have q1 : val64 (FP.dmul a b) = round b64 (exactProduct (val64 a) (val64 b)) := val64_dmul a b
    rw [q1, h1, h2]; rfl
  have hq : b64.qmin ≤ q := f1.2.1
  have hr : b64.qmin ≤ r := f2.2.1
  have qm := own_q64
  have u1 : inUnits (c * d) (q + r) (2 * b64.qmin) = x * y := by
    rw [← z1, ← z2]
    unfold inUnits
    rw [Nat.mul_mul_mul_comm, ← Nat.pow_add]
    congr 2
    omega
  have u2 : ((2 ^ (b64.qmin - 2 * b64.qmin).toNat : Nat) : Int) = (one64 : Int) := by
    rw [show (b64.qmin - 2 * b64.qmin).toNat = (-b64.qmin).toNat by omega, own_one]
  refine own_mk (r := FP.dmul a b) (x * y) one64 one64_pos hlo hhi (by rw [e]; exact roundRatio_ne_nan _ _ _ _ _) (fun V f n h => ?_) (fun V f n h => ?_)
  · rw [e]
    refine zval_round_le good_b64 f n (e0 := 2 * b64.qmin) (by omega) (by omega) ?_
    rw [u1, u2]; exact h
  · rw [e]
    refine zval_round_ge good_b64 f n (e0 := 2 * b64.qmin) (by omega) (by omega) ?_
    rw [u1, u2]; exact h
theorem own_exq {r : UInt64} {z : Nat} {V : Datum} (hz : zval b64 V = z) (hzt : z < 2 ^ 1502) (hn : val64 r ≠ .nan) (h1 : zval b64 (val64 r) ≤ zval b64 V) (h2 : zval b64 V ≤ zval b64 (val64 r)) : own_z r z := by
  have e : zval b64 (val64 r) = z := by omega
  refine ⟨?_, e⟩
  cases hv : val64 r with
  | nan => exact absurd hv hn
  | fin s c q => exact ⟨s, c, q, hv⟩
  | inf s =>
    exfalso
    have ht := own_top
    rw [hv] at e
    have hi : zval b64 (.inf s) = signed s (b64.tails * 2 ^ (b64.exps - 2)) := rfl
    rw [hi] at e
    generalize b64.tails * 2 ^ (b64.exps - 2) = top at *
    cases s <;> simp only [signed, if_true, Bool.false_eq_true, if_false] at e <;> omega
theorem own_o64 : one64 = 2 ^ 1074 := rfl
theorem own_i2d {n : Nat} (h0 : 0 < n) (h : n ≤ 131072) : own_z (FP.i2d (Int32.ofNat n)) (n * one64) := by
  obtain ⟨V, f, nn, hz⟩ := own_gridj n 1074 h0 (by omega) (by omega) (by omega)
  rw [← own_o64] at hz
  have ei : (Int32.ofNat n).toInt = n := Int32.toInt_ofNat_of_lt (by omega)
  have e : val64 (FP.i2d (Int32.ofNat n)) = round b64 (ofInt (Int32.ofNat n).toInt) := val64_i2d _
  have lt : n * one64 < 2 ^ 1502 := by
    have : n * one64 ≤ 2 ^ 17 * one64 := Nat.mul_le_mul_right _ (by omega)
    rw [own_o64, ← Nat.pow_add] at this
    exact Nat.lt_of_le_of_lt (by rw [own_o64]; exact this) (Nat.pow_lt_pow_right (by decide) (by decide))
  refine own_exq hz lt (by rw [e]; exact roundRatio_ne_nan _ _ _ _ _) ?_ ?_
  · rw [e]
    refine zval_round_le good_b64 f nn (e0 := b64.qmin) (Int.le_refl _) (by decide +kernel) ?_
    rw [ofInt_units b64, pow_qmin64, Int.sub_self, ei, hz]
    show _ ≤ _ * ((1 : Nat) : Int)
    rw [show ((1 : Nat) : Int) = 1 from rfl, Int.mul_one, Int.natCast_mul]; exact Int.le_refl _
  · rw [e]
    refine zval_round_ge good_b64 f nn (e0 := b64.qmin) (Int.le_refl _) (by decide +kernel) ?_
    rw [ofInt_units b64, pow_qmin64, Int.sub_self, ei, hz]
    show _ * ((1 : Nat) : Int) ≤ _
    rw [show ((1 : Nat) : Int) = 1 from rfl, Int.mul_one, Int.natCast_mul]; exact Int.le_refl _
theorem own_bits {a b : UInt64} {z : Nat} (ha : own_z a z) (hb : own_z b z) (h0 : 0 < b.toNat) (h1 : b.toNat < 2 ^ 63) : a = b := by
  have na : val64 a ≠ .nan := by obtain ⟨s, c, q, h⟩ := ha.1; rw [h]; exact Datum.noConfusion
  have nb : val64 b ≠ .nan := by obtain ⟨s, c, q, h⟩ := hb.1; rw [h]; exact Datum.noConfusion
  have e := dcmp_eq.mpr ⟨na, nb, by rw [ha.2, hb.2]⟩
  rw [dcmp_key na nb] at e
  have e2 : compare (dkey a) (dkey b) = .eq := Option.some.inj e
  have e3 : dkey a = dkey b := by rw [Int.compare_eq_eq] at e2; exact e2
  have hl := a.toNat_lt
  apply UInt64.toNat_inj.mp
  unfold dkey at e3
  split at e3 <;> split at e3 <;> omega
theorem own_const {a : UInt64} {c : Nat} {q : Int} (h : val64 a = .fin false c q) : own_z a (inUnits c q b64.qmin) := ⟨⟨_, _, _, h⟩, by rw [h]; rfl⟩
theorem own_kU {N zR n X W zS c0 zK l : Nat} (hX : X = 3 * l * W) (h1 : N * (zR * n) ≤ (N + 1) * X) (h2 : N * zS ≤ (N + 1) * (W + zR)) (h3 : N * (zK * W) ≤ (N + 1) * (c0 * zS)) :
    N * N * N * (zK * n) * W ≤ (N + 1) * (N + 1) * (N + 1) * (c0 * (n + 3 * l)) * W := by
  have s1 := Nat.mul_le_mul_right (N * N * n) h3
  have s2 := Nat.mul_le_mul_right ((N + 1) * c0 * (N * n)) h2
  have s3 : (W + zR) * (N * n) ≤ (N + 1) * ((n + 3 * l) * W) := by
    have e1 : (W + zR) * (N * n) = N * (zR * n) + N * (W * n) := by rw [Nat.add_mul]; rw [Nat.add_comm]; congr 1 <;> ac_rfl
    have e2 : (N + 1) * ((n + 3 * l) * W) = (N + 1) * X + (N + 1) * (W * n) := by rw [hX, ← Nat.mul_add]; congr 1; rw [Nat.add_mul, Nat.add_comm]; congr 1; ac_rfl
    rw [e1, e2]
    exact Nat.add_le_add h1 (Nat.mul_le_mul_right _ (Nat.le_succ N))
  have s4 := Nat.mul_le_mul_left ((N + 1) * ((N + 1) * c0)) s3
  calc N * N * N * (zK * n) * W = N * (zK * W) * (N * N * n) := by ac_rfl
    _ ≤ (N + 1) * (c0 * zS) * (N * N * n) := s1
    _ = N * zS * ((N + 1) * c0 * (N * n)) := by ac_rfl
    _ ≤ (N + 1) * (W + zR) * ((N + 1) * c0 * (N * n)) := s2
    _ = (N + 1) * ((N + 1) * c0) * ((W + zR) * (N * n)) := by ac_rfl
    _ ≤ (N + 1) * ((N + 1) * c0) * ((N + 1) * ((n + 3 * l) * W)) := s4
    _ = _ := by ac_rfl
theorem own_kL {N zR n X W zS c0 zK l : Nat} (hX : X = 3 * l * W) (h1 : (N - 1) * X ≤ N * (zR * n)) (h2 : (N - 1) * (W + zR) ≤ N * zS) (h3 : (N - 1) * (c0 * zS) ≤ N * (zK * W)) :
    (N - 1) * (N - 1) * (N - 1) * (c0 * (n + 3 * l)) * W ≤ N * N * N * (zK * n) * W := by
  have s1 := Nat.mul_le_mul_right (N * N * n) h3
  have s2 := Nat.mul_le_mul_right ((N - 1) * c0 * (N * n)) h2
  have s3 : (N - 1) * ((n + 3 * l) * W) ≤ (W + zR) * (N * n) := by
    have e1 : (W + zR) * (N * n) = N * (zR * n) + N * (W * n) := by rw [Nat.add_mul]; rw [Nat.add_comm]; congr 1 <;> ac_rfl
    have e2 : (N - 1) * ((n + 3 * l) * W) = (N - 1) * X + (N - 1) * (W * n) := by rw [hX, ← Nat.mul_add]; congr 1; rw [Nat.add_mul, Nat.add_comm]; congr 1; ac_rfl
    rw [e1, e2]
    exact Nat.add_le_add h1 (Nat.mul_le_mul_right _ (Nat.sub_le N 1))
  have s4 := Nat.mul_le_mul_left ((N - 1) * ((N - 1) * c0)) s3
  calc (N - 1) * (N - 1) * (N - 1) * (c0 * (n + 3 * l)) * W = (N - 1) * ((N - 1) * c0) * ((N - 1) * ((n + 3 * l) * W)) := by ac_rfl
    _ ≤ (N - 1) * ((N - 1) * c0) * ((W + zR) * (N * n)) := s4
    _ = (N - 1) * (W + zR) * ((N - 1) * c0 * (N * n)) := by ac_rfl
    _ ≤ N * zS * ((N - 1) * c0 * (N * n)) := s2
    _ = (N - 1) * (c0 * zS) * (N * N * n) := by ac_rfl
    _ ≤ N * (zK * W) * (N * N * n) := s1
    _ = _ := by ac_rfl
theorem own_cmpT {N t1 t2 d1 d2 f1 f2 k1 k2 O : Nat} (hO : 0 < O) (hN : 0 < N) (a1 : N * (t1 * d1) ≤ (N + 1) * (f1 * O * O)) (a2 : (N - 1) * (f2 * O * O) ≤ N * (t2 * d2)) (b1 : (N - 1) * (f1 * O + k1) ≤ N * d1) (b2 : N * d2 ≤ (N + 1) * (f2 * O + k2))
    (H : (N + 1) * (N + 1) * (f1 * (f2 * O + k2)) < (N - 1) * (N - 1) * (f2 * (f1 * O + k1))) : t1 < t2 := by
  refine Nat.lt_of_not_le fun hc => ?_
  have s1 : (N - 1) * f2 * d1 * (O * O) ≤ (N + 1) * f1 * d2 * (O * O) := by
    calc (N - 1) * f2 * d1 * (O * O) = (N - 1) * (f2 * O * O) * d1 := by ac_rfl
      _ ≤ N * (t2 * d2) * d1 := Nat.mul_le_mul_right _ a2
      _ = t2 * (N * d1 * d2) := by ac_rfl
      _ ≤ t1 * (N * d1 * d2) := Nat.mul_le_mul_right _ hc
      _ = N * (t1 * d1) * d2 := by ac_rfl
      _ ≤ (N + 1) * (f1 * O * O) * d2 := Nat.mul_le_mul_right _ a1
      _ = _ := by ac_rfl
  have s2 : (N - 1) * f2 * d1 ≤ (N + 1) * f1 * d2 := Nat.le_of_mul_le_mul_right s1 (Nat.mul_pos hO hO)
  have s3 : (N - 1) * (N - 1) * (f2 * (f1 * O + k1)) ≤ (N + 1) * (N + 1) * (f1 * (f2 * O + k2)) := by
    calc (N - 1) * (N - 1) * (f2 * (f1 * O + k1)) = (N - 1) * f2 * ((N - 1) * (f1 * O + k1)) := by ac_rfl
      _ ≤ (N - 1) * f2 * (N * d1) := Nat.mul_le_mul_left _ b1
      _ = N * ((N - 1) * f2 * d1) := by ac_rfl
      _ ≤ N * ((N + 1) * f1 * d2) := Nat.mul_le_mul_left _ s2
      _ = (N + 1) * f1 * (N * d2) := by ac_rfl
      _ ≤ (N + 1) * f1 * ((N + 1) * (f2 * O + k2)) := Nat.mul_le_mul_left _ b2
      _ = _ := by ac_rfl
  omega
def own_E : Nat := 2 ^ 1020
theorem own_E1 : 2 ^ 100 ≤ own_E := Nat.pow_le_pow_right (by decide) (by decide)
theorem own_E2 : own_E * 2 ^ 100 < own_P := by
  unfold own_E own_P
  rw [← Nat.pow_add]
  exact Nat.pow_lt_pow_right (by decide) (by decide)
theorem own_OE : one64 = 2 ^ 54 * own_E := by unfold one64 own_E; rw [← Nat.pow_add]
theorem own_iu {c : Nat} {q : Int} {k : Nat} (h : q = (k : Int) - 54) : inUnits c q b64.qmin = c * 2 ^ k * own_E := by
  unfold inUnits own_E
  rw [own_q64, Nat.mul_assoc, ← Nat.pow_add]
  congr 2
  omega
theorem own_z75 : own_z (4604930618986332160 : UInt64) (3 * 2 ^ 52 * own_E) := by
  have h : val64 (4604930618986332160 : UInt64) = .fin false 6755399441055744 (-53) := by decide +kernel
  have e : inUnits 6755399441055744 (-53) b64.qmin = 6755399441055744 * 2 ^ 1 * own_E := own_iu (k := 1) (by decide)
  have e2 : 6755399441055744 * 2 ^ 1 * own_E = 3 * 2 ^ 52 * own_E := by omega
  exact e2 ▸ e ▸ own_const h
theorem own_z25 : own_z (4598175219545276416 : UInt64) (2 ^ 52 * own_E) := by
  have h : val64 (4598175219545276416 : UInt64) = .fin false 4503599627370496 (-54) := by decide +kernel
  have e : inUnits 4503599627370496 (-54) b64.qmin = 4503599627370496 * 2 ^ 0 * own_E := own_iu (k := 0) (by decide)
  have e2 : 4503599627370496 * 2 ^ 0 * own_E = 2 ^ 52 * own_E := by omega
  exact e2 ▸ e ▸ own_const h
theorem own_z12 : own_z (4608083138725491507 : UInt64) (4 * (5404319552844595 * own_E)) := by
  have h : val64 (4608083138725491507 : UInt64) = .fin false 5404319552844595 (-52) := by decide +kernel
  have e : inUnits 5404319552844595 (-52) b64.qmin = 5404319552844595 * 2 ^ 2 * own_E := own_iu (k := 2) (by decide)
  have e2 : 5404319552844595 * 2 ^ 2 * own_E = 4 * (5404319552844595 * own_E) := by omega
  exact e2 ▸ e ▸ own_const h
theorem own_z03 : own_z (4599075939470750515 : UInt64) (5404319552844595 * own_E) := by
  have h : val64 (4599075939470750515 : UInt64) = .fin false 5404319552844595 (-54) := by decide +kernel
  have e : inUnits 5404319552844595 (-54) b64.qmin = 5404319552844595 * 2 ^ 0 * own_E := own_iu (k := 0) (by decide)
  have e2 : 5404319552844595 * 2 ^ 0 * own_E = 5404319552844595 * own_E := by omega
  exact e2 ▸ e ▸ own_const h
/-- 0.75 times a small whole number is exact -/
theorem own_m75 {l : Nat} (h0 : 0 < l) (h : l ≤ 131072) : own_z (FP.dmul (4604930618986332160 : UInt64) (FP.i2d (Int32.ofNat l))) (3 * l * (2 ^ 52 * own_E)) := by
  have e : val64 (FP.dmul (4604930618986332160 : UInt64) (FP.i2d (Int32.ofNat l))) = round b64 (exactProduct (val64 (4604930618986332160 : UInt64)) (val64 (FP.i2d (Int32.ofNat l)))) := val64_dmul _ _
  obtain ⟨s, c, q, h1, f1, z1, s1⟩ := own_zs own_z75
  obtain ⟨t, d, r, h2, f2, z2, s2⟩ := own_zs (own_i2d h0 h)
  have p1 : 0 < own_E := Nat.lt_of_lt_of_le (by decide) own_E1
  have y0 : l * one64 ≠ 0 := Nat.ne_of_gt (Nat.mul_pos h0 one64_pos)
  have x0 : 3 * 2 ^ 52 * own_E ≠ 0 := by omega
  have t0 : t = false := by rcases s2 with h | h; exact h; exact absurd h y0
  have s0 : s = false := by rcases s1 with h | h; exact h; exact absurd h x0
  subst t0 s0
  rw [h1, h2] at e
  have e' : val64 (FP.dmul (4604930618986332160 : UInt64) (FP.i2d (Int32.ofNat l))) = round b64 (.fin false (c * d) (q + r)) := e
  have hq : b64.qmin ≤ q := f1.2.1
  have hr : b64.qmin ≤ r := f2.2.1
  have qm := own_q64
  have u1 : inUnits (c * d) (q + r) (2 * b64.qmin) = (3 * 2 ^ 52 * own_E) * (l * one64) := by
    rw [← z1, ← z2]
    unfold inUnits
    rw [Nat.mul_mul_mul_comm, ← Nat.pow_add]
    congr 2
    omega
  have u2 : ((2 ^ (b64.qmin - 2 * b64.qmin).toNat : Nat) : Int) = (one64 : Int) := by
    rw [show (b64.qmin - 2 * b64.qmin).toNat = (-b64.qmin).toNat by omega, own_one]
  obtain ⟨V, f, n, hz⟩ := own_gridj (3 * l) 1072 (by omega) (by omega) (by omega) (by omega)
  have ez : 3 * l * 2 ^ 1072 = 3 * l * (2 ^ 52 * own_E) := by unfold own_E; rw [← Nat.pow_add]
  rw [ez] at hz
  have lt : 3 * l * (2 ^ 52 * own_E) < 2 ^ 1502 := by
    have a := own_E2
    have b : 3 * l * (2 ^ 52 * own_E) ≤ 393216 * (2 ^ 52 * own_E) := Nat.mul_le_mul_right _ (by omega)
    have c : own_P < 2 ^ 1502 := Nat.pow_lt_pow_right (by decide) (by decide)
    generalize 2 ^ 1502 = P2 at *
    omega
  have key : 3 * 2 ^ 52 * own_E * (l * one64) = 3 * l * (2 ^ 52 * own_E) * one64 := by
    generalize 2 ^ 52 = P
    generalize own_E = E
    generalize one64 = O
    ac_rfl
  refine own_exq hz lt (by rw [e']; exact roundRatio_ne_nan _ _ _ _ _) ?_ ?_
  · rw [e']
    refine zval_round_le good_b64 f n (e0 := 2 * b64.qmin) (by omega) (by omega) ?_
    rw [u1, u2, hz, key]; show ((3 * l * (2 ^ 52 * own_E) * one64 : Nat) : Int) ≤ _; rw [Int.natCast_mul]; exact Int.le_refl _
  · rw [e']
    refine zval_round_ge good_b64 f n (e0 := 2 * b64.qmin) (by omega) (by omega) ?_
    rw [u1, u2, hz, key]; show _ ≤ ((3 * l * (2 ^ 52 * own_E) * one64 : Nat) : Int); rw [Int.natCast_mul]; exact Int.le_refl _
theorem own_can {a b c d k : Nat} (hk : 0 < k) (h : a * (b * k) ≤ c * (d * k)) : a * b ≤ c * d := by
  rw [← Nat.mul_assoc, ← Nat.mul_assoc] at h
  exact Nat.le_of_mul_le_mul_right h hk
def own_Rd (l n : Nat) : UInt64 := FP.ddiv (FP.dmul (4604930618986332160 : UInt64) (FP.i2d (Int32.ofNat l))) (FP.i2d (Int32.ofNat n))
def own_Sd (l n : Nat) : UInt64 := FP.dadd (4598175219545276416 : UInt64) (own_Rd l n)
def own_Kd (l n : Nat) : UInt64 := FP.dmul (4608083138725491507 : UInt64) (own_Sd l n)
def own_c0 : Nat := 5404319552844595 * own_E
def own_kb (k l n : Nat) : Prop := 2 ^ 51 * (k * n) ≤ (2 ^ 51 + 4) * (own_c0 * (n + 3 * l)) ∧ (2 ^ 51 - 4) * (own_c0 * (n + 3 * l)) ≤ 2 ^ 51 * (k * n)
theorem own_fU {q Q : Nat} (h : 2 ^ 51 * 2 ^ 51 * 2 ^ 51 * q ≤ (2 ^ 51 + 1) * (2 ^ 51 + 1) * (2 ^ 51 + 1) * Q) : 2 ^ 51 * q ≤ (2 ^ 51 + 4) * Q := by omega
theorem own_fL {q Q : Nat} (h : (2 ^ 51 - 1) * (2 ^ 51 - 1) * (2 ^ 51 - 1) * Q ≤ 2 ^ 51 * 2 ^ 51 * 2 ^ 51 * q) : (2 ^ 51 - 4) * Q ≤ 2 ^ 51 * q := by omega
theorem own_h54 (E : Nat) : 2 ^ 54 * E = 4 * (2 ^ 52 * E) := by omega
theorem own_h4u {a b : Nat} (h : 2 ^ 51 * (4 * a) ≤ (2 ^ 51 + 1) * (4 * b)) : 2 ^ 51 * a ≤ (2 ^ 51 + 1) * b := by omega
theorem own_h4l {a b : Nat} (h : (2 ^ 51 - 1) * (4 * b) ≤ 2 ^ 51 * (4 * a)) : (2 ^ 51 - 1) * b ≤ 2 ^ 51 * a := by omega
set_option maxRecDepth 65536 in
theorem own_K1 {l n : Nat} (l0 : 0 < l) (l1 : l ≤ 65536) (n0 : 0 < n) (n1 : n ≤ 65537) : (∃ r, own_z (own_Rd l n) r) ∧ (∃ s, own_z (own_Sd l n) s) ∧ ∃ k, own_z (own_Kd l n) k ∧ own_kb k l n := by
  have E1 := own_E1
  have E2 := own_E2
  have pE : 0 < own_E := Nat.lt_of_lt_of_le (by decide) E1
  have ex : 3 * l * (2 ^ 52 * own_E) = 3 * 2 ^ 52 * (l * own_E) := by
    generalize 2 ^ 52 = P
    generalize own_E = E
    ac_rfl
  have e1 : own_E ≤ l * own_E := Nat.le_mul_of_pos_left _ l0
  have e2 : l * own_E ≤ 65536 * own_E := Nat.mul_le_mul_right _ l1
  have en : own_P ≤ own_P * n := Nat.le_mul_of_pos_right _ n0
  obtain ⟨r, hr, a1, a2⟩ := own_rdiv (own_m75 l0 (by omega)) (own_i2d n0 (by omega)) (Nat.mul_pos n0 one64_pos)
    (by rw [← Nat.mul_assoc]; refine Nat.mul_le_mul_right _ ?_; rw [ex]; (generalize own_E = EE at *; generalize own_P = PP at *; generalize one64 = OO at *; omega))
    (by rw [← Nat.mul_assoc own_P]; refine Nat.mul_lt_mul_of_pos_right ?_ one64_pos; rw [ex]; (generalize own_E = EE at *; generalize own_P = PP at *; generalize one64 = OO at *; omega))
  rw [← Nat.mul_assoc r n one64] at a1 a2
  have b1 := own_can one64_pos a1
  have b2 := own_can one64_pos a2
  rw [ex] at b1 b2
  have rn : r ≤ r * n := Nat.le_mul_of_pos_right _ n0
  obtain ⟨s, hs, c1, c2⟩ := own_radd own_z25 hr (by (generalize own_E = EE at *; generalize own_P = PP at *; generalize one64 = OO at *; omega)) (by (generalize own_E = EE at *; generalize own_P = PP at *; generalize one64 = OO at *; omega))
  have s1 : 2 ^ 100 ≤ s := by (generalize own_E = EE at *; generalize own_P = PP at *; generalize one64 = OO at *; omega)
  have m1 := Nat.mul_le_mul_left (4 * (5404319552844595 * own_E)) s1
  have OE := own_OE
  have s2 : 21617278211378380 * s < own_P * 2 ^ 54 := by (generalize own_E = EE at *; generalize own_P = PP at *; generalize one64 = OO at *; omega)
  have m2 : 21617278211378380 * s * own_E < own_P * 2 ^ 54 * own_E := Nat.mul_lt_mul_of_pos_right s2 pE
  have ey : 4 * (5404319552844595 * own_E) * s = 21617278211378380 * s * own_E := by
    generalize own_E = E
    rw [Nat.mul_comm _ s, ← Nat.mul_assoc 4, ← Nat.mul_assoc s, Nat.mul_comm s]
  obtain ⟨k, hk, d1, d2⟩ := own_rmul own_z12 hs (by rw [OE]; (generalize own_E = EE at *; generalize own_P = PP at *; generalize one64 = OO at *; omega)) (by rw [ey, OE, ← Nat.mul_assoc]; exact m2)
  refine ⟨⟨r, hr⟩, ⟨s, hs⟩, k, hk, ?_⟩
  have ok : k * one64 = 4 * (k * (2 ^ 52 * own_E)) := by
    rw [OE, own_h54]
    generalize 2 ^ 52 * own_E = W
    ac_rfl
  have oc : 4 * (5404319552844595 * own_E) * s = 4 * (own_c0 * s) := Nat.mul_assoc _ _ _
  rw [ok, oc] at d1 d2
  have W0 : 0 < 2 ^ 52 * own_E := Nat.mul_pos (by decide) pE
  have u := own_kU (N := 2 ^ 51) (zR := r) (n := n) (X := 3 * 2 ^ 52 * (l * own_E)) (W := 2 ^ 52 * own_E) (zS := s) (c0 := own_c0) (zK := k) (l := l) ex.symm b1 c1 (own_h4u d1)
  have v := own_kL (N := 2 ^ 51) (zR := r) (n := n) (X := 3 * 2 ^ 52 * (l * own_E)) (W := 2 ^ 52 * own_E) (zS := s) (c0 := own_c0) (zK := k) (l := l) ex.symm b2 c2 (own_h4l d2)
  have u' := Nat.le_of_mul_le_mul_right u W0
  have v' := Nat.le_of_mul_le_mul_right v W0
  exact ⟨own_fU u', own_fL v'⟩
theorem own_d0 {b : UInt64} {y : Nat} (hb : own_z b y) (hy : 0 < y) : FP.ddiv (0 : UInt64) b = 0 := by
  obtain ⟨t, d, r, h2, f2, z2, s2⟩ := own_zs hb
  have t0 : t = false := by rcases s2 with h | h; exact h; omega
  subst t0
  have d0 : d ≠ 0 := by intro q; rw [q] at z2; unfold inUnits at z2; rw [Nat.zero_mul] at z2; omega
  have v0 : val64 (0 : UInt64) = .fin false 0 b64.qmin := by decide +kernel
  have e : val64 (FP.ddiv (0 : UInt64) b) = .fin false 0 b64.qmin := by
    have q1 : val64 (FP.ddiv (0 : UInt64) b) = quotient b64 (val64 (0 : UInt64)) (val64 b) := val64_ddiv _ b
    rw [q1, v0, h2]
    show (if d = 0 then _ else _) = _
    rw [if_neg d0]
    show roundRatio b64 false 0 d (b64.qmin - r) = _
    exact if_pos rfl
  exact val64_inj (by rw [e]; exact Datum.noConfusion) (by rw [e, v0])
theorem own_c0p : 0 < own_c0 := Nat.mul_pos (by decide) (Nat.lt_of_lt_of_le (by decide) own_E1)
theorem own_K0 {n : Nat} (n0 : 0 < n) (n1 : n ≤ 65537) : own_Rd 0 n = 0 ∧ own_Sd 0 n = 4598175219545276416 ∧ own_Kd 0 n = 4599075939470750515 := by
  have e1 : FP.dmul (4604930618986332160 : UInt64) (FP.i2d (Int32.ofNat 0)) = 0 := by decide +kernel
  have h1 : own_Rd 0 n = 0 := by
    unfold own_Rd
    rw [e1]
    exact own_d0 (own_i2d n0 (by omega)) (Nat.mul_pos n0 one64_pos)
  have h2 : own_Sd 0 n = 4598175219545276416 := by
    unfold own_Sd
    rw [h1]; decide +kernel
  refine ⟨h1, h2, ?_⟩
  unfold own_Kd
  rw [h2]; decide +kernel
theorem own_z0 : own_z (0 : UInt64) 0 := by
  have h : val64 (0 : UInt64) = .fin false 0 b64.qmin := by decide +kernel
  have e : inUnits 0 b64.qmin b64.qmin = 0 := Nat.zero_mul _
  exact e ▸ own_const h
theorem own_K {l n : Nat} (l1 : l ≤ 65536) (n0 : 0 < n) (n1 : n ≤ 65537) : (∃ r, own_z (own_Rd l n) r) ∧ (∃ s, own_z (own_Sd l n) s) ∧ ∃ k, own_z (own_Kd l n) k ∧ own_kb k l n := by
  by_cases h : l = 0
  · subst h
    obtain ⟨a, b, c⟩ := own_K0 n0 n1
    rw [a, b, c]
    refine ⟨⟨_, own_z0⟩, ⟨_, own_z25⟩, _, own_z03, ?_⟩
    unfold own_kb
    have e : own_c0 * (n + 3 * 0) = 5404319552844595 * own_E * n := by rw [Nat.mul_zero, Nat.add_zero, own_c0]
    rw [e]
    generalize 5404319552844595 * own_E * n = q
    constructor <;> omega
  · exact own_K1 (by omega) l1 n0 n1
/-- k lies between 0.29 and 2^20 -/
theorem own_kr {k l n : Nat} (h : own_kb k l n) (l1 : l ≤ 65536) (n0 : 0 < n) (n1 : n ≤ 65537) : own_c0 ≤ 2 * k ∧ (2 ^ 51 - 4) * own_c0 ≤ 2 ^ 51 * k ∧ k ≤ 2 ^ 20 * own_c0 := by
  obtain ⟨a, b⟩ := h
  have e1 : own_c0 * n ≤ own_c0 * (n + 3 * l) := Nat.mul_le_mul_left _ (by omega)
  have e2 : own_c0 * (n + 3 * l) ≤ own_c0 * 262145 := Nat.mul_le_mul_left _ (by omega)
  have e3 : k ≤ k * n := Nat.le_mul_of_pos_right _ n0
  have e4 : (2 ^ 51 - 4) * own_c0 ≤ 2 ^ 51 * k := by
    refine Nat.le_of_mul_le_mul_right (c := n) ?_ n0
    rw [Nat.mul_assoc, Nat.mul_assoc]
    exact Nat.le_trans (Nat.mul_le_mul_left _ e1) b
  generalize own_c0 * (n + 3 * l) = q at *
  generalize own_c0 * n = q2 at *
  generalize k * n = q3 at *
  generalize own_c0 = c at *
  refine ⟨by omega, e4, by omega⟩
theorem own_Oc : 299 * one64 ≤ 1000 * own_c0 ∧ own_c0 ≤ one64 ∧ 2 ^ 150 ≤ one64 ∧ one64 * 2 ^ 40 < own_P := by
  have a := own_E1
  have b := own_E2
  rw [own_OE]
  unfold own_c0
  generalize own_E = E at *
  generalize own_P = P at *
  have c : 2 ^ 54 * E * 2 ^ 40 ≤ E * 2 ^ 100 := by rw [Nat.mul_comm (2 ^ 54), Nat.mul_assoc]; exact Nat.mul_le_mul_left E (by decide)
  refine ⟨by omega, by omega, by omega, Nat.lt_of_le_of_lt c b⟩
def own_Dd (f l n : Nat) : UInt64 := FP.dadd (FP.i2d (Int32.ofNat f)) (own_Kd l n)
def own_Td (f l n : Nat) : UInt64 := FP.ddiv (FP.i2d (Int32.ofNat f)) (own_Dd f l n)
theorem own_T {f l n k : Nat} (f0 : 0 < f) (f1 : f ≤ 65536) (l1 : l ≤ 65536) (n0 : 0 < n) (n1 : n ≤ 65537) (hk : own_z (own_Kd l n) k) (hb : own_kb k l n) :
    ∃ d t, own_z (own_Dd f l n) d ∧ own_z (own_Td f l n) t ∧ (2 ^ 51 - 1) * (f * one64 + k) ≤ 2 ^ 51 * d ∧ 2 ^ 51 * d ≤ (2 ^ 51 + 1) * (f * one64 + k) ∧ 2 ^ 51 * (t * d) ≤ (2 ^ 51 + 1) * (f * one64 * one64) ∧ (2 ^ 51 - 1) * (f * one64 * one64) ≤ 2 ^ 51 * (t * d) := by
  obtain ⟨k1, -, k2⟩ := own_kr hb l1 n0 n1
  obtain ⟨o1, o2, o3, o4⟩ := own_Oc
  have g1 : one64 ≤ f * one64 := Nat.le_mul_of_pos_left _ f0
  have g2 : f * one64 ≤ 65536 * one64 := Nat.mul_le_mul_right _ f1
  obtain ⟨d, hd, a1, a2⟩ := own_radd (own_i2d f0 (by omega)) hk (by generalize f * one64 = F at *; generalize one64 = O at *; generalize own_c0 = c at *; generalize own_P = P at *; omega) (by generalize f * one64 = F at *; generalize one64 = O at *; generalize own_c0 = c at *; generalize own_P = P at *; omega)
  have d1 : d ≤ 2 ^ 23 * one64 ∧ one64 ≤ 2 * d := by
    generalize f * one64 = F at *; generalize one64 = O at *; generalize own_c0 = c at *; generalize own_P = P at *
    constructor <;> omega
  have m1 : 2 ^ 60 * d ≤ f * one64 * one64 := by
    have x1 : 2 ^ 60 * d ≤ 2 ^ 83 * one64 := by
      have := d1.1
      generalize one64 = O at *
      omega
    have x2 : 2 ^ 83 * one64 ≤ f * one64 * one64 := Nat.mul_le_mul_right _ (by generalize f * one64 = F at *; generalize one64 = O at *; omega)
    exact Nat.le_trans x1 x2
  have m2 : f * one64 * one64 < own_P * d := by
    have x1 : f * one64 * one64 ≤ f * one64 * (2 * d) := Nat.mul_le_mul_left _ d1.2
    have x2 : f * one64 * 2 < own_P := by generalize f * one64 = F at *; generalize one64 = O at *; generalize own_P = P at *; omega
    have dp : 0 < d := by have := d1.2; have := o3; generalize one64 = O at *; omega
    have x3 : f * one64 * 2 * d < own_P * d := Nat.mul_lt_mul_of_pos_right x2 dp
    rw [← Nat.mul_assoc] at x1
    exact Nat.lt_of_le_of_lt x1 x3
  have dp : 0 < d := by have := d1.2; have := o3; generalize one64 = O at *; omega
  obtain ⟨t, ht, b1, b2⟩ := own_rdiv (own_i2d f0 (by omega)) hd dp m1 m2
  exact ⟨d, t, hd, ht, a2, a1, b1, b2⟩
theorem own_zn {a : UInt64} {x : Nat} (h : own_z a x) : val64 a ≠ .nan := by obtain ⟨s, c, q, e⟩ := h.1; rw [e]; exact Datum.noConfusion
theorem own_nnz {a : UInt64} {x : Nat} (h : own_z a x) : Jvm.Free.Fl.NoNaN64 a := Jvm.Free.Fl.noNaN64_no.mpr ((notNaN_iff a).mpr (own_zn h))
theorem own_gt {a b : UInt64} {x y : Nat} (ha : own_z a x) (hb : own_z b y) (h : y < x) : FP.dcmp a b = some .gt := dcmp_gt.mpr ⟨own_zn ha, own_zn hb, by rw [ha.2, hb.2]; omega⟩
theorem own_lt {a b : UInt64} {x y : Nat} (ha : own_z a x) (hb : own_z b y) (h : x < y) : FP.dcmp a b = some .lt := dcmp_lt.mpr ⟨own_zn ha, own_zn hb, by rw [ha.2, hb.2]; omega⟩
theorem own_eqd {a : UInt64} {x : Nat} (ha : own_z a x) : FP.dcmp a a = some .eq := dcmp_eq.mpr ⟨own_zn ha, own_zn ha, rfl⟩
theorem own_H1 {f k O c : Nat} (f1 : f ≤ 65536) (hO : 299 * O ≤ 1000 * c) (hk : c ≤ 2 * k) (k0 : 0 < k) : (2 ^ 51 + 1) * (2 ^ 51 + 1) * (f * ((f + 1) * O + k)) < (2 ^ 51 - 1) * (2 ^ 51 - 1) * ((f + 1) * (f * O + k)) := by
  have e1 : f * ((f + 1) * O + k) = f * (f + 1) * O + f * k := by rw [Nat.mul_add, Nat.mul_assoc]
  have e2 : (f + 1) * (f * O + k) = f * (f + 1) * O + f * k + k := by
    rw [Nat.mul_add, Nat.succ_mul f k, ← Nat.add_assoc]
    congr 2
    ac_rfl
  have b1 : f * (f + 1) * O ≤ 65536 * 65537 * O := Nat.mul_le_mul_right _ (Nat.mul_le_mul f1 (by omega))
  have b2 : f * k ≤ 65536 * k := Nat.mul_le_mul_right _ f1
  rw [e1, e2]
  generalize f * (f + 1) * O = A at *
  generalize f * k = a at *
  omega
theorem own_H2 {f l n k1 k2 O c : Nat} (f0 : 0 < f) (f1 : f ≤ 65536) (l1 : l ≤ 65535) (n0 : 0 < n) (n1 : n ≤ 65537) (hO : 299 * O ≤ 1000 * c) (c0 : 0 < c)
    (h1 : (2 ^ 51 - 4) * (c * (n + 3 * (l + 1))) ≤ 2 ^ 51 * (k1 * n)) (h2 : 2 ^ 51 * (k2 * n) ≤ (2 ^ 51 + 4) * (c * (n + 3 * l))) :
    (2 ^ 51 + 1) * (2 ^ 51 + 1) * (f * (f * O + k2)) < (2 ^ 51 - 1) * (2 ^ 51 - 1) * (f * (f * O + k1)) := by
  have e1 : c * (n + 3 * (l + 1)) = c * (n + 3 * l) + 3 * c := by rw [show n + 3 * (l + 1) = n + 3 * l + 3 by omega, Nat.mul_add]; omega
  rw [e1] at h1
  have b1 : c * (n + 3 * l) ≤ c * 262142 := Nat.mul_le_mul_left _ (by omega)
  have b2 : f * n * O ≤ 65536 * 65537 * O := Nat.mul_le_mul_right _ (Nat.mul_le_mul f1 n1)
  have key : (2 ^ 51 + 1) * (2 ^ 51 + 1) * (f * n * O + k2 * n) < (2 ^ 51 - 1) * (2 ^ 51 - 1) * (f * n * O + k1 * n) := by
    generalize c * (n + 3 * l) = q at *
    generalize f * n * O = A at *
    generalize k1 * n = a1 at *
    generalize k2 * n = a2 at *
    omega
  have r1 : f * n * O + k2 * n = (f * O + k2) * n := by rw [Nat.add_mul]; congr 1; ac_rfl
  have r2 : f * n * O + k1 * n = (f * O + k1) * n := by rw [Nat.add_mul]; congr 1; ac_rfl
  rw [r1, r2, ← Nat.mul_assoc, ← Nat.mul_assoc] at key
  have k' := Nat.lt_of_mul_lt_mul_right key
  have := Nat.mul_lt_mul_of_pos_left k' f0
  have s1 : f * ((2 ^ 51 + 1) * (2 ^ 51 + 1) * (f * O + k2)) = (2 ^ 51 + 1) * (2 ^ 51 + 1) * (f * (f * O + k2)) := Nat.mul_left_comm _ _ _
  have s2 : f * ((2 ^ 51 - 1) * (2 ^ 51 - 1) * (f * O + k1)) = (2 ^ 51 - 1) * (2 ^ 51 - 1) * (f * (f * O + k1)) := Nat.mul_left_comm _ _ _
  rw [s1, s2] at this
  exact this
theorem own_H3 {f l n k1 k2 O c : Nat} (f0 : 0 < f) (f1 : f ≤ 65535) (l0 : 0 < l) (l1 : l ≤ 65535) (n0 : 0 < n) (n1 : n ≤ 65536) (hO : 299 * O ≤ 1000 * c) (c0 : 0 < c)
    (h1 : (2 ^ 51 - 4) * (c * (n + 3 * l)) ≤ 2 ^ 51 * (k1 * n)) (h2 : 2 ^ 51 * (k2 * (n + 1)) ≤ (2 ^ 51 + 4) * (c * (n + 1 + 3 * l))) :
    (2 ^ 51 + 1) * (2 ^ 51 + 1) * (f * (f * O + k2)) < (2 ^ 51 - 1) * (2 ^ 51 - 1) * (f * (f * O + k1)) := by
  have m1 := Nat.mul_le_mul_right (n + 1) h1
  have m2 := Nat.mul_le_mul_right n h2
  have x1 : (2 ^ 51 - 4) * (c * (n + 3 * l)) * (n + 1) = (2 ^ 51 - 4) * (c * (n * (n + 1)) + 3 * (c * (l * n)) + 3 * (c * l)) := by
    rw [Nat.mul_assoc]; congr 1
    rw [Nat.mul_assoc, Nat.add_mul, Nat.mul_add c, show 3 * l * (n + 1) = 3 * (l * n) + 3 * l by rw [Nat.mul_add, Nat.mul_assoc, Nat.mul_one], Nat.mul_add c, Nat.add_assoc]
    congr 2 <;> ac_rfl
  have x2 : (2 ^ 51 + 4) * (c * (n + 1 + 3 * l)) * n = (2 ^ 51 + 4) * (c * (n * (n + 1)) + 3 * (c * (l * n))) := by
    rw [Nat.mul_assoc]; congr 1
    rw [Nat.mul_assoc, Nat.add_mul, Nat.mul_add c]
    congr 1 <;> ac_rfl
  have x3 : 2 ^ 51 * (k1 * n) * (n + 1) = 2 ^ 51 * (k1 * (n * (n + 1))) := by rw [Nat.mul_assoc, Nat.mul_assoc]
  have x4 : 2 ^ 51 * (k2 * (n + 1)) * n = 2 ^ 51 * (k2 * (n * (n + 1))) := by rw [Nat.mul_assoc, Nat.mul_assoc, Nat.mul_comm (n + 1) n]
  rw [x1, x3] at m1
  rw [x4, x2] at m2
  have q1 : n * (n + 1) ≤ 65536 * 65537 := Nat.mul_le_mul n1 (by omega)
  have b1 : c * (n * (n + 1)) ≤ c * (65536 * 65537) := Nat.mul_le_mul_left _ q1
  have b2 : c * (l * n) ≤ c * (l * 65536) := Nat.mul_le_mul_left _ (Nat.mul_le_mul_left _ n1)
  have b2' : c * (l * 65536) = 65536 * (c * l) := by rw [← Nat.mul_assoc, Nat.mul_comm]
  have b3 : c ≤ c * l := Nat.le_mul_of_pos_right _ l0
  have b4 : f * (n * (n + 1)) * O ≤ 65535 * (65536 * 65537) * O := Nat.mul_le_mul_right _ (Nat.mul_le_mul f1 q1)
  rw [b2'] at b2
  have Q0 : 0 < n * (n + 1) := Nat.mul_pos n0 (Nat.succ_pos _)
  generalize n * (n + 1) = Q at *
  have key : (2 ^ 51 + 1) * (2 ^ 51 + 1) * (f * Q * O + k2 * Q) < (2 ^ 51 - 1) * (2 ^ 51 - 1) * (f * Q * O + k1 * Q) := by
    generalize c * Q = a at *
    generalize c * (l * n) = b at *
    generalize c * l = d at *
    generalize f * Q * O = A at *
    generalize k1 * Q = a1 at *
    generalize k2 * Q = a2 at *
    clear x1 x2 x3 x4 h1 h2 b2' q1
    omega
  have r1 : f * Q * O + k2 * Q = (f * O + k2) * Q := by rw [Nat.add_mul]; congr 1; ac_rfl
  have r2 : f * Q * O + k1 * Q = (f * O + k1) * Q := by rw [Nat.add_mul]; congr 1; ac_rfl
  rw [r1, r2, ← Nat.mul_assoc, ← Nat.mul_assoc] at key
  have k' := Nat.lt_of_mul_lt_mul_right key
  have := Nat.mul_lt_mul_of_pos_left k' f0
  have s1 : f * ((2 ^ 51 + 1) * (2 ^ 51 + 1) * (f * O + k2)) = (2 ^ 51 + 1) * (2 ^ 51 + 1) * (f * (f * O + k2)) := Nat.mul_left_comm _ _ _
  have s2 : f * ((2 ^ 51 - 1) * (2 ^ 51 - 1) * (f * O + k1)) = (2 ^ 51 - 1) * (2 ^ 51 - 1) * (f * (f * O + k1)) := Nat.mul_left_comm _ _ _
  rw [s1, s2] at this
  exact this
theorem own_dmono {a b : UInt64} {x y : Nat} (ha : own_z a x) (hb : own_z b y) (hy : 0 < y) (hx : 0 < x) : val64 (FP.ddiv a b) ≠ .nan ∧ (∀ V : Datum, Jvm.FP.Core.fits b64 V → V ≠ .nan → ((x * one64 : Nat) : Int) ≤ zval b64 V * (y : Int) → zval b64 (val64 (FP.ddiv a b)) ≤ zval b64 V) ∧ (∀ V : Datum, Jvm.FP.Core.fits b64 V → V ≠ .nan → zval b64 V * (y : Int) ≤ ((x * one64 : Nat) : Int) → zval b64 V ≤ zval b64 (val64 (FP.ddiv a b))) := by
  obtain ⟨s, c, q, h1, f1, z1, s1⟩ := own_zs ha
  obtain ⟨t, d, r, h2, f2, z2, s2⟩ := own_zs hb
  have t0 : t = false := by rcases s2 with h | h; exact h; omega
  subst t0
  have d0 : d ≠ 0 := by intro q; rw [q] at z2; unfold inUnits at z2; rw [Nat.zero_mul] at z2; omega
  have x0 : x ≠ 0 := by omega
  have s0 : s = false := by rcases s1 with h | h; exact h; exact absurd h x0
  subst s0
  have e : val64 (FP.ddiv a b) = roundRatio b64 false c d (q - r) := by
    have q1 : val64 (FP.ddiv a b) = quotient b64 (val64 a) (val64 b) := val64_ddiv a b
    rw [q1, h1, h2]
    show (if d = 0 then _ else _) = _
    rw [if_neg d0]; rfl
  have hq : b64.qmin ≤ q := f1.2.1
  have hr : b64.qmin ≤ r := f2.2.1
  have qm := own_q64
  have u1 : inUnits c (q - r) (2 * b64.qmin - r) = x * one64 := by
    rw [← z1, ← own_one]
    unfold inUnits
    rw [Nat.mul_assoc, ← Nat.pow_add]
    congr 2
    omega
  have u2 : d * 2 ^ (b64.qmin - (2 * b64.qmin - r)).toNat = y := by
    rw [← z2]
    unfold inUnits
    congr 3
    omega
  have zz : zval b64 (roundRatio b64 false c d (q - r)) = (zmag b64 (roundRatio b64 false c d (q - r)) : Int) := by
    unfold zval; rw [sgn_roundRatio]; rfl
  refine ⟨by rw [e]; exact roundRatio_ne_nan _ _ _ _ _, fun V f n h => ?_, fun V f n h => ?_⟩
  · rw [e, zz]
    have hV : 0 ≤ zval b64 V := by
      refine Int.not_lt.mp fun q => ?_
      have : zval b64 V * (y : Int) ≤ 0 := Int.mul_nonpos_of_nonpos_of_nonneg (Int.le_of_lt q) (Int.natCast_nonneg _)
      have : 0 < x * one64 := Nat.mul_pos (by omega) one64_pos
      omega
    have hVz : zval b64 V = (zmag b64 V : Int) := by
      unfold zval at hV ⊢
      cases hs : sgn V <;> rw [hs] at hV <;> simp only [signed, if_true, Bool.false_eq_true, if_false] at hV ⊢ <;> omega
    rw [hVz] at h ⊢
    have h' : x * one64 ≤ zmag b64 V * y := by exact_mod_cast h
    have := zmag_roundRatio_le good_b64 (s := false) (A := c) (B := d) (e := q - r) (e0 := 2 * b64.qmin - r) (V := V) (by omega) f n (by omega) (by omega) (by
      rw [u1, Nat.mul_assoc, Nat.mul_comm (2 ^ _) d, u2]; exact h')
    omega
  · rw [e, zz]
    by_cases hV : 0 ≤ zval b64 V
    · have hVz : zval b64 V = (zmag b64 V : Int) := by
        unfold zval at hV ⊢
        cases hs : sgn V <;> rw [hs] at hV <;> simp only [signed, if_true, Bool.false_eq_true, if_false] at hV ⊢ <;> omega
      rw [hVz] at h ⊢
      have h' : zmag b64 V * y ≤ x * one64 := by exact_mod_cast h
      have := zmag_roundRatio_ge good_b64 (s := false) (A := c) (B := d) (e := q - r) (e0 := 2 * b64.qmin - r) (V := V) (by omega) f (by omega) (by omega) (by
        rw [u1, Nat.mul_assoc, Nat.mul_comm (2 ^ _) d, u2]; exact h')
      omega
    · omega
theorem own_avg {m : Nat} (m0 : 0 < m) (m1 : m ≤ 65536) : own_Kd m m = 4608083138725491507 := by
  have z1 := own_m75 m0 (by omega)
  have z2 := own_i2d m0 (by omega)
  have p1 : 0 < own_E := Nat.lt_of_lt_of_le (by decide) own_E1
  obtain ⟨hn, hle, hge⟩ := own_dmono z1 z2 (Nat.mul_pos m0 one64_pos) (Nat.mul_pos (Nat.mul_pos (by decide) m0) (Nat.mul_pos (by decide) p1))
  have v75 := own_z75
  have hv : zval b64 (val64 (4604930618986332160 : UInt64)) = ((3 * 2 ^ 52 * own_E : Nat) : Int) := v75.2
  have key : 3 * m * (2 ^ 52 * own_E) * one64 = 3 * 2 ^ 52 * own_E * (m * one64) := by
    generalize 2 ^ 52 = P
    generalize own_E = E
    generalize one64 = O
    ac_rfl
  have ek : ((3 * m * (2 ^ 52 * own_E) * one64 : Nat) : Int) = zval b64 (val64 (4604930618986332160 : UInt64)) * ((m * one64 : Nat) : Int) := by rw [hv, key, Int.natCast_mul]
  have lt : 3 * 2 ^ 52 * own_E < 2 ^ 1502 := by
    have a := own_E2
    have c : own_P < 2 ^ 1502 := Nat.pow_lt_pow_right (by decide) (by decide)
    generalize own_E = E at *
    generalize own_P = P at *
    generalize 2 ^ 1502 = P2 at *
    omega
  have hz : own_z (own_Rd m m) (3 * 2 ^ 52 * own_E) := own_exq hv lt hn (hle _ (val64_fits _) (own_zn v75) (Int.le_of_eq ek)) (hge _ (val64_fits _) (own_zn v75) (Int.le_of_eq ek.symm))
  have e1 : own_Rd m m = 4604930618986332160 := own_bits hz v75 (by decide) (by decide)
  have e2 : own_Sd m m = 4607182418800017408 := by
    unfold own_Sd
    rw [e1]; decide +kernel
  unfold own_Kd
  rw [e2]; decide +kernel
theorem own_z1 : own_z (4607182418800017408 : UInt64) one64 := by
  have h : val64 (4607182418800017408 : UInt64) = .fin false 4503599627370496 (-52) := by decide +kernel
  have e : inUnits 4503599627370496 (-52) b64.qmin = 4503599627370496 * 2 ^ 2 * own_E := own_iu (k := 2) (by decide)
  have e2 : 4503599627370496 * 2 ^ 2 * own_E = 2 ^ 54 * own_E := by generalize own_E = E; omega
  rw [own_OE]
  exact e2 ▸ e ▸ own_const h
def own_tn (f l n : Nat) : Prop := Jvm.Free.Fl.NoNaN64 (FP.dmul (4604930618986332160 : UInt64) (FP.i2d (Int32.ofNat l))) ∧ Jvm.Free.Fl.NoNaN64 (own_Rd l n) ∧ Jvm.Free.Fl.NoNaN64 (own_Sd l n) ∧ Jvm.Free.Fl.NoNaN64 (own_Kd l n) ∧ Jvm.Free.Fl.NoNaN64 (own_Dd f l n) ∧ Jvm.Free.Fl.NoNaN64 (own_Td f l n)
theorem own_i0 : FP.i2d (Int32.ofNat 0) = 0 := by decide +kernel
theorem own_D0 {l n : Nat} (l1 : l ≤ 65536) (n0 : 0 < n) (n1 : n ≤ 65537) : ∃ d, own_z (own_Dd 0 l n) d ∧ 0 < d := by
  obtain ⟨-, -, k, hk, hb⟩ := own_K l1 n0 n1
  obtain ⟨k1, -, k2⟩ := own_kr hb l1 n0 n1
  obtain ⟨o1, o2, o3, o4⟩ := own_Oc
  obtain ⟨d, hd, a1, a2⟩ := own_radd own_z0 hk (by generalize one64 = O at *; generalize own_c0 = c at *; generalize own_P = P at *; omega) (by generalize one64 = O at *; generalize own_c0 = c at *; generalize own_P = P at *; omega)
  refine ⟨d, ?_, ?_⟩
  · unfold own_Dd; rw [own_i0]; exact hd
  · generalize one64 = O at *; generalize own_c0 = c at *; generalize own_P = P at *; omega
theorem own_T0 {l n : Nat} (l1 : l ≤ 65536) (n0 : 0 < n) (n1 : n ≤ 65537) : own_Td 0 l n = 0 := by
  obtain ⟨d, hd, h0⟩ := own_D0 l1 n0 n1
  unfold own_Td
  rw [own_i0]
  exact own_d0 hd h0
theorem own_tnn {f l n : Nat} (f1 : f ≤ 65536) (l1 : l ≤ 65536) (n0 : 0 < n) (n1 : n ≤ 65537) : own_tn f l n := by
  obtain ⟨⟨r, hr⟩, ⟨s, hs⟩, k, hk, hb⟩ := own_K l1 n0 n1
  have hm : Jvm.Free.Fl.NoNaN64 (FP.dmul (4604930618986332160 : UInt64) (FP.i2d (Int32.ofNat l))) := by
    by_cases h : l = 0
    · subst h
      show _ &&& _ ≤ _
      decide +kernel
    · exact own_nnz (own_m75 (by omega) (by omega))
  by_cases h : f = 0
  · subst h
    obtain ⟨d, hd, -⟩ := own_D0 l1 n0 n1
    exact ⟨hm, own_nnz hr, own_nnz hs, own_nnz hk, own_nnz hd, by rw [own_T0 l1 n0 n1]; exact own_nnz own_z0⟩
  · obtain ⟨d, t, hd, ht, -⟩ := own_T (by omega) f1 l1 n0 n1 hk hb
    exact ⟨hm, own_nnz hr, own_nnz hs, own_nnz hk, own_nnz hd, own_nnz ht⟩
theorem own_pos {f l n : Nat} (f0 : 0 < f) (f1 : f ≤ 65536) (l1 : l ≤ 65536) (n0 : 0 < n) (n1 : n ≤ 65537) : FP.dcmp (0 : UInt64) (own_Td f l n) = some .lt ∧ FP.dcmp (own_Td f l n) (0 : UInt64) = some .gt ∧ FP.dcmp (own_Td f l n) (4607182418800017408 : UInt64) = some .lt := by
  obtain ⟨-, -, k, hk, hb⟩ := own_K l1 n0 n1
  obtain ⟨k1, -, k2⟩ := own_kr hb l1 n0 n1
  obtain ⟨o1, o2, o3, o4⟩ := own_Oc
  obtain ⟨d, t, hd, ht, b1, b2, a1, a2⟩ := own_T f0 f1 l1 n0 n1 hk hb
  have g0 : 0 < f * one64 * one64 := Nat.mul_pos (Nat.mul_pos f0 one64_pos) one64_pos
  have t0 : 0 < t := by
    refine Nat.pos_of_ne_zero fun q => ?_
    rw [q, Nat.zero_mul] at a2
    generalize f * one64 * one64 = X at *
    omega
  have t1 : t < one64 := by
    refine Nat.lt_of_not_le fun hc => ?_
    have m1 := Nat.mul_le_mul_right d hc
    have m2 : 2 ^ 51 * d * one64 ≤ (2 ^ 51 + 1) * (f * one64) * one64 := by
      calc 2 ^ 51 * d * one64 = 2 ^ 51 * (one64 * d) := by rw [Nat.mul_assoc, Nat.mul_comm d]
        _ ≤ 2 ^ 51 * (t * d) := Nat.mul_le_mul_left _ m1
        _ ≤ (2 ^ 51 + 1) * (f * one64 * one64) := a1
        _ = _ := by rw [← Nat.mul_assoc (2 ^ 51 + 1)]
    have m3 := Nat.le_of_mul_le_mul_right m2 one64_pos
    have g2 : f * one64 ≤ 65536 * one64 := Nat.mul_le_mul_right _ f1
    clear m1 m2 a1 a2 g0
    generalize f * one64 = F at *
    generalize one64 = O at *
    generalize own_c0 = c at *
    generalize own_P = P at *
    omega
  exact ⟨own_lt own_z0 ht t0, own_gt ht own_z0 t0, own_lt ht own_z1 t1⟩
theorem own_kp {c k : Nat} (h : c ≤ 2 * k) (p : 0 < c) : 0 < k := by omega
theorem own_more {f l n : Nat} (f1 : f ≤ 65535) (l1 : l ≤ 65536) (n0 : 0 < n) (n1 : n ≤ 65537) : FP.dcmp (own_Td (f + 1) l n) (own_Td f l n) = some .gt := by
  by_cases h : f = 0
  · subst h
    rw [own_T0 l1 n0 n1]
    exact (own_pos (by omega) (by omega) l1 n0 n1).2.1
  · have x1 : 0 < f := by omega
    have x2 : f ≤ 65536 := by omega
    have x3 : 0 < f + 1 := by omega
    have x4 : f + 1 ≤ 65536 := by omega
    obtain ⟨-, -, k, hk, hb⟩ := own_K l1 n0 n1
    obtain ⟨k1, -, k2⟩ := own_kr hb l1 n0 n1
    obtain ⟨o1, o2, o3, o4⟩ := own_Oc
    have cp := own_c0p
    obtain ⟨d, t, hd, ht, b1, b2, a1, a2⟩ := own_T (f := f) x1 x2 l1 n0 n1 hk hb
    obtain ⟨d', t', hd', ht', b1', b2', a1', a2'⟩ := own_T (f := f + 1) x3 x4 l1 n0 n1 hk hb
    exact own_gt ht' ht (own_cmpT one64_pos (by decide) a1 a2' b1 b2' (own_H1 x2 o1 k1 (own_kp k1 cp)))
theorem own_long {f l n : Nat} (f0 : 0 < f) (f1 : f ≤ 65536) (l1 : l ≤ 65535) (n0 : 0 < n) (n1 : n ≤ 65537) : FP.dcmp (own_Td f (l + 1) n) (own_Td f l n) = some .lt := by
  have x1 : l ≤ 65536 := by omega
  have x2 : l + 1 ≤ 65536 := by omega
  obtain ⟨-, -, k, hk, hb⟩ := own_K (l := l) (by omega) n0 n1
  obtain ⟨-, -, k', hk', hb'⟩ := own_K (l := l + 1) (by omega) n0 n1
  obtain ⟨o1, o2, o3, o4⟩ := own_Oc
  obtain ⟨d, t, hd, ht, b1, b2, a1, a2⟩ := own_T f0 f1 x1 n0 n1 hk hb
  obtain ⟨d', t', hd', ht', b1', b2', a1', a2'⟩ := own_T f0 f1 x2 n0 n1 hk' hb'
  exact own_lt ht' ht (own_cmpT one64_pos (by decide) a1' a2 b1' b2 (own_H2 f0 f1 l1 n0 n1 o1 own_c0p hb'.2 hb.1))
theorem own_big {f l n : Nat} (f0 : 0 < f) (f1 : f ≤ 65535) (l0 : 0 < l) (l1 : l ≤ 65535) (n0 : 0 < n) (n1 : n ≤ 65536) : FP.dcmp (own_Td f l (n + 1)) (own_Td f l n) = some .gt := by
  have x1 : f ≤ 65536 := by omega
  have x2 : l ≤ 65536 := by omega
  have x3 : n ≤ 65537 := by omega
  have x4 : 0 < n + 1 := by omega
  have x5 : n + 1 ≤ 65537 := by omega
  obtain ⟨-, -, k, hk, hb⟩ := own_K (l := l) (n := n) x2 n0 x3
  obtain ⟨-, -, k', hk', hb'⟩ := own_K (l := l) (n := n + 1) x2 x4 x5
  obtain ⟨o1, o2, o3, o4⟩ := own_Oc
  obtain ⟨d, t, hd, ht, b1, b2, a1, a2⟩ := own_T f0 x1 x2 n0 x3 hk hb
  obtain ⟨d', t', hd', ht', b1', b2', a1', a2'⟩ := own_T f0 x1 x2 x4 x5 hk' hb'
  exact own_gt ht' ht (own_cmpT one64_pos (by decide) a1 a2' b1 b2' (own_H3 f0 f1 l0 l1 n0 n1 o1 own_c0p hb.2 hb'.1))
theorem own_same {f n n' : Nat} (n0 : 0 < n) (n1 : n ≤ 65537) (m0 : 0 < n') (m1 : n' ≤ 65537) : own_Td f 0 n' = own_Td f 0 n := by
  unfold own_Td own_Dd
  rw [(own_K0 n0 n1).2.2, (own_K0 m0 m1).2.2]
theorem own_self {f l n : Nat} (f1 : f ≤ 65536) (l1 : l ≤ 65536) (n0 : 0 < n) (n1 : n ≤ 65537) : FP.dcmp (own_Td f l n) (own_Td f l n) = some .eq := by
  by_cases h : f = 0
  · subst h; rw [own_T0 l1 n0 n1]; exact own_eqd own_z0
  · obtain ⟨-, -, k, hk, hb⟩ := own_K l1 n0 n1
    obtain ⟨d, t, hd, ht, -⟩ := own_T (by omega) f1 l1 n0 n1 hk hb
    exact own_eqd ht
theorem own_ta {f m : Nat} (m0 : 0 < m) (m1 : m ≤ 65536) : own_Td f m m = FP.ddiv (FP.i2d (Int32.ofNat f)) (FP.dadd (FP.i2d (Int32.ofNat f)) (4608083138725491507 : UInt64)) := by
  unfold own_Td own_Dd
  rw [own_avg m0 m1]
theorem own_te {f n : Nat} (n0 : 0 < n) (n1 : n ≤ 65537) : own_Td f 0 n = FP.ddiv (FP.i2d (Int32.ofNat f)) (FP.dadd (FP.i2d (Int32.ofNat f)) (4599075939470750515 : UInt64)) := by
  unfold own_Td own_Dd
  rw [(own_K0 n0 n1).2.2]
end Rel
theorem own_m16 (x : Int32) : ∃ k : Nat, x &&& (65535 : Int32) = Int32.ofNat k ∧ k ≤ 65535 := by
  have h := c_mask x (65535 : Int32) 16 (by decide) (by decide)
  have h2 : (x &&& (65535 : Int32)).toInt = x.toInt % 65536 := h
  generalize x &&& (65535 : Int32) = q at h2 ⊢
  refine ⟨q.toInt.toNat, ?_, by omega⟩
  apply Int32.toInt_inj.mp
  rw [Int32.toInt_ofNat_of_lt (by omega)]
  omega
theorem own_m17 (x : Int32) : ∃ k : Nat, (x &&& (65535 : Int32)) + (1 : Int32) = Int32.ofNat k ∧ 0 < k ∧ k ≤ 65536 := by
  obtain ⟨k, e, h⟩ := own_m16 x
  exact ⟨k + 1, by rw [e]; exact (Int32.ofNat_add k 1).symm, by omega, by omega⟩
theorem own_s1 (k : Nat) : Int32.ofNat k + (1 : Int32) = Int32.ofNat (k + 1) := (Int32.ofNat_add k 1).symm
theorem own_ne0 {k : Nat} (h : k ≠ 0) (h1 : k ≤ 65536) : ¬ Int32.ofNat k = (0 : Int32) := fun q => by
  have e := congrArg Int32.toInt q
  rw [Int32.toInt_ofNat_of_lt (by omega)] at e
  have e0 : (0 : Int32).toInt = 0 := rfl
  omega
theorem own_gt0 {k : Nat} (h : k ≠ 0) (h1 : k ≤ 65536) : (0 : Int32) < Int32.ofNat k := by
  rw [Int32.lt_iff_toInt_lt, Int32.toInt_ofNat_of_lt (by omega)]
  have e0 : (0 : Int32).toInt = 0 := rfl
  omega
theorem own_na {f m : Nat} (f1 : f ≤ 65536) (m0 : 0 < m) (m1 : m ≤ 65536) : Jvm.Free.Fl.NoNaN64 (FP.dadd (FP.i2d (Int32.ofNat f)) (4608083138725491507 : UInt64)) ∧ Jvm.Free.Fl.NoNaN64 (FP.ddiv (FP.i2d (Int32.ofNat f)) (FP.dadd (FP.i2d (Int32.ofNat f)) (4608083138725491507 : UInt64))) := by
  obtain ⟨-, -, -, -, a, b⟩ := own_tnn (f := f) (l := m) (n := m) f1 m1 m0 (by omega)
  rw [own_ta m0 m1] at b
  unfold own_Dd at a
  rw [own_avg m0 m1] at a
  exact ⟨a, b⟩
theorem own_nb {f n : Nat} (f1 : f ≤ 65536) (n0 : 0 < n) (n1 : n ≤ 65537) : Jvm.Free.Fl.NoNaN64 (FP.dadd (FP.i2d (Int32.ofNat f)) (4599075939470750515 : UInt64)) ∧ Jvm.Free.Fl.NoNaN64 (FP.ddiv (FP.i2d (Int32.ofNat f)) (FP.dadd (FP.i2d (Int32.ofNat f)) (4599075939470750515 : UInt64))) := by
  obtain ⟨-, -, -, -, a, b⟩ := own_tnn (f := f) (l := 0) (n := n) f1 (by omega) n0 n1
  rw [own_te n0 n1] at b
  unfold own_Dd at a
  rw [(own_K0 n0 n1).2.2] at a
  exact ⟨a, b⟩
def own_tg (p0 p1 : Int32) (p2 : UInt64) : UInt64 := FP.ddiv (FP.i2d p0) (FP.dadd (FP.i2d p0) (FP.dmul (4608083138725491507 : UInt64) (FP.dadd (4598175219545276416 : UInt64) (FP.ddiv (FP.dmul (4604930618986332160 : UInt64) (FP.i2d p1)) p2))))
def own_tgn (p0 p1 : Int32) (p2 : UInt64) : Prop := Jvm.Free.Fl.NoNaN64 (FP.dmul (4604930618986332160 : UInt64) (FP.i2d p1)) ∧ Jvm.Free.Fl.NoNaN64 (FP.ddiv (FP.dmul (4604930618986332160 : UInt64) (FP.i2d p1)) p2) ∧ Jvm.Free.Fl.NoNaN64 (FP.dadd (4598175219545276416 : UInt64) (FP.ddiv (FP.dmul (4604930618986332160 : UInt64) (FP.i2d p1)) p2)) ∧ Jvm.Free.Fl.NoNaN64 (FP.dmul (4608083138725491507 : UInt64) (FP.dadd (4598175219545276416 : UInt64) (FP.ddiv (FP.dmul (4604930618986332160 : UInt64) (FP.i2d p1)) p2)))
  ∧ Jvm.Free.Fl.NoNaN64 (FP.dadd (FP.i2d p0) (FP.dmul (4608083138725491507 : UInt64) (FP.dadd (4598175219545276416 : UInt64) (FP.ddiv (FP.dmul (4604930618986332160 : UInt64) (FP.i2d p1)) p2)))) ∧ Jvm.Free.Fl.NoNaN64 (own_tg p0 p1 p2)
theorem d1_0 : decode prog_33_method_3_code 0 = .ok (.iload_n 0, 1) := by decide +kernel
theorem d1_1 : decode prog_33_method_3_code 1 = .ok (.i2d, 1) := by decide +kernel
theorem d1_2 : decode prog_33_method_3_code 2 = .ok (.iload_n 0, 1) := by decide +kernel
theorem d1_3 : decode prog_33_method_3_code 3 = .ok (.i2d, 1) := by decide +kernel
theorem d1_4 : decode prog_33_method_3_code 4 = .ok (.ldc2_w 17, 3) := by decide +kernel
theorem d1_7 : decode prog_33_method_3_code 7 = .ok (.ldc2_w 19, 3) := by decide +kernel
theorem d1_10 : decode prog_33_method_3_code 10 = .ok (.ldc2_w 21, 3) := by decide +kernel
theorem d1_13 : decode prog_33_method_3_code 13 = .ok (.iload_n 1, 1) := by decide +kernel
theorem d1_14 : decode prog_33_method_3_code 14 = .ok (.i2d, 1) := by decide +kernel
theorem d1_15 : decode prog_33_method_3_code 15 = .ok (.dmul, 1) := by decide +kernel
theorem d1_16 : decode prog_33_method_3_code 16 = .ok (.dload_n 2, 1) := by decide +kernel
theorem d1_17 : decode prog_33_method_3_code 17 = .ok (.ddiv, 1) := by decide +kernel
theorem d1_18 : decode prog_33_method_3_code 18 = .ok (.dadd, 1) := by decide +kernel
theorem d1_19 : decode prog_33_method_3_code 19 = .ok (.dmul, 1) := by decide +kernel
theorem d1_20 : decode prog_33_method_3_code 20 = .ok (.dadd, 1) := by decide +kernel
theorem d1_21 : decode prog_33_method_3_code 21 = .ok (.ddiv, 1) := by decide +kernel
theorem d1_22 : decode prog_33_method_3_code 22 = .ok (.dreturn, 1) := by decide +kernel
def QTf (p0 p1 : Int32) (p2 : UInt64) (h0 : Heap) (n0 : Nat) (v : Option Value) (h : Heap) (L : List Loc) : Prop := v = some (.double (own_tg p0 p1 p2)) ∧ Fr n0 L ∧ h = h0
theorem own_pn_rmTf : plainName "com/example/ample_search/amplesearch/search/Bm25" = true := by first | (simp [plainName, overriddenIn]; done) | decide +kernel
theorem own_ef_rmTf (m : MethodId) (p0 : Int32) (p1 : Int32) (p2 : UInt64) : entryFrame m #[(.int p0), (.int p1), (.double p2)] 4 = (mkF m 0 #[.val (.int p0), .val (.int p1), .val (.double p2), .second] []) := by first | (simp [entryFrame, mkF, argsToLocals, Value.category]; done) | rfl
set_option maxRecDepth 65536 in
set_option maxHeartbeats 40000000 in
theorem rmTf (l : Launch) (Z : State) (a0 : Array Value) (hw : ∀ d ∈ tables_1, d.before a0 Z = true) (ws : List Jvm.Cond) (p0 : Int32) (p1 : Int32) (p2 : UInt64) (h0 : Heap) (n0 : Nat) (Z0 : n0 ≤ h0.size) (tn : own_tgn p0 p1 p2) :
    MetFree l (⟨"com/example/ample_search/amplesearch/search/Bm25", "tf", "(IID)D"⟩ : MethodName) (head1 (Jvm.Cond.code (⟨"com/example/ample_search/amplesearch/search/Bm25", "tf", "(IID)D"⟩ : MethodName) prog_33_method_3_code 4 (some .double) :: ws) ({ frames := 0, cells := 0, slots := 0, locals := 0 } : Room)) (fun a U => a = #[(.int p0), (.int p1), (.double p2)] ∧ Z.Warmed39 U.vm ∧ U.heap = h0) (fun _ _ _ _ _ => True) (fun _ U o U' => ∃ v L, o = .returned v ∧ QTf p0 p1 p2 h0 n0 v U'.heap L ∧ FrameEnd U o U' L ({ frames := 0, cells := 0, slots := 0, locals := 0 } : Room).cells ({ frames := 0, cells := 0, slots := 0, locals := 0 } : Room).slots) := by
  refine MetFree.of_bodySF (plainFor_of_name own_pn_rmTf) hisR ?_
  intro p e s m args below meth c s₁ Bd hml0 hP hK
  obtain ⟨hargs, hZ, hh⟩ := hP
  have hx := Bd.exec
  have hby := Bd.bytes
  have hml : c.maxLocals = 4 := hml0
  have hown : s.vm.findClass "com/example/ample_search/amplesearch/search/Bm25" = some m.cls := findClass_of_methodNamed Bd.named
  have hnm := (name_of_methodNamed Bd.named Bd.method).1
  have hlock : meth.locks = false := Bd.notSynchronized
  have hret0 := Bd.returns
  have X0 : Stand p l e ({ frames := 0, cells := 0, slots := 0, locals := 0 } : Room) s m args below meth c s₁ [] 0 0 := Stand.of_body Bd
  have e0 : s₁.heap = h0 := by rw [← hh, Bd.state]; rfl
  have N0 := Fr.nil n0
  have pre0 : ∀ t, Steps p.tables e below (s₁.setTop (mkF m 0 #[.val (.int p0), .val (.int p1), .val (.double p2), .second] [])) t → Steps p.tables e below (s₁.setTop (entryFrame m args 4)) t := fun t k => castTop (by rw [hargs]; exact own_ef_rmTf m p0 p1 p2) k
  clear Bd
  obtain ⟨v1, v2, v3, v4, v5, v6⟩ := tn
  obtain ⟨fs, hr, hrun, hended, hW, hsame⟩ := X0.leave (v := some (.double (FP.ddiv (FP.i2d p0) (FP.dadd (FP.i2d p0) (FP.dmul (4608083138725491507 : UInt64) (FP.dadd (4598175219545276416 : UInt64) (FP.ddiv (FP.dmul (4604930618986332160 : UInt64) (FP.i2d p1)) p2))))))) (fun h => by rw [hret0] at h; cases h)
  refine ⟨_, _, pre0 _ ?_, hrun, hended, _, _, rfl, ?_, ⟨_, rfl⟩, hW, hsame.mono (by decide) (by decide)⟩
  · show Steps p.tables e below (s₁.setTop (mkF m 0 #[.val (.int p0), .val (.int p1), .val (.double p2), .second] [])) _
    refine XS.iloadN X0.here hx rfl (hb hby d1_0) rfl ?_
    show Steps p.tables e below (s₁.setTop (mkF m 1 #[.val (.int p0), .val (.int p1), .val (.double p2), .second] [(.int p0)])) _
    refine XS.i2dS X0.here hx rfl (hb hby d1_1) rfl rfl ?_
    show Steps p.tables e below (s₁.setTop (mkF m 2 #[.val (.int p0), .val (.int p1), .val (.double p2), .second] [(.double (FP.i2d p0))])) _
    refine XS.iloadN X0.here hx rfl (hb hby d1_2) rfl ?_
    show Steps p.tables e below (s₁.setTop (mkF m 3 #[.val (.int p0), .val (.int p1), .val (.double p2), .second] [(.int p0), (.double (FP.i2d p0))])) _
    refine XS.i2dS X0.here hx rfl (hb hby d1_3) rfl rfl ?_
    show Steps p.tables e below (s₁.setTop (mkF m 4 #[.val (.int p0), .val (.int p1), .val (.double p2), .second] [(.double (FP.i2d p0)), (.double (FP.i2d p0))])) _
    refine X0.ldc2DoubleC hx hown (mvT hZ (hw _ (List.mem_of_getElem? (i := 5) rfl))) (g := (mkF m 4 #[.val (.int p0), .val (.int p1), .val (.double p2), .second] [(.double (FP.i2d p0)), (.double (FP.i2d p0))])) rfl (hb hby d1_4) _ ?_
    show Steps p.tables e below (s₁.setTop (mkF m 7 #[.val (.int p0), .val (.int p1), .val (.double p2), .second] [(.double (4608083138725491507 : UInt64)), (.double (FP.i2d p0)), (.double (FP.i2d p0))])) _
    refine X0.ldc2DoubleC hx hown (mvT hZ (hw _ (List.mem_of_getElem? (i := 6) rfl))) (g := (mkF m 7 #[.val (.int p0), .val (.int p1), .val (.double p2), .second] [(.double (4608083138725491507 : UInt64)), (.double (FP.i2d p0)), (.double (FP.i2d p0))])) rfl (hb hby d1_7) _ ?_
    show Steps p.tables e below (s₁.setTop (mkF m 10 #[.val (.int p0), .val (.int p1), .val (.double p2), .second] [(.double (4598175219545276416 : UInt64)), (.double (4608083138725491507 : UInt64)), (.double (FP.i2d p0)), (.double (FP.i2d p0))])) _
    refine X0.ldc2DoubleC hx hown (mvT hZ (hw _ (List.mem_of_getElem? (i := 7) rfl))) (g := (mkF m 10 #[.val (.int p0), .val (.int p1), .val (.double p2), .second] [(.double (4598175219545276416 : UInt64)), (.double (4608083138725491507 : UInt64)), (.double (FP.i2d p0)), (.double (FP.i2d p0))])) rfl (hb hby d1_10) _ ?_
    show Steps p.tables e below (s₁.setTop (mkF m 13 #[.val (.int p0), .val (.int p1), .val (.double p2), .second] [(.double (4604930618986332160 : UInt64)), (.double (4598175219545276416 : UInt64)), (.double (4608083138725491507 : UInt64)), (.double (FP.i2d p0)), (.double (FP.i2d p0))])) _
    refine XS.iloadN X0.here hx rfl (hb hby d1_13) rfl ?_
    show Steps p.tables e below (s₁.setTop (mkF m 14 #[.val (.int p0), .val (.int p1), .val (.double p2), .second] [(.int p1), (.double (4604930618986332160 : UInt64)), (.double (4598175219545276416 : UInt64)), (.double (4608083138725491507 : UInt64)), (.double (FP.i2d p0)), (.double (FP.i2d p0))])) _
    refine XS.i2dS X0.here hx rfl (hb hby d1_14) rfl rfl ?_
    show Steps p.tables e below (s₁.setTop (mkF m 15 #[.val (.int p0), .val (.int p1), .val (.double p2), .second] [(.double (FP.i2d p1)), (.double (4604930618986332160 : UInt64)), (.double (4598175219545276416 : UInt64)), (.double (4608083138725491507 : UInt64)), (.double (FP.i2d p0)), (.double (FP.i2d p0))])) _
    refine XS.dmulS X0.here hx rfl (hb hby d1_15) rfl v1 rfl ?_
    show Steps p.tables e below (s₁.setTop (mkF m 16 #[.val (.int p0), .val (.int p1), .val (.double p2), .second] [(.double (FP.dmul (4604930618986332160 : UInt64) (FP.i2d p1))), (.double (4598175219545276416 : UInt64)), (.double (4608083138725491507 : UInt64)), (.double (FP.i2d p0)), (.double (FP.i2d p0))])) _
    refine XS.dloadN X0.here hx rfl (hb hby d1_16) rfl ?_
    show Steps p.tables e below (s₁.setTop (mkF m 17 #[.val (.int p0), .val (.int p1), .val (.double p2), .second] [(.double p2), (.double (FP.dmul (4604930618986332160 : UInt64) (FP.i2d p1))), (.double (4598175219545276416 : UInt64)), (.double (4608083138725491507 : UInt64)), (.double (FP.i2d p0)), (.double (FP.i2d p0))])) _
    refine XS.ddivS X0.here hx rfl (hb hby d1_17) rfl v2 rfl ?_
    show Steps p.tables e below (s₁.setTop (mkF m 18 #[.val (.int p0), .val (.int p1), .val (.double p2), .second] [(.double (FP.ddiv (FP.dmul (4604930618986332160 : UInt64) (FP.i2d p1)) p2)), (.double (4598175219545276416 : UInt64)), (.double (4608083138725491507 : UInt64)), (.double (FP.i2d p0)), (.double (FP.i2d p0))])) _
    refine XS.daddS X0.here hx rfl (hb hby d1_18) rfl v3 rfl ?_
    show Steps p.tables e below (s₁.setTop (mkF m 19 #[.val (.int p0), .val (.int p1), .val (.double p2), .second] [(.double (FP.dadd (4598175219545276416 : UInt64) (FP.ddiv (FP.dmul (4604930618986332160 : UInt64) (FP.i2d p1)) p2))), (.double (4608083138725491507 : UInt64)), (.double (FP.i2d p0)), (.double (FP.i2d p0))])) _
    refine XS.dmulS X0.here hx rfl (hb hby d1_19) rfl v4 rfl ?_
    show Steps p.tables e below (s₁.setTop (mkF m 20 #[.val (.int p0), .val (.int p1), .val (.double p2), .second] [(.double (FP.dmul (4608083138725491507 : UInt64) (FP.dadd (4598175219545276416 : UInt64) (FP.ddiv (FP.dmul (4604930618986332160 : UInt64) (FP.i2d p1)) p2)))), (.double (FP.i2d p0)), (.double (FP.i2d p0))])) _
    refine XS.daddS X0.here hx rfl (hb hby d1_20) rfl v5 rfl ?_
    show Steps p.tables e below (s₁.setTop (mkF m 21 #[.val (.int p0), .val (.int p1), .val (.double p2), .second] [(.double (FP.dadd (FP.i2d p0) (FP.dmul (4608083138725491507 : UInt64) (FP.dadd (4598175219545276416 : UInt64) (FP.ddiv (FP.dmul (4604930618986332160 : UInt64) (FP.i2d p1)) p2))))), (.double (FP.i2d p0))])) _
    refine XS.ddivS X0.here hx rfl (hb hby d1_21) rfl v6 rfl ?_
    show Steps p.tables e below (s₁.setTop (mkF m 22 #[.val (.int p0), .val (.int p1), .val (.double p2), .second] [(.double (FP.ddiv (FP.i2d p0) (FP.dadd (FP.i2d p0) (FP.dmul (4608083138725491507 : UInt64) (FP.dadd (4598175219545276416 : UInt64) (FP.ddiv (FP.dmul (4604930618986332160 : UInt64) (FP.i2d p1)) p2))))))])) _
    exact retD X0 hx hret0 (hb hby d1_22) hr
  · show QTf p0 p1 p2 h0 n0 _ s₁.heap _
    rw [e0]
    exact ⟨rfl, N0, rfl⟩
def Q0 (n0 : Nat) (v : Option Value) (h : Heap) (L : List Loc) : Prop := v = some (.int 1) ∧ Fr n0 L
theorem own_pn_rm0 : plainName "com/example/ample_search/amplesearch/search/Bm25TfPinLaw" = true := by first | (simp [plainName, overriddenIn]; done) | decide +kernel
theorem own_ef_rm0 (m : MethodId) (p0 : Int32) (p1 : Int32) (p2 : Int32) : entryFrame m #[(.int p0), (.int p1), (.int p2)] maxLocals = (mkF m 0 #[.val (.int p0), .val (.int p1), .val (.int p2), .unset, .unset, .unset, .unset, .unset, .unset, .unset, .unset, .unset, .unset, .unset, .unset, .unset, .unset, .unset, .unset, .unset, .unset, .unset] []) := by first | (simp [entryFrame, mkF, argsToLocals, Value.category, maxLocals]; done) | rfl
set_option maxRecDepth 65536 in
set_option maxHeartbeats 40000000 in
theorem rm0 (l : Launch) (Z : State) (a0 : Array Value) (hw : ∀ d ∈ tables_1, d.before a0 Z = true) (ws : List Jvm.Cond) (p0 : Int32) (p1 : Int32) (p2 : Int32) (h0 : Heap) (n0 : Nat) (Z0 : n0 ≤ h0.size) :
    MetFree l x (head1 (Jvm.Cond.code x code maxLocals ret :: ws) room_1) (fun a U => a = #[(.int p0), (.int p1), (.int p2)] ∧ Z.Warmed39 U.vm ∧ U.heap = h0) (fun _ _ _ _ _ => True) (fun _ U o U' => ∃ v L, o = .returned v ∧ Q0 n0 v U'.heap L ∧ FrameEnd U o U' L 0 0) := by
  refine MetFree.of_bodySF (plainFor_of_name own_pn_rm0) hisR ?_
  intro p e s m args below meth c s₁ Bd hml0 hP hK
  obtain ⟨hargs, hZ, hh⟩ := hP
  have hx := Bd.exec
  have hby := Bd.bytes
  have hml : c.maxLocals = 22 := hml0
  have hown : s.vm.findClass "com/example/ample_search/amplesearch/search/Bm25TfPinLaw" = some m.cls := findClass_of_methodNamed Bd.named
  have hnm := (name_of_methodNamed Bd.named Bd.method).1
  have hlock : meth.locks = false := Bd.notSynchronized
  have hret0 := Bd.returns
  have X0 : Stand p l e room_1 s m args below meth c s₁ [] 0 0 := Stand.of_body Bd
  have e0 : s₁.heap = h0 := by rw [← hh, Bd.state]; rfl
  have N0 := Fr.nil n0
  have pre0 : ∀ t, Steps p.tables e below (s₁.setTop (mkF m 0 #[.val (.int p0), .val (.int p1), .val (.int p2), .unset, .unset, .unset, .unset, .unset, .unset, .unset, .unset, .unset, .unset, .unset, .unset, .unset, .unset, .unset, .unset, .unset, .unset, .unset] [])) t → Steps p.tables e below (s₁.setTop (entryFrame m args maxLocals)) t := fun t k => castTop (by rw [hargs]; exact own_ef_rm0 m p0 p1 p2) k
  clear Bd
  obtain ⟨f, ef, hf⟩ := own_m16 p0
  obtain ⟨l', el, hl⟩ := own_m16 p1
  obtain ⟨n, en, hn0, hn⟩ := own_m17 p2
  have f1 : f ≤ 65536 := by omega
  have f2 : f + 1 ≤ 65536 := by omega
  have l1 : l' ≤ 65536 := by omega
  have l2 : l' + 1 ≤ 65536 := by omega
  have l3 : 0 < l' + 1 := by omega
  have n1 : n ≤ 65537 := by omega
  have n2 : 0 < n + 1 := by omega
  have n3 : n + 1 ≤ 65537 := by omega
  have l4 : l' + 1 ≤ 65537 := by omega
  have st1 : ∀ target, Steps p.tables e below (s₁.setTop (mkF m 4 #[.val (.int p0), .val (.int p1), .val (.int p2), .unset, .unset, .unset, .unset, .unset, .unset, .unset, .unset, .unset, .unset, .unset, .unset, .unset, .unset, .unset, .unset, .unset, .unset, .unset] [(.int (Int32.ofNat f))])) target → Steps p.tables e below (s₁.setTop (mkF m 4 #[.val (.int p0), .val (.int p1), .val (.int p2), .unset, .unset, .unset, .unset, .unset, .unset, .unset, .unset, .unset, .unset, .unset, .unset, .unset, .unset, .unset, .unset, .unset, .unset, .unset] [(.int (p0 &&& (65535 : Int32)))])) target := by
    rw [ef]
    intro target hk
    exact hk
  have st2 : ∀ target, Steps p.tables e below (s₁.setTop (mkF m 9 #[.val (.int p0), .val (.int p1), .val (.int p2), .val (.int (Int32.ofNat f)), .unset, .unset, .unset, .unset, .unset, .unset, .unset, .unset, .unset, .unset, .unset, .unset, .unset, .unset, .unset, .unset, .unset, .unset] [(.int (Int32.ofNat l'))])) target → Steps p.tables e below (s₁.setTop (mkF m 9 #[.val (.int p0), .val (.int p1), .val (.int p2), .val (.int (Int32.ofNat f)), .unset, .unset, .unset, .unset, .unset, .unset, .unset, .unset, .unset, .unset, .unset, .unset, .unset, .unset, .unset, .unset, .unset, .unset] [(.int (p1 &&& (65535 : Int32)))])) target := by
    rw [el]
    intro target hk
    exact hk
  have st3 : ∀ target, Steps p.tables e below (s₁.setTop (mkF m 17 #[.val (.int p0), .val (.int p1), .val (.int p2), .val (.int (Int32.ofNat f)), .val (.int (Int32.ofNat l')), .unset, .unset, .unset, .unset, .unset, .unset, .unset, .unset, .unset, .unset, .unset, .unset, .unset, .unset, .unset, .unset, .unset] [(.int (Int32.ofNat n))])) target → Steps p.tables e below (s₁.setTop (mkF m 17 #[.val (.int p0), .val (.int p1), .val (.int p2), .val (.int (Int32.ofNat f)), .val (.int (Int32.ofNat l')), .unset, .unset, .unset, .unset, .unset, .unset, .unset, .unset, .unset, .unset, .unset, .unset, .unset, .unset, .unset, .unset, .unset] [(.int ((p2 &&& (65535 : Int32)) + (1 : Int32)))])) target := by
    rw [en]
    intro target hk
    exact hk
  obtain ⟨v4, vmx4, ⟨T4, L4, k4, n4⟩, -, X4, ⟨Lc4, hQ4, l4, y4, z4⟩, st4⟩ := Jvm.LawKit.callS X0 hx (y := (⟨"com/example/ample_search/amplesearch/search/Bm25", "tf", "(IID)D"⟩ : MethodName)) hown (mvT hZ (hw _ (List.mem_of_getElem? (i := 1) rfl))) (mvT hZ (hw _ (List.mem_of_getElem? (i := 2) rfl))) (mvT hZ (hw _ (List.mem_of_getElem? (i := 3) rfl))) (mvT hZ (hw _ (List.mem_of_getElem? (i := 4) rfl))) (by decide) (backOf (W := 0) (rmTf l Z a0 hw [] (Int32.ofNat f) (Int32.ofNat l') (FP.i2d (Int32.ofNat n)) h0 n0 Z0 (own_tnn f1 l1 hn0 n1)) hZ (hw _ (List.mem_of_getElem? (i := 4) rfl)) (hw _ (List.mem_of_getElem? (i := 3) rfl)) (by decide) (by decide)) (g := (mkF m 29 #[.val (.int p0), .val (.int p1), .val (.int p2), .val (.int (Int32.ofNat f)), .val (.int (Int32.ofNat l')), .val (.int (Int32.ofNat n)), .val (.double (FP.i2d (Int32.ofNat n))), .second, .unset, .unset, .unset, .unset, .unset, .unset, .unset, .unset, .unset, .unset, .unset, .unset, .unset, .unset] [(.double (FP.i2d (Int32.ofNat n))), (.int (Int32.ofNat l')), (.int (Int32.ofNat f))])) rfl (by rw [hml]; rfl) (argsL := [(.int (Int32.ofNat f)), (.int (Int32.ofNat l')), (.double (FP.i2d (Int32.ofNat n)))]) (rest := []) (lenOf own_pd0 rfl) rfl (by show 2 * 0 + _ ≤ _; exact Nat.le_of_eq rfl) (hb hby at_29) (fun _ _ => ⟨rfl, e0, (by decide : 0 + 0 ≤ _), (by decide : 0 + 0 ≤ _)⟩)
  dsimp only [Pt.U, Pt.locs, Pt.cells, Pt.slots] at X4 l4 y4 z4 st4 hQ4
  subst l4 y4 z4
  obtain ⟨rfl, Nq4, eh4⟩ := hQ4
  have N4 := Fr.app N0 Nq4
  by_cases hf0 : f = 0
  · skip
    have T0 : ∀ {a b : Nat}, a ≤ 65536 → 0 < b → b ≤ 65537 → own_Td f a b = 0 := fun h1 h2 h3 => by rw [hf0]; exact own_T0 h1 h2 h3
    have z00 : FP.dcmp (0 : UInt64) (0 : UInt64) = some .eq := own_eqd own_z0
    have st5 : ∀ target, Steps p.tables e below (T4.setTop (mkF m 94 #[.val (.int p0), .val (.int p1), .val (.int p2), .val (.int (Int32.ofNat f)), .val (.int (Int32.ofNat l')), .val (.int (Int32.ofNat n)), .val (.double (FP.i2d (Int32.ofNat n))), .second, .val (.double (own_Td f l' n)), .second, .val (.int (1 : Int32)), .unset, .unset, .unset, .unset, .unset, .unset, .unset, .unset, .unset, .unset, .unset] [(.int (Int32.ofNat (f + 1)))])) target → Steps p.tables e below (T4.setTop (mkF m 94 #[.val (.int p0), .val (.int p1), .val (.int p2), .val (.int (Int32.ofNat f)), .val (.int (Int32.ofNat l')), .val (.int (Int32.ofNat n)), .val (.double (FP.i2d (Int32.ofNat n))), .second, .val (.double (own_Td f l' n)), .second, .val (.int (1 : Int32)), .unset, .unset, .unset, .unset, .unset, .unset, .unset, .unset, .unset, .unset, .unset] [(.int ((Int32.ofNat f) + (1 : Int32)))])) target := by
      rw [own_s1]
      intro target hk
      exact hk
    obtain ⟨v6, vmx6, ⟨T6, L6, k6, n6⟩, -, X6, ⟨Lc6, hQ6, l6, y6, z6⟩, st6⟩ := Jvm.LawKit.callS X4 hx (y := (⟨"com/example/ample_search/amplesearch/search/Bm25", "tf", "(IID)D"⟩ : MethodName)) hown (mvT hZ (hw _ (List.mem_of_getElem? (i := 1) rfl))) (mvT hZ (hw _ (List.mem_of_getElem? (i := 2) rfl))) (mvT hZ (hw _ (List.mem_of_getElem? (i := 3) rfl))) (mvT hZ (hw _ (List.mem_of_getElem? (i := 4) rfl))) (by decide) (backOf (W := 0) (rmTf l Z a0 hw [] (Int32.ofNat (f + 1)) (Int32.ofNat l') (FP.i2d (Int32.ofNat n)) h0 n0 Z0 (own_tnn f2 l1 hn0 n1)) hZ (hw _ (List.mem_of_getElem? (i := 4) rfl)) (hw _ (List.mem_of_getElem? (i := 3) rfl)) (by decide) (by decide)) (g := (mkF m 98 #[.val (.int p0), .val (.int p1), .val (.int p2), .val (.int (Int32.ofNat f)), .val (.int (Int32.ofNat l')), .val (.int (Int32.ofNat n)), .val (.double (FP.i2d (Int32.ofNat n))), .second, .val (.double (own_Td f l' n)), .second, .val (.int (1 : Int32)), .unset, .unset, .unset, .unset, .unset, .unset, .unset, .unset, .unset, .unset, .unset] [(.double (FP.i2d (Int32.ofNat n))), (.int (Int32.ofNat l')), (.int (Int32.ofNat (f + 1)))])) rfl (by rw [hml]; rfl) (argsL := [(.int (Int32.ofNat (f + 1))), (.int (Int32.ofNat l')), (.double (FP.i2d (Int32.ofNat n)))]) (rest := []) (lenOf own_pd0 rfl) rfl (by show 2 * 0 + _ ≤ _; exact Nat.le_of_eq rfl) (hb hby at_98) (fun _ _ => ⟨rfl, eh4, (by decide : 0 + 0 ≤ _), (by decide : 0 + 0 ≤ _)⟩)
    dsimp only [Pt.U, Pt.locs, Pt.cells, Pt.slots] at X6 l6 y6 z6 st6 hQ6
    subst l6 y6 z6
    obtain ⟨rfl, Nq6, eh6⟩ := hQ6
    have N6 := Fr.app N4 Nq6
    have st7 : ∀ target, Steps p.tables e below (T6.setTop (mkF m 128 #[.val (.int p0), .val (.int p1), .val (.int p2), .val (.int (Int32.ofNat f)), .val (.int (Int32.ofNat l')), .val (.int (Int32.ofNat n)), .val (.double (FP.i2d (Int32.ofNat n))), .second, .val (.double (own_Td f l' n)), .second, .val (.int (1 : Int32)), .val (.double (own_Td (f + 1) l' n)), .second, .unset, .unset, .unset, .unset, .unset, .unset, .unset, .unset, .unset] [(.int (Int32.ofNat (l' + 1))), (.int (Int32.ofNat f))])) target → Steps p.tables e below (T6.setTop (mkF m 128 #[.val (.int p0), .val (.int p1), .val (.int p2), .val (.int (Int32.ofNat f)), .val (.int (Int32.ofNat l')), .val (.int (Int32.ofNat n)), .val (.double (FP.i2d (Int32.ofNat n))), .second, .val (.double (own_Td f l' n)), .second, .val (.int (1 : Int32)), .val (.double (own_Td (f + 1) l' n)), .second, .unset, .unset, .unset, .unset, .unset, .unset, .unset, .unset, .unset] [(.int ((Int32.ofNat l') + (1 : Int32))), (.int (Int32.ofNat f))])) target := by
      rw [own_s1]
      intro target hk
      exact hk
    obtain ⟨v8, vmx8, ⟨T8, L8, k8, n8⟩, -, X8, ⟨Lc8, hQ8, l8, y8, z8⟩, st8⟩ := Jvm.LawKit.callS X6 hx (y := (⟨"com/example/ample_search/amplesearch/search/Bm25", "tf", "(IID)D"⟩ : MethodName)) hown (mvT hZ (hw _ (List.mem_of_getElem? (i := 1) rfl))) (mvT hZ (hw _ (List.mem_of_getElem? (i := 2) rfl))) (mvT hZ (hw _ (List.mem_of_getElem? (i := 3) rfl))) (mvT hZ (hw _ (List.mem_of_getElem? (i := 4) rfl))) (by decide) (backOf (W := 0) (rmTf l Z a0 hw [] (Int32.ofNat f) (Int32.ofNat (l' + 1)) (FP.i2d (Int32.ofNat n)) h0 n0 Z0 (own_tnn f1 l2 hn0 n1)) hZ (hw _ (List.mem_of_getElem? (i := 4) rfl)) (hw _ (List.mem_of_getElem? (i := 3) rfl)) (by decide) (by decide)) (g := (mkF m 130 #[.val (.int p0), .val (.int p1), .val (.int p2), .val (.int (Int32.ofNat f)), .val (.int (Int32.ofNat l')), .val (.int (Int32.ofNat n)), .val (.double (FP.i2d (Int32.ofNat n))), .second, .val (.double (own_Td f l' n)), .second, .val (.int (1 : Int32)), .val (.double (own_Td (f + 1) l' n)), .second, .unset, .unset, .unset, .unset, .unset, .unset, .unset, .unset, .unset] [(.double (FP.i2d (Int32.ofNat n))), (.int (Int32.ofNat (l' + 1))), (.int (Int32.ofNat f))])) rfl (by rw [hml]; rfl) (argsL := [(.int (Int32.ofNat f)), (.int (Int32.ofNat (l' + 1))), (.double (FP.i2d (Int32.ofNat n)))]) (rest := []) (lenOf own_pd0 rfl) rfl (by show 2 * 0 + _ ≤ _; exact Nat.le_of_eq rfl) (hb hby at_130) (fun _ _ => ⟨rfl, eh6, (by decide : 0 + 0 ≤ _), (by decide : 0 + 0 ≤ _)⟩)
    dsimp only [Pt.U, Pt.locs, Pt.cells, Pt.slots] at X8 l8 y8 z8 st8 hQ8
    subst l8 y8 z8
    obtain ⟨rfl, Nq8, eh8⟩ := hQ8
    have N8 := Fr.app N6 Nq8
    have st9 : ∀ target, Steps p.tables e below (T8.setTop (mkF m 188 #[.val (.int p0), .val (.int p1), .val (.int p2), .val (.int (Int32.ofNat f)), .val (.int (Int32.ofNat l')), .val (.int (Int32.ofNat n)), .val (.double (FP.i2d (Int32.ofNat n))), .second, .val (.double (own_Td f l' n)), .second, .val (.int (1 : Int32)), .val (.double (own_Td (f + 1) l' n)), .second, .val (.double (own_Td f (l' + 1) n)), .second, .unset, .unset, .unset, .unset, .unset, .unset, .unset] [(.int (Int32.ofNat (n + 1))), (.int (Int32.ofNat l')), (.int (Int32.ofNat f))])) target → Steps p.tables e below (T8.setTop (mkF m 188 #[.val (.int p0), .val (.int p1), .val (.int p2), .val (.int (Int32.ofNat f)), .val (.int (Int32.ofNat l')), .val (.int (Int32.ofNat n)), .val (.double (FP.i2d (Int32.ofNat n))), .second, .val (.double (own_Td f l' n)), .second, .val (.int (1 : Int32)), .val (.double (own_Td (f + 1) l' n)), .second, .val (.double (own_Td f (l' + 1) n)), .second, .unset, .unset, .unset, .unset, .unset, .unset, .unset] [(.int ((Int32.ofNat n) + (1 : Int32))), (.int (Int32.ofNat l')), (.int (Int32.ofNat f))])) target := by
      rw [own_s1]
      intro target hk
      exact hk
    obtain ⟨v10, vmx10, ⟨T10, L10, k10, n10⟩, -, X10, ⟨Lc10, hQ10, l10, y10, z10⟩, st10⟩ := Jvm.LawKit.callS X8 hx (y := (⟨"com/example/ample_search/amplesearch/search/Bm25", "tf", "(IID)D"⟩ : MethodName)) hown (mvT hZ (hw _ (List.mem_of_getElem? (i := 1) rfl))) (mvT hZ (hw _ (List.mem_of_getElem? (i := 2) rfl))) (mvT hZ (hw _ (List.mem_of_getElem? (i := 3) rfl))) (mvT hZ (hw _ (List.mem_of_getElem? (i := 4) rfl))) (by decide) (backOf (W := 0) (rmTf l Z a0 hw [] (Int32.ofNat f) (Int32.ofNat l') (FP.i2d (Int32.ofNat (n + 1))) h0 n0 Z0 (own_tnn f1 l1 n2 n3)) hZ (hw _ (List.mem_of_getElem? (i := 4) rfl)) (hw _ (List.mem_of_getElem? (i := 3) rfl)) (by decide) (by decide)) (g := (mkF m 189 #[.val (.int p0), .val (.int p1), .val (.int p2), .val (.int (Int32.ofNat f)), .val (.int (Int32.ofNat l')), .val (.int (Int32.ofNat n)), .val (.double (FP.i2d (Int32.ofNat n))), .second, .val (.double (own_Td f l' n)), .second, .val (.int (1 : Int32)), .val (.double (own_Td (f + 1) l' n)), .second, .val (.double (own_Td f (l' + 1) n)), .second, .unset, .unset, .unset, .unset, .unset, .unset, .unset] [(.double (FP.i2d (Int32.ofNat (n + 1)))), (.int (Int32.ofNat l')), (.int (Int32.ofNat f))])) rfl (by rw [hml]; rfl) (argsL := [(.int (Int32.ofNat f)), (.int (Int32.ofNat l')), (.double (FP.i2d (Int32.ofNat (n + 1))))]) (rest := []) (lenOf own_pd0 rfl) rfl (by show 2 * 0 + _ ≤ _; exact Nat.le_of_eq rfl) (hb hby at_189) (fun _ _ => ⟨rfl, eh8, (by decide : 0 + 0 ≤ _), (by decide : 0 + 0 ≤ _)⟩)
    dsimp only [Pt.U, Pt.locs, Pt.cells, Pt.slots] at X10 l10 y10 z10 st10 hQ10
    subst l10 y10 z10
    obtain ⟨rfl, Nq10, eh10⟩ := hQ10
    have N10 := Fr.app N8 Nq10
    have st11 : ∀ target, Steps p.tables e below (T10.setTop (mkF m 276 #[.val (.int p0), .val (.int p1), .val (.int p2), .val (.int (Int32.ofNat f)), .val (.int (Int32.ofNat l')), .val (.int (Int32.ofNat n)), .val (.double (FP.i2d (Int32.ofNat n))), .second, .val (.double (own_Td f l' n)), .second, .val (.int (1 : Int32)), .val (.double (own_Td (f + 1) l' n)), .second, .val (.double (own_Td f (l' + 1) n)), .second, .val (.double (own_Td f l' (n + 1))), .second, .unset, .unset, .unset, .unset, .unset] [(.int (Int32.ofNat (l' + 1)))])) target → Steps p.tables e below (T10.setTop (mkF m 276 #[.val (.int p0), .val (.int p1), .val (.int p2), .val (.int (Int32.ofNat f)), .val (.int (Int32.ofNat l')), .val (.int (Int32.ofNat n)), .val (.double (FP.i2d (Int32.ofNat n))), .second, .val (.double (own_Td f l' n)), .second, .val (.int (1 : Int32)), .val (.double (own_Td (f + 1) l' n)), .second, .val (.double (own_Td f (l' + 1) n)), .second, .val (.double (own_Td f l' (n + 1))), .second, .unset, .unset, .unset, .unset, .unset] [(.int ((Int32.ofNat l') + (1 : Int32)))])) target := by
      rw [own_s1]
      intro target hk
      exact hk
    obtain ⟨v12, vmx12, ⟨T12, L12, k12, n12⟩, -, X12, ⟨Lc12, hQ12, l12, y12, z12⟩, st12⟩ := Jvm.LawKit.callS X10 hx (y := (⟨"com/example/ample_search/amplesearch/search/Bm25", "tf", "(IID)D"⟩ : MethodName)) hown (mvT hZ (hw _ (List.mem_of_getElem? (i := 1) rfl))) (mvT hZ (hw _ (List.mem_of_getElem? (i := 2) rfl))) (mvT hZ (hw _ (List.mem_of_getElem? (i := 3) rfl))) (mvT hZ (hw _ (List.mem_of_getElem? (i := 4) rfl))) (by decide) (backOf (W := 0) (rmTf l Z a0 hw [] (Int32.ofNat f) (Int32.ofNat (l' + 1)) (FP.i2d (Int32.ofNat (l' + 1))) h0 n0 Z0 (own_tnn f1 l2 l3 l4)) hZ (hw _ (List.mem_of_getElem? (i := 4) rfl)) (hw _ (List.mem_of_getElem? (i := 3) rfl)) (by decide) (by decide)) (g := (mkF m 284 #[.val (.int p0), .val (.int p1), .val (.int p2), .val (.int (Int32.ofNat f)), .val (.int (Int32.ofNat l')), .val (.int (Int32.ofNat n)), .val (.double (FP.i2d (Int32.ofNat n))), .second, .val (.double (own_Td f l' n)), .second, .val (.int (1 : Int32)), .val (.double (own_Td (f + 1) l' n)), .second, .val (.double (own_Td f (l' + 1) n)), .second, .val (.double (own_Td f l' (n + 1))), .second, .val (.int (Int32.ofNat (l' + 1))), .unset, .unset, .unset, .unset] [(.double (FP.i2d (Int32.ofNat (l' + 1)))), (.int (Int32.ofNat (l' + 1))), (.int (Int32.ofNat f))])) rfl (by rw [hml]; rfl) (argsL := [(.int (Int32.ofNat f)), (.int (Int32.ofNat (l' + 1))), (.double (FP.i2d (Int32.ofNat (l' + 1))))]) (rest := []) (lenOf own_pd0 rfl) rfl (by show 2 * 0 + _ ≤ _; exact Nat.le_of_eq rfl) (hb hby at_284) (fun _ _ => ⟨rfl, eh10, (by decide : 0 + 0 ≤ _), (by decide : 0 + 0 ≤ _)⟩)
    dsimp only [Pt.U, Pt.locs, Pt.cells, Pt.slots] at X12 l12 y12 z12 st12 hQ12
    subst l12 y12 z12
    obtain ⟨rfl, Nq12, eh12⟩ := hQ12
    have N12 := Fr.app N10 Nq12
    obtain ⟨v13, vmx13, ⟨T13, L13, k13, n13⟩, -, X13, ⟨Lc13, hQ13, l13, y13, z13⟩, st13⟩ := Jvm.LawKit.callS X12 hx (y := (⟨"com/example/ample_search/amplesearch/search/Bm25", "tf", "(IID)D"⟩ : MethodName)) hown (mvT hZ (hw _ (List.mem_of_getElem? (i := 1) rfl))) (mvT hZ (hw _ (List.mem_of_getElem? (i := 2) rfl))) (mvT hZ (hw _ (List.mem_of_getElem? (i := 3) rfl))) (mvT hZ (hw _ (List.mem_of_getElem? (i := 4) rfl))) (by decide) (backOf (W := 0) (rmTf l Z a0 hw [] (Int32.ofNat f) (Int32.ofNat 0) (FP.i2d (Int32.ofNat n)) h0 n0 Z0 (own_tnn f1 (Nat.zero_le _) hn0 n1)) hZ (hw _ (List.mem_of_getElem? (i := 4) rfl)) (hw _ (List.mem_of_getElem? (i := 3) rfl)) (by decide) (by decide)) (g := (mkF m 320 #[.val (.int p0), .val (.int p1), .val (.int p2), .val (.int (Int32.ofNat f)), .val (.int (Int32.ofNat l')), .val (.int (Int32.ofNat n)), .val (.double (FP.i2d (Int32.ofNat n))), .second, .val (.double (own_Td f l' n)), .second, .val (.int (1 : Int32)), .val (.double (own_Td (f + 1) l' n)), .second, .val (.double (own_Td f (l' + 1) n)), .second, .val (.double (own_Td f l' (n + 1))), .second, .val (.int (Int32.ofNat (l' + 1))), .val (.double (own_Td f (l' + 1) (l' + 1))), .second, .unset, .unset] [(.double (FP.i2d (Int32.ofNat n))), (.int (0 : Int32)), (.int (Int32.ofNat f))])) rfl (by rw [hml]; rfl) (argsL := [(.int (Int32.ofNat f)), (.int (0 : Int32)), (.double (FP.i2d (Int32.ofNat n)))]) (rest := []) (lenOf own_pd0 rfl) rfl (by show 2 * 0 + _ ≤ _; exact Nat.le_of_eq rfl) (hb hby at_320) (fun _ _ => ⟨rfl, eh12, (by decide : 0 + 0 ≤ _), (by decide : 0 + 0 ≤ _)⟩)
    dsimp only [Pt.U, Pt.locs, Pt.cells, Pt.slots] at X13 l13 y13 z13 st13 hQ13
    subst l13 y13 z13
    obtain ⟨rfl, Nq13, eh13⟩ := hQ13
    have N13 := Fr.app N12 Nq13
    obtain ⟨fs, hr, hrun, hended, hW, hsame⟩ := X13.leave (v := some (.int (1 : Int32))) (fun h => by rw [hret0] at h; cases h)
    refine ⟨_, _, pre0 _ ?_, hrun, hended, _, _, rfl, ?_, ⟨_, rfl⟩, hW, hsame.mono (by decide) (by decide)⟩
    · show Steps p.tables e below (s₁.setTop (mkF m 0 #[.val (.int p0), .val (.int p1), .val (.int p2), .unset, .unset, .unset, .unset, .unset, .unset, .unset, .unset, .unset, .unset, .unset, .unset, .unset, .unset, .unset, .unset, .unset, .unset, .unset] [])) _
      refine XS.iloadN X0.here hx rfl (hb hby at_0) rfl ?_
      show Steps p.tables e below (s₁.setTop (mkF m 1 #[.val (.int p0), .val (.int p1), .val (.int p2), .unset, .unset, .unset, .unset, .unset, .unset, .unset, .unset, .unset, .unset, .unset, .unset, .unset, .unset, .unset, .unset, .unset, .unset, .unset] [(.int p0)])) _
      refine X0.ldcInt hx hown (mvT hZ (hw _ (List.mem_of_getElem? (i := 0) rfl))) (g := (mkF m 1 #[.val (.int p0), .val (.int p1), .val (.int p2), .unset, .unset, .unset, .unset, .unset, .unset, .unset, .unset, .unset, .unset, .unset, .unset, .unset, .unset, .unset, .unset, .unset, .unset, .unset] [(.int p0)])) rfl (hb hby at_1) _ ?_
      show Steps p.tables e below (s₁.setTop (mkF m 3 #[.val (.int p0), .val (.int p1), .val (.int p2), .unset, .unset, .unset, .unset, .unset, .unset, .unset, .unset, .unset, .unset, .unset, .unset, .unset, .unset, .unset, .unset, .unset, .unset, .unset] [(.int (65535 : Int32)), (.int p0)])) _
      refine XS.iand X0.here hx rfl (hb hby at_3) rfl ?_
      show Steps p.tables e below (s₁.setTop (mkF m 4 #[.val (.int p0), .val (.int p1), .val (.int p2), .unset, .unset, .unset, .unset, .unset, .unset, .unset, .unset, .unset, .unset, .unset, .unset, .unset, .unset, .unset, .unset, .unset, .unset, .unset] [(.int (p0 &&& (65535 : Int32)))])) _
      refine st1 _ ?_
      show Steps p.tables e below (s₁.setTop (mkF m 4 #[.val (.int p0), .val (.int p1), .val (.int p2), .unset, .unset, .unset, .unset, .unset, .unset, .unset, .unset, .unset, .unset, .unset, .unset, .unset, .unset, .unset, .unset, .unset, .unset, .unset] [(.int (Int32.ofNat f))])) _
      refine XS.istoreN X0.here hx rfl (hb hby at_4) rfl (l' := #[.val (.int p0), .val (.int p1), .val (.int p2), .val (.int (Int32.ofNat f)), .unset, .unset, .unset, .unset, .unset, .unset, .unset, .unset, .unset, .unset, .unset, .unset, .unset, .unset, .unset, .unset, .unset, .unset]) rfl ?_
      show Steps p.tables e below (s₁.setTop (mkF m 5 #[.val (.int p0), .val (.int p1), .val (.int p2), .val (.int (Int32.ofNat f)), .unset, .unset, .unset, .unset, .unset, .unset, .unset, .unset, .unset, .unset, .unset, .unset, .unset, .unset, .unset, .unset, .unset, .unset] [])) _
      refine XS.iloadN X0.here hx rfl (hb hby at_5) rfl ?_
      show Steps p.tables e below (s₁.setTop (mkF m 6 #[.val (.int p0), .val (.int p1), .val (.int p2), .val (.int (Int32.ofNat f)), .unset, .unset, .unset, .unset, .unset, .unset, .unset, .unset, .unset, .unset, .unset, .unset, .unset, .unset, .unset, .unset, .unset, .unset] [(.int p1)])) _
      refine X0.ldcInt hx hown (mvT hZ (hw _ (List.mem_of_getElem? (i := 0) rfl))) (g := (mkF m 6 #[.val (.int p0), .val (.int p1), .val (.int p2), .val (.int (Int32.ofNat f)), .unset, .unset, .unset, .unset, .unset, .unset, .unset, .unset, .unset, .unset, .unset, .unset, .unset, .unset, .unset, .unset, .unset, .unset] [(.int p1)])) rfl (hb hby at_6) _ ?_
      show Steps p.tables e below (s₁.setTop (mkF m 8 #[.val (.int p0), .val (.int p1), .val (.int p2), .val (.int (Int32.ofNat f)), .unset, .unset, .unset, .unset, .unset, .unset, .unset, .unset, .unset, .unset, .unset, .unset, .unset, .unset, .unset, .unset, .unset, .unset] [(.int (65535 : Int32)), (.int p1)])) _
      refine XS.iand X0.here hx rfl (hb hby at_8) rfl ?_
      show Steps p.tables e below (s₁.setTop (mkF m 9 #[.val (.int p0), .val (.int p1), .val (.int p2), .val (.int (Int32.ofNat f)), .unset, .unset, .unset, .unset, .unset, .unset, .unset, .unset, .unset, .unset, .unset, .unset, .unset, .unset, .unset, .unset, .unset, .unset] [(.int (p1 &&& (65535 : Int32)))])) _
      refine st2 _ ?_
      show Steps p.tables e below (s₁.setTop (mkF m 9 #[.val (.int p0), .val (.int p1), .val (.int p2), .val (.int (Int32.ofNat f)), .unset, .unset, .unset, .unset, .unset, .unset, .unset, .unset, .unset, .unset, .unset, .unset, .unset, .unset, .unset, .unset, .unset, .unset] [(.int (Int32.ofNat l'))])) _
      refine XS.istore X0.here hx rfl (hb hby at_9) rfl (l' := #[.val (.int p0), .val (.int p1), .val (.int p2), .val (.int (Int32.ofNat f)), .val (.int (Int32.ofNat l')), .unset, .unset, .unset, .unset, .unset, .unset, .unset, .unset, .unset, .unset, .unset, .unset, .unset, .unset, .unset, .unset, .unset]) rfl ?_
      show Steps p.tables e below (s₁.setTop (mkF m 11 #[.val (.int p0), .val (.int p1), .val (.int p2), .val (.int (Int32.ofNat f)), .val (.int (Int32.ofNat l')), .unset, .unset, .unset, .unset, .unset, .unset, .unset, .unset, .unset, .unset, .unset, .unset, .unset, .unset, .unset, .unset, .unset] [])) _
      refine XS.iloadN X0.here hx rfl (hb hby at_11) rfl ?_
      show Steps p.tables e below (s₁.setTop (mkF m 12 #[.val (.int p0), .val (.int p1), .val (.int p2), .val (.int (Int32.ofNat f)), .val (.int (Int32.ofNat l')), .unset, .unset, .unset, .unset, .unset, .unset, .unset, .unset, .unset, .unset, .unset, .unset, .unset, .unset, .unset, .unset, .unset] [(.int p2)])) _
      refine X0.ldcInt hx hown (mvT hZ (hw _ (List.mem_of_getElem? (i := 0) rfl))) (g := (mkF m 12 #[.val (.int p0), .val (.int p1), .val (.int p2), .val (.int (Int32.ofNat f)), .val (.int (Int32.ofNat l')), .unset, .unset, .unset, .unset, .unset, .unset, .unset, .unset, .unset, .unset, .unset, .unset, .unset, .unset, .unset, .unset, .unset] [(.int p2)])) rfl (hb hby at_12) _ ?_
      show Steps p.tables e below (s₁.setTop (mkF m 14 #[.val (.int p0), .val (.int p1), .val (.int p2), .val (.int (Int32.ofNat f)), .val (.int (Int32.ofNat l')), .unset, .unset, .unset, .unset, .unset, .unset, .unset, .unset, .unset, .unset, .unset, .unset, .unset, .unset, .unset, .unset, .unset] [(.int (65535 : Int32)), (.int p2)])) _
      refine XS.iand X0.here hx rfl (hb hby at_14) rfl ?_
      show Steps p.tables e below (s₁.setTop (mkF m 15 #[.val (.int p0), .val (.int p1), .val (.int p2), .val (.int (Int32.ofNat f)), .val (.int (Int32.ofNat l')), .unset, .unset, .unset, .unset, .unset, .unset, .unset, .unset, .unset, .unset, .unset, .unset, .unset, .unset, .unset, .unset, .unset] [(.int (p2 &&& (65535 : Int32)))])) _
      refine XS.iconst X0.here hx rfl (hb hby at_15) ?_
      show Steps p.tables e below (s₁.setTop (mkF m 16 #[.val (.int p0), .val (.int p1), .val (.int p2), .val (.int (Int32.ofNat f)), .val (.int (Int32.ofNat l')), .unset, .unset, .unset, .unset, .unset, .unset, .unset, .unset, .unset, .unset, .unset, .unset, .unset, .unset, .unset, .unset, .unset] [(.int (1 : Int32)), (.int (p2 &&& (65535 : Int32)))])) _
      refine XS.iadd X0.here hx rfl (hb hby at_16) rfl ?_
      show Steps p.tables e below (s₁.setTop (mkF m 17 #[.val (.int p0), .val (.int p1), .val (.int p2), .val (.int (Int32.ofNat f)), .val (.int (Int32.ofNat l')), .unset, .unset, .unset, .unset, .unset, .unset, .unset, .unset, .unset, .unset, .unset, .unset, .unset, .unset, .unset, .unset, .unset] [(.int ((p2 &&& (65535 : Int32)) + (1 : Int32)))])) _
      refine st3 _ ?_
      show Steps p.tables e below (s₁.setTop (mkF m 17 #[.val (.int p0), .val (.int p1), .val (.int p2), .val (.int (Int32.ofNat f)), .val (.int (Int32.ofNat l')), .unset, .unset, .unset, .unset, .unset, .unset, .unset, .unset, .unset, .unset, .unset, .unset, .unset, .unset, .unset, .unset, .unset] [(.int (Int32.ofNat n))])) _
      refine XS.istore X0.here hx rfl (hb hby at_17) rfl (l' := #[.val (.int p0), .val (.int p1), .val (.int p2), .val (.int (Int32.ofNat f)), .val (.int (Int32.ofNat l')), .val (.int (Int32.ofNat n)), .unset, .unset, .unset, .unset, .unset, .unset, .unset, .unset, .unset, .unset, .unset, .unset, .unset, .unset, .unset, .unset]) rfl ?_
      show Steps p.tables e below (s₁.setTop (mkF m 19 #[.val (.int p0), .val (.int p1), .val (.int p2), .val (.int (Int32.ofNat f)), .val (.int (Int32.ofNat l')), .val (.int (Int32.ofNat n)), .unset, .unset, .unset, .unset, .unset, .unset, .unset, .unset, .unset, .unset, .unset, .unset, .unset, .unset, .unset, .unset] [])) _
      refine XS.iload X0.here hx rfl (hb hby at_19) rfl ?_
      show Steps p.tables e below (s₁.setTop (mkF m 21 #[.val (.int p0), .val (.int p1), .val (.int p2), .val (.int (Int32.ofNat f)), .val (.int (Int32.ofNat l')), .val (.int (Int32.ofNat n)), .unset, .unset, .unset, .unset, .unset, .unset, .unset, .unset, .unset, .unset, .unset, .unset, .unset, .unset, .unset, .unset] [(.int (Int32.ofNat n))])) _
      refine XS.i2dS X0.here hx rfl (hb hby at_21) rfl rfl ?_
      show Steps p.tables e below (s₁.setTop (mkF m 22 #[.val (.int p0), .val (.int p1), .val (.int p2), .val (.int (Int32.ofNat f)), .val (.int (Int32.ofNat l')), .val (.int (Int32.ofNat n)), .unset, .unset, .unset, .unset, .unset, .unset, .unset, .unset, .unset, .unset, .unset, .unset, .unset, .unset, .unset, .unset] [(.double (FP.i2d (Int32.ofNat n)))])) _
      refine XS.dstore X0.here hx rfl (hb hby at_22) rfl (l' := #[.val (.int p0), .val (.int p1), .val (.int p2), .val (.int (Int32.ofNat f)), .val (.int (Int32.ofNat l')), .val (.int (Int32.ofNat n)), .val (.double (FP.i2d (Int32.ofNat n))), .second, .unset, .unset, .unset, .unset, .unset, .unset, .unset, .unset, .unset, .unset, .unset, .unset, .unset, .unset]) rfl ?_
      show Steps p.tables e below (s₁.setTop (mkF m 24 #[.val (.int p0), .val (.int p1), .val (.int p2), .val (.int (Int32.ofNat f)), .val (.int (Int32.ofNat l')), .val (.int (Int32.ofNat n)), .val (.double (FP.i2d (Int32.ofNat n))), .second, .unset, .unset, .unset, .unset, .unset, .unset, .unset, .unset, .unset, .unset, .unset, .unset, .unset, .unset] [])) _
      refine XS.iloadN X0.here hx rfl (hb hby at_24) rfl ?_
      show Steps p.tables e below (s₁.setTop (mkF m 25 #[.val (.int p0), .val (.int p1), .val (.int p2), .val (.int (Int32.ofNat f)), .val (.int (Int32.ofNat l')), .val (.int (Int32.ofNat n)), .val (.double (FP.i2d (Int32.ofNat n))), .second, .unset, .unset, .unset, .unset, .unset, .unset, .unset, .unset, .unset, .unset, .unset, .unset, .unset, .unset] [(.int (Int32.ofNat f))])) _
      refine XS.iload X0.here hx rfl (hb hby at_25) rfl ?_
      show Steps p.tables e below (s₁.setTop (mkF m 27 #[.val (.int p0), .val (.int p1), .val (.int p2), .val (.int (Int32.ofNat f)), .val (.int (Int32.ofNat l')), .val (.int (Int32.ofNat n)), .val (.double (FP.i2d (Int32.ofNat n))), .second, .unset, .unset, .unset, .unset, .unset, .unset, .unset, .unset, .unset, .unset, .unset, .unset, .unset, .unset] [(.int (Int32.ofNat l')), (.int (Int32.ofNat f))])) _
      refine XS.dload X0.here hx rfl (hb hby at_27) rfl ?_
      show Steps p.tables e below (s₁.setTop (mkF m 29 #[.val (.int p0), .val (.int p1), .val (.int p2), .val (.int (Int32.ofNat f)), .val (.int (Int32.ofNat l')), .val (.int (Int32.ofNat n)), .val (.double (FP.i2d (Int32.ofNat n))), .second, .unset, .unset, .unset, .unset, .unset, .unset, .unset, .unset, .unset, .unset, .unset, .unset, .unset, .unset] [(.double (FP.i2d (Int32.ofNat n))), (.int (Int32.ofNat l')), (.int (Int32.ofNat f))])) _
      refine st4 _ ?_
      show Steps p.tables e below (T4.setTop (mkF m 32 #[.val (.int p0), .val (.int p1), .val (.int p2), .val (.int (Int32.ofNat f)), .val (.int (Int32.ofNat l')), .val (.int (Int32.ofNat n)), .val (.double (FP.i2d (Int32.ofNat n))), .second, .unset, .unset, .unset, .unset, .unset, .unset, .unset, .unset, .unset, .unset, .unset, .unset, .unset, .unset] [(.double (own_Td f l' n))])) _
      refine XS.dstore X4.here hx rfl (hb hby at_32) rfl (l' := #[.val (.int p0), .val (.int p1), .val (.int p2), .val (.int (Int32.ofNat f)), .val (.int (Int32.ofNat l')), .val (.int (Int32.ofNat n)), .val (.double (FP.i2d (Int32.ofNat n))), .second, .val (.double (own_Td f l' n)), .second, .unset, .unset, .unset, .unset, .unset, .unset, .unset, .unset, .unset, .unset, .unset, .unset]) rfl ?_
      show Steps p.tables e below (T4.setTop (mkF m 34 #[.val (.int p0), .val (.int p1), .val (.int p2), .val (.int (Int32.ofNat f)), .val (.int (Int32.ofNat l')), .val (.int (Int32.ofNat n)), .val (.double (FP.i2d (Int32.ofNat n))), .second, .val (.double (own_Td f l' n)), .second, .unset, .unset, .unset, .unset, .unset, .unset, .unset, .unset, .unset, .unset, .unset, .unset] [])) _
      refine XS.dconst0 X4.here hx rfl (v := 0) (hb hby at_34) (by decide +kernel) ?_
      show Steps p.tables e below (T4.setTop (mkF m 35 #[.val (.int p0), .val (.int p1), .val (.int p2), .val (.int (Int32.ofNat f)), .val (.int (Int32.ofNat l')), .val (.int (Int32.ofNat n)), .val (.double (FP.i2d (Int32.ofNat n))), .second, .val (.double (own_Td f l' n)), .second, .unset, .unset, .unset, .unset, .unset, .unset, .unset, .unset, .unset, .unset, .unset, .unset] [(.double (0 : UInt64))])) _
      refine XS.dload X4.here hx rfl (hb hby at_35) rfl ?_
      show Steps p.tables e below (T4.setTop (mkF m 37 #[.val (.int p0), .val (.int p1), .val (.int p2), .val (.int (Int32.ofNat f)), .val (.int (Int32.ofNat l')), .val (.int (Int32.ofNat n)), .val (.double (FP.i2d (Int32.ofNat n))), .second, .val (.double (own_Td f l' n)), .second, .unset, .unset, .unset, .unset, .unset, .unset, .unset, .unset, .unset, .unset, .unset, .unset] [(.double (own_Td f l' n)), (.double (0 : UInt64))])) _
      refine XS.dcmpS X4.here hx rfl (v := (0 : Int32)) (hb hby at_37) rfl (by rw [T0 l1 hn0 n1, z00]; rfl) ?_
      show Steps p.tables e below (T4.setTop (mkF m 38 #[.val (.int p0), .val (.int p1), .val (.int p2), .val (.int (Int32.ofNat f)), .val (.int (Int32.ofNat l')), .val (.int (Int32.ofNat n)), .val (.double (FP.i2d (Int32.ofNat n))), .second, .val (.double (own_Td f l' n)), .second, .unset, .unset, .unset, .unset, .unset, .unset, .unset, .unset, .unset, .unset, .unset, .unset] [(.int (0 : Int32))])) _
      refine XS.ifNo X4.here hx rfl (hb hby at_38) rfl ((if0 _ _).trans (flt (by decide)).2.2.1) ?_
      show Steps p.tables e below (T4.setTop (mkF m 41 #[.val (.int p0), .val (.int p1), .val (.int p2), .val (.int (Int32.ofNat f)), .val (.int (Int32.ofNat l')), .val (.int (Int32.ofNat n)), .val (.double (FP.i2d (Int32.ofNat n))), .second, .val (.double (own_Td f l' n)), .second, .unset, .unset, .unset, .unset, .unset, .unset, .unset, .unset, .unset, .unset, .unset, .unset] [])) _
      refine XS.dload X4.here hx rfl (hb hby at_41) rfl ?_
      show Steps p.tables e below (T4.setTop (mkF m 43 #[.val (.int p0), .val (.int p1), .val (.int p2), .val (.int (Int32.ofNat f)), .val (.int (Int32.ofNat l')), .val (.int (Int32.ofNat n)), .val (.double (FP.i2d (Int32.ofNat n))), .second, .val (.double (own_Td f l' n)), .second, .unset, .unset, .unset, .unset, .unset, .unset, .unset, .unset, .unset, .unset, .unset, .unset] [(.double (own_Td f l' n))])) _
      refine XS.dconst1 X4.here hx rfl (v := 4607182418800017408) (hb hby at_43) (by decide +kernel) ?_
      show Steps p.tables e below (T4.setTop (mkF m 44 #[.val (.int p0), .val (.int p1), .val (.int p2), .val (.int (Int32.ofNat f)), .val (.int (Int32.ofNat l')), .val (.int (Int32.ofNat n)), .val (.double (FP.i2d (Int32.ofNat n))), .second, .val (.double (own_Td f l' n)), .second, .unset, .unset, .unset, .unset, .unset, .unset, .unset, .unset, .unset, .unset, .unset, .unset] [(.double (4607182418800017408 : UInt64)), (.double (own_Td f l' n))])) _
      refine XS.dcmpS X4.here hx rfl (v := (-1 : Int32)) (hb hby at_44) rfl (by rw [T0 l1 hn0 n1]; decide +kernel) ?_
      show Steps p.tables e below (T4.setTop (mkF m 45 #[.val (.int p0), .val (.int p1), .val (.int p2), .val (.int (Int32.ofNat f)), .val (.int (Int32.ofNat l')), .val (.int (Int32.ofNat n)), .val (.double (FP.i2d (Int32.ofNat n))), .second, .val (.double (own_Td f l' n)), .second, .unset, .unset, .unset, .unset, .unset, .unset, .unset, .unset, .unset, .unset, .unset, .unset] [(.int (-1 : Int32))])) _
      refine XS.ifNo X4.here hx rfl (hb hby at_45) rfl ((if0 _ _).trans (tlt (by decide)).2.1) ?_
      show Steps p.tables e below (T4.setTop (mkF m 48 #[.val (.int p0), .val (.int p1), .val (.int p2), .val (.int (Int32.ofNat f)), .val (.int (Int32.ofNat l')), .val (.int (Int32.ofNat n)), .val (.double (FP.i2d (Int32.ofNat n))), .second, .val (.double (own_Td f l' n)), .second, .unset, .unset, .unset, .unset, .unset, .unset, .unset, .unset, .unset, .unset, .unset, .unset] [])) _
      refine XS.iconst X4.here hx rfl (hb hby at_48) ?_
      show Steps p.tables e below (T4.setTop (mkF m 49 #[.val (.int p0), .val (.int p1), .val (.int p2), .val (.int (Int32.ofNat f)), .val (.int (Int32.ofNat l')), .val (.int (Int32.ofNat n)), .val (.double (FP.i2d (Int32.ofNat n))), .second, .val (.double (own_Td f l' n)), .second, .unset, .unset, .unset, .unset, .unset, .unset, .unset, .unset, .unset, .unset, .unset, .unset] [(.int (1 : Int32))])) _
      refine XS.goto X4.here hx rfl (pc0 := 49) (pc' := 53) rfl (hb hby at_49) (by decide) (by decide) ?_
      show Steps p.tables e below (T4.setTop (mkF m 53 #[.val (.int p0), .val (.int p1), .val (.int p2), .val (.int (Int32.ofNat f)), .val (.int (Int32.ofNat l')), .val (.int (Int32.ofNat n)), .val (.double (FP.i2d (Int32.ofNat n))), .second, .val (.double (own_Td f l' n)), .second, .unset, .unset, .unset, .unset, .unset, .unset, .unset, .unset, .unset, .unset, .unset, .unset] [(.int (1 : Int32))])) _
      refine XS.istore X4.here hx rfl (hb hby at_53) rfl (l' := #[.val (.int p0), .val (.int p1), .val (.int p2), .val (.int (Int32.ofNat f)), .val (.int (Int32.ofNat l')), .val (.int (Int32.ofNat n)), .val (.double (FP.i2d (Int32.ofNat n))), .second, .val (.double (own_Td f l' n)), .second, .val (.int (1 : Int32)), .unset, .unset, .unset, .unset, .unset, .unset, .unset, .unset, .unset, .unset, .unset]) rfl ?_
      show Steps p.tables e below (T4.setTop (mkF m 55 #[.val (.int p0), .val (.int p1), .val (.int p2), .val (.int (Int32.ofNat f)), .val (.int (Int32.ofNat l')), .val (.int (Int32.ofNat n)), .val (.double (FP.i2d (Int32.ofNat n))), .second, .val (.double (own_Td f l' n)), .second, .val (.int (1 : Int32)), .unset, .unset, .unset, .unset, .unset, .unset, .unset, .unset, .unset, .unset, .unset] [])) _
      refine XS.iload X4.here hx rfl (hb hby at_55) rfl ?_
      show Steps p.tables e below (T4.setTop (mkF m 57 #[.val (.int p0), .val (.int p1), .val (.int p2), .val (.int (Int32.ofNat f)), .val (.int (Int32.ofNat l')), .val (.int (Int32.ofNat n)), .val (.double (FP.i2d (Int32.ofNat n))), .second, .val (.double (own_Td f l' n)), .second, .val (.int (1 : Int32)), .unset, .unset, .unset, .unset, .unset, .unset, .unset, .unset, .unset, .unset, .unset] [(.int (1 : Int32))])) _
      refine XS.ifNo X4.here hx rfl (hb hby at_57) rfl ((if0 _ _).trans (feq (by decide)).1) ?_
      show Steps p.tables e below (T4.setTop (mkF m 60 #[.val (.int p0), .val (.int p1), .val (.int p2), .val (.int (Int32.ofNat f)), .val (.int (Int32.ofNat l')), .val (.int (Int32.ofNat n)), .val (.double (FP.i2d (Int32.ofNat n))), .second, .val (.double (own_Td f l' n)), .second, .val (.int (1 : Int32)), .unset, .unset, .unset, .unset, .unset, .unset, .unset, .unset, .unset, .unset, .unset] [])) _
      refine XS.dload X4.here hx rfl (hb hby at_60) rfl ?_
      show Steps p.tables e below (T4.setTop (mkF m 62 #[.val (.int p0), .val (.int p1), .val (.int p2), .val (.int (Int32.ofNat f)), .val (.int (Int32.ofNat l')), .val (.int (Int32.ofNat n)), .val (.double (FP.i2d (Int32.ofNat n))), .second, .val (.double (own_Td f l' n)), .second, .val (.int (1 : Int32)), .unset, .unset, .unset, .unset, .unset, .unset, .unset, .unset, .unset, .unset, .unset] [(.double (own_Td f l' n))])) _
      refine XS.dconst0 X4.here hx rfl (v := 0) (hb hby at_62) (by decide +kernel) ?_
      show Steps p.tables e below (T4.setTop (mkF m 63 #[.val (.int p0), .val (.int p1), .val (.int p2), .val (.int (Int32.ofNat f)), .val (.int (Int32.ofNat l')), .val (.int (Int32.ofNat n)), .val (.double (FP.i2d (Int32.ofNat n))), .second, .val (.double (own_Td f l' n)), .second, .val (.int (1 : Int32)), .unset, .unset, .unset, .unset, .unset, .unset, .unset, .unset, .unset, .unset, .unset] [(.double (0 : UInt64)), (.double (own_Td f l' n))])) _
      refine XS.dcmpS X4.here hx rfl (v := (0 : Int32)) (hb hby at_63) rfl (by rw [T0 l1 hn0 n1, z00]; rfl) ?_
      show Steps p.tables e below (T4.setTop (mkF m 64 #[.val (.int p0), .val (.int p1), .val (.int p2), .val (.int (Int32.ofNat f)), .val (.int (Int32.ofNat l')), .val (.int (Int32.ofNat n)), .val (.double (FP.i2d (Int32.ofNat n))), .second, .val (.double (own_Td f l' n)), .second, .val (.int (1 : Int32)), .unset, .unset, .unset, .unset, .unset, .unset, .unset, .unset, .unset, .unset, .unset] [(.int (0 : Int32))])) _
      refine XS.ifNo X4.here hx rfl (hb hby at_64) rfl ((if0 _ _).trans (teq (by decide)).2) ?_
      show Steps p.tables e below (T4.setTop (mkF m 67 #[.val (.int p0), .val (.int p1), .val (.int p2), .val (.int (Int32.ofNat f)), .val (.int (Int32.ofNat l')), .val (.int (Int32.ofNat n)), .val (.double (FP.i2d (Int32.ofNat n))), .second, .val (.double (own_Td f l' n)), .second, .val (.int (1 : Int32)), .unset, .unset, .unset, .unset, .unset, .unset, .unset, .unset, .unset, .unset, .unset] [])) _
      refine XS.iconst X4.here hx rfl (hb hby at_67) ?_
      show Steps p.tables e below (T4.setTop (mkF m 68 #[.val (.int p0), .val (.int p1), .val (.int p2), .val (.int (Int32.ofNat f)), .val (.int (Int32.ofNat l')), .val (.int (Int32.ofNat n)), .val (.double (FP.i2d (Int32.ofNat n))), .second, .val (.double (own_Td f l' n)), .second, .val (.int (1 : Int32)), .unset, .unset, .unset, .unset, .unset, .unset, .unset, .unset, .unset, .unset, .unset] [(.int (1 : Int32))])) _
      refine XS.goto X4.here hx rfl (pc0 := 68) (pc' := 72) rfl (hb hby at_68) (by decide) (by decide) ?_
      show Steps p.tables e below (T4.setTop (mkF m 72 #[.val (.int p0), .val (.int p1), .val (.int p2), .val (.int (Int32.ofNat f)), .val (.int (Int32.ofNat l')), .val (.int (Int32.ofNat n)), .val (.double (FP.i2d (Int32.ofNat n))), .second, .val (.double (own_Td f l' n)), .second, .val (.int (1 : Int32)), .unset, .unset, .unset, .unset, .unset, .unset, .unset, .unset, .unset, .unset, .unset] [(.int (1 : Int32))])) _
      refine XS.iloadN X4.here hx rfl (hb hby at_72) rfl ?_
      show Steps p.tables e below (T4.setTop (mkF m 73 #[.val (.int p0), .val (.int p1), .val (.int p2), .val (.int (Int32.ofNat f)), .val (.int (Int32.ofNat l')), .val (.int (Int32.ofNat n)), .val (.double (FP.i2d (Int32.ofNat n))), .second, .val (.double (own_Td f l' n)), .second, .val (.int (1 : Int32)), .unset, .unset, .unset, .unset, .unset, .unset, .unset, .unset, .unset, .unset, .unset] [(.int (Int32.ofNat f)), (.int (1 : Int32))])) _
      refine XS.ifNo X4.here hx rfl (hb hby at_73) rfl ((if0 _ _).trans (teq (by rw [hf0]; rfl)).2) ?_
      show Steps p.tables e below (T4.setTop (mkF m 76 #[.val (.int p0), .val (.int p1), .val (.int p2), .val (.int (Int32.ofNat f)), .val (.int (Int32.ofNat l')), .val (.int (Int32.ofNat n)), .val (.double (FP.i2d (Int32.ofNat n))), .second, .val (.double (own_Td f l' n)), .second, .val (.int (1 : Int32)), .unset, .unset, .unset, .unset, .unset, .unset, .unset, .unset, .unset, .unset, .unset] [(.int (1 : Int32))])) _
      refine XS.iconst X4.here hx rfl (hb hby at_76) ?_
      show Steps p.tables e below (T4.setTop (mkF m 77 #[.val (.int p0), .val (.int p1), .val (.int p2), .val (.int (Int32.ofNat f)), .val (.int (Int32.ofNat l')), .val (.int (Int32.ofNat n)), .val (.double (FP.i2d (Int32.ofNat n))), .second, .val (.double (own_Td f l' n)), .second, .val (.int (1 : Int32)), .unset, .unset, .unset, .unset, .unset, .unset, .unset, .unset, .unset, .unset, .unset] [(.int (1 : Int32)), (.int (1 : Int32))])) _
      refine XS.goto X4.here hx rfl (pc0 := 77) (pc' := 81) rfl (hb hby at_77) (by decide) (by decide) ?_
      show Steps p.tables e below (T4.setTop (mkF m 81 #[.val (.int p0), .val (.int p1), .val (.int p2), .val (.int (Int32.ofNat f)), .val (.int (Int32.ofNat l')), .val (.int (Int32.ofNat n)), .val (.double (FP.i2d (Int32.ofNat n))), .second, .val (.double (own_Td f l' n)), .second, .val (.int (1 : Int32)), .unset, .unset, .unset, .unset, .unset, .unset, .unset, .unset, .unset, .unset, .unset] [(.int (1 : Int32)), (.int (1 : Int32))])) _
      refine XS.icmpNo X4.here hx rfl (hb hby at_81) rfl (teq rfl).2 ?_
      show Steps p.tables e below (T4.setTop (mkF m 84 #[.val (.int p0), .val (.int p1), .val (.int p2), .val (.int (Int32.ofNat f)), .val (.int (Int32.ofNat l')), .val (.int (Int32.ofNat n)), .val (.double (FP.i2d (Int32.ofNat n))), .second, .val (.double (own_Td f l' n)), .second, .val (.int (1 : Int32)), .unset, .unset, .unset, .unset, .unset, .unset, .unset, .unset, .unset, .unset, .unset] [])) _
      refine XS.iconst X4.here hx rfl (hb hby at_84) ?_
      show Steps p.tables e below (T4.setTop (mkF m 85 #[.val (.int p0), .val (.int p1), .val (.int p2), .val (.int (Int32.ofNat f)), .val (.int (Int32.ofNat l')), .val (.int (Int32.ofNat n)), .val (.double (FP.i2d (Int32.ofNat n))), .second, .val (.double (own_Td f l' n)), .second, .val (.int (1 : Int32)), .unset, .unset, .unset, .unset, .unset, .unset, .unset, .unset, .unset, .unset, .unset] [(.int (1 : Int32))])) _
      refine XS.goto X4.here hx rfl (pc0 := 85) (pc' := 89) rfl (hb hby at_85) (by decide) (by decide) ?_
      show Steps p.tables e below (T4.setTop (mkF m 89 #[.val (.int p0), .val (.int p1), .val (.int p2), .val (.int (Int32.ofNat f)), .val (.int (Int32.ofNat l')), .val (.int (Int32.ofNat n)), .val (.double (FP.i2d (Int32.ofNat n))), .second, .val (.double (own_Td f l' n)), .second, .val (.int (1 : Int32)), .unset, .unset, .unset, .unset, .unset, .unset, .unset, .unset, .unset, .unset, .unset] [(.int (1 : Int32))])) _
      refine XS.istore X4.here hx rfl (hb hby at_89) rfl (l' := #[.val (.int p0), .val (.int p1), .val (.int p2), .val (.int (Int32.ofNat f)), .val (.int (Int32.ofNat l')), .val (.int (Int32.ofNat n)), .val (.double (FP.i2d (Int32.ofNat n))), .second, .val (.double (own_Td f l' n)), .second, .val (.int (1 : Int32)), .unset, .unset, .unset, .unset, .unset, .unset, .unset, .unset, .unset, .unset, .unset]) rfl ?_
      show Steps p.tables e below (T4.setTop (mkF m 91 #[.val (.int p0), .val (.int p1), .val (.int p2), .val (.int (Int32.ofNat f)), .val (.int (Int32.ofNat l')), .val (.int (Int32.ofNat n)), .val (.double (FP.i2d (Int32.ofNat n))), .second, .val (.double (own_Td f l' n)), .second, .val (.int (1 : Int32)), .unset, .unset, .unset, .unset, .unset, .unset, .unset, .unset, .unset, .unset, .unset] [])) _
      refine XS.iloadN X4.here hx rfl (hb hby at_91) rfl ?_
      show Steps p.tables e below (T4.setTop (mkF m 92 #[.val (.int p0), .val (.int p1), .val (.int p2), .val (.int (Int32.ofNat f)), .val (.int (Int32.ofNat l')), .val (.int (Int32.ofNat n)), .val (.double (FP.i2d (Int32.ofNat n))), .second, .val (.double (own_Td f l' n)), .second, .val (.int (1 : Int32)), .unset, .unset, .unset, .unset, .unset, .unset, .unset, .unset, .unset, .unset, .unset] [(.int (Int32.ofNat f))])) _
      refine XS.iconst X4.here hx rfl (hb hby at_92) ?_
      show Steps p.tables e below (T4.setTop (mkF m 93 #[.val (.int p0), .val (.int p1), .val (.int p2), .val (.int (Int32.ofNat f)), .val (.int (Int32.ofNat l')), .val (.int (Int32.ofNat n)), .val (.double (FP.i2d (Int32.ofNat n))), .second, .val (.double (own_Td f l' n)), .second, .val (.int (1 : Int32)), .unset, .unset, .unset, .unset, .unset, .unset, .unset, .unset, .unset, .unset, .unset] [(.int (1 : Int32)), (.int (Int32.ofNat f))])) _
      refine XS.iadd X4.here hx rfl (hb hby at_93) rfl ?_
      show Steps p.tables e below (T4.setTop (mkF m 94 #[.val (.int p0), .val (.int p1), .val (.int p2), .val (.int (Int32.ofNat f)), .val (.int (Int32.ofNat l')), .val (.int (Int32.ofNat n)), .val (.double (FP.i2d (Int32.ofNat n))), .second, .val (.double (own_Td f l' n)), .second, .val (.int (1 : Int32)), .unset, .unset, .unset, .unset, .unset, .unset, .unset, .unset, .unset, .unset, .unset] [(.int ((Int32.ofNat f) + (1 : Int32)))])) _
      refine st5 _ ?_
      show Steps p.tables e below (T4.setTop (mkF m 94 #[.val (.int p0), .val (.int p1), .val (.int p2), .val (.int (Int32.ofNat f)), .val (.int (Int32.ofNat l')), .val (.int (Int32.ofNat n)), .val (.double (FP.i2d (Int32.ofNat n))), .second, .val (.double (own_Td f l' n)), .second, .val (.int (1 : Int32)), .unset, .unset, .unset, .unset, .unset, .unset, .unset, .unset, .unset, .unset, .unset] [(.int (Int32.ofNat (f + 1)))])) _
      refine XS.iload X4.here hx rfl (hb hby at_94) rfl ?_
      show Steps p.tables e below (T4.setTop (mkF m 96 #[.val (.int p0), .val (.int p1), .val (.int p2), .val (.int (Int32.ofNat f)), .val (.int (Int32.ofNat l')), .val (.int (Int32.ofNat n)), .val (.double (FP.i2d (Int32.ofNat n))), .second, .val (.double (own_Td f l' n)), .second, .val (.int (1 : Int32)), .unset, .unset, .unset, .unset, .unset, .unset, .unset, .unset, .unset, .unset, .unset] [(.int (Int32.ofNat l')), (.int (Int32.ofNat (f + 1)))])) _
      refine XS.dload X4.here hx rfl (hb hby at_96) rfl ?_
      show Steps p.tables e below (T4.setTop (mkF m 98 #[.val (.int p0), .val (.int p1), .val (.int p2), .val (.int (Int32.ofNat f)), .val (.int (Int32.ofNat l')), .val (.int (Int32.ofNat n)), .val (.double (FP.i2d (Int32.ofNat n))), .second, .val (.double (own_Td f l' n)), .second, .val (.int (1 : Int32)), .unset, .unset, .unset, .unset, .unset, .unset, .unset, .unset, .unset, .unset, .unset] [(.double (FP.i2d (Int32.ofNat n))), (.int (Int32.ofNat l')), (.int (Int32.ofNat (f + 1)))])) _
      refine st6 _ ?_
      show Steps p.tables e below (T6.setTop (mkF m 101 #[.val (.int p0), .val (.int p1), .val (.int p2), .val (.int (Int32.ofNat f)), .val (.int (Int32.ofNat l')), .val (.int (Int32.ofNat n)), .val (.double (FP.i2d (Int32.ofNat n))), .second, .val (.double (own_Td f l' n)), .second, .val (.int (1 : Int32)), .unset, .unset, .unset, .unset, .unset, .unset, .unset, .unset, .unset, .unset, .unset] [(.double (own_Td (f + 1) l' n))])) _
      refine XS.dstore X6.here hx rfl (hb hby at_101) rfl (l' := #[.val (.int p0), .val (.int p1), .val (.int p2), .val (.int (Int32.ofNat f)), .val (.int (Int32.ofNat l')), .val (.int (Int32.ofNat n)), .val (.double (FP.i2d (Int32.ofNat n))), .second, .val (.double (own_Td f l' n)), .second, .val (.int (1 : Int32)), .val (.double (own_Td (f + 1) l' n)), .second, .unset, .unset, .unset, .unset, .unset, .unset, .unset, .unset, .unset]) rfl ?_
      show Steps p.tables e below (T6.setTop (mkF m 103 #[.val (.int p0), .val (.int p1), .val (.int p2), .val (.int (Int32.ofNat f)), .val (.int (Int32.ofNat l')), .val (.int (Int32.ofNat n)), .val (.double (FP.i2d (Int32.ofNat n))), .second, .val (.double (own_Td f l' n)), .second, .val (.int (1 : Int32)), .val (.double (own_Td (f + 1) l' n)), .second, .unset, .unset, .unset, .unset, .unset, .unset, .unset, .unset, .unset] [])) _
      refine XS.iload X6.here hx rfl (hb hby at_103) rfl ?_
      show Steps p.tables e below (T6.setTop (mkF m 105 #[.val (.int p0), .val (.int p1), .val (.int p2), .val (.int (Int32.ofNat f)), .val (.int (Int32.ofNat l')), .val (.int (Int32.ofNat n)), .val (.double (FP.i2d (Int32.ofNat n))), .second, .val (.double (own_Td f l' n)), .second, .val (.int (1 : Int32)), .val (.double (own_Td (f + 1) l' n)), .second, .unset, .unset, .unset, .unset, .unset, .unset, .unset, .unset, .unset] [(.int (1 : Int32))])) _
      refine XS.ifNo X6.here hx rfl (hb hby at_105) rfl ((if0 _ _).trans (feq (by decide)).1) ?_
      show Steps p.tables e below (T6.setTop (mkF m 108 #[.val (.int p0), .val (.int p1), .val (.int p2), .val (.int (Int32.ofNat f)), .val (.int (Int32.ofNat l')), .val (.int (Int32.ofNat n)), .val (.double (FP.i2d (Int32.ofNat n))), .second, .val (.double (own_Td f l' n)), .second, .val (.int (1 : Int32)), .val (.double (own_Td (f + 1) l' n)), .second, .unset, .unset, .unset, .unset, .unset, .unset, .unset, .unset, .unset] [])) _
      refine XS.dload X6.here hx rfl (hb hby at_108) rfl ?_
      show Steps p.tables e below (T6.setTop (mkF m 110 #[.val (.int p0), .val (.int p1), .val (.int p2), .val (.int (Int32.ofNat f)), .val (.int (Int32.ofNat l')), .val (.int (Int32.ofNat n)), .val (.double (FP.i2d (Int32.ofNat n))), .second, .val (.double (own_Td f l' n)), .second, .val (.int (1 : Int32)), .val (.double (own_Td (f + 1) l' n)), .second, .unset, .unset, .unset, .unset, .unset, .unset, .unset, .unset, .unset] [(.double (own_Td (f + 1) l' n))])) _
      refine XS.dload X6.here hx rfl (hb hby at_110) rfl ?_
      show Steps p.tables e below (T6.setTop (mkF m 112 #[.val (.int p0), .val (.int p1), .val (.int p2), .val (.int (Int32.ofNat f)), .val (.int (Int32.ofNat l')), .val (.int (Int32.ofNat n)), .val (.double (FP.i2d (Int32.ofNat n))), .second, .val (.double (own_Td f l' n)), .second, .val (.int (1 : Int32)), .val (.double (own_Td (f + 1) l' n)), .second, .unset, .unset, .unset, .unset, .unset, .unset, .unset, .unset, .unset] [(.double (own_Td f l' n)), (.double (own_Td (f + 1) l' n))])) _
      refine XS.dcmpS X6.here hx rfl (v := (1 : Int32)) (hb hby at_112) rfl (by rw [own_more hf l1 hn0 n1]; rfl) ?_
      show Steps p.tables e below (T6.setTop (mkF m 113 #[.val (.int p0), .val (.int p1), .val (.int p2), .val (.int (Int32.ofNat f)), .val (.int (Int32.ofNat l')), .val (.int (Int32.ofNat n)), .val (.double (FP.i2d (Int32.ofNat n))), .second, .val (.double (own_Td f l' n)), .second, .val (.int (1 : Int32)), .val (.double (own_Td (f + 1) l' n)), .second, .unset, .unset, .unset, .unset, .unset, .unset, .unset, .unset, .unset] [(.int (1 : Int32))])) _
      refine XS.ifNo X6.here hx rfl (hb hby at_113) rfl ((if0 _ _).trans (tlt (by decide)).2.2.2) ?_
      show Steps p.tables e below (T6.setTop (mkF m 116 #[.val (.int p0), .val (.int p1), .val (.int p2), .val (.int (Int32.ofNat f)), .val (.int (Int32.ofNat l')), .val (.int (Int32.ofNat n)), .val (.double (FP.i2d (Int32.ofNat n))), .second, .val (.double (own_Td f l' n)), .second, .val (.int (1 : Int32)), .val (.double (own_Td (f + 1) l' n)), .second, .unset, .unset, .unset, .unset, .unset, .unset, .unset, .unset, .unset] [])) _
      refine XS.iconst X6.here hx rfl (hb hby at_116) ?_
      show Steps p.tables e below (T6.setTop (mkF m 117 #[.val (.int p0), .val (.int p1), .val (.int p2), .val (.int (Int32.ofNat f)), .val (.int (Int32.ofNat l')), .val (.int (Int32.ofNat n)), .val (.double (FP.i2d (Int32.ofNat n))), .second, .val (.double (own_Td f l' n)), .second, .val (.int (1 : Int32)), .val (.double (own_Td (f + 1) l' n)), .second, .unset, .unset, .unset, .unset, .unset, .unset, .unset, .unset, .unset] [(.int (1 : Int32))])) _
      refine XS.goto X6.here hx rfl (pc0 := 117) (pc' := 121) rfl (hb hby at_117) (by decide) (by decide) ?_
      show Steps p.tables e below (T6.setTop (mkF m 121 #[.val (.int p0), .val (.int p1), .val (.int p2), .val (.int (Int32.ofNat f)), .val (.int (Int32.ofNat l')), .val (.int (Int32.ofNat n)), .val (.double (FP.i2d (Int32.ofNat n))), .second, .val (.double (own_Td f l' n)), .second, .val (.int (1 : Int32)), .val (.double (own_Td (f + 1) l' n)), .second, .unset, .unset, .unset, .unset, .unset, .unset, .unset, .unset, .unset] [(.int (1 : Int32))])) _
      refine XS.istore X6.here hx rfl (hb hby at_121) rfl (l' := #[.val (.int p0), .val (.int p1), .val (.int p2), .val (.int (Int32.ofNat f)), .val (.int (Int32.ofNat l')), .val (.int (Int32.ofNat n)), .val (.double (FP.i2d (Int32.ofNat n))), .second, .val (.double (own_Td f l' n)), .second, .val (.int (1 : Int32)), .val (.double (own_Td (f + 1) l' n)), .second, .unset, .unset, .unset, .unset, .unset, .unset, .unset, .unset, .unset]) rfl ?_
      show Steps p.tables e below (T6.setTop (mkF m 123 #[.val (.int p0), .val (.int p1), .val (.int p2), .val (.int (Int32.ofNat f)), .val (.int (Int32.ofNat l')), .val (.int (Int32.ofNat n)), .val (.double (FP.i2d (Int32.ofNat n))), .second, .val (.double (own_Td f l' n)), .second, .val (.int (1 : Int32)), .val (.double (own_Td (f + 1) l' n)), .second, .unset, .unset, .unset, .unset, .unset, .unset, .unset, .unset, .unset] [])) _
      refine XS.iloadN X6.here hx rfl (hb hby at_123) rfl ?_
      show Steps p.tables e below (T6.setTop (mkF m 124 #[.val (.int p0), .val (.int p1), .val (.int p2), .val (.int (Int32.ofNat f)), .val (.int (Int32.ofNat l')), .val (.int (Int32.ofNat n)), .val (.double (FP.i2d (Int32.ofNat n))), .second, .val (.double (own_Td f l' n)), .second, .val (.int (1 : Int32)), .val (.double (own_Td (f + 1) l' n)), .second, .unset, .unset, .unset, .unset, .unset, .unset, .unset, .unset, .unset] [(.int (Int32.ofNat f))])) _
      refine XS.iload X6.here hx rfl (hb hby at_124) rfl ?_
      show Steps p.tables e below (T6.setTop (mkF m 126 #[.val (.int p0), .val (.int p1), .val (.int p2), .val (.int (Int32.ofNat f)), .val (.int (Int32.ofNat l')), .val (.int (Int32.ofNat n)), .val (.double (FP.i2d (Int32.ofNat n))), .second, .val (.double (own_Td f l' n)), .second, .val (.int (1 : Int32)), .val (.double (own_Td (f + 1) l' n)), .second, .unset, .unset, .unset, .unset, .unset, .unset, .unset, .unset, .unset] [(.int (Int32.ofNat l')), (.int (Int32.ofNat f))])) _
      refine XS.iconst X6.here hx rfl (hb hby at_126) ?_
      show Steps p.tables e below (T6.setTop (mkF m 127 #[.val (.int p0), .val (.int p1), .val (.int p2), .val (.int (Int32.ofNat f)), .val (.int (Int32.ofNat l')), .val (.int (Int32.ofNat n)), .val (.double (FP.i2d (Int32.ofNat n))), .second, .val (.double (own_Td f l' n)), .second, .val (.int (1 : Int32)), .val (.double (own_Td (f + 1) l' n)), .second, .unset, .unset, .unset, .unset, .unset, .unset, .unset, .unset, .unset] [(.int (1 : Int32)), (.int (Int32.ofNat l')), (.int (Int32.ofNat f))])) _
      refine XS.iadd X6.here hx rfl (hb hby at_127) rfl ?_
      show Steps p.tables e below (T6.setTop (mkF m 128 #[.val (.int p0), .val (.int p1), .val (.int p2), .val (.int (Int32.ofNat f)), .val (.int (Int32.ofNat l')), .val (.int (Int32.ofNat n)), .val (.double (FP.i2d (Int32.ofNat n))), .second, .val (.double (own_Td f l' n)), .second, .val (.int (1 : Int32)), .val (.double (own_Td (f + 1) l' n)), .second, .unset, .unset, .unset, .unset, .unset, .unset, .unset, .unset, .unset] [(.int ((Int32.ofNat l') + (1 : Int32))), (.int (Int32.ofNat f))])) _
      refine st7 _ ?_
      show Steps p.tables e below (T6.setTop (mkF m 128 #[.val (.int p0), .val (.int p1), .val (.int p2), .val (.int (Int32.ofNat f)), .val (.int (Int32.ofNat l')), .val (.int (Int32.ofNat n)), .val (.double (FP.i2d (Int32.ofNat n))), .second, .val (.double (own_Td f l' n)), .second, .val (.int (1 : Int32)), .val (.double (own_Td (f + 1) l' n)), .second, .unset, .unset, .unset, .unset, .unset, .unset, .unset, .unset, .unset] [(.int (Int32.ofNat (l' + 1))), (.int (Int32.ofNat f))])) _
      refine XS.dload X6.here hx rfl (hb hby at_128) rfl ?_
      show Steps p.tables e below (T6.setTop (mkF m 130 #[.val (.int p0), .val (.int p1), .val (.int p2), .val (.int (Int32.ofNat f)), .val (.int (Int32.ofNat l')), .val (.int (Int32.ofNat n)), .val (.double (FP.i2d (Int32.ofNat n))), .second, .val (.double (own_Td f l' n)), .second, .val (.int (1 : Int32)), .val (.double (own_Td (f + 1) l' n)), .second, .unset, .unset, .unset, .unset, .unset, .unset, .unset, .unset, .unset] [(.double (FP.i2d (Int32.ofNat n))), (.int (Int32.ofNat (l' + 1))), (.int (Int32.ofNat f))])) _
      refine st8 _ ?_
      show Steps p.tables e below (T8.setTop (mkF m 133 #[.val (.int p0), .val (.int p1), .val (.int p2), .val (.int (Int32.ofNat f)), .val (.int (Int32.ofNat l')), .val (.int (Int32.ofNat n)), .val (.double (FP.i2d (Int32.ofNat n))), .second, .val (.double (own_Td f l' n)), .second, .val (.int (1 : Int32)), .val (.double (own_Td (f + 1) l' n)), .second, .unset, .unset, .unset, .unset, .unset, .unset, .unset, .unset, .unset] [(.double (own_Td f (l' + 1) n))])) _
      refine XS.dstore X8.here hx rfl (hb hby at_133) rfl (l' := #[.val (.int p0), .val (.int p1), .val (.int p2), .val (.int (Int32.ofNat f)), .val (.int (Int32.ofNat l')), .val (.int (Int32.ofNat n)), .val (.double (FP.i2d (Int32.ofNat n))), .second, .val (.double (own_Td f l' n)), .second, .val (.int (1 : Int32)), .val (.double (own_Td (f + 1) l' n)), .second, .val (.double (own_Td f (l' + 1) n)), .second, .unset, .unset, .unset, .unset, .unset, .unset, .unset]) rfl ?_
      show Steps p.tables e below (T8.setTop (mkF m 135 #[.val (.int p0), .val (.int p1), .val (.int p2), .val (.int (Int32.ofNat f)), .val (.int (Int32.ofNat l')), .val (.int (Int32.ofNat n)), .val (.double (FP.i2d (Int32.ofNat n))), .second, .val (.double (own_Td f l' n)), .second, .val (.int (1 : Int32)), .val (.double (own_Td (f + 1) l' n)), .second, .val (.double (own_Td f (l' + 1) n)), .second, .unset, .unset, .unset, .unset, .unset, .unset, .unset] [])) _
      refine XS.iloadN X8.here hx rfl (hb hby at_135) rfl ?_
      show Steps p.tables e below (T8.setTop (mkF m 136 #[.val (.int p0), .val (.int p1), .val (.int p2), .val (.int (Int32.ofNat f)), .val (.int (Int32.ofNat l')), .val (.int (Int32.ofNat n)), .val (.double (FP.i2d (Int32.ofNat n))), .second, .val (.double (own_Td f l' n)), .second, .val (.int (1 : Int32)), .val (.double (own_Td (f + 1) l' n)), .second, .val (.double (own_Td f (l' + 1) n)), .second, .unset, .unset, .unset, .unset, .unset, .unset, .unset] [(.int (Int32.ofNat f))])) _
      refine XS.ifYes X8.here hx rfl (pc0 := 136) (pc' := 162) rfl (hb hby at_136) rfl ((if0 _ _).trans (flt (by rw [hf0]; decide)).2.2.2) (by decide) (by decide) ?_
      show Steps p.tables e below (T8.setTop (mkF m 162 #[.val (.int p0), .val (.int p1), .val (.int p2), .val (.int (Int32.ofNat f)), .val (.int (Int32.ofNat l')), .val (.int (Int32.ofNat n)), .val (.double (FP.i2d (Int32.ofNat n))), .second, .val (.double (own_Td f l' n)), .second, .val (.int (1 : Int32)), .val (.double (own_Td (f + 1) l' n)), .second, .val (.double (own_Td f (l' + 1) n)), .second, .unset, .unset, .unset, .unset, .unset, .unset, .unset] [])) _
      refine XS.iload X8.here hx rfl (hb hby at_162) rfl ?_
      show Steps p.tables e below (T8.setTop (mkF m 164 #[.val (.int p0), .val (.int p1), .val (.int p2), .val (.int (Int32.ofNat f)), .val (.int (Int32.ofNat l')), .val (.int (Int32.ofNat n)), .val (.double (FP.i2d (Int32.ofNat n))), .second, .val (.double (own_Td f l' n)), .second, .val (.int (1 : Int32)), .val (.double (own_Td (f + 1) l' n)), .second, .val (.double (own_Td f (l' + 1) n)), .second, .unset, .unset, .unset, .unset, .unset, .unset, .unset] [(.int (1 : Int32))])) _
      refine XS.ifNo X8.here hx rfl (hb hby at_164) rfl ((if0 _ _).trans (feq (by decide)).1) ?_
      show Steps p.tables e below (T8.setTop (mkF m 167 #[.val (.int p0), .val (.int p1), .val (.int p2), .val (.int (Int32.ofNat f)), .val (.int (Int32.ofNat l')), .val (.int (Int32.ofNat n)), .val (.double (FP.i2d (Int32.ofNat n))), .second, .val (.double (own_Td f l' n)), .second, .val (.int (1 : Int32)), .val (.double (own_Td (f + 1) l' n)), .second, .val (.double (own_Td f (l' + 1) n)), .second, .unset, .unset, .unset, .unset, .unset, .unset, .unset] [])) _
      refine XS.dload X8.here hx rfl (hb hby at_167) rfl ?_
      show Steps p.tables e below (T8.setTop (mkF m 169 #[.val (.int p0), .val (.int p1), .val (.int p2), .val (.int (Int32.ofNat f)), .val (.int (Int32.ofNat l')), .val (.int (Int32.ofNat n)), .val (.double (FP.i2d (Int32.ofNat n))), .second, .val (.double (own_Td f l' n)), .second, .val (.int (1 : Int32)), .val (.double (own_Td (f + 1) l' n)), .second, .val (.double (own_Td f (l' + 1) n)), .second, .unset, .unset, .unset, .unset, .unset, .unset, .unset] [(.double (own_Td f (l' + 1) n))])) _
      refine XS.dconst0 X8.here hx rfl (v := 0) (hb hby at_169) (by decide +kernel) ?_
      show Steps p.tables e below (T8.setTop (mkF m 170 #[.val (.int p0), .val (.int p1), .val (.int p2), .val (.int (Int32.ofNat f)), .val (.int (Int32.ofNat l')), .val (.int (Int32.ofNat n)), .val (.double (FP.i2d (Int32.ofNat n))), .second, .val (.double (own_Td f l' n)), .second, .val (.int (1 : Int32)), .val (.double (own_Td (f + 1) l' n)), .second, .val (.double (own_Td f (l' + 1) n)), .second, .unset, .unset, .unset, .unset, .unset, .unset, .unset] [(.double (0 : UInt64)), (.double (own_Td f (l' + 1) n))])) _
      refine XS.dcmpS X8.here hx rfl (v := (0 : Int32)) (hb hby at_170) rfl (by rw [T0 l2 hn0 n1, z00]; rfl) ?_
      show Steps p.tables e below (T8.setTop (mkF m 171 #[.val (.int p0), .val (.int p1), .val (.int p2), .val (.int (Int32.ofNat f)), .val (.int (Int32.ofNat l')), .val (.int (Int32.ofNat n)), .val (.double (FP.i2d (Int32.ofNat n))), .second, .val (.double (own_Td f l' n)), .second, .val (.int (1 : Int32)), .val (.double (own_Td (f + 1) l' n)), .second, .val (.double (own_Td f (l' + 1) n)), .second, .unset, .unset, .unset, .unset, .unset, .unset, .unset] [(.int (0 : Int32))])) _
      refine XS.ifNo X8.here hx rfl (hb hby at_171) rfl ((if0 _ _).trans (teq (by decide)).2) ?_
      show Steps p.tables e below (T8.setTop (mkF m 174 #[.val (.int p0), .val (.int p1), .val (.int p2), .val (.int (Int32.ofNat f)), .val (.int (Int32.ofNat l')), .val (.int (Int32.ofNat n)), .val (.double (FP.i2d (Int32.ofNat n))), .second, .val (.double (own_Td f l' n)), .second, .val (.int (1 : Int32)), .val (.double (own_Td (f + 1) l' n)), .second, .val (.double (own_Td f (l' + 1) n)), .second, .unset, .unset, .unset, .unset, .unset, .unset, .unset] [])) _
      refine XS.iconst X8.here hx rfl (hb hby at_174) ?_
      show Steps p.tables e below (T8.setTop (mkF m 175 #[.val (.int p0), .val (.int p1), .val (.int p2), .val (.int (Int32.ofNat f)), .val (.int (Int32.ofNat l')), .val (.int (Int32.ofNat n)), .val (.double (FP.i2d (Int32.ofNat n))), .second, .val (.double (own_Td f l' n)), .second, .val (.int (1 : Int32)), .val (.double (own_Td (f + 1) l' n)), .second, .val (.double (own_Td f (l' + 1) n)), .second, .unset, .unset, .unset, .unset, .unset, .unset, .unset] [(.int (1 : Int32))])) _
      refine XS.goto X8.here hx rfl (pc0 := 175) (pc' := 179) rfl (hb hby at_175) (by decide) (by decide) ?_
      show Steps p.tables e below (T8.setTop (mkF m 179 #[.val (.int p0), .val (.int p1), .val (.int p2), .val (.int (Int32.ofNat f)), .val (.int (Int32.ofNat l')), .val (.int (Int32.ofNat n)), .val (.double (FP.i2d (Int32.ofNat n))), .second, .val (.double (own_Td f l' n)), .second, .val (.int (1 : Int32)), .val (.double (own_Td (f + 1) l' n)), .second, .val (.double (own_Td f (l' + 1) n)), .second, .unset, .unset, .unset, .unset, .unset, .unset, .unset] [(.int (1 : Int32))])) _
      refine XS.istore X8.here hx rfl (hb hby at_179) rfl (l' := #[.val (.int p0), .val (.int p1), .val (.int p2), .val (.int (Int32.ofNat f)), .val (.int (Int32.ofNat l')), .val (.int (Int32.ofNat n)), .val (.double (FP.i2d (Int32.ofNat n))), .second, .val (.double (own_Td f l' n)), .second, .val (.int (1 : Int32)), .val (.double (own_Td (f + 1) l' n)), .second, .val (.double (own_Td f (l' + 1) n)), .second, .unset, .unset, .unset, .unset, .unset, .unset, .unset]) rfl ?_
      show Steps p.tables e below (T8.setTop (mkF m 181 #[.val (.int p0), .val (.int p1), .val (.int p2), .val (.int (Int32.ofNat f)), .val (.int (Int32.ofNat l')), .val (.int (Int32.ofNat n)), .val (.double (FP.i2d (Int32.ofNat n))), .second, .val (.double (own_Td f l' n)), .second, .val (.int (1 : Int32)), .val (.double (own_Td (f + 1) l' n)), .second, .val (.double (own_Td f (l' + 1) n)), .second, .unset, .unset, .unset, .unset, .unset, .unset, .unset] [])) _
      refine XS.iloadN X8.here hx rfl (hb hby at_181) rfl ?_
      show Steps p.tables e below (T8.setTop (mkF m 182 #[.val (.int p0), .val (.int p1), .val (.int p2), .val (.int (Int32.ofNat f)), .val (.int (Int32.ofNat l')), .val (.int (Int32.ofNat n)), .val (.double (FP.i2d (Int32.ofNat n))), .second, .val (.double (own_Td f l' n)), .second, .val (.int (1 : Int32)), .val (.double (own_Td (f + 1) l' n)), .second, .val (.double (own_Td f (l' + 1) n)), .second, .unset, .unset, .unset, .unset, .unset, .unset, .unset] [(.int (Int32.ofNat f))])) _
      refine XS.iload X8.here hx rfl (hb hby at_182) rfl ?_
      show Steps p.tables e below (T8.setTop (mkF m 184 #[.val (.int p0), .val (.int p1), .val (.int p2), .val (.int (Int32.ofNat f)), .val (.int (Int32.ofNat l')), .val (.int (Int32.ofNat n)), .val (.double (FP.i2d (Int32.ofNat n))), .second, .val (.double (own_Td f l' n)), .second, .val (.int (1 : Int32)), .val (.double (own_Td (f + 1) l' n)), .second, .val (.double (own_Td f (l' + 1) n)), .second, .unset, .unset, .unset, .unset, .unset, .unset, .unset] [(.int (Int32.ofNat l')), (.int (Int32.ofNat f))])) _
      refine XS.iload X8.here hx rfl (hb hby at_184) rfl ?_
      show Steps p.tables e below (T8.setTop (mkF m 186 #[.val (.int p0), .val (.int p1), .val (.int p2), .val (.int (Int32.ofNat f)), .val (.int (Int32.ofNat l')), .val (.int (Int32.ofNat n)), .val (.double (FP.i2d (Int32.ofNat n))), .second, .val (.double (own_Td f l' n)), .second, .val (.int (1 : Int32)), .val (.double (own_Td (f + 1) l' n)), .second, .val (.double (own_Td f (l' + 1) n)), .second, .unset, .unset, .unset, .unset, .unset, .unset, .unset] [(.int (Int32.ofNat n)), (.int (Int32.ofNat l')), (.int (Int32.ofNat f))])) _
      refine XS.iconst X8.here hx rfl (hb hby at_186) ?_
      show Steps p.tables e below (T8.setTop (mkF m 187 #[.val (.int p0), .val (.int p1), .val (.int p2), .val (.int (Int32.ofNat f)), .val (.int (Int32.ofNat l')), .val (.int (Int32.ofNat n)), .val (.double (FP.i2d (Int32.ofNat n))), .second, .val (.double (own_Td f l' n)), .second, .val (.int (1 : Int32)), .val (.double (own_Td (f + 1) l' n)), .second, .val (.double (own_Td f (l' + 1) n)), .second, .unset, .unset, .unset, .unset, .unset, .unset, .unset] [(.int (1 : Int32)), (.int (Int32.ofNat n)), (.int (Int32.ofNat l')), (.int (Int32.ofNat f))])) _
      refine XS.iadd X8.here hx rfl (hb hby at_187) rfl ?_
      show Steps p.tables e below (T8.setTop (mkF m 188 #[.val (.int p0), .val (.int p1), .val (.int p2), .val (.int (Int32.ofNat f)), .val (.int (Int32.ofNat l')), .val (.int (Int32.ofNat n)), .val (.double (FP.i2d (Int32.ofNat n))), .second, .val (.double (own_Td f l' n)), .second, .val (.int (1 : Int32)), .val (.double (own_Td (f + 1) l' n)), .second, .val (.double (own_Td f (l' + 1) n)), .second, .unset, .unset, .unset, .unset, .unset, .unset, .unset] [(.int ((Int32.ofNat n) + (1 : Int32))), (.int (Int32.ofNat l')), (.int (Int32.ofNat f))])) _
      refine st9 _ ?_
      show Steps p.tables e below (T8.setTop (mkF m 188 #[.val (.int p0), .val (.int p1), .val (.int p2), .val (.int (Int32.ofNat f)), .val (.int (Int32.ofNat l')), .val (.int (Int32.ofNat n)), .val (.double (FP.i2d (Int32.ofNat n))), .second, .val (.double (own_Td f l' n)), .second, .val (.int (1 : Int32)), .val (.double (own_Td (f + 1) l' n)), .second, .val (.double (own_Td f (l' + 1) n)), .second, .unset, .unset, .unset, .unset, .unset, .unset, .unset] [(.int (Int32.ofNat (n + 1))), (.int (Int32.ofNat l')), (.int (Int32.ofNat f))])) _
      refine XS.i2dS X8.here hx rfl (hb hby at_188) rfl rfl ?_
      show Steps p.tables e below (T8.setTop (mkF m 189 #[.val (.int p0), .val (.int p1), .val (.int p2), .val (.int (Int32.ofNat f)), .val (.int (Int32.ofNat l')), .val (.int (Int32.ofNat n)), .val (.double (FP.i2d (Int32.ofNat n))), .second, .val (.double (own_Td f l' n)), .second, .val (.int (1 : Int32)), .val (.double (own_Td (f + 1) l' n)), .second, .val (.double (own_Td f (l' + 1) n)), .second, .unset, .unset, .unset, .unset, .unset, .unset, .unset] [(.double (FP.i2d (Int32.ofNat (n + 1)))), (.int (Int32.ofNat l')), (.int (Int32.ofNat f))])) _
      refine st10 _ ?_
      show Steps p.tables e below (T10.setTop (mkF m 192 #[.val (.int p0), .val (.int p1), .val (.int p2), .val (.int (Int32.ofNat f)), .val (.int (Int32.ofNat l')), .val (.int (Int32.ofNat n)), .val (.double (FP.i2d (Int32.ofNat n))), .second, .val (.double (own_Td f l' n)), .second, .val (.int (1 : Int32)), .val (.double (own_Td (f + 1) l' n)), .second, .val (.double (own_Td f (l' + 1) n)), .second, .unset, .unset, .unset, .unset, .unset, .unset, .unset] [(.double (own_Td f l' (n + 1)))])) _
      refine XS.dstore X10.here hx rfl (hb hby at_192) rfl (l' := #[.val (.int p0), .val (.int p1), .val (.int p2), .val (.int (Int32.ofNat f)), .val (.int (Int32.ofNat l')), .val (.int (Int32.ofNat n)), .val (.double (FP.i2d (Int32.ofNat n))), .second, .val (.double (own_Td f l' n)), .second, .val (.int (1 : Int32)), .val (.double (own_Td (f + 1) l' n)), .second, .val (.double (own_Td f (l' + 1) n)), .second, .val (.double (own_Td f l' (n + 1))), .second, .unset, .unset, .unset, .unset, .unset]) rfl ?_
      show Steps p.tables e below (T10.setTop (mkF m 194 #[.val (.int p0), .val (.int p1), .val (.int p2), .val (.int (Int32.ofNat f)), .val (.int (Int32.ofNat l')), .val (.int (Int32.ofNat n)), .val (.double (FP.i2d (Int32.ofNat n))), .second, .val (.double (own_Td f l' n)), .second, .val (.int (1 : Int32)), .val (.double (own_Td (f + 1) l' n)), .second, .val (.double (own_Td f (l' + 1) n)), .second, .val (.double (own_Td f l' (n + 1))), .second, .unset, .unset, .unset, .unset, .unset] [])) _
      refine XS.iloadN X10.here hx rfl (hb hby at_194) rfl ?_
      show Steps p.tables e below (T10.setTop (mkF m 195 #[.val (.int p0), .val (.int p1), .val (.int p2), .val (.int (Int32.ofNat f)), .val (.int (Int32.ofNat l')), .val (.int (Int32.ofNat n)), .val (.double (FP.i2d (Int32.ofNat n))), .second, .val (.double (own_Td f l' n)), .second, .val (.int (1 : Int32)), .val (.double (own_Td (f + 1) l' n)), .second, .val (.double (own_Td f (l' + 1) n)), .second, .val (.double (own_Td f l' (n + 1))), .second, .unset, .unset, .unset, .unset, .unset] [(.int (Int32.ofNat f))])) _
      refine XS.ifYes X10.here hx rfl (pc0 := 195) (pc' := 226) rfl (hb hby at_195) rfl ((if0 _ _).trans (flt (by rw [hf0]; decide)).2.2.2) (by decide) (by decide) ?_
      show Steps p.tables e below (T10.setTop (mkF m 226 #[.val (.int p0), .val (.int p1), .val (.int p2), .val (.int (Int32.ofNat f)), .val (.int (Int32.ofNat l')), .val (.int (Int32.ofNat n)), .val (.double (FP.i2d (Int32.ofNat n))), .second, .val (.double (own_Td f l' n)), .second, .val (.int (1 : Int32)), .val (.double (own_Td (f + 1) l' n)), .second, .val (.double (own_Td f (l' + 1) n)), .second, .val (.double (own_Td f l' (n + 1))), .second, .unset, .unset, .unset, .unset, .unset] [])) _
      refine XS.iloadN X10.here hx rfl (hb hby at_226) rfl ?_
      show Steps p.tables e below (T10.setTop (mkF m 227 #[.val (.int p0), .val (.int p1), .val (.int p2), .val (.int (Int32.ofNat f)), .val (.int (Int32.ofNat l')), .val (.int (Int32.ofNat n)), .val (.double (FP.i2d (Int32.ofNat n))), .second, .val (.double (own_Td f l' n)), .second, .val (.int (1 : Int32)), .val (.double (own_Td (f + 1) l' n)), .second, .val (.double (own_Td f (l' + 1) n)), .second, .val (.double (own_Td f l' (n + 1))), .second, .unset, .unset, .unset, .unset, .unset] [(.int (Int32.ofNat f))])) _
      refine XS.ifNo X10.here hx rfl (hb hby at_227) rfl ((if0 _ _).trans (teq (by rw [hf0]; rfl)).2) ?_
      show Steps p.tables e below (T10.setTop (mkF m 230 #[.val (.int p0), .val (.int p1), .val (.int p2), .val (.int (Int32.ofNat f)), .val (.int (Int32.ofNat l')), .val (.int (Int32.ofNat n)), .val (.double (FP.i2d (Int32.ofNat n))), .second, .val (.double (own_Td f l' n)), .second, .val (.int (1 : Int32)), .val (.double (own_Td (f + 1) l' n)), .second, .val (.double (own_Td f (l' + 1) n)), .second, .val (.double (own_Td f l' (n + 1))), .second, .unset, .unset, .unset, .unset, .unset] [])) _
      refine XS.iload X10.here hx rfl (hb hby at_230) rfl ?_
      show Steps p.tables e below (T10.setTop (mkF m 232 #[.val (.int p0), .val (.int p1), .val (.int p2), .val (.int (Int32.ofNat f)), .val (.int (Int32.ofNat l')), .val (.int (Int32.ofNat n)), .val (.double (FP.i2d (Int32.ofNat n))), .second, .val (.double (own_Td f l' n)), .second, .val (.int (1 : Int32)), .val (.double (own_Td (f + 1) l' n)), .second, .val (.double (own_Td f (l' + 1) n)), .second, .val (.double (own_Td f l' (n + 1))), .second, .unset, .unset, .unset, .unset, .unset] [(.int (1 : Int32))])) _
      refine XS.ifNo X10.here hx rfl (hb hby at_232) rfl ((if0 _ _).trans (feq (by decide)).1) ?_
      show Steps p.tables e below (T10.setTop (mkF m 235 #[.val (.int p0), .val (.int p1), .val (.int p2), .val (.int (Int32.ofNat f)), .val (.int (Int32.ofNat l')), .val (.int (Int32.ofNat n)), .val (.double (FP.i2d (Int32.ofNat n))), .second, .val (.double (own_Td f l' n)), .second, .val (.int (1 : Int32)), .val (.double (own_Td (f + 1) l' n)), .second, .val (.double (own_Td f (l' + 1) n)), .second, .val (.double (own_Td f l' (n + 1))), .second, .unset, .unset, .unset, .unset, .unset] [])) _
      refine XS.dload X10.here hx rfl (hb hby at_235) rfl ?_
      show Steps p.tables e below (T10.setTop (mkF m 237 #[.val (.int p0), .val (.int p1), .val (.int p2), .val (.int (Int32.ofNat f)), .val (.int (Int32.ofNat l')), .val (.int (Int32.ofNat n)), .val (.double (FP.i2d (Int32.ofNat n))), .second, .val (.double (own_Td f l' n)), .second, .val (.int (1 : Int32)), .val (.double (own_Td (f + 1) l' n)), .second, .val (.double (own_Td f (l' + 1) n)), .second, .val (.double (own_Td f l' (n + 1))), .second, .unset, .unset, .unset, .unset, .unset] [(.double (own_Td f l' (n + 1)))])) _
      refine XS.dconst0 X10.here hx rfl (v := 0) (hb hby at_237) (by decide +kernel) ?_
      show Steps p.tables e below (T10.setTop (mkF m 238 #[.val (.int p0), .val (.int p1), .val (.int p2), .val (.int (Int32.ofNat f)), .val (.int (Int32.ofNat l')), .val (.int (Int32.ofNat n)), .val (.double (FP.i2d (Int32.ofNat n))), .second, .val (.double (own_Td f l' n)), .second, .val (.int (1 : Int32)), .val (.double (own_Td (f + 1) l' n)), .second, .val (.double (own_Td f (l' + 1) n)), .second, .val (.double (own_Td f l' (n + 1))), .second, .unset, .unset, .unset, .unset, .unset] [(.double (0 : UInt64)), (.double (own_Td f l' (n + 1)))])) _
      refine XS.dcmpS X10.here hx rfl (v := (0 : Int32)) (hb hby at_238) rfl (by rw [T0 l1 n2 n3, z00]; rfl) ?_
      show Steps p.tables e below (T10.setTop (mkF m 239 #[.val (.int p0), .val (.int p1), .val (.int p2), .val (.int (Int32.ofNat f)), .val (.int (Int32.ofNat l')), .val (.int (Int32.ofNat n)), .val (.double (FP.i2d (Int32.ofNat n))), .second, .val (.double (own_Td f l' n)), .second, .val (.int (1 : Int32)), .val (.double (own_Td (f + 1) l' n)), .second, .val (.double (own_Td f (l' + 1) n)), .second, .val (.double (own_Td f l' (n + 1))), .second, .unset, .unset, .unset, .unset, .unset] [(.int (0 : Int32))])) _
      refine XS.ifNo X10.here hx rfl (hb hby at_239) rfl ((if0 _ _).trans (teq (by decide)).2) ?_
      show Steps p.tables e below (T10.setTop (mkF m 242 #[.val (.int p0), .val (.int p1), .val (.int p2), .val (.int (Int32.ofNat f)), .val (.int (Int32.ofNat l')), .val (.int (Int32.ofNat n)), .val (.double (FP.i2d (Int32.ofNat n))), .second, .val (.double (own_Td f l' n)), .second, .val (.int (1 : Int32)), .val (.double (own_Td (f + 1) l' n)), .second, .val (.double (own_Td f (l' + 1) n)), .second, .val (.double (own_Td f l' (n + 1))), .second, .unset, .unset, .unset, .unset, .unset] [])) _
      refine XS.iconst X10.here hx rfl (hb hby at_242) ?_
      show Steps p.tables e below (T10.setTop (mkF m 243 #[.val (.int p0), .val (.int p1), .val (.int p2), .val (.int (Int32.ofNat f)), .val (.int (Int32.ofNat l')), .val (.int (Int32.ofNat n)), .val (.double (FP.i2d (Int32.ofNat n))), .second, .val (.double (own_Td f l' n)), .second, .val (.int (1 : Int32)), .val (.double (own_Td (f + 1) l' n)), .second, .val (.double (own_Td f (l' + 1) n)), .second, .val (.double (own_Td f l' (n + 1))), .second, .unset, .unset, .unset, .unset, .unset] [(.int (1 : Int32))])) _
      refine XS.goto X10.here hx rfl (pc0 := 243) (pc' := 247) rfl (hb hby at_243) (by decide) (by decide) ?_
      show Steps p.tables e below (T10.setTop (mkF m 247 #[.val (.int p0), .val (.int p1), .val (.int p2), .val (.int (Int32.ofNat f)), .val (.int (Int32.ofNat l')), .val (.int (Int32.ofNat n)), .val (.double (FP.i2d (Int32.ofNat n))), .second, .val (.double (own_Td f l' n)), .second, .val (.int (1 : Int32)), .val (.double (own_Td (f + 1) l' n)), .second, .val (.double (own_Td f (l' + 1) n)), .second, .val (.double (own_Td f l' (n + 1))), .second, .unset, .unset, .unset, .unset, .unset] [(.int (1 : Int32))])) _
      refine XS.istore X10.here hx rfl (hb hby at_247) rfl (l' := #[.val (.int p0), .val (.int p1), .val (.int p2), .val (.int (Int32.ofNat f)), .val (.int (Int32.ofNat l')), .val (.int (Int32.ofNat n)), .val (.double (FP.i2d (Int32.ofNat n))), .second, .val (.double (own_Td f l' n)), .second, .val (.int (1 : Int32)), .val (.double (own_Td (f + 1) l' n)), .second, .val (.double (own_Td f (l' + 1) n)), .second, .val (.double (own_Td f l' (n + 1))), .second, .unset, .unset, .unset, .unset, .unset]) rfl ?_
      show Steps p.tables e below (T10.setTop (mkF m 249 #[.val (.int p0), .val (.int p1), .val (.int p2), .val (.int (Int32.ofNat f)), .val (.int (Int32.ofNat l')), .val (.int (Int32.ofNat n)), .val (.double (FP.i2d (Int32.ofNat n))), .second, .val (.double (own_Td f l' n)), .second, .val (.int (1 : Int32)), .val (.double (own_Td (f + 1) l' n)), .second, .val (.double (own_Td f (l' + 1) n)), .second, .val (.double (own_Td f l' (n + 1))), .second, .unset, .unset, .unset, .unset, .unset] [])) _
      refine XS.goto X10.here hx rfl (pc0 := 249) (pc' := 272) rfl (hb hby at_249) (by decide) (by decide) ?_
      show Steps p.tables e below (T10.setTop (mkF m 272 #[.val (.int p0), .val (.int p1), .val (.int p2), .val (.int (Int32.ofNat f)), .val (.int (Int32.ofNat l')), .val (.int (Int32.ofNat n)), .val (.double (FP.i2d (Int32.ofNat n))), .second, .val (.double (own_Td f l' n)), .second, .val (.int (1 : Int32)), .val (.double (own_Td (f + 1) l' n)), .second, .val (.double (own_Td f (l' + 1) n)), .second, .val (.double (own_Td f l' (n + 1))), .second, .unset, .unset, .unset, .unset, .unset] [])) _
      refine XS.iload X10.here hx rfl (hb hby at_272) rfl ?_
      show Steps p.tables e below (T10.setTop (mkF m 274 #[.val (.int p0), .val (.int p1), .val (.int p2), .val (.int (Int32.ofNat f)), .val (.int (Int32.ofNat l')), .val (.int (Int32.ofNat n)), .val (.double (FP.i2d (Int32.ofNat n))), .second, .val (.double (own_Td f l' n)), .second, .val (.int (1 : Int32)), .val (.double (own_Td (f + 1) l' n)), .second, .val (.double (own_Td f (l' + 1) n)), .second, .val (.double (own_Td f l' (n + 1))), .second, .unset, .unset, .unset, .unset, .unset] [(.int (Int32.ofNat l'))])) _
      refine XS.iconst X10.here hx rfl (hb hby at_274) ?_
      show Steps p.tables e below (T10.setTop (mkF m 275 #[.val (.int p0), .val (.int p1), .val (.int p2), .val (.int (Int32.ofNat f)), .val (.int (Int32.ofNat l')), .val (.int (Int32.ofNat n)), .val (.double (FP.i2d (Int32.ofNat n))), .second, .val (.double (own_Td f l' n)), .second, .val (.int (1 : Int32)), .val (.double (own_Td (f + 1) l' n)), .second, .val (.double (own_Td f (l' + 1) n)), .second, .val (.double (own_Td f l' (n + 1))), .second, .unset, .unset, .unset, .unset, .unset] [(.int (1 : Int32)), (.int (Int32.ofNat l'))])) _
      refine XS.iadd X10.here hx rfl (hb hby at_275) rfl ?_
      show Steps p.tables e below (T10.setTop (mkF m 276 #[.val (.int p0), .val (.int p1), .val (.int p2), .val (.int (Int32.ofNat f)), .val (.int (Int32.ofNat l')), .val (.int (Int32.ofNat n)), .val (.double (FP.i2d (Int32.ofNat n))), .second, .val (.double (own_Td f l' n)), .second, .val (.int (1 : Int32)), .val (.double (own_Td (f + 1) l' n)), .second, .val (.double (own_Td f (l' + 1) n)), .second, .val (.double (own_Td f l' (n + 1))), .second, .unset, .unset, .unset, .unset, .unset] [(.int ((Int32.ofNat l') + (1 : Int32)))])) _
      refine st11 _ ?_
      show Steps p.tables e below (T10.setTop (mkF m 276 #[.val (.int p0), .val (.int p1), .val (.int p2), .val (.int (Int32.ofNat f)), .val (.int (Int32.ofNat l')), .val (.int (Int32.ofNat n)), .val (.double (FP.i2d (Int32.ofNat n))), .second, .val (.double (own_Td f l' n)), .second, .val (.int (1 : Int32)), .val (.double (own_Td (f + 1) l' n)), .second, .val (.double (own_Td f (l' + 1) n)), .second, .val (.double (own_Td f l' (n + 1))), .second, .unset, .unset, .unset, .unset, .unset] [(.int (Int32.ofNat (l' + 1)))])) _
      refine XS.istore X10.here hx rfl (hb hby at_276) rfl (l' := #[.val (.int p0), .val (.int p1), .val (.int p2), .val (.int (Int32.ofNat f)), .val (.int (Int32.ofNat l')), .val (.int (Int32.ofNat n)), .val (.double (FP.i2d (Int32.ofNat n))), .second, .val (.double (own_Td f l' n)), .second, .val (.int (1 : Int32)), .val (.double (own_Td (f + 1) l' n)), .second, .val (.double (own_Td f (l' + 1) n)), .second, .val (.double (own_Td f l' (n + 1))), .second, .val (.int (Int32.ofNat (l' + 1))), .unset, .unset, .unset, .unset]) rfl ?_
      show Steps p.tables e below (T10.setTop (mkF m 278 #[.val (.int p0), .val (.int p1), .val (.int p2), .val (.int (Int32.ofNat f)), .val (.int (Int32.ofNat l')), .val (.int (Int32.ofNat n)), .val (.double (FP.i2d (Int32.ofNat n))), .second, .val (.double (own_Td f l' n)), .second, .val (.int (1 : Int32)), .val (.double (own_Td (f + 1) l' n)), .second, .val (.double (own_Td f (l' + 1) n)), .second, .val (.double (own_Td f l' (n + 1))), .second, .val (.int (Int32.ofNat (l' + 1))), .unset, .unset, .unset, .unset] [])) _
      refine XS.iloadN X10.here hx rfl (hb hby at_278) rfl ?_
      show Steps p.tables e below (T10.setTop (mkF m 279 #[.val (.int p0), .val (.int p1), .val (.int p2), .val (.int (Int32.ofNat f)), .val (.int (Int32.ofNat l')), .val (.int (Int32.ofNat n)), .val (.double (FP.i2d (Int32.ofNat n))), .second, .val (.double (own_Td f l' n)), .second, .val (.int (1 : Int32)), .val (.double (own_Td (f + 1) l' n)), .second, .val (.double (own_Td f (l' + 1) n)), .second, .val (.double (own_Td f l' (n + 1))), .second, .val (.int (Int32.ofNat (l' + 1))), .unset, .unset, .unset, .unset] [(.int (Int32.ofNat f))])) _
      refine XS.iload X10.here hx rfl (hb hby at_279) rfl ?_
      show Steps p.tables e below (T10.setTop (mkF m 281 #[.val (.int p0), .val (.int p1), .val (.int p2), .val (.int (Int32.ofNat f)), .val (.int (Int32.ofNat l')), .val (.int (Int32.ofNat n)), .val (.double (FP.i2d (Int32.ofNat n))), .second, .val (.double (own_Td f l' n)), .second, .val (.int (1 : Int32)), .val (.double (own_Td (f + 1) l' n)), .second, .val (.double (own_Td f (l' + 1) n)), .second, .val (.double (own_Td f l' (n + 1))), .second, .val (.int (Int32.ofNat (l' + 1))), .unset, .unset, .unset, .unset] [(.int (Int32.ofNat (l' + 1))), (.int (Int32.ofNat f))])) _
      refine XS.iload X10.here hx rfl (hb hby at_281) rfl ?_
      show Steps p.tables e below (T10.setTop (mkF m 283 #[.val (.int p0), .val (.int p1), .val (.int p2), .val (.int (Int32.ofNat f)), .val (.int (Int32.ofNat l')), .val (.int (Int32.ofNat n)), .val (.double (FP.i2d (Int32.ofNat n))), .second, .val (.double (own_Td f l' n)), .second, .val (.int (1 : Int32)), .val (.double (own_Td (f + 1) l' n)), .second, .val (.double (own_Td f (l' + 1) n)), .second, .val (.double (own_Td f l' (n + 1))), .second, .val (.int (Int32.ofNat (l' + 1))), .unset, .unset, .unset, .unset] [(.int (Int32.ofNat (l' + 1))), (.int (Int32.ofNat (l' + 1))), (.int (Int32.ofNat f))])) _
      refine XS.i2dS X10.here hx rfl (hb hby at_283) rfl rfl ?_
      show Steps p.tables e below (T10.setTop (mkF m 284 #[.val (.int p0), .val (.int p1), .val (.int p2), .val (.int (Int32.ofNat f)), .val (.int (Int32.ofNat l')), .val (.int (Int32.ofNat n)), .val (.double (FP.i2d (Int32.ofNat n))), .second, .val (.double (own_Td f l' n)), .second, .val (.int (1 : Int32)), .val (.double (own_Td (f + 1) l' n)), .second, .val (.double (own_Td f (l' + 1) n)), .second, .val (.double (own_Td f l' (n + 1))), .second, .val (.int (Int32.ofNat (l' + 1))), .unset, .unset, .unset, .unset] [(.double (FP.i2d (Int32.ofNat (l' + 1)))), (.int (Int32.ofNat (l' + 1))), (.int (Int32.ofNat f))])) _
      refine st12 _ ?_
      show Steps p.tables e below (T12.setTop (mkF m 287 #[.val (.int p0), .val (.int p1), .val (.int p2), .val (.int (Int32.ofNat f)), .val (.int (Int32.ofNat l')), .val (.int (Int32.ofNat n)), .val (.double (FP.i2d (Int32.ofNat n))), .second, .val (.double (own_Td f l' n)), .second, .val (.int (1 : Int32)), .val (.double (own_Td (f + 1) l' n)), .second, .val (.double (own_Td f (l' + 1) n)), .second, .val (.double (own_Td f l' (n + 1))), .second, .val (.int (Int32.ofNat (l' + 1))), .unset, .unset, .unset, .unset] [(.double (own_Td f (l' + 1) (l' + 1)))])) _
      refine XS.dstore X12.here hx rfl (hb hby at_287) rfl (l' := #[.val (.int p0), .val (.int p1), .val (.int p2), .val (.int (Int32.ofNat f)), .val (.int (Int32.ofNat l')), .val (.int (Int32.ofNat n)), .val (.double (FP.i2d (Int32.ofNat n))), .second, .val (.double (own_Td f l' n)), .second, .val (.int (1 : Int32)), .val (.double (own_Td (f + 1) l' n)), .second, .val (.double (own_Td f (l' + 1) n)), .second, .val (.double (own_Td f l' (n + 1))), .second, .val (.int (Int32.ofNat (l' + 1))), .val (.double (own_Td f (l' + 1) (l' + 1))), .second, .unset, .unset]) rfl ?_
      show Steps p.tables e below (T12.setTop (mkF m 289 #[.val (.int p0), .val (.int p1), .val (.int p2), .val (.int (Int32.ofNat f)), .val (.int (Int32.ofNat l')), .val (.int (Int32.ofNat n)), .val (.double (FP.i2d (Int32.ofNat n))), .second, .val (.double (own_Td f l' n)), .second, .val (.int (1 : Int32)), .val (.double (own_Td (f + 1) l' n)), .second, .val (.double (own_Td f (l' + 1) n)), .second, .val (.double (own_Td f l' (n + 1))), .second, .val (.int (Int32.ofNat (l' + 1))), .val (.double (own_Td f (l' + 1) (l' + 1))), .second, .unset, .unset] [])) _
      refine XS.iload X12.here hx rfl (hb hby at_289) rfl ?_
      show Steps p.tables e below (T12.setTop (mkF m 291 #[.val (.int p0), .val (.int p1), .val (.int p2), .val (.int (Int32.ofNat f)), .val (.int (Int32.ofNat l')), .val (.int (Int32.ofNat n)), .val (.double (FP.i2d (Int32.ofNat n))), .second, .val (.double (own_Td f l' n)), .second, .val (.int (1 : Int32)), .val (.double (own_Td (f + 1) l' n)), .second, .val (.double (own_Td f (l' + 1) n)), .second, .val (.double (own_Td f l' (n + 1))), .second, .val (.int (Int32.ofNat (l' + 1))), .val (.double (own_Td f (l' + 1) (l' + 1))), .second, .unset, .unset] [(.int (1 : Int32))])) _
      refine XS.ifNo X12.here hx rfl (hb hby at_291) rfl ((if0 _ _).trans (feq (by decide)).1) ?_
      show Steps p.tables e below (T12.setTop (mkF m 294 #[.val (.int p0), .val (.int p1), .val (.int p2), .val (.int (Int32.ofNat f)), .val (.int (Int32.ofNat l')), .val (.int (Int32.ofNat n)), .val (.double (FP.i2d (Int32.ofNat n))), .second, .val (.double (own_Td f l' n)), .second, .val (.int (1 : Int32)), .val (.double (own_Td (f + 1) l' n)), .second, .val (.double (own_Td f (l' + 1) n)), .second, .val (.double (own_Td f l' (n + 1))), .second, .val (.int (Int32.ofNat (l' + 1))), .val (.double (own_Td f (l' + 1) (l' + 1))), .second, .unset, .unset] [])) _
      refine XS.dload X12.here hx rfl (hb hby at_294) rfl ?_
      show Steps p.tables e below (T12.setTop (mkF m 296 #[.val (.int p0), .val (.int p1), .val (.int p2), .val (.int (Int32.ofNat f)), .val (.int (Int32.ofNat l')), .val (.int (Int32.ofNat n)), .val (.double (FP.i2d (Int32.ofNat n))), .second, .val (.double (own_Td f l' n)), .second, .val (.int (1 : Int32)), .val (.double (own_Td (f + 1) l' n)), .second, .val (.double (own_Td f (l' + 1) n)), .second, .val (.double (own_Td f l' (n + 1))), .second, .val (.int (Int32.ofNat (l' + 1))), .val (.double (own_Td f (l' + 1) (l' + 1))), .second, .unset, .unset] [(.double (own_Td f (l' + 1) (l' + 1)))])) _
      refine XS.iloadN X12.here hx rfl (hb hby at_296) rfl ?_
      show Steps p.tables e below (T12.setTop (mkF m 297 #[.val (.int p0), .val (.int p1), .val (.int p2), .val (.int (Int32.ofNat f)), .val (.int (Int32.ofNat l')), .val (.int (Int32.ofNat n)), .val (.double (FP.i2d (Int32.ofNat n))), .second, .val (.double (own_Td f l' n)), .second, .val (.int (1 : Int32)), .val (.double (own_Td (f + 1) l' n)), .second, .val (.double (own_Td f (l' + 1) n)), .second, .val (.double (own_Td f l' (n + 1))), .second, .val (.int (Int32.ofNat (l' + 1))), .val (.double (own_Td f (l' + 1) (l' + 1))), .second, .unset, .unset] [(.int (Int32.ofNat f)), (.double (own_Td f (l' + 1) (l' + 1)))])) _
      refine XS.i2dS X12.here hx rfl (hb hby at_297) rfl rfl ?_
      show Steps p.tables e below (T12.setTop (mkF m 298 #[.val (.int p0), .val (.int p1), .val (.int p2), .val (.int (Int32.ofNat f)), .val (.int (Int32.ofNat l')), .val (.int (Int32.ofNat n)), .val (.double (FP.i2d (Int32.ofNat n))), .second, .val (.double (own_Td f l' n)), .second, .val (.int (1 : Int32)), .val (.double (own_Td (f + 1) l' n)), .second, .val (.double (own_Td f (l' + 1) n)), .second, .val (.double (own_Td f l' (n + 1))), .second, .val (.int (Int32.ofNat (l' + 1))), .val (.double (own_Td f (l' + 1) (l' + 1))), .second, .unset, .unset] [(.double (FP.i2d (Int32.ofNat f))), (.double (own_Td f (l' + 1) (l' + 1)))])) _
      refine XS.iloadN X12.here hx rfl (hb hby at_298) rfl ?_
      show Steps p.tables e below (T12.setTop (mkF m 299 #[.val (.int p0), .val (.int p1), .val (.int p2), .val (.int (Int32.ofNat f)), .val (.int (Int32.ofNat l')), .val (.int (Int32.ofNat n)), .val (.double (FP.i2d (Int32.ofNat n))), .second, .val (.double (own_Td f l' n)), .second, .val (.int (1 : Int32)), .val (.double (own_Td (f + 1) l' n)), .second, .val (.double (own_Td f (l' + 1) n)), .second, .val (.double (own_Td f l' (n + 1))), .second, .val (.int (Int32.ofNat (l' + 1))), .val (.double (own_Td f (l' + 1) (l' + 1))), .second, .unset, .unset] [(.int (Int32.ofNat f)), (.double (FP.i2d (Int32.ofNat f))), (.double (own_Td f (l' + 1) (l' + 1)))])) _
      refine XS.i2dS X12.here hx rfl (hb hby at_299) rfl rfl ?_
      show Steps p.tables e below (T12.setTop (mkF m 300 #[.val (.int p0), .val (.int p1), .val (.int p2), .val (.int (Int32.ofNat f)), .val (.int (Int32.ofNat l')), .val (.int (Int32.ofNat n)), .val (.double (FP.i2d (Int32.ofNat n))), .second, .val (.double (own_Td f l' n)), .second, .val (.int (1 : Int32)), .val (.double (own_Td (f + 1) l' n)), .second, .val (.double (own_Td f (l' + 1) n)), .second, .val (.double (own_Td f l' (n + 1))), .second, .val (.int (Int32.ofNat (l' + 1))), .val (.double (own_Td f (l' + 1) (l' + 1))), .second, .unset, .unset] [(.double (FP.i2d (Int32.ofNat f))), (.double (FP.i2d (Int32.ofNat f))), (.double (own_Td f (l' + 1) (l' + 1)))])) _
      refine X12.ldc2DoubleC hx hown (mvT hZ (hw _ (List.mem_of_getElem? (i := 8) rfl))) (g := (mkF m 300 #[.val (.int p0), .val (.int p1), .val (.int p2), .val (.int (Int32.ofNat f)), .val (.int (Int32.ofNat l')), .val (.int (Int32.ofNat n)), .val (.double (FP.i2d (Int32.ofNat n))), .second, .val (.double (own_Td f l' n)), .second, .val (.int (1 : Int32)), .val (.double (own_Td (f + 1) l' n)), .second, .val (.double (own_Td f (l' + 1) n)), .second, .val (.double (own_Td f l' (n + 1))), .second, .val (.int (Int32.ofNat (l' + 1))), .val (.double (own_Td f (l' + 1) (l' + 1))), .second, .unset, .unset] [(.double (FP.i2d (Int32.ofNat f))), (.double (FP.i2d (Int32.ofNat f))), (.double (own_Td f (l' + 1) (l' + 1)))])) rfl (hb hby at_300) _ ?_
      show Steps p.tables e below (T12.setTop (mkF m 303 #[.val (.int p0), .val (.int p1), .val (.int p2), .val (.int (Int32.ofNat f)), .val (.int (Int32.ofNat l')), .val (.int (Int32.ofNat n)), .val (.double (FP.i2d (Int32.ofNat n))), .second, .val (.double (own_Td f l' n)), .second, .val (.int (1 : Int32)), .val (.double (own_Td (f + 1) l' n)), .second, .val (.double (own_Td f (l' + 1) n)), .second, .val (.double (own_Td f l' (n + 1))), .second, .val (.int (Int32.ofNat (l' + 1))), .val (.double (own_Td f (l' + 1) (l' + 1))), .second, .unset, .unset] [(.double (4608083138725491507 : UInt64)), (.double (FP.i2d (Int32.ofNat f))), (.double (FP.i2d (Int32.ofNat f))), (.double (own_Td f (l' + 1) (l' + 1)))])) _
      refine XS.daddS X12.here hx rfl (hb hby at_303) rfl (own_na f1 l3 l2).1 rfl ?_
      show Steps p.tables e below (T12.setTop (mkF m 304 #[.val (.int p0), .val (.int p1), .val (.int p2), .val (.int (Int32.ofNat f)), .val (.int (Int32.ofNat l')), .val (.int (Int32.ofNat n)), .val (.double (FP.i2d (Int32.ofNat n))), .second, .val (.double (own_Td f l' n)), .second, .val (.int (1 : Int32)), .val (.double (own_Td (f + 1) l' n)), .second, .val (.double (own_Td f (l' + 1) n)), .second, .val (.double (own_Td f l' (n + 1))), .second, .val (.int (Int32.ofNat (l' + 1))), .val (.double (own_Td f (l' + 1) (l' + 1))), .second, .unset, .unset] [(.double (FP.dadd (FP.i2d (Int32.ofNat f)) (4608083138725491507 : UInt64))), (.double (FP.i2d (Int32.ofNat f))), (.double (own_Td f (l' + 1) (l' + 1)))])) _
      refine XS.ddivS X12.here hx rfl (hb hby at_304) rfl (own_na f1 l3 l2).2 rfl ?_
      show Steps p.tables e below (T12.setTop (mkF m 305 #[.val (.int p0), .val (.int p1), .val (.int p2), .val (.int (Int32.ofNat f)), .val (.int (Int32.ofNat l')), .val (.int (Int32.ofNat n)), .val (.double (FP.i2d (Int32.ofNat n))), .second, .val (.double (own_Td f l' n)), .second, .val (.int (1 : Int32)), .val (.double (own_Td (f + 1) l' n)), .second, .val (.double (own_Td f (l' + 1) n)), .second, .val (.double (own_Td f l' (n + 1))), .second, .val (.int (Int32.ofNat (l' + 1))), .val (.double (own_Td f (l' + 1) (l' + 1))), .second, .unset, .unset] [(.double (FP.ddiv (FP.i2d (Int32.ofNat f)) (FP.dadd (FP.i2d (Int32.ofNat f)) (4608083138725491507 : UInt64)))), (.double (own_Td f (l' + 1) (l' + 1)))])) _
      refine XS.dcmpS X12.here hx rfl (v := (0 : Int32)) (hb hby at_305) rfl (by rw [← own_ta l3 l2, own_self f1 l2 l3 l4]; rfl) ?_
      show Steps p.tables e below (T12.setTop (mkF m 306 #[.val (.int p0), .val (.int p1), .val (.int p2), .val (.int (Int32.ofNat f)), .val (.int (Int32.ofNat l')), .val (.int (Int32.ofNat n)), .val (.double (FP.i2d (Int32.ofNat n))), .second, .val (.double (own_Td f l' n)), .second, .val (.int (1 : Int32)), .val (.double (own_Td (f + 1) l' n)), .second, .val (.double (own_Td f (l' + 1) n)), .second, .val (.double (own_Td f l' (n + 1))), .second, .val (.int (Int32.ofNat (l' + 1))), .val (.double (own_Td f (l' + 1) (l' + 1))), .second, .unset, .unset] [(.int (0 : Int32))])) _
      refine XS.ifNo X12.here hx rfl (hb hby at_306) rfl ((if0 _ _).trans (teq (by decide)).2) ?_
      show Steps p.tables e below (T12.setTop (mkF m 309 #[.val (.int p0), .val (.int p1), .val (.int p2), .val (.int (Int32.ofNat f)), .val (.int (Int32.ofNat l')), .val (.int (Int32.ofNat n)), .val (.double (FP.i2d (Int32.ofNat n))), .second, .val (.double (own_Td f l' n)), .second, .val (.int (1 : Int32)), .val (.double (own_Td (f + 1) l' n)), .second, .val (.double (own_Td f (l' + 1) n)), .second, .val (.double (own_Td f l' (n + 1))), .second, .val (.int (Int32.ofNat (l' + 1))), .val (.double (own_Td f (l' + 1) (l' + 1))), .second, .unset, .unset] [])) _
      refine XS.iconst X12.here hx rfl (hb hby at_309) ?_
      show Steps p.tables e below (T12.setTop (mkF m 310 #[.val (.int p0), .val (.int p1), .val (.int p2), .val (.int (Int32.ofNat f)), .val (.int (Int32.ofNat l')), .val (.int (Int32.ofNat n)), .val (.double (FP.i2d (Int32.ofNat n))), .second, .val (.double (own_Td f l' n)), .second, .val (.int (1 : Int32)), .val (.double (own_Td (f + 1) l' n)), .second, .val (.double (own_Td f (l' + 1) n)), .second, .val (.double (own_Td f l' (n + 1))), .second, .val (.int (Int32.ofNat (l' + 1))), .val (.double (own_Td f (l' + 1) (l' + 1))), .second, .unset, .unset] [(.int (1 : Int32))])) _
      refine XS.goto X12.here hx rfl (pc0 := 310) (pc' := 314) rfl (hb hby at_310) (by decide) (by decide) ?_
      show Steps p.tables e below (T12.setTop (mkF m 314 #[.val (.int p0), .val (.int p1), .val (.int p2), .val (.int (Int32.ofNat f)), .val (.int (Int32.ofNat l')), .val (.int (Int32.ofNat n)), .val (.double (FP.i2d (Int32.ofNat n))), .second, .val (.double (own_Td f l' n)), .second, .val (.int (1 : Int32)), .val (.double (own_Td (f + 1) l' n)), .second, .val (.double (own_Td f (l' + 1) n)), .second, .val (.double (own_Td f l' (n + 1))), .second, .val (.int (Int32.ofNat (l' + 1))), .val (.double (own_Td f (l' + 1) (l' + 1))), .second, .unset, .unset] [(.int (1 : Int32))])) _
      refine XS.istore X12.here hx rfl (hb hby at_314) rfl (l' := #[.val (.int p0), .val (.int p1), .val (.int p2), .val (.int (Int32.ofNat f)), .val (.int (Int32.ofNat l')), .val (.int (Int32.ofNat n)), .val (.double (FP.i2d (Int32.ofNat n))), .second, .val (.double (own_Td f l' n)), .second, .val (.int (1 : Int32)), .val (.double (own_Td (f + 1) l' n)), .second, .val (.double (own_Td f (l' + 1) n)), .second, .val (.double (own_Td f l' (n + 1))), .second, .val (.int (Int32.ofNat (l' + 1))), .val (.double (own_Td f (l' + 1) (l' + 1))), .second, .unset, .unset]) rfl ?_
      show Steps p.tables e below (T12.setTop (mkF m 316 #[.val (.int p0), .val (.int p1), .val (.int p2), .val (.int (Int32.ofNat f)), .val (.int (Int32.ofNat l')), .val (.int (Int32.ofNat n)), .val (.double (FP.i2d (Int32.ofNat n))), .second, .val (.double (own_Td f l' n)), .second, .val (.int (1 : Int32)), .val (.double (own_Td (f + 1) l' n)), .second, .val (.double (own_Td f (l' + 1) n)), .second, .val (.double (own_Td f l' (n + 1))), .second, .val (.int (Int32.ofNat (l' + 1))), .val (.double (own_Td f (l' + 1) (l' + 1))), .second, .unset, .unset] [])) _
      refine XS.iloadN X12.here hx rfl (hb hby at_316) rfl ?_
      show Steps p.tables e below (T12.setTop (mkF m 317 #[.val (.int p0), .val (.int p1), .val (.int p2), .val (.int (Int32.ofNat f)), .val (.int (Int32.ofNat l')), .val (.int (Int32.ofNat n)), .val (.double (FP.i2d (Int32.ofNat n))), .second, .val (.double (own_Td f l' n)), .second, .val (.int (1 : Int32)), .val (.double (own_Td (f + 1) l' n)), .second, .val (.double (own_Td f (l' + 1) n)), .second, .val (.double (own_Td f l' (n + 1))), .second, .val (.int (Int32.ofNat (l' + 1))), .val (.double (own_Td f (l' + 1) (l' + 1))), .second, .unset, .unset] [(.int (Int32.ofNat f))])) _
      refine XS.iconst X12.here hx rfl (hb hby at_317) ?_
      show Steps p.tables e below (T12.setTop (mkF m 318 #[.val (.int p0), .val (.int p1), .val (.int p2), .val (.int (Int32.ofNat f)), .val (.int (Int32.ofNat l')), .val (.int (Int32.ofNat n)), .val (.double (FP.i2d (Int32.ofNat n))), .second, .val (.double (own_Td f l' n)), .second, .val (.int (1 : Int32)), .val (.double (own_Td (f + 1) l' n)), .second, .val (.double (own_Td f (l' + 1) n)), .second, .val (.double (own_Td f l' (n + 1))), .second, .val (.int (Int32.ofNat (l' + 1))), .val (.double (own_Td f (l' + 1) (l' + 1))), .second, .unset, .unset] [(.int (0 : Int32)), (.int (Int32.ofNat f))])) _
      refine XS.dload X12.here hx rfl (hb hby at_318) rfl ?_
      show Steps p.tables e below (T12.setTop (mkF m 320 #[.val (.int p0), .val (.int p1), .val (.int p2), .val (.int (Int32.ofNat f)), .val (.int (Int32.ofNat l')), .val (.int (Int32.ofNat n)), .val (.double (FP.i2d (Int32.ofNat n))), .second, .val (.double (own_Td f l' n)), .second, .val (.int (1 : Int32)), .val (.double (own_Td (f + 1) l' n)), .second, .val (.double (own_Td f (l' + 1) n)), .second, .val (.double (own_Td f l' (n + 1))), .second, .val (.int (Int32.ofNat (l' + 1))), .val (.double (own_Td f (l' + 1) (l' + 1))), .second, .unset, .unset] [(.double (FP.i2d (Int32.ofNat n))), (.int (0 : Int32)), (.int (Int32.ofNat f))])) _
      refine st13 _ ?_
      show Steps p.tables e below (T13.setTop (mkF m 323 #[.val (.int p0), .val (.int p1), .val (.int p2), .val (.int (Int32.ofNat f)), .val (.int (Int32.ofNat l')), .val (.int (Int32.ofNat n)), .val (.double (FP.i2d (Int32.ofNat n))), .second, .val (.double (own_Td f l' n)), .second, .val (.int (1 : Int32)), .val (.double (own_Td (f + 1) l' n)), .second, .val (.double (own_Td f (l' + 1) n)), .second, .val (.double (own_Td f l' (n + 1))), .second, .val (.int (Int32.ofNat (l' + 1))), .val (.double (own_Td f (l' + 1) (l' + 1))), .second, .unset, .unset] [(.double (own_Td f 0 n))])) _
      refine XS.dstore X13.here hx rfl (hb hby at_323) rfl (l' := #[.val (.int p0), .val (.int p1), .val (.int p2), .val (.int (Int32.ofNat f)), .val (.int (Int32.ofNat l')), .val (.int (Int32.ofNat n)), .val (.double (FP.i2d (Int32.ofNat n))), .second, .val (.double (own_Td f l' n)), .second, .val (.int (1 : Int32)), .val (.double (own_Td (f + 1) l' n)), .second, .val (.double (own_Td f (l' + 1) n)), .second, .val (.double (own_Td f l' (n + 1))), .second, .val (.int (Int32.ofNat (l' + 1))), .val (.double (own_Td f (l' + 1) (l' + 1))), .second, .val (.double (own_Td f 0 n)), .second]) rfl ?_
      show Steps p.tables e below (T13.setTop (mkF m 325 #[.val (.int p0), .val (.int p1), .val (.int p2), .val (.int (Int32.ofNat f)), .val (.int (Int32.ofNat l')), .val (.int (Int32.ofNat n)), .val (.double (FP.i2d (Int32.ofNat n))), .second, .val (.double (own_Td f l' n)), .second, .val (.int (1 : Int32)), .val (.double (own_Td (f + 1) l' n)), .second, .val (.double (own_Td f (l' + 1) n)), .second, .val (.double (own_Td f l' (n + 1))), .second, .val (.int (Int32.ofNat (l' + 1))), .val (.double (own_Td f (l' + 1) (l' + 1))), .second, .val (.double (own_Td f 0 n)), .second] [])) _
      refine XS.iload X13.here hx rfl (hb hby at_325) rfl ?_
      show Steps p.tables e below (T13.setTop (mkF m 327 #[.val (.int p0), .val (.int p1), .val (.int p2), .val (.int (Int32.ofNat f)), .val (.int (Int32.ofNat l')), .val (.int (Int32.ofNat n)), .val (.double (FP.i2d (Int32.ofNat n))), .second, .val (.double (own_Td f l' n)), .second, .val (.int (1 : Int32)), .val (.double (own_Td (f + 1) l' n)), .second, .val (.double (own_Td f (l' + 1) n)), .second, .val (.double (own_Td f l' (n + 1))), .second, .val (.int (Int32.ofNat (l' + 1))), .val (.double (own_Td f (l' + 1) (l' + 1))), .second, .val (.double (own_Td f 0 n)), .second] [(.int (1 : Int32))])) _
      refine XS.ifNo X13.here hx rfl (hb hby at_327) rfl ((if0 _ _).trans (feq (by decide)).1) ?_
      show Steps p.tables e below (T13.setTop (mkF m 330 #[.val (.int p0), .val (.int p1), .val (.int p2), .val (.int (Int32.ofNat f)), .val (.int (Int32.ofNat l')), .val (.int (Int32.ofNat n)), .val (.double (FP.i2d (Int32.ofNat n))), .second, .val (.double (own_Td f l' n)), .second, .val (.int (1 : Int32)), .val (.double (own_Td (f + 1) l' n)), .second, .val (.double (own_Td f (l' + 1) n)), .second, .val (.double (own_Td f l' (n + 1))), .second, .val (.int (Int32.ofNat (l' + 1))), .val (.double (own_Td f (l' + 1) (l' + 1))), .second, .val (.double (own_Td f 0 n)), .second] [])) _
      refine XS.dload X13.here hx rfl (hb hby at_330) rfl ?_
      show Steps p.tables e below (T13.setTop (mkF m 332 #[.val (.int p0), .val (.int p1), .val (.int p2), .val (.int (Int32.ofNat f)), .val (.int (Int32.ofNat l')), .val (.int (Int32.ofNat n)), .val (.double (FP.i2d (Int32.ofNat n))), .second, .val (.double (own_Td f l' n)), .second, .val (.int (1 : Int32)), .val (.double (own_Td (f + 1) l' n)), .second, .val (.double (own_Td f (l' + 1) n)), .second, .val (.double (own_Td f l' (n + 1))), .second, .val (.int (Int32.ofNat (l' + 1))), .val (.double (own_Td f (l' + 1) (l' + 1))), .second, .val (.double (own_Td f 0 n)), .second] [(.double (own_Td f 0 n))])) _
      refine XS.iloadN X13.here hx rfl (hb hby at_332) rfl ?_
      show Steps p.tables e below (T13.setTop (mkF m 333 #[.val (.int p0), .val (.int p1), .val (.int p2), .val (.int (Int32.ofNat f)), .val (.int (Int32.ofNat l')), .val (.int (Int32.ofNat n)), .val (.double (FP.i2d (Int32.ofNat n))), .second, .val (.double (own_Td f l' n)), .second, .val (.int (1 : Int32)), .val (.double (own_Td (f + 1) l' n)), .second, .val (.double (own_Td f (l' + 1) n)), .second, .val (.double (own_Td f l' (n + 1))), .second, .val (.int (Int32.ofNat (l' + 1))), .val (.double (own_Td f (l' + 1) (l' + 1))), .second, .val (.double (own_Td f 0 n)), .second] [(.int (Int32.ofNat f)), (.double (own_Td f 0 n))])) _
      refine XS.i2dS X13.here hx rfl (hb hby at_333) rfl rfl ?_
      show Steps p.tables e below (T13.setTop (mkF m 334 #[.val (.int p0), .val (.int p1), .val (.int p2), .val (.int (Int32.ofNat f)), .val (.int (Int32.ofNat l')), .val (.int (Int32.ofNat n)), .val (.double (FP.i2d (Int32.ofNat n))), .second, .val (.double (own_Td f l' n)), .second, .val (.int (1 : Int32)), .val (.double (own_Td (f + 1) l' n)), .second, .val (.double (own_Td f (l' + 1) n)), .second, .val (.double (own_Td f l' (n + 1))), .second, .val (.int (Int32.ofNat (l' + 1))), .val (.double (own_Td f (l' + 1) (l' + 1))), .second, .val (.double (own_Td f 0 n)), .second] [(.double (FP.i2d (Int32.ofNat f))), (.double (own_Td f 0 n))])) _
      refine XS.iloadN X13.here hx rfl (hb hby at_334) rfl ?_
      show Steps p.tables e below (T13.setTop (mkF m 335 #[.val (.int p0), .val (.int p1), .val (.int p2), .val (.int (Int32.ofNat f)), .val (.int (Int32.ofNat l')), .val (.int (Int32.ofNat n)), .val (.double (FP.i2d (Int32.ofNat n))), .second, .val (.double (own_Td f l' n)), .second, .val (.int (1 : Int32)), .val (.double (own_Td (f + 1) l' n)), .second, .val (.double (own_Td f (l' + 1) n)), .second, .val (.double (own_Td f l' (n + 1))), .second, .val (.int (Int32.ofNat (l' + 1))), .val (.double (own_Td f (l' + 1) (l' + 1))), .second, .val (.double (own_Td f 0 n)), .second] [(.int (Int32.ofNat f)), (.double (FP.i2d (Int32.ofNat f))), (.double (own_Td f 0 n))])) _
      refine XS.i2dS X13.here hx rfl (hb hby at_335) rfl rfl ?_
      show Steps p.tables e below (T13.setTop (mkF m 336 #[.val (.int p0), .val (.int p1), .val (.int p2), .val (.int (Int32.ofNat f)), .val (.int (Int32.ofNat l')), .val (.int (Int32.ofNat n)), .val (.double (FP.i2d (Int32.ofNat n))), .second, .val (.double (own_Td f l' n)), .second, .val (.int (1 : Int32)), .val (.double (own_Td (f + 1) l' n)), .second, .val (.double (own_Td f (l' + 1) n)), .second, .val (.double (own_Td f l' (n + 1))), .second, .val (.int (Int32.ofNat (l' + 1))), .val (.double (own_Td f (l' + 1) (l' + 1))), .second, .val (.double (own_Td f 0 n)), .second] [(.double (FP.i2d (Int32.ofNat f))), (.double (FP.i2d (Int32.ofNat f))), (.double (own_Td f 0 n))])) _
      refine X13.ldc2DoubleC hx hown (mvT hZ (hw _ (List.mem_of_getElem? (i := 9) rfl))) (g := (mkF m 336 #[.val (.int p0), .val (.int p1), .val (.int p2), .val (.int (Int32.ofNat f)), .val (.int (Int32.ofNat l')), .val (.int (Int32.ofNat n)), .val (.double (FP.i2d (Int32.ofNat n))), .second, .val (.double (own_Td f l' n)), .second, .val (.int (1 : Int32)), .val (.double (own_Td (f + 1) l' n)), .second, .val (.double (own_Td f (l' + 1) n)), .second, .val (.double (own_Td f l' (n + 1))), .second, .val (.int (Int32.ofNat (l' + 1))), .val (.double (own_Td f (l' + 1) (l' + 1))), .second, .val (.double (own_Td f 0 n)), .second] [(.double (FP.i2d (Int32.ofNat f))), (.double (FP.i2d (Int32.ofNat f))), (.double (own_Td f 0 n))])) rfl (hb hby at_336) _ ?_
      show Steps p.tables e below (T13.setTop (mkF m 339 #[.val (.int p0), .val (.int p1), .val (.int p2), .val (.int (Int32.ofNat f)), .val (.int (Int32.ofNat l')), .val (.int (Int32.ofNat n)), .val (.double (FP.i2d (Int32.ofNat n))), .second, .val (.double (own_Td f l' n)), .second, .val (.int (1 : Int32)), .val (.double (own_Td (f + 1) l' n)), .second, .val (.double (own_Td f (l' + 1) n)), .second, .val (.double (own_Td f l' (n + 1))), .second, .val (.int (Int32.ofNat (l' + 1))), .val (.double (own_Td f (l' + 1) (l' + 1))), .second, .val (.double (own_Td f 0 n)), .second] [(.double (4599075939470750515 : UInt64)), (.double (FP.i2d (Int32.ofNat f))), (.double (FP.i2d (Int32.ofNat f))), (.double (own_Td f 0 n))])) _
      refine XS.daddS X13.here hx rfl (hb hby at_339) rfl (own_nb f1 hn0 n1).1 rfl ?_
      show Steps p.tables e below (T13.setTop (mkF m 340 #[.val (.int p0), .val (.int p1), .val (.int p2), .val (.int (Int32.ofNat f)), .val (.int (Int32.ofNat l')), .val (.int (Int32.ofNat n)), .val (.double (FP.i2d (Int32.ofNat n))), .second, .val (.double (own_Td f l' n)), .second, .val (.int (1 : Int32)), .val (.double (own_Td (f + 1) l' n)), .second, .val (.double (own_Td f (l' + 1) n)), .second, .val (.double (own_Td f l' (n + 1))), .second, .val (.int (Int32.ofNat (l' + 1))), .val (.double (own_Td f (l' + 1) (l' + 1))), .second, .val (.double (own_Td f 0 n)), .second] [(.double (FP.dadd (FP.i2d (Int32.ofNat f)) (4599075939470750515 : UInt64))), (.double (FP.i2d (Int32.ofNat f))), (.double (own_Td f 0 n))])) _
      refine XS.ddivS X13.here hx rfl (hb hby at_340) rfl (own_nb f1 hn0 n1).2 rfl ?_
      show Steps p.tables e below (T13.setTop (mkF m 341 #[.val (.int p0), .val (.int p1), .val (.int p2), .val (.int (Int32.ofNat f)), .val (.int (Int32.ofNat l')), .val (.int (Int32.ofNat n)), .val (.double (FP.i2d (Int32.ofNat n))), .second, .val (.double (own_Td f l' n)), .second, .val (.int (1 : Int32)), .val (.double (own_Td (f + 1) l' n)), .second, .val (.double (own_Td f (l' + 1) n)), .second, .val (.double (own_Td f l' (n + 1))), .second, .val (.int (Int32.ofNat (l' + 1))), .val (.double (own_Td f (l' + 1) (l' + 1))), .second, .val (.double (own_Td f 0 n)), .second] [(.double (FP.ddiv (FP.i2d (Int32.ofNat f)) (FP.dadd (FP.i2d (Int32.ofNat f)) (4599075939470750515 : UInt64)))), (.double (own_Td f 0 n))])) _
      refine XS.dcmpS X13.here hx rfl (v := (0 : Int32)) (hb hby at_341) rfl (by rw [← own_te hn0 n1, own_self f1 (Nat.zero_le _) hn0 n1]; rfl) ?_
      show Steps p.tables e below (T13.setTop (mkF m 342 #[.val (.int p0), .val (.int p1), .val (.int p2), .val (.int (Int32.ofNat f)), .val (.int (Int32.ofNat l')), .val (.int (Int32.ofNat n)), .val (.double (FP.i2d (Int32.ofNat n))), .second, .val (.double (own_Td f l' n)), .second, .val (.int (1 : Int32)), .val (.double (own_Td (f + 1) l' n)), .second, .val (.double (own_Td f (l' + 1) n)), .second, .val (.double (own_Td f l' (n + 1))), .second, .val (.int (Int32.ofNat (l' + 1))), .val (.double (own_Td f (l' + 1) (l' + 1))), .second, .val (.double (own_Td f 0 n)), .second] [(.int (0 : Int32))])) _
      refine XS.ifNo X13.here hx rfl (hb hby at_342) rfl ((if0 _ _).trans (teq (by decide)).2) ?_
      show Steps p.tables e below (T13.setTop (mkF m 345 #[.val (.int p0), .val (.int p1), .val (.int p2), .val (.int (Int32.ofNat f)), .val (.int (Int32.ofNat l')), .val (.int (Int32.ofNat n)), .val (.double (FP.i2d (Int32.ofNat n))), .second, .val (.double (own_Td f l' n)), .second, .val (.int (1 : Int32)), .val (.double (own_Td (f + 1) l' n)), .second, .val (.double (own_Td f (l' + 1) n)), .second, .val (.double (own_Td f l' (n + 1))), .second, .val (.int (Int32.ofNat (l' + 1))), .val (.double (own_Td f (l' + 1) (l' + 1))), .second, .val (.double (own_Td f 0 n)), .second] [])) _
      refine XS.iconst X13.here hx rfl (hb hby at_345) ?_
      show Steps p.tables e below (T13.setTop (mkF m 346 #[.val (.int p0), .val (.int p1), .val (.int p2), .val (.int (Int32.ofNat f)), .val (.int (Int32.ofNat l')), .val (.int (Int32.ofNat n)), .val (.double (FP.i2d (Int32.ofNat n))), .second, .val (.double (own_Td f l' n)), .second, .val (.int (1 : Int32)), .val (.double (own_Td (f + 1) l' n)), .second, .val (.double (own_Td f (l' + 1) n)), .second, .val (.double (own_Td f l' (n + 1))), .second, .val (.int (Int32.ofNat (l' + 1))), .val (.double (own_Td f (l' + 1) (l' + 1))), .second, .val (.double (own_Td f 0 n)), .second] [(.int (1 : Int32))])) _
      refine XS.goto X13.here hx rfl (pc0 := 346) (pc' := 350) rfl (hb hby at_346) (by decide) (by decide) ?_
      show Steps p.tables e below (T13.setTop (mkF m 350 #[.val (.int p0), .val (.int p1), .val (.int p2), .val (.int (Int32.ofNat f)), .val (.int (Int32.ofNat l')), .val (.int (Int32.ofNat n)), .val (.double (FP.i2d (Int32.ofNat n))), .second, .val (.double (own_Td f l' n)), .second, .val (.int (1 : Int32)), .val (.double (own_Td (f + 1) l' n)), .second, .val (.double (own_Td f (l' + 1) n)), .second, .val (.double (own_Td f l' (n + 1))), .second, .val (.int (Int32.ofNat (l' + 1))), .val (.double (own_Td f (l' + 1) (l' + 1))), .second, .val (.double (own_Td f 0 n)), .second] [(.int (1 : Int32))])) _
      refine XS.istore X13.here hx rfl (hb hby at_350) rfl (l' := #[.val (.int p0), .val (.int p1), .val (.int p2), .val (.int (Int32.ofNat f)), .val (.int (Int32.ofNat l')), .val (.int (Int32.ofNat n)), .val (.double (FP.i2d (Int32.ofNat n))), .second, .val (.double (own_Td f l' n)), .second, .val (.int (1 : Int32)), .val (.double (own_Td (f + 1) l' n)), .second, .val (.double (own_Td f (l' + 1) n)), .second, .val (.double (own_Td f l' (n + 1))), .second, .val (.int (Int32.ofNat (l' + 1))), .val (.double (own_Td f (l' + 1) (l' + 1))), .second, .val (.double (own_Td f 0 n)), .second]) rfl ?_
      show Steps p.tables e below (T13.setTop (mkF m 352 #[.val (.int p0), .val (.int p1), .val (.int p2), .val (.int (Int32.ofNat f)), .val (.int (Int32.ofNat l')), .val (.int (Int32.ofNat n)), .val (.double (FP.i2d (Int32.ofNat n))), .second, .val (.double (own_Td f l' n)), .second, .val (.int (1 : Int32)), .val (.double (own_Td (f + 1) l' n)), .second, .val (.double (own_Td f (l' + 1) n)), .second, .val (.double (own_Td f l' (n + 1))), .second, .val (.int (Int32.ofNat (l' + 1))), .val (.double (own_Td f (l' + 1) (l' + 1))), .second, .val (.double (own_Td f 0 n)), .second] [])) _
      refine XS.iload X13.here hx rfl (hb hby at_352) rfl ?_
      show Steps p.tables e below (T13.setTop (mkF m 354 #[.val (.int p0), .val (.int p1), .val (.int p2), .val (.int (Int32.ofNat f)), .val (.int (Int32.ofNat l')), .val (.int (Int32.ofNat n)), .val (.double (FP.i2d (Int32.ofNat n))), .second, .val (.double (own_Td f l' n)), .second, .val (.int (1 : Int32)), .val (.double (own_Td (f + 1) l' n)), .second, .val (.double (own_Td f (l' + 1) n)), .second, .val (.double (own_Td f l' (n + 1))), .second, .val (.int (Int32.ofNat (l' + 1))), .val (.double (own_Td f (l' + 1) (l' + 1))), .second, .val (.double (own_Td f 0 n)), .second] [(.int (1 : Int32))])) _
      exact retN X13 hx (t := .boolean) hret0 (by simp) (hb hby at_354) hr
    · show Q0 n0 _ T13.heap _
      rw [eh13]
      exact ⟨rfl, N13⟩
  · skip
    by_cases hl0 : l' = 0
    · skip
      obtain ⟨c1, c2, c3⟩ := own_pos (f := f) (l := l') (n := n) (by omega) f1 l1 hn0 n1
      have st14 : ∀ target, Steps p.tables e below (T4.setTop (mkF m 94 #[.val (.int p0), .val (.int p1), .val (.int p2), .val (.int (Int32.ofNat f)), .val (.int (Int32.ofNat l')), .val (.int (Int32.ofNat n)), .val (.double (FP.i2d (Int32.ofNat n))), .second, .val (.double (own_Td f l' n)), .second, .val (.int (1 : Int32)), .unset, .unset, .unset, .unset, .unset, .unset, .unset, .unset, .unset, .unset, .unset] [(.int (Int32.ofNat (f + 1)))])) target → Steps p.tables e below (T4.setTop (mkF m 94 #[.val (.int p0), .val (.int p1), .val (.int p2), .val (.int (Int32.ofNat f)), .val (.int (Int32.ofNat l')), .val (.int (Int32.ofNat n)), .val (.double (FP.i2d (Int32.ofNat n))), .second, .val (.double (own_Td f l' n)), .second, .val (.int (1 : Int32)), .unset, .unset, .unset, .unset, .unset, .unset, .unset, .unset, .unset, .unset, .unset] [(.int ((Int32.ofNat f) + (1 : Int32)))])) target := by
        rw [own_s1]
        intro target hk
        exact hk
      obtain ⟨v15, vmx15, ⟨T15, L15, k15, n15⟩, -, X15, ⟨Lc15, hQ15, l15, y15, z15⟩, st15⟩ := Jvm.LawKit.callS X4 hx (y := (⟨"com/example/ample_search/amplesearch/search/Bm25", "tf", "(IID)D"⟩ : MethodName)) hown (mvT hZ (hw _ (List.mem_of_getElem? (i := 1) rfl))) (mvT hZ (hw _ (List.mem_of_getElem? (i := 2) rfl))) (mvT hZ (hw _ (List.mem_of_getElem? (i := 3) rfl))) (mvT hZ (hw _ (List.mem_of_getElem? (i := 4) rfl))) (by decide) (backOf (W := 0) (rmTf l Z a0 hw [] (Int32.ofNat (f + 1)) (Int32.ofNat l') (FP.i2d (Int32.ofNat n)) h0 n0 Z0 (own_tnn f2 l1 hn0 n1)) hZ (hw _ (List.mem_of_getElem? (i := 4) rfl)) (hw _ (List.mem_of_getElem? (i := 3) rfl)) (by decide) (by decide)) (g := (mkF m 98 #[.val (.int p0), .val (.int p1), .val (.int p2), .val (.int (Int32.ofNat f)), .val (.int (Int32.ofNat l')), .val (.int (Int32.ofNat n)), .val (.double (FP.i2d (Int32.ofNat n))), .second, .val (.double (own_Td f l' n)), .second, .val (.int (1 : Int32)), .unset, .unset, .unset, .unset, .unset, .unset, .unset, .unset, .unset, .unset, .unset] [(.double (FP.i2d (Int32.ofNat n))), (.int (Int32.ofNat l')), (.int (Int32.ofNat (f + 1)))])) rfl (by rw [hml]; rfl) (argsL := [(.int (Int32.ofNat (f + 1))), (.int (Int32.ofNat l')), (.double (FP.i2d (Int32.ofNat n)))]) (rest := []) (lenOf own_pd0 rfl) rfl (by show 2 * 0 + _ ≤ _; exact Nat.le_of_eq rfl) (hb hby at_98) (fun _ _ => ⟨rfl, eh4, (by decide : 0 + 0 ≤ _), (by decide : 0 + 0 ≤ _)⟩)
      dsimp only [Pt.U, Pt.locs, Pt.cells, Pt.slots] at X15 l15 y15 z15 st15 hQ15
      subst l15 y15 z15
      obtain ⟨rfl, Nq15, eh15⟩ := hQ15
      have N15 := Fr.app N4 Nq15
      have st16 : ∀ target, Steps p.tables e below (T15.setTop (mkF m 128 #[.val (.int p0), .val (.int p1), .val (.int p2), .val (.int (Int32.ofNat f)), .val (.int (Int32.ofNat l')), .val (.int (Int32.ofNat n)), .val (.double (FP.i2d (Int32.ofNat n))), .second, .val (.double (own_Td f l' n)), .second, .val (.int (1 : Int32)), .val (.double (own_Td (f + 1) l' n)), .second, .unset, .unset, .unset, .unset, .unset, .unset, .unset, .unset, .unset] [(.int (Int32.ofNat (l' + 1))), (.int (Int32.ofNat f))])) target → Steps p.tables e below (T15.setTop (mkF m 128 #[.val (.int p0), .val (.int p1), .val (.int p2), .val (.int (Int32.ofNat f)), .val (.int (Int32.ofNat l')), .val (.int (Int32.ofNat n)), .val (.double (FP.i2d (Int32.ofNat n))), .second, .val (.double (own_Td f l' n)), .second, .val (.int (1 : Int32)), .val (.double (own_Td (f + 1) l' n)), .second, .unset, .unset, .unset, .unset, .unset, .unset, .unset, .unset, .unset] [(.int ((Int32.ofNat l') + (1 : Int32))), (.int (Int32.ofNat f))])) target := by
        rw [own_s1]
        intro target hk
        exact hk
      obtain ⟨v17, vmx17, ⟨T17, L17, k17, n17⟩, -, X17, ⟨Lc17, hQ17, l17, y17, z17⟩, st17⟩ := Jvm.LawKit.callS X15 hx (y := (⟨"com/example/ample_search/amplesearch/search/Bm25", "tf", "(IID)D"⟩ : MethodName)) hown (mvT hZ (hw _ (List.mem_of_getElem? (i := 1) rfl))) (mvT hZ (hw _ (List.mem_of_getElem? (i := 2) rfl))) (mvT hZ (hw _ (List.mem_of_getElem? (i := 3) rfl))) (mvT hZ (hw _ (List.mem_of_getElem? (i := 4) rfl))) (by decide) (backOf (W := 0) (rmTf l Z a0 hw [] (Int32.ofNat f) (Int32.ofNat (l' + 1)) (FP.i2d (Int32.ofNat n)) h0 n0 Z0 (own_tnn f1 l2 hn0 n1)) hZ (hw _ (List.mem_of_getElem? (i := 4) rfl)) (hw _ (List.mem_of_getElem? (i := 3) rfl)) (by decide) (by decide)) (g := (mkF m 130 #[.val (.int p0), .val (.int p1), .val (.int p2), .val (.int (Int32.ofNat f)), .val (.int (Int32.ofNat l')), .val (.int (Int32.ofNat n)), .val (.double (FP.i2d (Int32.ofNat n))), .second, .val (.double (own_Td f l' n)), .second, .val (.int (1 : Int32)), .val (.double (own_Td (f + 1) l' n)), .second, .unset, .unset, .unset, .unset, .unset, .unset, .unset, .unset, .unset] [(.double (FP.i2d (Int32.ofNat n))), (.int (Int32.ofNat (l' + 1))), (.int (Int32.ofNat f))])) rfl (by rw [hml]; rfl) (argsL := [(.int (Int32.ofNat f)), (.int (Int32.ofNat (l' + 1))), (.double (FP.i2d (Int32.ofNat n)))]) (rest := []) (lenOf own_pd0 rfl) rfl (by show 2 * 0 + _ ≤ _; exact Nat.le_of_eq rfl) (hb hby at_130) (fun _ _ => ⟨rfl, eh15, (by decide : 0 + 0 ≤ _), (by decide : 0 + 0 ≤ _)⟩)
      dsimp only [Pt.U, Pt.locs, Pt.cells, Pt.slots] at X17 l17 y17 z17 st17 hQ17
      subst l17 y17 z17
      obtain ⟨rfl, Nq17, eh17⟩ := hQ17
      have N17 := Fr.app N15 Nq17
      have st18 : ∀ target, Steps p.tables e below (T17.setTop (mkF m 188 #[.val (.int p0), .val (.int p1), .val (.int p2), .val (.int (Int32.ofNat f)), .val (.int (Int32.ofNat l')), .val (.int (Int32.ofNat n)), .val (.double (FP.i2d (Int32.ofNat n))), .second, .val (.double (own_Td f l' n)), .second, .val (.int (1 : Int32)), .val (.double (own_Td (f + 1) l' n)), .second, .val (.double (own_Td f (l' + 1) n)), .second, .unset, .unset, .unset, .unset, .unset, .unset, .unset] [(.int (Int32.ofNat (n + 1))), (.int (Int32.ofNat l')), (.int (Int32.ofNat f))])) target → Steps p.tables e below (T17.setTop (mkF m 188 #[.val (.int p0), .val (.int p1), .val (.int p2), .val (.int (Int32.ofNat f)), .val (.int (Int32.ofNat l')), .val (.int (Int32.ofNat n)), .val (.double (FP.i2d (Int32.ofNat n))), .second, .val (.double (own_Td f l' n)), .second, .val (.int (1 : Int32)), .val (.double (own_Td (f + 1) l' n)), .second, .val (.double (own_Td f (l' + 1) n)), .second, .unset, .unset, .unset, .unset, .unset, .unset, .unset] [(.int ((Int32.ofNat n) + (1 : Int32))), (.int (Int32.ofNat l')), (.int (Int32.ofNat f))])) target := by
        rw [own_s1]
        intro target hk
        exact hk
      obtain ⟨v19, vmx19, ⟨T19, L19, k19, n19⟩, -, X19, ⟨Lc19, hQ19, l19, y19, z19⟩, st19⟩ := Jvm.LawKit.callS X17 hx (y := (⟨"com/example/ample_search/amplesearch/search/Bm25", "tf", "(IID)D"⟩ : MethodName)) hown (mvT hZ (hw _ (List.mem_of_getElem? (i := 1) rfl))) (mvT hZ (hw _ (List.mem_of_getElem? (i := 2) rfl))) (mvT hZ (hw _ (List.mem_of_getElem? (i := 3) rfl))) (mvT hZ (hw _ (List.mem_of_getElem? (i := 4) rfl))) (by decide) (backOf (W := 0) (rmTf l Z a0 hw [] (Int32.ofNat f) (Int32.ofNat l') (FP.i2d (Int32.ofNat (n + 1))) h0 n0 Z0 (own_tnn f1 l1 n2 n3)) hZ (hw _ (List.mem_of_getElem? (i := 4) rfl)) (hw _ (List.mem_of_getElem? (i := 3) rfl)) (by decide) (by decide)) (g := (mkF m 189 #[.val (.int p0), .val (.int p1), .val (.int p2), .val (.int (Int32.ofNat f)), .val (.int (Int32.ofNat l')), .val (.int (Int32.ofNat n)), .val (.double (FP.i2d (Int32.ofNat n))), .second, .val (.double (own_Td f l' n)), .second, .val (.int (1 : Int32)), .val (.double (own_Td (f + 1) l' n)), .second, .val (.double (own_Td f (l' + 1) n)), .second, .unset, .unset, .unset, .unset, .unset, .unset, .unset] [(.double (FP.i2d (Int32.ofNat (n + 1)))), (.int (Int32.ofNat l')), (.int (Int32.ofNat f))])) rfl (by rw [hml]; rfl) (argsL := [(.int (Int32.ofNat f)), (.int (Int32.ofNat l')), (.double (FP.i2d (Int32.ofNat (n + 1))))]) (rest := []) (lenOf own_pd0 rfl) rfl (by show 2 * 0 + _ ≤ _; exact Nat.le_of_eq rfl) (hb hby at_189) (fun _ _ => ⟨rfl, eh17, (by decide : 0 + 0 ≤ _), (by decide : 0 + 0 ≤ _)⟩)
      dsimp only [Pt.U, Pt.locs, Pt.cells, Pt.slots] at X19 l19 y19 z19 st19 hQ19
      subst l19 y19 z19
      obtain ⟨rfl, Nq19, eh19⟩ := hQ19
      have N19 := Fr.app N17 Nq19
      have st20 : ∀ target, Steps p.tables e below (T19.setTop (mkF m 276 #[.val (.int p0), .val (.int p1), .val (.int p2), .val (.int (Int32.ofNat f)), .val (.int (Int32.ofNat l')), .val (.int (Int32.ofNat n)), .val (.double (FP.i2d (Int32.ofNat n))), .second, .val (.double (own_Td f l' n)), .second, .val (.int (1 : Int32)), .val (.double (own_Td (f + 1) l' n)), .second, .val (.double (own_Td f (l' + 1) n)), .second, .val (.double (own_Td f l' (n + 1))), .second, .unset, .unset, .unset, .unset, .unset] [(.int (Int32.ofNat (l' + 1)))])) target → Steps p.tables e below (T19.setTop (mkF m 276 #[.val (.int p0), .val (.int p1), .val (.int p2), .val (.int (Int32.ofNat f)), .val (.int (Int32.ofNat l')), .val (.int (Int32.ofNat n)), .val (.double (FP.i2d (Int32.ofNat n))), .second, .val (.double (own_Td f l' n)), .second, .val (.int (1 : Int32)), .val (.double (own_Td (f + 1) l' n)), .second, .val (.double (own_Td f (l' + 1) n)), .second, .val (.double (own_Td f l' (n + 1))), .second, .unset, .unset, .unset, .unset, .unset] [(.int ((Int32.ofNat l') + (1 : Int32)))])) target := by
        rw [own_s1]
        intro target hk
        exact hk
      obtain ⟨v21, vmx21, ⟨T21, L21, k21, n21⟩, -, X21, ⟨Lc21, hQ21, l21, y21, z21⟩, st21⟩ := Jvm.LawKit.callS X19 hx (y := (⟨"com/example/ample_search/amplesearch/search/Bm25", "tf", "(IID)D"⟩ : MethodName)) hown (mvT hZ (hw _ (List.mem_of_getElem? (i := 1) rfl))) (mvT hZ (hw _ (List.mem_of_getElem? (i := 2) rfl))) (mvT hZ (hw _ (List.mem_of_getElem? (i := 3) rfl))) (mvT hZ (hw _ (List.mem_of_getElem? (i := 4) rfl))) (by decide) (backOf (W := 0) (rmTf l Z a0 hw [] (Int32.ofNat f) (Int32.ofNat (l' + 1)) (FP.i2d (Int32.ofNat (l' + 1))) h0 n0 Z0 (own_tnn f1 l2 l3 l4)) hZ (hw _ (List.mem_of_getElem? (i := 4) rfl)) (hw _ (List.mem_of_getElem? (i := 3) rfl)) (by decide) (by decide)) (g := (mkF m 284 #[.val (.int p0), .val (.int p1), .val (.int p2), .val (.int (Int32.ofNat f)), .val (.int (Int32.ofNat l')), .val (.int (Int32.ofNat n)), .val (.double (FP.i2d (Int32.ofNat n))), .second, .val (.double (own_Td f l' n)), .second, .val (.int (1 : Int32)), .val (.double (own_Td (f + 1) l' n)), .second, .val (.double (own_Td f (l' + 1) n)), .second, .val (.double (own_Td f l' (n + 1))), .second, .val (.int (Int32.ofNat (l' + 1))), .unset, .unset, .unset, .unset] [(.double (FP.i2d (Int32.ofNat (l' + 1)))), (.int (Int32.ofNat (l' + 1))), (.int (Int32.ofNat f))])) rfl (by rw [hml]; rfl) (argsL := [(.int (Int32.ofNat f)), (.int (Int32.ofNat (l' + 1))), (.double (FP.i2d (Int32.ofNat (l' + 1))))]) (rest := []) (lenOf own_pd0 rfl) rfl (by show 2 * 0 + _ ≤ _; exact Nat.le_of_eq rfl) (hb hby at_284) (fun _ _ => ⟨rfl, eh19, (by decide : 0 + 0 ≤ _), (by decide : 0 + 0 ≤ _)⟩)
      dsimp only [Pt.U, Pt.locs, Pt.cells, Pt.slots] at X21 l21 y21 z21 st21 hQ21
      subst l21 y21 z21
      obtain ⟨rfl, Nq21, eh21⟩ := hQ21
      have N21 := Fr.app N19 Nq21
      obtain ⟨v22, vmx22, ⟨T22, L22, k22, n22⟩, -, X22, ⟨Lc22, hQ22, l22, y22, z22⟩, st22⟩ := Jvm.LawKit.callS X21 hx (y := (⟨"com/example/ample_search/amplesearch/search/Bm25", "tf", "(IID)D"⟩ : MethodName)) hown (mvT hZ (hw _ (List.mem_of_getElem? (i := 1) rfl))) (mvT hZ (hw _ (List.mem_of_getElem? (i := 2) rfl))) (mvT hZ (hw _ (List.mem_of_getElem? (i := 3) rfl))) (mvT hZ (hw _ (List.mem_of_getElem? (i := 4) rfl))) (by decide) (backOf (W := 0) (rmTf l Z a0 hw [] (Int32.ofNat f) (Int32.ofNat 0) (FP.i2d (Int32.ofNat n)) h0 n0 Z0 (own_tnn f1 (Nat.zero_le _) hn0 n1)) hZ (hw _ (List.mem_of_getElem? (i := 4) rfl)) (hw _ (List.mem_of_getElem? (i := 3) rfl)) (by decide) (by decide)) (g := (mkF m 320 #[.val (.int p0), .val (.int p1), .val (.int p2), .val (.int (Int32.ofNat f)), .val (.int (Int32.ofNat l')), .val (.int (Int32.ofNat n)), .val (.double (FP.i2d (Int32.ofNat n))), .second, .val (.double (own_Td f l' n)), .second, .val (.int (1 : Int32)), .val (.double (own_Td (f + 1) l' n)), .second, .val (.double (own_Td f (l' + 1) n)), .second, .val (.double (own_Td f l' (n + 1))), .second, .val (.int (Int32.ofNat (l' + 1))), .val (.double (own_Td f (l' + 1) (l' + 1))), .second, .unset, .unset] [(.double (FP.i2d (Int32.ofNat n))), (.int (0 : Int32)), (.int (Int32.ofNat f))])) rfl (by rw [hml]; rfl) (argsL := [(.int (Int32.ofNat f)), (.int (0 : Int32)), (.double (FP.i2d (Int32.ofNat n)))]) (rest := []) (lenOf own_pd0 rfl) rfl (by show 2 * 0 + _ ≤ _; exact Nat.le_of_eq rfl) (hb hby at_320) (fun _ _ => ⟨rfl, eh21, (by decide : 0 + 0 ≤ _), (by decide : 0 + 0 ≤ _)⟩)
      dsimp only [Pt.U, Pt.locs, Pt.cells, Pt.slots] at X22 l22 y22 z22 st22 hQ22
      subst l22 y22 z22
      obtain ⟨rfl, Nq22, eh22⟩ := hQ22
      have N22 := Fr.app N21 Nq22
      obtain ⟨fs, hr, hrun, hended, hW, hsame⟩ := X22.leave (v := some (.int (1 : Int32))) (fun h => by rw [hret0] at h; cases h)
      refine ⟨_, _, pre0 _ ?_, hrun, hended, _, _, rfl, ?_, ⟨_, rfl⟩, hW, hsame.mono (by decide) (by decide)⟩
      · show Steps p.tables e below (s₁.setTop (mkF m 0 #[.val (.int p0), .val (.int p1), .val (.int p2), .unset, .unset, .unset, .unset, .unset, .unset, .unset, .unset, .unset, .unset, .unset, .unset, .unset, .unset, .unset, .unset, .unset, .unset, .unset] [])) _
        refine XS.iloadN X0.here hx rfl (hb hby at_0) rfl ?_
        show Steps p.tables e below (s₁.setTop (mkF m 1 #[.val (.int p0), .val (.int p1), .val (.int p2), .unset, .unset, .unset, .unset, .unset, .unset, .unset, .unset, .unset, .unset, .unset, .unset, .unset, .unset, .unset, .unset, .unset, .unset, .unset] [(.int p0)])) _
        refine X0.ldcInt hx hown (mvT hZ (hw _ (List.mem_of_getElem? (i := 0) rfl))) (g := (mkF m 1 #[.val (.int p0), .val (.int p1), .val (.int p2), .unset, .unset, .unset, .unset, .unset, .unset, .unset, .unset, .unset, .unset, .unset, .unset, .unset, .unset, .unset, .unset, .unset, .unset, .unset] [(.int p0)])) rfl (hb hby at_1) _ ?_
        show Steps p.tables e below (s₁.setTop (mkF m 3 #[.val (.int p0), .val (.int p1), .val (.int p2), .unset, .unset, .unset, .unset, .unset, .unset, .unset, .unset, .unset, .unset, .unset, .unset, .unset, .unset, .unset, .unset, .unset, .unset, .unset] [(.int (65535 : Int32)), (.int p0)])) _
        refine XS.iand X0.here hx rfl (hb hby at_3) rfl ?_
        show Steps p.tables e below (s₁.setTop (mkF m 4 #[.val (.int p0), .val (.int p1), .val (.int p2), .unset, .unset, .unset, .unset, .unset, .unset, .unset, .unset, .unset, .unset, .unset, .unset, .unset, .unset, .unset, .unset, .unset, .unset, .unset] [(.int (p0 &&& (65535 : Int32)))])) _
        refine st1 _ ?_
        show Steps p.tables e below (s₁.setTop (mkF m 4 #[.val (.int p0), .val (.int p1), .val (.int p2), .unset, .unset, .unset, .unset, .unset, .unset, .unset, .unset, .unset, .unset, .unset, .unset, .unset, .unset, .unset, .unset, .unset, .unset, .unset] [(.int (Int32.ofNat f))])) _
        refine XS.istoreN X0.here hx rfl (hb hby at_4) rfl (l' := #[.val (.int p0), .val (.int p1), .val (.int p2), .val (.int (Int32.ofNat f)), .unset, .unset, .unset, .unset, .unset, .unset, .unset, .unset, .unset, .unset, .unset, .unset, .unset, .unset, .unset, .unset, .unset, .unset]) rfl ?_
        show Steps p.tables e below (s₁.setTop (mkF m 5 #[.val (.int p0), .val (.int p1), .val (.int p2), .val (.int (Int32.ofNat f)), .unset, .unset, .unset, .unset, .unset, .unset, .unset, .unset, .unset, .unset, .unset, .unset, .unset, .unset, .unset, .unset, .unset, .unset] [])) _
        refine XS.iloadN X0.here hx rfl (hb hby at_5) rfl ?_
        show Steps p.tables e below (s₁.setTop (mkF m 6 #[.val (.int p0), .val (.int p1), .val (.int p2), .val (.int (Int32.ofNat f)), .unset, .unset, .unset, .unset, .unset, .unset, .unset, .unset, .unset, .unset, .unset, .unset, .unset, .unset, .unset, .unset, .unset, .unset] [(.int p1)])) _
        refine X0.ldcInt hx hown (mvT hZ (hw _ (List.mem_of_getElem? (i := 0) rfl))) (g := (mkF m 6 #[.val (.int p0), .val (.int p1), .val (.int p2), .val (.int (Int32.ofNat f)), .unset, .unset, .unset, .unset, .unset, .unset, .unset, .unset, .unset, .unset, .unset, .unset, .unset, .unset, .unset, .unset, .unset, .unset] [(.int p1)])) rfl (hb hby at_6) _ ?_
        show Steps p.tables e below (s₁.setTop (mkF m 8 #[.val (.int p0), .val (.int p1), .val (.int p2), .val (.int (Int32.ofNat f)), .unset, .unset, .unset, .unset, .unset, .unset, .unset, .unset, .unset, .unset, .unset, .unset, .unset, .unset, .unset, .unset, .unset, .unset] [(.int (65535 : Int32)), (.int p1)])) _
        refine XS.iand X0.here hx rfl (hb hby at_8) rfl ?_
        show Steps p.tables e below (s₁.setTop (mkF m 9 #[.val (.int p0), .val (.int p1), .val (.int p2), .val (.int (Int32.ofNat f)), .unset, .unset, .unset, .unset, .unset, .unset, .unset, .unset, .unset, .unset, .unset, .unset, .unset, .unset, .unset, .unset, .unset, .unset] [(.int (p1 &&& (65535 : Int32)))])) _
        refine st2 _ ?_
        show Steps p.tables e below (s₁.setTop (mkF m 9 #[.val (.int p0), .val (.int p1), .val (.int p2), .val (.int (Int32.ofNat f)), .unset, .unset, .unset, .unset, .unset, .unset, .unset, .unset, .unset, .unset, .unset, .unset, .unset, .unset, .unset, .unset, .unset, .unset] [(.int (Int32.ofNat l'))])) _
        refine XS.istore X0.here hx rfl (hb hby at_9) rfl (l' := #[.val (.int p0), .val (.int p1), .val (.int p2), .val (.int (Int32.ofNat f)), .val (.int (Int32.ofNat l')), .unset, .unset, .unset, .unset, .unset, .unset, .unset, .unset, .unset, .unset, .unset, .unset, .unset, .unset, .unset, .unset, .unset]) rfl ?_
        show Steps p.tables e below (s₁.setTop (mkF m 11 #[.val (.int p0), .val (.int p1), .val (.int p2), .val (.int (Int32.ofNat f)), .val (.int (Int32.ofNat l')), .unset, .unset, .unset, .unset, .unset, .unset, .unset, .unset, .unset, .unset, .unset, .unset, .unset, .unset, .unset, .unset, .unset] [])) _
        refine XS.iloadN X0.here hx rfl (hb hby at_11) rfl ?_
        show Steps p.tables e below (s₁.setTop (mkF m 12 #[.val (.int p0), .val (.int p1), .val (.int p2), .val (.int (Int32.ofNat f)), .val (.int (Int32.ofNat l')), .unset, .unset, .unset, .unset, .unset, .unset, .unset, .unset, .unset, .unset, .unset, .unset, .unset, .unset, .unset, .unset, .unset] [(.int p2)])) _
        refine X0.ldcInt hx hown (mvT hZ (hw _ (List.mem_of_getElem? (i := 0) rfl))) (g := (mkF m 12 #[.val (.int p0), .val (.int p1), .val (.int p2), .val (.int (Int32.ofNat f)), .val (.int (Int32.ofNat l')), .unset, .unset, .unset, .unset, .unset, .unset, .unset, .unset, .unset, .unset, .unset, .unset, .unset, .unset, .unset, .unset, .unset] [(.int p2)])) rfl (hb hby at_12) _ ?_
        show Steps p.tables e below (s₁.setTop (mkF m 14 #[.val (.int p0), .val (.int p1), .val (.int p2), .val (.int (Int32.ofNat f)), .val (.int (Int32.ofNat l')), .unset, .unset, .unset, .unset, .unset, .unset, .unset, .unset, .unset, .unset, .unset, .unset, .unset, .unset, .unset, .unset, .unset] [(.int (65535 : Int32)), (.int p2)])) _
        refine XS.iand X0.here hx rfl (hb hby at_14) rfl ?_
        show Steps p.tables e below (s₁.setTop (mkF m 15 #[.val (.int p0), .val (.int p1), .val (.int p2), .val (.int (Int32.ofNat f)), .val (.int (Int32.ofNat l')), .unset, .unset, .unset, .unset, .unset, .unset, .unset, .unset, .unset, .unset, .unset, .unset, .unset, .unset, .unset, .unset, .unset] [(.int (p2 &&& (65535 : Int32)))])) _
        refine XS.iconst X0.here hx rfl (hb hby at_15) ?_
        show Steps p.tables e below (s₁.setTop (mkF m 16 #[.val (.int p0), .val (.int p1), .val (.int p2), .val (.int (Int32.ofNat f)), .val (.int (Int32.ofNat l')), .unset, .unset, .unset, .unset, .unset, .unset, .unset, .unset, .unset, .unset, .unset, .unset, .unset, .unset, .unset, .unset, .unset] [(.int (1 : Int32)), (.int (p2 &&& (65535 : Int32)))])) _
        refine XS.iadd X0.here hx rfl (hb hby at_16) rfl ?_
        show Steps p.tables e below (s₁.setTop (mkF m 17 #[.val (.int p0), .val (.int p1), .val (.int p2), .val (.int (Int32.ofNat f)), .val (.int (Int32.ofNat l')), .unset, .unset, .unset, .unset, .unset, .unset, .unset, .unset, .unset, .unset, .unset, .unset, .unset, .unset, .unset, .unset, .unset] [(.int ((p2 &&& (65535 : Int32)) + (1 : Int32)))])) _
        refine st3 _ ?_
        show Steps p.tables e below (s₁.setTop (mkF m 17 #[.val (.int p0), .val (.int p1), .val (.int p2), .val (.int (Int32.ofNat f)), .val (.int (Int32.ofNat l')), .unset, .unset, .unset, .unset, .unset, .unset, .unset, .unset, .unset, .unset, .unset, .unset, .unset, .unset, .unset, .unset, .unset] [(.int (Int32.ofNat n))])) _
        refine XS.istore X0.here hx rfl (hb hby at_17) rfl (l' := #[.val (.int p0), .val (.int p1), .val (.int p2), .val (.int (Int32.ofNat f)), .val (.int (Int32.ofNat l')), .val (.int (Int32.ofNat n)), .unset, .unset, .unset, .unset, .unset, .unset, .unset, .unset, .unset, .unset, .unset, .unset, .unset, .unset, .unset, .unset]) rfl ?_
        show Steps p.tables e below (s₁.setTop (mkF m 19 #[.val (.int p0), .val (.int p1), .val (.int p2), .val (.int (Int32.ofNat f)), .val (.int (Int32.ofNat l')), .val (.int (Int32.ofNat n)), .unset, .unset, .unset, .unset, .unset, .unset, .unset, .unset, .unset, .unset, .unset, .unset, .unset, .unset, .unset, .unset] [])) _
        refine XS.iload X0.here hx rfl (hb hby at_19) rfl ?_
        show Steps p.tables e below (s₁.setTop (mkF m 21 #[.val (.int p0), .val (.int p1), .val (.int p2), .val (.int (Int32.ofNat f)), .val (.int (Int32.ofNat l')), .val (.int (Int32.ofNat n)), .unset, .unset, .unset, .unset, .unset, .unset, .unset, .unset, .unset, .unset, .unset, .unset, .unset, .unset, .unset, .unset] [(.int (Int32.ofNat n))])) _
        refine XS.i2dS X0.here hx rfl (hb hby at_21) rfl rfl ?_
        show Steps p.tables e below (s₁.setTop (mkF m 22 #[.val (.int p0), .val (.int p1), .val (.int p2), .val (.int (Int32.ofNat f)), .val (.int (Int32.ofNat l')), .val (.int (Int32.ofNat n)), .unset, .unset, .unset, .unset, .unset, .unset, .unset, .unset, .unset, .unset, .unset, .unset, .unset, .unset, .unset, .unset] [(.double (FP.i2d (Int32.ofNat n)))])) _
        refine XS.dstore X0.here hx rfl (hb hby at_22) rfl (l' := #[.val (.int p0), .val (.int p1), .val (.int p2), .val (.int (Int32.ofNat f)), .val (.int (Int32.ofNat l')), .val (.int (Int32.ofNat n)), .val (.double (FP.i2d (Int32.ofNat n))), .second, .unset, .unset, .unset, .unset, .unset, .unset, .unset, .unset, .unset, .unset, .unset, .unset, .unset, .unset]) rfl ?_
        show Steps p.tables e below (s₁.setTop (mkF m 24 #[.val (.int p0), .val (.int p1), .val (.int p2), .val (.int (Int32.ofNat f)), .val (.int (Int32.ofNat l')), .val (.int (Int32.ofNat n)), .val (.double (FP.i2d (Int32.ofNat n))), .second, .unset, .unset, .unset, .unset, .unset, .unset, .unset, .unset, .unset, .unset, .unset, .unset, .unset, .unset] [])) _
        refine XS.iloadN X0.here hx rfl (hb hby at_24) rfl ?_
        show Steps p.tables e below (s₁.setTop (mkF m 25 #[.val (.int p0), .val (.int p1), .val (.int p2), .val (.int (Int32.ofNat f)), .val (.int (Int32.ofNat l')), .val (.int (Int32.ofNat n)), .val (.double (FP.i2d (Int32.ofNat n))), .second, .unset, .unset, .unset, .unset, .unset, .unset, .unset, .unset, .unset, .unset, .unset, .unset, .unset, .unset] [(.int (Int32.ofNat f))])) _
        refine XS.iload X0.here hx rfl (hb hby at_25) rfl ?_
        show Steps p.tables e below (s₁.setTop (mkF m 27 #[.val (.int p0), .val (.int p1), .val (.int p2), .val (.int (Int32.ofNat f)), .val (.int (Int32.ofNat l')), .val (.int (Int32.ofNat n)), .val (.double (FP.i2d (Int32.ofNat n))), .second, .unset, .unset, .unset, .unset, .unset, .unset, .unset, .unset, .unset, .unset, .unset, .unset, .unset, .unset] [(.int (Int32.ofNat l')), (.int (Int32.ofNat f))])) _
        refine XS.dload X0.here hx rfl (hb hby at_27) rfl ?_
        show Steps p.tables e below (s₁.setTop (mkF m 29 #[.val (.int p0), .val (.int p1), .val (.int p2), .val (.int (Int32.ofNat f)), .val (.int (Int32.ofNat l')), .val (.int (Int32.ofNat n)), .val (.double (FP.i2d (Int32.ofNat n))), .second, .unset, .unset, .unset, .unset, .unset, .unset, .unset, .unset, .unset, .unset, .unset, .unset, .unset, .unset] [(.double (FP.i2d (Int32.ofNat n))), (.int (Int32.ofNat l')), (.int (Int32.ofNat f))])) _
        refine st4 _ ?_
        show Steps p.tables e below (T4.setTop (mkF m 32 #[.val (.int p0), .val (.int p1), .val (.int p2), .val (.int (Int32.ofNat f)), .val (.int (Int32.ofNat l')), .val (.int (Int32.ofNat n)), .val (.double (FP.i2d (Int32.ofNat n))), .second, .unset, .unset, .unset, .unset, .unset, .unset, .unset, .unset, .unset, .unset, .unset, .unset, .unset, .unset] [(.double (own_Td f l' n))])) _
        refine XS.dstore X4.here hx rfl (hb hby at_32) rfl (l' := #[.val (.int p0), .val (.int p1), .val (.int p2), .val (.int (Int32.ofNat f)), .val (.int (Int32.ofNat l')), .val (.int (Int32.ofNat n)), .val (.double (FP.i2d (Int32.ofNat n))), .second, .val (.double (own_Td f l' n)), .second, .unset, .unset, .unset, .unset, .unset, .unset, .unset, .unset, .unset, .unset, .unset, .unset]) rfl ?_
        show Steps p.tables e below (T4.setTop (mkF m 34 #[.val (.int p0), .val (.int p1), .val (.int p2), .val (.int (Int32.ofNat f)), .val (.int (Int32.ofNat l')), .val (.int (Int32.ofNat n)), .val (.double (FP.i2d (Int32.ofNat n))), .second, .val (.double (own_Td f l' n)), .second, .unset, .unset, .unset, .unset, .unset, .unset, .unset, .unset, .unset, .unset, .unset, .unset] [])) _
        refine XS.dconst0 X4.here hx rfl (v := 0) (hb hby at_34) (by decide +kernel) ?_
        show Steps p.tables e below (T4.setTop (mkF m 35 #[.val (.int p0), .val (.int p1), .val (.int p2), .val (.int (Int32.ofNat f)), .val (.int (Int32.ofNat l')), .val (.int (Int32.ofNat n)), .val (.double (FP.i2d (Int32.ofNat n))), .second, .val (.double (own_Td f l' n)), .second, .unset, .unset, .unset, .unset, .unset, .unset, .unset, .unset, .unset, .unset, .unset, .unset] [(.double (0 : UInt64))])) _
        refine XS.dload X4.here hx rfl (hb hby at_35) rfl ?_
        show Steps p.tables e below (T4.setTop (mkF m 37 #[.val (.int p0), .val (.int p1), .val (.int p2), .val (.int (Int32.ofNat f)), .val (.int (Int32.ofNat l')), .val (.int (Int32.ofNat n)), .val (.double (FP.i2d (Int32.ofNat n))), .second, .val (.double (own_Td f l' n)), .second, .unset, .unset, .unset, .unset, .unset, .unset, .unset, .unset, .unset, .unset, .unset, .unset] [(.double (own_Td f l' n)), (.double (0 : UInt64))])) _
        refine XS.dcmpS X4.here hx rfl (v := (-1 : Int32)) (hb hby at_37) rfl (by rw [c1]; rfl) ?_
        show Steps p.tables e below (T4.setTop (mkF m 38 #[.val (.int p0), .val (.int p1), .val (.int p2), .val (.int (Int32.ofNat f)), .val (.int (Int32.ofNat l')), .val (.int (Int32.ofNat n)), .val (.double (FP.i2d (Int32.ofNat n))), .second, .val (.double (own_Td f l' n)), .second, .unset, .unset, .unset, .unset, .unset, .unset, .unset, .unset, .unset, .unset, .unset, .unset] [(.int (-1 : Int32))])) _
        refine XS.ifNo X4.here hx rfl (hb hby at_38) rfl ((if0 _ _).trans (flt (by decide)).2.2.1) ?_
        show Steps p.tables e below (T4.setTop (mkF m 41 #[.val (.int p0), .val (.int p1), .val (.int p2), .val (.int (Int32.ofNat f)), .val (.int (Int32.ofNat l')), .val (.int (Int32.ofNat n)), .val (.double (FP.i2d (Int32.ofNat n))), .second, .val (.double (own_Td f l' n)), .second, .unset, .unset, .unset, .unset, .unset, .unset, .unset, .unset, .unset, .unset, .unset, .unset] [])) _
        refine XS.dload X4.here hx rfl (hb hby at_41) rfl ?_
        show Steps p.tables e below (T4.setTop (mkF m 43 #[.val (.int p0), .val (.int p1), .val (.int p2), .val (.int (Int32.ofNat f)), .val (.int (Int32.ofNat l')), .val (.int (Int32.ofNat n)), .val (.double (FP.i2d (Int32.ofNat n))), .second, .val (.double (own_Td f l' n)), .second, .unset, .unset, .unset, .unset, .unset, .unset, .unset, .unset, .unset, .unset, .unset, .unset] [(.double (own_Td f l' n))])) _
        refine XS.dconst1 X4.here hx rfl (v := 4607182418800017408) (hb hby at_43) (by decide +kernel) ?_
        show Steps p.tables e below (T4.setTop (mkF m 44 #[.val (.int p0), .val (.int p1), .val (.int p2), .val (.int (Int32.ofNat f)), .val (.int (Int32.ofNat l')), .val (.int (Int32.ofNat n)), .val (.double (FP.i2d (Int32.ofNat n))), .second, .val (.double (own_Td f l' n)), .second, .unset, .unset, .unset, .unset, .unset, .unset, .unset, .unset, .unset, .unset, .unset, .unset] [(.double (4607182418800017408 : UInt64)), (.double (own_Td f l' n))])) _
        refine XS.dcmpS X4.here hx rfl (v := (-1 : Int32)) (hb hby at_44) rfl (by rw [c3]; rfl) ?_
        show Steps p.tables e below (T4.setTop (mkF m 45 #[.val (.int p0), .val (.int p1), .val (.int p2), .val (.int (Int32.ofNat f)), .val (.int (Int32.ofNat l')), .val (.int (Int32.ofNat n)), .val (.double (FP.i2d (Int32.ofNat n))), .second, .val (.double (own_Td f l' n)), .second, .unset, .unset, .unset, .unset, .unset, .unset, .unset, .unset, .unset, .unset, .unset, .unset] [(.int (-1 : Int32))])) _
        refine XS.ifNo X4.here hx rfl (hb hby at_45) rfl ((if0 _ _).trans (tlt (by decide)).2.1) ?_
        show Steps p.tables e below (T4.setTop (mkF m 48 #[.val (.int p0), .val (.int p1), .val (.int p2), .val (.int (Int32.ofNat f)), .val (.int (Int32.ofNat l')), .val (.int (Int32.ofNat n)), .val (.double (FP.i2d (Int32.ofNat n))), .second, .val (.double (own_Td f l' n)), .second, .unset, .unset, .unset, .unset, .unset, .unset, .unset, .unset, .unset, .unset, .unset, .unset] [])) _
        refine XS.iconst X4.here hx rfl (hb hby at_48) ?_
        show Steps p.tables e below (T4.setTop (mkF m 49 #[.val (.int p0), .val (.int p1), .val (.int p2), .val (.int (Int32.ofNat f)), .val (.int (Int32.ofNat l')), .val (.int (Int32.ofNat n)), .val (.double (FP.i2d (Int32.ofNat n))), .second, .val (.double (own_Td f l' n)), .second, .unset, .unset, .unset, .unset, .unset, .unset, .unset, .unset, .unset, .unset, .unset, .unset] [(.int (1 : Int32))])) _
        refine XS.goto X4.here hx rfl (pc0 := 49) (pc' := 53) rfl (hb hby at_49) (by decide) (by decide) ?_
        show Steps p.tables e below (T4.setTop (mkF m 53 #[.val (.int p0), .val (.int p1), .val (.int p2), .val (.int (Int32.ofNat f)), .val (.int (Int32.ofNat l')), .val (.int (Int32.ofNat n)), .val (.double (FP.i2d (Int32.ofNat n))), .second, .val (.double (own_Td f l' n)), .second, .unset, .unset, .unset, .unset, .unset, .unset, .unset, .unset, .unset, .unset, .unset, .unset] [(.int (1 : Int32))])) _
        refine XS.istore X4.here hx rfl (hb hby at_53) rfl (l' := #[.val (.int p0), .val (.int p1), .val (.int p2), .val (.int (Int32.ofNat f)), .val (.int (Int32.ofNat l')), .val (.int (Int32.ofNat n)), .val (.double (FP.i2d (Int32.ofNat n))), .second, .val (.double (own_Td f l' n)), .second, .val (.int (1 : Int32)), .unset, .unset, .unset, .unset, .unset, .unset, .unset, .unset, .unset, .unset, .unset]) rfl ?_
        show Steps p.tables e below (T4.setTop (mkF m 55 #[.val (.int p0), .val (.int p1), .val (.int p2), .val (.int (Int32.ofNat f)), .val (.int (Int32.ofNat l')), .val (.int (Int32.ofNat n)), .val (.double (FP.i2d (Int32.ofNat n))), .second, .val (.double (own_Td f l' n)), .second, .val (.int (1 : Int32)), .unset, .unset, .unset, .unset, .unset, .unset, .unset, .unset, .unset, .unset, .unset] [])) _
        refine XS.iload X4.here hx rfl (hb hby at_55) rfl ?_
        show Steps p.tables e below (T4.setTop (mkF m 57 #[.val (.int p0), .val (.int p1), .val (.int p2), .val (.int (Int32.ofNat f)), .val (.int (Int32.ofNat l')), .val (.int (Int32.ofNat n)), .val (.double (FP.i2d (Int32.ofNat n))), .second, .val (.double (own_Td f l' n)), .second, .val (.int (1 : Int32)), .unset, .unset, .unset, .unset, .unset, .unset, .unset, .unset, .unset, .unset, .unset] [(.int (1 : Int32))])) _
        refine XS.ifNo X4.here hx rfl (hb hby at_57) rfl ((if0 _ _).trans (feq (by decide)).1) ?_
        show Steps p.tables e below (T4.setTop (mkF m 60 #[.val (.int p0), .val (.int p1), .val (.int p2), .val (.int (Int32.ofNat f)), .val (.int (Int32.ofNat l')), .val (.int (Int32.ofNat n)), .val (.double (FP.i2d (Int32.ofNat n))), .second, .val (.double (own_Td f l' n)), .second, .val (.int (1 : Int32)), .unset, .unset, .unset, .unset, .unset, .unset, .unset, .unset, .unset, .unset, .unset] [])) _
        refine XS.dload X4.here hx rfl (hb hby at_60) rfl ?_
        show Steps p.tables e below (T4.setTop (mkF m 62 #[.val (.int p0), .val (.int p1), .val (.int p2), .val (.int (Int32.ofNat f)), .val (.int (Int32.ofNat l')), .val (.int (Int32.ofNat n)), .val (.double (FP.i2d (Int32.ofNat n))), .second, .val (.double (own_Td f l' n)), .second, .val (.int (1 : Int32)), .unset, .unset, .unset, .unset, .unset, .unset, .unset, .unset, .unset, .unset, .unset] [(.double (own_Td f l' n))])) _
        refine XS.dconst0 X4.here hx rfl (v := 0) (hb hby at_62) (by decide +kernel) ?_
        show Steps p.tables e below (T4.setTop (mkF m 63 #[.val (.int p0), .val (.int p1), .val (.int p2), .val (.int (Int32.ofNat f)), .val (.int (Int32.ofNat l')), .val (.int (Int32.ofNat n)), .val (.double (FP.i2d (Int32.ofNat n))), .second, .val (.double (own_Td f l' n)), .second, .val (.int (1 : Int32)), .unset, .unset, .unset, .unset, .unset, .unset, .unset, .unset, .unset, .unset, .unset] [(.double (0 : UInt64)), (.double (own_Td f l' n))])) _
        refine XS.dcmpS X4.here hx rfl (v := (1 : Int32)) (hb hby at_63) rfl (by rw [c2]; rfl) ?_
        show Steps p.tables e below (T4.setTop (mkF m 64 #[.val (.int p0), .val (.int p1), .val (.int p2), .val (.int (Int32.ofNat f)), .val (.int (Int32.ofNat l')), .val (.int (Int32.ofNat n)), .val (.double (FP.i2d (Int32.ofNat n))), .second, .val (.double (own_Td f l' n)), .second, .val (.int (1 : Int32)), .unset, .unset, .unset, .unset, .unset, .unset, .unset, .unset, .unset, .unset, .unset] [(.int (1 : Int32))])) _
        refine XS.ifYes X4.here hx rfl (pc0 := 64) (pc' := 71) rfl (hb hby at_64) rfl ((if0 _ _).trans (feq (by decide)).2) (by decide) (by decide) ?_
        show Steps p.tables e below (T4.setTop (mkF m 71 #[.val (.int p0), .val (.int p1), .val (.int p2), .val (.int (Int32.ofNat f)), .val (.int (Int32.ofNat l')), .val (.int (Int32.ofNat n)), .val (.double (FP.i2d (Int32.ofNat n))), .second, .val (.double (own_Td f l' n)), .second, .val (.int (1 : Int32)), .unset, .unset, .unset, .unset, .unset, .unset, .unset, .unset, .unset, .unset, .unset] [])) _
        refine XS.iconst X4.here hx rfl (hb hby at_71) ?_
        show Steps p.tables e below (T4.setTop (mkF m 72 #[.val (.int p0), .val (.int p1), .val (.int p2), .val (.int (Int32.ofNat f)), .val (.int (Int32.ofNat l')), .val (.int (Int32.ofNat n)), .val (.double (FP.i2d (Int32.ofNat n))), .second, .val (.double (own_Td f l' n)), .second, .val (.int (1 : Int32)), .unset, .unset, .unset, .unset, .unset, .unset, .unset, .unset, .unset, .unset, .unset] [(.int (0 : Int32))])) _
        refine XS.iloadN X4.here hx rfl (hb hby at_72) rfl ?_
        show Steps p.tables e below (T4.setTop (mkF m 73 #[.val (.int p0), .val (.int p1), .val (.int p2), .val (.int (Int32.ofNat f)), .val (.int (Int32.ofNat l')), .val (.int (Int32.ofNat n)), .val (.double (FP.i2d (Int32.ofNat n))), .second, .val (.double (own_Td f l' n)), .second, .val (.int (1 : Int32)), .unset, .unset, .unset, .unset, .unset, .unset, .unset, .unset, .unset, .unset, .unset] [(.int (Int32.ofNat f)), (.int (0 : Int32))])) _
        refine XS.ifYes X4.here hx rfl (pc0 := 73) (pc' := 80) rfl (hb hby at_73) rfl ((if0 _ _).trans (feq (own_ne0 hf0 f1)).2) (by decide) (by decide) ?_
        show Steps p.tables e below (T4.setTop (mkF m 80 #[.val (.int p0), .val (.int p1), .val (.int p2), .val (.int (Int32.ofNat f)), .val (.int (Int32.ofNat l')), .val (.int (Int32.ofNat n)), .val (.double (FP.i2d (Int32.ofNat n))), .second, .val (.double (own_Td f l' n)), .second, .val (.int (1 : Int32)), .unset, .unset, .unset, .unset, .unset, .unset, .unset, .unset, .unset, .unset, .unset] [(.int (0 : Int32))])) _
        refine XS.iconst X4.here hx rfl (hb hby at_80) ?_
        show Steps p.tables e below (T4.setTop (mkF m 81 #[.val (.int p0), .val (.int p1), .val (.int p2), .val (.int (Int32.ofNat f)), .val (.int (Int32.ofNat l')), .val (.int (Int32.ofNat n)), .val (.double (FP.i2d (Int32.ofNat n))), .second, .val (.double (own_Td f l' n)), .second, .val (.int (1 : Int32)), .unset, .unset, .unset, .unset, .unset, .unset, .unset, .unset, .unset, .unset, .unset] [(.int (0 : Int32)), (.int (0 : Int32))])) _
        refine XS.icmpNo X4.here hx rfl (hb hby at_81) rfl (teq rfl).2 ?_
        show Steps p.tables e below (T4.setTop (mkF m 84 #[.val (.int p0), .val (.int p1), .val (.int p2), .val (.int (Int32.ofNat f)), .val (.int (Int32.ofNat l')), .val (.int (Int32.ofNat n)), .val (.double (FP.i2d (Int32.ofNat n))), .second, .val (.double (own_Td f l' n)), .second, .val (.int (1 : Int32)), .unset, .unset, .unset, .unset, .unset, .unset, .unset, .unset, .unset, .unset, .unset] [])) _
        refine XS.iconst X4.here hx rfl (hb hby at_84) ?_
        show Steps p.tables e below (T4.setTop (mkF m 85 #[.val (.int p0), .val (.int p1), .val (.int p2), .val (.int (Int32.ofNat f)), .val (.int (Int32.ofNat l')), .val (.int (Int32.ofNat n)), .val (.double (FP.i2d (Int32.ofNat n))), .second, .val (.double (own_Td f l' n)), .second, .val (.int (1 : Int32)), .unset, .unset, .unset, .unset, .unset, .unset, .unset, .unset, .unset, .unset, .unset] [(.int (1 : Int32))])) _
        refine XS.goto X4.here hx rfl (pc0 := 85) (pc' := 89) rfl (hb hby at_85) (by decide) (by decide) ?_
        show Steps p.tables e below (T4.setTop (mkF m 89 #[.val (.int p0), .val (.int p1), .val (.int p2), .val (.int (Int32.ofNat f)), .val (.int (Int32.ofNat l')), .val (.int (Int32.ofNat n)), .val (.double (FP.i2d (Int32.ofNat n))), .second, .val (.double (own_Td f l' n)), .second, .val (.int (1 : Int32)), .unset, .unset, .unset, .unset, .unset, .unset, .unset, .unset, .unset, .unset, .unset] [(.int (1 : Int32))])) _
        refine XS.istore X4.here hx rfl (hb hby at_89) rfl (l' := #[.val (.int p0), .val (.int p1), .val (.int p2), .val (.int (Int32.ofNat f)), .val (.int (Int32.ofNat l')), .val (.int (Int32.ofNat n)), .val (.double (FP.i2d (Int32.ofNat n))), .second, .val (.double (own_Td f l' n)), .second, .val (.int (1 : Int32)), .unset, .unset, .unset, .unset, .unset, .unset, .unset, .unset, .unset, .unset, .unset]) rfl ?_
        show Steps p.tables e below (T4.setTop (mkF m 91 #[.val (.int p0), .val (.int p1), .val (.int p2), .val (.int (Int32.ofNat f)), .val (.int (Int32.ofNat l')), .val (.int (Int32.ofNat n)), .val (.double (FP.i2d (Int32.ofNat n))), .second, .val (.double (own_Td f l' n)), .second, .val (.int (1 : Int32)), .unset, .unset, .unset, .unset, .unset, .unset, .unset, .unset, .unset, .unset, .unset] [])) _
        refine XS.iloadN X4.here hx rfl (hb hby at_91) rfl ?_
        show Steps p.tables e below (T4.setTop (mkF m 92 #[.val (.int p0), .val (.int p1), .val (.int p2), .val (.int (Int32.ofNat f)), .val (.int (Int32.ofNat l')), .val (.int (Int32.ofNat n)), .val (.double (FP.i2d (Int32.ofNat n))), .second, .val (.double (own_Td f l' n)), .second, .val (.int (1 : Int32)), .unset, .unset, .unset, .unset, .unset, .unset, .unset, .unset, .unset, .unset, .unset] [(.int (Int32.ofNat f))])) _
        refine XS.iconst X4.here hx rfl (hb hby at_92) ?_
        show Steps p.tables e below (T4.setTop (mkF m 93 #[.val (.int p0), .val (.int p1), .val (.int p2), .val (.int (Int32.ofNat f)), .val (.int (Int32.ofNat l')), .val (.int (Int32.ofNat n)), .val (.double (FP.i2d (Int32.ofNat n))), .second, .val (.double (own_Td f l' n)), .second, .val (.int (1 : Int32)), .unset, .unset, .unset, .unset, .unset, .unset, .unset, .unset, .unset, .unset, .unset] [(.int (1 : Int32)), (.int (Int32.ofNat f))])) _
        refine XS.iadd X4.here hx rfl (hb hby at_93) rfl ?_
        show Steps p.tables e below (T4.setTop (mkF m 94 #[.val (.int p0), .val (.int p1), .val (.int p2), .val (.int (Int32.ofNat f)), .val (.int (Int32.ofNat l')), .val (.int (Int32.ofNat n)), .val (.double (FP.i2d (Int32.ofNat n))), .second, .val (.double (own_Td f l' n)), .second, .val (.int (1 : Int32)), .unset, .unset, .unset, .unset, .unset, .unset, .unset, .unset, .unset, .unset, .unset] [(.int ((Int32.ofNat f) + (1 : Int32)))])) _
        refine st14 _ ?_
        show Steps p.tables e below (T4.setTop (mkF m 94 #[.val (.int p0), .val (.int p1), .val (.int p2), .val (.int (Int32.ofNat f)), .val (.int (Int32.ofNat l')), .val (.int (Int32.ofNat n)), .val (.double (FP.i2d (Int32.ofNat n))), .second, .val (.double (own_Td f l' n)), .second, .val (.int (1 : Int32)), .unset, .unset, .unset, .unset, .unset, .unset, .unset, .unset, .unset, .unset, .unset] [(.int (Int32.ofNat (f + 1)))])) _
        refine XS.iload X4.here hx rfl (hb hby at_94) rfl ?_
        show Steps p.tables e below (T4.setTop (mkF m 96 #[.val (.int p0), .val (.int p1), .val (.int p2), .val (.int (Int32.ofNat f)), .val (.int (Int32.ofNat l')), .val (.int (Int32.ofNat n)), .val (.double (FP.i2d (Int32.ofNat n))), .second, .val (.double (own_Td f l' n)), .second, .val (.int (1 : Int32)), .unset, .unset, .unset, .unset, .unset, .unset, .unset, .unset, .unset, .unset, .unset] [(.int (Int32.ofNat l')), (.int (Int32.ofNat (f + 1)))])) _
        refine XS.dload X4.here hx rfl (hb hby at_96) rfl ?_
        show Steps p.tables e below (T4.setTop (mkF m 98 #[.val (.int p0), .val (.int p1), .val (.int p2), .val (.int (Int32.ofNat f)), .val (.int (Int32.ofNat l')), .val (.int (Int32.ofNat n)), .val (.double (FP.i2d (Int32.ofNat n))), .second, .val (.double (own_Td f l' n)), .second, .val (.int (1 : Int32)), .unset, .unset, .unset, .unset, .unset, .unset, .unset, .unset, .unset, .unset, .unset] [(.double (FP.i2d (Int32.ofNat n))), (.int (Int32.ofNat l')), (.int (Int32.ofNat (f + 1)))])) _
        refine st15 _ ?_
        show Steps p.tables e below (T15.setTop (mkF m 101 #[.val (.int p0), .val (.int p1), .val (.int p2), .val (.int (Int32.ofNat f)), .val (.int (Int32.ofNat l')), .val (.int (Int32.ofNat n)), .val (.double (FP.i2d (Int32.ofNat n))), .second, .val (.double (own_Td f l' n)), .second, .val (.int (1 : Int32)), .unset, .unset, .unset, .unset, .unset, .unset, .unset, .unset, .unset, .unset, .unset] [(.double (own_Td (f + 1) l' n))])) _
        refine XS.dstore X15.here hx rfl (hb hby at_101) rfl (l' := #[.val (.int p0), .val (.int p1), .val (.int p2), .val (.int (Int32.ofNat f)), .val (.int (Int32.ofNat l')), .val (.int (Int32.ofNat n)), .val (.double (FP.i2d (Int32.ofNat n))), .second, .val (.double (own_Td f l' n)), .second, .val (.int (1 : Int32)), .val (.double (own_Td (f + 1) l' n)), .second, .unset, .unset, .unset, .unset, .unset, .unset, .unset, .unset, .unset]) rfl ?_
        show Steps p.tables e below (T15.setTop (mkF m 103 #[.val (.int p0), .val (.int p1), .val (.int p2), .val (.int (Int32.ofNat f)), .val (.int (Int32.ofNat l')), .val (.int (Int32.ofNat n)), .val (.double (FP.i2d (Int32.ofNat n))), .second, .val (.double (own_Td f l' n)), .second, .val (.int (1 : Int32)), .val (.double (own_Td (f + 1) l' n)), .second, .unset, .unset, .unset, .unset, .unset, .unset, .unset, .unset, .unset] [])) _
        refine XS.iload X15.here hx rfl (hb hby at_103) rfl ?_
        show Steps p.tables e below (T15.setTop (mkF m 105 #[.val (.int p0), .val (.int p1), .val (.int p2), .val (.int (Int32.ofNat f)), .val (.int (Int32.ofNat l')), .val (.int (Int32.ofNat n)), .val (.double (FP.i2d (Int32.ofNat n))), .second, .val (.double (own_Td f l' n)), .second, .val (.int (1 : Int32)), .val (.double (own_Td (f + 1) l' n)), .second, .unset, .unset, .unset, .unset, .unset, .unset, .unset, .unset, .unset] [(.int (1 : Int32))])) _
        refine XS.ifNo X15.here hx rfl (hb hby at_105) rfl ((if0 _ _).trans (feq (by decide)).1) ?_
        show Steps p.tables e below (T15.setTop (mkF m 108 #[.val (.int p0), .val (.int p1), .val (.int p2), .val (.int (Int32.ofNat f)), .val (.int (Int32.ofNat l')), .val (.int (Int32.ofNat n)), .val (.double (FP.i2d (Int32.ofNat n))), .second, .val (.double (own_Td f l' n)), .second, .val (.int (1 : Int32)), .val (.double (own_Td (f + 1) l' n)), .second, .unset, .unset, .unset, .unset, .unset, .unset, .unset, .unset, .unset] [])) _
        refine XS.dload X15.here hx rfl (hb hby at_108) rfl ?_
        show Steps p.tables e below (T15.setTop (mkF m 110 #[.val (.int p0), .val (.int p1), .val (.int p2), .val (.int (Int32.ofNat f)), .val (.int (Int32.ofNat l')), .val (.int (Int32.ofNat n)), .val (.double (FP.i2d (Int32.ofNat n))), .second, .val (.double (own_Td f l' n)), .second, .val (.int (1 : Int32)), .val (.double (own_Td (f + 1) l' n)), .second, .unset, .unset, .unset, .unset, .unset, .unset, .unset, .unset, .unset] [(.double (own_Td (f + 1) l' n))])) _
        refine XS.dload X15.here hx rfl (hb hby at_110) rfl ?_
        show Steps p.tables e below (T15.setTop (mkF m 112 #[.val (.int p0), .val (.int p1), .val (.int p2), .val (.int (Int32.ofNat f)), .val (.int (Int32.ofNat l')), .val (.int (Int32.ofNat n)), .val (.double (FP.i2d (Int32.ofNat n))), .second, .val (.double (own_Td f l' n)), .second, .val (.int (1 : Int32)), .val (.double (own_Td (f + 1) l' n)), .second, .unset, .unset, .unset, .unset, .unset, .unset, .unset, .unset, .unset] [(.double (own_Td f l' n)), (.double (own_Td (f + 1) l' n))])) _
        refine XS.dcmpS X15.here hx rfl (v := (1 : Int32)) (hb hby at_112) rfl (by rw [own_more hf l1 hn0 n1]; rfl) ?_
        show Steps p.tables e below (T15.setTop (mkF m 113 #[.val (.int p0), .val (.int p1), .val (.int p2), .val (.int (Int32.ofNat f)), .val (.int (Int32.ofNat l')), .val (.int (Int32.ofNat n)), .val (.double (FP.i2d (Int32.ofNat n))), .second, .val (.double (own_Td f l' n)), .second, .val (.int (1 : Int32)), .val (.double (own_Td (f + 1) l' n)), .second, .unset, .unset, .unset, .unset, .unset, .unset, .unset, .unset, .unset] [(.int (1 : Int32))])) _
        refine XS.ifNo X15.here hx rfl (hb hby at_113) rfl ((if0 _ _).trans (tlt (by decide)).2.2.2) ?_
        show Steps p.tables e below (T15.setTop (mkF m 116 #[.val (.int p0), .val (.int p1), .val (.int p2), .val (.int (Int32.ofNat f)), .val (.int (Int32.ofNat l')), .val (.int (Int32.ofNat n)), .val (.double (FP.i2d (Int32.ofNat n))), .second, .val (.double (own_Td f l' n)), .second, .val (.int (1 : Int32)), .val (.double (own_Td (f + 1) l' n)), .second, .unset, .unset, .unset, .unset, .unset, .unset, .unset, .unset, .unset] [])) _
        refine XS.iconst X15.here hx rfl (hb hby at_116) ?_
        show Steps p.tables e below (T15.setTop (mkF m 117 #[.val (.int p0), .val (.int p1), .val (.int p2), .val (.int (Int32.ofNat f)), .val (.int (Int32.ofNat l')), .val (.int (Int32.ofNat n)), .val (.double (FP.i2d (Int32.ofNat n))), .second, .val (.double (own_Td f l' n)), .second, .val (.int (1 : Int32)), .val (.double (own_Td (f + 1) l' n)), .second, .unset, .unset, .unset, .unset, .unset, .unset, .unset, .unset, .unset] [(.int (1 : Int32))])) _
        refine XS.goto X15.here hx rfl (pc0 := 117) (pc' := 121) rfl (hb hby at_117) (by decide) (by decide) ?_
        show Steps p.tables e below (T15.setTop (mkF m 121 #[.val (.int p0), .val (.int p1), .val (.int p2), .val (.int (Int32.ofNat f)), .val (.int (Int32.ofNat l')), .val (.int (Int32.ofNat n)), .val (.double (FP.i2d (Int32.ofNat n))), .second, .val (.double (own_Td f l' n)), .second, .val (.int (1 : Int32)), .val (.double (own_Td (f + 1) l' n)), .second, .unset, .unset, .unset, .unset, .unset, .unset, .unset, .unset, .unset] [(.int (1 : Int32))])) _
        refine XS.istore X15.here hx rfl (hb hby at_121) rfl (l' := #[.val (.int p0), .val (.int p1), .val (.int p2), .val (.int (Int32.ofNat f)), .val (.int (Int32.ofNat l')), .val (.int (Int32.ofNat n)), .val (.double (FP.i2d (Int32.ofNat n))), .second, .val (.double (own_Td f l' n)), .second, .val (.int (1 : Int32)), .val (.double (own_Td (f + 1) l' n)), .second, .unset, .unset, .unset, .unset, .unset, .unset, .unset, .unset, .unset]) rfl ?_
        show Steps p.tables e below (T15.setTop (mkF m 123 #[.val (.int p0), .val (.int p1), .val (.int p2), .val (.int (Int32.ofNat f)), .val (.int (Int32.ofNat l')), .val (.int (Int32.ofNat n)), .val (.double (FP.i2d (Int32.ofNat n))), .second, .val (.double (own_Td f l' n)), .second, .val (.int (1 : Int32)), .val (.double (own_Td (f + 1) l' n)), .second, .unset, .unset, .unset, .unset, .unset, .unset, .unset, .unset, .unset] [])) _
        refine XS.iloadN X15.here hx rfl (hb hby at_123) rfl ?_
        show Steps p.tables e below (T15.setTop (mkF m 124 #[.val (.int p0), .val (.int p1), .val (.int p2), .val (.int (Int32.ofNat f)), .val (.int (Int32.ofNat l')), .val (.int (Int32.ofNat n)), .val (.double (FP.i2d (Int32.ofNat n))), .second, .val (.double (own_Td f l' n)), .second, .val (.int (1 : Int32)), .val (.double (own_Td (f + 1) l' n)), .second, .unset, .unset, .unset, .unset, .unset, .unset, .unset, .unset, .unset] [(.int (Int32.ofNat f))])) _
        refine XS.iload X15.here hx rfl (hb hby at_124) rfl ?_
        show Steps p.tables e below (T15.setTop (mkF m 126 #[.val (.int p0), .val (.int p1), .val (.int p2), .val (.int (Int32.ofNat f)), .val (.int (Int32.ofNat l')), .val (.int (Int32.ofNat n)), .val (.double (FP.i2d (Int32.ofNat n))), .second, .val (.double (own_Td f l' n)), .second, .val (.int (1 : Int32)), .val (.double (own_Td (f + 1) l' n)), .second, .unset, .unset, .unset, .unset, .unset, .unset, .unset, .unset, .unset] [(.int (Int32.ofNat l')), (.int (Int32.ofNat f))])) _
        refine XS.iconst X15.here hx rfl (hb hby at_126) ?_
        show Steps p.tables e below (T15.setTop (mkF m 127 #[.val (.int p0), .val (.int p1), .val (.int p2), .val (.int (Int32.ofNat f)), .val (.int (Int32.ofNat l')), .val (.int (Int32.ofNat n)), .val (.double (FP.i2d (Int32.ofNat n))), .second, .val (.double (own_Td f l' n)), .second, .val (.int (1 : Int32)), .val (.double (own_Td (f + 1) l' n)), .second, .unset, .unset, .unset, .unset, .unset, .unset, .unset, .unset, .unset] [(.int (1 : Int32)), (.int (Int32.ofNat l')), (.int (Int32.ofNat f))])) _
        refine XS.iadd X15.here hx rfl (hb hby at_127) rfl ?_
        show Steps p.tables e below (T15.setTop (mkF m 128 #[.val (.int p0), .val (.int p1), .val (.int p2), .val (.int (Int32.ofNat f)), .val (.int (Int32.ofNat l')), .val (.int (Int32.ofNat n)), .val (.double (FP.i2d (Int32.ofNat n))), .second, .val (.double (own_Td f l' n)), .second, .val (.int (1 : Int32)), .val (.double (own_Td (f + 1) l' n)), .second, .unset, .unset, .unset, .unset, .unset, .unset, .unset, .unset, .unset] [(.int ((Int32.ofNat l') + (1 : Int32))), (.int (Int32.ofNat f))])) _
        refine st16 _ ?_
        show Steps p.tables e below (T15.setTop (mkF m 128 #[.val (.int p0), .val (.int p1), .val (.int p2), .val (.int (Int32.ofNat f)), .val (.int (Int32.ofNat l')), .val (.int (Int32.ofNat n)), .val (.double (FP.i2d (Int32.ofNat n))), .second, .val (.double (own_Td f l' n)), .second, .val (.int (1 : Int32)), .val (.double (own_Td (f + 1) l' n)), .second, .unset, .unset, .unset, .unset, .unset, .unset, .unset, .unset, .unset] [(.int (Int32.ofNat (l' + 1))), (.int (Int32.ofNat f))])) _
        refine XS.dload X15.here hx rfl (hb hby at_128) rfl ?_
        show Steps p.tables e below (T15.setTop (mkF m 130 #[.val (.int p0), .val (.int p1), .val (.int p2), .val (.int (Int32.ofNat f)), .val (.int (Int32.ofNat l')), .val (.int (Int32.ofNat n)), .val (.double (FP.i2d (Int32.ofNat n))), .second, .val (.double (own_Td f l' n)), .second, .val (.int (1 : Int32)), .val (.double (own_Td (f + 1) l' n)), .second, .unset, .unset, .unset, .unset, .unset, .unset, .unset, .unset, .unset] [(.double (FP.i2d (Int32.ofNat n))), (.int (Int32.ofNat (l' + 1))), (.int (Int32.ofNat f))])) _
        refine st17 _ ?_
        show Steps p.tables e below (T17.setTop (mkF m 133 #[.val (.int p0), .val (.int p1), .val (.int p2), .val (.int (Int32.ofNat f)), .val (.int (Int32.ofNat l')), .val (.int (Int32.ofNat n)), .val (.double (FP.i2d (Int32.ofNat n))), .second, .val (.double (own_Td f l' n)), .second, .val (.int (1 : Int32)), .val (.double (own_Td (f + 1) l' n)), .second, .unset, .unset, .unset, .unset, .unset, .unset, .unset, .unset, .unset] [(.double (own_Td f (l' + 1) n))])) _
        refine XS.dstore X17.here hx rfl (hb hby at_133) rfl (l' := #[.val (.int p0), .val (.int p1), .val (.int p2), .val (.int (Int32.ofNat f)), .val (.int (Int32.ofNat l')), .val (.int (Int32.ofNat n)), .val (.double (FP.i2d (Int32.ofNat n))), .second, .val (.double (own_Td f l' n)), .second, .val (.int (1 : Int32)), .val (.double (own_Td (f + 1) l' n)), .second, .val (.double (own_Td f (l' + 1) n)), .second, .unset, .unset, .unset, .unset, .unset, .unset, .unset]) rfl ?_
        show Steps p.tables e below (T17.setTop (mkF m 135 #[.val (.int p0), .val (.int p1), .val (.int p2), .val (.int (Int32.ofNat f)), .val (.int (Int32.ofNat l')), .val (.int (Int32.ofNat n)), .val (.double (FP.i2d (Int32.ofNat n))), .second, .val (.double (own_Td f l' n)), .second, .val (.int (1 : Int32)), .val (.double (own_Td (f + 1) l' n)), .second, .val (.double (own_Td f (l' + 1) n)), .second, .unset, .unset, .unset, .unset, .unset, .unset, .unset] [])) _
        refine XS.iloadN X17.here hx rfl (hb hby at_135) rfl ?_
        show Steps p.tables e below (T17.setTop (mkF m 136 #[.val (.int p0), .val (.int p1), .val (.int p2), .val (.int (Int32.ofNat f)), .val (.int (Int32.ofNat l')), .val (.int (Int32.ofNat n)), .val (.double (FP.i2d (Int32.ofNat n))), .second, .val (.double (own_Td f l' n)), .second, .val (.int (1 : Int32)), .val (.double (own_Td (f + 1) l' n)), .second, .val (.double (own_Td f (l' + 1) n)), .second, .unset, .unset, .unset, .unset, .unset, .unset, .unset] [(.int (Int32.ofNat f))])) _
        refine XS.ifNo X17.here hx rfl (hb hby at_136) rfl ((if0 _ _).trans (tlt (own_gt0 hf0 f1)).2.2.2) ?_
        show Steps p.tables e below (T17.setTop (mkF m 139 #[.val (.int p0), .val (.int p1), .val (.int p2), .val (.int (Int32.ofNat f)), .val (.int (Int32.ofNat l')), .val (.int (Int32.ofNat n)), .val (.double (FP.i2d (Int32.ofNat n))), .second, .val (.double (own_Td f l' n)), .second, .val (.int (1 : Int32)), .val (.double (own_Td (f + 1) l' n)), .second, .val (.double (own_Td f (l' + 1) n)), .second, .unset, .unset, .unset, .unset, .unset, .unset, .unset] [])) _
        refine XS.iload X17.here hx rfl (hb hby at_139) rfl ?_
        show Steps p.tables e below (T17.setTop (mkF m 141 #[.val (.int p0), .val (.int p1), .val (.int p2), .val (.int (Int32.ofNat f)), .val (.int (Int32.ofNat l')), .val (.int (Int32.ofNat n)), .val (.double (FP.i2d (Int32.ofNat n))), .second, .val (.double (own_Td f l' n)), .second, .val (.int (1 : Int32)), .val (.double (own_Td (f + 1) l' n)), .second, .val (.double (own_Td f (l' + 1) n)), .second, .unset, .unset, .unset, .unset, .unset, .unset, .unset] [(.int (1 : Int32))])) _
        refine XS.ifNo X17.here hx rfl (hb hby at_141) rfl ((if0 _ _).trans (feq (by decide)).1) ?_
        show Steps p.tables e below (T17.setTop (mkF m 144 #[.val (.int p0), .val (.int p1), .val (.int p2), .val (.int (Int32.ofNat f)), .val (.int (Int32.ofNat l')), .val (.int (Int32.ofNat n)), .val (.double (FP.i2d (Int32.ofNat n))), .second, .val (.double (own_Td f l' n)), .second, .val (.int (1 : Int32)), .val (.double (own_Td (f + 1) l' n)), .second, .val (.double (own_Td f (l' + 1) n)), .second, .unset, .unset, .unset, .unset, .unset, .unset, .unset] [])) _
        refine XS.dload X17.here hx rfl (hb hby at_144) rfl ?_
        show Steps p.tables e below (T17.setTop (mkF m 146 #[.val (.int p0), .val (.int p1), .val (.int p2), .val (.int (Int32.ofNat f)), .val (.int (Int32.ofNat l')), .val (.int (Int32.ofNat n)), .val (.double (FP.i2d (Int32.ofNat n))), .second, .val (.double (own_Td f l' n)), .second, .val (.int (1 : Int32)), .val (.double (own_Td (f + 1) l' n)), .second, .val (.double (own_Td f (l' + 1) n)), .second, .unset, .unset, .unset, .unset, .unset, .unset, .unset] [(.double (own_Td f (l' + 1) n))])) _
        refine XS.dload X17.here hx rfl (hb hby at_146) rfl ?_
        show Steps p.tables e below (T17.setTop (mkF m 148 #[.val (.int p0), .val (.int p1), .val (.int p2), .val (.int (Int32.ofNat f)), .val (.int (Int32.ofNat l')), .val (.int (Int32.ofNat n)), .val (.double (FP.i2d (Int32.ofNat n))), .second, .val (.double (own_Td f l' n)), .second, .val (.int (1 : Int32)), .val (.double (own_Td (f + 1) l' n)), .second, .val (.double (own_Td f (l' + 1) n)), .second, .unset, .unset, .unset, .unset, .unset, .unset, .unset] [(.double (own_Td f l' n)), (.double (own_Td f (l' + 1) n))])) _
        refine XS.dcmpS X17.here hx rfl (v := (-1 : Int32)) (hb hby at_148) rfl (by rw [own_long (by omega) f1 hl hn0 n1]; rfl) ?_
        show Steps p.tables e below (T17.setTop (mkF m 149 #[.val (.int p0), .val (.int p1), .val (.int p2), .val (.int (Int32.ofNat f)), .val (.int (Int32.ofNat l')), .val (.int (Int32.ofNat n)), .val (.double (FP.i2d (Int32.ofNat n))), .second, .val (.double (own_Td f l' n)), .second, .val (.int (1 : Int32)), .val (.double (own_Td (f + 1) l' n)), .second, .val (.double (own_Td f (l' + 1) n)), .second, .unset, .unset, .unset, .unset, .unset, .unset, .unset] [(.int (-1 : Int32))])) _
        refine XS.ifNo X17.here hx rfl (hb hby at_149) rfl ((if0 _ _).trans (tlt (by decide)).2.1) ?_
        show Steps p.tables e below (T17.setTop (mkF m 152 #[.val (.int p0), .val (.int p1), .val (.int p2), .val (.int (Int32.ofNat f)), .val (.int (Int32.ofNat l')), .val (.int (Int32.ofNat n)), .val (.double (FP.i2d (Int32.ofNat n))), .second, .val (.double (own_Td f l' n)), .second, .val (.int (1 : Int32)), .val (.double (own_Td (f + 1) l' n)), .second, .val (.double (own_Td f (l' + 1) n)), .second, .unset, .unset, .unset, .unset, .unset, .unset, .unset] [])) _
        refine XS.iconst X17.here hx rfl (hb hby at_152) ?_
        show Steps p.tables e below (T17.setTop (mkF m 153 #[.val (.int p0), .val (.int p1), .val (.int p2), .val (.int (Int32.ofNat f)), .val (.int (Int32.ofNat l')), .val (.int (Int32.ofNat n)), .val (.double (FP.i2d (Int32.ofNat n))), .second, .val (.double (own_Td f l' n)), .second, .val (.int (1 : Int32)), .val (.double (own_Td (f + 1) l' n)), .second, .val (.double (own_Td f (l' + 1) n)), .second, .unset, .unset, .unset, .unset, .unset, .unset, .unset] [(.int (1 : Int32))])) _
        refine XS.goto X17.here hx rfl (pc0 := 153) (pc' := 157) rfl (hb hby at_153) (by decide) (by decide) ?_
        show Steps p.tables e below (T17.setTop (mkF m 157 #[.val (.int p0), .val (.int p1), .val (.int p2), .val (.int (Int32.ofNat f)), .val (.int (Int32.ofNat l')), .val (.int (Int32.ofNat n)), .val (.double (FP.i2d (Int32.ofNat n))), .second, .val (.double (own_Td f l' n)), .second, .val (.int (1 : Int32)), .val (.double (own_Td (f + 1) l' n)), .second, .val (.double (own_Td f (l' + 1) n)), .second, .unset, .unset, .unset, .unset, .unset, .unset, .unset] [(.int (1 : Int32))])) _
        refine XS.istore X17.here hx rfl (hb hby at_157) rfl (l' := #[.val (.int p0), .val (.int p1), .val (.int p2), .val (.int (Int32.ofNat f)), .val (.int (Int32.ofNat l')), .val (.int (Int32.ofNat n)), .val (.double (FP.i2d (Int32.ofNat n))), .second, .val (.double (own_Td f l' n)), .second, .val (.int (1 : Int32)), .val (.double (own_Td (f + 1) l' n)), .second, .val (.double (own_Td f (l' + 1) n)), .second, .unset, .unset, .unset, .unset, .unset, .unset, .unset]) rfl ?_
        show Steps p.tables e below (T17.setTop (mkF m 159 #[.val (.int p0), .val (.int p1), .val (.int p2), .val (.int (Int32.ofNat f)), .val (.int (Int32.ofNat l')), .val (.int (Int32.ofNat n)), .val (.double (FP.i2d (Int32.ofNat n))), .second, .val (.double (own_Td f l' n)), .second, .val (.int (1 : Int32)), .val (.double (own_Td (f + 1) l' n)), .second, .val (.double (own_Td f (l' + 1) n)), .second, .unset, .unset, .unset, .unset, .unset, .unset, .unset] [])) _
        refine XS.goto X17.here hx rfl (pc0 := 159) (pc' := 181) rfl (hb hby at_159) (by decide) (by decide) ?_
        show Steps p.tables e below (T17.setTop (mkF m 181 #[.val (.int p0), .val (.int p1), .val (.int p2), .val (.int (Int32.ofNat f)), .val (.int (Int32.ofNat l')), .val (.int (Int32.ofNat n)), .val (.double (FP.i2d (Int32.ofNat n))), .second, .val (.double (own_Td f l' n)), .second, .val (.int (1 : Int32)), .val (.double (own_Td (f + 1) l' n)), .second, .val (.double (own_Td f (l' + 1) n)), .second, .unset, .unset, .unset, .unset, .unset, .unset, .unset] [])) _
        refine XS.iloadN X17.here hx rfl (hb hby at_181) rfl ?_
        show Steps p.tables e below (T17.setTop (mkF m 182 #[.val (.int p0), .val (.int p1), .val (.int p2), .val (.int (Int32.ofNat f)), .val (.int (Int32.ofNat l')), .val (.int (Int32.ofNat n)), .val (.double (FP.i2d (Int32.ofNat n))), .second, .val (.double (own_Td f l' n)), .second, .val (.int (1 : Int32)), .val (.double (own_Td (f + 1) l' n)), .second, .val (.double (own_Td f (l' + 1) n)), .second, .unset, .unset, .unset, .unset, .unset, .unset, .unset] [(.int (Int32.ofNat f))])) _
        refine XS.iload X17.here hx rfl (hb hby at_182) rfl ?_
        show Steps p.tables e below (T17.setTop (mkF m 184 #[.val (.int p0), .val (.int p1), .val (.int p2), .val (.int (Int32.ofNat f)), .val (.int (Int32.ofNat l')), .val (.int (Int32.ofNat n)), .val (.double (FP.i2d (Int32.ofNat n))), .second, .val (.double (own_Td f l' n)), .second, .val (.int (1 : Int32)), .val (.double (own_Td (f + 1) l' n)), .second, .val (.double (own_Td f (l' + 1) n)), .second, .unset, .unset, .unset, .unset, .unset, .unset, .unset] [(.int (Int32.ofNat l')), (.int (Int32.ofNat f))])) _
        refine XS.iload X17.here hx rfl (hb hby at_184) rfl ?_
        show Steps p.tables e below (T17.setTop (mkF m 186 #[.val (.int p0), .val (.int p1), .val (.int p2), .val (.int (Int32.ofNat f)), .val (.int (Int32.ofNat l')), .val (.int (Int32.ofNat n)), .val (.double (FP.i2d (Int32.ofNat n))), .second, .val (.double (own_Td f l' n)), .second, .val (.int (1 : Int32)), .val (.double (own_Td (f + 1) l' n)), .second, .val (.double (own_Td f (l' + 1) n)), .second, .unset, .unset, .unset, .unset, .unset, .unset, .unset] [(.int (Int32.ofNat n)), (.int (Int32.ofNat l')), (.int (Int32.ofNat f))])) _
        refine XS.iconst X17.here hx rfl (hb hby at_186) ?_
        show Steps p.tables e below (T17.setTop (mkF m 187 #[.val (.int p0), .val (.int p1), .val (.int p2), .val (.int (Int32.ofNat f)), .val (.int (Int32.ofNat l')), .val (.int (Int32.ofNat n)), .val (.double (FP.i2d (Int32.ofNat n))), .second, .val (.double (own_Td f l' n)), .second, .val (.int (1 : Int32)), .val (.double (own_Td (f + 1) l' n)), .second, .val (.double (own_Td f (l' + 1) n)), .second, .unset, .unset, .unset, .unset, .unset, .unset, .unset] [(.int (1 : Int32)), (.int (Int32.ofNat n)), (.int (Int32.ofNat l')), (.int (Int32.ofNat f))])) _
        refine XS.iadd X17.here hx rfl (hb hby at_187) rfl ?_
        show Steps p.tables e below (T17.setTop (mkF m 188 #[.val (.int p0), .val (.int p1), .val (.int p2), .val (.int (Int32.ofNat f)), .val (.int (Int32.ofNat l')), .val (.int (Int32.ofNat n)), .val (.double (FP.i2d (Int32.ofNat n))), .second, .val (.double (own_Td f l' n)), .second, .val (.int (1 : Int32)), .val (.double (own_Td (f + 1) l' n)), .second, .val (.double (own_Td f (l' + 1) n)), .second, .unset, .unset, .unset, .unset, .unset, .unset, .unset] [(.int ((Int32.ofNat n) + (1 : Int32))), (.int (Int32.ofNat l')), (.int (Int32.ofNat f))])) _
        refine st18 _ ?_
        show Steps p.tables e below (T17.setTop (mkF m 188 #[.val (.int p0), .val (.int p1), .val (.int p2), .val (.int (Int32.ofNat f)), .val (.int (Int32.ofNat l')), .val (.int (Int32.ofNat n)), .val (.double (FP.i2d (Int32.ofNat n))), .second, .val (.double (own_Td f l' n)), .second, .val (.int (1 : Int32)), .val (.double (own_Td (f + 1) l' n)), .second, .val (.double (own_Td f (l' + 1) n)), .second, .unset, .unset, .unset, .unset, .unset, .unset, .unset] [(.int (Int32.ofNat (n + 1))), (.int (Int32.ofNat l')), (.int (Int32.ofNat f))])) _
        refine XS.i2dS X17.here hx rfl (hb hby at_188) rfl rfl ?_
        show Steps p.tables e below (T17.setTop (mkF m 189 #[.val (.int p0), .val (.int p1), .val (.int p2), .val (.int (Int32.ofNat f)), .val (.int (Int32.ofNat l')), .val (.int (Int32.ofNat n)), .val (.double (FP.i2d (Int32.ofNat n))), .second, .val (.double (own_Td f l' n)), .second, .val (.int (1 : Int32)), .val (.double (own_Td (f + 1) l' n)), .second, .val (.double (own_Td f (l' + 1) n)), .second, .unset, .unset, .unset, .unset, .unset, .unset, .unset] [(.double (FP.i2d (Int32.ofNat (n + 1)))), (.int (Int32.ofNat l')), (.int (Int32.ofNat f))])) _
        refine st19 _ ?_
        show Steps p.tables e below (T19.setTop (mkF m 192 #[.val (.int p0), .val (.int p1), .val (.int p2), .val (.int (Int32.ofNat f)), .val (.int (Int32.ofNat l')), .val (.int (Int32.ofNat n)), .val (.double (FP.i2d (Int32.ofNat n))), .second, .val (.double (own_Td f l' n)), .second, .val (.int (1 : Int32)), .val (.double (own_Td (f + 1) l' n)), .second, .val (.double (own_Td f (l' + 1) n)), .second, .unset, .unset, .unset, .unset, .unset, .unset, .unset] [(.double (own_Td f l' (n + 1)))])) _
        refine XS.dstore X19.here hx rfl (hb hby at_192) rfl (l' := #[.val (.int p0), .val (.int p1), .val (.int p2), .val (.int (Int32.ofNat f)), .val (.int (Int32.ofNat l')), .val (.int (Int32.ofNat n)), .val (.double (FP.i2d (Int32.ofNat n))), .second, .val (.double (own_Td f l' n)), .second, .val (.int (1 : Int32)), .val (.double (own_Td (f + 1) l' n)), .second, .val (.double (own_Td f (l' + 1) n)), .second, .val (.double (own_Td f l' (n + 1))), .second, .unset, .unset, .unset, .unset, .unset]) rfl ?_
        show Steps p.tables e below (T19.setTop (mkF m 194 #[.val (.int p0), .val (.int p1), .val (.int p2), .val (.int (Int32.ofNat f)), .val (.int (Int32.ofNat l')), .val (.int (Int32.ofNat n)), .val (.double (FP.i2d (Int32.ofNat n))), .second, .val (.double (own_Td f l' n)), .second, .val (.int (1 : Int32)), .val (.double (own_Td (f + 1) l' n)), .second, .val (.double (own_Td f (l' + 1) n)), .second, .val (.double (own_Td f l' (n + 1))), .second, .unset, .unset, .unset, .unset, .unset] [])) _
        refine XS.iloadN X19.here hx rfl (hb hby at_194) rfl ?_
        show Steps p.tables e below (T19.setTop (mkF m 195 #[.val (.int p0), .val (.int p1), .val (.int p2), .val (.int (Int32.ofNat f)), .val (.int (Int32.ofNat l')), .val (.int (Int32.ofNat n)), .val (.double (FP.i2d (Int32.ofNat n))), .second, .val (.double (own_Td f l' n)), .second, .val (.int (1 : Int32)), .val (.double (own_Td (f + 1) l' n)), .second, .val (.double (own_Td f (l' + 1) n)), .second, .val (.double (own_Td f l' (n + 1))), .second, .unset, .unset, .unset, .unset, .unset] [(.int (Int32.ofNat f))])) _
        refine XS.ifNo X19.here hx rfl (hb hby at_195) rfl ((if0 _ _).trans (tlt (own_gt0 hf0 f1)).2.2.2) ?_
        show Steps p.tables e below (T19.setTop (mkF m 198 #[.val (.int p0), .val (.int p1), .val (.int p2), .val (.int (Int32.ofNat f)), .val (.int (Int32.ofNat l')), .val (.int (Int32.ofNat n)), .val (.double (FP.i2d (Int32.ofNat n))), .second, .val (.double (own_Td f l' n)), .second, .val (.int (1 : Int32)), .val (.double (own_Td (f + 1) l' n)), .second, .val (.double (own_Td f (l' + 1) n)), .second, .val (.double (own_Td f l' (n + 1))), .second, .unset, .unset, .unset, .unset, .unset] [])) _
        refine XS.iload X19.here hx rfl (hb hby at_198) rfl ?_
        show Steps p.tables e below (T19.setTop (mkF m 200 #[.val (.int p0), .val (.int p1), .val (.int p2), .val (.int (Int32.ofNat f)), .val (.int (Int32.ofNat l')), .val (.int (Int32.ofNat n)), .val (.double (FP.i2d (Int32.ofNat n))), .second, .val (.double (own_Td f l' n)), .second, .val (.int (1 : Int32)), .val (.double (own_Td (f + 1) l' n)), .second, .val (.double (own_Td f (l' + 1) n)), .second, .val (.double (own_Td f l' (n + 1))), .second, .unset, .unset, .unset, .unset, .unset] [(.int (Int32.ofNat l'))])) _
        refine XS.ifYes X19.here hx rfl (pc0 := 200) (pc' := 226) rfl (hb hby at_200) rfl ((if0 _ _).trans (flt (by rw [hl0]; decide)).2.2.2) (by decide) (by decide) ?_
        show Steps p.tables e below (T19.setTop (mkF m 226 #[.val (.int p0), .val (.int p1), .val (.int p2), .val (.int (Int32.ofNat f)), .val (.int (Int32.ofNat l')), .val (.int (Int32.ofNat n)), .val (.double (FP.i2d (Int32.ofNat n))), .second, .val (.double (own_Td f l' n)), .second, .val (.int (1 : Int32)), .val (.double (own_Td (f + 1) l' n)), .second, .val (.double (own_Td f (l' + 1) n)), .second, .val (.double (own_Td f l' (n + 1))), .second, .unset, .unset, .unset, .unset, .unset] [])) _
        refine XS.iloadN X19.here hx rfl (hb hby at_226) rfl ?_
        show Steps p.tables e below (T19.setTop (mkF m 227 #[.val (.int p0), .val (.int p1), .val (.int p2), .val (.int (Int32.ofNat f)), .val (.int (Int32.ofNat l')), .val (.int (Int32.ofNat n)), .val (.double (FP.i2d (Int32.ofNat n))), .second, .val (.double (own_Td f l' n)), .second, .val (.int (1 : Int32)), .val (.double (own_Td (f + 1) l' n)), .second, .val (.double (own_Td f (l' + 1) n)), .second, .val (.double (own_Td f l' (n + 1))), .second, .unset, .unset, .unset, .unset, .unset] [(.int (Int32.ofNat f))])) _
        refine XS.ifYes X19.here hx rfl (pc0 := 227) (pc' := 252) rfl (hb hby at_227) rfl ((if0 _ _).trans (feq (own_ne0 hf0 f1)).2) (by decide) (by decide) ?_
        show Steps p.tables e below (T19.setTop (mkF m 252 #[.val (.int p0), .val (.int p1), .val (.int p2), .val (.int (Int32.ofNat f)), .val (.int (Int32.ofNat l')), .val (.int (Int32.ofNat n)), .val (.double (FP.i2d (Int32.ofNat n))), .second, .val (.double (own_Td f l' n)), .second, .val (.int (1 : Int32)), .val (.double (own_Td (f + 1) l' n)), .second, .val (.double (own_Td f (l' + 1) n)), .second, .val (.double (own_Td f l' (n + 1))), .second, .unset, .unset, .unset, .unset, .unset] [])) _
        refine XS.iload X19.here hx rfl (hb hby at_252) rfl ?_
        show Steps p.tables e below (T19.setTop (mkF m 254 #[.val (.int p0), .val (.int p1), .val (.int p2), .val (.int (Int32.ofNat f)), .val (.int (Int32.ofNat l')), .val (.int (Int32.ofNat n)), .val (.double (FP.i2d (Int32.ofNat n))), .second, .val (.double (own_Td f l' n)), .second, .val (.int (1 : Int32)), .val (.double (own_Td (f + 1) l' n)), .second, .val (.double (own_Td f (l' + 1) n)), .second, .val (.double (own_Td f l' (n + 1))), .second, .unset, .unset, .unset, .unset, .unset] [(.int (1 : Int32))])) _
        refine XS.ifNo X19.here hx rfl (hb hby at_254) rfl ((if0 _ _).trans (feq (by decide)).1) ?_
        show Steps p.tables e below (T19.setTop (mkF m 257 #[.val (.int p0), .val (.int p1), .val (.int p2), .val (.int (Int32.ofNat f)), .val (.int (Int32.ofNat l')), .val (.int (Int32.ofNat n)), .val (.double (FP.i2d (Int32.ofNat n))), .second, .val (.double (own_Td f l' n)), .second, .val (.int (1 : Int32)), .val (.double (own_Td (f + 1) l' n)), .second, .val (.double (own_Td f (l' + 1) n)), .second, .val (.double (own_Td f l' (n + 1))), .second, .unset, .unset, .unset, .unset, .unset] [])) _
        refine XS.dload X19.here hx rfl (hb hby at_257) rfl ?_
        show Steps p.tables e below (T19.setTop (mkF m 259 #[.val (.int p0), .val (.int p1), .val (.int p2), .val (.int (Int32.ofNat f)), .val (.int (Int32.ofNat l')), .val (.int (Int32.ofNat n)), .val (.double (FP.i2d (Int32.ofNat n))), .second, .val (.double (own_Td f l' n)), .second, .val (.int (1 : Int32)), .val (.double (own_Td (f + 1) l' n)), .second, .val (.double (own_Td f (l' + 1) n)), .second, .val (.double (own_Td f l' (n + 1))), .second, .unset, .unset, .unset, .unset, .unset] [(.double (own_Td f l' (n + 1)))])) _
        refine XS.dload X19.here hx rfl (hb hby at_259) rfl ?_
        show Steps p.tables e below (T19.setTop (mkF m 261 #[.val (.int p0), .val (.int p1), .val (.int p2), .val (.int (Int32.ofNat f)), .val (.int (Int32.ofNat l')), .val (.int (Int32.ofNat n)), .val (.double (FP.i2d (Int32.ofNat n))), .second, .val (.double (own_Td f l' n)), .second, .val (.int (1 : Int32)), .val (.double (own_Td (f + 1) l' n)), .second, .val (.double (own_Td f (l' + 1) n)), .second, .val (.double (own_Td f l' (n + 1))), .second, .unset, .unset, .unset, .unset, .unset] [(.double (own_Td f l' n)), (.double (own_Td f l' (n + 1)))])) _
        refine XS.dcmpS X19.here hx rfl (v := (0 : Int32)) (hb hby at_261) rfl (by rw [hl0, own_same hn0 n1 n2 n3, own_self f1 (Nat.zero_le _) hn0 n1]; rfl) ?_
        show Steps p.tables e below (T19.setTop (mkF m 262 #[.val (.int p0), .val (.int p1), .val (.int p2), .val (.int (Int32.ofNat f)), .val (.int (Int32.ofNat l')), .val (.int (Int32.ofNat n)), .val (.double (FP.i2d (Int32.ofNat n))), .second, .val (.double (own_Td f l' n)), .second, .val (.int (1 : Int32)), .val (.double (own_Td (f + 1) l' n)), .second, .val (.double (own_Td f (l' + 1) n)), .second, .val (.double (own_Td f l' (n + 1))), .second, .unset, .unset, .unset, .unset, .unset] [(.int (0 : Int32))])) _
        refine XS.ifNo X19.here hx rfl (hb hby at_262) rfl ((if0 _ _).trans (teq (by decide)).2) ?_
        show Steps p.tables e below (T19.setTop (mkF m 265 #[.val (.int p0), .val (.int p1), .val (.int p2), .val (.int (Int32.ofNat f)), .val (.int (Int32.ofNat l')), .val (.int (Int32.ofNat n)), .val (.double (FP.i2d (Int32.ofNat n))), .second, .val (.double (own_Td f l' n)), .second, .val (.int (1 : Int32)), .val (.double (own_Td (f + 1) l' n)), .second, .val (.double (own_Td f (l' + 1) n)), .second, .val (.double (own_Td f l' (n + 1))), .second, .unset, .unset, .unset, .unset, .unset] [])) _
        refine XS.iconst X19.here hx rfl (hb hby at_265) ?_
        show Steps p.tables e below (T19.setTop (mkF m 266 #[.val (.int p0), .val (.int p1), .val (.int p2), .val (.int (Int32.ofNat f)), .val (.int (Int32.ofNat l')), .val (.int (Int32.ofNat n)), .val (.double (FP.i2d (Int32.ofNat n))), .second, .val (.double (own_Td f l' n)), .second, .val (.int (1 : Int32)), .val (.double (own_Td (f + 1) l' n)), .second, .val (.double (own_Td f (l' + 1) n)), .second, .val (.double (own_Td f l' (n + 1))), .second, .unset, .unset, .unset, .unset, .unset] [(.int (1 : Int32))])) _
        refine XS.goto X19.here hx rfl (pc0 := 266) (pc' := 270) rfl (hb hby at_266) (by decide) (by decide) ?_
        show Steps p.tables e below (T19.setTop (mkF m 270 #[.val (.int p0), .val (.int p1), .val (.int p2), .val (.int (Int32.ofNat f)), .val (.int (Int32.ofNat l')), .val (.int (Int32.ofNat n)), .val (.double (FP.i2d (Int32.ofNat n))), .second, .val (.double (own_Td f l' n)), .second, .val (.int (1 : Int32)), .val (.double (own_Td (f + 1) l' n)), .second, .val (.double (own_Td f (l' + 1) n)), .second, .val (.double (own_Td f l' (n + 1))), .second, .unset, .unset, .unset, .unset, .unset] [(.int (1 : Int32))])) _
        refine XS.istore X19.here hx rfl (hb hby at_270) rfl (l' := #[.val (.int p0), .val (.int p1), .val (.int p2), .val (.int (Int32.ofNat f)), .val (.int (Int32.ofNat l')), .val (.int (Int32.ofNat n)), .val (.double (FP.i2d (Int32.ofNat n))), .second, .val (.double (own_Td f l' n)), .second, .val (.int (1 : Int32)), .val (.double (own_Td (f + 1) l' n)), .second, .val (.double (own_Td f (l' + 1) n)), .second, .val (.double (own_Td f l' (n + 1))), .second, .unset, .unset, .unset, .unset, .unset]) rfl ?_
        show Steps p.tables e below (T19.setTop (mkF m 272 #[.val (.int p0), .val (.int p1), .val (.int p2), .val (.int (Int32.ofNat f)), .val (.int (Int32.ofNat l')), .val (.int (Int32.ofNat n)), .val (.double (FP.i2d (Int32.ofNat n))), .second, .val (.double (own_Td f l' n)), .second, .val (.int (1 : Int32)), .val (.double (own_Td (f + 1) l' n)), .second, .val (.double (own_Td f (l' + 1) n)), .second, .val (.double (own_Td f l' (n + 1))), .second, .unset, .unset, .unset, .unset, .unset] [])) _
        refine XS.iload X19.here hx rfl (hb hby at_272) rfl ?_
        show Steps p.tables e below (T19.setTop (mkF m 274 #[.val (.int p0), .val (.int p1), .val (.int p2), .val (.int (Int32.ofNat f)), .val (.int (Int32.ofNat l')), .val (.int (Int32.ofNat n)), .val (.double (FP.i2d (Int32.ofNat n))), .second, .val (.double (own_Td f l' n)), .second, .val (.int (1 : Int32)), .val (.double (own_Td (f + 1) l' n)), .second, .val (.double (own_Td f (l' + 1) n)), .second, .val (.double (own_Td f l' (n + 1))), .second, .unset, .unset, .unset, .unset, .unset] [(.int (Int32.ofNat l'))])) _
        refine XS.iconst X19.here hx rfl (hb hby at_274) ?_
        show Steps p.tables e below (T19.setTop (mkF m 275 #[.val (.int p0), .val (.int p1), .val (.int p2), .val (.int (Int32.ofNat f)), .val (.int (Int32.ofNat l')), .val (.int (Int32.ofNat n)), .val (.double (FP.i2d (Int32.ofNat n))), .second, .val (.double (own_Td f l' n)), .second, .val (.int (1 : Int32)), .val (.double (own_Td (f + 1) l' n)), .second, .val (.double (own_Td f (l' + 1) n)), .second, .val (.double (own_Td f l' (n + 1))), .second, .unset, .unset, .unset, .unset, .unset] [(.int (1 : Int32)), (.int (Int32.ofNat l'))])) _
        refine XS.iadd X19.here hx rfl (hb hby at_275) rfl ?_
        show Steps p.tables e below (T19.setTop (mkF m 276 #[.val (.int p0), .val (.int p1), .val (.int p2), .val (.int (Int32.ofNat f)), .val (.int (Int32.ofNat l')), .val (.int (Int32.ofNat n)), .val (.double (FP.i2d (Int32.ofNat n))), .second, .val (.double (own_Td f l' n)), .second, .val (.int (1 : Int32)), .val (.double (own_Td (f + 1) l' n)), .second, .val (.double (own_Td f (l' + 1) n)), .second, .val (.double (own_Td f l' (n + 1))), .second, .unset, .unset, .unset, .unset, .unset] [(.int ((Int32.ofNat l') + (1 : Int32)))])) _
        refine st20 _ ?_
        show Steps p.tables e below (T19.setTop (mkF m 276 #[.val (.int p0), .val (.int p1), .val (.int p2), .val (.int (Int32.ofNat f)), .val (.int (Int32.ofNat l')), .val (.int (Int32.ofNat n)), .val (.double (FP.i2d (Int32.ofNat n))), .second, .val (.double (own_Td f l' n)), .second, .val (.int (1 : Int32)), .val (.double (own_Td (f + 1) l' n)), .second, .val (.double (own_Td f (l' + 1) n)), .second, .val (.double (own_Td f l' (n + 1))), .second, .unset, .unset, .unset, .unset, .unset] [(.int (Int32.ofNat (l' + 1)))])) _
        refine XS.istore X19.here hx rfl (hb hby at_276) rfl (l' := #[.val (.int p0), .val (.int p1), .val (.int p2), .val (.int (Int32.ofNat f)), .val (.int (Int32.ofNat l')), .val (.int (Int32.ofNat n)), .val (.double (FP.i2d (Int32.ofNat n))), .second, .val (.double (own_Td f l' n)), .second, .val (.int (1 : Int32)), .val (.double (own_Td (f + 1) l' n)), .second, .val (.double (own_Td f (l' + 1) n)), .second, .val (.double (own_Td f l' (n + 1))), .second, .val (.int (Int32.ofNat (l' + 1))), .unset, .unset, .unset, .unset]) rfl ?_
        show Steps p.tables e below (T19.setTop (mkF m 278 #[.val (.int p0), .val (.int p1), .val (.int p2), .val (.int (Int32.ofNat f)), .val (.int (Int32.ofNat l')), .val (.int (Int32.ofNat n)), .val (.double (FP.i2d (Int32.ofNat n))), .second, .val (.double (own_Td f l' n)), .second, .val (.int (1 : Int32)), .val (.double (own_Td (f + 1) l' n)), .second, .val (.double (own_Td f (l' + 1) n)), .second, .val (.double (own_Td f l' (n + 1))), .second, .val (.int (Int32.ofNat (l' + 1))), .unset, .unset, .unset, .unset] [])) _
        refine XS.iloadN X19.here hx rfl (hb hby at_278) rfl ?_
        show Steps p.tables e below (T19.setTop (mkF m 279 #[.val (.int p0), .val (.int p1), .val (.int p2), .val (.int (Int32.ofNat f)), .val (.int (Int32.ofNat l')), .val (.int (Int32.ofNat n)), .val (.double (FP.i2d (Int32.ofNat n))), .second, .val (.double (own_Td f l' n)), .second, .val (.int (1 : Int32)), .val (.double (own_Td (f + 1) l' n)), .second, .val (.double (own_Td f (l' + 1) n)), .second, .val (.double (own_Td f l' (n + 1))), .second, .val (.int (Int32.ofNat (l' + 1))), .unset, .unset, .unset, .unset] [(.int (Int32.ofNat f))])) _
        refine XS.iload X19.here hx rfl (hb hby at_279) rfl ?_
        show Steps p.tables e below (T19.setTop (mkF m 281 #[.val (.int p0), .val (.int p1), .val (.int p2), .val (.int (Int32.ofNat f)), .val (.int (Int32.ofNat l')), .val (.int (Int32.ofNat n)), .val (.double (FP.i2d (Int32.ofNat n))), .second, .val (.double (own_Td f l' n)), .second, .val (.int (1 : Int32)), .val (.double (own_Td (f + 1) l' n)), .second, .val (.double (own_Td f (l' + 1) n)), .second, .val (.double (own_Td f l' (n + 1))), .second, .val (.int (Int32.ofNat (l' + 1))), .unset, .unset, .unset, .unset] [(.int (Int32.ofNat (l' + 1))), (.int (Int32.ofNat f))])) _
        refine XS.iload X19.here hx rfl (hb hby at_281) rfl ?_
        show Steps p.tables e below (T19.setTop (mkF m 283 #[.val (.int p0), .val (.int p1), .val (.int p2), .val (.int (Int32.ofNat f)), .val (.int (Int32.ofNat l')), .val (.int (Int32.ofNat n)), .val (.double (FP.i2d (Int32.ofNat n))), .second, .val (.double (own_Td f l' n)), .second, .val (.int (1 : Int32)), .val (.double (own_Td (f + 1) l' n)), .second, .val (.double (own_Td f (l' + 1) n)), .second, .val (.double (own_Td f l' (n + 1))), .second, .val (.int (Int32.ofNat (l' + 1))), .unset, .unset, .unset, .unset] [(.int (Int32.ofNat (l' + 1))), (.int (Int32.ofNat (l' + 1))), (.int (Int32.ofNat f))])) _
        refine XS.i2dS X19.here hx rfl (hb hby at_283) rfl rfl ?_
        show Steps p.tables e below (T19.setTop (mkF m 284 #[.val (.int p0), .val (.int p1), .val (.int p2), .val (.int (Int32.ofNat f)), .val (.int (Int32.ofNat l')), .val (.int (Int32.ofNat n)), .val (.double (FP.i2d (Int32.ofNat n))), .second, .val (.double (own_Td f l' n)), .second, .val (.int (1 : Int32)), .val (.double (own_Td (f + 1) l' n)), .second, .val (.double (own_Td f (l' + 1) n)), .second, .val (.double (own_Td f l' (n + 1))), .second, .val (.int (Int32.ofNat (l' + 1))), .unset, .unset, .unset, .unset] [(.double (FP.i2d (Int32.ofNat (l' + 1)))), (.int (Int32.ofNat (l' + 1))), (.int (Int32.ofNat f))])) _
        refine st21 _ ?_
        show Steps p.tables e below (T21.setTop (mkF m 287 #[.val (.int p0), .val (.int p1), .val (.int p2), .val (.int (Int32.ofNat f)), .val (.int (Int32.ofNat l')), .val (.int (Int32.ofNat n)), .val (.double (FP.i2d (Int32.ofNat n))), .second, .val (.double (own_Td f l' n)), .second, .val (.int (1 : Int32)), .val (.double (own_Td (f + 1) l' n)), .second, .val (.double (own_Td f (l' + 1) n)), .second, .val (.double (own_Td f l' (n + 1))), .second, .val (.int (Int32.ofNat (l' + 1))), .unset, .unset, .unset, .unset] [(.double (own_Td f (l' + 1) (l' + 1)))])) _
        refine XS.dstore X21.here hx rfl (hb hby at_287) rfl (l' := #[.val (.int p0), .val (.int p1), .val (.int p2), .val (.int (Int32.ofNat f)), .val (.int (Int32.ofNat l')), .val (.int (Int32.ofNat n)), .val (.double (FP.i2d (Int32.ofNat n))), .second, .val (.double (own_Td f l' n)), .second, .val (.int (1 : Int32)), .val (.double (own_Td (f + 1) l' n)), .second, .val (.double (own_Td f (l' + 1) n)), .second, .val (.double (own_Td f l' (n + 1))), .second, .val (.int (Int32.ofNat (l' + 1))), .val (.double (own_Td f (l' + 1) (l' + 1))), .second, .unset, .unset]) rfl ?_
        show Steps p.tables e below (T21.setTop (mkF m 289 #[.val (.int p0), .val (.int p1), .val (.int p2), .val (.int (Int32.ofNat f)), .val (.int (Int32.ofNat l')), .val (.int (Int32.ofNat n)), .val (.double (FP.i2d (Int32.ofNat n))), .second, .val (.double (own_Td f l' n)), .second, .val (.int (1 : Int32)), .val (.double (own_Td (f + 1) l' n)), .second, .val (.double (own_Td f (l' + 1) n)), .second, .val (.double (own_Td f l' (n + 1))), .second, .val (.int (Int32.ofNat (l' + 1))), .val (.double (own_Td f (l' + 1) (l' + 1))), .second, .unset, .unset] [])) _
        refine XS.iload X21.here hx rfl (hb hby at_289) rfl ?_
        show Steps p.tables e below (T21.setTop (mkF m 291 #[.val (.int p0), .val (.int p1), .val (.int p2), .val (.int (Int32.ofNat f)), .val (.int (Int32.ofNat l')), .val (.int (Int32.ofNat n)), .val (.double (FP.i2d (Int32.ofNat n))), .second, .val (.double (own_Td f l' n)), .second, .val (.int (1 : Int32)), .val (.double (own_Td (f + 1) l' n)), .second, .val (.double (own_Td f (l' + 1) n)), .second, .val (.double (own_Td f l' (n + 1))), .second, .val (.int (Int32.ofNat (l' + 1))), .val (.double (own_Td f (l' + 1) (l' + 1))), .second, .unset, .unset] [(.int (1 : Int32))])) _
        refine XS.ifNo X21.here hx rfl (hb hby at_291) rfl ((if0 _ _).trans (feq (by decide)).1) ?_
        show Steps p.tables e below (T21.setTop (mkF m 294 #[.val (.int p0), .val (.int p1), .val (.int p2), .val (.int (Int32.ofNat f)), .val (.int (Int32.ofNat l')), .val (.int (Int32.ofNat n)), .val (.double (FP.i2d (Int32.ofNat n))), .second, .val (.double (own_Td f l' n)), .second, .val (.int (1 : Int32)), .val (.double (own_Td (f + 1) l' n)), .second, .val (.double (own_Td f (l' + 1) n)), .second, .val (.double (own_Td f l' (n + 1))), .second, .val (.int (Int32.ofNat (l' + 1))), .val (.double (own_Td f (l' + 1) (l' + 1))), .second, .unset, .unset] [])) _
        refine XS.dload X21.here hx rfl (hb hby at_294) rfl ?_
        show Steps p.tables e below (T21.setTop (mkF m 296 #[.val (.int p0), .val (.int p1), .val (.int p2), .val (.int (Int32.ofNat f)), .val (.int (Int32.ofNat l')), .val (.int (Int32.ofNat n)), .val (.double (FP.i2d (Int32.ofNat n))), .second, .val (.double (own_Td f l' n)), .second, .val (.int (1 : Int32)), .val (.double (own_Td (f + 1) l' n)), .second, .val (.double (own_Td f (l' + 1) n)), .second, .val (.double (own_Td f l' (n + 1))), .second, .val (.int (Int32.ofNat (l' + 1))), .val (.double (own_Td f (l' + 1) (l' + 1))), .second, .unset, .unset] [(.double (own_Td f (l' + 1) (l' + 1)))])) _
        refine XS.iloadN X21.here hx rfl (hb hby at_296) rfl ?_
        show Steps p.tables e below (T21.setTop (mkF m 297 #[.val (.int p0), .val (.int p1), .val (.int p2), .val (.int (Int32.ofNat f)), .val (.int (Int32.ofNat l')), .val (.int (Int32.ofNat n)), .val (.double (FP.i2d (Int32.ofNat n))), .second, .val (.double (own_Td f l' n)), .second, .val (.int (1 : Int32)), .val (.double (own_Td (f + 1) l' n)), .second, .val (.double (own_Td f (l' + 1) n)), .second, .val (.double (own_Td f l' (n + 1))), .second, .val (.int (Int32.ofNat (l' + 1))), .val (.double (own_Td f (l' + 1) (l' + 1))), .second, .unset, .unset] [(.int (Int32.ofNat f)), (.double (own_Td f (l' + 1) (l' + 1)))])) _
        refine XS.i2dS X21.here hx rfl (hb hby at_297) rfl rfl ?_
        show Steps p.tables e below (T21.setTop (mkF m 298 #[.val (.int p0), .val (.int p1), .val (.int p2), .val (.int (Int32.ofNat f)), .val (.int (Int32.ofNat l')), .val (.int (Int32.ofNat n)), .val (.double (FP.i2d (Int32.ofNat n))), .second, .val (.double (own_Td f l' n)), .second, .val (.int (1 : Int32)), .val (.double (own_Td (f + 1) l' n)), .second, .val (.double (own_Td f (l' + 1) n)), .second, .val (.double (own_Td f l' (n + 1))), .second, .val (.int (Int32.ofNat (l' + 1))), .val (.double (own_Td f (l' + 1) (l' + 1))), .second, .unset, .unset] [(.double (FP.i2d (Int32.ofNat f))), (.double (own_Td f (l' + 1) (l' + 1)))])) _
        refine XS.iloadN X21.here hx rfl (hb hby at_298) rfl ?_
        show Steps p.tables e below (T21.setTop (mkF m 299 #[.val (.int p0), .val (.int p1), .val (.int p2), .val (.int (Int32.ofNat f)), .val (.int (Int32.ofNat l')), .val (.int (Int32.ofNat n)), .val (.double (FP.i2d (Int32.ofNat n))), .second, .val (.double (own_Td f l' n)), .second, .val (.int (1 : Int32)), .val (.double (own_Td (f + 1) l' n)), .second, .val (.double (own_Td f (l' + 1) n)), .second, .val (.double (own_Td f l' (n + 1))), .second, .val (.int (Int32.ofNat (l' + 1))), .val (.double (own_Td f (l' + 1) (l' + 1))), .second, .unset, .unset] [(.int (Int32.ofNat f)), (.double (FP.i2d (Int32.ofNat f))), (.double (own_Td f (l' + 1) (l' + 1)))])) _
        refine XS.i2dS X21.here hx rfl (hb hby at_299) rfl rfl ?_
        show Steps p.tables e below (T21.setTop (mkF m 300 #[.val (.int p0), .val (.int p1), .val (.int p2), .val (.int (Int32.ofNat f)), .val (.int (Int32.ofNat l')), .val (.int (Int32.ofNat n)), .val (.double (FP.i2d (Int32.ofNat n))), .second, .val (.double (own_Td f l' n)), .second, .val (.int (1 : Int32)), .val (.double (own_Td (f + 1) l' n)), .second, .val (.double (own_Td f (l' + 1) n)), .second, .val (.double (own_Td f l' (n + 1))), .second, .val (.int (Int32.ofNat (l' + 1))), .val (.double (own_Td f (l' + 1) (l' + 1))), .second, .unset, .unset] [(.double (FP.i2d (Int32.ofNat f))), (.double (FP.i2d (Int32.ofNat f))), (.double (own_Td f (l' + 1) (l' + 1)))])) _
        refine X21.ldc2DoubleC hx hown (mvT hZ (hw _ (List.mem_of_getElem? (i := 8) rfl))) (g := (mkF m 300 #[.val (.int p0), .val (.int p1), .val (.int p2), .val (.int (Int32.ofNat f)), .val (.int (Int32.ofNat l')), .val (.int (Int32.ofNat n)), .val (.double (FP.i2d (Int32.ofNat n))), .second, .val (.double (own_Td f l' n)), .second, .val (.int (1 : Int32)), .val (.double (own_Td (f + 1) l' n)), .second, .val (.double (own_Td f (l' + 1) n)), .second, .val (.double (own_Td f l' (n + 1))), .second, .val (.int (Int32.ofNat (l' + 1))), .val (.double (own_Td f (l' + 1) (l' + 1))), .second, .unset, .unset] [(.double (FP.i2d (Int32.ofNat f))), (.double (FP.i2d (Int32.ofNat f))), (.double (own_Td f (l' + 1) (l' + 1)))])) rfl (hb hby at_300) _ ?_
        show Steps p.tables e below (T21.setTop (mkF m 303 #[.val (.int p0), .val (.int p1), .val (.int p2), .val (.int (Int32.ofNat f)), .val (.int (Int32.ofNat l')), .val (.int (Int32.ofNat n)), .val (.double (FP.i2d (Int32.ofNat n))), .second, .val (.double (own_Td f l' n)), .second, .val (.int (1 : Int32)), .val (.double (own_Td (f + 1) l' n)), .second, .val (.double (own_Td f (l' + 1) n)), .second, .val (.double (own_Td f l' (n + 1))), .second, .val (.int (Int32.ofNat (l' + 1))), .val (.double (own_Td f (l' + 1) (l' + 1))), .second, .unset, .unset] [(.double (4608083138725491507 : UInt64)), (.double (FP.i2d (Int32.ofNat f))), (.double (FP.i2d (Int32.ofNat f))), (.double (own_Td f (l' + 1) (l' + 1)))])) _
        refine XS.daddS X21.here hx rfl (hb hby at_303) rfl (own_na f1 l3 l2).1 rfl ?_
        show Steps p.tables e below (T21.setTop (mkF m 304 #[.val (.int p0), .val (.int p1), .val (.int p2), .val (.int (Int32.ofNat f)), .val (.int (Int32.ofNat l')), .val (.int (Int32.ofNat n)), .val (.double (FP.i2d (Int32.ofNat n))), .second, .val (.double (own_Td f l' n)), .second, .val (.int (1 : Int32)), .val (.double (own_Td (f + 1) l' n)), .second, .val (.double (own_Td f (l' + 1) n)), .second, .val (.double (own_Td f l' (n + 1))), .second, .val (.int (Int32.ofNat (l' + 1))), .val (.double (own_Td f (l' + 1) (l' + 1))), .second, .unset, .unset] [(.double (FP.dadd (FP.i2d (Int32.ofNat f)) (4608083138725491507 : UInt64))), (.double (FP.i2d (Int32.ofNat f))), (.double (own_Td f (l' + 1) (l' + 1)))])) _
        refine XS.ddivS X21.here hx rfl (hb hby at_304) rfl (own_na f1 l3 l2).2 rfl ?_
        show Steps p.tables e below (T21.setTop (mkF m 305 #[.val (.int p0), .val (.int p1), .val (.int p2), .val (.int (Int32.ofNat f)), .val (.int (Int32.ofNat l')), .val (.int (Int32.ofNat n)), .val (.double (FP.i2d (Int32.ofNat n))), .second, .val (.double (own_Td f l' n)), .second, .val (.int (1 : Int32)), .val (.double (own_Td (f + 1) l' n)), .second, .val (.double (own_Td f (l' + 1) n)), .second, .val (.double (own_Td f l' (n + 1))), .second, .val (.int (Int32.ofNat (l' + 1))), .val (.double (own_Td f (l' + 1) (l' + 1))), .second, .unset, .unset] [(.double (FP.ddiv (FP.i2d (Int32.ofNat f)) (FP.dadd (FP.i2d (Int32.ofNat f)) (4608083138725491507 : UInt64)))), (.double (own_Td f (l' + 1) (l' + 1)))])) _
        refine XS.dcmpS X21.here hx rfl (v := (0 : Int32)) (hb hby at_305) rfl (by rw [← own_ta l3 l2, own_self f1 l2 l3 l4]; rfl) ?_
        show Steps p.tables e below (T21.setTop (mkF m 306 #[.val (.int p0), .val (.int p1), .val (.int p2), .val (.int (Int32.ofNat f)), .val (.int (Int32.ofNat l')), .val (.int (Int32.ofNat n)), .val (.double (FP.i2d (Int32.ofNat n))), .second, .val (.double (own_Td f l' n)), .second, .val (.int (1 : Int32)), .val (.double (own_Td (f + 1) l' n)), .second, .val (.double (own_Td f (l' + 1) n)), .second, .val (.double (own_Td f l' (n + 1))), .second, .val (.int (Int32.ofNat (l' + 1))), .val (.double (own_Td f (l' + 1) (l' + 1))), .second, .unset, .unset] [(.int (0 : Int32))])) _
        refine XS.ifNo X21.here hx rfl (hb hby at_306) rfl ((if0 _ _).trans (teq (by decide)).2) ?_
        show Steps p.tables e below (T21.setTop (mkF m 309 #[.val (.int p0), .val (.int p1), .val (.int p2), .val (.int (Int32.ofNat f)), .val (.int (Int32.ofNat l')), .val (.int (Int32.ofNat n)), .val (.double (FP.i2d (Int32.ofNat n))), .second, .val (.double (own_Td f l' n)), .second, .val (.int (1 : Int32)), .val (.double (own_Td (f + 1) l' n)), .second, .val (.double (own_Td f (l' + 1) n)), .second, .val (.double (own_Td f l' (n + 1))), .second, .val (.int (Int32.ofNat (l' + 1))), .val (.double (own_Td f (l' + 1) (l' + 1))), .second, .unset, .unset] [])) _
        refine XS.iconst X21.here hx rfl (hb hby at_309) ?_
        show Steps p.tables e below (T21.setTop (mkF m 310 #[.val (.int p0), .val (.int p1), .val (.int p2), .val (.int (Int32.ofNat f)), .val (.int (Int32.ofNat l')), .val (.int (Int32.ofNat n)), .val (.double (FP.i2d (Int32.ofNat n))), .second, .val (.double (own_Td f l' n)), .second, .val (.int (1 : Int32)), .val (.double (own_Td (f + 1) l' n)), .second, .val (.double (own_Td f (l' + 1) n)), .second, .val (.double (own_Td f l' (n + 1))), .second, .val (.int (Int32.ofNat (l' + 1))), .val (.double (own_Td f (l' + 1) (l' + 1))), .second, .unset, .unset] [(.int (1 : Int32))])) _
        refine XS.goto X21.here hx rfl (pc0 := 310) (pc' := 314) rfl (hb hby at_310) (by decide) (by decide) ?_
        show Steps p.tables e below (T21.setTop (mkF m 314 #[.val (.int p0), .val (.int p1), .val (.int p2), .val (.int (Int32.ofNat f)), .val (.int (Int32.ofNat l')), .val (.int (Int32.ofNat n)), .val (.double (FP.i2d (Int32.ofNat n))), .second, .val (.double (own_Td f l' n)), .second, .val (.int (1 : Int32)), .val (.double (own_Td (f + 1) l' n)), .second, .val (.double (own_Td f (l' + 1) n)), .second, .val (.double (own_Td f l' (n + 1))), .second, .val (.int (Int32.ofNat (l' + 1))), .val (.double (own_Td f (l' + 1) (l' + 1))), .second, .unset, .unset] [(.int (1 : Int32))])) _
        refine XS.istore X21.here hx rfl (hb hby at_314) rfl (l' := #[.val (.int p0), .val (.int p1), .val (.int p2), .val (.int (Int32.ofNat f)), .val (.int (Int32.ofNat l')), .val (.int (Int32.ofNat n)), .val (.double (FP.i2d (Int32.ofNat n))), .second, .val (.double (own_Td f l' n)), .second, .val (.int (1 : Int32)), .val (.double (own_Td (f + 1) l' n)), .second, .val (.double (own_Td f (l' + 1) n)), .second, .val (.double (own_Td f l' (n + 1))), .second, .val (.int (Int32.ofNat (l' + 1))), .val (.double (own_Td f (l' + 1) (l' + 1))), .second, .unset, .unset]) rfl ?_
        show Steps p.tables e below (T21.setTop (mkF m 316 #[.val (.int p0), .val (.int p1), .val (.int p2), .val (.int (Int32.ofNat f)), .val (.int (Int32.ofNat l')), .val (.int (Int32.ofNat n)), .val (.double (FP.i2d (Int32.ofNat n))), .second, .val (.double (own_Td f l' n)), .second, .val (.int (1 : Int32)), .val (.double (own_Td (f + 1) l' n)), .second, .val (.double (own_Td f (l' + 1) n)), .second, .val (.double (own_Td f l' (n + 1))), .second, .val (.int (Int32.ofNat (l' + 1))), .val (.double (own_Td f (l' + 1) (l' + 1))), .second, .unset, .unset] [])) _
        refine XS.iloadN X21.here hx rfl (hb hby at_316) rfl ?_
        show Steps p.tables e below (T21.setTop (mkF m 317 #[.val (.int p0), .val (.int p1), .val (.int p2), .val (.int (Int32.ofNat f)), .val (.int (Int32.ofNat l')), .val (.int (Int32.ofNat n)), .val (.double (FP.i2d (Int32.ofNat n))), .second, .val (.double (own_Td f l' n)), .second, .val (.int (1 : Int32)), .val (.double (own_Td (f + 1) l' n)), .second, .val (.double (own_Td f (l' + 1) n)), .second, .val (.double (own_Td f l' (n + 1))), .second, .val (.int (Int32.ofNat (l' + 1))), .val (.double (own_Td f (l' + 1) (l' + 1))), .second, .unset, .unset] [(.int (Int32.ofNat f))])) _
        refine XS.iconst X21.here hx rfl (hb hby at_317) ?_
        show Steps p.tables e below (T21.setTop (mkF m 318 #[.val (.int p0), .val (.int p1), .val (.int p2), .val (.int (Int32.ofNat f)), .val (.int (Int32.ofNat l')), .val (.int (Int32.ofNat n)), .val (.double (FP.i2d (Int32.ofNat n))), .second, .val (.double (own_Td f l' n)), .second, .val (.int (1 : Int32)), .val (.double (own_Td (f + 1) l' n)), .second, .val (.double (own_Td f (l' + 1) n)), .second, .val (.double (own_Td f l' (n + 1))), .second, .val (.int (Int32.ofNat (l' + 1))), .val (.double (own_Td f (l' + 1) (l' + 1))), .second, .unset, .unset] [(.int (0 : Int32)), (.int (Int32.ofNat f))])) _
        refine XS.dload X21.here hx rfl (hb hby at_318) rfl ?_
        show Steps p.tables e below (T21.setTop (mkF m 320 #[.val (.int p0), .val (.int p1), .val (.int p2), .val (.int (Int32.ofNat f)), .val (.int (Int32.ofNat l')), .val (.int (Int32.ofNat n)), .val (.double (FP.i2d (Int32.ofNat n))), .second, .val (.double (own_Td f l' n)), .second, .val (.int (1 : Int32)), .val (.double (own_Td (f + 1) l' n)), .second, .val (.double (own_Td f (l' + 1) n)), .second, .val (.double (own_Td f l' (n + 1))), .second, .val (.int (Int32.ofNat (l' + 1))), .val (.double (own_Td f (l' + 1) (l' + 1))), .second, .unset, .unset] [(.double (FP.i2d (Int32.ofNat n))), (.int (0 : Int32)), (.int (Int32.ofNat f))])) _
        refine st22 _ ?_
        show Steps p.tables e below (T22.setTop (mkF m 323 #[.val (.int p0), .val (.int p1), .val (.int p2), .val (.int (Int32.ofNat f)), .val (.int (Int32.ofNat l')), .val (.int (Int32.ofNat n)), .val (.double (FP.i2d (Int32.ofNat n))), .second, .val (.double (own_Td f l' n)), .second, .val (.int (1 : Int32)), .val (.double (own_Td (f + 1) l' n)), .second, .val (.double (own_Td f (l' + 1) n)), .second, .val (.double (own_Td f l' (n + 1))), .second, .val (.int (Int32.ofNat (l' + 1))), .val (.double (own_Td f (l' + 1) (l' + 1))), .second, .unset, .unset] [(.double (own_Td f 0 n))])) _
        refine XS.dstore X22.here hx rfl (hb hby at_323) rfl (l' := #[.val (.int p0), .val (.int p1), .val (.int p2), .val (.int (Int32.ofNat f)), .val (.int (Int32.ofNat l')), .val (.int (Int32.ofNat n)), .val (.double (FP.i2d (Int32.ofNat n))), .second, .val (.double (own_Td f l' n)), .second, .val (.int (1 : Int32)), .val (.double (own_Td (f + 1) l' n)), .second, .val (.double (own_Td f (l' + 1) n)), .second, .val (.double (own_Td f l' (n + 1))), .second, .val (.int (Int32.ofNat (l' + 1))), .val (.double (own_Td f (l' + 1) (l' + 1))), .second, .val (.double (own_Td f 0 n)), .second]) rfl ?_
        show Steps p.tables e below (T22.setTop (mkF m 325 #[.val (.int p0), .val (.int p1), .val (.int p2), .val (.int (Int32.ofNat f)), .val (.int (Int32.ofNat l')), .val (.int (Int32.ofNat n)), .val (.double (FP.i2d (Int32.ofNat n))), .second, .val (.double (own_Td f l' n)), .second, .val (.int (1 : Int32)), .val (.double (own_Td (f + 1) l' n)), .second, .val (.double (own_Td f (l' + 1) n)), .second, .val (.double (own_Td f l' (n + 1))), .second, .val (.int (Int32.ofNat (l' + 1))), .val (.double (own_Td f (l' + 1) (l' + 1))), .second, .val (.double (own_Td f 0 n)), .second] [])) _
        refine XS.iload X22.here hx rfl (hb hby at_325) rfl ?_
        show Steps p.tables e below (T22.setTop (mkF m 327 #[.val (.int p0), .val (.int p1), .val (.int p2), .val (.int (Int32.ofNat f)), .val (.int (Int32.ofNat l')), .val (.int (Int32.ofNat n)), .val (.double (FP.i2d (Int32.ofNat n))), .second, .val (.double (own_Td f l' n)), .second, .val (.int (1 : Int32)), .val (.double (own_Td (f + 1) l' n)), .second, .val (.double (own_Td f (l' + 1) n)), .second, .val (.double (own_Td f l' (n + 1))), .second, .val (.int (Int32.ofNat (l' + 1))), .val (.double (own_Td f (l' + 1) (l' + 1))), .second, .val (.double (own_Td f 0 n)), .second] [(.int (1 : Int32))])) _
        refine XS.ifNo X22.here hx rfl (hb hby at_327) rfl ((if0 _ _).trans (feq (by decide)).1) ?_
        show Steps p.tables e below (T22.setTop (mkF m 330 #[.val (.int p0), .val (.int p1), .val (.int p2), .val (.int (Int32.ofNat f)), .val (.int (Int32.ofNat l')), .val (.int (Int32.ofNat n)), .val (.double (FP.i2d (Int32.ofNat n))), .second, .val (.double (own_Td f l' n)), .second, .val (.int (1 : Int32)), .val (.double (own_Td (f + 1) l' n)), .second, .val (.double (own_Td f (l' + 1) n)), .second, .val (.double (own_Td f l' (n + 1))), .second, .val (.int (Int32.ofNat (l' + 1))), .val (.double (own_Td f (l' + 1) (l' + 1))), .second, .val (.double (own_Td f 0 n)), .second] [])) _
        refine XS.dload X22.here hx rfl (hb hby at_330) rfl ?_
        show Steps p.tables e below (T22.setTop (mkF m 332 #[.val (.int p0), .val (.int p1), .val (.int p2), .val (.int (Int32.ofNat f)), .val (.int (Int32.ofNat l')), .val (.int (Int32.ofNat n)), .val (.double (FP.i2d (Int32.ofNat n))), .second, .val (.double (own_Td f l' n)), .second, .val (.int (1 : Int32)), .val (.double (own_Td (f + 1) l' n)), .second, .val (.double (own_Td f (l' + 1) n)), .second, .val (.double (own_Td f l' (n + 1))), .second, .val (.int (Int32.ofNat (l' + 1))), .val (.double (own_Td f (l' + 1) (l' + 1))), .second, .val (.double (own_Td f 0 n)), .second] [(.double (own_Td f 0 n))])) _
        refine XS.iloadN X22.here hx rfl (hb hby at_332) rfl ?_
        show Steps p.tables e below (T22.setTop (mkF m 333 #[.val (.int p0), .val (.int p1), .val (.int p2), .val (.int (Int32.ofNat f)), .val (.int (Int32.ofNat l')), .val (.int (Int32.ofNat n)), .val (.double (FP.i2d (Int32.ofNat n))), .second, .val (.double (own_Td f l' n)), .second, .val (.int (1 : Int32)), .val (.double (own_Td (f + 1) l' n)), .second, .val (.double (own_Td f (l' + 1) n)), .second, .val (.double (own_Td f l' (n + 1))), .second, .val (.int (Int32.ofNat (l' + 1))), .val (.double (own_Td f (l' + 1) (l' + 1))), .second, .val (.double (own_Td f 0 n)), .second] [(.int (Int32.ofNat f)), (.double (own_Td f 0 n))])) _
        refine XS.i2dS X22.here hx rfl (hb hby at_333) rfl rfl ?_
        show Steps p.tables e below (T22.setTop (mkF m 334 #[.val (.int p0), .val (.int p1), .val (.int p2), .val (.int (Int32.ofNat f)), .val (.int (Int32.ofNat l')), .val (.int (Int32.ofNat n)), .val (.double (FP.i2d (Int32.ofNat n))), .second, .val (.double (own_Td f l' n)), .second, .val (.int (1 : Int32)), .val (.double (own_Td (f + 1) l' n)), .second, .val (.double (own_Td f (l' + 1) n)), .second, .val (.double (own_Td f l' (n + 1))), .second, .val (.int (Int32.ofNat (l' + 1))), .val (.double (own_Td f (l' + 1) (l' + 1))), .second, .val (.double (own_Td f 0 n)), .second] [(.double (FP.i2d (Int32.ofNat f))), (.double (own_Td f 0 n))])) _
        refine XS.iloadN X22.here hx rfl (hb hby at_334) rfl ?_
        show Steps p.tables e below (T22.setTop (mkF m 335 #[.val (.int p0), .val (.int p1), .val (.int p2), .val (.int (Int32.ofNat f)), .val (.int (Int32.ofNat l')), .val (.int (Int32.ofNat n)), .val (.double (FP.i2d (Int32.ofNat n))), .second, .val (.double (own_Td f l' n)), .second, .val (.int (1 : Int32)), .val (.double (own_Td (f + 1) l' n)), .second, .val (.double (own_Td f (l' + 1) n)), .second, .val (.double (own_Td f l' (n + 1))), .second, .val (.int (Int32.ofNat (l' + 1))), .val (.double (own_Td f (l' + 1) (l' + 1))), .second, .val (.double (own_Td f 0 n)), .second] [(.int (Int32.ofNat f)), (.double (FP.i2d (Int32.ofNat f))), (.double (own_Td f 0 n))])) _
        refine XS.i2dS X22.here hx rfl (hb hby at_335) rfl rfl ?_
        show Steps p.tables e below (T22.setTop (mkF m 336 #[.val (.int p0), .val (.int p1), .val (.int p2), .val (.int (Int32.ofNat f)), .val (.int (Int32.ofNat l')), .val (.int (Int32.ofNat n)), .val (.double (FP.i2d (Int32.ofNat n))), .second, .val (.double (own_Td f l' n)), .second, .val (.int (1 : Int32)), .val (.double (own_Td (f + 1) l' n)), .second, .val (.double (own_Td f (l' + 1) n)), .second, .val (.double (own_Td f l' (n + 1))), .second, .val (.int (Int32.ofNat (l' + 1))), .val (.double (own_Td f (l' + 1) (l' + 1))), .second, .val (.double (own_Td f 0 n)), .second] [(.double (FP.i2d (Int32.ofNat f))), (.double (FP.i2d (Int32.ofNat f))), (.double (own_Td f 0 n))])) _
        refine X22.ldc2DoubleC hx hown (mvT hZ (hw _ (List.mem_of_getElem? (i := 9) rfl))) (g := (mkF m 336 #[.val (.int p0), .val (.int p1), .val (.int p2), .val (.int (Int32.ofNat f)), .val (.int (Int32.ofNat l')), .val (.int (Int32.ofNat n)), .val (.double (FP.i2d (Int32.ofNat n))), .second, .val (.double (own_Td f l' n)), .second, .val (.int (1 : Int32)), .val (.double (own_Td (f + 1) l' n)), .second, .val (.double (own_Td f (l' + 1) n)), .second, .val (.double (own_Td f l' (n + 1))), .second, .val (.int (Int32.ofNat (l' + 1))), .val (.double (own_Td f (l' + 1) (l' + 1))), .second, .val (.double (own_Td f 0 n)), .second] [(.double (FP.i2d (Int32.ofNat f))), (.double (FP.i2d (Int32.ofNat f))), (.double (own_Td f 0 n))])) rfl (hb hby at_336) _ ?_
        show Steps p.tables e below (T22.setTop (mkF m 339 #[.val (.int p0), .val (.int p1), .val (.int p2), .val (.int (Int32.ofNat f)), .val (.int (Int32.ofNat l')), .val (.int (Int32.ofNat n)), .val (.double (FP.i2d (Int32.ofNat n))), .second, .val (.double (own_Td f l' n)), .second, .val (.int (1 : Int32)), .val (.double (own_Td (f + 1) l' n)), .second, .val (.double (own_Td f (l' + 1) n)), .second, .val (.double (own_Td f l' (n + 1))), .second, .val (.int (Int32.ofNat (l' + 1))), .val (.double (own_Td f (l' + 1) (l' + 1))), .second, .val (.double (own_Td f 0 n)), .second] [(.double (4599075939470750515 : UInt64)), (.double (FP.i2d (Int32.ofNat f))), (.double (FP.i2d (Int32.ofNat f))), (.double (own_Td f 0 n))])) _
        refine XS.daddS X22.here hx rfl (hb hby at_339) rfl (own_nb f1 hn0 n1).1 rfl ?_
        show Steps p.tables e below (T22.setTop (mkF m 340 #[.val (.int p0), .val (.int p1), .val (.int p2), .val (.int (Int32.ofNat f)), .val (.int (Int32.ofNat l')), .val (.int (Int32.ofNat n)), .val (.double (FP.i2d (Int32.ofNat n))), .second, .val (.double (own_Td f l' n)), .second, .val (.int (1 : Int32)), .val (.double (own_Td (f + 1) l' n)), .second, .val (.double (own_Td f (l' + 1) n)), .second, .val (.double (own_Td f l' (n + 1))), .second, .val (.int (Int32.ofNat (l' + 1))), .val (.double (own_Td f (l' + 1) (l' + 1))), .second, .val (.double (own_Td f 0 n)), .second] [(.double (FP.dadd (FP.i2d (Int32.ofNat f)) (4599075939470750515 : UInt64))), (.double (FP.i2d (Int32.ofNat f))), (.double (own_Td f 0 n))])) _
        refine XS.ddivS X22.here hx rfl (hb hby at_340) rfl (own_nb f1 hn0 n1).2 rfl ?_
        show Steps p.tables e below (T22.setTop (mkF m 341 #[.val (.int p0), .val (.int p1), .val (.int p2), .val (.int (Int32.ofNat f)), .val (.int (Int32.ofNat l')), .val (.int (Int32.ofNat n)), .val (.double (FP.i2d (Int32.ofNat n))), .second, .val (.double (own_Td f l' n)), .second, .val (.int (1 : Int32)), .val (.double (own_Td (f + 1) l' n)), .second, .val (.double (own_Td f (l' + 1) n)), .second, .val (.double (own_Td f l' (n + 1))), .second, .val (.int (Int32.ofNat (l' + 1))), .val (.double (own_Td f (l' + 1) (l' + 1))), .second, .val (.double (own_Td f 0 n)), .second] [(.double (FP.ddiv (FP.i2d (Int32.ofNat f)) (FP.dadd (FP.i2d (Int32.ofNat f)) (4599075939470750515 : UInt64)))), (.double (own_Td f 0 n))])) _
        refine XS.dcmpS X22.here hx rfl (v := (0 : Int32)) (hb hby at_341) rfl (by rw [← own_te hn0 n1, own_self f1 (Nat.zero_le _) hn0 n1]; rfl) ?_
        show Steps p.tables e below (T22.setTop (mkF m 342 #[.val (.int p0), .val (.int p1), .val (.int p2), .val (.int (Int32.ofNat f)), .val (.int (Int32.ofNat l')), .val (.int (Int32.ofNat n)), .val (.double (FP.i2d (Int32.ofNat n))), .second, .val (.double (own_Td f l' n)), .second, .val (.int (1 : Int32)), .val (.double (own_Td (f + 1) l' n)), .second, .val (.double (own_Td f (l' + 1) n)), .second, .val (.double (own_Td f l' (n + 1))), .second, .val (.int (Int32.ofNat (l' + 1))), .val (.double (own_Td f (l' + 1) (l' + 1))), .second, .val (.double (own_Td f 0 n)), .second] [(.int (0 : Int32))])) _
        refine XS.ifNo X22.here hx rfl (hb hby at_342) rfl ((if0 _ _).trans (teq (by decide)).2) ?_
        show Steps p.tables e below (T22.setTop (mkF m 345 #[.val (.int p0), .val (.int p1), .val (.int p2), .val (.int (Int32.ofNat f)), .val (.int (Int32.ofNat l')), .val (.int (Int32.ofNat n)), .val (.double (FP.i2d (Int32.ofNat n))), .second, .val (.double (own_Td f l' n)), .second, .val (.int (1 : Int32)), .val (.double (own_Td (f + 1) l' n)), .second, .val (.double (own_Td f (l' + 1) n)), .second, .val (.double (own_Td f l' (n + 1))), .second, .val (.int (Int32.ofNat (l' + 1))), .val (.double (own_Td f (l' + 1) (l' + 1))), .second, .val (.double (own_Td f 0 n)), .second] [])) _
        refine XS.iconst X22.here hx rfl (hb hby at_345) ?_
        show Steps p.tables e below (T22.setTop (mkF m 346 #[.val (.int p0), .val (.int p1), .val (.int p2), .val (.int (Int32.ofNat f)), .val (.int (Int32.ofNat l')), .val (.int (Int32.ofNat n)), .val (.double (FP.i2d (Int32.ofNat n))), .second, .val (.double (own_Td f l' n)), .second, .val (.int (1 : Int32)), .val (.double (own_Td (f + 1) l' n)), .second, .val (.double (own_Td f (l' + 1) n)), .second, .val (.double (own_Td f l' (n + 1))), .second, .val (.int (Int32.ofNat (l' + 1))), .val (.double (own_Td f (l' + 1) (l' + 1))), .second, .val (.double (own_Td f 0 n)), .second] [(.int (1 : Int32))])) _
        refine XS.goto X22.here hx rfl (pc0 := 346) (pc' := 350) rfl (hb hby at_346) (by decide) (by decide) ?_
        show Steps p.tables e below (T22.setTop (mkF m 350 #[.val (.int p0), .val (.int p1), .val (.int p2), .val (.int (Int32.ofNat f)), .val (.int (Int32.ofNat l')), .val (.int (Int32.ofNat n)), .val (.double (FP.i2d (Int32.ofNat n))), .second, .val (.double (own_Td f l' n)), .second, .val (.int (1 : Int32)), .val (.double (own_Td (f + 1) l' n)), .second, .val (.double (own_Td f (l' + 1) n)), .second, .val (.double (own_Td f l' (n + 1))), .second, .val (.int (Int32.ofNat (l' + 1))), .val (.double (own_Td f (l' + 1) (l' + 1))), .second, .val (.double (own_Td f 0 n)), .second] [(.int (1 : Int32))])) _
        refine XS.istore X22.here hx rfl (hb hby at_350) rfl (l' := #[.val (.int p0), .val (.int p1), .val (.int p2), .val (.int (Int32.ofNat f)), .val (.int (Int32.ofNat l')), .val (.int (Int32.ofNat n)), .val (.double (FP.i2d (Int32.ofNat n))), .second, .val (.double (own_Td f l' n)), .second, .val (.int (1 : Int32)), .val (.double (own_Td (f + 1) l' n)), .second, .val (.double (own_Td f (l' + 1) n)), .second, .val (.double (own_Td f l' (n + 1))), .second, .val (.int (Int32.ofNat (l' + 1))), .val (.double (own_Td f (l' + 1) (l' + 1))), .second, .val (.double (own_Td f 0 n)), .second]) rfl ?_
        show Steps p.tables e below (T22.setTop (mkF m 352 #[.val (.int p0), .val (.int p1), .val (.int p2), .val (.int (Int32.ofNat f)), .val (.int (Int32.ofNat l')), .val (.int (Int32.ofNat n)), .val (.double (FP.i2d (Int32.ofNat n))), .second, .val (.double (own_Td f l' n)), .second, .val (.int (1 : Int32)), .val (.double (own_Td (f + 1) l' n)), .second, .val (.double (own_Td f (l' + 1) n)), .second, .val (.double (own_Td f l' (n + 1))), .second, .val (.int (Int32.ofNat (l' + 1))), .val (.double (own_Td f (l' + 1) (l' + 1))), .second, .val (.double (own_Td f 0 n)), .second] [])) _
        refine XS.iload X22.here hx rfl (hb hby at_352) rfl ?_
        show Steps p.tables e below (T22.setTop (mkF m 354 #[.val (.int p0), .val (.int p1), .val (.int p2), .val (.int (Int32.ofNat f)), .val (.int (Int32.ofNat l')), .val (.int (Int32.ofNat n)), .val (.double (FP.i2d (Int32.ofNat n))), .second, .val (.double (own_Td f l' n)), .second, .val (.int (1 : Int32)), .val (.double (own_Td (f + 1) l' n)), .second, .val (.double (own_Td f (l' + 1) n)), .second, .val (.double (own_Td f l' (n + 1))), .second, .val (.int (Int32.ofNat (l' + 1))), .val (.double (own_Td f (l' + 1) (l' + 1))), .second, .val (.double (own_Td f 0 n)), .second] [(.int (1 : Int32))])) _
        exact retN X22 hx (t := .boolean) hret0 (by simp) (hb hby at_354) hr
      · show Q0 n0 _ T22.heap _
        rw [eh22]
        exact ⟨rfl, N22⟩
    · skip
      obtain ⟨c1, c2, c3⟩ := own_pos (f := f) (l := l') (n := n) (by omega) f1 l1 hn0 n1
      have st23 : ∀ target, Steps p.tables e below (T4.setTop (mkF m 94 #[.val (.int p0), .val (.int p1), .val (.int p2), .val (.int (Int32.ofNat f)), .val (.int (Int32.ofNat l')), .val (.int (Int32.ofNat n)), .val (.double (FP.i2d (Int32.ofNat n))), .second, .val (.double (own_Td f l' n)), .second, .val (.int (1 : Int32)), .unset, .unset, .unset, .unset, .unset, .unset, .unset, .unset, .unset, .unset, .unset] [(.int (Int32.ofNat (f + 1)))])) target → Steps p.tables e below (T4.setTop (mkF m 94 #[.val (.int p0), .val (.int p1), .val (.int p2), .val (.int (Int32.ofNat f)), .val (.int (Int32.ofNat l')), .val (.int (Int32.ofNat n)), .val (.double (FP.i2d (Int32.ofNat n))), .second, .val (.double (own_Td f l' n)), .second, .val (.int (1 : Int32)), .unset, .unset, .unset, .unset, .unset, .unset, .unset, .unset, .unset, .unset, .unset] [(.int ((Int32.ofNat f) + (1 : Int32)))])) target := by
        rw [own_s1]
        intro target hk
        exact hk
      obtain ⟨v24, vmx24, ⟨T24, L24, k24, n24⟩, -, X24, ⟨Lc24, hQ24, l24, y24, z24⟩, st24⟩ := Jvm.LawKit.callS X4 hx (y := (⟨"com/example/ample_search/amplesearch/search/Bm25", "tf", "(IID)D"⟩ : MethodName)) hown (mvT hZ (hw _ (List.mem_of_getElem? (i := 1) rfl))) (mvT hZ (hw _ (List.mem_of_getElem? (i := 2) rfl))) (mvT hZ (hw _ (List.mem_of_getElem? (i := 3) rfl))) (mvT hZ (hw _ (List.mem_of_getElem? (i := 4) rfl))) (by decide) (backOf (W := 0) (rmTf l Z a0 hw [] (Int32.ofNat (f + 1)) (Int32.ofNat l') (FP.i2d (Int32.ofNat n)) h0 n0 Z0 (own_tnn f2 l1 hn0 n1)) hZ (hw _ (List.mem_of_getElem? (i := 4) rfl)) (hw _ (List.mem_of_getElem? (i := 3) rfl)) (by decide) (by decide)) (g := (mkF m 98 #[.val (.int p0), .val (.int p1), .val (.int p2), .val (.int (Int32.ofNat f)), .val (.int (Int32.ofNat l')), .val (.int (Int32.ofNat n)), .val (.double (FP.i2d (Int32.ofNat n))), .second, .val (.double (own_Td f l' n)), .second, .val (.int (1 : Int32)), .unset, .unset, .unset, .unset, .unset, .unset, .unset, .unset, .unset, .unset, .unset] [(.double (FP.i2d (Int32.ofNat n))), (.int (Int32.ofNat l')), (.int (Int32.ofNat (f + 1)))])) rfl (by rw [hml]; rfl) (argsL := [(.int (Int32.ofNat (f + 1))), (.int (Int32.ofNat l')), (.double (FP.i2d (Int32.ofNat n)))]) (rest := []) (lenOf own_pd0 rfl) rfl (by show 2 * 0 + _ ≤ _; exact Nat.le_of_eq rfl) (hb hby at_98) (fun _ _ => ⟨rfl, eh4, (by decide : 0 + 0 ≤ _), (by decide : 0 + 0 ≤ _)⟩)
      dsimp only [Pt.U, Pt.locs, Pt.cells, Pt.slots] at X24 l24 y24 z24 st24 hQ24
      subst l24 y24 z24
      obtain ⟨rfl, Nq24, eh24⟩ := hQ24
      have N24 := Fr.app N4 Nq24
      have st25 : ∀ target, Steps p.tables e below (T24.setTop (mkF m 128 #[.val (.int p0), .val (.int p1), .val (.int p2), .val (.int (Int32.ofNat f)), .val (.int (Int32.ofNat l')), .val (.int (Int32.ofNat n)), .val (.double (FP.i2d (Int32.ofNat n))), .second, .val (.double (own_Td f l' n)), .second, .val (.int (1 : Int32)), .val (.double (own_Td (f + 1) l' n)), .second, .unset, .unset, .unset, .unset, .unset, .unset, .unset, .unset, .unset] [(.int (Int32.ofNat (l' + 1))), (.int (Int32.ofNat f))])) target → Steps p.tables e below (T24.setTop (mkF m 128 #[.val (.int p0), .val (.int p1), .val (.int p2), .val (.int (Int32.ofNat f)), .val (.int (Int32.ofNat l')), .val (.int (Int32.ofNat n)), .val (.double (FP.i2d (Int32.ofNat n))), .second, .val (.double (own_Td f l' n)), .second, .val (.int (1 : Int32)), .val (.double (own_Td (f + 1) l' n)), .second, .unset, .unset, .unset, .unset, .unset, .unset, .unset, .unset, .unset] [(.int ((Int32.ofNat l') + (1 : Int32))), (.int (Int32.ofNat f))])) target := by
        rw [own_s1]
        intro target hk
        exact hk
      obtain ⟨v26, vmx26, ⟨T26, L26, k26, n26⟩, -, X26, ⟨Lc26, hQ26, l26, y26, z26⟩, st26⟩ := Jvm.LawKit.callS X24 hx (y := (⟨"com/example/ample_search/amplesearch/search/Bm25", "tf", "(IID)D"⟩ : MethodName)) hown (mvT hZ (hw _ (List.mem_of_getElem? (i := 1) rfl))) (mvT hZ (hw _ (List.mem_of_getElem? (i := 2) rfl))) (mvT hZ (hw _ (List.mem_of_getElem? (i := 3) rfl))) (mvT hZ (hw _ (List.mem_of_getElem? (i := 4) rfl))) (by decide) (backOf (W := 0) (rmTf l Z a0 hw [] (Int32.ofNat f) (Int32.ofNat (l' + 1)) (FP.i2d (Int32.ofNat n)) h0 n0 Z0 (own_tnn f1 l2 hn0 n1)) hZ (hw _ (List.mem_of_getElem? (i := 4) rfl)) (hw _ (List.mem_of_getElem? (i := 3) rfl)) (by decide) (by decide)) (g := (mkF m 130 #[.val (.int p0), .val (.int p1), .val (.int p2), .val (.int (Int32.ofNat f)), .val (.int (Int32.ofNat l')), .val (.int (Int32.ofNat n)), .val (.double (FP.i2d (Int32.ofNat n))), .second, .val (.double (own_Td f l' n)), .second, .val (.int (1 : Int32)), .val (.double (own_Td (f + 1) l' n)), .second, .unset, .unset, .unset, .unset, .unset, .unset, .unset, .unset, .unset] [(.double (FP.i2d (Int32.ofNat n))), (.int (Int32.ofNat (l' + 1))), (.int (Int32.ofNat f))])) rfl (by rw [hml]; rfl) (argsL := [(.int (Int32.ofNat f)), (.int (Int32.ofNat (l' + 1))), (.double (FP.i2d (Int32.ofNat n)))]) (rest := []) (lenOf own_pd0 rfl) rfl (by show 2 * 0 + _ ≤ _; exact Nat.le_of_eq rfl) (hb hby at_130) (fun _ _ => ⟨rfl, eh24, (by decide : 0 + 0 ≤ _), (by decide : 0 + 0 ≤ _)⟩)
      dsimp only [Pt.U, Pt.locs, Pt.cells, Pt.slots] at X26 l26 y26 z26 st26 hQ26
      subst l26 y26 z26
      obtain ⟨rfl, Nq26, eh26⟩ := hQ26
      have N26 := Fr.app N24 Nq26
      have st27 : ∀ target, Steps p.tables e below (T26.setTop (mkF m 188 #[.val (.int p0), .val (.int p1), .val (.int p2), .val (.int (Int32.ofNat f)), .val (.int (Int32.ofNat l')), .val (.int (Int32.ofNat n)), .val (.double (FP.i2d (Int32.ofNat n))), .second, .val (.double (own_Td f l' n)), .second, .val (.int (1 : Int32)), .val (.double (own_Td (f + 1) l' n)), .second, .val (.double (own_Td f (l' + 1) n)), .second, .unset, .unset, .unset, .unset, .unset, .unset, .unset] [(.int (Int32.ofNat (n + 1))), (.int (Int32.ofNat l')), (.int (Int32.ofNat f))])) target → Steps p.tables e below (T26.setTop (mkF m 188 #[.val (.int p0), .val (.int p1), .val (.int p2), .val (.int (Int32.ofNat f)), .val (.int (Int32.ofNat l')), .val (.int (Int32.ofNat n)), .val (.double (FP.i2d (Int32.ofNat n))), .second, .val (.double (own_Td f l' n)), .second, .val (.int (1 : Int32)), .val (.double (own_Td (f + 1) l' n)), .second, .val (.double (own_Td f (l' + 1) n)), .second, .unset, .unset, .unset, .unset, .unset, .unset, .unset] [(.int ((Int32.ofNat n) + (1 : Int32))), (.int (Int32.ofNat l')), (.int (Int32.ofNat f))])) target := by
        rw [own_s1]
        intro target hk
        exact hk
      obtain ⟨v28, vmx28, ⟨T28, L28, k28, n28⟩, -, X28, ⟨Lc28, hQ28, l28, y28, z28⟩, st28⟩ := Jvm.LawKit.callS X26 hx (y := (⟨"com/example/ample_search/amplesearch/search/Bm25", "tf", "(IID)D"⟩ : MethodName)) hown (mvT hZ (hw _ (List.mem_of_getElem? (i := 1) rfl))) (mvT hZ (hw _ (List.mem_of_getElem? (i := 2) rfl))) (mvT hZ (hw _ (List.mem_of_getElem? (i := 3) rfl))) (mvT hZ (hw _ (List.mem_of_getElem? (i := 4) rfl))) (by decide) (backOf (W := 0) (rmTf l Z a0 hw [] (Int32.ofNat f) (Int32.ofNat l') (FP.i2d (Int32.ofNat (n + 1))) h0 n0 Z0 (own_tnn f1 l1 n2 n3)) hZ (hw _ (List.mem_of_getElem? (i := 4) rfl)) (hw _ (List.mem_of_getElem? (i := 3) rfl)) (by decide) (by decide)) (g := (mkF m 189 #[.val (.int p0), .val (.int p1), .val (.int p2), .val (.int (Int32.ofNat f)), .val (.int (Int32.ofNat l')), .val (.int (Int32.ofNat n)), .val (.double (FP.i2d (Int32.ofNat n))), .second, .val (.double (own_Td f l' n)), .second, .val (.int (1 : Int32)), .val (.double (own_Td (f + 1) l' n)), .second, .val (.double (own_Td f (l' + 1) n)), .second, .unset, .unset, .unset, .unset, .unset, .unset, .unset] [(.double (FP.i2d (Int32.ofNat (n + 1)))), (.int (Int32.ofNat l')), (.int (Int32.ofNat f))])) rfl (by rw [hml]; rfl) (argsL := [(.int (Int32.ofNat f)), (.int (Int32.ofNat l')), (.double (FP.i2d (Int32.ofNat (n + 1))))]) (rest := []) (lenOf own_pd0 rfl) rfl (by show 2 * 0 + _ ≤ _; exact Nat.le_of_eq rfl) (hb hby at_189) (fun _ _ => ⟨rfl, eh26, (by decide : 0 + 0 ≤ _), (by decide : 0 + 0 ≤ _)⟩)
      dsimp only [Pt.U, Pt.locs, Pt.cells, Pt.slots] at X28 l28 y28 z28 st28 hQ28
      subst l28 y28 z28
      obtain ⟨rfl, Nq28, eh28⟩ := hQ28
      have N28 := Fr.app N26 Nq28
      have st29 : ∀ target, Steps p.tables e below (T28.setTop (mkF m 276 #[.val (.int p0), .val (.int p1), .val (.int p2), .val (.int (Int32.ofNat f)), .val (.int (Int32.ofNat l')), .val (.int (Int32.ofNat n)), .val (.double (FP.i2d (Int32.ofNat n))), .second, .val (.double (own_Td f l' n)), .second, .val (.int (1 : Int32)), .val (.double (own_Td (f + 1) l' n)), .second, .val (.double (own_Td f (l' + 1) n)), .second, .val (.double (own_Td f l' (n + 1))), .second, .unset, .unset, .unset, .unset, .unset] [(.int (Int32.ofNat (l' + 1)))])) target → Steps p.tables e below (T28.setTop (mkF m 276 #[.val (.int p0), .val (.int p1), .val (.int p2), .val (.int (Int32.ofNat f)), .val (.int (Int32.ofNat l')), .val (.int (Int32.ofNat n)), .val (.double (FP.i2d (Int32.ofNat n))), .second, .val (.double (own_Td f l' n)), .second, .val (.int (1 : Int32)), .val (.double (own_Td (f + 1) l' n)), .second, .val (.double (own_Td f (l' + 1) n)), .second, .val (.double (own_Td f l' (n + 1))), .second, .unset, .unset, .unset, .unset, .unset] [(.int ((Int32.ofNat l') + (1 : Int32)))])) target := by
        rw [own_s1]
        intro target hk
        exact hk
      obtain ⟨v30, vmx30, ⟨T30, L30, k30, n30⟩, -, X30, ⟨Lc30, hQ30, l30, y30, z30⟩, st30⟩ := Jvm.LawKit.callS X28 hx (y := (⟨"com/example/ample_search/amplesearch/search/Bm25", "tf", "(IID)D"⟩ : MethodName)) hown (mvT hZ (hw _ (List.mem_of_getElem? (i := 1) rfl))) (mvT hZ (hw _ (List.mem_of_getElem? (i := 2) rfl))) (mvT hZ (hw _ (List.mem_of_getElem? (i := 3) rfl))) (mvT hZ (hw _ (List.mem_of_getElem? (i := 4) rfl))) (by decide) (backOf (W := 0) (rmTf l Z a0 hw [] (Int32.ofNat f) (Int32.ofNat (l' + 1)) (FP.i2d (Int32.ofNat (l' + 1))) h0 n0 Z0 (own_tnn f1 l2 l3 l4)) hZ (hw _ (List.mem_of_getElem? (i := 4) rfl)) (hw _ (List.mem_of_getElem? (i := 3) rfl)) (by decide) (by decide)) (g := (mkF m 284 #[.val (.int p0), .val (.int p1), .val (.int p2), .val (.int (Int32.ofNat f)), .val (.int (Int32.ofNat l')), .val (.int (Int32.ofNat n)), .val (.double (FP.i2d (Int32.ofNat n))), .second, .val (.double (own_Td f l' n)), .second, .val (.int (1 : Int32)), .val (.double (own_Td (f + 1) l' n)), .second, .val (.double (own_Td f (l' + 1) n)), .second, .val (.double (own_Td f l' (n + 1))), .second, .val (.int (Int32.ofNat (l' + 1))), .unset, .unset, .unset, .unset] [(.double (FP.i2d (Int32.ofNat (l' + 1)))), (.int (Int32.ofNat (l' + 1))), (.int (Int32.ofNat f))])) rfl (by rw [hml]; rfl) (argsL := [(.int (Int32.ofNat f)), (.int (Int32.ofNat (l' + 1))), (.double (FP.i2d (Int32.ofNat (l' + 1))))]) (rest := []) (lenOf own_pd0 rfl) rfl (by show 2 * 0 + _ ≤ _; exact Nat.le_of_eq rfl) (hb hby at_284) (fun _ _ => ⟨rfl, eh28, (by decide : 0 + 0 ≤ _), (by decide : 0 + 0 ≤ _)⟩)
      dsimp only [Pt.U, Pt.locs, Pt.cells, Pt.slots] at X30 l30 y30 z30 st30 hQ30
      subst l30 y30 z30
      obtain ⟨rfl, Nq30, eh30⟩ := hQ30
      have N30 := Fr.app N28 Nq30
      obtain ⟨v31, vmx31, ⟨T31, L31, k31, n31⟩, -, X31, ⟨Lc31, hQ31, l31, y31, z31⟩, st31⟩ := Jvm.LawKit.callS X30 hx (y := (⟨"com/example/ample_search/amplesearch/search/Bm25", "tf", "(IID)D"⟩ : MethodName)) hown (mvT hZ (hw _ (List.mem_of_getElem? (i := 1) rfl))) (mvT hZ (hw _ (List.mem_of_getElem? (i := 2) rfl))) (mvT hZ (hw _ (List.mem_of_getElem? (i := 3) rfl))) (mvT hZ (hw _ (List.mem_of_getElem? (i := 4) rfl))) (by decide) (backOf (W := 0) (rmTf l Z a0 hw [] (Int32.ofNat f) (Int32.ofNat 0) (FP.i2d (Int32.ofNat n)) h0 n0 Z0 (own_tnn f1 (Nat.zero_le _) hn0 n1)) hZ (hw _ (List.mem_of_getElem? (i := 4) rfl)) (hw _ (List.mem_of_getElem? (i := 3) rfl)) (by decide) (by decide)) (g := (mkF m 320 #[.val (.int p0), .val (.int p1), .val (.int p2), .val (.int (Int32.ofNat f)), .val (.int (Int32.ofNat l')), .val (.int (Int32.ofNat n)), .val (.double (FP.i2d (Int32.ofNat n))), .second, .val (.double (own_Td f l' n)), .second, .val (.int (1 : Int32)), .val (.double (own_Td (f + 1) l' n)), .second, .val (.double (own_Td f (l' + 1) n)), .second, .val (.double (own_Td f l' (n + 1))), .second, .val (.int (Int32.ofNat (l' + 1))), .val (.double (own_Td f (l' + 1) (l' + 1))), .second, .unset, .unset] [(.double (FP.i2d (Int32.ofNat n))), (.int (0 : Int32)), (.int (Int32.ofNat f))])) rfl (by rw [hml]; rfl) (argsL := [(.int (Int32.ofNat f)), (.int (0 : Int32)), (.double (FP.i2d (Int32.ofNat n)))]) (rest := []) (lenOf own_pd0 rfl) rfl (by show 2 * 0 + _ ≤ _; exact Nat.le_of_eq rfl) (hb hby at_320) (fun _ _ => ⟨rfl, eh30, (by decide : 0 + 0 ≤ _), (by decide : 0 + 0 ≤ _)⟩)
      dsimp only [Pt.U, Pt.locs, Pt.cells, Pt.slots] at X31 l31 y31 z31 st31 hQ31
      subst l31 y31 z31
      obtain ⟨rfl, Nq31, eh31⟩ := hQ31
      have N31 := Fr.app N30 Nq31
      obtain ⟨fs, hr, hrun, hended, hW, hsame⟩ := X31.leave (v := some (.int (1 : Int32))) (fun h => by rw [hret0] at h; cases h)
      refine ⟨_, _, pre0 _ ?_, hrun, hended, _, _, rfl, ?_, ⟨_, rfl⟩, hW, hsame.mono (by decide) (by decide)⟩
      · show Steps p.tables e below (s₁.setTop (mkF m 0 #[.val (.int p0), .val (.int p1), .val (.int p2), .unset, .unset, .unset, .unset, .unset, .unset, .unset, .unset, .unset, .unset, .unset, .unset, .unset, .unset, .unset, .unset, .unset, .unset, .unset] [])) _
        refine XS.iloadN X0.here hx rfl (hb hby at_0) rfl ?_
        show Steps p.tables e below (s₁.setTop (mkF m 1 #[.val (.int p0), .val (.int p1), .val (.int p2), .unset, .unset, .unset, .unset, .unset, .unset, .unset, .unset, .unset, .unset, .unset, .unset, .unset, .unset, .unset, .unset, .unset, .unset, .unset] [(.int p0)])) _
        refine X0.ldcInt hx hown (mvT hZ (hw _ (List.mem_of_getElem? (i := 0) rfl))) (g := (mkF m 1 #[.val (.int p0), .val (.int p1), .val (.int p2), .unset, .unset, .unset, .unset, .unset, .unset, .unset, .unset, .unset, .unset, .unset, .unset, .unset, .unset, .unset, .unset, .unset, .unset, .unset] [(.int p0)])) rfl (hb hby at_1) _ ?_
        show Steps p.tables e below (s₁.setTop (mkF m 3 #[.val (.int p0), .val (.int p1), .val (.int p2), .unset, .unset, .unset, .unset, .unset, .unset, .unset, .unset, .unset, .unset, .unset, .unset, .unset, .unset, .unset, .unset, .unset, .unset, .unset] [(.int (65535 : Int32)), (.int p0)])) _
        refine XS.iand X0.here hx rfl (hb hby at_3) rfl ?_
        show Steps p.tables e below (s₁.setTop (mkF m 4 #[.val (.int p0), .val (.int p1), .val (.int p2), .unset, .unset, .unset, .unset, .unset, .unset, .unset, .unset, .unset, .unset, .unset, .unset, .unset, .unset, .unset, .unset, .unset, .unset, .unset] [(.int (p0 &&& (65535 : Int32)))])) _
        refine st1 _ ?_
        show Steps p.tables e below (s₁.setTop (mkF m 4 #[.val (.int p0), .val (.int p1), .val (.int p2), .unset, .unset, .unset, .unset, .unset, .unset, .unset, .unset, .unset, .unset, .unset, .unset, .unset, .unset, .unset, .unset, .unset, .unset, .unset] [(.int (Int32.ofNat f))])) _
        refine XS.istoreN X0.here hx rfl (hb hby at_4) rfl (l' := #[.val (.int p0), .val (.int p1), .val (.int p2), .val (.int (Int32.ofNat f)), .unset, .unset, .unset, .unset, .unset, .unset, .unset, .unset, .unset, .unset, .unset, .unset, .unset, .unset, .unset, .unset, .unset, .unset]) rfl ?_
        show Steps p.tables e below (s₁.setTop (mkF m 5 #[.val (.int p0), .val (.int p1), .val (.int p2), .val (.int (Int32.ofNat f)), .unset, .unset, .unset, .unset, .unset, .unset, .unset, .unset, .unset, .unset, .unset, .unset, .unset, .unset, .unset, .unset, .unset, .unset] [])) _
        refine XS.iloadN X0.here hx rfl (hb hby at_5) rfl ?_
        show Steps p.tables e below (s₁.setTop (mkF m 6 #[.val (.int p0), .val (.int p1), .val (.int p2), .val (.int (Int32.ofNat f)), .unset, .unset, .unset, .unset, .unset, .unset, .unset, .unset, .unset, .unset, .unset, .unset, .unset, .unset, .unset, .unset, .unset, .unset] [(.int p1)])) _
        refine X0.ldcInt hx hown (mvT hZ (hw _ (List.mem_of_getElem? (i := 0) rfl))) (g := (mkF m 6 #[.val (.int p0), .val (.int p1), .val (.int p2), .val (.int (Int32.ofNat f)), .unset, .unset, .unset, .unset, .unset, .unset, .unset, .unset, .unset, .unset, .unset, .unset, .unset, .unset, .unset, .unset, .unset, .unset] [(.int p1)])) rfl (hb hby at_6) _ ?_
        show Steps p.tables e below (s₁.setTop (mkF m 8 #[.val (.int p0), .val (.int p1), .val (.int p2), .val (.int (Int32.ofNat f)), .unset, .unset, .unset, .unset, .unset, .unset, .unset, .unset, .unset, .unset, .unset, .unset, .unset, .unset, .unset, .unset, .unset, .unset] [(.int (65535 : Int32)), (.int p1)])) _
        refine XS.iand X0.here hx rfl (hb hby at_8) rfl ?_
        show Steps p.tables e below (s₁.setTop (mkF m 9 #[.val (.int p0), .val (.int p1), .val (.int p2), .val (.int (Int32.ofNat f)), .unset, .unset, .unset, .unset, .unset, .unset, .unset, .unset, .unset, .unset, .unset, .unset, .unset, .unset, .unset, .unset, .unset, .unset] [(.int (p1 &&& (65535 : Int32)))])) _
        refine st2 _ ?_
        show Steps p.tables e below (s₁.setTop (mkF m 9 #[.val (.int p0), .val (.int p1), .val (.int p2), .val (.int (Int32.ofNat f)), .unset, .unset, .unset, .unset, .unset, .unset, .unset, .unset, .unset, .unset, .unset, .unset, .unset, .unset, .unset, .unset, .unset, .unset] [(.int (Int32.ofNat l'))])) _
        refine XS.istore X0.here hx rfl (hb hby at_9) rfl (l' := #[.val (.int p0), .val (.int p1), .val (.int p2), .val (.int (Int32.ofNat f)), .val (.int (Int32.ofNat l')), .unset, .unset, .unset, .unset, .unset, .unset, .unset, .unset, .unset, .unset, .unset, .unset, .unset, .unset, .unset, .unset, .unset]) rfl ?_
        show Steps p.tables e below (s₁.setTop (mkF m 11 #[.val (.int p0), .val (.int p1), .val (.int p2), .val (.int (Int32.ofNat f)), .val (.int (Int32.ofNat l')), .unset, .unset, .unset, .unset, .unset, .unset, .unset, .unset, .unset, .unset, .unset, .unset, .unset, .unset, .unset, .unset, .unset] [])) _
        refine XS.iloadN X0.here hx rfl (hb hby at_11) rfl ?_
        show Steps p.tables e below (s₁.setTop (mkF m 12 #[.val (.int p0), .val (.int p1), .val (.int p2), .val (.int (Int32.ofNat f)), .val (.int (Int32.ofNat l')), .unset, .unset, .unset, .unset, .unset, .unset, .unset, .unset, .unset, .unset, .unset, .unset, .unset, .unset, .unset, .unset, .unset] [(.int p2)])) _
        refine X0.ldcInt hx hown (mvT hZ (hw _ (List.mem_of_getElem? (i := 0) rfl))) (g := (mkF m 12 #[.val (.int p0), .val (.int p1), .val (.int p2), .val (.int (Int32.ofNat f)), .val (.int (Int32.ofNat l')), .unset, .unset, .unset, .unset, .unset, .unset, .unset, .unset, .unset, .unset, .unset, .unset, .unset, .unset, .unset, .unset, .unset] [(.int p2)])) rfl (hb hby at_12) _ ?_
        show Steps p.tables e below (s₁.setTop (mkF m 14 #[.val (.int p0), .val (.int p1), .val (.int p2), .val (.int (Int32.ofNat f)), .val (.int (Int32.ofNat l')), .unset, .unset, .unset, .unset, .unset, .unset, .unset, .unset, .unset, .unset, .unset, .unset, .unset, .unset, .unset, .unset, .unset] [(.int (65535 : Int32)), (.int p2)])) _
        refine XS.iand X0.here hx rfl (hb hby at_14) rfl ?_
        show Steps p.tables e below (s₁.setTop (mkF m 15 #[.val (.int p0), .val (.int p1), .val (.int p2), .val (.int (Int32.ofNat f)), .val (.int (Int32.ofNat l')), .unset, .unset, .unset, .unset, .unset, .unset, .unset, .unset, .unset, .unset, .unset, .unset, .unset, .unset, .unset, .unset, .unset] [(.int (p2 &&& (65535 : Int32)))])) _
        refine XS.iconst X0.here hx rfl (hb hby at_15) ?_
        show Steps p.tables e below (s₁.setTop (mkF m 16 #[.val (.int p0), .val (.int p1), .val (.int p2), .val (.int (Int32.ofNat f)), .val (.int (Int32.ofNat l')), .unset, .unset, .unset, .unset, .unset, .unset, .unset, .unset, .unset, .unset, .unset, .unset, .unset, .unset, .unset, .unset, .unset] [(.int (1 : Int32)), (.int (p2 &&& (65535 : Int32)))])) _
        refine XS.iadd X0.here hx rfl (hb hby at_16) rfl ?_
        show Steps p.tables e below (s₁.setTop (mkF m 17 #[.val (.int p0), .val (.int p1), .val (.int p2), .val (.int (Int32.ofNat f)), .val (.int (Int32.ofNat l')), .unset, .unset, .unset, .unset, .unset, .unset, .unset, .unset, .unset, .unset, .unset, .unset, .unset, .unset, .unset, .unset, .unset] [(.int ((p2 &&& (65535 : Int32)) + (1 : Int32)))])) _
        refine st3 _ ?_
        show Steps p.tables e below (s₁.setTop (mkF m 17 #[.val (.int p0), .val (.int p1), .val (.int p2), .val (.int (Int32.ofNat f)), .val (.int (Int32.ofNat l')), .unset, .unset, .unset, .unset, .unset, .unset, .unset, .unset, .unset, .unset, .unset, .unset, .unset, .unset, .unset, .unset, .unset] [(.int (Int32.ofNat n))])) _
        refine XS.istore X0.here hx rfl (hb hby at_17) rfl (l' := #[.val (.int p0), .val (.int p1), .val (.int p2), .val (.int (Int32.ofNat f)), .val (.int (Int32.ofNat l')), .val (.int (Int32.ofNat n)), .unset, .unset, .unset, .unset, .unset, .unset, .unset, .unset, .unset, .unset, .unset, .unset, .unset, .unset, .unset, .unset]) rfl ?_
        show Steps p.tables e below (s₁.setTop (mkF m 19 #[.val (.int p0), .val (.int p1), .val (.int p2), .val (.int (Int32.ofNat f)), .val (.int (Int32.ofNat l')), .val (.int (Int32.ofNat n)), .unset, .unset, .unset, .unset, .unset, .unset, .unset, .unset, .unset, .unset, .unset, .unset, .unset, .unset, .unset, .unset] [])) _
        refine XS.iload X0.here hx rfl (hb hby at_19) rfl ?_
        show Steps p.tables e below (s₁.setTop (mkF m 21 #[.val (.int p0), .val (.int p1), .val (.int p2), .val (.int (Int32.ofNat f)), .val (.int (Int32.ofNat l')), .val (.int (Int32.ofNat n)), .unset, .unset, .unset, .unset, .unset, .unset, .unset, .unset, .unset, .unset, .unset, .unset, .unset, .unset, .unset, .unset] [(.int (Int32.ofNat n))])) _
        refine XS.i2dS X0.here hx rfl (hb hby at_21) rfl rfl ?_
        show Steps p.tables e below (s₁.setTop (mkF m 22 #[.val (.int p0), .val (.int p1), .val (.int p2), .val (.int (Int32.ofNat f)), .val (.int (Int32.ofNat l')), .val (.int (Int32.ofNat n)), .unset, .unset, .unset, .unset, .unset, .unset, .unset, .unset, .unset, .unset, .unset, .unset, .unset, .unset, .unset, .unset] [(.double (FP.i2d (Int32.ofNat n)))])) _
        refine XS.dstore X0.here hx rfl (hb hby at_22) rfl (l' := #[.val (.int p0), .val (.int p1), .val (.int p2), .val (.int (Int32.ofNat f)), .val (.int (Int32.ofNat l')), .val (.int (Int32.ofNat n)), .val (.double (FP.i2d (Int32.ofNat n))), .second, .unset, .unset, .unset, .unset, .unset, .unset, .unset, .unset, .unset, .unset, .unset, .unset, .unset, .unset]) rfl ?_
        show Steps p.tables e below (s₁.setTop (mkF m 24 #[.val (.int p0), .val (.int p1), .val (.int p2), .val (.int (Int32.ofNat f)), .val (.int (Int32.ofNat l')), .val (.int (Int32.ofNat n)), .val (.double (FP.i2d (Int32.ofNat n))), .second, .unset, .unset, .unset, .unset, .unset, .unset, .unset, .unset, .unset, .unset, .unset, .unset, .unset, .unset] [])) _
        refine XS.iloadN X0.here hx rfl (hb hby at_24) rfl ?_
        show Steps p.tables e below (s₁.setTop (mkF m 25 #[.val (.int p0), .val (.int p1), .val (.int p2), .val (.int (Int32.ofNat f)), .val (.int (Int32.ofNat l')), .val (.int (Int32.ofNat n)), .val (.double (FP.i2d (Int32.ofNat n))), .second, .unset, .unset, .unset, .unset, .unset, .unset, .unset, .unset, .unset, .unset, .unset, .unset, .unset, .unset] [(.int (Int32.ofNat f))])) _
        refine XS.iload X0.here hx rfl (hb hby at_25) rfl ?_
        show Steps p.tables e below (s₁.setTop (mkF m 27 #[.val (.int p0), .val (.int p1), .val (.int p2), .val (.int (Int32.ofNat f)), .val (.int (Int32.ofNat l')), .val (.int (Int32.ofNat n)), .val (.double (FP.i2d (Int32.ofNat n))), .second, .unset, .unset, .unset, .unset, .unset, .unset, .unset, .unset, .unset, .unset, .unset, .unset, .unset, .unset] [(.int (Int32.ofNat l')), (.int (Int32.ofNat f))])) _
        refine XS.dload X0.here hx rfl (hb hby at_27) rfl ?_
        show Steps p.tables e below (s₁.setTop (mkF m 29 #[.val (.int p0), .val (.int p1), .val (.int p2), .val (.int (Int32.ofNat f)), .val (.int (Int32.ofNat l')), .val (.int (Int32.ofNat n)), .val (.double (FP.i2d (Int32.ofNat n))), .second, .unset, .unset, .unset, .unset, .unset, .unset, .unset, .unset, .unset, .unset, .unset, .unset, .unset, .unset] [(.double (FP.i2d (Int32.ofNat n))), (.int (Int32.ofNat l')), (.int (Int32.ofNat f))])) _
        refine st4 _ ?_
        show Steps p.tables e below (T4.setTop (mkF m 32 #[.val (.int p0), .val (.int p1), .val (.int p2), .val (.int (Int32.ofNat f)), .val (.int (Int32.ofNat l')), .val (.int (Int32.ofNat n)), .val (.double (FP.i2d (Int32.ofNat n))), .second, .unset, .unset, .unset, .unset, .unset, .unset, .unset, .unset, .unset, .unset, .unset, .unset, .unset, .unset] [(.double (own_Td f l' n))])) _
        refine XS.dstore X4.here hx rfl (hb hby at_32) rfl (l' := #[.val (.int p0), .val (.int p1), .val (.int p2), .val (.int (Int32.ofNat f)), .val (.int (Int32.ofNat l')), .val (.int (Int32.ofNat n)), .val (.double (FP.i2d (Int32.ofNat n))), .second, .val (.double (own_Td f l' n)), .second, .unset, .unset, .unset, .unset, .unset, .unset, .unset, .unset, .unset, .unset, .unset, .unset]) rfl ?_
        show Steps p.tables e below (T4.setTop (mkF m 34 #[.val (.int p0), .val (.int p1), .val (.int p2), .val (.int (Int32.ofNat f)), .val (.int (Int32.ofNat l')), .val (.int (Int32.ofNat n)), .val (.double (FP.i2d (Int32.ofNat n))), .second, .val (.double (own_Td f l' n)), .second, .unset, .unset, .unset, .unset, .unset, .unset, .unset, .unset, .unset, .unset, .unset, .unset] [])) _
        refine XS.dconst0 X4.here hx rfl (v := 0) (hb hby at_34) (by decide +kernel) ?_
        show Steps p.tables e below (T4.setTop (mkF m 35 #[.val (.int p0), .val (.int p1), .val (.int p2), .val (.int (Int32.ofNat f)), .val (.int (Int32.ofNat l')), .val (.int (Int32.ofNat n)), .val (.double (FP.i2d (Int32.ofNat n))), .second, .val (.double (own_Td f l' n)), .second, .unset, .unset, .unset, .unset, .unset, .unset, .unset, .unset, .unset, .unset, .unset, .unset] [(.double (0 : UInt64))])) _
        refine XS.dload X4.here hx rfl (hb hby at_35) rfl ?_
        show Steps p.tables e below (T4.setTop (mkF m 37 #[.val (.int p0), .val (.int p1), .val (.int p2), .val (.int (Int32.ofNat f)), .val (.int (Int32.ofNat l')), .val (.int (Int32.ofNat n)), .val (.double (FP.i2d (Int32.ofNat n))), .second, .val (.double (own_Td f l' n)), .second, .unset, .unset, .unset, .unset, .unset, .unset, .unset, .unset, .unset, .unset, .unset, .unset] [(.double (own_Td f l' n)), (.double (0 : UInt64))])) _
        refine XS.dcmpS X4.here hx rfl (v := (-1 : Int32)) (hb hby at_37) rfl (by rw [c1]; rfl) ?_
        show Steps p.tables e below (T4.setTop (mkF m 38 #[.val (.int p0), .val (.int p1), .val (.int p2), .val (.int (Int32.ofNat f)), .val (.int (Int32.ofNat l')), .val (.int (Int32.ofNat n)), .val (.double (FP.i2d (Int32.ofNat n))), .second, .val (.double (own_Td f l' n)), .second, .unset, .unset, .unset, .unset, .unset, .unset, .unset, .unset, .unset, .unset, .unset, .unset] [(.int (-1 : Int32))])) _
        refine XS.ifNo X4.here hx rfl (hb hby at_38) rfl ((if0 _ _).trans (flt (by decide)).2.2.1) ?_
        show Steps p.tables e below (T4.setTop (mkF m 41 #[.val (.int p0), .val (.int p1), .val (.int p2), .val (.int (Int32.ofNat f)), .val (.int (Int32.ofNat l')), .val (.int (Int32.ofNat n)), .val (.double (FP.i2d (Int32.ofNat n))), .second, .val (.double (own_Td f l' n)), .second, .unset, .unset, .unset, .unset, .unset, .unset, .unset, .unset, .unset, .unset, .unset, .unset] [])) _
        refine XS.dload X4.here hx rfl (hb hby at_41) rfl ?_
        show Steps p.tables e below (T4.setTop (mkF m 43 #[.val (.int p0), .val (.int p1), .val (.int p2), .val (.int (Int32.ofNat f)), .val (.int (Int32.ofNat l')), .val (.int (Int32.ofNat n)), .val (.double (FP.i2d (Int32.ofNat n))), .second, .val (.double (own_Td f l' n)), .second, .unset, .unset, .unset, .unset, .unset, .unset, .unset, .unset, .unset, .unset, .unset, .unset] [(.double (own_Td f l' n))])) _
        refine XS.dconst1 X4.here hx rfl (v := 4607182418800017408) (hb hby at_43) (by decide +kernel) ?_
        show Steps p.tables e below (T4.setTop (mkF m 44 #[.val (.int p0), .val (.int p1), .val (.int p2), .val (.int (Int32.ofNat f)), .val (.int (Int32.ofNat l')), .val (.int (Int32.ofNat n)), .val (.double (FP.i2d (Int32.ofNat n))), .second, .val (.double (own_Td f l' n)), .second, .unset, .unset, .unset, .unset, .unset, .unset, .unset, .unset, .unset, .unset, .unset, .unset] [(.double (4607182418800017408 : UInt64)), (.double (own_Td f l' n))])) _
        refine XS.dcmpS X4.here hx rfl (v := (-1 : Int32)) (hb hby at_44) rfl (by rw [c3]; rfl) ?_
        show Steps p.tables e below (T4.setTop (mkF m 45 #[.val (.int p0), .val (.int p1), .val (.int p2), .val (.int (Int32.ofNat f)), .val (.int (Int32.ofNat l')), .val (.int (Int32.ofNat n)), .val (.double (FP.i2d (Int32.ofNat n))), .second, .val (.double (own_Td f l' n)), .second, .unset, .unset, .unset, .unset, .unset, .unset, .unset, .unset, .unset, .unset, .unset, .unset] [(.int (-1 : Int32))])) _
        refine XS.ifNo X4.here hx rfl (hb hby at_45) rfl ((if0 _ _).trans (tlt (by decide)).2.1) ?_
        show Steps p.tables e below (T4.setTop (mkF m 48 #[.val (.int p0), .val (.int p1), .val (.int p2), .val (.int (Int32.ofNat f)), .val (.int (Int32.ofNat l')), .val (.int (Int32.ofNat n)), .val (.double (FP.i2d (Int32.ofNat n))), .second, .val (.double (own_Td f l' n)), .second, .unset, .unset, .unset, .unset, .unset, .unset, .unset, .unset, .unset, .unset, .unset, .unset] [])) _
        refine XS.iconst X4.here hx rfl (hb hby at_48) ?_
        show Steps p.tables e below (T4.setTop (mkF m 49 #[.val (.int p0), .val (.int p1), .val (.int p2), .val (.int (Int32.ofNat f)), .val (.int (Int32.ofNat l')), .val (.int (Int32.ofNat n)), .val (.double (FP.i2d (Int32.ofNat n))), .second, .val (.double (own_Td f l' n)), .second, .unset, .unset, .unset, .unset, .unset, .unset, .unset, .unset, .unset, .unset, .unset, .unset] [(.int (1 : Int32))])) _
        refine XS.goto X4.here hx rfl (pc0 := 49) (pc' := 53) rfl (hb hby at_49) (by decide) (by decide) ?_
        show Steps p.tables e below (T4.setTop (mkF m 53 #[.val (.int p0), .val (.int p1), .val (.int p2), .val (.int (Int32.ofNat f)), .val (.int (Int32.ofNat l')), .val (.int (Int32.ofNat n)), .val (.double (FP.i2d (Int32.ofNat n))), .second, .val (.double (own_Td f l' n)), .second, .unset, .unset, .unset, .unset, .unset, .unset, .unset, .unset, .unset, .unset, .unset, .unset] [(.int (1 : Int32))])) _
        refine XS.istore X4.here hx rfl (hb hby at_53) rfl (l' := #[.val (.int p0), .val (.int p1), .val (.int p2), .val (.int (Int32.ofNat f)), .val (.int (Int32.ofNat l')), .val (.int (Int32.ofNat n)), .val (.double (FP.i2d (Int32.ofNat n))), .second, .val (.double (own_Td f l' n)), .second, .val (.int (1 : Int32)), .unset, .unset, .unset, .unset, .unset, .unset, .unset, .unset, .unset, .unset, .unset]) rfl ?_
        show Steps p.tables e below (T4.setTop (mkF m 55 #[.val (.int p0), .val (.int p1), .val (.int p2), .val (.int (Int32.ofNat f)), .val (.int (Int32.ofNat l')), .val (.int (Int32.ofNat n)), .val (.double (FP.i2d (Int32.ofNat n))), .second, .val (.double (own_Td f l' n)), .second, .val (.int (1 : Int32)), .unset, .unset, .unset, .unset, .unset, .unset, .unset, .unset, .unset, .unset, .unset] [])) _
        refine XS.iload X4.here hx rfl (hb hby at_55) rfl ?_
        show Steps p.tables e below (T4.setTop (mkF m 57 #[.val (.int p0), .val (.int p1), .val (.int p2), .val (.int (Int32.ofNat f)), .val (.int (Int32.ofNat l')), .val (.int (Int32.ofNat n)), .val (.double (FP.i2d (Int32.ofNat n))), .second, .val (.double (own_Td f l' n)), .second, .val (.int (1 : Int32)), .unset, .unset, .unset, .unset, .unset, .unset, .unset, .unset, .unset, .unset, .unset] [(.int (1 : Int32))])) _
        refine XS.ifNo X4.here hx rfl (hb hby at_57) rfl ((if0 _ _).trans (feq (by decide)).1) ?_
        show Steps p.tables e below (T4.setTop (mkF m 60 #[.val (.int p0), .val (.int p1), .val (.int p2), .val (.int (Int32.ofNat f)), .val (.int (Int32.ofNat l')), .val (.int (Int32.ofNat n)), .val (.double (FP.i2d (Int32.ofNat n))), .second, .val (.double (own_Td f l' n)), .second, .val (.int (1 : Int32)), .unset, .unset, .unset, .unset, .unset, .unset, .unset, .unset, .unset, .unset, .unset] [])) _
        refine XS.dload X4.here hx rfl (hb hby at_60) rfl ?_
        show Steps p.tables e below (T4.setTop (mkF m 62 #[.val (.int p0), .val (.int p1), .val (.int p2), .val (.int (Int32.ofNat f)), .val (.int (Int32.ofNat l')), .val (.int (Int32.ofNat n)), .val (.double (FP.i2d (Int32.ofNat n))), .second, .val (.double (own_Td f l' n)), .second, .val (.int (1 : Int32)), .unset, .unset, .unset, .unset, .unset, .unset, .unset, .unset, .unset, .unset, .unset] [(.double (own_Td f l' n))])) _
        refine XS.dconst0 X4.here hx rfl (v := 0) (hb hby at_62) (by decide +kernel) ?_
        show Steps p.tables e below (T4.setTop (mkF m 63 #[.val (.int p0), .val (.int p1), .val (.int p2), .val (.int (Int32.ofNat f)), .val (.int (Int32.ofNat l')), .val (.int (Int32.ofNat n)), .val (.double (FP.i2d (Int32.ofNat n))), .second, .val (.double (own_Td f l' n)), .second, .val (.int (1 : Int32)), .unset, .unset, .unset, .unset, .unset, .unset, .unset, .unset, .unset, .unset, .unset] [(.double (0 : UInt64)), (.double (own_Td f l' n))])) _
        refine XS.dcmpS X4.here hx rfl (v := (1 : Int32)) (hb hby at_63) rfl (by rw [c2]; rfl) ?_
        show Steps p.tables e below (T4.setTop (mkF m 64 #[.val (.int p0), .val (.int p1), .val (.int p2), .val (.int (Int32.ofNat f)), .val (.int (Int32.ofNat l')), .val (.int (Int32.ofNat n)), .val (.double (FP.i2d (Int32.ofNat n))), .second, .val (.double (own_Td f l' n)), .second, .val (.int (1 : Int32)), .unset, .unset, .unset, .unset, .unset, .unset, .unset, .unset, .unset, .unset, .unset] [(.int (1 : Int32))])) _
        refine XS.ifYes X4.here hx rfl (pc0 := 64) (pc' := 71) rfl (hb hby at_64) rfl ((if0 _ _).trans (feq (by decide)).2) (by decide) (by decide) ?_
        show Steps p.tables e below (T4.setTop (mkF m 71 #[.val (.int p0), .val (.int p1), .val (.int p2), .val (.int (Int32.ofNat f)), .val (.int (Int32.ofNat l')), .val (.int (Int32.ofNat n)), .val (.double (FP.i2d (Int32.ofNat n))), .second, .val (.double (own_Td f l' n)), .second, .val (.int (1 : Int32)), .unset, .unset, .unset, .unset, .unset, .unset, .unset, .unset, .unset, .unset, .unset] [])) _
        refine XS.iconst X4.here hx rfl (hb hby at_71) ?_
        show Steps p.tables e below (T4.setTop (mkF m 72 #[.val (.int p0), .val (.int p1), .val (.int p2), .val (.int (Int32.ofNat f)), .val (.int (Int32.ofNat l')), .val (.int (Int32.ofNat n)), .val (.double (FP.i2d (Int32.ofNat n))), .second, .val (.double (own_Td f l' n)), .second, .val (.int (1 : Int32)), .unset, .unset, .unset, .unset, .unset, .unset, .unset, .unset, .unset, .unset, .unset] [(.int (0 : Int32))])) _
        refine XS.iloadN X4.here hx rfl (hb hby at_72) rfl ?_
        show Steps p.tables e below (T4.setTop (mkF m 73 #[.val (.int p0), .val (.int p1), .val (.int p2), .val (.int (Int32.ofNat f)), .val (.int (Int32.ofNat l')), .val (.int (Int32.ofNat n)), .val (.double (FP.i2d (Int32.ofNat n))), .second, .val (.double (own_Td f l' n)), .second, .val (.int (1 : Int32)), .unset, .unset, .unset, .unset, .unset, .unset, .unset, .unset, .unset, .unset, .unset] [(.int (Int32.ofNat f)), (.int (0 : Int32))])) _
        refine XS.ifYes X4.here hx rfl (pc0 := 73) (pc' := 80) rfl (hb hby at_73) rfl ((if0 _ _).trans (feq (own_ne0 hf0 f1)).2) (by decide) (by decide) ?_
        show Steps p.tables e below (T4.setTop (mkF m 80 #[.val (.int p0), .val (.int p1), .val (.int p2), .val (.int (Int32.ofNat f)), .val (.int (Int32.ofNat l')), .val (.int (Int32.ofNat n)), .val (.double (FP.i2d (Int32.ofNat n))), .second, .val (.double (own_Td f l' n)), .second, .val (.int (1 : Int32)), .unset, .unset, .unset, .unset, .unset, .unset, .unset, .unset, .unset, .unset, .unset] [(.int (0 : Int32))])) _
        refine XS.iconst X4.here hx rfl (hb hby at_80) ?_
        show Steps p.tables e below (T4.setTop (mkF m 81 #[.val (.int p0), .val (.int p1), .val (.int p2), .val (.int (Int32.ofNat f)), .val (.int (Int32.ofNat l')), .val (.int (Int32.ofNat n)), .val (.double (FP.i2d (Int32.ofNat n))), .second, .val (.double (own_Td f l' n)), .second, .val (.int (1 : Int32)), .unset, .unset, .unset, .unset, .unset, .unset, .unset, .unset, .unset, .unset, .unset] [(.int (0 : Int32)), (.int (0 : Int32))])) _
        refine XS.icmpNo X4.here hx rfl (hb hby at_81) rfl (teq rfl).2 ?_
        show Steps p.tables e below (T4.setTop (mkF m 84 #[.val (.int p0), .val (.int p1), .val (.int p2), .val (.int (Int32.ofNat f)), .val (.int (Int32.ofNat l')), .val (.int (Int32.ofNat n)), .val (.double (FP.i2d (Int32.ofNat n))), .second, .val (.double (own_Td f l' n)), .second, .val (.int (1 : Int32)), .unset, .unset, .unset, .unset, .unset, .unset, .unset, .unset, .unset, .unset, .unset] [])) _
        refine XS.iconst X4.here hx rfl (hb hby at_84) ?_
        show Steps p.tables e below (T4.setTop (mkF m 85 #[.val (.int p0), .val (.int p1), .val (.int p2), .val (.int (Int32.ofNat f)), .val (.int (Int32.ofNat l')), .val (.int (Int32.ofNat n)), .val (.double (FP.i2d (Int32.ofNat n))), .second, .val (.double (own_Td f l' n)), .second, .val (.int (1 : Int32)), .unset, .unset, .unset, .unset, .unset, .unset, .unset, .unset, .unset, .unset, .unset] [(.int (1 : Int32))])) _
        refine XS.goto X4.here hx rfl (pc0 := 85) (pc' := 89) rfl (hb hby at_85) (by decide) (by decide) ?_
        show Steps p.tables e below (T4.setTop (mkF m 89 #[.val (.int p0), .val (.int p1), .val (.int p2), .val (.int (Int32.ofNat f)), .val (.int (Int32.ofNat l')), .val (.int (Int32.ofNat n)), .val (.double (FP.i2d (Int32.ofNat n))), .second, .val (.double (own_Td f l' n)), .second, .val (.int (1 : Int32)), .unset, .unset, .unset, .unset, .unset, .unset, .unset, .unset, .unset, .unset, .unset] [(.int (1 : Int32))])) _
        refine XS.istore X4.here hx rfl (hb hby at_89) rfl (l' := #[.val (.int p0), .val (.int p1), .val (.int p2), .val (.int (Int32.ofNat f)), .val (.int (Int32.ofNat l')), .val (.int (Int32.ofNat n)), .val (.double (FP.i2d (Int32.ofNat n))), .second, .val (.double (own_Td f l' n)), .second, .val (.int (1 : Int32)), .unset, .unset, .unset, .unset, .unset, .unset, .unset, .unset, .unset, .unset, .unset]) rfl ?_
        show Steps p.tables e below (T4.setTop (mkF m 91 #[.val (.int p0), .val (.int p1), .val (.int p2), .val (.int (Int32.ofNat f)), .val (.int (Int32.ofNat l')), .val (.int (Int32.ofNat n)), .val (.double (FP.i2d (Int32.ofNat n))), .second, .val (.double (own_Td f l' n)), .second, .val (.int (1 : Int32)), .unset, .unset, .unset, .unset, .unset, .unset, .unset, .unset, .unset, .unset, .unset] [])) _
        refine XS.iloadN X4.here hx rfl (hb hby at_91) rfl ?_
        show Steps p.tables e below (T4.setTop (mkF m 92 #[.val (.int p0), .val (.int p1), .val (.int p2), .val (.int (Int32.ofNat f)), .val (.int (Int32.ofNat l')), .val (.int (Int32.ofNat n)), .val (.double (FP.i2d (Int32.ofNat n))), .second, .val (.double (own_Td f l' n)), .second, .val (.int (1 : Int32)), .unset, .unset, .unset, .unset, .unset, .unset, .unset, .unset, .unset, .unset, .unset] [(.int (Int32.ofNat f))])) _
        refine XS.iconst X4.here hx rfl (hb hby at_92) ?_
        show Steps p.tables e below (T4.setTop (mkF m 93 #[.val (.int p0), .val (.int p1), .val (.int p2), .val (.int (Int32.ofNat f)), .val (.int (Int32.ofNat l')), .val (.int (Int32.ofNat n)), .val (.double (FP.i2d (Int32.ofNat n))), .second, .val (.double (own_Td f l' n)), .second, .val (.int (1 : Int32)), .unset, .unset, .unset, .unset, .unset, .unset, .unset, .unset, .unset, .unset, .unset] [(.int (1 : Int32)), (.int (Int32.ofNat f))])) _
        refine XS.iadd X4.here hx rfl (hb hby at_93) rfl ?_
        show Steps p.tables e below (T4.setTop (mkF m 94 #[.val (.int p0), .val (.int p1), .val (.int p2), .val (.int (Int32.ofNat f)), .val (.int (Int32.ofNat l')), .val (.int (Int32.ofNat n)), .val (.double (FP.i2d (Int32.ofNat n))), .second, .val (.double (own_Td f l' n)), .second, .val (.int (1 : Int32)), .unset, .unset, .unset, .unset, .unset, .unset, .unset, .unset, .unset, .unset, .unset] [(.int ((Int32.ofNat f) + (1 : Int32)))])) _
        refine st23 _ ?_
        show Steps p.tables e below (T4.setTop (mkF m 94 #[.val (.int p0), .val (.int p1), .val (.int p2), .val (.int (Int32.ofNat f)), .val (.int (Int32.ofNat l')), .val (.int (Int32.ofNat n)), .val (.double (FP.i2d (Int32.ofNat n))), .second, .val (.double (own_Td f l' n)), .second, .val (.int (1 : Int32)), .unset, .unset, .unset, .unset, .unset, .unset, .unset, .unset, .unset, .unset, .unset] [(.int (Int32.ofNat (f + 1)))])) _
        refine XS.iload X4.here hx rfl (hb hby at_94) rfl ?_
        show Steps p.tables e below (T4.setTop (mkF m 96 #[.val (.int p0), .val (.int p1), .val (.int p2), .val (.int (Int32.ofNat f)), .val (.int (Int32.ofNat l')), .val (.int (Int32.ofNat n)), .val (.double (FP.i2d (Int32.ofNat n))), .second, .val (.double (own_Td f l' n)), .second, .val (.int (1 : Int32)), .unset, .unset, .unset, .unset, .unset, .unset, .unset, .unset, .unset, .unset, .unset] [(.int (Int32.ofNat l')), (.int (Int32.ofNat (f + 1)))])) _
        refine XS.dload X4.here hx rfl (hb hby at_96) rfl ?_
        show Steps p.tables e below (T4.setTop (mkF m 98 #[.val (.int p0), .val (.int p1), .val (.int p2), .val (.int (Int32.ofNat f)), .val (.int (Int32.ofNat l')), .val (.int (Int32.ofNat n)), .val (.double (FP.i2d (Int32.ofNat n))), .second, .val (.double (own_Td f l' n)), .second, .val (.int (1 : Int32)), .unset, .unset, .unset, .unset, .unset, .unset, .unset, .unset, .unset, .unset, .unset] [(.double (FP.i2d (Int32.ofNat n))), (.int (Int32.ofNat l')), (.int (Int32.ofNat (f + 1)))])) _
        refine st24 _ ?_
        show Steps p.tables e below (T24.setTop (mkF m 101 #[.val (.int p0), .val (.int p1), .val (.int p2), .val (.int (Int32.ofNat f)), .val (.int (Int32.ofNat l')), .val (.int (Int32.ofNat n)), .val (.double (FP.i2d (Int32.ofNat n))), .second, .val (.double (own_Td f l' n)), .second, .val (.int (1 : Int32)), .unset, .unset, .unset, .unset, .unset, .unset, .unset, .unset, .unset, .unset, .unset] [(.double (own_Td (f + 1) l' n))])) _
        refine XS.dstore X24.here hx rfl (hb hby at_101) rfl (l' := #[.val (.int p0), .val (.int p1), .val (.int p2), .val (.int (Int32.ofNat f)), .val (.int (Int32.ofNat l')), .val (.int (Int32.ofNat n)), .val (.double (FP.i2d (Int32.ofNat n))), .second, .val (.double (own_Td f l' n)), .second, .val (.int (1 : Int32)), .val (.double (own_Td (f + 1) l' n)), .second, .unset, .unset, .unset, .unset, .unset, .unset, .unset, .unset, .unset]) rfl ?_
        show Steps p.tables e below (T24.setTop (mkF m 103 #[.val (.int p0), .val (.int p1), .val (.int p2), .val (.int (Int32.ofNat f)), .val (.int (Int32.ofNat l')), .val (.int (Int32.ofNat n)), .val (.double (FP.i2d (Int32.ofNat n))), .second, .val (.double (own_Td f l' n)), .second, .val (.int (1 : Int32)), .val (.double (own_Td (f + 1) l' n)), .second, .unset, .unset, .unset, .unset, .unset, .unset, .unset, .unset, .unset] [])) _
        refine XS.iload X24.here hx rfl (hb hby at_103) rfl ?_
        show Steps p.tables e below (T24.setTop (mkF m 105 #[.val (.int p0), .val (.int p1), .val (.int p2), .val (.int (Int32.ofNat f)), .val (.int (Int32.ofNat l')), .val (.int (Int32.ofNat n)), .val (.double (FP.i2d (Int32.ofNat n))), .second, .val (.double (own_Td f l' n)), .second, .val (.int (1 : Int32)), .val (.double (own_Td (f + 1) l' n)), .second, .unset, .unset, .unset, .unset, .unset, .unset, .unset, .unset, .unset] [(.int (1 : Int32))])) _
        refine XS.ifNo X24.here hx rfl (hb hby at_105) rfl ((if0 _ _).trans (feq (by decide)).1) ?_
        show Steps p.tables e below (T24.setTop (mkF m 108 #[.val (.int p0), .val (.int p1), .val (.int p2), .val (.int (Int32.ofNat f)), .val (.int (Int32.ofNat l')), .val (.int (Int32.ofNat n)), .val (.double (FP.i2d (Int32.ofNat n))), .second, .val (.double (own_Td f l' n)), .second, .val (.int (1 : Int32)), .val (.double (own_Td (f + 1) l' n)), .second, .unset, .unset, .unset, .unset, .unset, .unset, .unset, .unset, .unset] [])) _
        refine XS.dload X24.here hx rfl (hb hby at_108) rfl ?_
        show Steps p.tables e below (T24.setTop (mkF m 110 #[.val (.int p0), .val (.int p1), .val (.int p2), .val (.int (Int32.ofNat f)), .val (.int (Int32.ofNat l')), .val (.int (Int32.ofNat n)), .val (.double (FP.i2d (Int32.ofNat n))), .second, .val (.double (own_Td f l' n)), .second, .val (.int (1 : Int32)), .val (.double (own_Td (f + 1) l' n)), .second, .unset, .unset, .unset, .unset, .unset, .unset, .unset, .unset, .unset] [(.double (own_Td (f + 1) l' n))])) _
        refine XS.dload X24.here hx rfl (hb hby at_110) rfl ?_
        show Steps p.tables e below (T24.setTop (mkF m 112 #[.val (.int p0), .val (.int p1), .val (.int p2), .val (.int (Int32.ofNat f)), .val (.int (Int32.ofNat l')), .val (.int (Int32.ofNat n)), .val (.double (FP.i2d (Int32.ofNat n))), .second, .val (.double (own_Td f l' n)), .second, .val (.int (1 : Int32)), .val (.double (own_Td (f + 1) l' n)), .second, .unset, .unset, .unset, .unset, .unset, .unset, .unset, .unset, .unset] [(.double (own_Td f l' n)), (.double (own_Td (f + 1) l' n))])) _
        refine XS.dcmpS X24.here hx rfl (v := (1 : Int32)) (hb hby at_112) rfl (by rw [own_more hf l1 hn0 n1]; rfl) ?_
        show Steps p.tables e below (T24.setTop (mkF m 113 #[.val (.int p0), .val (.int p1), .val (.int p2), .val (.int (Int32.ofNat f)), .val (.int (Int32.ofNat l')), .val (.int (Int32.ofNat n)), .val (.double (FP.i2d (Int32.ofNat n))), .second, .val (.double (own_Td f l' n)), .second, .val (.int (1 : Int32)), .val (.double (own_Td (f + 1) l' n)), .second, .unset, .unset, .unset, .unset, .unset, .unset, .unset, .unset, .unset] [(.int (1 : Int32))])) _
        refine XS.ifNo X24.here hx rfl (hb hby at_113) rfl ((if0 _ _).trans (tlt (by decide)).2.2.2) ?_
        show Steps p.tables e below (T24.setTop (mkF m 116 #[.val (.int p0), .val (.int p1), .val (.int p2), .val (.int (Int32.ofNat f)), .val (.int (Int32.ofNat l')), .val (.int (Int32.ofNat n)), .val (.double (FP.i2d (Int32.ofNat n))), .second, .val (.double (own_Td f l' n)), .second, .val (.int (1 : Int32)), .val (.double (own_Td (f + 1) l' n)), .second, .unset, .unset, .unset, .unset, .unset, .unset, .unset, .unset, .unset] [])) _
        refine XS.iconst X24.here hx rfl (hb hby at_116) ?_
        show Steps p.tables e below (T24.setTop (mkF m 117 #[.val (.int p0), .val (.int p1), .val (.int p2), .val (.int (Int32.ofNat f)), .val (.int (Int32.ofNat l')), .val (.int (Int32.ofNat n)), .val (.double (FP.i2d (Int32.ofNat n))), .second, .val (.double (own_Td f l' n)), .second, .val (.int (1 : Int32)), .val (.double (own_Td (f + 1) l' n)), .second, .unset, .unset, .unset, .unset, .unset, .unset, .unset, .unset, .unset] [(.int (1 : Int32))])) _
        refine XS.goto X24.here hx rfl (pc0 := 117) (pc' := 121) rfl (hb hby at_117) (by decide) (by decide) ?_
        show Steps p.tables e below (T24.setTop (mkF m 121 #[.val (.int p0), .val (.int p1), .val (.int p2), .val (.int (Int32.ofNat f)), .val (.int (Int32.ofNat l')), .val (.int (Int32.ofNat n)), .val (.double (FP.i2d (Int32.ofNat n))), .second, .val (.double (own_Td f l' n)), .second, .val (.int (1 : Int32)), .val (.double (own_Td (f + 1) l' n)), .second, .unset, .unset, .unset, .unset, .unset, .unset, .unset, .unset, .unset] [(.int (1 : Int32))])) _
        refine XS.istore X24.here hx rfl (hb hby at_121) rfl (l' := #[.val (.int p0), .val (.int p1), .val (.int p2), .val (.int (Int32.ofNat f)), .val (.int (Int32.ofNat l')), .val (.int (Int32.ofNat n)), .val (.double (FP.i2d (Int32.ofNat n))), .second, .val (.double (own_Td f l' n)), .second, .val (.int (1 : Int32)), .val (.double (own_Td (f + 1) l' n)), .second, .unset, .unset, .unset, .unset, .unset, .unset, .unset, .unset, .unset]) rfl ?_
        show Steps p.tables e below (T24.setTop (mkF m 123 #[.val (.int p0), .val (.int p1), .val (.int p2), .val (.int (Int32.ofNat f)), .val (.int (Int32.ofNat l')), .val (.int (Int32.ofNat n)), .val (.double (FP.i2d (Int32.ofNat n))), .second, .val (.double (own_Td f l' n)), .second, .val (.int (1 : Int32)), .val (.double (own_Td (f + 1) l' n)), .second, .unset, .unset, .unset, .unset, .unset, .unset, .unset, .unset, .unset] [])) _
        refine XS.iloadN X24.here hx rfl (hb hby at_123) rfl ?_
        show Steps p.tables e below (T24.setTop (mkF m 124 #[.val (.int p0), .val (.int p1), .val (.int p2), .val (.int (Int32.ofNat f)), .val (.int (Int32.ofNat l')), .val (.int (Int32.ofNat n)), .val (.double (FP.i2d (Int32.ofNat n))), .second, .val (.double (own_Td f l' n)), .second, .val (.int (1 : Int32)), .val (.double (own_Td (f + 1) l' n)), .second, .unset, .unset, .unset, .unset, .unset, .unset, .unset, .unset, .unset] [(.int (Int32.ofNat f))])) _
        refine XS.iload X24.here hx rfl (hb hby at_124) rfl ?_
        show Steps p.tables e below (T24.setTop (mkF m 126 #[.val (.int p0), .val (.int p1), .val (.int p2), .val (.int (Int32.ofNat f)), .val (.int (Int32.ofNat l')), .val (.int (Int32.ofNat n)), .val (.double (FP.i2d (Int32.ofNat n))), .second, .val (.double (own_Td f l' n)), .second, .val (.int (1 : Int32)), .val (.double (own_Td (f + 1) l' n)), .second, .unset, .unset, .unset, .unset, .unset, .unset, .unset, .unset, .unset] [(.int (Int32.ofNat l')), (.int (Int32.ofNat f))])) _
        refine XS.iconst X24.here hx rfl (hb hby at_126) ?_
        show Steps p.tables e below (T24.setTop (mkF m 127 #[.val (.int p0), .val (.int p1), .val (.int p2), .val (.int (Int32.ofNat f)), .val (.int (Int32.ofNat l')), .val (.int (Int32.ofNat n)), .val (.double (FP.i2d (Int32.ofNat n))), .second, .val (.double (own_Td f l' n)), .second, .val (.int (1 : Int32)), .val (.double (own_Td (f + 1) l' n)), .second, .unset, .unset, .unset, .unset, .unset, .unset, .unset, .unset, .unset] [(.int (1 : Int32)), (.int (Int32.ofNat l')), (.int (Int32.ofNat f))])) _
        refine XS.iadd X24.here hx rfl (hb hby at_127) rfl ?_
        show Steps p.tables e below (T24.setTop (mkF m 128 #[.val (.int p0), .val (.int p1), .val (.int p2), .val (.int (Int32.ofNat f)), .val (.int (Int32.ofNat l')), .val (.int (Int32.ofNat n)), .val (.double (FP.i2d (Int32.ofNat n))), .second, .val (.double (own_Td f l' n)), .second, .val (.int (1 : Int32)), .val (.double (own_Td (f + 1) l' n)), .second, .unset, .unset, .unset, .unset, .unset, .unset, .unset, .unset, .unset] [(.int ((Int32.ofNat l') + (1 : Int32))), (.int (Int32.ofNat f))])) _
        refine st25 _ ?_
        show Steps p.tables e below (T24.setTop (mkF m 128 #[.val (.int p0), .val (.int p1), .val (.int p2), .val (.int (Int32.ofNat f)), .val (.int (Int32.ofNat l')), .val (.int (Int32.ofNat n)), .val (.double (FP.i2d (Int32.ofNat n))), .second, .val (.double (own_Td f l' n)), .second, .val (.int (1 : Int32)), .val (.double (own_Td (f + 1) l' n)), .second, .unset, .unset, .unset, .unset, .unset, .unset, .unset, .unset, .unset] [(.int (Int32.ofNat (l' + 1))), (.int (Int32.ofNat f))])) _
        refine XS.dload X24.here hx rfl (hb hby at_128) rfl ?_
        show Steps p.tables e below (T24.setTop (mkF m 130 #[.val (.int p0), .val (.int p1), .val (.int p2), .val (.int (Int32.ofNat f)), .val (.int (Int32.ofNat l')), .val (.int (Int32.ofNat n)), .val (.double (FP.i2d (Int32.ofNat n))), .second, .val (.double (own_Td f l' n)), .second, .val (.int (1 : Int32)), .val (.double (own_Td (f + 1) l' n)), .second, .unset, .unset, .unset, .unset, .unset, .unset, .unset, .unset, .unset] [(.double (FP.i2d (Int32.ofNat n))), (.int (Int32.ofNat (l' + 1))), (.int (Int32.ofNat f))])) _
        refine st26 _ ?_
        show Steps p.tables e below (T26.setTop (mkF m 133 #[.val (.int p0), .val (.int p1), .val (.int p2), .val (.int (Int32.ofNat f)), .val (.int (Int32.ofNat l')), .val (.int (Int32.ofNat n)), .val (.double (FP.i2d (Int32.ofNat n))), .second, .val (.double (own_Td f l' n)), .second, .val (.int (1 : Int32)), .val (.double (own_Td (f + 1) l' n)), .second, .unset, .unset, .unset, .unset, .unset, .unset, .unset, .unset, .unset] [(.double (own_Td f (l' + 1) n))])) _
        refine XS.dstore X26.here hx rfl (hb hby at_133) rfl (l' := #[.val (.int p0), .val (.int p1), .val (.int p2), .val (.int (Int32.ofNat f)), .val (.int (Int32.ofNat l')), .val (.int (Int32.ofNat n)), .val (.double (FP.i2d (Int32.ofNat n))), .second, .val (.double (own_Td f l' n)), .second, .val (.int (1 : Int32)), .val (.double (own_Td (f + 1) l' n)), .second, .val (.double (own_Td f (l' + 1) n)), .second, .unset, .unset, .unset, .unset, .unset, .unset, .unset]) rfl ?_
        show Steps p.tables e below (T26.setTop (mkF m 135 #[.val (.int p0), .val (.int p1), .val (.int p2), .val (.int (Int32.ofNat f)), .val (.int (Int32.ofNat l')), .val (.int (Int32.ofNat n)), .val (.double (FP.i2d (Int32.ofNat n))), .second, .val (.double (own_Td f l' n)), .second, .val (.int (1 : Int32)), .val (.double (own_Td (f + 1) l' n)), .second, .val (.double (own_Td f (l' + 1) n)), .second, .unset, .unset, .unset, .unset, .unset, .unset, .unset] [])) _
        refine XS.iloadN X26.here hx rfl (hb hby at_135) rfl ?_
        show Steps p.tables e below (T26.setTop (mkF m 136 #[.val (.int p0), .val (.int p1), .val (.int p2), .val (.int (Int32.ofNat f)), .val (.int (Int32.ofNat l')), .val (.int (Int32.ofNat n)), .val (.double (FP.i2d (Int32.ofNat n))), .second, .val (.double (own_Td f l' n)), .second, .val (.int (1 : Int32)), .val (.double (own_Td (f + 1) l' n)), .second, .val (.double (own_Td f (l' + 1) n)), .second, .unset, .unset, .unset, .unset, .unset, .unset, .unset] [(.int (Int32.ofNat f))])) _
        refine XS.ifNo X26.here hx rfl (hb hby at_136) rfl ((if0 _ _).trans (tlt (own_gt0 hf0 f1)).2.2.2) ?_
        show Steps p.tables e below (T26.setTop (mkF m 139 #[.val (.int p0), .val (.int p1), .val (.int p2), .val (.int (Int32.ofNat f)), .val (.int (Int32.ofNat l')), .val (.int (Int32.ofNat n)), .val (.double (FP.i2d (Int32.ofNat n))), .second, .val (.double (own_Td f l' n)), .second, .val (.int (1 : Int32)), .val (.double (own_Td (f + 1) l' n)), .second, .val (.double (own_Td f (l' + 1) n)), .second, .unset, .unset, .unset, .unset, .unset, .unset, .unset] [])) _
        refine XS.iload X26.here hx rfl (hb hby at_139) rfl ?_
        show Steps p.tables e below (T26.setTop (mkF m 141 #[.val (.int p0), .val (.int p1), .val (.int p2), .val (.int (Int32.ofNat f)), .val (.int (Int32.ofNat l')), .val (.int (Int32.ofNat n)), .val (.double (FP.i2d (Int32.ofNat n))), .second, .val (.double (own_Td f l' n)), .second, .val (.int (1 : Int32)), .val (.double (own_Td (f + 1) l' n)), .second, .val (.double (own_Td f (l' + 1) n)), .second, .unset, .unset, .unset, .unset, .unset, .unset, .unset] [(.int (1 : Int32))])) _
        refine XS.ifNo X26.here hx rfl (hb hby at_141) rfl ((if0 _ _).trans (feq (by decide)).1) ?_
        show Steps p.tables e below (T26.setTop (mkF m 144 #[.val (.int p0), .val (.int p1), .val (.int p2), .val (.int (Int32.ofNat f)), .val (.int (Int32.ofNat l')), .val (.int (Int32.ofNat n)), .val (.double (FP.i2d (Int32.ofNat n))), .second, .val (.double (own_Td f l' n)), .second, .val (.int (1 : Int32)), .val (.double (own_Td (f + 1) l' n)), .second, .val (.double (own_Td f (l' + 1) n)), .second, .unset, .unset, .unset, .unset, .unset, .unset, .unset] [])) _
        refine XS.dload X26.here hx rfl (hb hby at_144) rfl ?_
        show Steps p.tables e below (T26.setTop (mkF m 146 #[.val (.int p0), .val (.int p1), .val (.int p2), .val (.int (Int32.ofNat f)), .val (.int (Int32.ofNat l')), .val (.int (Int32.ofNat n)), .val (.double (FP.i2d (Int32.ofNat n))), .second, .val (.double (own_Td f l' n)), .second, .val (.int (1 : Int32)), .val (.double (own_Td (f + 1) l' n)), .second, .val (.double (own_Td f (l' + 1) n)), .second, .unset, .unset, .unset, .unset, .unset, .unset, .unset] [(.double (own_Td f (l' + 1) n))])) _
        refine XS.dload X26.here hx rfl (hb hby at_146) rfl ?_
        show Steps p.tables e below (T26.setTop (mkF m 148 #[.val (.int p0), .val (.int p1), .val (.int p2), .val (.int (Int32.ofNat f)), .val (.int (Int32.ofNat l')), .val (.int (Int32.ofNat n)), .val (.double (FP.i2d (Int32.ofNat n))), .second, .val (.double (own_Td f l' n)), .second, .val (.int (1 : Int32)), .val (.double (own_Td (f + 1) l' n)), .second, .val (.double (own_Td f (l' + 1) n)), .second, .unset, .unset, .unset, .unset, .unset, .unset, .unset] [(.double (own_Td f l' n)), (.double (own_Td f (l' + 1) n))])) _
        refine XS.dcmpS X26.here hx rfl (v := (-1 : Int32)) (hb hby at_148) rfl (by rw [own_long (by omega) f1 hl hn0 n1]; rfl) ?_
        show Steps p.tables e below (T26.setTop (mkF m 149 #[.val (.int p0), .val (.int p1), .val (.int p2), .val (.int (Int32.ofNat f)), .val (.int (Int32.ofNat l')), .val (.int (Int32.ofNat n)), .val (.double (FP.i2d (Int32.ofNat n))), .second, .val (.double (own_Td f l' n)), .second, .val (.int (1 : Int32)), .val (.double (own_Td (f + 1) l' n)), .second, .val (.double (own_Td f (l' + 1) n)), .second, .unset, .unset, .unset, .unset, .unset, .unset, .unset] [(.int (-1 : Int32))])) _
        refine XS.ifNo X26.here hx rfl (hb hby at_149) rfl ((if0 _ _).trans (tlt (by decide)).2.1) ?_
        show Steps p.tables e below (T26.setTop (mkF m 152 #[.val (.int p0), .val (.int p1), .val (.int p2), .val (.int (Int32.ofNat f)), .val (.int (Int32.ofNat l')), .val (.int (Int32.ofNat n)), .val (.double (FP.i2d (Int32.ofNat n))), .second, .val (.double (own_Td f l' n)), .second, .val (.int (1 : Int32)), .val (.double (own_Td (f + 1) l' n)), .second, .val (.double (own_Td f (l' + 1) n)), .second, .unset, .unset, .unset, .unset, .unset, .unset, .unset] [])) _
        refine XS.iconst X26.here hx rfl (hb hby at_152) ?_
        show Steps p.tables e below (T26.setTop (mkF m 153 #[.val (.int p0), .val (.int p1), .val (.int p2), .val (.int (Int32.ofNat f)), .val (.int (Int32.ofNat l')), .val (.int (Int32.ofNat n)), .val (.double (FP.i2d (Int32.ofNat n))), .second, .val (.double (own_Td f l' n)), .second, .val (.int (1 : Int32)), .val (.double (own_Td (f + 1) l' n)), .second, .val (.double (own_Td f (l' + 1) n)), .second, .unset, .unset, .unset, .unset, .unset, .unset, .unset] [(.int (1 : Int32))])) _
        refine XS.goto X26.here hx rfl (pc0 := 153) (pc' := 157) rfl (hb hby at_153) (by decide) (by decide) ?_
        show Steps p.tables e below (T26.setTop (mkF m 157 #[.val (.int p0), .val (.int p1), .val (.int p2), .val (.int (Int32.ofNat f)), .val (.int (Int32.ofNat l')), .val (.int (Int32.ofNat n)), .val (.double (FP.i2d (Int32.ofNat n))), .second, .val (.double (own_Td f l' n)), .second, .val (.int (1 : Int32)), .val (.double (own_Td (f + 1) l' n)), .second, .val (.double (own_Td f (l' + 1) n)), .second, .unset, .unset, .unset, .unset, .unset, .unset, .unset] [(.int (1 : Int32))])) _
        refine XS.istore X26.here hx rfl (hb hby at_157) rfl (l' := #[.val (.int p0), .val (.int p1), .val (.int p2), .val (.int (Int32.ofNat f)), .val (.int (Int32.ofNat l')), .val (.int (Int32.ofNat n)), .val (.double (FP.i2d (Int32.ofNat n))), .second, .val (.double (own_Td f l' n)), .second, .val (.int (1 : Int32)), .val (.double (own_Td (f + 1) l' n)), .second, .val (.double (own_Td f (l' + 1) n)), .second, .unset, .unset, .unset, .unset, .unset, .unset, .unset]) rfl ?_
        show Steps p.tables e below (T26.setTop (mkF m 159 #[.val (.int p0), .val (.int p1), .val (.int p2), .val (.int (Int32.ofNat f)), .val (.int (Int32.ofNat l')), .val (.int (Int32.ofNat n)), .val (.double (FP.i2d (Int32.ofNat n))), .second, .val (.double (own_Td f l' n)), .second, .val (.int (1 : Int32)), .val (.double (own_Td (f + 1) l' n)), .second, .val (.double (own_Td f (l' + 1) n)), .second, .unset, .unset, .unset, .unset, .unset, .unset, .unset] [])) _
        refine XS.goto X26.here hx rfl (pc0 := 159) (pc' := 181) rfl (hb hby at_159) (by decide) (by decide) ?_
        show Steps p.tables e below (T26.setTop (mkF m 181 #[.val (.int p0), .val (.int p1), .val (.int p2), .val (.int (Int32.ofNat f)), .val (.int (Int32.ofNat l')), .val (.int (Int32.ofNat n)), .val (.double (FP.i2d (Int32.ofNat n))), .second, .val (.double (own_Td f l' n)), .second, .val (.int (1 : Int32)), .val (.double (own_Td (f + 1) l' n)), .second, .val (.double (own_Td f (l' + 1) n)), .second, .unset, .unset, .unset, .unset, .unset, .unset, .unset] [])) _
        refine XS.iloadN X26.here hx rfl (hb hby at_181) rfl ?_
        show Steps p.tables e below (T26.setTop (mkF m 182 #[.val (.int p0), .val (.int p1), .val (.int p2), .val (.int (Int32.ofNat f)), .val (.int (Int32.ofNat l')), .val (.int (Int32.ofNat n)), .val (.double (FP.i2d (Int32.ofNat n))), .second, .val (.double (own_Td f l' n)), .second, .val (.int (1 : Int32)), .val (.double (own_Td (f + 1) l' n)), .second, .val (.double (own_Td f (l' + 1) n)), .second, .unset, .unset, .unset, .unset, .unset, .unset, .unset] [(.int (Int32.ofNat f))])) _
        refine XS.iload X26.here hx rfl (hb hby at_182) rfl ?_
        show Steps p.tables e below (T26.setTop (mkF m 184 #[.val (.int p0), .val (.int p1), .val (.int p2), .val (.int (Int32.ofNat f)), .val (.int (Int32.ofNat l')), .val (.int (Int32.ofNat n)), .val (.double (FP.i2d (Int32.ofNat n))), .second, .val (.double (own_Td f l' n)), .second, .val (.int (1 : Int32)), .val (.double (own_Td (f + 1) l' n)), .second, .val (.double (own_Td f (l' + 1) n)), .second, .unset, .unset, .unset, .unset, .unset, .unset, .unset] [(.int (Int32.ofNat l')), (.int (Int32.ofNat f))])) _
        refine XS.iload X26.here hx rfl (hb hby at_184) rfl ?_
        show Steps p.tables e below (T26.setTop (mkF m 186 #[.val (.int p0), .val (.int p1), .val (.int p2), .val (.int (Int32.ofNat f)), .val (.int (Int32.ofNat l')), .val (.int (Int32.ofNat n)), .val (.double (FP.i2d (Int32.ofNat n))), .second, .val (.double (own_Td f l' n)), .second, .val (.int (1 : Int32)), .val (.double (own_Td (f + 1) l' n)), .second, .val (.double (own_Td f (l' + 1) n)), .second, .unset, .unset, .unset, .unset, .unset, .unset, .unset] [(.int (Int32.ofNat n)), (.int (Int32.ofNat l')), (.int (Int32.ofNat f))])) _
        refine XS.iconst X26.here hx rfl (hb hby at_186) ?_
        show Steps p.tables e below (T26.setTop (mkF m 187 #[.val (.int p0), .val (.int p1), .val (.int p2), .val (.int (Int32.ofNat f)), .val (.int (Int32.ofNat l')), .val (.int (Int32.ofNat n)), .val (.double (FP.i2d (Int32.ofNat n))), .second, .val (.double (own_Td f l' n)), .second, .val (.int (1 : Int32)), .val (.double (own_Td (f + 1) l' n)), .second, .val (.double (own_Td f (l' + 1) n)), .second, .unset, .unset, .unset, .unset, .unset, .unset, .unset] [(.int (1 : Int32)), (.int (Int32.ofNat n)), (.int (Int32.ofNat l')), (.int (Int32.ofNat f))])) _
        refine XS.iadd X26.here hx rfl (hb hby at_187) rfl ?_
        show Steps p.tables e below (T26.setTop (mkF m 188 #[.val (.int p0), .val (.int p1), .val (.int p2), .val (.int (Int32.ofNat f)), .val (.int (Int32.ofNat l')), .val (.int (Int32.ofNat n)), .val (.double (FP.i2d (Int32.ofNat n))), .second, .val (.double (own_Td f l' n)), .second, .val (.int (1 : Int32)), .val (.double (own_Td (f + 1) l' n)), .second, .val (.double (own_Td f (l' + 1) n)), .second, .unset, .unset, .unset, .unset, .unset, .unset, .unset] [(.int ((Int32.ofNat n) + (1 : Int32))), (.int (Int32.ofNat l')), (.int (Int32.ofNat f))])) _
        refine st27 _ ?_
        show Steps p.tables e below (T26.setTop (mkF m 188 #[.val (.int p0), .val (.int p1), .val (.int p2), .val (.int (Int32.ofNat f)), .val (.int (Int32.ofNat l')), .val (.int (Int32.ofNat n)), .val (.double (FP.i2d (Int32.ofNat n))), .second, .val (.double (own_Td f l' n)), .second, .val (.int (1 : Int32)), .val (.double (own_Td (f + 1) l' n)), .second, .val (.double (own_Td f (l' + 1) n)), .second, .unset, .unset, .unset, .unset, .unset, .unset, .unset] [(.int (Int32.ofNat (n + 1))), (.int (Int32.ofNat l')), (.int (Int32.ofNat f))])) _
        refine XS.i2dS X26.here hx rfl (hb hby at_188) rfl rfl ?_
        show Steps p.tables e below (T26.setTop (mkF m 189 #[.val (.int p0), .val (.int p1), .val (.int p2), .val (.int (Int32.ofNat f)), .val (.int (Int32.ofNat l')), .val (.int (Int32.ofNat n)), .val (.double (FP.i2d (Int32.ofNat n))), .second, .val (.double (own_Td f l' n)), .second, .val (.int (1 : Int32)), .val (.double (own_Td (f + 1) l' n)), .second, .val (.double (own_Td f (l' + 1) n)), .second, .unset, .unset, .unset, .unset, .unset, .unset, .unset] [(.double (FP.i2d (Int32.ofNat (n + 1)))), (.int (Int32.ofNat l')), (.int (Int32.ofNat f))])) _
        refine st28 _ ?_
        show Steps p.tables e below (T28.setTop (mkF m 192 #[.val (.int p0), .val (.int p1), .val (.int p2), .val (.int (Int32.ofNat f)), .val (.int (Int32.ofNat l')), .val (.int (Int32.ofNat n)), .val (.double (FP.i2d (Int32.ofNat n))), .second, .val (.double (own_Td f l' n)), .second, .val (.int (1 : Int32)), .val (.double (own_Td (f + 1) l' n)), .second, .val (.double (own_Td f (l' + 1) n)), .second, .unset, .unset, .unset, .unset, .unset, .unset, .unset] [(.double (own_Td f l' (n + 1)))])) _
        refine XS.dstore X28.here hx rfl (hb hby at_192) rfl (l' := #[.val (.int p0), .val (.int p1), .val (.int p2), .val (.int (Int32.ofNat f)), .val (.int (Int32.ofNat l')), .val (.int (Int32.ofNat n)), .val (.double (FP.i2d (Int32.ofNat n))), .second, .val (.double (own_Td f l' n)), .second, .val (.int (1 : Int32)), .val (.double (own_Td (f + 1) l' n)), .second, .val (.double (own_Td f (l' + 1) n)), .second, .val (.double (own_Td f l' (n + 1))), .second, .unset, .unset, .unset, .unset, .unset]) rfl ?_
        show Steps p.tables e below (T28.setTop (mkF m 194 #[.val (.int p0), .val (.int p1), .val (.int p2), .val (.int (Int32.ofNat f)), .val (.int (Int32.ofNat l')), .val (.int (Int32.ofNat n)), .val (.double (FP.i2d (Int32.ofNat n))), .second, .val (.double (own_Td f l' n)), .second, .val (.int (1 : Int32)), .val (.double (own_Td (f + 1) l' n)), .second, .val (.double (own_Td f (l' + 1) n)), .second, .val (.double (own_Td f l' (n + 1))), .second, .unset, .unset, .unset, .unset, .unset] [])) _
        refine XS.iloadN X28.here hx rfl (hb hby at_194) rfl ?_
        show Steps p.tables e below (T28.setTop (mkF m 195 #[.val (.int p0), .val (.int p1), .val (.int p2), .val (.int (Int32.ofNat f)), .val (.int (Int32.ofNat l')), .val (.int (Int32.ofNat n)), .val (.double (FP.i2d (Int32.ofNat n))), .second, .val (.double (own_Td f l' n)), .second, .val (.int (1 : Int32)), .val (.double (own_Td (f + 1) l' n)), .second, .val (.double (own_Td f (l' + 1) n)), .second, .val (.double (own_Td f l' (n + 1))), .second, .unset, .unset, .unset, .unset, .unset] [(.int (Int32.ofNat f))])) _
        refine XS.ifNo X28.here hx rfl (hb hby at_195) rfl ((if0 _ _).trans (tlt (own_gt0 hf0 f1)).2.2.2) ?_
        show Steps p.tables e below (T28.setTop (mkF m 198 #[.val (.int p0), .val (.int p1), .val (.int p2), .val (.int (Int32.ofNat f)), .val (.int (Int32.ofNat l')), .val (.int (Int32.ofNat n)), .val (.double (FP.i2d (Int32.ofNat n))), .second, .val (.double (own_Td f l' n)), .second, .val (.int (1 : Int32)), .val (.double (own_Td (f + 1) l' n)), .second, .val (.double (own_Td f (l' + 1) n)), .second, .val (.double (own_Td f l' (n + 1))), .second, .unset, .unset, .unset, .unset, .unset] [])) _
        refine XS.iload X28.here hx rfl (hb hby at_198) rfl ?_
        show Steps p.tables e below (T28.setTop (mkF m 200 #[.val (.int p0), .val (.int p1), .val (.int p2), .val (.int (Int32.ofNat f)), .val (.int (Int32.ofNat l')), .val (.int (Int32.ofNat n)), .val (.double (FP.i2d (Int32.ofNat n))), .second, .val (.double (own_Td f l' n)), .second, .val (.int (1 : Int32)), .val (.double (own_Td (f + 1) l' n)), .second, .val (.double (own_Td f (l' + 1) n)), .second, .val (.double (own_Td f l' (n + 1))), .second, .unset, .unset, .unset, .unset, .unset] [(.int (Int32.ofNat l'))])) _
        refine XS.ifNo X28.here hx rfl (hb hby at_200) rfl ((if0 _ _).trans (tlt (own_gt0 hl0 l1)).2.2.2) ?_
        show Steps p.tables e below (T28.setTop (mkF m 203 #[.val (.int p0), .val (.int p1), .val (.int p2), .val (.int (Int32.ofNat f)), .val (.int (Int32.ofNat l')), .val (.int (Int32.ofNat n)), .val (.double (FP.i2d (Int32.ofNat n))), .second, .val (.double (own_Td f l' n)), .second, .val (.int (1 : Int32)), .val (.double (own_Td (f + 1) l' n)), .second, .val (.double (own_Td f (l' + 1) n)), .second, .val (.double (own_Td f l' (n + 1))), .second, .unset, .unset, .unset, .unset, .unset] [])) _
        refine XS.iload X28.here hx rfl (hb hby at_203) rfl ?_
        show Steps p.tables e below (T28.setTop (mkF m 205 #[.val (.int p0), .val (.int p1), .val (.int p2), .val (.int (Int32.ofNat f)), .val (.int (Int32.ofNat l')), .val (.int (Int32.ofNat n)), .val (.double (FP.i2d (Int32.ofNat n))), .second, .val (.double (own_Td f l' n)), .second, .val (.int (1 : Int32)), .val (.double (own_Td (f + 1) l' n)), .second, .val (.double (own_Td f (l' + 1) n)), .second, .val (.double (own_Td f l' (n + 1))), .second, .unset, .unset, .unset, .unset, .unset] [(.int (1 : Int32))])) _
        refine XS.ifNo X28.here hx rfl (hb hby at_205) rfl ((if0 _ _).trans (feq (by decide)).1) ?_
        show Steps p.tables e below (T28.setTop (mkF m 208 #[.val (.int p0), .val (.int p1), .val (.int p2), .val (.int (Int32.ofNat f)), .val (.int (Int32.ofNat l')), .val (.int (Int32.ofNat n)), .val (.double (FP.i2d (Int32.ofNat n))), .second, .val (.double (own_Td f l' n)), .second, .val (.int (1 : Int32)), .val (.double (own_Td (f + 1) l' n)), .second, .val (.double (own_Td f (l' + 1) n)), .second, .val (.double (own_Td f l' (n + 1))), .second, .unset, .unset, .unset, .unset, .unset] [])) _
        refine XS.dload X28.here hx rfl (hb hby at_208) rfl ?_
        show Steps p.tables e below (T28.setTop (mkF m 210 #[.val (.int p0), .val (.int p1), .val (.int p2), .val (.int (Int32.ofNat f)), .val (.int (Int32.ofNat l')), .val (.int (Int32.ofNat n)), .val (.double (FP.i2d (Int32.ofNat n))), .second, .val (.double (own_Td f l' n)), .second, .val (.int (1 : Int32)), .val (.double (own_Td (f + 1) l' n)), .second, .val (.double (own_Td f (l' + 1) n)), .second, .val (.double (own_Td f l' (n + 1))), .second, .unset, .unset, .unset, .unset, .unset] [(.double (own_Td f l' (n + 1)))])) _
        refine XS.dload X28.here hx rfl (hb hby at_210) rfl ?_
        show Steps p.tables e below (T28.setTop (mkF m 212 #[.val (.int p0), .val (.int p1), .val (.int p2), .val (.int (Int32.ofNat f)), .val (.int (Int32.ofNat l')), .val (.int (Int32.ofNat n)), .val (.double (FP.i2d (Int32.ofNat n))), .second, .val (.double (own_Td f l' n)), .second, .val (.int (1 : Int32)), .val (.double (own_Td (f + 1) l' n)), .second, .val (.double (own_Td f (l' + 1) n)), .second, .val (.double (own_Td f l' (n + 1))), .second, .unset, .unset, .unset, .unset, .unset] [(.double (own_Td f l' n)), (.double (own_Td f l' (n + 1)))])) _
        refine XS.dcmpS X28.here hx rfl (v := (1 : Int32)) (hb hby at_212) rfl (by rw [own_big (by omega) hf (by omega) hl hn0 hn]; rfl) ?_
        show Steps p.tables e below (T28.setTop (mkF m 213 #[.val (.int p0), .val (.int p1), .val (.int p2), .val (.int (Int32.ofNat f)), .val (.int (Int32.ofNat l')), .val (.int (Int32.ofNat n)), .val (.double (FP.i2d (Int32.ofNat n))), .second, .val (.double (own_Td f l' n)), .second, .val (.int (1 : Int32)), .val (.double (own_Td (f + 1) l' n)), .second, .val (.double (own_Td f (l' + 1) n)), .second, .val (.double (own_Td f l' (n + 1))), .second, .unset, .unset, .unset, .unset, .unset] [(.int (1 : Int32))])) _
        refine XS.ifNo X28.here hx rfl (hb hby at_213) rfl ((if0 _ _).trans (tlt (by decide)).2.2.2) ?_
        show Steps p.tables e below (T28.setTop (mkF m 216 #[.val (.int p0), .val (.int p1), .val (.int p2), .val (.int (Int32.ofNat f)), .val (.int (Int32.ofNat l')), .val (.int (Int32.ofNat n)), .val (.double (FP.i2d (Int32.ofNat n))), .second, .val (.double (own_Td f l' n)), .second, .val (.int (1 : Int32)), .val (.double (own_Td (f + 1) l' n)), .second, .val (.double (own_Td f (l' + 1) n)), .second, .val (.double (own_Td f l' (n + 1))), .second, .unset, .unset, .unset, .unset, .unset] [])) _
        refine XS.iconst X28.here hx rfl (hb hby at_216) ?_
        show Steps p.tables e below (T28.setTop (mkF m 217 #[.val (.int p0), .val (.int p1), .val (.int p2), .val (.int (Int32.ofNat f)), .val (.int (Int32.ofNat l')), .val (.int (Int32.ofNat n)), .val (.double (FP.i2d (Int32.ofNat n))), .second, .val (.double (own_Td f l' n)), .second, .val (.int (1 : Int32)), .val (.double (own_Td (f + 1) l' n)), .second, .val (.double (own_Td f (l' + 1) n)), .second, .val (.double (own_Td f l' (n + 1))), .second, .unset, .unset, .unset, .unset, .unset] [(.int (1 : Int32))])) _
        refine XS.goto X28.here hx rfl (pc0 := 217) (pc' := 221) rfl (hb hby at_217) (by decide) (by decide) ?_
        show Steps p.tables e below (T28.setTop (mkF m 221 #[.val (.int p0), .val (.int p1), .val (.int p2), .val (.int (Int32.ofNat f)), .val (.int (Int32.ofNat l')), .val (.int (Int32.ofNat n)), .val (.double (FP.i2d (Int32.ofNat n))), .second, .val (.double (own_Td f l' n)), .second, .val (.int (1 : Int32)), .val (.double (own_Td (f + 1) l' n)), .second, .val (.double (own_Td f (l' + 1) n)), .second, .val (.double (own_Td f l' (n + 1))), .second, .unset, .unset, .unset, .unset, .unset] [(.int (1 : Int32))])) _
        refine XS.istore X28.here hx rfl (hb hby at_221) rfl (l' := #[.val (.int p0), .val (.int p1), .val (.int p2), .val (.int (Int32.ofNat f)), .val (.int (Int32.ofNat l')), .val (.int (Int32.ofNat n)), .val (.double (FP.i2d (Int32.ofNat n))), .second, .val (.double (own_Td f l' n)), .second, .val (.int (1 : Int32)), .val (.double (own_Td (f + 1) l' n)), .second, .val (.double (own_Td f (l' + 1) n)), .second, .val (.double (own_Td f l' (n + 1))), .second, .unset, .unset, .unset, .unset, .unset]) rfl ?_
        show Steps p.tables e below (T28.setTop (mkF m 223 #[.val (.int p0), .val (.int p1), .val (.int p2), .val (.int (Int32.ofNat f)), .val (.int (Int32.ofNat l')), .val (.int (Int32.ofNat n)), .val (.double (FP.i2d (Int32.ofNat n))), .second, .val (.double (own_Td f l' n)), .second, .val (.int (1 : Int32)), .val (.double (own_Td (f + 1) l' n)), .second, .val (.double (own_Td f (l' + 1) n)), .second, .val (.double (own_Td f l' (n + 1))), .second, .unset, .unset, .unset, .unset, .unset] [])) _
        refine XS.goto X28.here hx rfl (pc0 := 223) (pc' := 272) rfl (hb hby at_223) (by decide) (by decide) ?_
        show Steps p.tables e below (T28.setTop (mkF m 272 #[.val (.int p0), .val (.int p1), .val (.int p2), .val (.int (Int32.ofNat f)), .val (.int (Int32.ofNat l')), .val (.int (Int32.ofNat n)), .val (.double (FP.i2d (Int32.ofNat n))), .second, .val (.double (own_Td f l' n)), .second, .val (.int (1 : Int32)), .val (.double (own_Td (f + 1) l' n)), .second, .val (.double (own_Td f (l' + 1) n)), .second, .val (.double (own_Td f l' (n + 1))), .second, .unset, .unset, .unset, .unset, .unset] [])) _
        refine XS.iload X28.here hx rfl (hb hby at_272) rfl ?_
        show Steps p.tables e below (T28.setTop (mkF m 274 #[.val (.int p0), .val (.int p1), .val (.int p2), .val (.int (Int32.ofNat f)), .val (.int (Int32.ofNat l')), .val (.int (Int32.ofNat n)), .val (.double (FP.i2d (Int32.ofNat n))), .second, .val (.double (own_Td f l' n)), .second, .val (.int (1 : Int32)), .val (.double (own_Td (f + 1) l' n)), .second, .val (.double (own_Td f (l' + 1) n)), .second, .val (.double (own_Td f l' (n + 1))), .second, .unset, .unset, .unset, .unset, .unset] [(.int (Int32.ofNat l'))])) _
        refine XS.iconst X28.here hx rfl (hb hby at_274) ?_
        show Steps p.tables e below (T28.setTop (mkF m 275 #[.val (.int p0), .val (.int p1), .val (.int p2), .val (.int (Int32.ofNat f)), .val (.int (Int32.ofNat l')), .val (.int (Int32.ofNat n)), .val (.double (FP.i2d (Int32.ofNat n))), .second, .val (.double (own_Td f l' n)), .second, .val (.int (1 : Int32)), .val (.double (own_Td (f + 1) l' n)), .second, .val (.double (own_Td f (l' + 1) n)), .second, .val (.double (own_Td f l' (n + 1))), .second, .unset, .unset, .unset, .unset, .unset] [(.int (1 : Int32)), (.int (Int32.ofNat l'))])) _
        refine XS.iadd X28.here hx rfl (hb hby at_275) rfl ?_
        show Steps p.tables e below (T28.setTop (mkF m 276 #[.val (.int p0), .val (.int p1), .val (.int p2), .val (.int (Int32.ofNat f)), .val (.int (Int32.ofNat l')), .val (.int (Int32.ofNat n)), .val (.double (FP.i2d (Int32.ofNat n))), .second, .val (.double (own_Td f l' n)), .second, .val (.int (1 : Int32)), .val (.double (own_Td (f + 1) l' n)), .second, .val (.double (own_Td f (l' + 1) n)), .second, .val (.double (own_Td f l' (n + 1))), .second, .unset, .unset, .unset, .unset, .unset] [(.int ((Int32.ofNat l') + (1 : Int32)))])) _
        refine st29 _ ?_
        show Steps p.tables e below (T28.setTop (mkF m 276 #[.val (.int p0), .val (.int p1), .val (.int p2), .val (.int (Int32.ofNat f)), .val (.int (Int32.ofNat l')), .val (.int (Int32.ofNat n)), .val (.double (FP.i2d (Int32.ofNat n))), .second, .val (.double (own_Td f l' n)), .second, .val (.int (1 : Int32)), .val (.double (own_Td (f + 1) l' n)), .second, .val (.double (own_Td f (l' + 1) n)), .second, .val (.double (own_Td f l' (n + 1))), .second, .unset, .unset, .unset, .unset, .unset] [(.int (Int32.ofNat (l' + 1)))])) _
        refine XS.istore X28.here hx rfl (hb hby at_276) rfl (l' := #[.val (.int p0), .val (.int p1), .val (.int p2), .val (.int (Int32.ofNat f)), .val (.int (Int32.ofNat l')), .val (.int (Int32.ofNat n)), .val (.double (FP.i2d (Int32.ofNat n))), .second, .val (.double (own_Td f l' n)), .second, .val (.int (1 : Int32)), .val (.double (own_Td (f + 1) l' n)), .second, .val (.double (own_Td f (l' + 1) n)), .second, .val (.double (own_Td f l' (n + 1))), .second, .val (.int (Int32.ofNat (l' + 1))), .unset, .unset, .unset, .unset]) rfl ?_
        show Steps p.tables e below (T28.setTop (mkF m 278 #[.val (.int p0), .val (.int p1), .val (.int p2), .val (.int (Int32.ofNat f)), .val (.int (Int32.ofNat l')), .val (.int (Int32.ofNat n)), .val (.double (FP.i2d (Int32.ofNat n))), .second, .val (.double (own_Td f l' n)), .second, .val (.int (1 : Int32)), .val (.double (own_Td (f + 1) l' n)), .second, .val (.double (own_Td f (l' + 1) n)), .second, .val (.double (own_Td f l' (n + 1))), .second, .val (.int (Int32.ofNat (l' + 1))), .unset, .unset, .unset, .unset] [])) _
        refine XS.iloadN X28.here hx rfl (hb hby at_278) rfl ?_
        show Steps p.tables e below (T28.setTop (mkF m 279 #[.val (.int p0), .val (.int p1), .val (.int p2), .val (.int (Int32.ofNat f)), .val (.int (Int32.ofNat l')), .val (.int (Int32.ofNat n)), .val (.double (FP.i2d (Int32.ofNat n))), .second, .val (.double (own_Td f l' n)), .second, .val (.int (1 : Int32)), .val (.double (own_Td (f + 1) l' n)), .second, .val (.double (own_Td f (l' + 1) n)), .second, .val (.double (own_Td f l' (n + 1))), .second, .val (.int (Int32.ofNat (l' + 1))), .unset, .unset, .unset, .unset] [(.int (Int32.ofNat f))])) _
        refine XS.iload X28.here hx rfl (hb hby at_279) rfl ?_
        show Steps p.tables e below (T28.setTop (mkF m 281 #[.val (.int p0), .val (.int p1), .val (.int p2), .val (.int (Int32.ofNat f)), .val (.int (Int32.ofNat l')), .val (.int (Int32.ofNat n)), .val (.double (FP.i2d (Int32.ofNat n))), .second, .val (.double (own_Td f l' n)), .second, .val (.int (1 : Int32)), .val (.double (own_Td (f + 1) l' n)), .second, .val (.double (own_Td f (l' + 1) n)), .second, .val (.double (own_Td f l' (n + 1))), .second, .val (.int (Int32.ofNat (l' + 1))), .unset, .unset, .unset, .unset] [(.int (Int32.ofNat (l' + 1))), (.int (Int32.ofNat f))])) _
        refine XS.iload X28.here hx rfl (hb hby at_281) rfl ?_
        show Steps p.tables e below (T28.setTop (mkF m 283 #[.val (.int p0), .val (.int p1), .val (.int p2), .val (.int (Int32.ofNat f)), .val (.int (Int32.ofNat l')), .val (.int (Int32.ofNat n)), .val (.double (FP.i2d (Int32.ofNat n))), .second, .val (.double (own_Td f l' n)), .second, .val (.int (1 : Int32)), .val (.double (own_Td (f + 1) l' n)), .second, .val (.double (own_Td f (l' + 1) n)), .second, .val (.double (own_Td f l' (n + 1))), .second, .val (.int (Int32.ofNat (l' + 1))), .unset, .unset, .unset, .unset] [(.int (Int32.ofNat (l' + 1))), (.int (Int32.ofNat (l' + 1))), (.int (Int32.ofNat f))])) _
        refine XS.i2dS X28.here hx rfl (hb hby at_283) rfl rfl ?_
        show Steps p.tables e below (T28.setTop (mkF m 284 #[.val (.int p0), .val (.int p1), .val (.int p2), .val (.int (Int32.ofNat f)), .val (.int (Int32.ofNat l')), .val (.int (Int32.ofNat n)), .val (.double (FP.i2d (Int32.ofNat n))), .second, .val (.double (own_Td f l' n)), .second, .val (.int (1 : Int32)), .val (.double (own_Td (f + 1) l' n)), .second, .val (.double (own_Td f (l' + 1) n)), .second, .val (.double (own_Td f l' (n + 1))), .second, .val (.int (Int32.ofNat (l' + 1))), .unset, .unset, .unset, .unset] [(.double (FP.i2d (Int32.ofNat (l' + 1)))), (.int (Int32.ofNat (l' + 1))), (.int (Int32.ofNat f))])) _
        refine st30 _ ?_
        show Steps p.tables e below (T30.setTop (mkF m 287 #[.val (.int p0), .val (.int p1), .val (.int p2), .val (.int (Int32.ofNat f)), .val (.int (Int32.ofNat l')), .val (.int (Int32.ofNat n)), .val (.double (FP.i2d (Int32.ofNat n))), .second, .val (.double (own_Td f l' n)), .second, .val (.int (1 : Int32)), .val (.double (own_Td (f + 1) l' n)), .second, .val (.double (own_Td f (l' + 1) n)), .second, .val (.double (own_Td f l' (n + 1))), .second, .val (.int (Int32.ofNat (l' + 1))), .unset, .unset, .unset, .unset] [(.double (own_Td f (l' + 1) (l' + 1)))])) _
        refine XS.dstore X30.here hx rfl (hb hby at_287) rfl (l' := #[.val (.int p0), .val (.int p1), .val (.int p2), .val (.int (Int32.ofNat f)), .val (.int (Int32.ofNat l')), .val (.int (Int32.ofNat n)), .val (.double (FP.i2d (Int32.ofNat n))), .second, .val (.double (own_Td f l' n)), .second, .val (.int (1 : Int32)), .val (.double (own_Td (f + 1) l' n)), .second, .val (.double (own_Td f (l' + 1) n)), .second, .val (.double (own_Td f l' (n + 1))), .second, .val (.int (Int32.ofNat (l' + 1))), .val (.double (own_Td f (l' + 1) (l' + 1))), .second, .unset, .unset]) rfl ?_
        show Steps p.tables e below (T30.setTop (mkF m 289 #[.val (.int p0), .val (.int p1), .val (.int p2), .val (.int (Int32.ofNat f)), .val (.int (Int32.ofNat l')), .val (.int (Int32.ofNat n)), .val (.double (FP.i2d (Int32.ofNat n))), .second, .val (.double (own_Td f l' n)), .second, .val (.int (1 : Int32)), .val (.double (own_Td (f + 1) l' n)), .second, .val (.double (own_Td f (l' + 1) n)), .second, .val (.double (own_Td f l' (n + 1))), .second, .val (.int (Int32.ofNat (l' + 1))), .val (.double (own_Td f (l' + 1) (l' + 1))), .second, .unset, .unset] [])) _
        refine XS.iload X30.here hx rfl (hb hby at_289) rfl ?_
        show Steps p.tables e below (T30.setTop (mkF m 291 #[.val (.int p0), .val (.int p1), .val (.int p2), .val (.int (Int32.ofNat f)), .val (.int (Int32.ofNat l')), .val (.int (Int32.ofNat n)), .val (.double (FP.i2d (Int32.ofNat n))), .second, .val (.double (own_Td f l' n)), .second, .val (.int (1 : Int32)), .val (.double (own_Td (f + 1) l' n)), .second, .val (.double (own_Td f (l' + 1) n)), .second, .val (.double (own_Td f l' (n + 1))), .second, .val (.int (Int32.ofNat (l' + 1))), .val (.double (own_Td f (l' + 1) (l' + 1))), .second, .unset, .unset] [(.int (1 : Int32))])) _
        refine XS.ifNo X30.here hx rfl (hb hby at_291) rfl ((if0 _ _).trans (feq (by decide)).1) ?_
        show Steps p.tables e below (T30.setTop (mkF m 294 #[.val (.int p0), .val (.int p1), .val (.int p2), .val (.int (Int32.ofNat f)), .val (.int (Int32.ofNat l')), .val (.int (Int32.ofNat n)), .val (.double (FP.i2d (Int32.ofNat n))), .second, .val (.double (own_Td f l' n)), .second, .val (.int (1 : Int32)), .val (.double (own_Td (f + 1) l' n)), .second, .val (.double (own_Td f (l' + 1) n)), .second, .val (.double (own_Td f l' (n + 1))), .second, .val (.int (Int32.ofNat (l' + 1))), .val (.double (own_Td f (l' + 1) (l' + 1))), .second, .unset, .unset] [])) _
        refine XS.dload X30.here hx rfl (hb hby at_294) rfl ?_
        show Steps p.tables e below (T30.setTop (mkF m 296 #[.val (.int p0), .val (.int p1), .val (.int p2), .val (.int (Int32.ofNat f)), .val (.int (Int32.ofNat l')), .val (.int (Int32.ofNat n)), .val (.double (FP.i2d (Int32.ofNat n))), .second, .val (.double (own_Td f l' n)), .second, .val (.int (1 : Int32)), .val (.double (own_Td (f + 1) l' n)), .second, .val (.double (own_Td f (l' + 1) n)), .second, .val (.double (own_Td f l' (n + 1))), .second, .val (.int (Int32.ofNat (l' + 1))), .val (.double (own_Td f (l' + 1) (l' + 1))), .second, .unset, .unset] [(.double (own_Td f (l' + 1) (l' + 1)))])) _
        refine XS.iloadN X30.here hx rfl (hb hby at_296) rfl ?_
        show Steps p.tables e below (T30.setTop (mkF m 297 #[.val (.int p0), .val (.int p1), .val (.int p2), .val (.int (Int32.ofNat f)), .val (.int (Int32.ofNat l')), .val (.int (Int32.ofNat n)), .val (.double (FP.i2d (Int32.ofNat n))), .second, .val (.double (own_Td f l' n)), .second, .val (.int (1 : Int32)), .val (.double (own_Td (f + 1) l' n)), .second, .val (.double (own_Td f (l' + 1) n)), .second, .val (.double (own_Td f l' (n + 1))), .second, .val (.int (Int32.ofNat (l' + 1))), .val (.double (own_Td f (l' + 1) (l' + 1))), .second, .unset, .unset] [(.int (Int32.ofNat f)), (.double (own_Td f (l' + 1) (l' + 1)))])) _
        refine XS.i2dS X30.here hx rfl (hb hby at_297) rfl rfl ?_
        show Steps p.tables e below (T30.setTop (mkF m 298 #[.val (.int p0), .val (.int p1), .val (.int p2), .val (.int (Int32.ofNat f)), .val (.int (Int32.ofNat l')), .val (.int (Int32.ofNat n)), .val (.double (FP.i2d (Int32.ofNat n))), .second, .val (.double (own_Td f l' n)), .second, .val (.int (1 : Int32)), .val (.double (own_Td (f + 1) l' n)), .second, .val (.double (own_Td f (l' + 1) n)), .second, .val (.double (own_Td f l' (n + 1))), .second, .val (.int (Int32.ofNat (l' + 1))), .val (.double (own_Td f (l' + 1) (l' + 1))), .second, .unset, .unset] [(.double (FP.i2d (Int32.ofNat f))), (.double (own_Td f (l' + 1) (l' + 1)))])) _
        refine XS.iloadN X30.here hx rfl (hb hby at_298) rfl ?_
        show Steps p.tables e below (T30.setTop (mkF m 299 #[.val (.int p0), .val (.int p1), .val (.int p2), .val (.int (Int32.ofNat f)), .val (.int (Int32.ofNat l')), .val (.int (Int32.ofNat n)), .val (.double (FP.i2d (Int32.ofNat n))), .second, .val (.double (own_Td f l' n)), .second, .val (.int (1 : Int32)), .val (.double (own_Td (f + 1) l' n)), .second, .val (.double (own_Td f (l' + 1) n)), .second, .val (.double (own_Td f l' (n + 1))), .second, .val (.int (Int32.ofNat (l' + 1))), .val (.double (own_Td f (l' + 1) (l' + 1))), .second, .unset, .unset] [(.int (Int32.ofNat f)), (.double (FP.i2d (Int32.ofNat f))), (.double (own_Td f (l' + 1) (l' + 1)))])) _
        refine XS.i2dS X30.here hx rfl (hb hby at_299) rfl rfl ?_
        show Steps p.tables e below (T30.setTop (mkF m 300 #[.val (.int p0), .val (.int p1), .val (.int p2), .val (.int (Int32.ofNat f)), .val (.int (Int32.ofNat l')), .val (.int (Int32.ofNat n)), .val (.double (FP.i2d (Int32.ofNat n))), .second, .val (.double (own_Td f l' n)), .second, .val (.int (1 : Int32)), .val (.double (own_Td (f + 1) l' n)), .second, .val (.double (own_Td f (l' + 1) n)), .second, .val (.double (own_Td f l' (n + 1))), .second, .val (.int (Int32.ofNat (l' + 1))), .val (.double (own_Td f (l' + 1) (l' + 1))), .second, .unset, .unset] [(.double (FP.i2d (Int32.ofNat f))), (.double (FP.i2d (Int32.ofNat f))), (.double (own_Td f (l' + 1) (l' + 1)))])) _
        refine X30.ldc2DoubleC hx hown (mvT hZ (hw _ (List.mem_of_getElem? (i := 8) rfl))) (g := (mkF m 300 #[.val (.int p0), .val (.int p1), .val (.int p2), .val (.int (Int32.ofNat f)), .val (.int (Int32.ofNat l')), .val (.int (Int32.ofNat n)), .val (.double (FP.i2d (Int32.ofNat n))), .second, .val (.double (own_Td f l' n)), .second, .val (.int (1 : Int32)), .val (.double (own_Td (f + 1) l' n)), .second, .val (.double (own_Td f (l' + 1) n)), .second, .val (.double (own_Td f l' (n + 1))), .second, .val (.int (Int32.ofNat (l' + 1))), .val (.double (own_Td f (l' + 1) (l' + 1))), .second, .unset, .unset] [(.double (FP.i2d (Int32.ofNat f))), (.double (FP.i2d (Int32.ofNat f))), (.double (own_Td f (l' + 1) (l' + 1)))])) rfl (hb hby at_300) _ ?_
        show Steps p.tables e below (T30.setTop (mkF m 303 #[.val (.int p0), .val (.int p1), .val (.int p2), .val (.int (Int32.ofNat f)), .val (.int (Int32.ofNat l')), .val (.int (Int32.ofNat n)), .val (.double (FP.i2d (Int32.ofNat n))), .second, .val (.double (own_Td f l' n)), .second, .val (.int (1 : Int32)), .val (.double (own_Td (f + 1) l' n)), .second, .val (.double (own_Td f (l' + 1) n)), .second, .val (.double (own_Td f l' (n + 1))), .second, .val (.int (Int32.ofNat (l' + 1))), .val (.double (own_Td f (l' + 1) (l' + 1))), .second, .unset, .unset] [(.double (4608083138725491507 : UInt64)), (.double (FP.i2d (Int32.ofNat f))), (.double (FP.i2d (Int32.ofNat f))), (.double (own_Td f (l' + 1) (l' + 1)))])) _
        refine XS.daddS X30.here hx rfl (hb hby at_303) rfl (own_na f1 l3 l2).1 rfl ?_
        show Steps p.tables e below (T30.setTop (mkF m 304 #[.val (.int p0), .val (.int p1), .val (.int p2), .val (.int (Int32.ofNat f)), .val (.int (Int32.ofNat l')), .val (.int (Int32.ofNat n)), .val (.double (FP.i2d (Int32.ofNat n))), .second, .val (.double (own_Td f l' n)), .second, .val (.int (1 : Int32)), .val (.double (own_Td (f + 1) l' n)), .second, .val (.double (own_Td f (l' + 1) n)), .second, .val (.double (own_Td f l' (n + 1))), .second, .val (.int (Int32.ofNat (l' + 1))), .val (.double (own_Td f (l' + 1) (l' + 1))), .second, .unset, .unset] [(.double (FP.dadd (FP.i2d (Int32.ofNat f)) (4608083138725491507 : UInt64))), (.double (FP.i2d (Int32.ofNat f))), (.double (own_Td f (l' + 1) (l' + 1)))])) _
        refine XS.ddivS X30.here hx rfl (hb hby at_304) rfl (own_na f1 l3 l2).2 rfl ?_
        show Steps p.tables e below (T30.setTop (mkF m 305 #[.val (.int p0), .val (.int p1), .val (.int p2), .val (.int (Int32.ofNat f)), .val (.int (Int32.ofNat l')), .val (.int (Int32.ofNat n)), .val (.double (FP.i2d (Int32.ofNat n))), .second, .val (.double (own_Td f l' n)), .second, .val (.int (1 : Int32)), .val (.double (own_Td (f + 1) l' n)), .second, .val (.double (own_Td f (l' + 1) n)), .second, .val (.double (own_Td f l' (n + 1))), .second, .val (.int (Int32.ofNat (l' + 1))), .val (.double (own_Td f (l' + 1) (l' + 1))), .second, .unset, .unset] [(.double (FP.ddiv (FP.i2d (Int32.ofNat f)) (FP.dadd (FP.i2d (Int32.ofNat f)) (4608083138725491507 : UInt64)))), (.double (own_Td f (l' + 1) (l' + 1)))])) _
        refine XS.dcmpS X30.here hx rfl (v := (0 : Int32)) (hb hby at_305) rfl (by rw [← own_ta l3 l2, own_self f1 l2 l3 l4]; rfl) ?_
        show Steps p.tables e below (T30.setTop (mkF m 306 #[.val (.int p0), .val (.int p1), .val (.int p2), .val (.int (Int32.ofNat f)), .val (.int (Int32.ofNat l')), .val (.int (Int32.ofNat n)), .val (.double (FP.i2d (Int32.ofNat n))), .second, .val (.double (own_Td f l' n)), .second, .val (.int (1 : Int32)), .val (.double (own_Td (f + 1) l' n)), .second, .val (.double (own_Td f (l' + 1) n)), .second, .val (.double (own_Td f l' (n + 1))), .second, .val (.int (Int32.ofNat (l' + 1))), .val (.double (own_Td f (l' + 1) (l' + 1))), .second, .unset, .unset] [(.int (0 : Int32))])) _
        refine XS.ifNo X30.here hx rfl (hb hby at_306) rfl ((if0 _ _).trans (teq (by decide)).2) ?_
        show Steps p.tables e below (T30.setTop (mkF m 309 #[.val (.int p0), .val (.int p1), .val (.int p2), .val (.int (Int32.ofNat f)), .val (.int (Int32.ofNat l')), .val (.int (Int32.ofNat n)), .val (.double (FP.i2d (Int32.ofNat n))), .second, .val (.double (own_Td f l' n)), .second, .val (.int (1 : Int32)), .val (.double (own_Td (f + 1) l' n)), .second, .val (.double (own_Td f (l' + 1) n)), .second, .val (.double (own_Td f l' (n + 1))), .second, .val (.int (Int32.ofNat (l' + 1))), .val (.double (own_Td f (l' + 1) (l' + 1))), .second, .unset, .unset] [])) _
        refine XS.iconst X30.here hx rfl (hb hby at_309) ?_
        show Steps p.tables e below (T30.setTop (mkF m 310 #[.val (.int p0), .val (.int p1), .val (.int p2), .val (.int (Int32.ofNat f)), .val (.int (Int32.ofNat l')), .val (.int (Int32.ofNat n)), .val (.double (FP.i2d (Int32.ofNat n))), .second, .val (.double (own_Td f l' n)), .second, .val (.int (1 : Int32)), .val (.double (own_Td (f + 1) l' n)), .second, .val (.double (own_Td f (l' + 1) n)), .second, .val (.double (own_Td f l' (n + 1))), .second, .val (.int (Int32.ofNat (l' + 1))), .val (.double (own_Td f (l' + 1) (l' + 1))), .second, .unset, .unset] [(.int (1 : Int32))])) _
        refine XS.goto X30.here hx rfl (pc0 := 310) (pc' := 314) rfl (hb hby at_310) (by decide) (by decide) ?_
        show Steps p.tables e below (T30.setTop (mkF m 314 #[.val (.int p0), .val (.int p1), .val (.int p2), .val (.int (Int32.ofNat f)), .val (.int (Int32.ofNat l')), .val (.int (Int32.ofNat n)), .val (.double (FP.i2d (Int32.ofNat n))), .second, .val (.double (own_Td f l' n)), .second, .val (.int (1 : Int32)), .val (.double (own_Td (f + 1) l' n)), .second, .val (.double (own_Td f (l' + 1) n)), .second, .val (.double (own_Td f l' (n + 1))), .second, .val (.int (Int32.ofNat (l' + 1))), .val (.double (own_Td f (l' + 1) (l' + 1))), .second, .unset, .unset] [(.int (1 : Int32))])) _
        refine XS.istore X30.here hx rfl (hb hby at_314) rfl (l' := #[.val (.int p0), .val (.int p1), .val (.int p2), .val (.int (Int32.ofNat f)), .val (.int (Int32.ofNat l')), .val (.int (Int32.ofNat n)), .val (.double (FP.i2d (Int32.ofNat n))), .second, .val (.double (own_Td f l' n)), .second, .val (.int (1 : Int32)), .val (.double (own_Td (f + 1) l' n)), .second, .val (.double (own_Td f (l' + 1) n)), .second, .val (.double (own_Td f l' (n + 1))), .second, .val (.int (Int32.ofNat (l' + 1))), .val (.double (own_Td f (l' + 1) (l' + 1))), .second, .unset, .unset]) rfl ?_
        show Steps p.tables e below (T30.setTop (mkF m 316 #[.val (.int p0), .val (.int p1), .val (.int p2), .val (.int (Int32.ofNat f)), .val (.int (Int32.ofNat l')), .val (.int (Int32.ofNat n)), .val (.double (FP.i2d (Int32.ofNat n))), .second, .val (.double (own_Td f l' n)), .second, .val (.int (1 : Int32)), .val (.double (own_Td (f + 1) l' n)), .second, .val (.double (own_Td f (l' + 1) n)), .second, .val (.double (own_Td f l' (n + 1))), .second, .val (.int (Int32.ofNat (l' + 1))), .val (.double (own_Td f (l' + 1) (l' + 1))), .second, .unset, .unset] [])) _
        refine XS.iloadN X30.here hx rfl (hb hby at_316) rfl ?_
        show Steps p.tables e below (T30.setTop (mkF m 317 #[.val (.int p0), .val (.int p1), .val (.int p2), .val (.int (Int32.ofNat f)), .val (.int (Int32.ofNat l')), .val (.int (Int32.ofNat n)), .val (.double (FP.i2d (Int32.ofNat n))), .second, .val (.double (own_Td f l' n)), .second, .val (.int (1 : Int32)), .val (.double (own_Td (f + 1) l' n)), .second, .val (.double (own_Td f (l' + 1) n)), .second, .val (.double (own_Td f l' (n + 1))), .second, .val (.int (Int32.ofNat (l' + 1))), .val (.double (own_Td f (l' + 1) (l' + 1))), .second, .unset, .unset] [(.int (Int32.ofNat f))])) _
        refine XS.iconst X30.here hx rfl (hb hby at_317) ?_
        show Steps p.tables e below (T30.setTop (mkF m 318 #[.val (.int p0), .val (.int p1), .val (.int p2), .val (.int (Int32.ofNat f)), .val (.int (Int32.ofNat l')), .val (.int (Int32.ofNat n)), .val (.double (FP.i2d (Int32.ofNat n))), .second, .val (.double (own_Td f l' n)), .second, .val (.int (1 : Int32)), .val (.double (own_Td (f + 1) l' n)), .second, .val (.double (own_Td f (l' + 1) n)), .second, .val (.double (own_Td f l' (n + 1))), .second, .val (.int (Int32.ofNat (l' + 1))), .val (.double (own_Td f (l' + 1) (l' + 1))), .second, .unset, .unset] [(.int (0 : Int32)), (.int (Int32.ofNat f))])) _
        refine XS.dload X30.here hx rfl (hb hby at_318) rfl ?_
        show Steps p.tables e below (T30.setTop (mkF m 320 #[.val (.int p0), .val (.int p1), .val (.int p2), .val (.int (Int32.ofNat f)), .val (.int (Int32.ofNat l')), .val (.int (Int32.ofNat n)), .val (.double (FP.i2d (Int32.ofNat n))), .second, .val (.double (own_Td f l' n)), .second, .val (.int (1 : Int32)), .val (.double (own_Td (f + 1) l' n)), .second, .val (.double (own_Td f (l' + 1) n)), .second, .val (.double (own_Td f l' (n + 1))), .second, .val (.int (Int32.ofNat (l' + 1))), .val (.double (own_Td f (l' + 1) (l' + 1))), .second, .unset, .unset] [(.double (FP.i2d (Int32.ofNat n))), (.int (0 : Int32)), (.int (Int32.ofNat f))])) _
        refine st31 _ ?_
        show Steps p.tables e below (T31.setTop (mkF m 323 #[.val (.int p0), .val (.int p1), .val (.int p2), .val (.int (Int32.ofNat f)), .val (.int (Int32.ofNat l')), .val (.int (Int32.ofNat n)), .val (.double (FP.i2d (Int32.ofNat n))), .second, .val (.double (own_Td f l' n)), .second, .val (.int (1 : Int32)), .val (.double (own_Td (f + 1) l' n)), .second, .val (.double (own_Td f (l' + 1) n)), .second, .val (.double (own_Td f l' (n + 1))), .second, .val (.int (Int32.ofNat (l' + 1))), .val (.double (own_Td f (l' + 1) (l' + 1))), .second, .unset, .unset] [(.double (own_Td f 0 n))])) _
        refine XS.dstore X31.here hx rfl (hb hby at_323) rfl (l' := #[.val (.int p0), .val (.int p1), .val (.int p2), .val (.int (Int32.ofNat f)), .val (.int (Int32.ofNat l')), .val (.int (Int32.ofNat n)), .val (.double (FP.i2d (Int32.ofNat n))), .second, .val (.double (own_Td f l' n)), .second, .val (.int (1 : Int32)), .val (.double (own_Td (f + 1) l' n)), .second, .val (.double (own_Td f (l' + 1) n)), .second, .val (.double (own_Td f l' (n + 1))), .second, .val (.int (Int32.ofNat (l' + 1))), .val (.double (own_Td f (l' + 1) (l' + 1))), .second, .val (.double (own_Td f 0 n)), .second]) rfl ?_
        show Steps p.tables e below (T31.setTop (mkF m 325 #[.val (.int p0), .val (.int p1), .val (.int p2), .val (.int (Int32.ofNat f)), .val (.int (Int32.ofNat l')), .val (.int (Int32.ofNat n)), .val (.double (FP.i2d (Int32.ofNat n))), .second, .val (.double (own_Td f l' n)), .second, .val (.int (1 : Int32)), .val (.double (own_Td (f + 1) l' n)), .second, .val (.double (own_Td f (l' + 1) n)), .second, .val (.double (own_Td f l' (n + 1))), .second, .val (.int (Int32.ofNat (l' + 1))), .val (.double (own_Td f (l' + 1) (l' + 1))), .second, .val (.double (own_Td f 0 n)), .second] [])) _
        refine XS.iload X31.here hx rfl (hb hby at_325) rfl ?_
        show Steps p.tables e below (T31.setTop (mkF m 327 #[.val (.int p0), .val (.int p1), .val (.int p2), .val (.int (Int32.ofNat f)), .val (.int (Int32.ofNat l')), .val (.int (Int32.ofNat n)), .val (.double (FP.i2d (Int32.ofNat n))), .second, .val (.double (own_Td f l' n)), .second, .val (.int (1 : Int32)), .val (.double (own_Td (f + 1) l' n)), .second, .val (.double (own_Td f (l' + 1) n)), .second, .val (.double (own_Td f l' (n + 1))), .second, .val (.int (Int32.ofNat (l' + 1))), .val (.double (own_Td f (l' + 1) (l' + 1))), .second, .val (.double (own_Td f 0 n)), .second] [(.int (1 : Int32))])) _
        refine XS.ifNo X31.here hx rfl (hb hby at_327) rfl ((if0 _ _).trans (feq (by decide)).1) ?_
        show Steps p.tables e below (T31.setTop (mkF m 330 #[.val (.int p0), .val (.int p1), .val (.int p2), .val (.int (Int32.ofNat f)), .val (.int (Int32.ofNat l')), .val (.int (Int32.ofNat n)), .val (.double (FP.i2d (Int32.ofNat n))), .second, .val (.double (own_Td f l' n)), .second, .val (.int (1 : Int32)), .val (.double (own_Td (f + 1) l' n)), .second, .val (.double (own_Td f (l' + 1) n)), .second, .val (.double (own_Td f l' (n + 1))), .second, .val (.int (Int32.ofNat (l' + 1))), .val (.double (own_Td f (l' + 1) (l' + 1))), .second, .val (.double (own_Td f 0 n)), .second] [])) _
        refine XS.dload X31.here hx rfl (hb hby at_330) rfl ?_
        show Steps p.tables e below (T31.setTop (mkF m 332 #[.val (.int p0), .val (.int p1), .val (.int p2), .val (.int (Int32.ofNat f)), .val (.int (Int32.ofNat l')), .val (.int (Int32.ofNat n)), .val (.double (FP.i2d (Int32.ofNat n))), .second, .val (.double (own_Td f l' n)), .second, .val (.int (1 : Int32)), .val (.double (own_Td (f + 1) l' n)), .second, .val (.double (own_Td f (l' + 1) n)), .second, .val (.double (own_Td f l' (n + 1))), .second, .val (.int (Int32.ofNat (l' + 1))), .val (.double (own_Td f (l' + 1) (l' + 1))), .second, .val (.double (own_Td f 0 n)), .second] [(.double (own_Td f 0 n))])) _
        refine XS.iloadN X31.here hx rfl (hb hby at_332) rfl ?_
        show Steps p.tables e below (T31.setTop (mkF m 333 #[.val (.int p0), .val (.int p1), .val (.int p2), .val (.int (Int32.ofNat f)), .val (.int (Int32.ofNat l')), .val (.int (Int32.ofNat n)), .val (.double (FP.i2d (Int32.ofNat n))), .second, .val (.double (own_Td f l' n)), .second, .val (.int (1 : Int32)), .val (.double (own_Td (f + 1) l' n)), .second, .val (.double (own_Td f (l' + 1) n)), .second, .val (.double (own_Td f l' (n + 1))), .second, .val (.int (Int32.ofNat (l' + 1))), .val (.double (own_Td f (l' + 1) (l' + 1))), .second, .val (.double (own_Td f 0 n)), .second] [(.int (Int32.ofNat f)), (.double (own_Td f 0 n))])) _
        refine XS.i2dS X31.here hx rfl (hb hby at_333) rfl rfl ?_
        show Steps p.tables e below (T31.setTop (mkF m 334 #[.val (.int p0), .val (.int p1), .val (.int p2), .val (.int (Int32.ofNat f)), .val (.int (Int32.ofNat l')), .val (.int (Int32.ofNat n)), .val (.double (FP.i2d (Int32.ofNat n))), .second, .val (.double (own_Td f l' n)), .second, .val (.int (1 : Int32)), .val (.double (own_Td (f + 1) l' n)), .second, .val (.double (own_Td f (l' + 1) n)), .second, .val (.double (own_Td f l' (n + 1))), .second, .val (.int (Int32.ofNat (l' + 1))), .val (.double (own_Td f (l' + 1) (l' + 1))), .second, .val (.double (own_Td f 0 n)), .second] [(.double (FP.i2d (Int32.ofNat f))), (.double (own_Td f 0 n))])) _
        refine XS.iloadN X31.here hx rfl (hb hby at_334) rfl ?_
        show Steps p.tables e below (T31.setTop (mkF m 335 #[.val (.int p0), .val (.int p1), .val (.int p2), .val (.int (Int32.ofNat f)), .val (.int (Int32.ofNat l')), .val (.int (Int32.ofNat n)), .val (.double (FP.i2d (Int32.ofNat n))), .second, .val (.double (own_Td f l' n)), .second, .val (.int (1 : Int32)), .val (.double (own_Td (f + 1) l' n)), .second, .val (.double (own_Td f (l' + 1) n)), .second, .val (.double (own_Td f l' (n + 1))), .second, .val (.int (Int32.ofNat (l' + 1))), .val (.double (own_Td f (l' + 1) (l' + 1))), .second, .val (.double (own_Td f 0 n)), .second] [(.int (Int32.ofNat f)), (.double (FP.i2d (Int32.ofNat f))), (.double (own_Td f 0 n))])) _
        refine XS.i2dS X31.here hx rfl (hb hby at_335) rfl rfl ?_
        show Steps p.tables e below (T31.setTop (mkF m 336 #[.val (.int p0), .val (.int p1), .val (.int p2), .val (.int (Int32.ofNat f)), .val (.int (Int32.ofNat l')), .val (.int (Int32.ofNat n)), .val (.double (FP.i2d (Int32.ofNat n))), .second, .val (.double (own_Td f l' n)), .second, .val (.int (1 : Int32)), .val (.double (own_Td (f + 1) l' n)), .second, .val (.double (own_Td f (l' + 1) n)), .second, .val (.double (own_Td f l' (n + 1))), .second, .val (.int (Int32.ofNat (l' + 1))), .val (.double (own_Td f (l' + 1) (l' + 1))), .second, .val (.double (own_Td f 0 n)), .second] [(.double (FP.i2d (Int32.ofNat f))), (.double (FP.i2d (Int32.ofNat f))), (.double (own_Td f 0 n))])) _
        refine X31.ldc2DoubleC hx hown (mvT hZ (hw _ (List.mem_of_getElem? (i := 9) rfl))) (g := (mkF m 336 #[.val (.int p0), .val (.int p1), .val (.int p2), .val (.int (Int32.ofNat f)), .val (.int (Int32.ofNat l')), .val (.int (Int32.ofNat n)), .val (.double (FP.i2d (Int32.ofNat n))), .second, .val (.double (own_Td f l' n)), .second, .val (.int (1 : Int32)), .val (.double (own_Td (f + 1) l' n)), .second, .val (.double (own_Td f (l' + 1) n)), .second, .val (.double (own_Td f l' (n + 1))), .second, .val (.int (Int32.ofNat (l' + 1))), .val (.double (own_Td f (l' + 1) (l' + 1))), .second, .val (.double (own_Td f 0 n)), .second] [(.double (FP.i2d (Int32.ofNat f))), (.double (FP.i2d (Int32.ofNat f))), (.double (own_Td f 0 n))])) rfl (hb hby at_336) _ ?_
        show Steps p.tables e below (T31.setTop (mkF m 339 #[.val (.int p0), .val (.int p1), .val (.int p2), .val (.int (Int32.ofNat f)), .val (.int (Int32.ofNat l')), .val (.int (Int32.ofNat n)), .val (.double (FP.i2d (Int32.ofNat n))), .second, .val (.double (own_Td f l' n)), .second, .val (.int (1 : Int32)), .val (.double (own_Td (f + 1) l' n)), .second, .val (.double (own_Td f (l' + 1) n)), .second, .val (.double (own_Td f l' (n + 1))), .second, .val (.int (Int32.ofNat (l' + 1))), .val (.double (own_Td f (l' + 1) (l' + 1))), .second, .val (.double (own_Td f 0 n)), .second] [(.double (4599075939470750515 : UInt64)), (.double (FP.i2d (Int32.ofNat f))), (.double (FP.i2d (Int32.ofNat f))), (.double (own_Td f 0 n))])) _
        refine XS.daddS X31.here hx rfl (hb hby at_339) rfl (own_nb f1 hn0 n1).1 rfl ?_
        show Steps p.tables e below (T31.setTop (mkF m 340 #[.val (.int p0), .val (.int p1), .val (.int p2), .val (.int (Int32.ofNat f)), .val (.int (Int32.ofNat l')), .val (.int (Int32.ofNat n)), .val (.double (FP.i2d (Int32.ofNat n))), .second, .val (.double (own_Td f l' n)), .second, .val (.int (1 : Int32)), .val (.double (own_Td (f + 1) l' n)), .second, .val (.double (own_Td f (l' + 1) n)), .second, .val (.double (own_Td f l' (n + 1))), .second, .val (.int (Int32.ofNat (l' + 1))), .val (.double (own_Td f (l' + 1) (l' + 1))), .second, .val (.double (own_Td f 0 n)), .second] [(.double (FP.dadd (FP.i2d (Int32.ofNat f)) (4599075939470750515 : UInt64))), (.double (FP.i2d (Int32.ofNat f))), (.double (own_Td f 0 n))])) _
        refine XS.ddivS X31.here hx rfl (hb hby at_340) rfl (own_nb f1 hn0 n1).2 rfl ?_
        show Steps p.tables e below (T31.setTop (mkF m 341 #[.val (.int p0), .val (.int p1), .val (.int p2), .val (.int (Int32.ofNat f)), .val (.int (Int32.ofNat l')), .val (.int (Int32.ofNat n)), .val (.double (FP.i2d (Int32.ofNat n))), .second, .val (.double (own_Td f l' n)), .second, .val (.int (1 : Int32)), .val (.double (own_Td (f + 1) l' n)), .second, .val (.double (own_Td f (l' + 1) n)), .second, .val (.double (own_Td f l' (n + 1))), .second, .val (.int (Int32.ofNat (l' + 1))), .val (.double (own_Td f (l' + 1) (l' + 1))), .second, .val (.double (own_Td f 0 n)), .second] [(.double (FP.ddiv (FP.i2d (Int32.ofNat f)) (FP.dadd (FP.i2d (Int32.ofNat f)) (4599075939470750515 : UInt64)))), (.double (own_Td f 0 n))])) _
        refine XS.dcmpS X31.here hx rfl (v := (0 : Int32)) (hb hby at_341) rfl (by rw [← own_te hn0 n1, own_self f1 (Nat.zero_le _) hn0 n1]; rfl) ?_
        show Steps p.tables e below (T31.setTop (mkF m 342 #[.val (.int p0), .val (.int p1), .val (.int p2), .val (.int (Int32.ofNat f)), .val (.int (Int32.ofNat l')), .val (.int (Int32.ofNat n)), .val (.double (FP.i2d (Int32.ofNat n))), .second, .val (.double (own_Td f l' n)), .second, .val (.int (1 : Int32)), .val (.double (own_Td (f + 1) l' n)), .second, .val (.double (own_Td f (l' + 1) n)), .second, .val (.double (own_Td f l' (n + 1))), .second, .val (.int (Int32.ofNat (l' + 1))), .val (.double (own_Td f (l' + 1) (l' + 1))), .second, .val (.double (own_Td f 0 n)), .second] [(.int (0 : Int32))])) _
        refine XS.ifNo X31.here hx rfl (hb hby at_342) rfl ((if0 _ _).trans (teq (by decide)).2) ?_
        show Steps p.tables e below (T31.setTop (mkF m 345 #[.val (.int p0), .val (.int p1), .val (.int p2), .val (.int (Int32.ofNat f)), .val (.int (Int32.ofNat l')), .val (.int (Int32.ofNat n)), .val (.double (FP.i2d (Int32.ofNat n))), .second, .val (.double (own_Td f l' n)), .second, .val (.int (1 : Int32)), .val (.double (own_Td (f + 1) l' n)), .second, .val (.double (own_Td f (l' + 1) n)), .second, .val (.double (own_Td f l' (n + 1))), .second, .val (.int (Int32.ofNat (l' + 1))), .val (.double (own_Td f (l' + 1) (l' + 1))), .second, .val (.double (own_Td f 0 n)), .second] [])) _
        refine XS.iconst X31.here hx rfl (hb hby at_345) ?_
        show Steps p.tables e below (T31.setTop (mkF m 346 #[.val (.int p0), .val (.int p1), .val (.int p2), .val (.int (Int32.ofNat f)), .val (.int (Int32.ofNat l')), .val (.int (Int32.ofNat n)), .val (.double (FP.i2d (Int32.ofNat n))), .second, .val (.double (own_Td f l' n)), .second, .val (.int (1 : Int32)), .val (.double (own_Td (f + 1) l' n)), .second, .val (.double (own_Td f (l' + 1) n)), .second, .val (.double (own_Td f l' (n + 1))), .second, .val (.int (Int32.ofNat (l' + 1))), .val (.double (own_Td f (l' + 1) (l' + 1))), .second, .val (.double (own_Td f 0 n)), .second] [(.int (1 : Int32))])) _
        refine XS.goto X31.here hx rfl (pc0 := 346) (pc' := 350) rfl (hb hby at_346) (by decide) (by decide) ?_
        show Steps p.tables e below (T31.setTop (mkF m 350 #[.val (.int p0), .val (.int p1), .val (.int p2), .val (.int (Int32.ofNat f)), .val (.int (Int32.ofNat l')), .val (.int (Int32.ofNat n)), .val (.double (FP.i2d (Int32.ofNat n))), .second, .val (.double (own_Td f l' n)), .second, .val (.int (1 : Int32)), .val (.double (own_Td (f + 1) l' n)), .second, .val (.double (own_Td f (l' + 1) n)), .second, .val (.double (own_Td f l' (n + 1))), .second, .val (.int (Int32.ofNat (l' + 1))), .val (.double (own_Td f (l' + 1) (l' + 1))), .second, .val (.double (own_Td f 0 n)), .second] [(.int (1 : Int32))])) _
        refine XS.istore X31.here hx rfl (hb hby at_350) rfl (l' := #[.val (.int p0), .val (.int p1), .val (.int p2), .val (.int (Int32.ofNat f)), .val (.int (Int32.ofNat l')), .val (.int (Int32.ofNat n)), .val (.double (FP.i2d (Int32.ofNat n))), .second, .val (.double (own_Td f l' n)), .second, .val (.int (1 : Int32)), .val (.double (own_Td (f + 1) l' n)), .second, .val (.double (own_Td f (l' + 1) n)), .second, .val (.double (own_Td f l' (n + 1))), .second, .val (.int (Int32.ofNat (l' + 1))), .val (.double (own_Td f (l' + 1) (l' + 1))), .second, .val (.double (own_Td f 0 n)), .second]) rfl ?_
        show Steps p.tables e below (T31.setTop (mkF m 352 #[.val (.int p0), .val (.int p1), .val (.int p2), .val (.int (Int32.ofNat f)), .val (.int (Int32.ofNat l')), .val (.int (Int32.ofNat n)), .val (.double (FP.i2d (Int32.ofNat n))), .second, .val (.double (own_Td f l' n)), .second, .val (.int (1 : Int32)), .val (.double (own_Td (f + 1) l' n)), .second, .val (.double (own_Td f (l' + 1) n)), .second, .val (.double (own_Td f l' (n + 1))), .second, .val (.int (Int32.ofNat (l' + 1))), .val (.double (own_Td f (l' + 1) (l' + 1))), .second, .val (.double (own_Td f 0 n)), .second] [])) _
        refine XS.iload X31.here hx rfl (hb hby at_352) rfl ?_
        show Steps p.tables e below (T31.setTop (mkF m 354 #[.val (.int p0), .val (.int p1), .val (.int p2), .val (.int (Int32.ofNat f)), .val (.int (Int32.ofNat l')), .val (.int (Int32.ofNat n)), .val (.double (FP.i2d (Int32.ofNat n))), .second, .val (.double (own_Td f l' n)), .second, .val (.int (1 : Int32)), .val (.double (own_Td (f + 1) l' n)), .second, .val (.double (own_Td f (l' + 1) n)), .second, .val (.double (own_Td f l' (n + 1))), .second, .val (.int (Int32.ofNat (l' + 1))), .val (.double (own_Td f (l' + 1) (l' + 1))), .second, .val (.double (own_Td f 0 n)), .second] [(.int (1 : Int32))])) _
        exact retN X31 hx (t := .boolean) hret0 (by simp) (hb hby at_354) hr
      · show Q0 n0 _ T31.heap _
        rw [eh31]
        exact ⟨rfl, N31⟩
set_option maxRecDepth 65536 in
set_option maxHeartbeats 40000000 in
theorem comes_1 {Post : Tables → Env → Array Value → State → Outcome → State → Prop} (hpost : ∀ tb e args s v u, (limb_1_1.after args s (.returned v) u = true ∧ limb_1_2.after args s (.returned v) u = true ∧ True) → FrameEnd s (.returned v) u (Jvm.fieldLocs frame_1_writes args s ++ Jvm.arrayLocs frame_1_arrays args s ++ Jvm.staticLocs frame_1_statics s) 0 0 → Post tb e args s (.returned v) u) :
    ArmFor flags0 classFile x code maxLocals ret World_1 tables_1 room_1 Calls_1 rest_1 Pre_1 Post := by
  intro l hfl _ _ p e ha hc hk s m args below hf hA hF happ hP
  obtain ⟨hcalls, hrest, hpre⟩ := hP
  obtain ⟨-, -, -, hnamed, -, -, -, hat⟩ := (Spec.applies_iff hf).mp happ
  obtain ⟨hg, hn⟩ := and_e (Cond.before_iff.mp (show (Jvm.Cond.and given_1 narrow_1).before args s = true from hpre))
  obtain ⟨g0, r0⟩ := and_e hg
  obtain ⟨g1, r1⟩ := and_e r0
  obtain ⟨g2, r2⟩ := and_e r1
  obtain ⟨w0, w1, w2, rfl⟩ : ∃ w0 w1 w2 : Value, args = #[w0, w1, w2] := by
    have hs : args.size = 3 := by simpa [Cond.value, given_1] using g0
    obtain ⟨L⟩ := args
    match L, hs with
    | [w0, w1, w2], _ => exact ⟨w0, w1, w2, rfl⟩
  have hw := fun d (hd : d ∈ tables_1) => atoms_spec (ws := Jvm.Cond.code x code maxLocals ret :: tables_1) hat d (List.mem_cons_of_mem _ hd)
  have hfit : Fit s := fun {y c} hc i hi => by
    obtain ⟨ha, rfl⟩ := Array.getElem?_eq_some_iff.mp hc
    have q := List.all_eq_true.mp ((Array.all_eq_true_iff_forall_mem.mp hF) _ (Array.getElem_mem ha)) i (List.mem_range.mpr hi)
    simpa [Array.getElem?_eq_getElem hi] using q
  obtain ⟨i0, ei0⟩ := is_v g1
  obtain rfl : w0 = (.int i0) := Option.some.inj ei0
  obtain ⟨i1, ei1⟩ := is_v g2
  obtain rfl : w1 = (.int i1) := Option.some.inj ei1
  obtain ⟨i2, ei2⟩ := is_v r2
  obtain rfl : w2 = (.int i2) := Option.some.inj ei2
  obtain ⟨n, o, h1, h2, h3, _, L, rfl, ⟨rfl, N⟩, hq⟩ := rm0 l s _ hw tables_1 i0 i1 i2 s.heap s.heap.size (Nat.le_refl _) p e ha hc hk s m _ below hf ((Spec.applies_iff_loose hf).mp happ).1 ⟨rfl, State.Warmed39.refl s, rfl⟩ trivial
  refine ⟨n, _, h1, h2, h3, hpost _ _ _ _ _ _ ⟨Cond.after_iff.mpr rfl, Cond.after_iff.mpr (eq_i res_at (Term.int_eval (1)) rfl), trivial⟩ ⟨hq.1, hq.2.1, (hq.2.2.sift fun y hy => Or.inr (N y hy)).mono (by decide) (by decide)⟩⟩
theorem main_1_1 : Claimed_1_1 := comes_1 fun _ _ _ _ _ _ h hF => ⟨h.1, hF⟩
theorem main_1_2 : Claimed_1_2 := comes_1 fun _ _ _ _ _ _ h hF => ⟨h.2.1, hF⟩
end Jvm.Pilot.@@N@@
namespace Jvm.Pilot.@@N@@
open Jvm Jvm.ClassFile Sem Op Lib Jvm.Free Jvm.Stand Jvm.Pilot.@@N@@.Jvm.D
/-! MADE BY PROGRAM (witnessworld.py) out of the Statement's table words and the real class files: 9 classes; the members and pool entries that the words name. The judged class is class 1, her method 1. -/
namespace start1
open Jvm.ClassFile
def u (s : String) : CpInfo := .utf8 (stringToUtf16 s)
/-- a pool by its gaps: so many unusable entries, then the entry; so many at the end -/
def gap : Nat → List CpInfo → List CpInfo
  | 0, r => r
  | n + 1, r => .unusable :: gap n r
def poolList (es : List (Nat × CpInfo)) (last : Nat) : List CpInfo := es.foldr (fun e r => gap e.1 (e.2 :: r)) (gap last [])
def pool (es : List (Nat × CpInfo)) (last : Nat) : Array CpInfo := ⟨poolList es last⟩
def fileOf (pool : Array CpInfo) (this : Nat) (attrs : Array Attribute := #[]) (ms : Array MethodInfo := #[]) (fl : Nat := 33) (sup : Nat := 0) (ifs : Array Nat := #[]) (fds : Array FieldInfo := #[]) : ClassFile where
  minorVersion := 0
  majorVersion := 65
  constantPool := pool
  accessFlags := fl
  thisClass := this
  superClass := sup
  interfaces := ifs
  fields := fds
  methods := ms
  attributes := attrs
def plain (name : String) (sup : Option ClassId) : Class where
  name := name
  kind := .ordinary
  loader := none
  accessFlags := 33
  super := sup
  interfaces := #[]
  cf := none
  fields := #[]
  methods := #[]
  instanceTypes := #[]
  staticTypes := #[]
  resolved := #[]
  callSites := []
  init := .initialized
  statics := none
  mirror := none

def pool0 : Array CpInfo := pool [(5, u "<init>"), (0, u "()V"), (1, .class_ 10), (1, u "java/lang/Object")] 113

def k0m0 : Method := { name := "<init>", desc := "()V", sig := { parameters := [], returnType := none }, accessFlags := 1, code := none }
/-- java/lang/Object -/
def k0 : Class := { plain "java/lang/Object" none with
  accessFlags := 33
  interfaces := #[]
  cf := some (fileOf pool0 8 #[] #[{ accessFlags := 1, nameIndex := 5, descriptorIndex := 6, attributes := #[] }] 33 0 #[] #[])
  fields := #[]
  methods := #[k0m0]
  instanceTypes := #[]
  staticTypes := #[]
  resolved := Array.replicate 124 none
  statics := none }

def pool1 : Array CpInfo := pool [(2, .class_ 4), (1, u "java/lang/Object"), (0, u "<init>"), (0, u "()V"), (0, .integer 65535), (0, .methodref 9 10), (0, .class_ 11), (0, .nameAndType 12 13), (0, u "com/example/ample_search/amplesearch/search/Bm25"), (0, u "tf"), (0, u "(IID)D"), (0, .double 4608083138725491507), (1, .double 4599075939470750515), (1, .class_ 19), (0, u "com/example/ample_search/amplesearch/search/Bm25TfPinLaw"), (2, u "law"), (0, u "(III)Z")] 3

def k1m0 : Method := { name := "<init>", desc := "()V", sig := { parameters := [], returnType := none }, accessFlags := 2, code := none }
def k1c1 : Code := { maxStack := 8, maxLocals := 22, code := code, exceptionTable := #[], attributes := #[] }
def k1m1 : Method := { name := "law", desc := "(III)Z", sig := { parameters := [.int, .int, .int], returnType := some .boolean }, accessFlags := 9, code := some k1c1 }
/-- com/example/ample_search/amplesearch/search/Bm25TfPinLaw -/
def k1 : Class := { plain "com/example/ample_search/amplesearch/search/Bm25TfPinLaw" (some 0) with
  accessFlags := 49
  interfaces := #[]
  cf := some (fileOf pool1 18 #[] #[{ accessFlags := 2, nameIndex := 5, descriptorIndex := 6, attributes := #[] }, { accessFlags := 9, nameIndex := 22, descriptorIndex := 23, attributes := #[] }] 49 2 #[] #[])
  fields := #[]
  methods := #[k1m0, k1m1]
  instanceTypes := #[]
  staticTypes := #[]
  resolved := Array.replicate 27 none
  statics := none }

def pool2 : Array CpInfo := pool [(1, .class_ 2), (0, u "com/example/ample_search/amplesearch/search/Bm25"), (1, .class_ 6), (1, u "java/lang/Object"), (0, u "<init>"), (0, u "()V"), (8, .double 4608083138725491507), (1, .double 4598175219545276416), (1, .double 4604930618986332160), (1, u "K1"), (0, u "D"), (1, u "B"), (0, u "BOOST"), (2, u "IDF_FORMULA"), (0, u "Ljava/lang/String;"), (2, u "TF_FORMULA"), (6, u "tf"), (0, u "(IID)D")] 4

def k2m0 : Method := { name := "<init>", desc := "()V", sig := { parameters := [], returnType := none }, accessFlags := 2, code := none }
def k2c1 : Code := { maxStack := 12, maxLocals := 4, code := prog_33_method_3_code, exceptionTable := #[], attributes := #[] }
def k2m1 : Method := { name := "tf", desc := "(IID)D", sig := { parameters := [.int, .int, .double], returnType := some .double }, accessFlags := 9, code := some k2c1 }
/-- com/example/ample_search/amplesearch/search/Bm25 -/
def k2 : Class := { plain "com/example/ample_search/amplesearch/search/Bm25" (some 0) with
  accessFlags := 49
  interfaces := #[]
  cf := some (fileOf pool2 1 #[] #[{ accessFlags := 2, nameIndex := 7, descriptorIndex := 8, attributes := #[] }, { accessFlags := 9, nameIndex := 41, descriptorIndex := 42, attributes := #[] }] 49 4 #[] #[{ accessFlags := 25, nameIndex := 23, descriptorIndex := 24, attributes := #[] }, { accessFlags := 25, nameIndex := 26, descriptorIndex := 24, attributes := #[] }, { accessFlags := 25, nameIndex := 27, descriptorIndex := 24, attributes := #[] }, { accessFlags := 24, nameIndex := 30, descriptorIndex := 31, attributes := #[] }, { accessFlags := 24, nameIndex := 34, descriptorIndex := 31, attributes := #[] }])
  fields := #[{ name := "K1", type := .double, accessFlags := 25, slot := 0, constantValue := 0 }, { name := "B", type := .double, accessFlags := 25, slot := 1, constantValue := 0 }, { name := "BOOST", type := .double, accessFlags := 25, slot := 2, constantValue := 0 }, { name := "IDF_FORMULA", type := (.object "java/lang/String"), accessFlags := 24, slot := 3, constantValue := 0 }, { name := "TF_FORMULA", type := (.object "java/lang/String"), accessFlags := 24, slot := 4, constantValue := 0 }]
  methods := #[k2m0, k2m1]
  instanceTypes := #[]
  staticTypes := #[.double, .double, .double, (.object "java/lang/String"), (.object "java/lang/String")]
  resolved := Array.replicate 47 none
  statics := none }

def pool3 : Array CpInfo := pool [(1, u "java/lang/Cloneable"), (0, .class_ 1), (0, u "java/lang/Object"), (0, .class_ 3)] 3

/-- java/lang/Cloneable -/
def k3 : Class := { plain "java/lang/Cloneable" (some 0) with
  accessFlags := 1537
  interfaces := #[]
  cf := some (fileOf pool3 2 #[] #[] 1537 4 #[] #[])
  fields := #[]
  methods := #[]
  instanceTypes := #[]
  staticTypes := #[]
  resolved := Array.replicate 8 none
  statics := none }

def pool4 : Array CpInfo := pool [(1, u "java/io/Serializable"), (0, .class_ 1), (0, u "java/lang/Object"), (0, .class_ 3)] 3

/-- java/io/Serializable -/
def k4 : Class := { plain "java/io/Serializable" (some 0) with
  accessFlags := 1537
  interfaces := #[]
  cf := some (fileOf pool4 2 #[] #[] 1537 4 #[] #[])
  fields := #[]
  methods := #[]
  instanceTypes := #[]
  staticTypes := #[]
  resolved := Array.replicate 8 none
  statics := none }

/-- the primitive byte -/
def k5 : Class := { plain "byte" none with kind := .primitive 'B', accessFlags := 0x411 }
/-- [B -/
def k6 : Class := { plain "[B" (some 0) with kind := .array 5 .byte, interfaces := #[3, 4], accessFlags := 1041 }

/-- the primitive int -/
def k7 : Class := { plain "int" none with kind := .primitive 'I', accessFlags := 0x411 }
/-- [I -/
def k8 : Class := { plain "[I" (some 0) with kind := .array 7 .int, interfaces := #[3, 4], accessFlags := 1041 }

def heap : Heap := #[]
def classes : Array Class := #[k0, k1, k2, k3, k4, k5, k6, k7, k8]
def interned : List (Array UInt16 × Addr) := []
def slotsUsed : Nat := 0
def theMethod : MethodId := ⟨1, 1⟩
def args0 : Array Value := #[.int 5, .int 300, .int 70000]
def aboutOver (below : List Frame) : State where
  vm := { classes := classes, interned := interned.toArray }
  heap := heap
  slotsUsed := slotsUsed
  threads := #[{ frames := .invoking theMethod args0 :: below }]
def below0 : List Frame := [.native { method := ⟨0, 0⟩, args := #[] }]
def about1 : State := aboutOver below0
def p0 : Program := .bare "" "" ""
def e0 : Env := launch0.env 0 0 0
theorem w_frames : about1.frames = Frame.invoking theMethod args0 :: below0 := rfl
set_option maxRecDepth 65536 in
theorem w_args : argsFit about1.vm theMethod args0 = true := by decide +kernel
set_option maxRecDepth 65536 in
theorem w_heap : heapFits about1 = true := by decide +kernel
set_option maxRecDepth 65536 in
theorem w_runnable : about1.curStatus? = some .runnable := by decide +kernel
set_option maxRecDepth 65536 in
theorem w_alone : about1.alone = true := by decide +kernel
set_option maxRecDepth 65536 in
theorem w_named : about1.methodNamed? x = some theMethod := by decide +kernel
set_option maxRecDepth 65536 in
theorem w_hears : about1.hears theMethod below0 = true := by decide +kernel
set_option maxRecDepth 65536 in
theorem w_ripe : about1.ripe theMethod args0 below0 = true := by decide +kernel
theorem w_running : about1.status = .running := rfl
set_option maxRecDepth 65536 in
theorem w_room : about1.hasRoom e0.platform room_1 = true :=
  launch0.hasRoom_least _ room_1 (by decide +kernel) (by decide +kernel) (by decide +kernel) (by decide +kernel) (by decide +kernel) (by decide +kernel)
theorem allAtoms_all (ts : List Jvm.Cond) (a : Array Jvm.Value) (st : Jvm.State) : (allAtoms ts).before a st = ts.all (fun c => c.before a st) := by
  induction ts with
  | nil => rfl
  | cons c t ih =>
    show (Jvm.Cond.and c (allAtoms t)).before a st = _
    rw [Jvm.Cond.before_and, ih, List.all_cons]
def words1 : List Jvm.Cond := Jvm.Cond.code x code maxLocals ret :: tables_1
/-- a 'code' word, met by the world's own term for the bytes: nothing is compared byte by byte -/
theorem code_word {y : MethodName} {bytes : ByteArray} {mx : Nat} {rt : Option FieldType} {a : Array Value} {s : State} {m : MethodId} {meth : Method} {c : Code} (h1 : s.methodNamed? y = some m) (h2 : s.vm.method? m = some meth) (h3 : meth.code = some c) (h4 : c.code = bytes)
    (h5 : (c.maxLocals == mx && c.exceptionTable.isEmpty && decide (c.maxStack ≤ mostOperands) && decide (meth.sig.returnType = rt) && !meth.locks && decide (parseMethodDescriptor y.desc = some meth.sig)) = true) : (Jvm.Cond.code y bytes mx rt).before a s = true := by
  simp only [Bool.and_eq_true, beq_iff_eq, Bool.not_eq_true', decide_eq_true_eq] at h5
  obtain ⟨⟨⟨⟨⟨g1, g2⟩, g3⟩, g4⟩, g5⟩, g6⟩ := h5
  simp [Cond.before, Cond.holds, Cond.value, h1, h2, h3, h4, g1, g2, g3, g4, g5, g6]
def isCode : Jvm.Cond → Bool
  | .code _ _ _ _ => true
  | _ => false
theorem all_split {L : List Jvm.Cond} {P : Jvm.Cond → Bool} (h1 : L.all (fun c => isCode c || P c) = true) (h2 : ∀ c ∈ L.filter isCode, P c = true) : L.all P = true := by
  refine List.all_eq_true.mpr fun c hc => ?_
  have h := List.all_eq_true.mp h1 c hc
  rcases Bool.eq_false_or_eq_true (isCode c) with hi | hi
  · exact h2 c (List.mem_filter.mpr ⟨hc, hi⟩)
  · simpa [hi] using h
set_option maxRecDepth 65536 in
theorem w_c0 : (Jvm.Cond.code x code maxLocals ret).before args0 about1 = true := code_word (m := ⟨1, 1⟩) (meth := k1m1) (c := k1c1) (by decide +kernel) rfl rfl rfl (by decide +kernel)
set_option maxRecDepth 65536 in
theorem w_c1 : (Jvm.Cond.code ({ cls := "com/example/ample_search/amplesearch/search/Bm25", name := "tf", desc := "(IID)D" } : Jvm.MethodName) prog_33_method_3_code (4 : Nat) (Option.some Jvm.ClassFile.FieldType.double)).before args0 about1 = true := code_word (m := ⟨2, 1⟩) (meth := k2m1) (c := k2c1) (by decide +kernel) rfl rfl rfl (by decide +kernel)
def codes1 : List Jvm.Cond := [Jvm.Cond.code x code maxLocals ret, Jvm.Cond.code ({ cls := "com/example/ample_search/amplesearch/search/Bm25", name := "tf", desc := "(IID)D" } : Jvm.MethodName) prog_33_method_3_code (4 : Nat) (Option.some Jvm.ClassFile.FieldType.double)]
set_option maxRecDepth 65536 in
theorem codes_eq : words1.filter isCode = codes1 := rfl
theorem w_codes : ∀ c ∈ words1.filter isCode, c.before args0 about1 = true := by
  rw [codes_eq]
  intro c hc
  simp only [codes1, List.mem_cons, List.not_mem_nil, or_false] at hc
  rcases hc with rfl | rfl
  · exact w_c0
  · exact w_c1
set_option maxRecDepth 65536 in
theorem w_t1 : words1.all (fun c => isCode c || c.before args0 about1) = true := by decide +kernel
theorem w_tables : (allAtoms (Jvm.Cond.code x code maxLocals ret :: tables_1)).before args0 about1 = true := by
  rw [allAtoms_all]
  show words1.all (fun c => c.before args0 about1) = true
  refine all_split ?_ w_codes
  rw [w_t1]
set_option maxRecDepth 65536 in
theorem w_case : (Jvm.Cond.and given_1 narrow_1).before args0 about1 = true := by decide +kernel
theorem w_applies : (headSpec (Jvm.Cond.code x code maxLocals ret :: tables_1) room_1).applies x e0.platform about1 = true :=
  (Spec.applies_iff w_frames).mpr ⟨w_running, w_runnable, w_alone, w_named, w_hears, w_ripe, w_room, w_tables⟩
theorem atStart : AtStart classFile x code maxLocals ret World_1 tables_1 room_1 Calls_1 rest_1 Pre_1 launch0 p0 e0 about1 theMethod args0 below0 :=
  ⟨lists_1, trivial, launch0.admits_env _ _ _, launch0.least_env, fairChoices_fair.cas, fairChoices_fair.clock, w_frames, w_args, w_heap, w_applies, trivial, trivial, w_case⟩
end start1
theorem witness_1 : WitnessClaimed_1 := ⟨start1.p0, start1.e0, start1.about1, start1.theMethod, start1.args0, start1.below0, start1.atStart⟩
end Jvm.Pilot.@@N@@
