import JvmDerived
import JvmDerived.Pilot.@@N@@Statement
import JvmDerived.Pilot.@@N@@Code
set_option linter.unusedVariables false
set_option linter.unusedSimpArgs false
namespace Jvm.RoadKit
open Sem ClassFile Op Lib Jvm.Stand Jvm.Free Jvm.LawKit
section New
variable {p : Program} {l : Launch} {e : Env} {R : Room} {s : State} {m : MethodId} {args : Array Value} {below : List Frame} {meth : Method} {c : Code} {T : State} {locs : List Loc} {cells slots : Nat}
theorem retI (X : Stand p l e R s m args below meth c T locs cells slots) (hx : p.tables.exec = Jvm.exec) {pc : Nat} {Ls : Array Slot} {z : Int32} {rest : List Value} (hret : meth.sig.returnType = some .int) (hd : decode c.code pc = .ok (.ireturn, 1)) {fs : List Frame}
    (hl : ∀ (f : JFrame) (acts : List Action), f.method = m → f.locked = none → f.entered = [] → (doReturn e (T.setTop f) acts (some (.int z))).1 = T.setFrames fs) : Steps p.tables e below (T.setTop (mkF m pc Ls (.int z :: rest))) (T.setFrames fs) := by
  have hm' : T.vm.method? m = some meth := X.method'
  have hn : narrow .int (.int z) = .int z := rfl
  show Steps p.tables e below (T.setTop { method := m, pc := pc, locals := Ls, stack := _ :: rest, locked := none }) _
  jvm_step X.here [X.here.top, hx, hd, hm', hret, hn]
  first | (intro acts; rw [hl _ acts rfl rfl rfl]) | rw [hl _ _ rfl rfl rfl]
  exact Steps.refl _
theorem retJ (X : Stand p l e R s m args below meth c T locs cells slots) (hx : p.tables.exec = Jvm.exec) {pc : Nat} {Ls : Array Slot} {z : Int64} {rest : List Value} (hret : meth.sig.returnType = some .long) (hd : decode c.code pc = .ok (.lreturn, 1)) {fs : List Frame}
    (hl : ∀ (f : JFrame) (acts : List Action), f.method = m → f.locked = none → f.entered = [] → (doReturn e (T.setTop f) acts (some (.long z))).1 = T.setFrames fs) : Steps p.tables e below (T.setTop (mkF m pc Ls (.long z :: rest))) (T.setFrames fs) := by
  have hm' : T.vm.method? m = some meth := X.method'
  have hn : narrow .long (.long z) = .long z := rfl
  show Steps p.tables e below (T.setTop { method := m, pc := pc, locals := Ls, stack := _ :: rest, locked := none }) _
  jvm_step X.here [X.here.top, hx, hd, hm', hret, hn]
  first | (intro acts; rw [hl _ acts rfl rfl rfl]) | rw [hl _ _ rfl rfl rfl]
  exact Steps.refl _
theorem retD (X : Stand p l e R s m args below meth c T locs cells slots) (hx : p.tables.exec = Jvm.exec) {pc : Nat} {Ls : Array Slot} {z : UInt64} {rest : List Value} (hret : meth.sig.returnType = some .double) (hd : decode c.code pc = .ok (.dreturn, 1)) {fs : List Frame}
    (hl : ∀ (f : JFrame) (acts : List Action), f.method = m → f.locked = none → f.entered = [] → (doReturn e (T.setTop f) acts (some (.double z))).1 = T.setFrames fs) : Steps p.tables e below (T.setTop (mkF m pc Ls (.double z :: rest))) (T.setFrames fs) := by
  have hm' : T.vm.method? m = some meth := X.method'
  have hn : narrow .double (.double z) = .double z := rfl
  show Steps p.tables e below (T.setTop { method := m, pc := pc, locals := Ls, stack := _ :: rest, locked := none }) _
  jvm_step X.here [X.here.top, hx, hd, hm', hret, hn]
  first | (intro acts; rw [hl _ acts rfl rfl rfl]) | rw [hl _ _ rfl rfl rfl]
  exact Steps.refl _
theorem retR (X : Stand p l e R s m args below meth c T locs cells slots) (hx : p.tables.exec = Jvm.exec) {pc : Nat} {Ls : Array Slot} {w : Value} {t : FieldType} {rest : List Value} (hret : meth.sig.returnType = some t) (hn : narrow t w = w) (ht : t.isReference = true) (hw : w.isRef = true) (hd : decode c.code pc = .ok (.areturn, 1)) {fs : List Frame}
    (hl : ∀ (f : JFrame) (acts : List Action), f.method = m → f.locked = none → f.entered = [] → (doReturn e (T.setTop f) acts (some w)).1 = T.setFrames fs) : Steps p.tables e below (T.setTop (mkF m pc Ls (w :: rest))) (T.setFrames fs) := by
  have hm' : T.vm.method? m = some meth := X.method'
  show Steps p.tables e below (T.setTop { method := m, pc := pc, locals := Ls, stack := _ :: rest, locked := none }) _
  jvm_step X.here [X.here.top, hx, hd, hm', hret, hn, hw]
  try (refine ⟨ht, ?_⟩)
  first | (intro acts; rw [hl _ acts rfl rfl rfl]) | rw [hl _ _ rfl rfl rfl]
  exact Steps.refl _
theorem own_up (X : Stand p l e R s m args below meth c T locs cells slots) {k n : Nat} (h1 : cells ≤ k) (h2 : slots ≤ n) : Stand p l e R s m args below meth c T locs k n :=
  ⟨X.admits, X.cas, X.clock, X.frames, X.room, X.hears, X.method, X.code, X.here, X.tail, X.warmed, X.limits, X.bytes, X.same.mono h1 h2⟩
theorem own_ext {h h' : Heap} (K : Keep h h' []) : Ext h h' := ⟨K.1, fun a c q => K.2.1 a c q nin0⟩
theorem own_narR {v : Value} {ty : FieldType} (h : v.isRef = true) (ht : ty.isReference = true) : narrow ty v = v := by
  rcases ref_cases h with rfl | ⟨a, rfl⟩ <;> cases ty <;> first | rfl | (simp [FieldType.isReference] at ht)
theorem own_fitR {v : Value} {ty : FieldType} (h : v.isRef = true) (ht : ty.isReference = true) : fits ty v = true := by
  rcases ref_cases h with rfl | ⟨a, rfl⟩ <;> cases ty <;> first | rfl | (simp [FieldType.isReference] at ht)
theorem own_wmono {s t : State} {o : Outcome} {L : List Loc} {k n k' n' : Nat} (h : ReturnedEndW s o t L k n) (hk : k ≤ k') (hn : n ≤ n') : ReturnedEndW s o t L k' n' := ⟨h.1, h.2.1, h.2.2.1, h.2.2.2.mono hk hn⟩
theorem own_chr {Z s T : State} {EL : List (String × Nat)} {h0 H : Heap} (hh : s.heap = h0) (e : T.heap = H) (c : CHr Z EL s.vm h0 T.vm H) : CHr Z EL s.vm s.heap T.vm T.heap := by subst hh e; exact c
theorem own_nb0 : nar .boolean 0 = 0 := by decide
theorem own_nb1 : nar .boolean 1 = 1 := by decide
end New
end Jvm.RoadKit
namespace Jvm.Pilot.@@N@@
open Jvm Jvm.ClassFile Sem Op Lib Jvm.Free Jvm.Stand Jvm.LawKit Jvm.RoadKit Bundle Jvm.Pilot.@@N@@.Jvm.D
theorem and255_chars (x : Int32) : ¬ nar .char ((x &&& (255 : Int32)).toUInt32.toUInt16.toUInt32.toInt32) < 0 ∧ ¬ (255 : Int32) < nar .char ((x &&& (255 : Int32)).toUInt32.toUInt16.toUInt32.toInt32) := by
  have t : ∀ k : Fin 256, ¬ nar .char ((Int32.ofNat k.val).toUInt32.toUInt16.toUInt32.toInt32) < 0 ∧ ¬ (255 : Int32) < nar .char ((Int32.ofNat k.val).toUInt32.toUInt16.toUInt32.toInt32) := by decide +kernel
  have h : (x &&& 255).toBitVec.toNat < 256 := by
    simp only [Int32.toBitVec_and, BitVec.toNat_and]
    exact Nat.lt_succ_of_le Nat.and_le_right
  have e : (x &&& 255) = Int32.ofNat (x &&& 255).toBitVec.toNat := by
    apply Int32.toBitVec_inj.mp
    show _ = BitVec.ofNat 32 _
    rw [BitVec.ofNat_toNat]; simp
  rw [e]
  exact t ⟨_, h⟩
theorem up (cs : List Int32) (h : ∀ c ∈ cs, ¬ c < 0 ∧ ¬ (255 : Int32) < c) : ∀ c ∈ cs, ¬ c < 0 ∧ ¬ (65535 : Int32) < c := fun c hc => ⟨(h c hc).1, fun q => (h c hc).2 (by rw [Int32.lt_iff_toInt_lt] at q ⊢; have e1 : (65535 : Int32).toInt = 65535 := rfl; have e2 : (255 : Int32).toInt = 255 := rfl; omega)⟩
theorem own_pd0 : parseMethodDescriptor "()V" = some ⟨[], none⟩ := by decide +kernel
theorem own_pd1 : parseMethodDescriptor "(I)I" = some ⟨[.int], some .int⟩ := by decide +kernel
theorem own_pd2 : parseMethodDescriptor "(DDDD)V" = some ⟨[.double, .double, .double, .double], none⟩ := by decide +kernel
theorem own_pd3 : parseMethodDescriptor "()D" = some ⟨[], some .double⟩ := by decide +kernel
section Fl
open Jvm.FP.Core
def own_G : Nat := 2 ^ 1035
theorem own_Gpos : 0 < own_G := Nat.two_pow_pos _
theorem own_q64 : b64.qmin = -1074 := by decide +kernel
theorem own_qx64 : (0 : Int) ≤ b64.qmax := by decide +kernel
theorem own_p64 : b64.p = 53 := by decide +kernel
theorem own_t64 : b64.tails = 2 ^ 52 := by decide +kernel
theorem own_grid (K : Int) (h : K.natAbs < 2 ^ 53) : ∃ V : Datum, Jvm.FP.Core.fits b64 V ∧ V ≠ .nan ∧ zval b64 V = K * (own_G : Int) := by
  by_cases h0 : K = 0
  · subst h0
    refine ⟨.fin false 0 b64.qmin, zero_fits good_b64 false, Datum.noConfusion, ?_⟩
    show signed false (inUnits 0 b64.qmin b64.qmin) = 0 * (own_G : Int)
    simp [inUnits, signed]
  · have hk : K.natAbs ≠ 0 := by omega
    have a := Nat.log2_self_le hk
    have b := Nat.lt_log2_self (n := K.natAbs)
    have hL : Nat.log2 K.natAbs < 53 := (Nat.log2_lt hk).mpr h
    obtain ⟨L, hLe⟩ : ∃ L, L = Nat.log2 K.natAbs := ⟨_, rfl⟩
    rw [← hLe] at a b hL
    refine ⟨.fin (decide (K < 0)) (K.natAbs * 2 ^ (52 - L)) ((L : Int) - 91), ?_, Datum.noConfusion, ?_⟩
    · show _ < 2 ^ b64.p ∧ b64.qmin ≤ _ ∧ _ ≤ b64.qmax ∧ (_ ∨ b64.tails ≤ _)
      rw [own_p64, own_q64, own_t64]
      have e1 : 2 ^ (L + 1) * 2 ^ (52 - L) = 2 ^ 53 := by rw [← Nat.pow_add]; congr 1; omega
      have e2 : 2 ^ L * 2 ^ (52 - L) = 2 ^ 52 := by rw [← Nat.pow_add]; congr 1; omega
      refine ⟨?_, by omega, by have := own_qx64; omega, Or.inr ?_⟩
      · rw [← e1]; exact Nat.mul_lt_mul_of_pos_right b (Nat.two_pow_pos _)
      · rw [← e2]; exact Nat.mul_le_mul_right _ a
    · show signed (decide (K < 0)) (inUnits (K.natAbs * 2 ^ (52 - L)) ((L : Int) - 91) b64.qmin) = K * (own_G : Int)
      have e3 : inUnits (K.natAbs * 2 ^ (52 - L)) ((L : Int) - 91) b64.qmin = K.natAbs * own_G := by
        unfold inUnits own_G
        rw [own_q64, Nat.mul_assoc, ← Nat.pow_add]
        congr 2
        omega
      rw [e3, signed_mul]
      congr 1
      unfold signed
      by_cases hneg : K < 0
      · simp [hneg]; omega
      · simp [hneg]; omega
def own_bd (a : UInt64) (lo hi : Int) : Prop := val64 a ≠ .nan ∧ lo * (own_G : Int) ≤ zval b64 (val64 a) ∧ zval b64 (val64 a) ≤ hi * (own_G : Int)
theorem own_top : 2 ^ 53 * own_G < b64.tails * 2 ^ (b64.exps - 2) := by
  have e : b64.exps - 2 = 2046 := by decide +kernel
  rw [own_t64, e]
  unfold own_G
  rw [← Nat.pow_add, ← Nat.pow_add]
  exact Nat.pow_lt_pow_right (by decide) (by decide)
theorem own_bfin {a : UInt64} {lo hi : Int} (h : own_bd a lo hi) (h1 : -9007199254740992 ≤ lo) (h2 : hi ≤ 9007199254740992) : DFin a := by
  obtain ⟨n, l, u⟩ := h
  cases hv : val64 a with
  | nan => exact absurd hv n
  | fin s c q => exact ⟨s, c, q, hv⟩
  | inf s =>
    exfalso
    rw [hv] at l u
    have ht := own_top
    have hz : zval b64 (.inf s) = signed s (b64.tails * 2 ^ (b64.exps - 2)) := rfl
    rw [hz] at l u
    generalize b64.tails * 2 ^ (b64.exps - 2) = top at *
    have g0 : (0 : Int) ≤ (own_G : Int) := Int.natCast_nonneg _
    have l2 : -9007199254740992 * (own_G : Int) ≤ lo * (own_G : Int) := Int.mul_le_mul_of_nonneg_right h1 g0
    have u2 : hi * (own_G : Int) ≤ 9007199254740992 * (own_G : Int) := Int.mul_le_mul_of_nonneg_right h2 g0
    cases s <;> simp only [signed, if_true, Bool.false_eq_true, if_false] at l u <;> omega
theorem own_ne {x y : Datum} (hx : ∃ s c q, x = .fin s c q) (hy : ∃ s c q, y = .fin s c q) : round b64 (exactSum x y) ≠ .nan := by
  obtain ⟨s, c, q, rfl⟩ := hx
  obtain ⟨t, d, r, rfl⟩ := hy
  exact roundRatio_ne_nan _ _ _ _ _
theorem own_bsum {x y : Datum} {l1 h1 l2 h2 : Int} (hx : ∃ s c q, x = .fin s c q) (hy : ∃ s c q, y = .fin s c q) (fx : Jvm.FP.Core.fits b64 x) (fy : Jvm.FP.Core.fits b64 y)
    (a1 : l1 * (own_G : Int) ≤ zval b64 x) (a2 : zval b64 x ≤ h1 * (own_G : Int)) (b1 : l2 * (own_G : Int) ≤ zval b64 y) (b2 : zval b64 y ≤ h2 * (own_G : Int))
    (s1 : (l1 + l2).natAbs < 2 ^ 53) (s2 : (h1 + h2).natAbs < 2 ^ 53) : (l1 + l2) * (own_G : Int) ≤ zval b64 (round b64 (exactSum x y)) ∧ zval b64 (round b64 (exactSum x y)) ≤ (h1 + h2) * (own_G : Int) := by
  obtain ⟨V, f1, n1, e1⟩ := own_grid _ s1
  obtain ⟨W, f2, n2, e2⟩ := own_grid _ s2
  constructor
  · rw [← e1]; exact sum_ge good_b64 hx hy fx fy f1 n1 (by rw [e1, Int.add_mul]; omega)
  · rw [← e2]; exact sum_le good_b64 hx hy fx fy f2 n2 (by rw [e2, Int.add_mul]; omega)
theorem own_badd {a b : UInt64} {l1 h1 l2 h2 : Int} (ha : own_bd a l1 h1) (hb : own_bd b l2 h2) (q1 : -4503599627370496 ≤ l1) (q2 : h1 ≤ 4503599627370496) (q3 : -4503599627370496 < l2) (q4 : h2 < 4503599627370496) (q5 : -4503599627370496 ≤ h1) (q6 : l1 ≤ 4503599627370496) (q7 : -4503599627370496 < h2) (q8 : l2 < 4503599627370496) : own_bd (FP.dadd a b) (l1 + l2) (h1 + h2) := by
  have fa := own_bfin ha (by omega) (by omega)
  have fb := own_bfin hb (by omega) (by omega)
  have e : val64 (FP.dadd a b) = round b64 (exactSum (val64 a) (val64 b)) := val64_dadd a b
  unfold own_bd
  rw [e]
  exact ⟨own_ne fa fb, own_bsum fa fb (val64_fits a) (val64_fits b) ha.2.1 ha.2.2 hb.2.1 hb.2.2 (by omega) (by omega)⟩
theorem own_bsub {a b : UInt64} {l1 h1 l2 h2 : Int} (ha : own_bd a l1 h1) (hb : own_bd b l2 h2) (q1 : -9007199254740992 ≤ l1) (q2 : h1 ≤ 9007199254740992) (q3 : -9007199254740992 ≤ l2) (q4 : h2 ≤ 9007199254740992) (s1 : (l1 + -h2).natAbs < 2 ^ 53) (s2 : (h1 + -l2).natAbs < 2 ^ 53) : own_bd (FP.dsub a b) (l1 + -h2) (h1 + -l2) := by
  have fa := own_bfin ha q1 q2
  have fb := own_bfin hb q3 q4
  have e : val64 (FP.dsub a b) = round b64 (exactSum (val64 a) (negate (val64 b))) := val64_dsub a b
  have fb' : ∃ s c q, negate (val64 b) = .fin s c q := by
    obtain ⟨s, c, q, hq⟩ := fb
    exact ⟨!s, c, q, by rw [hq]; rfl⟩
  unfold own_bd
  rw [e]
  refine ⟨own_ne fa fb', own_bsum fa fb' (val64_fits a) (negate_fits (val64_fits b)) ha.2.1 ha.2.2 ?_ ?_ s1 s2⟩
  · rw [zval_negate, Int.neg_mul]; have := hb.2.2; omega
  · rw [zval_negate, Int.neg_mul]; have := hb.2.1; omega
theorem own_10240 : val64 (4666855113862676480 : UInt64) = .fin false 5629499534213120 (-39) := by decide +kernel
theorem own_bmul {a : UInt64} {l1 h1 : Int} (ha : own_bd a l1 h1) (q1 : 0 ≤ l1) (q2 : h1 ≤ 800000000000) (q3 : l1 ≤ h1) : own_bd (FP.dmul a (4666855113862676480 : UInt64)) (l1 * 10240) (h1 * 10240) := by
  obtain ⟨s, c, q, hq⟩ := own_bfin ha (by omega) (by omega)
  have e : val64 (FP.dmul a (4666855113862676480 : UInt64)) = round b64 (exactProduct (val64 a) (val64 (4666855113862676480 : UInt64))) := val64_dmul a _
  rw [own_10240, hq] at e
  have e' : val64 (FP.dmul a (4666855113862676480 : UInt64)) = round b64 (.fin (s != false) (c * 5629499534213120) (q + -39)) := e
  have fq := val64_fits a
  rw [hq] at fq
  have hqm : b64.qmin ≤ q := fq.2.1
  rw [own_q64] at hqm
  obtain ⟨n, l, u⟩ := ha
  rw [hq] at l u
  have hz : zval b64 (.fin s c q) = signed s (inUnits c q b64.qmin) := rfl
  have hs : (s != false) = s := by cases s <;> rfl
  have hu : inUnits (c * 5629499534213120) (q + -39) (b64.qmin - 39) = inUnits c q b64.qmin * 5629499534213120 := by
    unfold inUnits
    rw [show q + -39 - (b64.qmin - 39) = q - b64.qmin by omega, Nat.mul_right_comm]
  have hp : ((2 ^ (b64.qmin - (b64.qmin - 39)).toNat : Nat) : Int) = 549755813888 := by
    rw [show b64.qmin - (b64.qmin - 39) = 39 by omega]; rfl
  rw [hz] at l u
  unfold own_bd
  rw [e', hs]
  refine ⟨roundRatio_ne_nan _ _ _ _ _, ?_, ?_⟩
  · obtain ⟨V, f1, n1, e1⟩ := own_grid (l1 * 10240) (by omega)
    rw [← e1]
    refine zval_round_ge good_b64 f1 n1 (e0 := b64.qmin - 39) (by omega) (by rw [own_q64]; omega) ?_
    rw [hu, signed_mul, hp, e1]
    generalize signed s (inUnits c q b64.qmin) = x at *
    generalize (own_G : Int) = g at *
    rw [show l1 * 10240 * g = l1 * g * 10240 by rw [Int.mul_right_comm]]
    generalize l1 * g = y at *
    show y * 10240 * 549755813888 ≤ x * 5629499534213120
    omega
  · obtain ⟨V, f1, n1, e1⟩ := own_grid (h1 * 10240) (by omega)
    rw [← e1]
    refine zval_round_le good_b64 f1 n1 (e0 := b64.qmin - 39) (by omega) (by rw [own_q64]; omega) ?_
    rw [hu, signed_mul, hp, e1]
    generalize signed s (inUnits c q b64.qmin) = x at *
    generalize (own_G : Int) = g at *
    rw [show h1 * 10240 * g = h1 * g * 10240 by rw [Int.mul_right_comm]]
    generalize h1 * g = y at *
    show x * 5629499534213120 ≤ y * 10240 * 549755813888
    omega
theorem own_bl2d {n : Int64} (h0 : 0 ≤ n.toInt) (h1 : n.toInt ≤ 10240) : own_bd (FP.l2d n) (n.toInt * 549755813888) (n.toInt * 549755813888) := by
  obtain ⟨V, f1, n1, e1⟩ := own_grid (n.toInt * 549755813888) (by omega)
  have ev : val64 (of64 V) = V := val64_of64 f1
  have ho : (one64 : Int) = 549755813888 * (own_G : Int) := by
    have : one64 = 2 ^ 39 * own_G := by unfold one64 own_G; rw [← Nat.pow_add]
    rw [this, Int.natCast_mul]; congr 1
  have hz : zval b64 (val64 (of64 V)) = n.toInt * (one64 : Int) := by rw [ev, e1, ho, Int.mul_assoc]
  have hn : val64 (of64 V) ≠ .nan := by rw [ev]; exact n1
  have a := l2d_zval_ge (n := n) hn (by rw [hz]; exact Int.le_refl _)
  have b := l2d_zval_le (n := n) hn (by rw [hz]; exact Int.le_refl _)
  rw [ev, e1] at a b
  exact ⟨(l2d_fin n).ne_nan, a, b⟩
theorem own_blt {a b : UInt64} {l1 h1 l2 h2 : Int} (ha : own_bd a l1 h1) (hb : own_bd b l2 h2) (h : h1 < l2) : FP.dcmp a b = some .lt := by
  refine dcmp_lt.mpr ⟨ha.1, hb.1, ?_⟩
  have : h1 * (own_G : Int) < l2 * (own_G : Int) := Int.mul_lt_mul_of_pos_right h (by have := own_Gpos; omega)
  have := ha.2.2
  have := hb.2.1
  omega
theorem own_ble {a b : UInt64} {l1 h1 l2 h2 : Int} (ha : own_bd a l1 h1) (hb : own_bd b l2 h2) (h : h1 ≤ l2) : FP.dcmp a b = some .lt ∨ FP.dcmp a b = some .eq := by
  refine dcmp_le.mpr ⟨ha.1, hb.1, ?_⟩
  have : h1 * (own_G : Int) ≤ l2 * (own_G : Int) := Int.mul_le_mul_of_nonneg_right h (Int.natCast_nonneg _)
  have := ha.2.2
  have := hb.2.1
  omega
theorem own_nn {a : UInt64} {lo hi : Int} (h : own_bd a lo hi) : Jvm.Free.Fl.NoNaN64 a := Jvm.Free.Fl.noNaN64_no.mpr ((notNaN_iff a).mpr h.1)
theorem own_b0 : own_bd (0 : UInt64) 0 0 := by
  refine ⟨by decide +kernel, ?_, ?_⟩ <;> rw [zval64_zero] <;> simp
theorem own_b1 : own_bd (4607182418800017408 : UInt64) 549755813888 549755813888 := ⟨by decide +kernel, by decide +kernel, by decide +kernel⟩
theorem own_be : own_bd (4517329193108106637 : UInt64) 549755 549756 := ⟨by decide +kernel, by decide +kernel, by decide +kernel⟩
theorem own_bm : own_bd (13740701229962882445 : UInt64) (-549756) (-549755) := ⟨by decide +kernel, by decide +kernel, by decide +kernel⟩
def own_K (k : Nat) : UInt64 := FP.ddiv (FP.i2d (Int32.ofNat k)) (4652218415073722368 : UInt64)
def own_lo (m k : Nat) : Nat := k * m * 549755813888 / 10240 - 1
def own_hi (m k : Nat) : Nat := k * m * 549755813888 / 10240 + 2
def own_ck (cst : UInt64) (m k : Nat) : Bool := match val64 (FP.dmul cst (own_K k)) with
  | .fin false c q => decide (own_lo m k * own_G ≤ inUnits c q b64.qmin) && decide (inUnits c q b64.qmin ≤ own_hi m k * own_G)
  | _ => false
theorem own_ckd {cst : UInt64} {m k : Nat} (h : own_ck cst m k = true) : own_bd (FP.dmul cst (own_K k)) (own_lo m k) (own_hi m k) := by
  unfold own_ck at h
  unfold own_bd
  split at h
  · rename_i c q hv
    rw [hv]
    rw [Bool.and_eq_true, decide_eq_true_eq, decide_eq_true_eq] at h
    have hz : zval b64 (.fin false c q) = (inUnits c q b64.qmin : Int) := rfl
    refine ⟨Datum.noConfusion, ?_, ?_⟩ <;> rw [hz]
    · exact_mod_cast h.1
    · exact_mod_cast h.2
  · cases h
set_option maxRecDepth 65536 in
theorem own_c5 : ∀ k : Fin 1025, own_ck (4602678819172646912 : UInt64) 5 k.val = true := by decide +kernel
set_option maxRecDepth 65536 in
theorem own_c2 : ∀ k : Fin 1025, own_ck (4596373779694328218 : UInt64) 2 k.val = true := by decide +kernel
set_option maxRecDepth 65536 in
theorem own_c1 : ∀ k : Fin 1025, own_ck (4591870180066957722 : UInt64) 1 k.val = true := by decide +kernel
set_option maxRecDepth 65536 in
theorem own_kn : ∀ k : Fin 1025, own_K k.val &&& 0x7fffffffffffffff ≤ 0x7ff0000000000000 := by decide +kernel
def own_v (a b c d : UInt64) : UInt64 := FP.dadd (FP.dadd (FP.dadd (FP.dmul (4602678819172646912 : UInt64) a) (FP.dmul (4596373779694328218 : UInt64) b)) (FP.dmul (4596373779694328218 : UInt64) c)) (FP.dmul (4591870180066957722 : UInt64) d)
/-- no NaN on value's road -/
def own_vn (a b c d : UInt64) : Prop := Jvm.Free.Fl.NoNaN64 (FP.dmul (4602678819172646912 : UInt64) a) ∧ Jvm.Free.Fl.NoNaN64 (FP.dmul (4596373779694328218 : UInt64) b) ∧ Jvm.Free.Fl.NoNaN64 (FP.dmul (4596373779694328218 : UInt64) c) ∧ Jvm.Free.Fl.NoNaN64 (FP.dmul (4591870180066957722 : UInt64) d)
  ∧ Jvm.Free.Fl.NoNaN64 (FP.dadd (FP.dmul (4602678819172646912 : UInt64) a) (FP.dmul (4596373779694328218 : UInt64) b)) ∧ Jvm.Free.Fl.NoNaN64 (FP.dadd (FP.dadd (FP.dmul (4602678819172646912 : UInt64) a) (FP.dmul (4596373779694328218 : UInt64) b)) (FP.dmul (4596373779694328218 : UInt64) c)) ∧ Jvm.Free.Fl.NoNaN64 (own_v a b c d)
theorem own_main {o d p a : Nat} (ho : o < 1025) (hd : d < 1025) (hp : p < 1025) (ha : a < 1025) {n : Int64} (hn : n.toInt = 5 * (o : Int) + 2 * d + 2 * p + a) :
    own_vn (own_K o) (own_K d) (own_K p) (own_K a) ∧ Jvm.Free.Fl.NoNaN64 (FP.dmul (own_v (own_K o) (own_K d) (own_K p) (own_K a)) (4666855113862676480 : UInt64)) ∧ Jvm.Free.Fl.NoNaN64 (FP.dsub (FP.dmul (own_v (own_K o) (own_K d) (own_K p) (own_K a)) (4666855113862676480 : UInt64)) (FP.l2d n))
    ∧ FP.dcmp (FP.dsub (FP.dmul (own_v (own_K o) (own_K d) (own_K p) (own_K a)) (4666855113862676480 : UInt64)) (FP.l2d n)) (4517329193108106637 : UInt64) = some .lt ∧ FP.dcmp (13740701229962882445 : UInt64) (FP.dsub (FP.dmul (own_v (own_K o) (own_K d) (own_K p) (own_K a)) (4666855113862676480 : UInt64)) (FP.l2d n)) = some .lt
    ∧ (FP.dcmp (0 : UInt64) (own_v (own_K o) (own_K d) (own_K p) (own_K a)) = some .lt ∨ FP.dcmp (0 : UInt64) (own_v (own_K o) (own_K d) (own_K p) (own_K a)) = some .eq) ∧ (FP.dcmp (own_v (own_K o) (own_K d) (own_K p) (own_K a)) (4607182418800017408 : UInt64) = some .lt ∨ FP.dcmp (own_v (own_K o) (own_K d) (own_K p) (own_K a)) (4607182418800017408 : UInt64) = some .eq) := by
  have b1 := own_ckd (own_c5 ⟨o, ho⟩)
  have b2 := own_ckd (own_c2 ⟨d, hd⟩)
  have b3 := own_ckd (own_c2 ⟨p, hp⟩)
  have b4 := own_ckd (own_c1 ⟨a, ha⟩)
  have e1 : own_lo 5 o = o * 5 * 549755813888 / 10240 - 1 ∧ own_hi 5 o = o * 5 * 549755813888 / 10240 + 2 := ⟨rfl, rfl⟩
  have e2 : own_lo 2 d = d * 2 * 549755813888 / 10240 - 1 ∧ own_hi 2 d = d * 2 * 549755813888 / 10240 + 2 := ⟨rfl, rfl⟩
  have e3 : own_lo 2 p = p * 2 * 549755813888 / 10240 - 1 ∧ own_hi 2 p = p * 2 * 549755813888 / 10240 + 2 := ⟨rfl, rfl⟩
  have e4 : own_lo 1 a = a * 1 * 549755813888 / 10240 - 1 ∧ own_hi 1 a = a * 1 * 549755813888 / 10240 + 2 := ⟨rfl, rfl⟩
  dsimp only at b1 b2 b3 b4
  generalize own_lo 5 o = l1 at *
  generalize own_hi 5 o = h1 at *
  generalize own_lo 2 d = l2 at *
  generalize own_hi 2 d = h2 at *
  generalize own_lo 2 p = l3 at *
  generalize own_hi 2 p = h3 at *
  generalize own_lo 1 a = l4 at *
  generalize own_hi 1 a = h4 at *
  have s1 := own_badd b1 b2 (by omega) (by omega) (by omega) (by omega) (by omega) (by omega) (by omega) (by omega)
  have s2 := own_badd s1 b3 (by omega) (by omega) (by omega) (by omega) (by omega) (by omega) (by omega) (by omega)
  have s3 := own_badd s2 b4 (by omega) (by omega) (by omega) (by omega) (by omega) (by omega) (by omega) (by omega)
  have s3' : own_bd (own_v (own_K o) (own_K d) (own_K p) (own_K a)) ((l1 : Int) + l2 + l3 + l4) ((h1 : Int) + h2 + h3 + h4) := s3
  have w := own_bmul s3' (by omega) (by omega) (by omega)
  have nb := own_bl2d (n := n) (by omega) (by omega)
  have g := own_bsub w nb (by omega) (by omega) (by omega) (by omega) (by omega) (by omega)
  refine ⟨⟨own_nn b1, own_nn b2, own_nn b3, own_nn b4, own_nn s1, own_nn s2, own_nn s3⟩, own_nn w, own_nn g, own_blt g own_be (by omega), own_blt own_bm g (by omega), own_ble own_b0 s3' (by omega), ?_⟩
  by_cases hc : 5 * o + 2 * d + 2 * p + a < 10240
  · exact own_ble s3' own_b1 (by omega)
  · have q1 : o = 1024 := by omega
    have q2 : d = 1024 := by omega
    have q3 : p = 1024 := by omega
    have q4 : a = 1024 := by omega
    subst q1 q2 q3 q4
    exact Or.inl (by decide +kernel)
end Fl
theorem own_part (p0 : Int32) : ∃ k : Nat, ((p0 &&& (2147483647 : Int32)) % (1025 : Int32)) = Int32.ofNat k ∧ k < 1025 := by
  have h0 := (c_and p0 (2147483647 : Int32) (by decide))
  have h1 := (c_irem (p0 &&& (2147483647 : Int32)) (1025 : Int32) 1025 (by decide)).1 h0.1
  generalize ((p0 &&& (2147483647 : Int32)) % (1025 : Int32)) = q at h1 ⊢
  refine ⟨q.toInt.toNat, ?_, by omega⟩
  apply Int32.toInt_inj.mp
  rw [Int32.toInt_ofNat_of_lt (by omega)]
  omega
theorem own_sum {o d p a : Nat} (ho : o < 1025) (hd : d < 1025) (hp : p < 1025) (ha : a < 1025) : (((((5 : Int64) * ((Int32.ofNat o).toInt64)) + ((2 : Int64) * ((Int32.ofNat d).toInt64))) + ((2 : Int64) * ((Int32.ofNat p).toInt64))) + ((Int32.ofNat a).toInt64)).toInt = 5 * (o : Int) + 2 * d + 2 * p + a := by
  have e1 : (Int32.ofNat o).toInt64.toInt = o := by rw [c_i2l]; exact Int32.toInt_ofNat_of_lt (by omega)
  have e2 : (Int32.ofNat d).toInt64.toInt = d := by rw [c_i2l]; exact Int32.toInt_ofNat_of_lt (by omega)
  have e3 : (Int32.ofNat p).toInt64.toInt = p := by rw [c_i2l]; exact Int32.toInt_ofNat_of_lt (by omega)
  have e4 : (Int32.ofNat a).toInt64.toInt = a := by rw [c_i2l]; exact Int32.toInt_ofNat_of_lt (by omega)
  have f5 : (5 : Int64).toInt = 5 := rfl
  have f2 : (2 : Int64).toInt = 2 := rfl
  generalize (Int32.ofNat o).toInt64 = x at *
  generalize (Int32.ofNat d).toInt64 = y at *
  generalize (Int32.ofNat p).toInt64 = z at *
  generalize (Int32.ofNat a).toInt64 = u at *
  have m1 := c_lmul 5 x
  have m2 := c_lmul 2 y
  have m3 := c_lmul 2 z
  rw [f5, e1] at m1
  rw [f2, e2] at m2
  rw [f2, e3] at m3
  have r1 := rng64 (5 * x)
  have r2 := rng64 (2 * y)
  have r3 := rng64 (2 * z)
  generalize (5 : Int64) * x = A at *
  generalize (2 : Int64) * y = B at *
  generalize (2 : Int64) * z = D at *
  have a1 := c_ladd A B
  have a2 := c_ladd (A + B) D
  have a3 := c_ladd (A + B + D) u
  have s1 := rng64 (A + B)
  have s2 := rng64 (A + B + D)
  have s3 := rng64 (A + B + D + u)
  omega
theorem d1_0 : decode method_2_code 0 = .ok (.iload_n 0, 1) := by decide +kernel
theorem d1_1 : decode method_2_code 1 = .ok (.ldc 7, 2) := by decide +kernel
theorem d1_3 : decode method_2_code 3 = .ok (.iand, 1) := by decide +kernel
theorem d1_4 : decode method_2_code 4 = .ok (.sipush 1025, 3) := by decide +kernel
theorem d1_7 : decode method_2_code 7 = .ok (.irem, 1) := by decide +kernel
theorem d1_8 : decode method_2_code 8 = .ok (.ireturn, 1) := by decide +kernel
def QPa (h0 : Heap) (n0 : Nat) (v : Option Value) (h : Heap) (L : List Loc) : Prop := ∃ k : Nat, v = some (.int (Int32.ofNat k)) ∧ k < 1025 ∧ Fr n0 L ∧ h = h0
theorem own_pn_rmPa : plainName "com/example/place_scope_search/placescopesearch/ranking/PartsValuePinLaw" = true := by first | (simp [plainName, overriddenIn]; done) | decide +kernel
theorem own_ef_rmPa (m : MethodId) (p0 : Int32) : entryFrame m #[(.int p0)] 1 = (mkF m 0 #[.val (.int p0)] []) := by first | (simp [entryFrame, mkF, argsToLocals, Value.category]; done) | rfl
set_option maxRecDepth 65536 in
set_option maxHeartbeats 40000000 in
theorem rmPa (l : Launch) (Z : State) (a0 : Array Value) (hw : ∀ d ∈ tables_1, d.before a0 Z = true) (ws : List Jvm.Cond) (p0 : Int32) (h0 : Heap) (n0 : Nat) (Z0 : n0 ≤ h0.size) :
    MetFree l (⟨"com/example/place_scope_search/placescopesearch/ranking/PartsValuePinLaw", "part", "(I)I"⟩ : MethodName) (head1 (Jvm.Cond.code (⟨"com/example/place_scope_search/placescopesearch/ranking/PartsValuePinLaw", "part", "(I)I"⟩ : MethodName) method_2_code 1 (some .int) :: ws) ({ frames := 0, cells := 0, slots := 0, locals := 0 } : Room)) (fun a U => a = #[(.int p0)] ∧ Z.Warmed39 U.vm ∧ U.heap = h0) (fun _ _ _ _ _ => True) (fun _ U o U' => ∃ v L, o = .returned v ∧ QPa h0 n0 v U'.heap L ∧ FrameEnd U o U' L ({ frames := 0, cells := 0, slots := 0, locals := 0 } : Room).cells ({ frames := 0, cells := 0, slots := 0, locals := 0 } : Room).slots) := by
  refine MetFree.of_bodySF (plainFor_of_name own_pn_rmPa) hisR ?_
  intro p e s m args below meth c s₁ Bd hml0 hP hK
  obtain ⟨hargs, hZ, hh⟩ := hP
  have hx := Bd.exec
  have hby := Bd.bytes
  have hml : c.maxLocals = 1 := hml0
  have hown : s.vm.findClass "com/example/place_scope_search/placescopesearch/ranking/PartsValuePinLaw" = some m.cls := findClass_of_methodNamed Bd.named
  have hnm := (name_of_methodNamed Bd.named Bd.method).1
  have hlock : meth.locks = false := Bd.notSynchronized
  have hret0 := Bd.returns
  have X0 : Stand p l e ({ frames := 0, cells := 0, slots := 0, locals := 0 } : Room) s m args below meth c s₁ [] 0 0 := Stand.of_body Bd
  have e0 : s₁.heap = h0 := by rw [← hh, Bd.state]; rfl
  have N0 := Fr.nil n0
  have pre0 : ∀ t, Steps p.tables e below (s₁.setTop (mkF m 0 #[.val (.int p0)] [])) t → Steps p.tables e below (s₁.setTop (entryFrame m args 1)) t := fun t k => castTop (by rw [hargs]; exact own_ef_rmPa m p0) k
  clear Bd
  obtain ⟨k, ek, hk⟩ := own_part p0
  obtain ⟨fs, hr, hrun, hended, hW, hsame⟩ := X0.leave (v := some (.int ((p0 &&& (2147483647 : Int32)) % (1025 : Int32)))) (fun h => by rw [hret0] at h; cases h)
  refine ⟨_, _, pre0 _ ?_, hrun, hended, _, _, rfl, ?_, ⟨_, rfl⟩, hW, hsame.mono (by decide) (by decide)⟩
  · show Steps p.tables e below (s₁.setTop (mkF m 0 #[.val (.int p0)] [])) _
    refine XS.iloadN X0.here hx rfl (hb hby d1_0) rfl ?_
    show Steps p.tables e below (s₁.setTop (mkF m 1 #[.val (.int p0)] [(.int p0)])) _
    refine X0.ldcInt hx hown (mvT hZ (hw _ (List.mem_of_getElem? (i := 4) rfl))) (g := (mkF m 1 #[.val (.int p0)] [(.int p0)])) rfl (hb hby d1_1) _ ?_
    show Steps p.tables e below (s₁.setTop (mkF m 3 #[.val (.int p0)] [(.int (2147483647 : Int32)), (.int p0)])) _
    refine XS.iand X0.here hx rfl (hb hby d1_3) rfl ?_
    show Steps p.tables e below (s₁.setTop (mkF m 4 #[.val (.int p0)] [(.int (p0 &&& (2147483647 : Int32)))])) _
    refine XS.sipush X0.here hx rfl (hb hby d1_4) ?_
    show Steps p.tables e below (s₁.setTop (mkF m 7 #[.val (.int p0)] [(.int (1025 : Int32)), (.int (p0 &&& (2147483647 : Int32)))])) _
    refine Jvm.RoadKit.iremM (g := (mkF m 7 #[.val (.int p0)] [(.int (1025 : Int32)), (.int (p0 &&& (2147483647 : Int32)))])) X0 hx rfl (hb hby d1_7) rfl (by decide) ?_
    show Steps p.tables e below (s₁.setTop (mkF m 8 #[.val (.int p0)] [(.int ((p0 &&& (2147483647 : Int32)) % (1025 : Int32)))])) _
    exact retI X0 hx hret0 (hb hby d1_8) hr
  · show QPa h0 n0 _ s₁.heap _
    rw [e0]
    exact ⟨k, by rw [ek], hk, N0, rfl⟩
theorem d3_0 : decode jdk_30_method_1_code 0 = .ok (.aload_n 0, 1) := by decide +kernel
theorem d3_1 : decode jdk_30_method_1_code 1 = .ok (.invokespecial 1, 3) := by decide +kernel
theorem d3_4 : decode jdk_30_method_1_code 4 = .ok (.return_, 1) := by decide +kernel
def QrmRc (h0 : Heap) (n0 : Nat) (v : Option Value) (h : Heap) (L : List Loc) : Prop := v = none ∧ Fr n0 L ∧ h = h0
theorem own_pn_rmRc : plainName "java/lang/Record" = true := by first | (simp [plainName, overriddenIn]; done) | decide +kernel
theorem own_ef_rmRc (m : MethodId) (a1 : Addr) : entryFrame m #[(.ref a1)] 1 = (mkF m 0 #[.val (.ref a1)] []) := by first | (simp [entryFrame, mkF, argsToLocals, Value.category]; done) | rfl
set_option maxRecDepth 65536 in
set_option maxHeartbeats 40000000 in
theorem rmRc (l : Launch) (Z : State) (a0 : Array Value) (hw : ∀ d ∈ tables_1, d.before a0 Z = true) (ws : List Jvm.Cond) (a1 : Addr) (h0 : Heap) (n0 : Nat) (Z0 : n0 ≤ h0.size) :
    MetFree l (⟨"java/lang/Record", "<init>", "()V"⟩ : MethodName) (head1 (Jvm.Cond.code (⟨"java/lang/Record", "<init>", "()V"⟩ : MethodName) jdk_30_method_1_code 1 none :: ws) ({ frames := 1, cells := 0, slots := 0, locals := 12 } : Room)) (fun a U => a = #[(.ref a1)] ∧ Z.Warmed39 U.vm ∧ U.heap = h0) (fun _ _ _ _ _ => True) (fun _ U o U' => ∃ v L, o = .returned v ∧ QrmRc h0 n0 v U'.heap L ∧ FrameEnd U o U' L ({ frames := 1, cells := 0, slots := 0, locals := 12 } : Room).cells ({ frames := 1, cells := 0, slots := 0, locals := 12 } : Room).slots) := by
  refine MetFree.of_bodySF (plainFor_of_name own_pn_rmRc) hisR ?_
  intro p e s m args below meth c s₁ Bd hml0 hP hK
  obtain ⟨hargs, hZ, hh⟩ := hP
  have hx := Bd.exec
  have hby := Bd.bytes
  have hml : c.maxLocals = 1 := hml0
  have hown : s.vm.findClass "java/lang/Record" = some m.cls := findClass_of_methodNamed Bd.named
  have hnm := (name_of_methodNamed Bd.named Bd.method).1
  have hlock : meth.locks = false := Bd.notSynchronized
  have hret0 := Bd.returns
  have X0 : Stand p l e ({ frames := 1, cells := 0, slots := 0, locals := 12 } : Room) s m args below meth c s₁ [] 0 0 := Stand.of_body Bd
  have e0 : s₁.heap = h0 := by rw [← hh, Bd.state]; rfl
  have N0 := Fr.nil n0
  have pre0 : ∀ t, Steps p.tables e below (s₁.setTop (mkF m 0 #[.val (.ref a1)] [])) t → Steps p.tables e below (s₁.setTop (entryFrame m args 1)) t := fun t k => castTop (by rw [hargs]; exact own_ef_rmRc m a1) k
  clear Bd
  obtain ⟨T1, X1, e1, st1⟩ := initO X0 hx hZ hown (hw _ (List.mem_of_getElem? (i := 17) rfl)) (hw _ (List.mem_of_getElem? (i := 18) rfl)) (hw _ (List.mem_of_getElem? (i := 19) rfl)) e0 (g := (mkF m 1 #[.val (.ref a1)] [(.ref a1)])) rfl (by rw [hml]; rfl) rfl (hb hby d3_1) (by decide) (W := 0) (by show 2 * 0 + _ ≤ _; exact Nat.le_of_eq rfl) (by decide)
  obtain ⟨fs, hr, hrun, hended, hW, hsame⟩ := X1.leave (v := none) (fun _ => rfl)
  refine ⟨_, _, pre0 _ ?_, hrun, hended, _, _, rfl, ?_, ⟨_, rfl⟩, hW, hsame.mono (by decide) (by decide)⟩
  · show Steps p.tables e below (s₁.setTop (mkF m 0 #[.val (.ref a1)] [])) _
    refine XS.aloadN X0.here hx rfl (hb hby d3_0) rfl rfl ?_
    show Steps p.tables e below (s₁.setTop (mkF m 1 #[.val (.ref a1)] [(.ref a1)])) _
    refine st1 _ ?_
    show Steps p.tables e below (T1.setTop (mkF m 4 #[.val (.ref a1)] [])) _
    exact X1.returnOut hx hret0 (hb hby d3_4) hr
  · show QrmRc h0 n0 _ T1.heap _
    rw [e1]
    exact ⟨rfl, N0, rfl⟩
def Ps (Z : State) (h : Heap) (a : Addr) (x1 : Value) (x2 : Value) (x3 : Value) (x4 : Value) : Prop := Exa Z h a "com/example/place_scope_search/placescopesearch/ranking/GeoSimilarity$Parts" ∧ Fld Z h a "com/example/place_scope_search/placescopesearch/ranking/GeoSimilarity$Parts" "ontological" "D" x1 ∧ Fld Z h a "com/example/place_scope_search/placescopesearch/ranking/GeoSimilarity$Parts" "distance" "D" x2 ∧ Fld Z h a "com/example/place_scope_search/placescopesearch/ranking/GeoSimilarity$Parts" "population" "D" x3 ∧ Fld Z h a "com/example/place_scope_search/placescopesearch/ranking/GeoSimilarity$Parts" "adjacency" "D" x4
theorem d2_0 : decode prog_83_method_1_code 0 = .ok (.aload_n 0, 1) := by decide +kernel
theorem d2_1 : decode prog_83_method_1_code 1 = .ok (.invokespecial 3, 3) := by decide +kernel
theorem d2_4 : decode prog_83_method_1_code 4 = .ok (.aload_n 0, 1) := by decide +kernel
theorem d2_5 : decode prog_83_method_1_code 5 = .ok (.dload_n 1, 1) := by decide +kernel
theorem d2_6 : decode prog_83_method_1_code 6 = .ok (.putfield 9, 3) := by decide +kernel
theorem d2_9 : decode prog_83_method_1_code 9 = .ok (.aload_n 0, 1) := by decide +kernel
theorem d2_10 : decode prog_83_method_1_code 10 = .ok (.dload_n 3, 1) := by decide +kernel
theorem d2_11 : decode prog_83_method_1_code 11 = .ok (.putfield 15, 3) := by decide +kernel
theorem d2_14 : decode prog_83_method_1_code 14 = .ok (.aload_n 0, 1) := by decide +kernel
theorem d2_15 : decode prog_83_method_1_code 15 = .ok (.dload 5, 2) := by decide +kernel
theorem d2_17 : decode prog_83_method_1_code 17 = .ok (.putfield 18, 3) := by decide +kernel
theorem d2_20 : decode prog_83_method_1_code 20 = .ok (.aload_n 0, 1) := by decide +kernel
theorem d2_21 : decode prog_83_method_1_code 21 = .ok (.dload 7, 2) := by decide +kernel
theorem d2_23 : decode prog_83_method_1_code 23 = .ok (.putfield 21, 3) := by decide +kernel
theorem d2_26 : decode prog_83_method_1_code 26 = .ok (.return_, 1) := by decide +kernel
def QrmI (Z : State) (a1 : Addr) (p0 : UInt64) (p1 : UInt64) (p2 : UInt64) (p3 : UInt64) (h0 : Heap) (n0 : Nat) (v : Option Value) (h : Heap) (L : List Loc) : Prop := v = none ∧ Fr n0 L ∧ Keep h0 h [a1] ∧ Ps Z h a1 (.double p0) (.double p1) (.double p2) (.double p3)
theorem own_pn_rmI : plainName "com/example/place_scope_search/placescopesearch/ranking/GeoSimilarity$Parts" = true := by first | (simp [plainName, overriddenIn]; done) | decide +kernel
theorem own_ef_rmI (m : MethodId) (a1 : Addr) (p0 : UInt64) (p1 : UInt64) (p2 : UInt64) (p3 : UInt64) : entryFrame m #[(.ref a1), (.double p0), (.double p1), (.double p2), (.double p3)] 9 = (mkF m 0 #[.val (.ref a1), .val (.double p0), .second, .val (.double p1), .second, .val (.double p2), .second, .val (.double p3), .second] []) := by first | (simp [entryFrame, mkF, argsToLocals, Value.category]; done) | rfl
set_option maxRecDepth 65536 in
set_option maxHeartbeats 40000000 in
theorem rmI (l : Launch) (Z : State) (a0 : Array Value) (hw : ∀ d ∈ tables_1, d.before a0 Z = true) (ws : List Jvm.Cond) (a1 : Addr) (p0 : UInt64) (p1 : UInt64) (p2 : UInt64) (p3 : UInt64) (u0 : Value) (u1 : Value) (u2 : Value) (u3 : Value) (h0 : Heap) (n0 : Nat) (Z0 : n0 ≤ h0.size) (ge1 : n0 ≤ a1) (F : Ps Z h0 a1 u0 u1 u2 u3) :
    MetFree l (⟨"com/example/place_scope_search/placescopesearch/ranking/GeoSimilarity$Parts", "<init>", "(DDDD)V"⟩ : MethodName) (head1 (Jvm.Cond.code (⟨"com/example/place_scope_search/placescopesearch/ranking/GeoSimilarity$Parts", "<init>", "(DDDD)V"⟩ : MethodName) prog_83_method_1_code 9 none :: ws) ({ frames := 2, cells := 0, slots := 0, locals := 24 } : Room)) (fun a U => a = #[(.ref a1), (.double p0), (.double p1), (.double p2), (.double p3)] ∧ Z.Warmed39 U.vm ∧ U.heap = h0) (fun _ _ _ _ _ => True) (fun _ U o U' => ∃ v L, o = .returned v ∧ QrmI Z a1 p0 p1 p2 p3 h0 n0 v U'.heap L ∧ FrameEnd U o U' L ({ frames := 2, cells := 0, slots := 0, locals := 24 } : Room).cells ({ frames := 2, cells := 0, slots := 0, locals := 24 } : Room).slots) := by
  refine MetFree.of_bodySF (plainFor_of_name own_pn_rmI) hisR ?_
  intro p e s m args below meth c s₁ Bd hml0 hP hK
  obtain ⟨hargs, hZ, hh⟩ := hP
  have hx := Bd.exec
  have hby := Bd.bytes
  have hml : c.maxLocals = 9 := hml0
  have hown : s.vm.findClass "com/example/place_scope_search/placescopesearch/ranking/GeoSimilarity$Parts" = some m.cls := findClass_of_methodNamed Bd.named
  have hnm := (name_of_methodNamed Bd.named Bd.method).1
  have hlock : meth.locks = false := Bd.notSynchronized
  have hret0 := Bd.returns
  have X0 : Stand p l e ({ frames := 2, cells := 0, slots := 0, locals := 24 } : Room) s m args below meth c s₁ [] 0 0 := Stand.of_body Bd
  have e0 : s₁.heap = h0 := by rw [← hh, Bd.state]; rfl
  have N0 := Fr.nil n0
  have pre0 : ∀ t, Steps p.tables e below (s₁.setTop (mkF m 0 #[.val (.ref a1), .val (.double p0), .second, .val (.double p1), .second, .val (.double p2), .second, .val (.double p3), .second] [])) t → Steps p.tables e below (s₁.setTop (entryFrame m args 9)) t := fun t k => castTop (by rw [hargs]; exact own_ef_rmI m a1 p0 p1 p2 p3) k
  clear Bd
  obtain ⟨Ex, F0, F1, F2, F3⟩ := F
  obtain ⟨v2, vmx2, ⟨T2, L2, k2, n2⟩, -, X2, ⟨Lc2, hQ2, l2, y2, z2⟩, st2⟩ := X0.specialBack hx (y := (⟨"java/lang/Record", "<init>", "()V"⟩ : MethodName)) rfl hown (mvT hZ (hw _ (List.mem_of_getElem? (i := 12) rfl))) (mvT hZ (hw _ (List.mem_of_getElem? (i := 13) rfl))) (mvT hZ (hw _ (List.mem_of_getElem? (i := 16) rfl))) (by decide) (backOf (W := 0) (rmRc l Z a0 hw [] a1 h0 n0 Z0) hZ (hw _ (List.mem_of_getElem? (i := 16) rfl)) (hw _ (List.mem_of_getElem? (i := 15) rfl)) (by decide) (by decide)) (g := (mkF m 1 #[.val (.ref a1), .val (.double p0), .second, .val (.double p1), .second, .val (.double p2), .second, .val (.double p3), .second] [(.ref a1)])) rfl (by rw [hml]; rfl) (Steps.refl _) (a := a1) (argsL := []) (rest := []) (lenOf own_pd0 rfl) rfl (by show 2 * 0 + _ ≤ _; exact Nat.le_of_eq rfl) (hb hby d2_1) (fun _ _ => ⟨rfl, e0, (by decide : 0 + 0 ≤ _), (by decide : 0 + 0 ≤ _)⟩)
  dsimp only [Pt.U, Pt.locs, Pt.cells, Pt.slots] at X2 l2 y2 z2 st2 hQ2
  subst l2 y2 z2
  obtain ⟨rfl, Nq2, eh2⟩ := hQ2
  have N2 := Fr.app N0 Nq2
  obtain ⟨T3, h3, X3, e3, W3, st3⟩ := putF X2 hx hZ hown (host := "") (Or.inl (hw _ (List.mem_of_getElem? (i := 20) rfl))) Via.refl eh2 F0 Ex (Or.inr ⟨(hw _ (List.mem_of_getElem? (i := 21) rfl)), rfl, hnm⟩) (hw _ (List.mem_of_getElem? (i := 6) rfl)) (ty := .double) (by decide) rfl rfl (g := (mkF m 6 #[.val (.ref a1), .val (.double p0), .second, .val (.double p1), .second, .val (.double p2), .second, .val (.double p3), .second] [(.double p0), (.ref a1)])) rfl rfl (hb hby d2_6)
  have Z4 : n0 ≤ h3.size := Nat.le_trans Z0 (Keep.of_wr W3).1
  have K5 : Keep h0 h3 [a1] := (Keep.refl h0 [a1]).wr W3 (Or.inl (List.mem_of_getElem? (i := 0) rfl))
  have N3 := Fr.snoc X3 N2 ge1
  have f6 := F0.same W3
  have f7 := (F1.other W3 (Or.inr (slot_ne (Or.inr (hw _ (List.mem_of_getElem? (i := 23) rfl))) (Or.inr (hw _ (List.mem_of_getElem? (i := 21) rfl))) (by decide) (t := .double) (t' := .double) (by decide) (by decide))))
  have f8 := (Ex.wr W3)
  obtain ⟨T9, h9, X9, e9, W9, st9⟩ := putF X3 hx hZ hown (host := "") (Or.inl (hw _ (List.mem_of_getElem? (i := 22) rfl))) Via.refl e3 f7 f8 (Or.inr ⟨(hw _ (List.mem_of_getElem? (i := 23) rfl)), rfl, hnm⟩) (hw _ (List.mem_of_getElem? (i := 6) rfl)) (ty := .double) (by decide) rfl rfl (g := (mkF m 11 #[.val (.ref a1), .val (.double p0), .second, .val (.double p1), .second, .val (.double p2), .second, .val (.double p3), .second] [(.double p1), (.ref a1)])) rfl rfl (hb hby d2_11)
  have Z10 : n0 ≤ h9.size := Nat.le_trans Z4 (Keep.of_wr W9).1
  have K11 : Keep h0 h9 [a1] := K5.wr W9 (Or.inl (List.mem_of_getElem? (i := 0) rfl))
  have N9 := Fr.snoc X9 N3 ge1
  have f12 := f7.same W9
  have f13 := ((F2.other W3 (Or.inr (slot_ne (Or.inr (hw _ (List.mem_of_getElem? (i := 25) rfl))) (Or.inr (hw _ (List.mem_of_getElem? (i := 21) rfl))) (by decide) (t := .double) (t' := .double) (by decide) (by decide)))).other W9 (Or.inr (slot_ne (Or.inr (hw _ (List.mem_of_getElem? (i := 25) rfl))) (Or.inr (hw _ (List.mem_of_getElem? (i := 23) rfl))) (by decide) (t := .double) (t' := .double) (by decide) (by decide))))
  have f14 := (f8.wr W9)
  obtain ⟨T15, h15, X15, e15, W15, st15⟩ := putF X9 hx hZ hown (host := "") (Or.inl (hw _ (List.mem_of_getElem? (i := 24) rfl))) Via.refl e9 f13 f14 (Or.inr ⟨(hw _ (List.mem_of_getElem? (i := 25) rfl)), rfl, hnm⟩) (hw _ (List.mem_of_getElem? (i := 6) rfl)) (ty := .double) (by decide) rfl rfl (g := (mkF m 17 #[.val (.ref a1), .val (.double p0), .second, .val (.double p1), .second, .val (.double p2), .second, .val (.double p3), .second] [(.double p2), (.ref a1)])) rfl rfl (hb hby d2_17)
  have Z16 : n0 ≤ h15.size := Nat.le_trans Z10 (Keep.of_wr W15).1
  have K17 : Keep h0 h15 [a1] := K11.wr W15 (Or.inl (List.mem_of_getElem? (i := 0) rfl))
  have N15 := Fr.snoc X15 N9 ge1
  have f18 := f13.same W15
  have f19 := (((F3.other W3 (Or.inr (slot_ne (Or.inr (hw _ (List.mem_of_getElem? (i := 27) rfl))) (Or.inr (hw _ (List.mem_of_getElem? (i := 21) rfl))) (by decide) (t := .double) (t' := .double) (by decide) (by decide)))).other W9 (Or.inr (slot_ne (Or.inr (hw _ (List.mem_of_getElem? (i := 27) rfl))) (Or.inr (hw _ (List.mem_of_getElem? (i := 23) rfl))) (by decide) (t := .double) (t' := .double) (by decide) (by decide)))).other W15 (Or.inr (slot_ne (Or.inr (hw _ (List.mem_of_getElem? (i := 27) rfl))) (Or.inr (hw _ (List.mem_of_getElem? (i := 25) rfl))) (by decide) (t := .double) (t' := .double) (by decide) (by decide))))
  have f20 := (f14.wr W15)
  obtain ⟨T21, h21, X21, e21, W21, st21⟩ := putF X15 hx hZ hown (host := "") (Or.inl (hw _ (List.mem_of_getElem? (i := 26) rfl))) Via.refl e15 f19 f20 (Or.inr ⟨(hw _ (List.mem_of_getElem? (i := 27) rfl)), rfl, hnm⟩) (hw _ (List.mem_of_getElem? (i := 6) rfl)) (ty := .double) (by decide) rfl rfl (g := (mkF m 23 #[.val (.ref a1), .val (.double p0), .second, .val (.double p1), .second, .val (.double p2), .second, .val (.double p3), .second] [(.double p3), (.ref a1)])) rfl rfl (hb hby d2_23)
  have Z22 : n0 ≤ h21.size := Nat.le_trans Z16 (Keep.of_wr W21).1
  have K23 : Keep h0 h21 [a1] := K17.wr W21 (Or.inl (List.mem_of_getElem? (i := 0) rfl))
  have N21 := Fr.snoc X21 N15 ge1
  have f24 := f19.same W21
  have f25 := (f20.wr W21)
  have f26 := (((f6.other W9 (Or.inr (slot_ne (Or.inr (hw _ (List.mem_of_getElem? (i := 21) rfl))) (Or.inr (hw _ (List.mem_of_getElem? (i := 23) rfl))) (by decide) (t := .double) (t' := .double) (by decide) (by decide)))).other W15 (Or.inr (slot_ne (Or.inr (hw _ (List.mem_of_getElem? (i := 21) rfl))) (Or.inr (hw _ (List.mem_of_getElem? (i := 25) rfl))) (by decide) (t := .double) (t' := .double) (by decide) (by decide)))).other W21 (Or.inr (slot_ne (Or.inr (hw _ (List.mem_of_getElem? (i := 21) rfl))) (Or.inr (hw _ (List.mem_of_getElem? (i := 27) rfl))) (by decide) (t := .double) (t' := .double) (by decide) (by decide))))
  have f27 := ((f12.other W15 (Or.inr (slot_ne (Or.inr (hw _ (List.mem_of_getElem? (i := 23) rfl))) (Or.inr (hw _ (List.mem_of_getElem? (i := 25) rfl))) (by decide) (t := .double) (t' := .double) (by decide) (by decide)))).other W21 (Or.inr (slot_ne (Or.inr (hw _ (List.mem_of_getElem? (i := 23) rfl))) (Or.inr (hw _ (List.mem_of_getElem? (i := 27) rfl))) (by decide) (t := .double) (t' := .double) (by decide) (by decide))))
  have f28 := (f18.other W21 (Or.inr (slot_ne (Or.inr (hw _ (List.mem_of_getElem? (i := 25) rfl))) (Or.inr (hw _ (List.mem_of_getElem? (i := 27) rfl))) (by decide) (t := .double) (t' := .double) (by decide) (by decide))))
  obtain ⟨fs, hr, hrun, hended, hW, hsame⟩ := X21.leave (v := none) (fun _ => rfl)
  refine ⟨_, _, pre0 _ ?_, hrun, hended, _, _, rfl, ?_, ⟨_, rfl⟩, hW, hsame.mono (by decide) (by decide)⟩
  · show Steps p.tables e below (s₁.setTop (mkF m 0 #[.val (.ref a1), .val (.double p0), .second, .val (.double p1), .second, .val (.double p2), .second, .val (.double p3), .second] [])) _
    refine XS.aloadN X0.here hx rfl (hb hby d2_0) rfl rfl ?_
    show Steps p.tables e below (s₁.setTop (mkF m 1 #[.val (.ref a1), .val (.double p0), .second, .val (.double p1), .second, .val (.double p2), .second, .val (.double p3), .second] [(.ref a1)])) _
    refine st2.trans ?_
    show Steps p.tables e below (T2.setTop (mkF m 4 #[.val (.ref a1), .val (.double p0), .second, .val (.double p1), .second, .val (.double p2), .second, .val (.double p3), .second] [])) _
    refine XS.aloadN X2.here hx rfl (hb hby d2_4) rfl rfl ?_
    show Steps p.tables e below (T2.setTop (mkF m 5 #[.val (.ref a1), .val (.double p0), .second, .val (.double p1), .second, .val (.double p2), .second, .val (.double p3), .second] [(.ref a1)])) _
    refine XS.dloadN X2.here hx rfl (hb hby d2_5) rfl ?_
    show Steps p.tables e below (T2.setTop (mkF m 6 #[.val (.ref a1), .val (.double p0), .second, .val (.double p1), .second, .val (.double p2), .second, .val (.double p3), .second] [(.double p0), (.ref a1)])) _
    refine st3 _ ?_
    show Steps p.tables e below (T3.setTop (mkF m 9 #[.val (.ref a1), .val (.double p0), .second, .val (.double p1), .second, .val (.double p2), .second, .val (.double p3), .second] [])) _
    refine XS.aloadN X3.here hx rfl (hb hby d2_9) rfl rfl ?_
    show Steps p.tables e below (T3.setTop (mkF m 10 #[.val (.ref a1), .val (.double p0), .second, .val (.double p1), .second, .val (.double p2), .second, .val (.double p3), .second] [(.ref a1)])) _
    refine XS.dloadN X3.here hx rfl (hb hby d2_10) rfl ?_
    show Steps p.tables e below (T3.setTop (mkF m 11 #[.val (.ref a1), .val (.double p0), .second, .val (.double p1), .second, .val (.double p2), .second, .val (.double p3), .second] [(.double p1), (.ref a1)])) _
    refine st9 _ ?_
    show Steps p.tables e below (T9.setTop (mkF m 14 #[.val (.ref a1), .val (.double p0), .second, .val (.double p1), .second, .val (.double p2), .second, .val (.double p3), .second] [])) _
    refine XS.aloadN X9.here hx rfl (hb hby d2_14) rfl rfl ?_
    show Steps p.tables e below (T9.setTop (mkF m 15 #[.val (.ref a1), .val (.double p0), .second, .val (.double p1), .second, .val (.double p2), .second, .val (.double p3), .second] [(.ref a1)])) _
    refine XS.dload X9.here hx rfl (hb hby d2_15) rfl ?_
    show Steps p.tables e below (T9.setTop (mkF m 17 #[.val (.ref a1), .val (.double p0), .second, .val (.double p1), .second, .val (.double p2), .second, .val (.double p3), .second] [(.double p2), (.ref a1)])) _
    refine st15 _ ?_
    show Steps p.tables e below (T15.setTop (mkF m 20 #[.val (.ref a1), .val (.double p0), .second, .val (.double p1), .second, .val (.double p2), .second, .val (.double p3), .second] [])) _
    refine XS.aloadN X15.here hx rfl (hb hby d2_20) rfl rfl ?_
    show Steps p.tables e below (T15.setTop (mkF m 21 #[.val (.ref a1), .val (.double p0), .second, .val (.double p1), .second, .val (.double p2), .second, .val (.double p3), .second] [(.ref a1)])) _
    refine XS.dload X15.here hx rfl (hb hby d2_21) rfl ?_
    show Steps p.tables e below (T15.setTop (mkF m 23 #[.val (.ref a1), .val (.double p0), .second, .val (.double p1), .second, .val (.double p2), .second, .val (.double p3), .second] [(.double p3), (.ref a1)])) _
    refine st21 _ ?_
    show Steps p.tables e below (T21.setTop (mkF m 26 #[.val (.ref a1), .val (.double p0), .second, .val (.double p1), .second, .val (.double p2), .second, .val (.double p3), .second] [])) _
    exact X21.returnOut hx hret0 (hb hby d2_26) hr
  · show QrmI Z a1 p0 p1 p2 p3 h0 n0 _ T21.heap _
    rw [e21]
    exact ⟨rfl, N21, K23, f25, f26, f27, f28, f24⟩
theorem d5_0 : decode prog_83_method_2_code 0 = .ok (.ldc2_w 24, 3) := by decide +kernel
theorem d5_3 : decode prog_83_method_2_code 3 = .ok (.aload_n 0, 1) := by decide +kernel
theorem d5_4 : decode prog_83_method_2_code 4 = .ok (.getfield 9, 3) := by decide +kernel
theorem d5_7 : decode prog_83_method_2_code 7 = .ok (.dmul, 1) := by decide +kernel
theorem d5_8 : decode prog_83_method_2_code 8 = .ok (.ldc2_w 26, 3) := by decide +kernel
theorem d5_11 : decode prog_83_method_2_code 11 = .ok (.aload_n 0, 1) := by decide +kernel
theorem d5_12 : decode prog_83_method_2_code 12 = .ok (.getfield 15, 3) := by decide +kernel
theorem d5_15 : decode prog_83_method_2_code 15 = .ok (.dmul, 1) := by decide +kernel
theorem d5_16 : decode prog_83_method_2_code 16 = .ok (.dadd, 1) := by decide +kernel
theorem d5_17 : decode prog_83_method_2_code 17 = .ok (.ldc2_w 26, 3) := by decide +kernel
theorem d5_20 : decode prog_83_method_2_code 20 = .ok (.aload_n 0, 1) := by decide +kernel
theorem d5_21 : decode prog_83_method_2_code 21 = .ok (.getfield 18, 3) := by decide +kernel
theorem d5_24 : decode prog_83_method_2_code 24 = .ok (.dmul, 1) := by decide +kernel
theorem d5_25 : decode prog_83_method_2_code 25 = .ok (.dadd, 1) := by decide +kernel
theorem d5_26 : decode prog_83_method_2_code 26 = .ok (.ldc2_w 28, 3) := by decide +kernel
theorem d5_29 : decode prog_83_method_2_code 29 = .ok (.aload_n 0, 1) := by decide +kernel
theorem d5_30 : decode prog_83_method_2_code 30 = .ok (.getfield 21, 3) := by decide +kernel
theorem d5_33 : decode prog_83_method_2_code 33 = .ok (.dmul, 1) := by decide +kernel
theorem d5_34 : decode prog_83_method_2_code 34 = .ok (.dadd, 1) := by decide +kernel
theorem d5_35 : decode prog_83_method_2_code 35 = .ok (.dreturn, 1) := by decide +kernel
def QVa (a b c d : UInt64) (h0 : Heap) (n0 : Nat) (v : Option Value) (h : Heap) (L : List Loc) : Prop := v = some (.double (own_v a b c d)) ∧ Fr n0 L ∧ h = h0
theorem own_pn_rmVa : plainName "com/example/place_scope_search/placescopesearch/ranking/GeoSimilarity$Parts" = true := by first | (simp [plainName, overriddenIn]; done) | decide +kernel
theorem own_ef_rmVa (m : MethodId) (a1 : Addr) : entryFrame m #[(.ref a1)] 1 = (mkF m 0 #[.val (.ref a1)] []) := by first | (simp [entryFrame, mkF, argsToLocals, Value.category]; done) | rfl
set_option maxRecDepth 65536 in
set_option maxHeartbeats 40000000 in
theorem rmVa (l : Launch) (Z : State) (a0 : Array Value) (hw : ∀ d ∈ tables_1, d.before a0 Z = true) (ws : List Jvm.Cond) (a1 : Addr) (ua : UInt64) (ub : UInt64) (uc : UInt64) (ud : UInt64) (h0 : Heap) (n0 : Nat) (Z0 : n0 ≤ h0.size) (F : Ps Z h0 a1 (.double ua) (.double ub) (.double uc) (.double ud)) (vn : own_vn ua ub uc ud) :
    MetFree l (⟨"com/example/place_scope_search/placescopesearch/ranking/GeoSimilarity$Parts", "value", "()D"⟩ : MethodName) (head1 (Jvm.Cond.code (⟨"com/example/place_scope_search/placescopesearch/ranking/GeoSimilarity$Parts", "value", "()D"⟩ : MethodName) prog_83_method_2_code 1 (some .double) :: ws) ({ frames := 0, cells := 0, slots := 0, locals := 0 } : Room)) (fun a U => a = #[(.ref a1)] ∧ Z.Warmed39 U.vm ∧ U.heap = h0) (fun _ _ _ _ _ => True) (fun _ U o U' => ∃ v L, o = .returned v ∧ QVa ua ub uc ud h0 n0 v U'.heap L ∧ FrameEnd U o U' L ({ frames := 0, cells := 0, slots := 0, locals := 0 } : Room).cells ({ frames := 0, cells := 0, slots := 0, locals := 0 } : Room).slots) := by
  refine MetFree.of_bodySF (plainFor_of_name own_pn_rmVa) hisR ?_
  intro p e s m args below meth c s₁ Bd hml0 hP hK
  obtain ⟨hargs, hZ, hh⟩ := hP
  have hx := Bd.exec
  have hby := Bd.bytes
  have hml : c.maxLocals = 1 := hml0
  have hown : s.vm.findClass "com/example/place_scope_search/placescopesearch/ranking/GeoSimilarity$Parts" = some m.cls := findClass_of_methodNamed Bd.named
  have hnm := (name_of_methodNamed Bd.named Bd.method).1
  have hlock : meth.locks = false := Bd.notSynchronized
  have hret0 := Bd.returns
  have X0 : Stand p l e ({ frames := 0, cells := 0, slots := 0, locals := 0 } : Room) s m args below meth c s₁ [] 0 0 := Stand.of_body Bd
  have e0 : s₁.heap = h0 := by rw [← hh, Bd.state]; rfl
  have N0 := Fr.nil n0
  have pre0 : ∀ t, Steps p.tables e below (s₁.setTop (mkF m 0 #[.val (.ref a1)] [])) t → Steps p.tables e below (s₁.setTop (entryFrame m args 1)) t := fun t k => castTop (by rw [hargs]; exact own_ef_rmVa m a1) k
  clear Bd
  obtain ⟨Ex, F0, F1, F2, F3⟩ := F
  obtain ⟨v1, v2, v3, v4, v5, v6, v7⟩ := vn
  obtain ⟨T29, X29, e29, st29⟩ := getF X0 hx hZ hown (host := "") (Or.inl (hw _ (List.mem_of_getElem? (i := 20) rfl))) Via.refl e0 F0 (g := (mkF m 4 #[.val (.ref a1)] [(.ref a1), (.double (4602678819172646912 : UInt64))])) rfl rfl (hb hby d5_4)
  obtain ⟨T30, X30, e30, st30⟩ := getF X29 hx hZ hown (host := "") (Or.inl (hw _ (List.mem_of_getElem? (i := 22) rfl))) Via.refl e29 F1 (g := (mkF m 12 #[.val (.ref a1)] [(.ref a1), (.double (4596373779694328218 : UInt64)), (.double (FP.dmul (4602678819172646912 : UInt64) ua))])) rfl rfl (hb hby d5_12)
  obtain ⟨T31, X31, e31, st31⟩ := getF X30 hx hZ hown (host := "") (Or.inl (hw _ (List.mem_of_getElem? (i := 24) rfl))) Via.refl e30 F2 (g := (mkF m 21 #[.val (.ref a1)] [(.ref a1), (.double (4596373779694328218 : UInt64)), (.double (FP.dadd (FP.dmul (4602678819172646912 : UInt64) ua) (FP.dmul (4596373779694328218 : UInt64) ub)))])) rfl rfl (hb hby d5_21)
  obtain ⟨T32, X32, e32, st32⟩ := getF X31 hx hZ hown (host := "") (Or.inl (hw _ (List.mem_of_getElem? (i := 26) rfl))) Via.refl e31 F3 (g := (mkF m 30 #[.val (.ref a1)] [(.ref a1), (.double (4591870180066957722 : UInt64)), (.double (FP.dadd (FP.dadd (FP.dmul (4602678819172646912 : UInt64) ua) (FP.dmul (4596373779694328218 : UInt64) ub)) (FP.dmul (4596373779694328218 : UInt64) uc)))])) rfl rfl (hb hby d5_30)
  obtain ⟨fs, hr, hrun, hended, hW, hsame⟩ := X32.leave (v := some (.double (FP.dadd (FP.dadd (FP.dadd (FP.dmul (4602678819172646912 : UInt64) ua) (FP.dmul (4596373779694328218 : UInt64) ub)) (FP.dmul (4596373779694328218 : UInt64) uc)) (FP.dmul (4591870180066957722 : UInt64) ud)))) (fun h => by rw [hret0] at h; cases h)
  refine ⟨_, _, pre0 _ ?_, hrun, hended, _, _, rfl, ?_, ⟨_, rfl⟩, hW, hsame.mono (by decide) (by decide)⟩
  · show Steps p.tables e below (s₁.setTop (mkF m 0 #[.val (.ref a1)] [])) _
    refine X0.ldc2DoubleC hx hown (mvT hZ (hw _ (List.mem_of_getElem? (i := 33) rfl))) (g := (mkF m 0 #[.val (.ref a1)] [])) rfl (hb hby d5_0) _ ?_
    show Steps p.tables e below (s₁.setTop (mkF m 3 #[.val (.ref a1)] [(.double (4602678819172646912 : UInt64))])) _
    refine XS.aloadN X0.here hx rfl (hb hby d5_3) rfl rfl ?_
    show Steps p.tables e below (s₁.setTop (mkF m 4 #[.val (.ref a1)] [(.ref a1), (.double (4602678819172646912 : UInt64))])) _
    refine st29 _ ?_
    show Steps p.tables e below (T29.setTop (mkF m 7 #[.val (.ref a1)] [(.double ua), (.double (4602678819172646912 : UInt64))])) _
    refine XS.dmulS X29.here hx rfl (hb hby d5_7) rfl v1 rfl ?_
    show Steps p.tables e below (T29.setTop (mkF m 8 #[.val (.ref a1)] [(.double (FP.dmul (4602678819172646912 : UInt64) ua))])) _
    refine X29.ldc2DoubleC hx hown (mvT hZ (hw _ (List.mem_of_getElem? (i := 34) rfl))) (g := (mkF m 8 #[.val (.ref a1)] [(.double (FP.dmul (4602678819172646912 : UInt64) ua))])) rfl (hb hby d5_8) _ ?_
    show Steps p.tables e below (T29.setTop (mkF m 11 #[.val (.ref a1)] [(.double (4596373779694328218 : UInt64)), (.double (FP.dmul (4602678819172646912 : UInt64) ua))])) _
    refine XS.aloadN X29.here hx rfl (hb hby d5_11) rfl rfl ?_
    show Steps p.tables e below (T29.setTop (mkF m 12 #[.val (.ref a1)] [(.ref a1), (.double (4596373779694328218 : UInt64)), (.double (FP.dmul (4602678819172646912 : UInt64) ua))])) _
    refine st30 _ ?_
    show Steps p.tables e below (T30.setTop (mkF m 15 #[.val (.ref a1)] [(.double ub), (.double (4596373779694328218 : UInt64)), (.double (FP.dmul (4602678819172646912 : UInt64) ua))])) _
    refine XS.dmulS X30.here hx rfl (hb hby d5_15) rfl v2 rfl ?_
    show Steps p.tables e below (T30.setTop (mkF m 16 #[.val (.ref a1)] [(.double (FP.dmul (4596373779694328218 : UInt64) ub)), (.double (FP.dmul (4602678819172646912 : UInt64) ua))])) _
    refine XS.daddS X30.here hx rfl (hb hby d5_16) rfl v5 rfl ?_
    show Steps p.tables e below (T30.setTop (mkF m 17 #[.val (.ref a1)] [(.double (FP.dadd (FP.dmul (4602678819172646912 : UInt64) ua) (FP.dmul (4596373779694328218 : UInt64) ub)))])) _
    refine X30.ldc2DoubleC hx hown (mvT hZ (hw _ (List.mem_of_getElem? (i := 34) rfl))) (g := (mkF m 17 #[.val (.ref a1)] [(.double (FP.dadd (FP.dmul (4602678819172646912 : UInt64) ua) (FP.dmul (4596373779694328218 : UInt64) ub)))])) rfl (hb hby d5_17) _ ?_
    show Steps p.tables e below (T30.setTop (mkF m 20 #[.val (.ref a1)] [(.double (4596373779694328218 : UInt64)), (.double (FP.dadd (FP.dmul (4602678819172646912 : UInt64) ua) (FP.dmul (4596373779694328218 : UInt64) ub)))])) _
    refine XS.aloadN X30.here hx rfl (hb hby d5_20) rfl rfl ?_
    show Steps p.tables e below (T30.setTop (mkF m 21 #[.val (.ref a1)] [(.ref a1), (.double (4596373779694328218 : UInt64)), (.double (FP.dadd (FP.dmul (4602678819172646912 : UInt64) ua) (FP.dmul (4596373779694328218 : UInt64) ub)))])) _
    refine st31 _ ?_
    show Steps p.tables e below (T31.setTop (mkF m 24 #[.val (.ref a1)] [(.double uc), (.double (4596373779694328218 : UInt64)), (.double (FP.dadd (FP.dmul (4602678819172646912 : UInt64) ua) (FP.dmul (4596373779694328218 : UInt64) ub)))])) _
    refine XS.dmulS X31.here hx rfl (hb hby d5_24) rfl v3 rfl ?_
    show Steps p.tables e below (T31.setTop (mkF m 25 #[.val (.ref a1)] [(.double (FP.dmul (4596373779694328218 : UInt64) uc)), (.double (FP.dadd (FP.dmul (4602678819172646912 : UInt64) ua) (FP.dmul (4596373779694328218 : UInt64) ub)))])) _
    refine XS.daddS X31.here hx rfl (hb hby d5_25) rfl v6 rfl ?_
    show Steps p.tables e below (T31.setTop (mkF m 26 #[.val (.ref a1)] [(.double (FP.dadd (FP.dadd (FP.dmul (4602678819172646912 : UInt64) ua) (FP.dmul (4596373779694328218 : UInt64) ub)) (FP.dmul (4596373779694328218 : UInt64) uc)))])) _
    refine X31.ldc2DoubleC hx hown (mvT hZ (hw _ (List.mem_of_getElem? (i := 35) rfl))) (g := (mkF m 26 #[.val (.ref a1)] [(.double (FP.dadd (FP.dadd (FP.dmul (4602678819172646912 : UInt64) ua) (FP.dmul (4596373779694328218 : UInt64) ub)) (FP.dmul (4596373779694328218 : UInt64) uc)))])) rfl (hb hby d5_26) _ ?_
    show Steps p.tables e below (T31.setTop (mkF m 29 #[.val (.ref a1)] [(.double (4591870180066957722 : UInt64)), (.double (FP.dadd (FP.dadd (FP.dmul (4602678819172646912 : UInt64) ua) (FP.dmul (4596373779694328218 : UInt64) ub)) (FP.dmul (4596373779694328218 : UInt64) uc)))])) _
    refine XS.aloadN X31.here hx rfl (hb hby d5_29) rfl rfl ?_
    show Steps p.tables e below (T31.setTop (mkF m 30 #[.val (.ref a1)] [(.ref a1), (.double (4591870180066957722 : UInt64)), (.double (FP.dadd (FP.dadd (FP.dmul (4602678819172646912 : UInt64) ua) (FP.dmul (4596373779694328218 : UInt64) ub)) (FP.dmul (4596373779694328218 : UInt64) uc)))])) _
    refine st32 _ ?_
    show Steps p.tables e below (T32.setTop (mkF m 33 #[.val (.ref a1)] [(.double ud), (.double (4591870180066957722 : UInt64)), (.double (FP.dadd (FP.dadd (FP.dmul (4602678819172646912 : UInt64) ua) (FP.dmul (4596373779694328218 : UInt64) ub)) (FP.dmul (4596373779694328218 : UInt64) uc)))])) _
    refine XS.dmulS X32.here hx rfl (hb hby d5_33) rfl v4 rfl ?_
    show Steps p.tables e below (T32.setTop (mkF m 34 #[.val (.ref a1)] [(.double (FP.dmul (4591870180066957722 : UInt64) ud)), (.double (FP.dadd (FP.dadd (FP.dmul (4602678819172646912 : UInt64) ua) (FP.dmul (4596373779694328218 : UInt64) ub)) (FP.dmul (4596373779694328218 : UInt64) uc)))])) _
    refine XS.daddS X32.here hx rfl (hb hby d5_34) rfl v7 rfl ?_
    show Steps p.tables e below (T32.setTop (mkF m 35 #[.val (.ref a1)] [(.double (FP.dadd (FP.dadd (FP.dadd (FP.dmul (4602678819172646912 : UInt64) ua) (FP.dmul (4596373779694328218 : UInt64) ub)) (FP.dmul (4596373779694328218 : UInt64) uc)) (FP.dmul (4591870180066957722 : UInt64) ud)))])) _
    exact retD X32 hx hret0 (hb hby d5_35) hr
  · show QVa ua ub uc ud h0 n0 _ T32.heap _
    rw [e32]
    exact ⟨rfl, N0, rfl⟩
def Q0 (n0 : Nat) (v : Option Value) (h : Heap) (L : List Loc) : Prop := v = some (.int 1) ∧ Fr n0 L
theorem own_pn_rm0 : plainName "com/example/place_scope_search/placescopesearch/ranking/PartsValuePinLaw" = true := by first | (simp [plainName, overriddenIn]; done) | decide +kernel
theorem own_ef_rm0 (m : MethodId) (p0 : Int32) (p1 : Int32) (p2 : Int32) (p3 : Int32) : entryFrame m #[(.int p0), (.int p1), (.int p2), (.int p3)] maxLocals = (mkF m 0 #[.val (.int p0), .val (.int p1), .val (.int p2), .val (.int p3), .unset, .unset, .unset, .unset, .unset, .unset, .unset, .unset, .unset, .unset, .unset, .unset, .unset] []) := by first | (simp [entryFrame, mkF, argsToLocals, Value.category, maxLocals]; done) | rfl
set_option maxRecDepth 65536 in
set_option maxHeartbeats 40000000 in
theorem rm0 (l : Launch) (Z : State) (a0 : Array Value) (hw : ∀ d ∈ tables_1, d.before a0 Z = true) (ws : List Jvm.Cond) (p0 : Int32) (p1 : Int32) (p2 : Int32) (p3 : Int32) (h0 : Heap) (n0 : Nat) (Z0 : n0 ≤ h0.size) :
    MetFree l x (head1 (Jvm.Cond.code x code maxLocals ret :: ws) room_1) (fun a U => a = #[(.int p0), (.int p1), (.int p2), (.int p3)] ∧ Z.Warmed39 U.vm ∧ U.heap = h0) (fun _ _ _ _ _ => True) (fun _ U o U' => ∃ v L, o = .returned v ∧ Q0 n0 v U'.heap L ∧ FrameEnd U o U' L 16 128) := by
  refine MetFree.of_bodySF (plainFor_of_name own_pn_rm0) hisR ?_
  intro p e s m args below meth c s₁ Bd hml0 hP hK
  obtain ⟨hargs, hZ, hh⟩ := hP
  have hx := Bd.exec
  have hby := Bd.bytes
  have hml : c.maxLocals = 17 := hml0
  have hown : s.vm.findClass "com/example/place_scope_search/placescopesearch/ranking/PartsValuePinLaw" = some m.cls := findClass_of_methodNamed Bd.named
  have hnm := (name_of_methodNamed Bd.named Bd.method).1
  have hlock : meth.locks = false := Bd.notSynchronized
  have hret0 := Bd.returns
  have X0 : Stand p l e room_1 s m args below meth c s₁ [] 0 0 := Stand.of_body Bd
  have e0 : s₁.heap = h0 := by rw [← hh, Bd.state]; rfl
  have N0 := Fr.nil n0
  have pre0 : ∀ t, Steps p.tables e below (s₁.setTop (mkF m 0 #[.val (.int p0), .val (.int p1), .val (.int p2), .val (.int p3), .unset, .unset, .unset, .unset, .unset, .unset, .unset, .unset, .unset, .unset, .unset, .unset, .unset] [])) t → Steps p.tables e below (s₁.setTop (entryFrame m args maxLocals)) t := fun t k => castTop (by rw [hargs]; exact own_ef_rm0 m p0 p1 p2 p3) k
  clear Bd
  obtain ⟨v33, vmx33, ⟨T33, L33, k33, n33⟩, -, X33, ⟨Lc33, hQ33, l33, y33, z33⟩, st33⟩ := Jvm.LawKit.callS X0 hx (y := (⟨"com/example/place_scope_search/placescopesearch/ranking/PartsValuePinLaw", "part", "(I)I"⟩ : MethodName)) hown (mvT hZ (hw _ (List.mem_of_getElem? (i := 0) rfl))) (mvT hZ (hw _ (List.mem_of_getElem? (i := 1) rfl))) (mvT hZ (hw _ (List.mem_of_getElem? (i := 2) rfl))) (mvT hZ (hw _ (List.mem_of_getElem? (i := 3) rfl))) (by decide) (backOf (W := 0) (rmPa l Z a0 hw [] p0 h0 n0 Z0 ) hZ (hw _ (List.mem_of_getElem? (i := 3) rfl)) (hw _ (List.mem_of_getElem? (i := 2) rfl)) (by decide) (by decide)) (g := (mkF m 1 #[.val (.int p0), .val (.int p1), .val (.int p2), .val (.int p3), .unset, .unset, .unset, .unset, .unset, .unset, .unset, .unset, .unset, .unset, .unset, .unset, .unset] [(.int p0)])) rfl (by rw [hml]; rfl) (argsL := [(.int p0)]) (rest := []) (lenOf own_pd1 rfl) rfl (by show 2 * 0 + _ ≤ _; exact Nat.le_of_eq rfl) (hb hby at_1) (fun _ _ => ⟨rfl, e0, (by decide : 0 + 0 ≤ _), (by decide : 0 + 0 ≤ _)⟩)
  dsimp only [Pt.U, Pt.locs, Pt.cells, Pt.slots] at X33 l33 y33 z33 st33 hQ33
  subst l33 y33 z33
  obtain ⟨ko, rfl, hko, Nq33, eh33⟩ := hQ33
  have N33 := Fr.app N0 Nq33
  obtain ⟨v34, vmx34, ⟨T34, L34, k34, n34⟩, -, X34, ⟨Lc34, hQ34, l34, y34, z34⟩, st34⟩ := Jvm.LawKit.callS X33 hx (y := (⟨"com/example/place_scope_search/placescopesearch/ranking/PartsValuePinLaw", "part", "(I)I"⟩ : MethodName)) hown (mvT hZ (hw _ (List.mem_of_getElem? (i := 0) rfl))) (mvT hZ (hw _ (List.mem_of_getElem? (i := 1) rfl))) (mvT hZ (hw _ (List.mem_of_getElem? (i := 2) rfl))) (mvT hZ (hw _ (List.mem_of_getElem? (i := 3) rfl))) (by decide) (backOf (W := 0) (rmPa l Z a0 hw [] p1 h0 n0 Z0 ) hZ (hw _ (List.mem_of_getElem? (i := 3) rfl)) (hw _ (List.mem_of_getElem? (i := 2) rfl)) (by decide) (by decide)) (g := (mkF m 7 #[.val (.int p0), .val (.int p1), .val (.int p2), .val (.int p3), .val (.int (Int32.ofNat ko)), .unset, .unset, .unset, .unset, .unset, .unset, .unset, .unset, .unset, .unset, .unset, .unset] [(.int p1)])) rfl (by rw [hml]; rfl) (argsL := [(.int p1)]) (rest := []) (lenOf own_pd1 rfl) rfl (by show 2 * 0 + _ ≤ _; exact Nat.le_of_eq rfl) (hb hby at_7) (fun _ _ => ⟨rfl, eh33, (by decide : 0 + 0 ≤ _), (by decide : 0 + 0 ≤ _)⟩)
  dsimp only [Pt.U, Pt.locs, Pt.cells, Pt.slots] at X34 l34 y34 z34 st34 hQ34
  subst l34 y34 z34
  obtain ⟨kd, rfl, hkd, Nq34, eh34⟩ := hQ34
  have N34 := Fr.app N33 Nq34
  obtain ⟨v35, vmx35, ⟨T35, L35, k35, n35⟩, -, X35, ⟨Lc35, hQ35, l35, y35, z35⟩, st35⟩ := Jvm.LawKit.callS X34 hx (y := (⟨"com/example/place_scope_search/placescopesearch/ranking/PartsValuePinLaw", "part", "(I)I"⟩ : MethodName)) hown (mvT hZ (hw _ (List.mem_of_getElem? (i := 0) rfl))) (mvT hZ (hw _ (List.mem_of_getElem? (i := 1) rfl))) (mvT hZ (hw _ (List.mem_of_getElem? (i := 2) rfl))) (mvT hZ (hw _ (List.mem_of_getElem? (i := 3) rfl))) (by decide) (backOf (W := 0) (rmPa l Z a0 hw [] p2 h0 n0 Z0 ) hZ (hw _ (List.mem_of_getElem? (i := 3) rfl)) (hw _ (List.mem_of_getElem? (i := 2) rfl)) (by decide) (by decide)) (g := (mkF m 13 #[.val (.int p0), .val (.int p1), .val (.int p2), .val (.int p3), .val (.int (Int32.ofNat ko)), .val (.int (Int32.ofNat kd)), .unset, .unset, .unset, .unset, .unset, .unset, .unset, .unset, .unset, .unset, .unset] [(.int p2)])) rfl (by rw [hml]; rfl) (argsL := [(.int p2)]) (rest := []) (lenOf own_pd1 rfl) rfl (by show 2 * 0 + _ ≤ _; exact Nat.le_of_eq rfl) (hb hby at_13) (fun _ _ => ⟨rfl, eh34, (by decide : 0 + 0 ≤ _), (by decide : 0 + 0 ≤ _)⟩)
  dsimp only [Pt.U, Pt.locs, Pt.cells, Pt.slots] at X35 l35 y35 z35 st35 hQ35
  subst l35 y35 z35
  obtain ⟨kp, rfl, hkp, Nq35, eh35⟩ := hQ35
  have N35 := Fr.app N34 Nq35
  obtain ⟨v36, vmx36, ⟨T36, L36, k36, n36⟩, -, X36, ⟨Lc36, hQ36, l36, y36, z36⟩, st36⟩ := Jvm.LawKit.callS X35 hx (y := (⟨"com/example/place_scope_search/placescopesearch/ranking/PartsValuePinLaw", "part", "(I)I"⟩ : MethodName)) hown (mvT hZ (hw _ (List.mem_of_getElem? (i := 0) rfl))) (mvT hZ (hw _ (List.mem_of_getElem? (i := 1) rfl))) (mvT hZ (hw _ (List.mem_of_getElem? (i := 2) rfl))) (mvT hZ (hw _ (List.mem_of_getElem? (i := 3) rfl))) (by decide) (backOf (W := 0) (rmPa l Z a0 hw [] p3 h0 n0 Z0 ) hZ (hw _ (List.mem_of_getElem? (i := 3) rfl)) (hw _ (List.mem_of_getElem? (i := 2) rfl)) (by decide) (by decide)) (g := (mkF m 19 #[.val (.int p0), .val (.int p1), .val (.int p2), .val (.int p3), .val (.int (Int32.ofNat ko)), .val (.int (Int32.ofNat kd)), .val (.int (Int32.ofNat kp)), .unset, .unset, .unset, .unset, .unset, .unset, .unset, .unset, .unset, .unset] [(.int p3)])) rfl (by rw [hml]; rfl) (argsL := [(.int p3)]) (rest := []) (lenOf own_pd1 rfl) rfl (by show 2 * 0 + _ ≤ _; exact Nat.le_of_eq rfl) (hb hby at_19) (fun _ _ => ⟨rfl, eh35, (by decide : 0 + 0 ≤ _), (by decide : 0 + 0 ≤ _)⟩)
  dsimp only [Pt.U, Pt.locs, Pt.cells, Pt.slots] at X36 l36 y36 z36 st36 hQ36
  subst l36 y36 z36
  obtain ⟨ka, rfl, hka, Nq36, eh36⟩ := hQ36
  have N36 := Fr.app N35 Nq36
  obtain ⟨vn, n1, n2, c1, c2, c3, c4⟩ := own_main hko hkd hkp hka (own_sum hko hkd hkp hka)
  obtain ⟨T37, h37, X37, e37, E37, A37, D37, -, st37⟩ := newO X36 hx hZ hown (hw _ (List.mem_of_getElem? (i := 5) rfl)) (hw _ (List.mem_of_getElem? (i := 6) rfl)) (hw _ (List.mem_of_getElem? (i := 7) rfl)) eh36 (g := (mkF m 24 #[.val (.int p0), .val (.int p1), .val (.int p2), .val (.int p3), .val (.int (Int32.ofNat ko)), .val (.int (Int32.ofNat kd)), .val (.int (Int32.ofNat kp)), .val (.int (Int32.ofNat ka)), .unset, .unset, .unset, .unset, .unset, .unset, .unset, .unset, .unset] [])) rfl (hb hby at_24) (by decide) (by decide)
  obtain ⟨b37, g37⟩ : ∃ z, z = h0.size := ⟨_, rfl⟩
  rw [← g37] at A37 D37 st37
  have ge_b37 : n0 ≤ b37 := Nat.le_trans Z0 (Nat.le_of_eq g37.symm)
  have sz_b37 : h0.size ≤ b37 := Nat.le_trans (Keep.refl h0 []).1 (Nat.le_of_eq g37.symm)
  have Z38 : n0 ≤ h37.size := Nat.le_trans Z0 E37.1
  have K39 : Keep h0 h37 [] := (Keep.refl h0 []).ext E37
  obtain ⟨v40, vmx40, ⟨T40, L40, k40, n40⟩, -, X40, ⟨Lc40, hQ40, l40, y40, z40⟩, st40⟩ := X37.specialBack hx (y := (⟨"com/example/place_scope_search/placescopesearch/ranking/GeoSimilarity$Parts", "<init>", "(DDDD)V"⟩ : MethodName)) rfl hown (mvT hZ (hw _ (List.mem_of_getElem? (i := 9) rfl))) (mvT hZ (hw _ (List.mem_of_getElem? (i := 10) rfl))) (mvT hZ (hw _ (List.mem_of_getElem? (i := 11) rfl))) (by decide) (backOf (W := 1) (rmI l Z a0 hw [] b37 (own_K ko) (own_K kd) (own_K kp) (own_K ka) _ _ _ _ h37 n0 Z38 ge_b37 ⟨A37, (D37 (Or.inr (hw _ (List.mem_of_getElem? (i := 21) rfl))) (ty := .double) (by decide)), (D37 (Or.inr (hw _ (List.mem_of_getElem? (i := 23) rfl))) (ty := .double) (by decide)), (D37 (Or.inr (hw _ (List.mem_of_getElem? (i := 25) rfl))) (ty := .double) (by decide)), (D37 (Or.inr (hw _ (List.mem_of_getElem? (i := 27) rfl))) (ty := .double) (by decide))⟩) hZ (hw _ (List.mem_of_getElem? (i := 11) rfl)) (hw _ (List.mem_of_getElem? (i := 7) rfl)) (by decide) (by decide)) (g := (mkF m 56 #[.val (.int p0), .val (.int p1), .val (.int p2), .val (.int p3), .val (.int (Int32.ofNat ko)), .val (.int (Int32.ofNat kd)), .val (.int (Int32.ofNat kp)), .val (.int (Int32.ofNat ka)), .unset, .unset, .unset, .unset, .unset, .unset, .unset, .unset, .unset] [(.double (own_K ka)), (.double (own_K kp)), (.double (own_K kd)), (.double (own_K ko)), (.ref b37), (.ref b37)])) rfl (by rw [hml]; rfl) (Steps.refl _) (a := b37) (argsL := [(.double (own_K ko)), (.double (own_K kd)), (.double (own_K kp)), (.double (own_K ka))]) (rest := [(.ref b37)]) (lenOf own_pd2 rfl) rfl (by show 2 * 0 + _ ≤ _; exact Nat.le_of_eq rfl) (hb hby at_56) (fun _ _ => ⟨rfl, e37, (by decide : 1 + 0 ≤ _), (by decide : 4 + 0 ≤ _)⟩)
  dsimp only [Pt.U, Pt.locs, Pt.cells, Pt.slots] at X40 l40 y40 z40 st40 hQ40
  subst l40 y40 z40
  obtain ⟨rfl, Nq40, K40, F40⟩ := hQ40
  have N40 := Fr.app N36 Nq40
  have Z41 : n0 ≤ T40.heap.size := Nat.le_trans Z38 K40.1
  have K42 : Keep h0 T40.heap [] := K39.trans K40 (allS (Or.inr sz_b37) all0)
  obtain ⟨cq43, kq43, q43a, q43b, q43c⟩ := isOf hZ rfl F40.1
  obtain ⟨v43, vmx43, ⟨T43, L43, k43, n43⟩, -, X43, ⟨Lc43, hQ43, l43, y43, z43⟩, st43⟩ := X40.virtualBack hx (y := (⟨"com/example/place_scope_search/placescopesearch/ranking/GeoSimilarity$Parts", "value", "()D"⟩ : MethodName)) (z := (⟨"com/example/place_scope_search/placescopesearch/ranking/GeoSimilarity$Parts", "value", "()D"⟩ : MethodName)) hown (mvT hZ (hw _ (List.mem_of_getElem? (i := 28) rfl))) (mvT hZ (hw _ (List.mem_of_getElem? (i := 29) rfl))) (notFace_of_selects (args := #[]) (mvT hZ (hw _ (List.mem_of_getElem? (i := 31) rfl)))) (mvT hZ (hw _ (List.mem_of_getElem? (i := 31) rfl))) (mvT hZ (hw _ (List.mem_of_getElem? (i := 30) rfl))) (by decide) (backOf (W := 0) (rmVa l Z a0 hw [] b37 (own_K ko) (own_K kd) (own_K kp) (own_K ka) T40.heap n0 Z41 F40 vn) hZ (hw _ (List.mem_of_getElem? (i := 32) rfl)) (hw _ (List.mem_of_getElem? (i := 7) rfl)) (by decide) (by decide)) q43a q43c (g := (mkF m 63 #[.val (.int p0), .val (.int p1), .val (.int p2), .val (.int p3), .val (.int (Int32.ofNat ko)), .val (.int (Int32.ofNat kd)), .val (.int (Int32.ofNat kp)), .val (.int (Int32.ofNat ka)), .val (.ref b37), .unset, .unset, .unset, .unset, .unset, .unset, .unset, .unset] [(.ref b37)])) rfl (by rw [hml]; rfl) (Steps.refl _) (argsL := []) (rest := []) (lenOf own_pd3 rfl) rfl (by show 2 * 0 + _ ≤ _; exact Nat.le_of_eq rfl) (hb hby at_63) (fun _ _ => ⟨rfl, rfl, (by decide : 1 + 0 ≤ _), (by decide : 4 + 0 ≤ _)⟩)
  dsimp only [Pt.U, Pt.locs, Pt.cells, Pt.slots] at X43 l43 y43 z43 st43 hQ43
  subst l43 y43 z43
  obtain ⟨rfl, Nq43, eh43⟩ := hQ43
  have N43 := Fr.app N40 Nq43
  obtain ⟨z3, ez3, hz3⟩ : ∃ z : Int32, cmpValue (FP.dcmp (0 : UInt64) (own_v (own_K ko) (own_K kd) (own_K kp) (own_K ka))) .g = z ∧ ¬ (0 : Int32) < z := by
    rcases c3 with h | h <;> rw [h]
    · exact ⟨_, rfl, by decide⟩
    · exact ⟨_, rfl, by decide⟩
  obtain ⟨z4, ez4, hz4⟩ : ∃ z : Int32, cmpValue (FP.dcmp (own_v (own_K ko) (own_K kd) (own_K kp) (own_K ka)) (4607182418800017408 : UInt64)) .g = z ∧ ¬ (0 : Int32) < z := by
    rcases c4 with h | h <;> rw [h]
    · exact ⟨_, rfl, by decide⟩
    · exact ⟨_, rfl, by decide⟩
  obtain ⟨fs, hr, hrun, hended, hW, hsame⟩ := X43.leave (v := some (.int (1 : Int32))) (fun h => by rw [hret0] at h; cases h)
  refine ⟨_, _, pre0 _ ?_, hrun, hended, _, _, rfl, ?_, ⟨_, rfl⟩, hW, hsame.mono (by decide) (by decide)⟩
  · show Steps p.tables e below (s₁.setTop (mkF m 0 #[.val (.int p0), .val (.int p1), .val (.int p2), .val (.int p3), .unset, .unset, .unset, .unset, .unset, .unset, .unset, .unset, .unset, .unset, .unset, .unset, .unset] [])) _
    refine XS.iloadN X0.here hx rfl (hb hby at_0) rfl ?_
    show Steps p.tables e below (s₁.setTop (mkF m 1 #[.val (.int p0), .val (.int p1), .val (.int p2), .val (.int p3), .unset, .unset, .unset, .unset, .unset, .unset, .unset, .unset, .unset, .unset, .unset, .unset, .unset] [(.int p0)])) _
    refine st33 _ ?_
    show Steps p.tables e below (T33.setTop (mkF m 4 #[.val (.int p0), .val (.int p1), .val (.int p2), .val (.int p3), .unset, .unset, .unset, .unset, .unset, .unset, .unset, .unset, .unset, .unset, .unset, .unset, .unset] [(.int (Int32.ofNat ko))])) _
    refine XS.istore X33.here hx rfl (hb hby at_4) rfl (l' := #[.val (.int p0), .val (.int p1), .val (.int p2), .val (.int p3), .val (.int (Int32.ofNat ko)), .unset, .unset, .unset, .unset, .unset, .unset, .unset, .unset, .unset, .unset, .unset, .unset]) rfl ?_
    show Steps p.tables e below (T33.setTop (mkF m 6 #[.val (.int p0), .val (.int p1), .val (.int p2), .val (.int p3), .val (.int (Int32.ofNat ko)), .unset, .unset, .unset, .unset, .unset, .unset, .unset, .unset, .unset, .unset, .unset, .unset] [])) _
    refine XS.iloadN X33.here hx rfl (hb hby at_6) rfl ?_
    show Steps p.tables e below (T33.setTop (mkF m 7 #[.val (.int p0), .val (.int p1), .val (.int p2), .val (.int p3), .val (.int (Int32.ofNat ko)), .unset, .unset, .unset, .unset, .unset, .unset, .unset, .unset, .unset, .unset, .unset, .unset] [(.int p1)])) _
    refine st34 _ ?_
    show Steps p.tables e below (T34.setTop (mkF m 10 #[.val (.int p0), .val (.int p1), .val (.int p2), .val (.int p3), .val (.int (Int32.ofNat ko)), .unset, .unset, .unset, .unset, .unset, .unset, .unset, .unset, .unset, .unset, .unset, .unset] [(.int (Int32.ofNat kd))])) _
    refine XS.istore X34.here hx rfl (hb hby at_10) rfl (l' := #[.val (.int p0), .val (.int p1), .val (.int p2), .val (.int p3), .val (.int (Int32.ofNat ko)), .val (.int (Int32.ofNat kd)), .unset, .unset, .unset, .unset, .unset, .unset, .unset, .unset, .unset, .unset, .unset]) rfl ?_
    show Steps p.tables e below (T34.setTop (mkF m 12 #[.val (.int p0), .val (.int p1), .val (.int p2), .val (.int p3), .val (.int (Int32.ofNat ko)), .val (.int (Int32.ofNat kd)), .unset, .unset, .unset, .unset, .unset, .unset, .unset, .unset, .unset, .unset, .unset] [])) _
    refine XS.iloadN X34.here hx rfl (hb hby at_12) rfl ?_
    show Steps p.tables e below (T34.setTop (mkF m 13 #[.val (.int p0), .val (.int p1), .val (.int p2), .val (.int p3), .val (.int (Int32.ofNat ko)), .val (.int (Int32.ofNat kd)), .unset, .unset, .unset, .unset, .unset, .unset, .unset, .unset, .unset, .unset, .unset] [(.int p2)])) _
    refine st35 _ ?_
    show Steps p.tables e below (T35.setTop (mkF m 16 #[.val (.int p0), .val (.int p1), .val (.int p2), .val (.int p3), .val (.int (Int32.ofNat ko)), .val (.int (Int32.ofNat kd)), .unset, .unset, .unset, .unset, .unset, .unset, .unset, .unset, .unset, .unset, .unset] [(.int (Int32.ofNat kp))])) _
    refine XS.istore X35.here hx rfl (hb hby at_16) rfl (l' := #[.val (.int p0), .val (.int p1), .val (.int p2), .val (.int p3), .val (.int (Int32.ofNat ko)), .val (.int (Int32.ofNat kd)), .val (.int (Int32.ofNat kp)), .unset, .unset, .unset, .unset, .unset, .unset, .unset, .unset, .unset, .unset]) rfl ?_
    show Steps p.tables e below (T35.setTop (mkF m 18 #[.val (.int p0), .val (.int p1), .val (.int p2), .val (.int p3), .val (.int (Int32.ofNat ko)), .val (.int (Int32.ofNat kd)), .val (.int (Int32.ofNat kp)), .unset, .unset, .unset, .unset, .unset, .unset, .unset, .unset, .unset, .unset] [])) _
    refine XS.iloadN X35.here hx rfl (hb hby at_18) rfl ?_
    show Steps p.tables e below (T35.setTop (mkF m 19 #[.val (.int p0), .val (.int p1), .val (.int p2), .val (.int p3), .val (.int (Int32.ofNat ko)), .val (.int (Int32.ofNat kd)), .val (.int (Int32.ofNat kp)), .unset, .unset, .unset, .unset, .unset, .unset, .unset, .unset, .unset, .unset] [(.int p3)])) _
    refine st36 _ ?_
    show Steps p.tables e below (T36.setTop (mkF m 22 #[.val (.int p0), .val (.int p1), .val (.int p2), .val (.int p3), .val (.int (Int32.ofNat ko)), .val (.int (Int32.ofNat kd)), .val (.int (Int32.ofNat kp)), .unset, .unset, .unset, .unset, .unset, .unset, .unset, .unset, .unset, .unset] [(.int (Int32.ofNat ka))])) _
    refine XS.istore X36.here hx rfl (hb hby at_22) rfl (l' := #[.val (.int p0), .val (.int p1), .val (.int p2), .val (.int p3), .val (.int (Int32.ofNat ko)), .val (.int (Int32.ofNat kd)), .val (.int (Int32.ofNat kp)), .val (.int (Int32.ofNat ka)), .unset, .unset, .unset, .unset, .unset, .unset, .unset, .unset, .unset]) rfl ?_
    show Steps p.tables e below (T36.setTop (mkF m 24 #[.val (.int p0), .val (.int p1), .val (.int p2), .val (.int p3), .val (.int (Int32.ofNat ko)), .val (.int (Int32.ofNat kd)), .val (.int (Int32.ofNat kp)), .val (.int (Int32.ofNat ka)), .unset, .unset, .unset, .unset, .unset, .unset, .unset, .unset, .unset] [])) _
    refine st37 _ ?_
    show Steps p.tables e below (T37.setTop (mkF m 27 #[.val (.int p0), .val (.int p1), .val (.int p2), .val (.int p3), .val (.int (Int32.ofNat ko)), .val (.int (Int32.ofNat kd)), .val (.int (Int32.ofNat kp)), .val (.int (Int32.ofNat ka)), .unset, .unset, .unset, .unset, .unset, .unset, .unset, .unset, .unset] [(.ref b37)])) _
    refine XS.dup X37.here hx rfl (hb hby at_27) rfl rfl ?_
    show Steps p.tables e below (T37.setTop (mkF m 28 #[.val (.int p0), .val (.int p1), .val (.int p2), .val (.int p3), .val (.int (Int32.ofNat ko)), .val (.int (Int32.ofNat kd)), .val (.int (Int32.ofNat kp)), .val (.int (Int32.ofNat ka)), .unset, .unset, .unset, .unset, .unset, .unset, .unset, .unset, .unset] [(.ref b37), (.ref b37)])) _
    refine XS.iload X37.here hx rfl (hb hby at_28) rfl ?_
    show Steps p.tables e below (T37.setTop (mkF m 30 #[.val (.int p0), .val (.int p1), .val (.int p2), .val (.int p3), .val (.int (Int32.ofNat ko)), .val (.int (Int32.ofNat kd)), .val (.int (Int32.ofNat kp)), .val (.int (Int32.ofNat ka)), .unset, .unset, .unset, .unset, .unset, .unset, .unset, .unset, .unset] [(.int (Int32.ofNat ko)), (.ref b37), (.ref b37)])) _
    refine XS.i2dS X37.here hx rfl (hb hby at_30) rfl rfl ?_
    show Steps p.tables e below (T37.setTop (mkF m 31 #[.val (.int p0), .val (.int p1), .val (.int p2), .val (.int p3), .val (.int (Int32.ofNat ko)), .val (.int (Int32.ofNat kd)), .val (.int (Int32.ofNat kp)), .val (.int (Int32.ofNat ka)), .unset, .unset, .unset, .unset, .unset, .unset, .unset, .unset, .unset] [(.double (FP.i2d (Int32.ofNat ko))), (.ref b37), (.ref b37)])) _
    refine X37.ldc2DoubleC hx hown (mvT hZ (hw _ (List.mem_of_getElem? (i := 8) rfl))) (g := (mkF m 31 #[.val (.int p0), .val (.int p1), .val (.int p2), .val (.int p3), .val (.int (Int32.ofNat ko)), .val (.int (Int32.ofNat kd)), .val (.int (Int32.ofNat kp)), .val (.int (Int32.ofNat ka)), .unset, .unset, .unset, .unset, .unset, .unset, .unset, .unset, .unset] [(.double (FP.i2d (Int32.ofNat ko))), (.ref b37), (.ref b37)])) rfl (hb hby at_31) _ ?_
    show Steps p.tables e below (T37.setTop (mkF m 34 #[.val (.int p0), .val (.int p1), .val (.int p2), .val (.int p3), .val (.int (Int32.ofNat ko)), .val (.int (Int32.ofNat kd)), .val (.int (Int32.ofNat kp)), .val (.int (Int32.ofNat ka)), .unset, .unset, .unset, .unset, .unset, .unset, .unset, .unset, .unset] [(.double (4652218415073722368 : UInt64)), (.double (FP.i2d (Int32.ofNat ko))), (.ref b37), (.ref b37)])) _
    refine XS.ddivS X37.here hx rfl (hb hby at_34) rfl (own_kn ⟨ko, hko⟩) rfl ?_
    show Steps p.tables e below (T37.setTop (mkF m 35 #[.val (.int p0), .val (.int p1), .val (.int p2), .val (.int p3), .val (.int (Int32.ofNat ko)), .val (.int (Int32.ofNat kd)), .val (.int (Int32.ofNat kp)), .val (.int (Int32.ofNat ka)), .unset, .unset, .unset, .unset, .unset, .unset, .unset, .unset, .unset] [(.double (own_K ko)), (.ref b37), (.ref b37)])) _
    refine XS.iload X37.here hx rfl (hb hby at_35) rfl ?_
    show Steps p.tables e below (T37.setTop (mkF m 37 #[.val (.int p0), .val (.int p1), .val (.int p2), .val (.int p3), .val (.int (Int32.ofNat ko)), .val (.int (Int32.ofNat kd)), .val (.int (Int32.ofNat kp)), .val (.int (Int32.ofNat ka)), .unset, .unset, .unset, .unset, .unset, .unset, .unset, .unset, .unset] [(.int (Int32.ofNat kd)), (.double (own_K ko)), (.ref b37), (.ref b37)])) _
    refine XS.i2dS X37.here hx rfl (hb hby at_37) rfl rfl ?_
    show Steps p.tables e below (T37.setTop (mkF m 38 #[.val (.int p0), .val (.int p1), .val (.int p2), .val (.int p3), .val (.int (Int32.ofNat ko)), .val (.int (Int32.ofNat kd)), .val (.int (Int32.ofNat kp)), .val (.int (Int32.ofNat ka)), .unset, .unset, .unset, .unset, .unset, .unset, .unset, .unset, .unset] [(.double (FP.i2d (Int32.ofNat kd))), (.double (own_K ko)), (.ref b37), (.ref b37)])) _
    refine X37.ldc2DoubleC hx hown (mvT hZ (hw _ (List.mem_of_getElem? (i := 8) rfl))) (g := (mkF m 38 #[.val (.int p0), .val (.int p1), .val (.int p2), .val (.int p3), .val (.int (Int32.ofNat ko)), .val (.int (Int32.ofNat kd)), .val (.int (Int32.ofNat kp)), .val (.int (Int32.ofNat ka)), .unset, .unset, .unset, .unset, .unset, .unset, .unset, .unset, .unset] [(.double (FP.i2d (Int32.ofNat kd))), (.double (own_K ko)), (.ref b37), (.ref b37)])) rfl (hb hby at_38) _ ?_
    show Steps p.tables e below (T37.setTop (mkF m 41 #[.val (.int p0), .val (.int p1), .val (.int p2), .val (.int p3), .val (.int (Int32.ofNat ko)), .val (.int (Int32.ofNat kd)), .val (.int (Int32.ofNat kp)), .val (.int (Int32.ofNat ka)), .unset, .unset, .unset, .unset, .unset, .unset, .unset, .unset, .unset] [(.double (4652218415073722368 : UInt64)), (.double (FP.i2d (Int32.ofNat kd))), (.double (own_K ko)), (.ref b37), (.ref b37)])) _
    refine XS.ddivS X37.here hx rfl (hb hby at_41) rfl (own_kn ⟨kd, hkd⟩) rfl ?_
    show Steps p.tables e below (T37.setTop (mkF m 42 #[.val (.int p0), .val (.int p1), .val (.int p2), .val (.int p3), .val (.int (Int32.ofNat ko)), .val (.int (Int32.ofNat kd)), .val (.int (Int32.ofNat kp)), .val (.int (Int32.ofNat ka)), .unset, .unset, .unset, .unset, .unset, .unset, .unset, .unset, .unset] [(.double (own_K kd)), (.double (own_K ko)), (.ref b37), (.ref b37)])) _
    refine XS.iload X37.here hx rfl (hb hby at_42) rfl ?_
    show Steps p.tables e below (T37.setTop (mkF m 44 #[.val (.int p0), .val (.int p1), .val (.int p2), .val (.int p3), .val (.int (Int32.ofNat ko)), .val (.int (Int32.ofNat kd)), .val (.int (Int32.ofNat kp)), .val (.int (Int32.ofNat ka)), .unset, .unset, .unset, .unset, .unset, .unset, .unset, .unset, .unset] [(.int (Int32.ofNat kp)), (.double (own_K kd)), (.double (own_K ko)), (.ref b37), (.ref b37)])) _
    refine XS.i2dS X37.here hx rfl (hb hby at_44) rfl rfl ?_
    show Steps p.tables e below (T37.setTop (mkF m 45 #[.val (.int p0), .val (.int p1), .val (.int p2), .val (.int p3), .val (.int (Int32.ofNat ko)), .val (.int (Int32.ofNat kd)), .val (.int (Int32.ofNat kp)), .val (.int (Int32.ofNat ka)), .unset, .unset, .unset, .unset, .unset, .unset, .unset, .unset, .unset] [(.double (FP.i2d (Int32.ofNat kp))), (.double (own_K kd)), (.double (own_K ko)), (.ref b37), (.ref b37)])) _
    refine X37.ldc2DoubleC hx hown (mvT hZ (hw _ (List.mem_of_getElem? (i := 8) rfl))) (g := (mkF m 45 #[.val (.int p0), .val (.int p1), .val (.int p2), .val (.int p3), .val (.int (Int32.ofNat ko)), .val (.int (Int32.ofNat kd)), .val (.int (Int32.ofNat kp)), .val (.int (Int32.ofNat ka)), .unset, .unset, .unset, .unset, .unset, .unset, .unset, .unset, .unset] [(.double (FP.i2d (Int32.ofNat kp))), (.double (own_K kd)), (.double (own_K ko)), (.ref b37), (.ref b37)])) rfl (hb hby at_45) _ ?_
    show Steps p.tables e below (T37.setTop (mkF m 48 #[.val (.int p0), .val (.int p1), .val (.int p2), .val (.int p3), .val (.int (Int32.ofNat ko)), .val (.int (Int32.ofNat kd)), .val (.int (Int32.ofNat kp)), .val (.int (Int32.ofNat ka)), .unset, .unset, .unset, .unset, .unset, .unset, .unset, .unset, .unset] [(.double (4652218415073722368 : UInt64)), (.double (FP.i2d (Int32.ofNat kp))), (.double (own_K kd)), (.double (own_K ko)), (.ref b37), (.ref b37)])) _
    refine XS.ddivS X37.here hx rfl (hb hby at_48) rfl (own_kn ⟨kp, hkp⟩) rfl ?_
    show Steps p.tables e below (T37.setTop (mkF m 49 #[.val (.int p0), .val (.int p1), .val (.int p2), .val (.int p3), .val (.int (Int32.ofNat ko)), .val (.int (Int32.ofNat kd)), .val (.int (Int32.ofNat kp)), .val (.int (Int32.ofNat ka)), .unset, .unset, .unset, .unset, .unset, .unset, .unset, .unset, .unset] [(.double (own_K kp)), (.double (own_K kd)), (.double (own_K ko)), (.ref b37), (.ref b37)])) _
    refine XS.iload X37.here hx rfl (hb hby at_49) rfl ?_
    show Steps p.tables e below (T37.setTop (mkF m 51 #[.val (.int p0), .val (.int p1), .val (.int p2), .val (.int p3), .val (.int (Int32.ofNat ko)), .val (.int (Int32.ofNat kd)), .val (.int (Int32.ofNat kp)), .val (.int (Int32.ofNat ka)), .unset, .unset, .unset, .unset, .unset, .unset, .unset, .unset, .unset] [(.int (Int32.ofNat ka)), (.double (own_K kp)), (.double (own_K kd)), (.double (own_K ko)), (.ref b37), (.ref b37)])) _
    refine XS.i2dS X37.here hx rfl (hb hby at_51) rfl rfl ?_
    show Steps p.tables e below (T37.setTop (mkF m 52 #[.val (.int p0), .val (.int p1), .val (.int p2), .val (.int p3), .val (.int (Int32.ofNat ko)), .val (.int (Int32.ofNat kd)), .val (.int (Int32.ofNat kp)), .val (.int (Int32.ofNat ka)), .unset, .unset, .unset, .unset, .unset, .unset, .unset, .unset, .unset] [(.double (FP.i2d (Int32.ofNat ka))), (.double (own_K kp)), (.double (own_K kd)), (.double (own_K ko)), (.ref b37), (.ref b37)])) _
    refine X37.ldc2DoubleC hx hown (mvT hZ (hw _ (List.mem_of_getElem? (i := 8) rfl))) (g := (mkF m 52 #[.val (.int p0), .val (.int p1), .val (.int p2), .val (.int p3), .val (.int (Int32.ofNat ko)), .val (.int (Int32.ofNat kd)), .val (.int (Int32.ofNat kp)), .val (.int (Int32.ofNat ka)), .unset, .unset, .unset, .unset, .unset, .unset, .unset, .unset, .unset] [(.double (FP.i2d (Int32.ofNat ka))), (.double (own_K kp)), (.double (own_K kd)), (.double (own_K ko)), (.ref b37), (.ref b37)])) rfl (hb hby at_52) _ ?_
    show Steps p.tables e below (T37.setTop (mkF m 55 #[.val (.int p0), .val (.int p1), .val (.int p2), .val (.int p3), .val (.int (Int32.ofNat ko)), .val (.int (Int32.ofNat kd)), .val (.int (Int32.ofNat kp)), .val (.int (Int32.ofNat ka)), .unset, .unset, .unset, .unset, .unset, .unset, .unset, .unset, .unset] [(.double (4652218415073722368 : UInt64)), (.double (FP.i2d (Int32.ofNat ka))), (.double (own_K kp)), (.double (own_K kd)), (.double (own_K ko)), (.ref b37), (.ref b37)])) _
    refine XS.ddivS X37.here hx rfl (hb hby at_55) rfl (own_kn ⟨ka, hka⟩) rfl ?_
    show Steps p.tables e below (T37.setTop (mkF m 56 #[.val (.int p0), .val (.int p1), .val (.int p2), .val (.int p3), .val (.int (Int32.ofNat ko)), .val (.int (Int32.ofNat kd)), .val (.int (Int32.ofNat kp)), .val (.int (Int32.ofNat ka)), .unset, .unset, .unset, .unset, .unset, .unset, .unset, .unset, .unset] [(.double (own_K ka)), (.double (own_K kp)), (.double (own_K kd)), (.double (own_K ko)), (.ref b37), (.ref b37)])) _
    refine st40.trans ?_
    show Steps p.tables e below (T40.setTop (mkF m 59 #[.val (.int p0), .val (.int p1), .val (.int p2), .val (.int p3), .val (.int (Int32.ofNat ko)), .val (.int (Int32.ofNat kd)), .val (.int (Int32.ofNat kp)), .val (.int (Int32.ofNat ka)), .unset, .unset, .unset, .unset, .unset, .unset, .unset, .unset, .unset] [(.ref b37)])) _
    refine XS.astore X40.here hx rfl (hb hby at_59) rfl rfl (l' := #[.val (.int p0), .val (.int p1), .val (.int p2), .val (.int p3), .val (.int (Int32.ofNat ko)), .val (.int (Int32.ofNat kd)), .val (.int (Int32.ofNat kp)), .val (.int (Int32.ofNat ka)), .val (.ref b37), .unset, .unset, .unset, .unset, .unset, .unset, .unset, .unset]) rfl ?_
    show Steps p.tables e below (T40.setTop (mkF m 61 #[.val (.int p0), .val (.int p1), .val (.int p2), .val (.int p3), .val (.int (Int32.ofNat ko)), .val (.int (Int32.ofNat kd)), .val (.int (Int32.ofNat kp)), .val (.int (Int32.ofNat ka)), .val (.ref b37), .unset, .unset, .unset, .unset, .unset, .unset, .unset, .unset] [])) _
    refine XS.aload X40.here hx rfl (hb hby at_61) rfl rfl ?_
    show Steps p.tables e below (T40.setTop (mkF m 63 #[.val (.int p0), .val (.int p1), .val (.int p2), .val (.int p3), .val (.int (Int32.ofNat ko)), .val (.int (Int32.ofNat kd)), .val (.int (Int32.ofNat kp)), .val (.int (Int32.ofNat ka)), .val (.ref b37), .unset, .unset, .unset, .unset, .unset, .unset, .unset, .unset] [(.ref b37)])) _
    refine st43.trans ?_
    show Steps p.tables e below (T43.setTop (mkF m 66 #[.val (.int p0), .val (.int p1), .val (.int p2), .val (.int p3), .val (.int (Int32.ofNat ko)), .val (.int (Int32.ofNat kd)), .val (.int (Int32.ofNat kp)), .val (.int (Int32.ofNat ka)), .val (.ref b37), .unset, .unset, .unset, .unset, .unset, .unset, .unset, .unset] [(.double (own_v (own_K ko) (own_K kd) (own_K kp) (own_K ka)))])) _
    refine XS.dstore X43.here hx rfl (hb hby at_66) rfl (l' := #[.val (.int p0), .val (.int p1), .val (.int p2), .val (.int p3), .val (.int (Int32.ofNat ko)), .val (.int (Int32.ofNat kd)), .val (.int (Int32.ofNat kp)), .val (.int (Int32.ofNat ka)), .val (.ref b37), .val (.double (own_v (own_K ko) (own_K kd) (own_K kp) (own_K ka))), .second, .unset, .unset, .unset, .unset, .unset, .unset]) rfl ?_
    show Steps p.tables e below (T43.setTop (mkF m 68 #[.val (.int p0), .val (.int p1), .val (.int p2), .val (.int p3), .val (.int (Int32.ofNat ko)), .val (.int (Int32.ofNat kd)), .val (.int (Int32.ofNat kp)), .val (.int (Int32.ofNat ka)), .val (.ref b37), .val (.double (own_v (own_K ko) (own_K kd) (own_K kp) (own_K ka))), .second, .unset, .unset, .unset, .unset, .unset, .unset] [])) _
    refine X43.ldc2Long hx hown (mvT hZ (hw _ (List.mem_of_getElem? (i := 36) rfl))) (g := (mkF m 68 #[.val (.int p0), .val (.int p1), .val (.int p2), .val (.int p3), .val (.int (Int32.ofNat ko)), .val (.int (Int32.ofNat kd)), .val (.int (Int32.ofNat kp)), .val (.int (Int32.ofNat ka)), .val (.ref b37), .val (.double (own_v (own_K ko) (own_K kd) (own_K kp) (own_K ka))), .second, .unset, .unset, .unset, .unset, .unset, .unset] [])) rfl (hb hby at_68) _ ?_
    show Steps p.tables e below (T43.setTop (mkF m 71 #[.val (.int p0), .val (.int p1), .val (.int p2), .val (.int p3), .val (.int (Int32.ofNat ko)), .val (.int (Int32.ofNat kd)), .val (.int (Int32.ofNat kp)), .val (.int (Int32.ofNat ka)), .val (.ref b37), .val (.double (own_v (own_K ko) (own_K kd) (own_K kp) (own_K ka))), .second, .unset, .unset, .unset, .unset, .unset, .unset] [(.long (5 : Int64))])) _
    refine XS.iload X43.here hx rfl (hb hby at_71) rfl ?_
    show Steps p.tables e below (T43.setTop (mkF m 73 #[.val (.int p0), .val (.int p1), .val (.int p2), .val (.int p3), .val (.int (Int32.ofNat ko)), .val (.int (Int32.ofNat kd)), .val (.int (Int32.ofNat kp)), .val (.int (Int32.ofNat ka)), .val (.ref b37), .val (.double (own_v (own_K ko) (own_K kd) (own_K kp) (own_K ka))), .second, .unset, .unset, .unset, .unset, .unset, .unset] [(.int (Int32.ofNat ko)), (.long (5 : Int64))])) _
    refine XS.i2l X43.here hx rfl (hb hby at_73) rfl ?_
    show Steps p.tables e below (T43.setTop (mkF m 74 #[.val (.int p0), .val (.int p1), .val (.int p2), .val (.int p3), .val (.int (Int32.ofNat ko)), .val (.int (Int32.ofNat kd)), .val (.int (Int32.ofNat kp)), .val (.int (Int32.ofNat ka)), .val (.ref b37), .val (.double (own_v (own_K ko) (own_K kd) (own_K kp) (own_K ka))), .second, .unset, .unset, .unset, .unset, .unset, .unset] [(.long ((Int32.ofNat ko).toInt64)), (.long (5 : Int64))])) _
    refine XS.lmul X43.here hx rfl (hb hby at_74) rfl ?_
    show Steps p.tables e below (T43.setTop (mkF m 75 #[.val (.int p0), .val (.int p1), .val (.int p2), .val (.int p3), .val (.int (Int32.ofNat ko)), .val (.int (Int32.ofNat kd)), .val (.int (Int32.ofNat kp)), .val (.int (Int32.ofNat ka)), .val (.ref b37), .val (.double (own_v (own_K ko) (own_K kd) (own_K kp) (own_K ka))), .second, .unset, .unset, .unset, .unset, .unset, .unset] [(.long ((5 : Int64) * ((Int32.ofNat ko).toInt64)))])) _
    refine X43.ldc2Long hx hown (mvT hZ (hw _ (List.mem_of_getElem? (i := 37) rfl))) (g := (mkF m 75 #[.val (.int p0), .val (.int p1), .val (.int p2), .val (.int p3), .val (.int (Int32.ofNat ko)), .val (.int (Int32.ofNat kd)), .val (.int (Int32.ofNat kp)), .val (.int (Int32.ofNat ka)), .val (.ref b37), .val (.double (own_v (own_K ko) (own_K kd) (own_K kp) (own_K ka))), .second, .unset, .unset, .unset, .unset, .unset, .unset] [(.long ((5 : Int64) * ((Int32.ofNat ko).toInt64)))])) rfl (hb hby at_75) _ ?_
    show Steps p.tables e below (T43.setTop (mkF m 78 #[.val (.int p0), .val (.int p1), .val (.int p2), .val (.int p3), .val (.int (Int32.ofNat ko)), .val (.int (Int32.ofNat kd)), .val (.int (Int32.ofNat kp)), .val (.int (Int32.ofNat ka)), .val (.ref b37), .val (.double (own_v (own_K ko) (own_K kd) (own_K kp) (own_K ka))), .second, .unset, .unset, .unset, .unset, .unset, .unset] [(.long (2 : Int64)), (.long ((5 : Int64) * ((Int32.ofNat ko).toInt64)))])) _
    refine XS.iload X43.here hx rfl (hb hby at_78) rfl ?_
    show Steps p.tables e below (T43.setTop (mkF m 80 #[.val (.int p0), .val (.int p1), .val (.int p2), .val (.int p3), .val (.int (Int32.ofNat ko)), .val (.int (Int32.ofNat kd)), .val (.int (Int32.ofNat kp)), .val (.int (Int32.ofNat ka)), .val (.ref b37), .val (.double (own_v (own_K ko) (own_K kd) (own_K kp) (own_K ka))), .second, .unset, .unset, .unset, .unset, .unset, .unset] [(.int (Int32.ofNat kd)), (.long (2 : Int64)), (.long ((5 : Int64) * ((Int32.ofNat ko).toInt64)))])) _
    refine XS.i2l X43.here hx rfl (hb hby at_80) rfl ?_
    show Steps p.tables e below (T43.setTop (mkF m 81 #[.val (.int p0), .val (.int p1), .val (.int p2), .val (.int p3), .val (.int (Int32.ofNat ko)), .val (.int (Int32.ofNat kd)), .val (.int (Int32.ofNat kp)), .val (.int (Int32.ofNat ka)), .val (.ref b37), .val (.double (own_v (own_K ko) (own_K kd) (own_K kp) (own_K ka))), .second, .unset, .unset, .unset, .unset, .unset, .unset] [(.long ((Int32.ofNat kd).toInt64)), (.long (2 : Int64)), (.long ((5 : Int64) * ((Int32.ofNat ko).toInt64)))])) _
    refine XS.lmul X43.here hx rfl (hb hby at_81) rfl ?_
    show Steps p.tables e below (T43.setTop (mkF m 82 #[.val (.int p0), .val (.int p1), .val (.int p2), .val (.int p3), .val (.int (Int32.ofNat ko)), .val (.int (Int32.ofNat kd)), .val (.int (Int32.ofNat kp)), .val (.int (Int32.ofNat ka)), .val (.ref b37), .val (.double (own_v (own_K ko) (own_K kd) (own_K kp) (own_K ka))), .second, .unset, .unset, .unset, .unset, .unset, .unset] [(.long ((2 : Int64) * ((Int32.ofNat kd).toInt64))), (.long ((5 : Int64) * ((Int32.ofNat ko).toInt64)))])) _
    refine XS.ladd X43.here hx rfl (hb hby at_82) rfl ?_
    show Steps p.tables e below (T43.setTop (mkF m 83 #[.val (.int p0), .val (.int p1), .val (.int p2), .val (.int p3), .val (.int (Int32.ofNat ko)), .val (.int (Int32.ofNat kd)), .val (.int (Int32.ofNat kp)), .val (.int (Int32.ofNat ka)), .val (.ref b37), .val (.double (own_v (own_K ko) (own_K kd) (own_K kp) (own_K ka))), .second, .unset, .unset, .unset, .unset, .unset, .unset] [(.long (((5 : Int64) * ((Int32.ofNat ko).toInt64)) + ((2 : Int64) * ((Int32.ofNat kd).toInt64))))])) _
    refine X43.ldc2Long hx hown (mvT hZ (hw _ (List.mem_of_getElem? (i := 37) rfl))) (g := (mkF m 83 #[.val (.int p0), .val (.int p1), .val (.int p2), .val (.int p3), .val (.int (Int32.ofNat ko)), .val (.int (Int32.ofNat kd)), .val (.int (Int32.ofNat kp)), .val (.int (Int32.ofNat ka)), .val (.ref b37), .val (.double (own_v (own_K ko) (own_K kd) (own_K kp) (own_K ka))), .second, .unset, .unset, .unset, .unset, .unset, .unset] [(.long (((5 : Int64) * ((Int32.ofNat ko).toInt64)) + ((2 : Int64) * ((Int32.ofNat kd).toInt64))))])) rfl (hb hby at_83) _ ?_
    show Steps p.tables e below (T43.setTop (mkF m 86 #[.val (.int p0), .val (.int p1), .val (.int p2), .val (.int p3), .val (.int (Int32.ofNat ko)), .val (.int (Int32.ofNat kd)), .val (.int (Int32.ofNat kp)), .val (.int (Int32.ofNat ka)), .val (.ref b37), .val (.double (own_v (own_K ko) (own_K kd) (own_K kp) (own_K ka))), .second, .unset, .unset, .unset, .unset, .unset, .unset] [(.long (2 : Int64)), (.long (((5 : Int64) * ((Int32.ofNat ko).toInt64)) + ((2 : Int64) * ((Int32.ofNat kd).toInt64))))])) _
    refine XS.iload X43.here hx rfl (hb hby at_86) rfl ?_
    show Steps p.tables e below (T43.setTop (mkF m 88 #[.val (.int p0), .val (.int p1), .val (.int p2), .val (.int p3), .val (.int (Int32.ofNat ko)), .val (.int (Int32.ofNat kd)), .val (.int (Int32.ofNat kp)), .val (.int (Int32.ofNat ka)), .val (.ref b37), .val (.double (own_v (own_K ko) (own_K kd) (own_K kp) (own_K ka))), .second, .unset, .unset, .unset, .unset, .unset, .unset] [(.int (Int32.ofNat kp)), (.long (2 : Int64)), (.long (((5 : Int64) * ((Int32.ofNat ko).toInt64)) + ((2 : Int64) * ((Int32.ofNat kd).toInt64))))])) _
    refine XS.i2l X43.here hx rfl (hb hby at_88) rfl ?_
    show Steps p.tables e below (T43.setTop (mkF m 89 #[.val (.int p0), .val (.int p1), .val (.int p2), .val (.int p3), .val (.int (Int32.ofNat ko)), .val (.int (Int32.ofNat kd)), .val (.int (Int32.ofNat kp)), .val (.int (Int32.ofNat ka)), .val (.ref b37), .val (.double (own_v (own_K ko) (own_K kd) (own_K kp) (own_K ka))), .second, .unset, .unset, .unset, .unset, .unset, .unset] [(.long ((Int32.ofNat kp).toInt64)), (.long (2 : Int64)), (.long (((5 : Int64) * ((Int32.ofNat ko).toInt64)) + ((2 : Int64) * ((Int32.ofNat kd).toInt64))))])) _
    refine XS.lmul X43.here hx rfl (hb hby at_89) rfl ?_
    show Steps p.tables e below (T43.setTop (mkF m 90 #[.val (.int p0), .val (.int p1), .val (.int p2), .val (.int p3), .val (.int (Int32.ofNat ko)), .val (.int (Int32.ofNat kd)), .val (.int (Int32.ofNat kp)), .val (.int (Int32.ofNat ka)), .val (.ref b37), .val (.double (own_v (own_K ko) (own_K kd) (own_K kp) (own_K ka))), .second, .unset, .unset, .unset, .unset, .unset, .unset] [(.long ((2 : Int64) * ((Int32.ofNat kp).toInt64))), (.long (((5 : Int64) * ((Int32.ofNat ko).toInt64)) + ((2 : Int64) * ((Int32.ofNat kd).toInt64))))])) _
    refine XS.ladd X43.here hx rfl (hb hby at_90) rfl ?_
    show Steps p.tables e below (T43.setTop (mkF m 91 #[.val (.int p0), .val (.int p1), .val (.int p2), .val (.int p3), .val (.int (Int32.ofNat ko)), .val (.int (Int32.ofNat kd)), .val (.int (Int32.ofNat kp)), .val (.int (Int32.ofNat ka)), .val (.ref b37), .val (.double (own_v (own_K ko) (own_K kd) (own_K kp) (own_K ka))), .second, .unset, .unset, .unset, .unset, .unset, .unset] [(.long ((((5 : Int64) * ((Int32.ofNat ko).toInt64)) + ((2 : Int64) * ((Int32.ofNat kd).toInt64))) + ((2 : Int64) * ((Int32.ofNat kp).toInt64))))])) _
    refine XS.iload X43.here hx rfl (hb hby at_91) rfl ?_
    show Steps p.tables e below (T43.setTop (mkF m 93 #[.val (.int p0), .val (.int p1), .val (.int p2), .val (.int p3), .val (.int (Int32.ofNat ko)), .val (.int (Int32.ofNat kd)), .val (.int (Int32.ofNat kp)), .val (.int (Int32.ofNat ka)), .val (.ref b37), .val (.double (own_v (own_K ko) (own_K kd) (own_K kp) (own_K ka))), .second, .unset, .unset, .unset, .unset, .unset, .unset] [(.int (Int32.ofNat ka)), (.long ((((5 : Int64) * ((Int32.ofNat ko).toInt64)) + ((2 : Int64) * ((Int32.ofNat kd).toInt64))) + ((2 : Int64) * ((Int32.ofNat kp).toInt64))))])) _
    refine XS.i2l X43.here hx rfl (hb hby at_93) rfl ?_
    show Steps p.tables e below (T43.setTop (mkF m 94 #[.val (.int p0), .val (.int p1), .val (.int p2), .val (.int p3), .val (.int (Int32.ofNat ko)), .val (.int (Int32.ofNat kd)), .val (.int (Int32.ofNat kp)), .val (.int (Int32.ofNat ka)), .val (.ref b37), .val (.double (own_v (own_K ko) (own_K kd) (own_K kp) (own_K ka))), .second, .unset, .unset, .unset, .unset, .unset, .unset] [(.long ((Int32.ofNat ka).toInt64)), (.long ((((5 : Int64) * ((Int32.ofNat ko).toInt64)) + ((2 : Int64) * ((Int32.ofNat kd).toInt64))) + ((2 : Int64) * ((Int32.ofNat kp).toInt64))))])) _
    refine XS.ladd X43.here hx rfl (hb hby at_94) rfl ?_
    show Steps p.tables e below (T43.setTop (mkF m 95 #[.val (.int p0), .val (.int p1), .val (.int p2), .val (.int p3), .val (.int (Int32.ofNat ko)), .val (.int (Int32.ofNat kd)), .val (.int (Int32.ofNat kp)), .val (.int (Int32.ofNat ka)), .val (.ref b37), .val (.double (own_v (own_K ko) (own_K kd) (own_K kp) (own_K ka))), .second, .unset, .unset, .unset, .unset, .unset, .unset] [(.long (((((5 : Int64) * ((Int32.ofNat ko).toInt64)) + ((2 : Int64) * ((Int32.ofNat kd).toInt64))) + ((2 : Int64) * ((Int32.ofNat kp).toInt64))) + ((Int32.ofNat ka).toInt64)))])) _
    refine XS.lstore X43.here hx rfl (hb hby at_95) rfl (l' := #[.val (.int p0), .val (.int p1), .val (.int p2), .val (.int p3), .val (.int (Int32.ofNat ko)), .val (.int (Int32.ofNat kd)), .val (.int (Int32.ofNat kp)), .val (.int (Int32.ofNat ka)), .val (.ref b37), .val (.double (own_v (own_K ko) (own_K kd) (own_K kp) (own_K ka))), .second, .val (.long (((((5 : Int64) * ((Int32.ofNat ko).toInt64)) + ((2 : Int64) * ((Int32.ofNat kd).toInt64))) + ((2 : Int64) * ((Int32.ofNat kp).toInt64))) + ((Int32.ofNat ka).toInt64))), .second, .unset, .unset, .unset, .unset]) rfl ?_
    show Steps p.tables e below (T43.setTop (mkF m 97 #[.val (.int p0), .val (.int p1), .val (.int p2), .val (.int p3), .val (.int (Int32.ofNat ko)), .val (.int (Int32.ofNat kd)), .val (.int (Int32.ofNat kp)), .val (.int (Int32.ofNat ka)), .val (.ref b37), .val (.double (own_v (own_K ko) (own_K kd) (own_K kp) (own_K ka))), .second, .val (.long (((((5 : Int64) * ((Int32.ofNat ko).toInt64)) + ((2 : Int64) * ((Int32.ofNat kd).toInt64))) + ((2 : Int64) * ((Int32.ofNat kp).toInt64))) + ((Int32.ofNat ka).toInt64))), .second, .unset, .unset, .unset, .unset] [])) _
    refine XS.dload X43.here hx rfl (hb hby at_97) rfl ?_
    show Steps p.tables e below (T43.setTop (mkF m 99 #[.val (.int p0), .val (.int p1), .val (.int p2), .val (.int p3), .val (.int (Int32.ofNat ko)), .val (.int (Int32.ofNat kd)), .val (.int (Int32.ofNat kp)), .val (.int (Int32.ofNat ka)), .val (.ref b37), .val (.double (own_v (own_K ko) (own_K kd) (own_K kp) (own_K ka))), .second, .val (.long (((((5 : Int64) * ((Int32.ofNat ko).toInt64)) + ((2 : Int64) * ((Int32.ofNat kd).toInt64))) + ((2 : Int64) * ((Int32.ofNat kp).toInt64))) + ((Int32.ofNat ka).toInt64))), .second, .unset, .unset, .unset, .unset] [(.double (own_v (own_K ko) (own_K kd) (own_K kp) (own_K ka)))])) _
    refine X43.ldc2DoubleC hx hown (mvT hZ (hw _ (List.mem_of_getElem? (i := 38) rfl))) (g := (mkF m 99 #[.val (.int p0), .val (.int p1), .val (.int p2), .val (.int p3), .val (.int (Int32.ofNat ko)), .val (.int (Int32.ofNat kd)), .val (.int (Int32.ofNat kp)), .val (.int (Int32.ofNat ka)), .val (.ref b37), .val (.double (own_v (own_K ko) (own_K kd) (own_K kp) (own_K ka))), .second, .val (.long (((((5 : Int64) * ((Int32.ofNat ko).toInt64)) + ((2 : Int64) * ((Int32.ofNat kd).toInt64))) + ((2 : Int64) * ((Int32.ofNat kp).toInt64))) + ((Int32.ofNat ka).toInt64))), .second, .unset, .unset, .unset, .unset] [(.double (own_v (own_K ko) (own_K kd) (own_K kp) (own_K ka)))])) rfl (hb hby at_99) _ ?_
    show Steps p.tables e below (T43.setTop (mkF m 102 #[.val (.int p0), .val (.int p1), .val (.int p2), .val (.int p3), .val (.int (Int32.ofNat ko)), .val (.int (Int32.ofNat kd)), .val (.int (Int32.ofNat kp)), .val (.int (Int32.ofNat ka)), .val (.ref b37), .val (.double (own_v (own_K ko) (own_K kd) (own_K kp) (own_K ka))), .second, .val (.long (((((5 : Int64) * ((Int32.ofNat ko).toInt64)) + ((2 : Int64) * ((Int32.ofNat kd).toInt64))) + ((2 : Int64) * ((Int32.ofNat kp).toInt64))) + ((Int32.ofNat ka).toInt64))), .second, .unset, .unset, .unset, .unset] [(.double (4666855113862676480 : UInt64)), (.double (own_v (own_K ko) (own_K kd) (own_K kp) (own_K ka)))])) _
    refine XS.dmulS X43.here hx rfl (hb hby at_102) rfl n1 rfl ?_
    show Steps p.tables e below (T43.setTop (mkF m 103 #[.val (.int p0), .val (.int p1), .val (.int p2), .val (.int p3), .val (.int (Int32.ofNat ko)), .val (.int (Int32.ofNat kd)), .val (.int (Int32.ofNat kp)), .val (.int (Int32.ofNat ka)), .val (.ref b37), .val (.double (own_v (own_K ko) (own_K kd) (own_K kp) (own_K ka))), .second, .val (.long (((((5 : Int64) * ((Int32.ofNat ko).toInt64)) + ((2 : Int64) * ((Int32.ofNat kd).toInt64))) + ((2 : Int64) * ((Int32.ofNat kp).toInt64))) + ((Int32.ofNat ka).toInt64))), .second, .unset, .unset, .unset, .unset] [(.double (FP.dmul (own_v (own_K ko) (own_K kd) (own_K kp) (own_K ka)) (4666855113862676480 : UInt64)))])) _
    refine XS.lload X43.here hx rfl (hb hby at_103) rfl ?_
    show Steps p.tables e below (T43.setTop (mkF m 105 #[.val (.int p0), .val (.int p1), .val (.int p2), .val (.int p3), .val (.int (Int32.ofNat ko)), .val (.int (Int32.ofNat kd)), .val (.int (Int32.ofNat kp)), .val (.int (Int32.ofNat ka)), .val (.ref b37), .val (.double (own_v (own_K ko) (own_K kd) (own_K kp) (own_K ka))), .second, .val (.long (((((5 : Int64) * ((Int32.ofNat ko).toInt64)) + ((2 : Int64) * ((Int32.ofNat kd).toInt64))) + ((2 : Int64) * ((Int32.ofNat kp).toInt64))) + ((Int32.ofNat ka).toInt64))), .second, .unset, .unset, .unset, .unset] [(.long (((((5 : Int64) * ((Int32.ofNat ko).toInt64)) + ((2 : Int64) * ((Int32.ofNat kd).toInt64))) + ((2 : Int64) * ((Int32.ofNat kp).toInt64))) + ((Int32.ofNat ka).toInt64))), (.double (FP.dmul (own_v (own_K ko) (own_K kd) (own_K kp) (own_K ka)) (4666855113862676480 : UInt64)))])) _
    refine XS.l2dS X43.here hx rfl (hb hby at_105) rfl rfl ?_
    show Steps p.tables e below (T43.setTop (mkF m 106 #[.val (.int p0), .val (.int p1), .val (.int p2), .val (.int p3), .val (.int (Int32.ofNat ko)), .val (.int (Int32.ofNat kd)), .val (.int (Int32.ofNat kp)), .val (.int (Int32.ofNat ka)), .val (.ref b37), .val (.double (own_v (own_K ko) (own_K kd) (own_K kp) (own_K ka))), .second, .val (.long (((((5 : Int64) * ((Int32.ofNat ko).toInt64)) + ((2 : Int64) * ((Int32.ofNat kd).toInt64))) + ((2 : Int64) * ((Int32.ofNat kp).toInt64))) + ((Int32.ofNat ka).toInt64))), .second, .unset, .unset, .unset, .unset] [(.double (FP.l2d (((((5 : Int64) * ((Int32.ofNat ko).toInt64)) + ((2 : Int64) * ((Int32.ofNat kd).toInt64))) + ((2 : Int64) * ((Int32.ofNat kp).toInt64))) + ((Int32.ofNat ka).toInt64)))), (.double (FP.dmul (own_v (own_K ko) (own_K kd) (own_K kp) (own_K ka)) (4666855113862676480 : UInt64)))])) _
    refine XS.dsubS X43.here hx rfl (hb hby at_106) rfl n2 rfl ?_
    show Steps p.tables e below (T43.setTop (mkF m 107 #[.val (.int p0), .val (.int p1), .val (.int p2), .val (.int p3), .val (.int (Int32.ofNat ko)), .val (.int (Int32.ofNat kd)), .val (.int (Int32.ofNat kp)), .val (.int (Int32.ofNat ka)), .val (.ref b37), .val (.double (own_v (own_K ko) (own_K kd) (own_K kp) (own_K ka))), .second, .val (.long (((((5 : Int64) * ((Int32.ofNat ko).toInt64)) + ((2 : Int64) * ((Int32.ofNat kd).toInt64))) + ((2 : Int64) * ((Int32.ofNat kp).toInt64))) + ((Int32.ofNat ka).toInt64))), .second, .unset, .unset, .unset, .unset] [(.double (FP.dsub (FP.dmul (own_v (own_K ko) (own_K kd) (own_K kp) (own_K ka)) (4666855113862676480 : UInt64)) (FP.l2d (((((5 : Int64) * ((Int32.ofNat ko).toInt64)) + ((2 : Int64) * ((Int32.ofNat kd).toInt64))) + ((2 : Int64) * ((Int32.ofNat kp).toInt64))) + ((Int32.ofNat ka).toInt64)))))])) _
    refine XS.dstore X43.here hx rfl (hb hby at_107) rfl (l' := #[.val (.int p0), .val (.int p1), .val (.int p2), .val (.int p3), .val (.int (Int32.ofNat ko)), .val (.int (Int32.ofNat kd)), .val (.int (Int32.ofNat kp)), .val (.int (Int32.ofNat ka)), .val (.ref b37), .val (.double (own_v (own_K ko) (own_K kd) (own_K kp) (own_K ka))), .second, .val (.long (((((5 : Int64) * ((Int32.ofNat ko).toInt64)) + ((2 : Int64) * ((Int32.ofNat kd).toInt64))) + ((2 : Int64) * ((Int32.ofNat kp).toInt64))) + ((Int32.ofNat ka).toInt64))), .second, .val (.double (FP.dsub (FP.dmul (own_v (own_K ko) (own_K kd) (own_K kp) (own_K ka)) (4666855113862676480 : UInt64)) (FP.l2d (((((5 : Int64) * ((Int32.ofNat ko).toInt64)) + ((2 : Int64) * ((Int32.ofNat kd).toInt64))) + ((2 : Int64) * ((Int32.ofNat kp).toInt64))) + ((Int32.ofNat ka).toInt64))))), .second, .unset, .unset]) rfl ?_
    show Steps p.tables e below (T43.setTop (mkF m 109 #[.val (.int p0), .val (.int p1), .val (.int p2), .val (.int p3), .val (.int (Int32.ofNat ko)), .val (.int (Int32.ofNat kd)), .val (.int (Int32.ofNat kp)), .val (.int (Int32.ofNat ka)), .val (.ref b37), .val (.double (own_v (own_K ko) (own_K kd) (own_K kp) (own_K ka))), .second, .val (.long (((((5 : Int64) * ((Int32.ofNat ko).toInt64)) + ((2 : Int64) * ((Int32.ofNat kd).toInt64))) + ((2 : Int64) * ((Int32.ofNat kp).toInt64))) + ((Int32.ofNat ka).toInt64))), .second, .val (.double (FP.dsub (FP.dmul (own_v (own_K ko) (own_K kd) (own_K kp) (own_K ka)) (4666855113862676480 : UInt64)) (FP.l2d (((((5 : Int64) * ((Int32.ofNat ko).toInt64)) + ((2 : Int64) * ((Int32.ofNat kd).toInt64))) + ((2 : Int64) * ((Int32.ofNat kp).toInt64))) + ((Int32.ofNat ka).toInt64))))), .second, .unset, .unset] [])) _
    refine XS.dload X43.here hx rfl (hb hby at_109) rfl ?_
    show Steps p.tables e below (T43.setTop (mkF m 111 #[.val (.int p0), .val (.int p1), .val (.int p2), .val (.int p3), .val (.int (Int32.ofNat ko)), .val (.int (Int32.ofNat kd)), .val (.int (Int32.ofNat kp)), .val (.int (Int32.ofNat ka)), .val (.ref b37), .val (.double (own_v (own_K ko) (own_K kd) (own_K kp) (own_K ka))), .second, .val (.long (((((5 : Int64) * ((Int32.ofNat ko).toInt64)) + ((2 : Int64) * ((Int32.ofNat kd).toInt64))) + ((2 : Int64) * ((Int32.ofNat kp).toInt64))) + ((Int32.ofNat ka).toInt64))), .second, .val (.double (FP.dsub (FP.dmul (own_v (own_K ko) (own_K kd) (own_K kp) (own_K ka)) (4666855113862676480 : UInt64)) (FP.l2d (((((5 : Int64) * ((Int32.ofNat ko).toInt64)) + ((2 : Int64) * ((Int32.ofNat kd).toInt64))) + ((2 : Int64) * ((Int32.ofNat kp).toInt64))) + ((Int32.ofNat ka).toInt64))))), .second, .unset, .unset] [(.double (FP.dsub (FP.dmul (own_v (own_K ko) (own_K kd) (own_K kp) (own_K ka)) (4666855113862676480 : UInt64)) (FP.l2d (((((5 : Int64) * ((Int32.ofNat ko).toInt64)) + ((2 : Int64) * ((Int32.ofNat kd).toInt64))) + ((2 : Int64) * ((Int32.ofNat kp).toInt64))) + ((Int32.ofNat ka).toInt64)))))])) _
    refine X43.ldc2DoubleC hx hown (mvT hZ (hw _ (List.mem_of_getElem? (i := 39) rfl))) (g := (mkF m 111 #[.val (.int p0), .val (.int p1), .val (.int p2), .val (.int p3), .val (.int (Int32.ofNat ko)), .val (.int (Int32.ofNat kd)), .val (.int (Int32.ofNat kp)), .val (.int (Int32.ofNat ka)), .val (.ref b37), .val (.double (own_v (own_K ko) (own_K kd) (own_K kp) (own_K ka))), .second, .val (.long (((((5 : Int64) * ((Int32.ofNat ko).toInt64)) + ((2 : Int64) * ((Int32.ofNat kd).toInt64))) + ((2 : Int64) * ((Int32.ofNat kp).toInt64))) + ((Int32.ofNat ka).toInt64))), .second, .val (.double (FP.dsub (FP.dmul (own_v (own_K ko) (own_K kd) (own_K kp) (own_K ka)) (4666855113862676480 : UInt64)) (FP.l2d (((((5 : Int64) * ((Int32.ofNat ko).toInt64)) + ((2 : Int64) * ((Int32.ofNat kd).toInt64))) + ((2 : Int64) * ((Int32.ofNat kp).toInt64))) + ((Int32.ofNat ka).toInt64))))), .second, .unset, .unset] [(.double (FP.dsub (FP.dmul (own_v (own_K ko) (own_K kd) (own_K kp) (own_K ka)) (4666855113862676480 : UInt64)) (FP.l2d (((((5 : Int64) * ((Int32.ofNat ko).toInt64)) + ((2 : Int64) * ((Int32.ofNat kd).toInt64))) + ((2 : Int64) * ((Int32.ofNat kp).toInt64))) + ((Int32.ofNat ka).toInt64)))))])) rfl (hb hby at_111) _ ?_
    show Steps p.tables e below (T43.setTop (mkF m 114 #[.val (.int p0), .val (.int p1), .val (.int p2), .val (.int p3), .val (.int (Int32.ofNat ko)), .val (.int (Int32.ofNat kd)), .val (.int (Int32.ofNat kp)), .val (.int (Int32.ofNat ka)), .val (.ref b37), .val (.double (own_v (own_K ko) (own_K kd) (own_K kp) (own_K ka))), .second, .val (.long (((((5 : Int64) * ((Int32.ofNat ko).toInt64)) + ((2 : Int64) * ((Int32.ofNat kd).toInt64))) + ((2 : Int64) * ((Int32.ofNat kp).toInt64))) + ((Int32.ofNat ka).toInt64))), .second, .val (.double (FP.dsub (FP.dmul (own_v (own_K ko) (own_K kd) (own_K kp) (own_K ka)) (4666855113862676480 : UInt64)) (FP.l2d (((((5 : Int64) * ((Int32.ofNat ko).toInt64)) + ((2 : Int64) * ((Int32.ofNat kd).toInt64))) + ((2 : Int64) * ((Int32.ofNat kp).toInt64))) + ((Int32.ofNat ka).toInt64))))), .second, .unset, .unset] [(.double (4517329193108106637 : UInt64)), (.double (FP.dsub (FP.dmul (own_v (own_K ko) (own_K kd) (own_K kp) (own_K ka)) (4666855113862676480 : UInt64)) (FP.l2d (((((5 : Int64) * ((Int32.ofNat ko).toInt64)) + ((2 : Int64) * ((Int32.ofNat kd).toInt64))) + ((2 : Int64) * ((Int32.ofNat kp).toInt64))) + ((Int32.ofNat ka).toInt64)))))])) _
    refine XS.dcmpS X43.here hx rfl (v := (-1 : Int32)) (hb hby at_114) rfl (by rw [c1]; rfl) ?_
    show Steps p.tables e below (T43.setTop (mkF m 115 #[.val (.int p0), .val (.int p1), .val (.int p2), .val (.int p3), .val (.int (Int32.ofNat ko)), .val (.int (Int32.ofNat kd)), .val (.int (Int32.ofNat kp)), .val (.int (Int32.ofNat ka)), .val (.ref b37), .val (.double (own_v (own_K ko) (own_K kd) (own_K kp) (own_K ka))), .second, .val (.long (((((5 : Int64) * ((Int32.ofNat ko).toInt64)) + ((2 : Int64) * ((Int32.ofNat kd).toInt64))) + ((2 : Int64) * ((Int32.ofNat kp).toInt64))) + ((Int32.ofNat ka).toInt64))), .second, .val (.double (FP.dsub (FP.dmul (own_v (own_K ko) (own_K kd) (own_K kp) (own_K ka)) (4666855113862676480 : UInt64)) (FP.l2d (((((5 : Int64) * ((Int32.ofNat ko).toInt64)) + ((2 : Int64) * ((Int32.ofNat kd).toInt64))) + ((2 : Int64) * ((Int32.ofNat kp).toInt64))) + ((Int32.ofNat ka).toInt64))))), .second, .unset, .unset] [(.int (-1 : Int32))])) _
    refine XS.ifNo X43.here hx rfl (hb hby at_115) rfl ((if0 _ _).trans (tlt (by decide)).2.1) ?_
    show Steps p.tables e below (T43.setTop (mkF m 118 #[.val (.int p0), .val (.int p1), .val (.int p2), .val (.int p3), .val (.int (Int32.ofNat ko)), .val (.int (Int32.ofNat kd)), .val (.int (Int32.ofNat kp)), .val (.int (Int32.ofNat ka)), .val (.ref b37), .val (.double (own_v (own_K ko) (own_K kd) (own_K kp) (own_K ka))), .second, .val (.long (((((5 : Int64) * ((Int32.ofNat ko).toInt64)) + ((2 : Int64) * ((Int32.ofNat kd).toInt64))) + ((2 : Int64) * ((Int32.ofNat kp).toInt64))) + ((Int32.ofNat ka).toInt64))), .second, .val (.double (FP.dsub (FP.dmul (own_v (own_K ko) (own_K kd) (own_K kp) (own_K ka)) (4666855113862676480 : UInt64)) (FP.l2d (((((5 : Int64) * ((Int32.ofNat ko).toInt64)) + ((2 : Int64) * ((Int32.ofNat kd).toInt64))) + ((2 : Int64) * ((Int32.ofNat kp).toInt64))) + ((Int32.ofNat ka).toInt64))))), .second, .unset, .unset] [])) _
    refine X43.ldc2DoubleC hx hown (mvT hZ (hw _ (List.mem_of_getElem? (i := 40) rfl))) (g := (mkF m 118 #[.val (.int p0), .val (.int p1), .val (.int p2), .val (.int p3), .val (.int (Int32.ofNat ko)), .val (.int (Int32.ofNat kd)), .val (.int (Int32.ofNat kp)), .val (.int (Int32.ofNat ka)), .val (.ref b37), .val (.double (own_v (own_K ko) (own_K kd) (own_K kp) (own_K ka))), .second, .val (.long (((((5 : Int64) * ((Int32.ofNat ko).toInt64)) + ((2 : Int64) * ((Int32.ofNat kd).toInt64))) + ((2 : Int64) * ((Int32.ofNat kp).toInt64))) + ((Int32.ofNat ka).toInt64))), .second, .val (.double (FP.dsub (FP.dmul (own_v (own_K ko) (own_K kd) (own_K kp) (own_K ka)) (4666855113862676480 : UInt64)) (FP.l2d (((((5 : Int64) * ((Int32.ofNat ko).toInt64)) + ((2 : Int64) * ((Int32.ofNat kd).toInt64))) + ((2 : Int64) * ((Int32.ofNat kp).toInt64))) + ((Int32.ofNat ka).toInt64))))), .second, .unset, .unset] [])) rfl (hb hby at_118) _ ?_
    show Steps p.tables e below (T43.setTop (mkF m 121 #[.val (.int p0), .val (.int p1), .val (.int p2), .val (.int p3), .val (.int (Int32.ofNat ko)), .val (.int (Int32.ofNat kd)), .val (.int (Int32.ofNat kp)), .val (.int (Int32.ofNat ka)), .val (.ref b37), .val (.double (own_v (own_K ko) (own_K kd) (own_K kp) (own_K ka))), .second, .val (.long (((((5 : Int64) * ((Int32.ofNat ko).toInt64)) + ((2 : Int64) * ((Int32.ofNat kd).toInt64))) + ((2 : Int64) * ((Int32.ofNat kp).toInt64))) + ((Int32.ofNat ka).toInt64))), .second, .val (.double (FP.dsub (FP.dmul (own_v (own_K ko) (own_K kd) (own_K kp) (own_K ka)) (4666855113862676480 : UInt64)) (FP.l2d (((((5 : Int64) * ((Int32.ofNat ko).toInt64)) + ((2 : Int64) * ((Int32.ofNat kd).toInt64))) + ((2 : Int64) * ((Int32.ofNat kp).toInt64))) + ((Int32.ofNat ka).toInt64))))), .second, .unset, .unset] [(.double (13740701229962882445 : UInt64))])) _
    refine XS.dload X43.here hx rfl (hb hby at_121) rfl ?_
    show Steps p.tables e below (T43.setTop (mkF m 123 #[.val (.int p0), .val (.int p1), .val (.int p2), .val (.int p3), .val (.int (Int32.ofNat ko)), .val (.int (Int32.ofNat kd)), .val (.int (Int32.ofNat kp)), .val (.int (Int32.ofNat ka)), .val (.ref b37), .val (.double (own_v (own_K ko) (own_K kd) (own_K kp) (own_K ka))), .second, .val (.long (((((5 : Int64) * ((Int32.ofNat ko).toInt64)) + ((2 : Int64) * ((Int32.ofNat kd).toInt64))) + ((2 : Int64) * ((Int32.ofNat kp).toInt64))) + ((Int32.ofNat ka).toInt64))), .second, .val (.double (FP.dsub (FP.dmul (own_v (own_K ko) (own_K kd) (own_K kp) (own_K ka)) (4666855113862676480 : UInt64)) (FP.l2d (((((5 : Int64) * ((Int32.ofNat ko).toInt64)) + ((2 : Int64) * ((Int32.ofNat kd).toInt64))) + ((2 : Int64) * ((Int32.ofNat kp).toInt64))) + ((Int32.ofNat ka).toInt64))))), .second, .unset, .unset] [(.double (FP.dsub (FP.dmul (own_v (own_K ko) (own_K kd) (own_K kp) (own_K ka)) (4666855113862676480 : UInt64)) (FP.l2d (((((5 : Int64) * ((Int32.ofNat ko).toInt64)) + ((2 : Int64) * ((Int32.ofNat kd).toInt64))) + ((2 : Int64) * ((Int32.ofNat kp).toInt64))) + ((Int32.ofNat ka).toInt64))))), (.double (13740701229962882445 : UInt64))])) _
    refine XS.dcmpS X43.here hx rfl (v := (-1 : Int32)) (hb hby at_123) rfl (by rw [c2]; rfl) ?_
    show Steps p.tables e below (T43.setTop (mkF m 124 #[.val (.int p0), .val (.int p1), .val (.int p2), .val (.int p3), .val (.int (Int32.ofNat ko)), .val (.int (Int32.ofNat kd)), .val (.int (Int32.ofNat kp)), .val (.int (Int32.ofNat ka)), .val (.ref b37), .val (.double (own_v (own_K ko) (own_K kd) (own_K kp) (own_K ka))), .second, .val (.long (((((5 : Int64) * ((Int32.ofNat ko).toInt64)) + ((2 : Int64) * ((Int32.ofNat kd).toInt64))) + ((2 : Int64) * ((Int32.ofNat kp).toInt64))) + ((Int32.ofNat ka).toInt64))), .second, .val (.double (FP.dsub (FP.dmul (own_v (own_K ko) (own_K kd) (own_K kp) (own_K ka)) (4666855113862676480 : UInt64)) (FP.l2d (((((5 : Int64) * ((Int32.ofNat ko).toInt64)) + ((2 : Int64) * ((Int32.ofNat kd).toInt64))) + ((2 : Int64) * ((Int32.ofNat kp).toInt64))) + ((Int32.ofNat ka).toInt64))))), .second, .unset, .unset] [(.int (-1 : Int32))])) _
    refine XS.ifNo X43.here hx rfl (hb hby at_124) rfl ((if0 _ _).trans (tlt (by decide)).2.1) ?_
    show Steps p.tables e below (T43.setTop (mkF m 127 #[.val (.int p0), .val (.int p1), .val (.int p2), .val (.int p3), .val (.int (Int32.ofNat ko)), .val (.int (Int32.ofNat kd)), .val (.int (Int32.ofNat kp)), .val (.int (Int32.ofNat ka)), .val (.ref b37), .val (.double (own_v (own_K ko) (own_K kd) (own_K kp) (own_K ka))), .second, .val (.long (((((5 : Int64) * ((Int32.ofNat ko).toInt64)) + ((2 : Int64) * ((Int32.ofNat kd).toInt64))) + ((2 : Int64) * ((Int32.ofNat kp).toInt64))) + ((Int32.ofNat ka).toInt64))), .second, .val (.double (FP.dsub (FP.dmul (own_v (own_K ko) (own_K kd) (own_K kp) (own_K ka)) (4666855113862676480 : UInt64)) (FP.l2d (((((5 : Int64) * ((Int32.ofNat ko).toInt64)) + ((2 : Int64) * ((Int32.ofNat kd).toInt64))) + ((2 : Int64) * ((Int32.ofNat kp).toInt64))) + ((Int32.ofNat ka).toInt64))))), .second, .unset, .unset] [])) _
    refine XS.iconst X43.here hx rfl (hb hby at_127) ?_
    show Steps p.tables e below (T43.setTop (mkF m 128 #[.val (.int p0), .val (.int p1), .val (.int p2), .val (.int p3), .val (.int (Int32.ofNat ko)), .val (.int (Int32.ofNat kd)), .val (.int (Int32.ofNat kp)), .val (.int (Int32.ofNat ka)), .val (.ref b37), .val (.double (own_v (own_K ko) (own_K kd) (own_K kp) (own_K ka))), .second, .val (.long (((((5 : Int64) * ((Int32.ofNat ko).toInt64)) + ((2 : Int64) * ((Int32.ofNat kd).toInt64))) + ((2 : Int64) * ((Int32.ofNat kp).toInt64))) + ((Int32.ofNat ka).toInt64))), .second, .val (.double (FP.dsub (FP.dmul (own_v (own_K ko) (own_K kd) (own_K kp) (own_K ka)) (4666855113862676480 : UInt64)) (FP.l2d (((((5 : Int64) * ((Int32.ofNat ko).toInt64)) + ((2 : Int64) * ((Int32.ofNat kd).toInt64))) + ((2 : Int64) * ((Int32.ofNat kp).toInt64))) + ((Int32.ofNat ka).toInt64))))), .second, .unset, .unset] [(.int (1 : Int32))])) _
    refine XS.goto X43.here hx rfl (pc0 := 128) (pc' := 132) rfl (hb hby at_128) (by decide) (by decide) ?_
    show Steps p.tables e below (T43.setTop (mkF m 132 #[.val (.int p0), .val (.int p1), .val (.int p2), .val (.int p3), .val (.int (Int32.ofNat ko)), .val (.int (Int32.ofNat kd)), .val (.int (Int32.ofNat kp)), .val (.int (Int32.ofNat ka)), .val (.ref b37), .val (.double (own_v (own_K ko) (own_K kd) (own_K kp) (own_K ka))), .second, .val (.long (((((5 : Int64) * ((Int32.ofNat ko).toInt64)) + ((2 : Int64) * ((Int32.ofNat kd).toInt64))) + ((2 : Int64) * ((Int32.ofNat kp).toInt64))) + ((Int32.ofNat ka).toInt64))), .second, .val (.double (FP.dsub (FP.dmul (own_v (own_K ko) (own_K kd) (own_K kp) (own_K ka)) (4666855113862676480 : UInt64)) (FP.l2d (((((5 : Int64) * ((Int32.ofNat ko).toInt64)) + ((2 : Int64) * ((Int32.ofNat kd).toInt64))) + ((2 : Int64) * ((Int32.ofNat kp).toInt64))) + ((Int32.ofNat ka).toInt64))))), .second, .unset, .unset] [(.int (1 : Int32))])) _
    refine XS.istore X43.here hx rfl (hb hby at_132) rfl (l' := #[.val (.int p0), .val (.int p1), .val (.int p2), .val (.int p3), .val (.int (Int32.ofNat ko)), .val (.int (Int32.ofNat kd)), .val (.int (Int32.ofNat kp)), .val (.int (Int32.ofNat ka)), .val (.ref b37), .val (.double (own_v (own_K ko) (own_K kd) (own_K kp) (own_K ka))), .second, .val (.long (((((5 : Int64) * ((Int32.ofNat ko).toInt64)) + ((2 : Int64) * ((Int32.ofNat kd).toInt64))) + ((2 : Int64) * ((Int32.ofNat kp).toInt64))) + ((Int32.ofNat ka).toInt64))), .second, .val (.double (FP.dsub (FP.dmul (own_v (own_K ko) (own_K kd) (own_K kp) (own_K ka)) (4666855113862676480 : UInt64)) (FP.l2d (((((5 : Int64) * ((Int32.ofNat ko).toInt64)) + ((2 : Int64) * ((Int32.ofNat kd).toInt64))) + ((2 : Int64) * ((Int32.ofNat kp).toInt64))) + ((Int32.ofNat ka).toInt64))))), .second, .val (.int (1 : Int32)), .unset]) rfl ?_
    show Steps p.tables e below (T43.setTop (mkF m 134 #[.val (.int p0), .val (.int p1), .val (.int p2), .val (.int p3), .val (.int (Int32.ofNat ko)), .val (.int (Int32.ofNat kd)), .val (.int (Int32.ofNat kp)), .val (.int (Int32.ofNat ka)), .val (.ref b37), .val (.double (own_v (own_K ko) (own_K kd) (own_K kp) (own_K ka))), .second, .val (.long (((((5 : Int64) * ((Int32.ofNat ko).toInt64)) + ((2 : Int64) * ((Int32.ofNat kd).toInt64))) + ((2 : Int64) * ((Int32.ofNat kp).toInt64))) + ((Int32.ofNat ka).toInt64))), .second, .val (.double (FP.dsub (FP.dmul (own_v (own_K ko) (own_K kd) (own_K kp) (own_K ka)) (4666855113862676480 : UInt64)) (FP.l2d (((((5 : Int64) * ((Int32.ofNat ko).toInt64)) + ((2 : Int64) * ((Int32.ofNat kd).toInt64))) + ((2 : Int64) * ((Int32.ofNat kp).toInt64))) + ((Int32.ofNat ka).toInt64))))), .second, .val (.int (1 : Int32)), .unset] [])) _
    refine XS.dconst0 X43.here hx rfl (v := 0) (hb hby at_134) (by decide +kernel) ?_
    show Steps p.tables e below (T43.setTop (mkF m 135 #[.val (.int p0), .val (.int p1), .val (.int p2), .val (.int p3), .val (.int (Int32.ofNat ko)), .val (.int (Int32.ofNat kd)), .val (.int (Int32.ofNat kp)), .val (.int (Int32.ofNat ka)), .val (.ref b37), .val (.double (own_v (own_K ko) (own_K kd) (own_K kp) (own_K ka))), .second, .val (.long (((((5 : Int64) * ((Int32.ofNat ko).toInt64)) + ((2 : Int64) * ((Int32.ofNat kd).toInt64))) + ((2 : Int64) * ((Int32.ofNat kp).toInt64))) + ((Int32.ofNat ka).toInt64))), .second, .val (.double (FP.dsub (FP.dmul (own_v (own_K ko) (own_K kd) (own_K kp) (own_K ka)) (4666855113862676480 : UInt64)) (FP.l2d (((((5 : Int64) * ((Int32.ofNat ko).toInt64)) + ((2 : Int64) * ((Int32.ofNat kd).toInt64))) + ((2 : Int64) * ((Int32.ofNat kp).toInt64))) + ((Int32.ofNat ka).toInt64))))), .second, .val (.int (1 : Int32)), .unset] [(.double (0 : UInt64))])) _
    refine XS.dload X43.here hx rfl (hb hby at_135) rfl ?_
    show Steps p.tables e below (T43.setTop (mkF m 137 #[.val (.int p0), .val (.int p1), .val (.int p2), .val (.int p3), .val (.int (Int32.ofNat ko)), .val (.int (Int32.ofNat kd)), .val (.int (Int32.ofNat kp)), .val (.int (Int32.ofNat ka)), .val (.ref b37), .val (.double (own_v (own_K ko) (own_K kd) (own_K kp) (own_K ka))), .second, .val (.long (((((5 : Int64) * ((Int32.ofNat ko).toInt64)) + ((2 : Int64) * ((Int32.ofNat kd).toInt64))) + ((2 : Int64) * ((Int32.ofNat kp).toInt64))) + ((Int32.ofNat ka).toInt64))), .second, .val (.double (FP.dsub (FP.dmul (own_v (own_K ko) (own_K kd) (own_K kp) (own_K ka)) (4666855113862676480 : UInt64)) (FP.l2d (((((5 : Int64) * ((Int32.ofNat ko).toInt64)) + ((2 : Int64) * ((Int32.ofNat kd).toInt64))) + ((2 : Int64) * ((Int32.ofNat kp).toInt64))) + ((Int32.ofNat ka).toInt64))))), .second, .val (.int (1 : Int32)), .unset] [(.double (own_v (own_K ko) (own_K kd) (own_K kp) (own_K ka))), (.double (0 : UInt64))])) _
    refine XS.dcmpS X43.here hx rfl (v := z3) (hb hby at_137) rfl ez3 ?_
    show Steps p.tables e below (T43.setTop (mkF m 138 #[.val (.int p0), .val (.int p1), .val (.int p2), .val (.int p3), .val (.int (Int32.ofNat ko)), .val (.int (Int32.ofNat kd)), .val (.int (Int32.ofNat kp)), .val (.int (Int32.ofNat ka)), .val (.ref b37), .val (.double (own_v (own_K ko) (own_K kd) (own_K kp) (own_K ka))), .second, .val (.long (((((5 : Int64) * ((Int32.ofNat ko).toInt64)) + ((2 : Int64) * ((Int32.ofNat kd).toInt64))) + ((2 : Int64) * ((Int32.ofNat kp).toInt64))) + ((Int32.ofNat ka).toInt64))), .second, .val (.double (FP.dsub (FP.dmul (own_v (own_K ko) (own_K kd) (own_K kp) (own_K ka)) (4666855113862676480 : UInt64)) (FP.l2d (((((5 : Int64) * ((Int32.ofNat ko).toInt64)) + ((2 : Int64) * ((Int32.ofNat kd).toInt64))) + ((2 : Int64) * ((Int32.ofNat kp).toInt64))) + ((Int32.ofNat ka).toInt64))))), .second, .val (.int (1 : Int32)), .unset] [(.int z3)])) _
    refine XS.ifNo X43.here hx rfl (hb hby at_138) rfl ((if0 _ _).trans (flt hz3).2.2.1) ?_
    show Steps p.tables e below (T43.setTop (mkF m 141 #[.val (.int p0), .val (.int p1), .val (.int p2), .val (.int p3), .val (.int (Int32.ofNat ko)), .val (.int (Int32.ofNat kd)), .val (.int (Int32.ofNat kp)), .val (.int (Int32.ofNat ka)), .val (.ref b37), .val (.double (own_v (own_K ko) (own_K kd) (own_K kp) (own_K ka))), .second, .val (.long (((((5 : Int64) * ((Int32.ofNat ko).toInt64)) + ((2 : Int64) * ((Int32.ofNat kd).toInt64))) + ((2 : Int64) * ((Int32.ofNat kp).toInt64))) + ((Int32.ofNat ka).toInt64))), .second, .val (.double (FP.dsub (FP.dmul (own_v (own_K ko) (own_K kd) (own_K kp) (own_K ka)) (4666855113862676480 : UInt64)) (FP.l2d (((((5 : Int64) * ((Int32.ofNat ko).toInt64)) + ((2 : Int64) * ((Int32.ofNat kd).toInt64))) + ((2 : Int64) * ((Int32.ofNat kp).toInt64))) + ((Int32.ofNat ka).toInt64))))), .second, .val (.int (1 : Int32)), .unset] [])) _
    refine XS.dload X43.here hx rfl (hb hby at_141) rfl ?_
    show Steps p.tables e below (T43.setTop (mkF m 143 #[.val (.int p0), .val (.int p1), .val (.int p2), .val (.int p3), .val (.int (Int32.ofNat ko)), .val (.int (Int32.ofNat kd)), .val (.int (Int32.ofNat kp)), .val (.int (Int32.ofNat ka)), .val (.ref b37), .val (.double (own_v (own_K ko) (own_K kd) (own_K kp) (own_K ka))), .second, .val (.long (((((5 : Int64) * ((Int32.ofNat ko).toInt64)) + ((2 : Int64) * ((Int32.ofNat kd).toInt64))) + ((2 : Int64) * ((Int32.ofNat kp).toInt64))) + ((Int32.ofNat ka).toInt64))), .second, .val (.double (FP.dsub (FP.dmul (own_v (own_K ko) (own_K kd) (own_K kp) (own_K ka)) (4666855113862676480 : UInt64)) (FP.l2d (((((5 : Int64) * ((Int32.ofNat ko).toInt64)) + ((2 : Int64) * ((Int32.ofNat kd).toInt64))) + ((2 : Int64) * ((Int32.ofNat kp).toInt64))) + ((Int32.ofNat ka).toInt64))))), .second, .val (.int (1 : Int32)), .unset] [(.double (own_v (own_K ko) (own_K kd) (own_K kp) (own_K ka)))])) _
    refine XS.dconst1 X43.here hx rfl (v := 4607182418800017408) (hb hby at_143) (by decide +kernel) ?_
    show Steps p.tables e below (T43.setTop (mkF m 144 #[.val (.int p0), .val (.int p1), .val (.int p2), .val (.int p3), .val (.int (Int32.ofNat ko)), .val (.int (Int32.ofNat kd)), .val (.int (Int32.ofNat kp)), .val (.int (Int32.ofNat ka)), .val (.ref b37), .val (.double (own_v (own_K ko) (own_K kd) (own_K kp) (own_K ka))), .second, .val (.long (((((5 : Int64) * ((Int32.ofNat ko).toInt64)) + ((2 : Int64) * ((Int32.ofNat kd).toInt64))) + ((2 : Int64) * ((Int32.ofNat kp).toInt64))) + ((Int32.ofNat ka).toInt64))), .second, .val (.double (FP.dsub (FP.dmul (own_v (own_K ko) (own_K kd) (own_K kp) (own_K ka)) (4666855113862676480 : UInt64)) (FP.l2d (((((5 : Int64) * ((Int32.ofNat ko).toInt64)) + ((2 : Int64) * ((Int32.ofNat kd).toInt64))) + ((2 : Int64) * ((Int32.ofNat kp).toInt64))) + ((Int32.ofNat ka).toInt64))))), .second, .val (.int (1 : Int32)), .unset] [(.double (4607182418800017408 : UInt64)), (.double (own_v (own_K ko) (own_K kd) (own_K kp) (own_K ka)))])) _
    refine XS.dcmpS X43.here hx rfl (v := z4) (hb hby at_144) rfl ez4 ?_
    show Steps p.tables e below (T43.setTop (mkF m 145 #[.val (.int p0), .val (.int p1), .val (.int p2), .val (.int p3), .val (.int (Int32.ofNat ko)), .val (.int (Int32.ofNat kd)), .val (.int (Int32.ofNat kp)), .val (.int (Int32.ofNat ka)), .val (.ref b37), .val (.double (own_v (own_K ko) (own_K kd) (own_K kp) (own_K ka))), .second, .val (.long (((((5 : Int64) * ((Int32.ofNat ko).toInt64)) + ((2 : Int64) * ((Int32.ofNat kd).toInt64))) + ((2 : Int64) * ((Int32.ofNat kp).toInt64))) + ((Int32.ofNat ka).toInt64))), .second, .val (.double (FP.dsub (FP.dmul (own_v (own_K ko) (own_K kd) (own_K kp) (own_K ka)) (4666855113862676480 : UInt64)) (FP.l2d (((((5 : Int64) * ((Int32.ofNat ko).toInt64)) + ((2 : Int64) * ((Int32.ofNat kd).toInt64))) + ((2 : Int64) * ((Int32.ofNat kp).toInt64))) + ((Int32.ofNat ka).toInt64))))), .second, .val (.int (1 : Int32)), .unset] [(.int z4)])) _
    refine XS.ifNo X43.here hx rfl (hb hby at_145) rfl ((if0 _ _).trans (flt hz4).2.2.1) ?_
    show Steps p.tables e below (T43.setTop (mkF m 148 #[.val (.int p0), .val (.int p1), .val (.int p2), .val (.int p3), .val (.int (Int32.ofNat ko)), .val (.int (Int32.ofNat kd)), .val (.int (Int32.ofNat kp)), .val (.int (Int32.ofNat ka)), .val (.ref b37), .val (.double (own_v (own_K ko) (own_K kd) (own_K kp) (own_K ka))), .second, .val (.long (((((5 : Int64) * ((Int32.ofNat ko).toInt64)) + ((2 : Int64) * ((Int32.ofNat kd).toInt64))) + ((2 : Int64) * ((Int32.ofNat kp).toInt64))) + ((Int32.ofNat ka).toInt64))), .second, .val (.double (FP.dsub (FP.dmul (own_v (own_K ko) (own_K kd) (own_K kp) (own_K ka)) (4666855113862676480 : UInt64)) (FP.l2d (((((5 : Int64) * ((Int32.ofNat ko).toInt64)) + ((2 : Int64) * ((Int32.ofNat kd).toInt64))) + ((2 : Int64) * ((Int32.ofNat kp).toInt64))) + ((Int32.ofNat ka).toInt64))))), .second, .val (.int (1 : Int32)), .unset] [])) _
    refine XS.iconst X43.here hx rfl (hb hby at_148) ?_
    show Steps p.tables e below (T43.setTop (mkF m 149 #[.val (.int p0), .val (.int p1), .val (.int p2), .val (.int p3), .val (.int (Int32.ofNat ko)), .val (.int (Int32.ofNat kd)), .val (.int (Int32.ofNat kp)), .val (.int (Int32.ofNat ka)), .val (.ref b37), .val (.double (own_v (own_K ko) (own_K kd) (own_K kp) (own_K ka))), .second, .val (.long (((((5 : Int64) * ((Int32.ofNat ko).toInt64)) + ((2 : Int64) * ((Int32.ofNat kd).toInt64))) + ((2 : Int64) * ((Int32.ofNat kp).toInt64))) + ((Int32.ofNat ka).toInt64))), .second, .val (.double (FP.dsub (FP.dmul (own_v (own_K ko) (own_K kd) (own_K kp) (own_K ka)) (4666855113862676480 : UInt64)) (FP.l2d (((((5 : Int64) * ((Int32.ofNat ko).toInt64)) + ((2 : Int64) * ((Int32.ofNat kd).toInt64))) + ((2 : Int64) * ((Int32.ofNat kp).toInt64))) + ((Int32.ofNat ka).toInt64))))), .second, .val (.int (1 : Int32)), .unset] [(.int (1 : Int32))])) _
    refine XS.goto X43.here hx rfl (pc0 := 149) (pc' := 153) rfl (hb hby at_149) (by decide) (by decide) ?_
    show Steps p.tables e below (T43.setTop (mkF m 153 #[.val (.int p0), .val (.int p1), .val (.int p2), .val (.int p3), .val (.int (Int32.ofNat ko)), .val (.int (Int32.ofNat kd)), .val (.int (Int32.ofNat kp)), .val (.int (Int32.ofNat ka)), .val (.ref b37), .val (.double (own_v (own_K ko) (own_K kd) (own_K kp) (own_K ka))), .second, .val (.long (((((5 : Int64) * ((Int32.ofNat ko).toInt64)) + ((2 : Int64) * ((Int32.ofNat kd).toInt64))) + ((2 : Int64) * ((Int32.ofNat kp).toInt64))) + ((Int32.ofNat ka).toInt64))), .second, .val (.double (FP.dsub (FP.dmul (own_v (own_K ko) (own_K kd) (own_K kp) (own_K ka)) (4666855113862676480 : UInt64)) (FP.l2d (((((5 : Int64) * ((Int32.ofNat ko).toInt64)) + ((2 : Int64) * ((Int32.ofNat kd).toInt64))) + ((2 : Int64) * ((Int32.ofNat kp).toInt64))) + ((Int32.ofNat ka).toInt64))))), .second, .val (.int (1 : Int32)), .unset] [(.int (1 : Int32))])) _
    refine XS.istore X43.here hx rfl (hb hby at_153) rfl (l' := #[.val (.int p0), .val (.int p1), .val (.int p2), .val (.int p3), .val (.int (Int32.ofNat ko)), .val (.int (Int32.ofNat kd)), .val (.int (Int32.ofNat kp)), .val (.int (Int32.ofNat ka)), .val (.ref b37), .val (.double (own_v (own_K ko) (own_K kd) (own_K kp) (own_K ka))), .second, .val (.long (((((5 : Int64) * ((Int32.ofNat ko).toInt64)) + ((2 : Int64) * ((Int32.ofNat kd).toInt64))) + ((2 : Int64) * ((Int32.ofNat kp).toInt64))) + ((Int32.ofNat ka).toInt64))), .second, .val (.double (FP.dsub (FP.dmul (own_v (own_K ko) (own_K kd) (own_K kp) (own_K ka)) (4666855113862676480 : UInt64)) (FP.l2d (((((5 : Int64) * ((Int32.ofNat ko).toInt64)) + ((2 : Int64) * ((Int32.ofNat kd).toInt64))) + ((2 : Int64) * ((Int32.ofNat kp).toInt64))) + ((Int32.ofNat ka).toInt64))))), .second, .val (.int (1 : Int32)), .val (.int (1 : Int32))]) rfl ?_
    show Steps p.tables e below (T43.setTop (mkF m 155 #[.val (.int p0), .val (.int p1), .val (.int p2), .val (.int p3), .val (.int (Int32.ofNat ko)), .val (.int (Int32.ofNat kd)), .val (.int (Int32.ofNat kp)), .val (.int (Int32.ofNat ka)), .val (.ref b37), .val (.double (own_v (own_K ko) (own_K kd) (own_K kp) (own_K ka))), .second, .val (.long (((((5 : Int64) * ((Int32.ofNat ko).toInt64)) + ((2 : Int64) * ((Int32.ofNat kd).toInt64))) + ((2 : Int64) * ((Int32.ofNat kp).toInt64))) + ((Int32.ofNat ka).toInt64))), .second, .val (.double (FP.dsub (FP.dmul (own_v (own_K ko) (own_K kd) (own_K kp) (own_K ka)) (4666855113862676480 : UInt64)) (FP.l2d (((((5 : Int64) * ((Int32.ofNat ko).toInt64)) + ((2 : Int64) * ((Int32.ofNat kd).toInt64))) + ((2 : Int64) * ((Int32.ofNat kp).toInt64))) + ((Int32.ofNat ka).toInt64))))), .second, .val (.int (1 : Int32)), .val (.int (1 : Int32))] [])) _
    refine XS.iload X43.here hx rfl (hb hby at_155) rfl ?_
    show Steps p.tables e below (T43.setTop (mkF m 157 #[.val (.int p0), .val (.int p1), .val (.int p2), .val (.int p3), .val (.int (Int32.ofNat ko)), .val (.int (Int32.ofNat kd)), .val (.int (Int32.ofNat kp)), .val (.int (Int32.ofNat ka)), .val (.ref b37), .val (.double (own_v (own_K ko) (own_K kd) (own_K kp) (own_K ka))), .second, .val (.long (((((5 : Int64) * ((Int32.ofNat ko).toInt64)) + ((2 : Int64) * ((Int32.ofNat kd).toInt64))) + ((2 : Int64) * ((Int32.ofNat kp).toInt64))) + ((Int32.ofNat ka).toInt64))), .second, .val (.double (FP.dsub (FP.dmul (own_v (own_K ko) (own_K kd) (own_K kp) (own_K ka)) (4666855113862676480 : UInt64)) (FP.l2d (((((5 : Int64) * ((Int32.ofNat ko).toInt64)) + ((2 : Int64) * ((Int32.ofNat kd).toInt64))) + ((2 : Int64) * ((Int32.ofNat kp).toInt64))) + ((Int32.ofNat ka).toInt64))))), .second, .val (.int (1 : Int32)), .val (.int (1 : Int32))] [(.int (1 : Int32))])) _
    refine XS.ifNo X43.here hx rfl (hb hby at_157) rfl ((if0 _ _).trans (feq (by decide)).1) ?_
    show Steps p.tables e below (T43.setTop (mkF m 160 #[.val (.int p0), .val (.int p1), .val (.int p2), .val (.int p3), .val (.int (Int32.ofNat ko)), .val (.int (Int32.ofNat kd)), .val (.int (Int32.ofNat kp)), .val (.int (Int32.ofNat ka)), .val (.ref b37), .val (.double (own_v (own_K ko) (own_K kd) (own_K kp) (own_K ka))), .second, .val (.long (((((5 : Int64) * ((Int32.ofNat ko).toInt64)) + ((2 : Int64) * ((Int32.ofNat kd).toInt64))) + ((2 : Int64) * ((Int32.ofNat kp).toInt64))) + ((Int32.ofNat ka).toInt64))), .second, .val (.double (FP.dsub (FP.dmul (own_v (own_K ko) (own_K kd) (own_K kp) (own_K ka)) (4666855113862676480 : UInt64)) (FP.l2d (((((5 : Int64) * ((Int32.ofNat ko).toInt64)) + ((2 : Int64) * ((Int32.ofNat kd).toInt64))) + ((2 : Int64) * ((Int32.ofNat kp).toInt64))) + ((Int32.ofNat ka).toInt64))))), .second, .val (.int (1 : Int32)), .val (.int (1 : Int32))] [])) _
    refine XS.iload X43.here hx rfl (hb hby at_160) rfl ?_
    show Steps p.tables e below (T43.setTop (mkF m 162 #[.val (.int p0), .val (.int p1), .val (.int p2), .val (.int p3), .val (.int (Int32.ofNat ko)), .val (.int (Int32.ofNat kd)), .val (.int (Int32.ofNat kp)), .val (.int (Int32.ofNat ka)), .val (.ref b37), .val (.double (own_v (own_K ko) (own_K kd) (own_K kp) (own_K ka))), .second, .val (.long (((((5 : Int64) * ((Int32.ofNat ko).toInt64)) + ((2 : Int64) * ((Int32.ofNat kd).toInt64))) + ((2 : Int64) * ((Int32.ofNat kp).toInt64))) + ((Int32.ofNat ka).toInt64))), .second, .val (.double (FP.dsub (FP.dmul (own_v (own_K ko) (own_K kd) (own_K kp) (own_K ka)) (4666855113862676480 : UInt64)) (FP.l2d (((((5 : Int64) * ((Int32.ofNat ko).toInt64)) + ((2 : Int64) * ((Int32.ofNat kd).toInt64))) + ((2 : Int64) * ((Int32.ofNat kp).toInt64))) + ((Int32.ofNat ka).toInt64))))), .second, .val (.int (1 : Int32)), .val (.int (1 : Int32))] [(.int (1 : Int32))])) _
    refine XS.ifNo X43.here hx rfl (hb hby at_162) rfl ((if0 _ _).trans (feq (by decide)).1) ?_
    show Steps p.tables e below (T43.setTop (mkF m 165 #[.val (.int p0), .val (.int p1), .val (.int p2), .val (.int p3), .val (.int (Int32.ofNat ko)), .val (.int (Int32.ofNat kd)), .val (.int (Int32.ofNat kp)), .val (.int (Int32.ofNat ka)), .val (.ref b37), .val (.double (own_v (own_K ko) (own_K kd) (own_K kp) (own_K ka))), .second, .val (.long (((((5 : Int64) * ((Int32.ofNat ko).toInt64)) + ((2 : Int64) * ((Int32.ofNat kd).toInt64))) + ((2 : Int64) * ((Int32.ofNat kp).toInt64))) + ((Int32.ofNat ka).toInt64))), .second, .val (.double (FP.dsub (FP.dmul (own_v (own_K ko) (own_K kd) (own_K kp) (own_K ka)) (4666855113862676480 : UInt64)) (FP.l2d (((((5 : Int64) * ((Int32.ofNat ko).toInt64)) + ((2 : Int64) * ((Int32.ofNat kd).toInt64))) + ((2 : Int64) * ((Int32.ofNat kp).toInt64))) + ((Int32.ofNat ka).toInt64))))), .second, .val (.int (1 : Int32)), .val (.int (1 : Int32))] [])) _
    refine XS.iconst X43.here hx rfl (hb hby at_165) ?_
    show Steps p.tables e below (T43.setTop (mkF m 166 #[.val (.int p0), .val (.int p1), .val (.int p2), .val (.int p3), .val (.int (Int32.ofNat ko)), .val (.int (Int32.ofNat kd)), .val (.int (Int32.ofNat kp)), .val (.int (Int32.ofNat ka)), .val (.ref b37), .val (.double (own_v (own_K ko) (own_K kd) (own_K kp) (own_K ka))), .second, .val (.long (((((5 : Int64) * ((Int32.ofNat ko).toInt64)) + ((2 : Int64) * ((Int32.ofNat kd).toInt64))) + ((2 : Int64) * ((Int32.ofNat kp).toInt64))) + ((Int32.ofNat ka).toInt64))), .second, .val (.double (FP.dsub (FP.dmul (own_v (own_K ko) (own_K kd) (own_K kp) (own_K ka)) (4666855113862676480 : UInt64)) (FP.l2d (((((5 : Int64) * ((Int32.ofNat ko).toInt64)) + ((2 : Int64) * ((Int32.ofNat kd).toInt64))) + ((2 : Int64) * ((Int32.ofNat kp).toInt64))) + ((Int32.ofNat ka).toInt64))))), .second, .val (.int (1 : Int32)), .val (.int (1 : Int32))] [(.int (1 : Int32))])) _
    refine XS.goto X43.here hx rfl (pc0 := 166) (pc' := 170) rfl (hb hby at_166) (by decide) (by decide) ?_
    show Steps p.tables e below (T43.setTop (mkF m 170 #[.val (.int p0), .val (.int p1), .val (.int p2), .val (.int p3), .val (.int (Int32.ofNat ko)), .val (.int (Int32.ofNat kd)), .val (.int (Int32.ofNat kp)), .val (.int (Int32.ofNat ka)), .val (.ref b37), .val (.double (own_v (own_K ko) (own_K kd) (own_K kp) (own_K ka))), .second, .val (.long (((((5 : Int64) * ((Int32.ofNat ko).toInt64)) + ((2 : Int64) * ((Int32.ofNat kd).toInt64))) + ((2 : Int64) * ((Int32.ofNat kp).toInt64))) + ((Int32.ofNat ka).toInt64))), .second, .val (.double (FP.dsub (FP.dmul (own_v (own_K ko) (own_K kd) (own_K kp) (own_K ka)) (4666855113862676480 : UInt64)) (FP.l2d (((((5 : Int64) * ((Int32.ofNat ko).toInt64)) + ((2 : Int64) * ((Int32.ofNat kd).toInt64))) + ((2 : Int64) * ((Int32.ofNat kp).toInt64))) + ((Int32.ofNat ka).toInt64))))), .second, .val (.int (1 : Int32)), .val (.int (1 : Int32))] [(.int (1 : Int32))])) _
    exact retN X43 hx (t := .boolean) hret0 (by simp) (hb hby at_170) hr
  · show Q0 n0 _ T43.heap _
    rw [eh43]
    exact ⟨rfl, N43⟩
set_option maxRecDepth 65536 in
set_option maxHeartbeats 40000000 in
theorem comes_1 {Post : Tables → Env → Array Value → State → Outcome → State → Prop} (hpost : ∀ tb e args s v u, (limb_1_1.after args s (.returned v) u = true ∧ limb_1_2.after args s (.returned v) u = true ∧ True) → FrameEnd s (.returned v) u (Jvm.fieldLocs frame_1_writes args s ++ Jvm.arrayLocs frame_1_arrays args s ++ Jvm.staticLocs frame_1_statics s) 16 128 → Post tb e args s (.returned v) u) :
    ArmFor flags0 classFile x code maxLocals ret World_1 tables_1 room_1 Calls_1 rest_1 Pre_1 Post := by
  intro l hfl _ _ p e ha hc hk s m args below hf hA hF happ hP
  obtain ⟨hcalls, hrest, hpre⟩ := hP
  obtain ⟨-, -, -, hnamed, -, -, -, hat⟩ := (Spec.applies_iff hf).mp happ
  obtain ⟨hg, hn⟩ := and_e (Cond.before_iff.mp (show (Jvm.Cond.and given_1 narrow_1).before args s = true from hpre))
  obtain ⟨g0, r0⟩ := and_e hg
  obtain ⟨g1, r1⟩ := and_e r0
  obtain ⟨g2, r2⟩ := and_e r1
  obtain ⟨g3, r3⟩ := and_e r2
  obtain ⟨w0, w1, w2, w3, rfl⟩ : ∃ w0 w1 w2 w3 : Value, args = #[w0, w1, w2, w3] := by
    have hs : args.size = 4 := by simpa [Cond.value, given_1] using g0
    obtain ⟨L⟩ := args
    match L, hs with
    | [w0, w1, w2, w3], _ => exact ⟨w0, w1, w2, w3, rfl⟩
  have hw := fun d (hd : d ∈ tables_1) => atoms_spec (ws := Jvm.Cond.code x code maxLocals ret :: tables_1) hat d (List.mem_cons_of_mem _ hd)
  have hfit : Fit s := fun {y c} hc i hi => by
    obtain ⟨ha, rfl⟩ := Array.getElem?_eq_some_iff.mp hc
    have q := List.all_eq_true.mp ((Array.all_eq_true_iff_forall_mem.mp hF) _ (Array.getElem_mem ha)) i (List.mem_range.mpr hi)
    simpa [Array.getElem?_eq_getElem hi] using q
  obtain ⟨i0, ei0⟩ := is_v g1
  obtain rfl : w0 = (.int i0) := Option.some.inj ei0
  obtain ⟨i1, ei1⟩ := is_v g2
  obtain rfl : w1 = (.int i1) := Option.some.inj ei1
  obtain ⟨i2, ei2⟩ := is_v g3
  obtain rfl : w2 = (.int i2) := Option.some.inj ei2
  obtain ⟨i3, ei3⟩ := is_v r3
  obtain rfl : w3 = (.int i3) := Option.some.inj ei3
  obtain ⟨n, o, h1, h2, h3, _, L, rfl, ⟨rfl, N⟩, hq⟩ := rm0 l s _ hw tables_1 i0 i1 i2 i3 s.heap s.heap.size (Nat.le_refl _) p e ha hc hk s m _ below hf ((Spec.applies_iff_loose hf).mp happ).1 ⟨rfl, State.Warmed39.refl s, rfl⟩ trivial
  refine ⟨n, _, h1, h2, h3, hpost _ _ _ _ _ _ ⟨Cond.after_iff.mpr rfl, Cond.after_iff.mpr (eq_i res_at (Term.int_eval (1)) rfl), trivial⟩ ⟨hq.1, hq.2.1, (hq.2.2.sift fun y hy => Or.inr (N y hy)).mono (by decide) (by decide)⟩⟩
theorem main_1_1 : Claimed_1_1 := comes_1 fun _ _ _ _ _ _ h hF => ⟨h.1, hF⟩
theorem main_1_2 : Claimed_1_2 := comes_1 fun _ _ _ _ _ _ h hF => ⟨h.2.1, hF⟩
end Jvm.Pilot.@@N@@
namespace Jvm.Pilot.@@N@@
open Jvm Jvm.ClassFile Sem Op Lib Jvm.Free Jvm.Stand Jvm.Pilot.@@N@@.Jvm.D
/-! MADE BY PROGRAM (witnessworld.py) out of the Statement's table words and the real class files: 10 classes; the members and pool entries that the words name. The judged class is class 1, her method 2. -/
namespace start1
open Jvm.ClassFile
def u (s : String) : CpInfo := .utf8 (stringToUtf16 s)
/-- a pool by its gaps: so many unusable entries, then the entry; so many at the end -/
def gap : Nat → List CpInfo → List CpInfo
  | 0, r => r
  | n + 1, r => .unusable :: gap n r
def poolList (es : List (Nat × CpInfo)) (last : Nat) : List CpInfo := es.foldr (fun e r => gap e.1 (e.2 :: r)) (gap last [])
def pool (es : List (Nat × CpInfo)) (last : Nat) : Array CpInfo := ⟨poolList es last⟩
def fileOf (pool : Array CpInfo) (this : Nat) (attrs : Array Attribute := #[]) (ms : Array MethodInfo := #[]) (fl : Nat := 33) (sup : Nat := 0) (ifs : Array Nat := #[]) (fds : Array FieldInfo := #[]) : ClassFile where
  minorVersion := 0
  majorVersion := 65
  constantPool := pool
  accessFlags := fl
  thisClass := this
  superClass := sup
  interfaces := ifs
  fields := fds
  methods := ms
  attributes := attrs
def plain (name : String) (sup : Option ClassId) : Class where
  name := name
  kind := .ordinary
  loader := none
  accessFlags := 33
  super := sup
  interfaces := #[]
  cf := none
  fields := #[]
  methods := #[]
  instanceTypes := #[]
  staticTypes := #[]
  resolved := #[]
  callSites := []
  init := .initialized
  statics := none
  mirror := none

def pool0 : Array CpInfo := pool [(5, u "<init>"), (0, u "()V"), (1, .class_ 10), (1, u "java/lang/Object")] 113

def k0c0 : Code := { maxStack := 0, maxLocals := 1, code := object_method_1_code, exceptionTable := #[], attributes := #[] }
def k0m0 : Method := { name := "<init>", desc := "()V", sig := { parameters := [], returnType := none }, accessFlags := 1, code := some k0c0 }
/-- java/lang/Object -/
def k0 : Class := { plain "java/lang/Object" none with
  accessFlags := 33
  interfaces := #[]
  cf := some (fileOf pool0 8 #[] #[{ accessFlags := 1, nameIndex := 5, descriptorIndex := 6, attributes := #[] }] 33 0 #[] #[])
  fields := #[]
  methods := #[k0m0]
  instanceTypes := #[]
  staticTypes := #[]
  resolved := Array.replicate 124 none
  statics := none }

def pool1 : Array CpInfo := pool [(2, .class_ 4), (1, u "java/lang/Object"), (0, u "<init>"), (0, u "()V"), (0, .integer 2147483647), (0, .methodref 9 10), (0, .class_ 11), (0, .nameAndType 12 13), (0, u "com/example/place_scope_search/placescopesearch/ranking/PartsValuePinLaw"), (0, u "part"), (0, u "(I)I"), (0, .class_ 15), (0, u "com/example/place_scope_search/placescopesearch/ranking/GeoSimilarity$Parts"), (0, .double 4652218415073722368), (1, .methodref 14 19), (0, .nameAndType 5 20), (0, u "(DDDD)V"), (0, .methodref 14 22), (0, .nameAndType 23 24), (0, u "value"), (0, u "()D"), (0, .long 5), (1, .long 2), (1, .double 4666855113862676480), (1, .double 4517329193108106637), (1, .double 13740701229962882445), (3, u "law"), (0, u "(IIII)Z")] 7

def k1m0 : Method := { name := "<init>", desc := "()V", sig := { parameters := [], returnType := none }, accessFlags := 2, code := none }
def k1c1 : Code := { maxStack := 2, maxLocals := 1, code := method_2_code, exceptionTable := #[], attributes := #[] }
def k1m1 : Method := { name := "part", desc := "(I)I", sig := { parameters := [.int], returnType := some .int }, accessFlags := 10, code := some k1c1 }
def k1c2 : Code := { maxStack := 12, maxLocals := 17, code := code, exceptionTable := #[], attributes := #[] }
def k1m2 : Method := { name := "law", desc := "(IIII)Z", sig := { parameters := [.int, .int, .int, .int], returnType := some .boolean }, accessFlags := 9, code := some k1c2 }
/-- com/example/place_scope_search/placescopesearch/ranking/PartsValuePinLaw -/
def k1 : Class := { plain "com/example/place_scope_search/placescopesearch/ranking/PartsValuePinLaw" (some 0) with
  accessFlags := 49
  interfaces := #[]
  cf := some (fileOf pool1 9 #[] #[{ accessFlags := 2, nameIndex := 5, descriptorIndex := 6, attributes := #[] }, { accessFlags := 10, nameIndex := 12, descriptorIndex := 13, attributes := #[] }, { accessFlags := 9, nameIndex := 37, descriptorIndex := 38, attributes := #[] }] 49 2 #[] #[])
  fields := #[]
  methods := #[k1m0, k1m1, k1m2]
  instanceTypes := #[]
  staticTypes := #[]
  resolved := Array.replicate 46 none
  statics := none }

def pool2 : Array CpInfo := pool [(1, .methodref 2 3), (0, .class_ 4), (0, .nameAndType 5 6), (0, u "java/lang/Object"), (0, u "<init>"), (0, u "()V"), (0, .class_ 8), (0, u "java/lang/Record")] 13

def k2c0 : Code := { maxStack := 1, maxLocals := 1, code := jdk_30_method_1_code, exceptionTable := #[], attributes := #[] }
def k2m0 : Method := { name := "<init>", desc := "()V", sig := { parameters := [], returnType := none }, accessFlags := 4, code := some k2c0 }
/-- java/lang/Record -/
def k2 : Class := { plain "java/lang/Record" (some 0) with
  accessFlags := 1057
  interfaces := #[]
  cf := some (fileOf pool2 7 #[] #[{ accessFlags := 4, nameIndex := 5, descriptorIndex := 6, attributes := #[] }] 1057 2 #[] #[])
  fields := #[]
  methods := #[k2m0]
  instanceTypes := #[]
  staticTypes := #[]
  resolved := Array.replicate 22 none
  statics := none }

def pool3 : Array CpInfo := pool [(1, .class_ 2), (0, u "com/example/place_scope_search/placescopesearch/ranking/GeoSimilarity"), (0, .methodref 4 5), (0, .class_ 6), (0, .nameAndType 7 8), (0, u "java/lang/Record"), (0, u "<init>"), (0, u "()V"), (0, .fieldref 10 11), (0, .class_ 12), (0, .nameAndType 13 14), (0, u "com/example/place_scope_search/placescopesearch/ranking/GeoSimilarity$Parts"), (0, u "ontological"), (0, u "D"), (0, .fieldref 10 16), (0, .nameAndType 17 14), (0, u "distance"), (0, .fieldref 10 19), (0, .nameAndType 20 14), (0, u "population"), (0, .fieldref 10 22), (0, .nameAndType 23 14), (0, u "adjacency"), (0, .double 4602678819172646912), (1, .double 4596373779694328218), (1, .double 4591870180066957722), (13, u "(DDDD)V"), (3, u "value"), (0, u "()D")] 28

def k3c0 : Code := { maxStack := 3, maxLocals := 9, code := prog_83_method_1_code, exceptionTable := #[], attributes := #[] }
def k3m0 : Method := { name := "<init>", desc := "(DDDD)V", sig := { parameters := [.double, .double, .double, .double], returnType := none }, accessFlags := 1, code := some k3c0 }
def k3c1 : Code := { maxStack := 6, maxLocals := 1, code := prog_83_method_2_code, exceptionTable := #[], attributes := #[] }
def k3m1 : Method := { name := "value", desc := "()D", sig := { parameters := [], returnType := some .double }, accessFlags := 1, code := some k3c1 }
/-- com/example/place_scope_search/placescopesearch/ranking/GeoSimilarity$Parts -/
def k3 : Class := { plain "com/example/place_scope_search/placescopesearch/ranking/GeoSimilarity$Parts" (some 2) with
  accessFlags := 49
  interfaces := #[]
  cf := some (fileOf pool3 10 #[.nestHost 1] #[{ accessFlags := 1, nameIndex := 7, descriptorIndex := 42, attributes := #[] }, { accessFlags := 1, nameIndex := 46, descriptorIndex := 47, attributes := #[] }] 49 4 #[] #[{ accessFlags := 18, nameIndex := 13, descriptorIndex := 14, attributes := #[] }, { accessFlags := 18, nameIndex := 17, descriptorIndex := 14, attributes := #[] }, { accessFlags := 18, nameIndex := 20, descriptorIndex := 14, attributes := #[] }, { accessFlags := 18, nameIndex := 23, descriptorIndex := 14, attributes := #[] }])
  fields := #[{ name := "ontological", type := .double, accessFlags := 18, slot := 0, constantValue := 0 }, { name := "distance", type := .double, accessFlags := 18, slot := 1, constantValue := 0 }, { name := "population", type := .double, accessFlags := 18, slot := 2, constantValue := 0 }, { name := "adjacency", type := .double, accessFlags := 18, slot := 3, constantValue := 0 }]
  methods := #[k3m0, k3m1]
  instanceTypes := #[.double, .double, .double, .double]
  staticTypes := #[]
  resolved := Array.replicate 76 none
  statics := none }

def pool4 : Array CpInfo := pool [(1, u "java/lang/Cloneable"), (0, .class_ 1), (0, u "java/lang/Object"), (0, .class_ 3)] 3

/-- java/lang/Cloneable -/
def k4 : Class := { plain "java/lang/Cloneable" (some 0) with
  accessFlags := 1537
  interfaces := #[]
  cf := some (fileOf pool4 2 #[] #[] 1537 4 #[] #[])
  fields := #[]
  methods := #[]
  instanceTypes := #[]
  staticTypes := #[]
  resolved := Array.replicate 8 none
  statics := none }

def pool5 : Array CpInfo := pool [(1, u "java/io/Serializable"), (0, .class_ 1), (0, u "java/lang/Object"), (0, .class_ 3)] 3

/-- java/io/Serializable -/
def k5 : Class := { plain "java/io/Serializable" (some 0) with
  accessFlags := 1537
  interfaces := #[]
  cf := some (fileOf pool5 2 #[] #[] 1537 4 #[] #[])
  fields := #[]
  methods := #[]
  instanceTypes := #[]
  staticTypes := #[]
  resolved := Array.replicate 8 none
  statics := none }

/-- the primitive byte -/
def k6 : Class := { plain "byte" none with kind := .primitive 'B', accessFlags := 0x411 }
/-- [B -/
def k7 : Class := { plain "[B" (some 0) with kind := .array 6 .byte, interfaces := #[4, 5], accessFlags := 1041 }

/-- the primitive int -/
def k8 : Class := { plain "int" none with kind := .primitive 'I', accessFlags := 0x411 }
/-- [I -/
def k9 : Class := { plain "[I" (some 0) with kind := .array 8 .int, interfaces := #[4, 5], accessFlags := 1041 }

def heap : Heap := #[]
def classes : Array Class := #[k0, k1, k2, k3, k4, k5, k6, k7, k8, k9]
def interned : List (Array UInt16 × Addr) := []
def slotsUsed : Nat := 0
def theMethod : MethodId := ⟨1, 2⟩
def args0 : Array Value := #[.int 5, .int 300, .int 70000, .int 5]
def aboutOver (below : List Frame) : State where
  vm := { classes := classes, interned := interned.toArray }
  heap := heap
  slotsUsed := slotsUsed
  threads := #[{ frames := .invoking theMethod args0 :: below }]
def below0 : List Frame := [.native { method := ⟨0, 0⟩, args := #[] }]
def about1 : State := aboutOver below0
def p0 : Program := .bare "" "" ""
def e0 : Env := launch0.env 0 0 0
theorem w_frames : about1.frames = Frame.invoking theMethod args0 :: below0 := rfl
set_option maxRecDepth 65536 in
theorem w_args : argsFit about1.vm theMethod args0 = true := by decide +kernel
set_option maxRecDepth 65536 in
theorem w_heap : heapFits about1 = true := by decide +kernel
set_option maxRecDepth 65536 in
theorem w_runnable : about1.curStatus? = some .runnable := by decide +kernel
set_option maxRecDepth 65536 in
theorem w_alone : about1.alone = true := by decide +kernel
set_option maxRecDepth 65536 in
theorem w_named : about1.methodNamed? x = some theMethod := by decide +kernel
set_option maxRecDepth 65536 in
theorem w_hears : about1.hears theMethod below0 = true := by decide +kernel
set_option maxRecDepth 65536 in
theorem w_ripe : about1.ripe theMethod args0 below0 = true := by decide +kernel
theorem w_running : about1.status = .running := rfl
set_option maxRecDepth 65536 in
theorem w_room : about1.hasRoom e0.platform room_1 = true :=
  launch0.hasRoom_least _ room_1 (by decide +kernel) (by decide +kernel) (by decide +kernel) (by decide +kernel) (by decide +kernel) (by decide +kernel)
theorem allAtoms_all (ts : List Jvm.Cond) (a : Array Jvm.Value) (st : Jvm.State) : (allAtoms ts).before a st = ts.all (fun c => c.before a st) := by
  induction ts with
  | nil => rfl
  | cons c t ih =>
    show (Jvm.Cond.and c (allAtoms t)).before a st = _
    rw [Jvm.Cond.before_and, ih, List.all_cons]
def words1 : List Jvm.Cond := Jvm.Cond.code x code maxLocals ret :: tables_1
/-- a 'code' word, met by the world's own term for the bytes: nothing is compared byte by byte -/
theorem code_word {y : MethodName} {bytes : ByteArray} {mx : Nat} {rt : Option FieldType} {a : Array Value} {s : State} {m : MethodId} {meth : Method} {c : Code} (h1 : s.methodNamed? y = some m) (h2 : s.vm.method? m = some meth) (h3 : meth.code = some c) (h4 : c.code = bytes)
    (h5 : (c.maxLocals == mx && c.exceptionTable.isEmpty && decide (c.maxStack ≤ mostOperands) && decide (meth.sig.returnType = rt) && !meth.locks && decide (parseMethodDescriptor y.desc = some meth.sig)) = true) : (Jvm.Cond.code y bytes mx rt).before a s = true := by
  simp only [Bool.and_eq_true, beq_iff_eq, Bool.not_eq_true', decide_eq_true_eq] at h5
  obtain ⟨⟨⟨⟨⟨g1, g2⟩, g3⟩, g4⟩, g5⟩, g6⟩ := h5
  simp [Cond.before, Cond.holds, Cond.value, h1, h2, h3, h4, g1, g2, g3, g4, g5, g6]
def isCode : Jvm.Cond → Bool
  | .code _ _ _ _ => true
  | _ => false
theorem all_split {L : List Jvm.Cond} {P : Jvm.Cond → Bool} (h1 : L.all (fun c => isCode c || P c) = true) (h2 : ∀ c ∈ L.filter isCode, P c = true) : L.all P = true := by
  refine List.all_eq_true.mpr fun c hc => ?_
  have h := List.all_eq_true.mp h1 c hc
  rcases Bool.eq_false_or_eq_true (isCode c) with hi | hi
  · exact h2 c (List.mem_filter.mpr ⟨hc, hi⟩)
  · simpa [hi] using h
set_option maxRecDepth 65536 in
theorem w_c0 : (Jvm.Cond.code x code maxLocals ret).before args0 about1 = true := code_word (m := ⟨1, 2⟩) (meth := k1m2) (c := k1c2) (by decide +kernel) rfl rfl rfl (by decide +kernel)
set_option maxRecDepth 65536 in
theorem w_c1 : (Jvm.Cond.code ({ cls := "com/example/place_scope_search/placescopesearch/ranking/PartsValuePinLaw", name := "part", desc := "(I)I" } : Jvm.MethodName) method_2_code (1 : Nat) (Option.some Jvm.ClassFile.FieldType.int)).before args0 about1 = true := code_word (m := ⟨1, 1⟩) (meth := k1m1) (c := k1c1) (by decide +kernel) rfl rfl rfl (by decide +kernel)
set_option maxRecDepth 65536 in
theorem w_c2 : (Jvm.Cond.code ({ cls := "com/example/place_scope_search/placescopesearch/ranking/GeoSimilarity$Parts", name := "<init>", desc := "(DDDD)V" } : Jvm.MethodName) prog_83_method_1_code (9 : Nat) (Option.none : Option Jvm.ClassFile.FieldType)).before args0 about1 = true := code_word (m := ⟨3, 0⟩) (meth := k3m0) (c := k3c0) (by decide +kernel) rfl rfl rfl (by decide +kernel)
set_option maxRecDepth 65536 in
theorem w_c3 : (Jvm.Cond.code ({ cls := "java/lang/Record", name := "<init>", desc := "()V" } : Jvm.MethodName) jdk_30_method_1_code (1 : Nat) (Option.none : Option Jvm.ClassFile.FieldType)).before args0 about1 = true := code_word (m := ⟨2, 0⟩) (meth := k2m0) (c := k2c0) (by decide +kernel) rfl rfl rfl (by decide +kernel)
set_option maxRecDepth 65536 in
theorem w_c4 : (Jvm.Cond.code ({ cls := "java/lang/Object", name := "<init>", desc := "()V" } : Jvm.MethodName) object_method_1_code (1 : Nat) (Option.none : Option Jvm.ClassFile.FieldType)).before args0 about1 = true := code_word (m := ⟨0, 0⟩) (meth := k0m0) (c := k0c0) (by decide +kernel) rfl rfl rfl (by decide +kernel)
set_option maxRecDepth 65536 in
theorem w_c5 : (Jvm.Cond.code ({ cls := "com/example/place_scope_search/placescopesearch/ranking/GeoSimilarity$Parts", name := "value", desc := "()D" } : Jvm.MethodName) prog_83_method_2_code (1 : Nat) (Option.some Jvm.ClassFile.FieldType.double)).before args0 about1 = true := code_word (m := ⟨3, 1⟩) (meth := k3m1) (c := k3c1) (by decide +kernel) rfl rfl rfl (by decide +kernel)
def codes1 : List Jvm.Cond := [Jvm.Cond.code x code maxLocals ret, Jvm.Cond.code ({ cls := "com/example/place_scope_search/placescopesearch/ranking/PartsValuePinLaw", name := "part", desc := "(I)I" } : Jvm.MethodName) method_2_code (1 : Nat) (Option.some Jvm.ClassFile.FieldType.int), Jvm.Cond.code ({ cls := "com/example/place_scope_search/placescopesearch/ranking/GeoSimilarity$Parts", name := "<init>", desc := "(DDDD)V" } : Jvm.MethodName) prog_83_method_1_code (9 : Nat) (Option.none : Option Jvm.ClassFile.FieldType), Jvm.Cond.code ({ cls := "java/lang/Record", name := "<init>", desc := "()V" } : Jvm.MethodName) jdk_30_method_1_code (1 : Nat) (Option.none : Option Jvm.ClassFile.FieldType), Jvm.Cond.code ({ cls := "java/lang/Object", name := "<init>", desc := "()V" } : Jvm.MethodName) object_method_1_code (1 : Nat) (Option.none : Option Jvm.ClassFile.FieldType), Jvm.Cond.code ({ cls := "com/example/place_scope_search/placescopesearch/ranking/GeoSimilarity$Parts", name := "value", desc := "()D" } : Jvm.MethodName) prog_83_method_2_code (1 : Nat) (Option.some Jvm.ClassFile.FieldType.double)]
set_option maxRecDepth 65536 in
theorem codes_eq : words1.filter isCode = codes1 := rfl
theorem w_codes : ∀ c ∈ words1.filter isCode, c.before args0 about1 = true := by
  rw [codes_eq]
  intro c hc
  simp only [codes1, List.mem_cons, List.not_mem_nil, or_false] at hc
  rcases hc with rfl | rfl | rfl | rfl | rfl | rfl
  · exact w_c0
  · exact w_c1
  · exact w_c2
  · exact w_c3
  · exact w_c4
  · exact w_c5
set_option maxRecDepth 65536 in
theorem w_t1 : (words1.take 24).all (fun c => isCode c || c.before args0 about1) = true := by decide +kernel
set_option maxRecDepth 65536 in
theorem w_t2 : (words1.drop 24).all (fun c => isCode c || c.before args0 about1) = true := by decide +kernel
theorem w_tables : (allAtoms (Jvm.Cond.code x code maxLocals ret :: tables_1)).before args0 about1 = true := by
  rw [allAtoms_all]
  show words1.all (fun c => c.before args0 about1) = true
  refine all_split ?_ w_codes
  rw [← List.take_append_drop 24 words1, List.all_append, w_t1, w_t2]
  rfl
set_option maxRecDepth 65536 in
theorem w_case : (Jvm.Cond.and given_1 narrow_1).before args0 about1 = true := by decide +kernel
theorem w_applies : (headSpec (Jvm.Cond.code x code maxLocals ret :: tables_1) room_1).applies x e0.platform about1 = true :=
  (Spec.applies_iff w_frames).mpr ⟨w_running, w_runnable, w_alone, w_named, w_hears, w_ripe, w_room, w_tables⟩
theorem atStart : AtStart classFile x code maxLocals ret World_1 tables_1 room_1 Calls_1 rest_1 Pre_1 launch0 p0 e0 about1 theMethod args0 below0 :=
  ⟨lists_1, trivial, launch0.admits_env _ _ _, launch0.least_env, fairChoices_fair.cas, fairChoices_fair.clock, w_frames, w_args, w_heap, w_applies, trivial, trivial, w_case⟩
end start1
theorem witness_1 : WitnessClaimed_1 := ⟨start1.p0, start1.e0, start1.about1, start1.theMethod, start1.args0, start1.below0, start1.atStart⟩
end Jvm.Pilot.@@N@@
