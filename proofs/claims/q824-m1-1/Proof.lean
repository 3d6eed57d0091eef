import JvmDerived
import JvmDerived.Pilot.@@N@@Statement
import JvmDerived.Pilot.@@N@@Code
set_option linter.unusedVariables false
set_option linter.unusedSimpArgs false
namespace Jvm.RoadKit
open Sem ClassFile Op Lib Jvm.Stand Jvm.Free Jvm.LawKit
section New
variable {p : Program} {l : Launch} {e : Env} {R : Room} {s : State} {m : MethodId} {args : Array Value} {below : List Frame} {meth : Method} {c : Code} {T : State} {locs : List Loc} {cells slots : Nat}
theorem retI (X : Stand p l e R s m args below meth c T locs cells slots) (hx : p.tables.exec = Jvm.exec) {pc : Nat} {Ls : Array Slot} {z : Int32} {rest : List Value} (hret : meth.sig.returnType = some .int) (hd : decode c.code pc = .ok (.ireturn, 1)) {fs : List Frame}
    (hl : ∀ (f : JFrame) (acts : List Action), f.method = m → f.locked = none → f.entered = [] → (doReturn e (T.setTop f) acts (some (.int z))).1 = T.setFrames fs) : Steps p.tables e below (T.setTop (mkF m pc Ls (.int z :: rest))) (T.setFrames fs) := by
  have hm' : T.vm.method? m = some meth := X.method'
  have hn : narrow .int (.int z) = .int z := rfl
  show Steps p.tables e below (T.setTop { method := m, pc := pc, locals := Ls, stack := _ :: rest, locked := none }) _
  jvm_step X.here [X.here.top, hx, hd, hm', hret, hn]
  first | (intro acts; rw [hl _ acts rfl rfl rfl]) | rw [hl _ _ rfl rfl rfl]
  exact Steps.refl _
theorem retJ (X : Stand p l e R s m args below meth c T locs cells slots) (hx : p.tables.exec = Jvm.exec) {pc : Nat} {Ls : Array Slot} {z : Int64} {rest : List Value} (hret : meth.sig.returnType = some .long) (hd : decode c.code pc = .ok (.lreturn, 1)) {fs : List Frame}
    (hl : ∀ (f : JFrame) (acts : List Action), f.method = m → f.locked = none → f.entered = [] → (doReturn e (T.setTop f) acts (some (.long z))).1 = T.setFrames fs) : Steps p.tables e below (T.setTop (mkF m pc Ls (.long z :: rest))) (T.setFrames fs) := by
  have hm' : T.vm.method? m = some meth := X.method'
  have hn : narrow .long (.long z) = .long z := rfl
  show Steps p.tables e below (T.setTop { method := m, pc := pc, locals := Ls, stack := _ :: rest, locked := none }) _
  jvm_step X.here [X.here.top, hx, hd, hm', hret, hn]
  first | (intro acts; rw [hl _ acts rfl rfl rfl]) | rw [hl _ _ rfl rfl rfl]
  exact Steps.refl _
theorem retD (X : Stand p l e R s m args below meth c T locs cells slots) (hx : p.tables.exec = Jvm.exec) {pc : Nat} {Ls : Array Slot} {z : UInt64} {rest : List Value} (hret : meth.sig.returnType = some .double) (hd : decode c.code pc = .ok (.dreturn, 1)) {fs : List Frame}
    (hl : ∀ (f : JFrame) (acts : List Action), f.method = m → f.locked = none → f.entered = [] → (doReturn e (T.setTop f) acts (some (.double z))).1 = T.setFrames fs) : Steps p.tables e below (T.setTop (mkF m pc Ls (.double z :: rest))) (T.setFrames fs) := by
  have hm' : T.vm.method? m = some meth := X.method'
  have hn : narrow .double (.double z) = .double z := rfl
  show Steps p.tables e below (T.setTop { method := m, pc := pc, locals := Ls, stack := _ :: rest, locked := none }) _
  jvm_step X.here [X.here.top, hx, hd, hm', hret, hn]
  first | (intro acts; rw [hl _ acts rfl rfl rfl]) | rw [hl _ _ rfl rfl rfl]
  exact Steps.refl _
theorem retR (X : Stand p l e R s m args below meth c T locs cells slots) (hx : p.tables.exec = Jvm.exec) {pc : Nat} {Ls : Array Slot} {w : Value} {t : FieldType} {rest : List Value} (hret : meth.sig.returnType = some t) (hn : narrow t w = w) (ht : t.isReference = true) (hw : w.isRef = true) (hd : decode c.code pc = .ok (.areturn, 1)) {fs : List Frame}
    (hl : ∀ (f : JFrame) (acts : List Action), f.method = m → f.locked = none → f.entered = [] → (doReturn e (T.setTop f) acts (some w)).1 = T.setFrames fs) : Steps p.tables e below (T.setTop (mkF m pc Ls (w :: rest))) (T.setFrames fs) := by
  have hm' : T.vm.method? m = some meth := X.method'
  show Steps p.tables e below (T.setTop { method := m, pc := pc, locals := Ls, stack := _ :: rest, locked := none }) _
  jvm_step X.here [X.here.top, hx, hd, hm', hret, hn, hw]
  try (refine ⟨ht, ?_⟩)
  first | (intro acts; rw [hl _ acts rfl rfl rfl]) | rw [hl _ _ rfl rfl rfl]
  exact Steps.refl _
theorem own_up (X : Stand p l e R s m args below meth c T locs cells slots) {k n : Nat} (h1 : cells ≤ k) (h2 : slots ≤ n) : Stand p l e R s m args below meth c T locs k n :=
  ⟨X.admits, X.cas, X.clock, X.frames, X.room, X.hears, X.method, X.code, X.here, X.tail, X.warmed, X.limits, X.bytes, X.same.mono h1 h2⟩
theorem own_ext {h h' : Heap} (K : Keep h h' []) : Ext h h' := ⟨K.1, fun a c q => K.2.1 a c q nin0⟩
theorem own_narR {v : Value} {ty : FieldType} (h : v.isRef = true) (ht : ty.isReference = true) : narrow ty v = v := by
  rcases ref_cases h with rfl | ⟨a, rfl⟩ <;> cases ty <;> first | rfl | (simp [FieldType.isReference] at ht)
theorem own_fitR {v : Value} {ty : FieldType} (h : v.isRef = true) (ht : ty.isReference = true) : fits ty v = true := by
  rcases ref_cases h with rfl | ⟨a, rfl⟩ <;> cases ty <;> first | rfl | (simp [FieldType.isReference] at ht)
theorem own_wmono {s t : State} {o : Outcome} {L : List Loc} {k n k' n' : Nat} (h : ReturnedEndW s o t L k n) (hk : k ≤ k') (hn : n ≤ n') : ReturnedEndW s o t L k' n' := ⟨h.1, h.2.1, h.2.2.1, h.2.2.2.mono hk hn⟩
theorem own_chr {Z s T : State} {EL : List (String × Nat)} {h0 H : Heap} (hh : s.heap = h0) (e : T.heap = H) (c : CHr Z EL s.vm h0 T.vm H) : CHr Z EL s.vm s.heap T.vm T.heap := by subst hh e; exact c
theorem own_nb0 : nar .boolean 0 = 0 := by decide
theorem own_nb1 : nar .boolean 1 = 1 := by decide
end New
end Jvm.RoadKit
namespace Jvm.Pilot.@@N@@
open Jvm Jvm.ClassFile Sem Op Lib Jvm.Free Jvm.Stand Jvm.LawKit Jvm.RoadKit Bundle Jvm.Pilot.@@N@@.Jvm.D
theorem and255_chars (x : Int32) : ¬ nar .char ((x &&& (255 : Int32)).toUInt32.toUInt16.toUInt32.toInt32) < 0 ∧ ¬ (255 : Int32) < nar .char ((x &&& (255 : Int32)).toUInt32.toUInt16.toUInt32.toInt32) := by
  have t : ∀ k : Fin 256, ¬ nar .char ((Int32.ofNat k.val).toUInt32.toUInt16.toUInt32.toInt32) < 0 ∧ ¬ (255 : Int32) < nar .char ((Int32.ofNat k.val).toUInt32.toUInt16.toUInt32.toInt32) := by decide +kernel
  have h : (x &&& 255).toBitVec.toNat < 256 := by
    simp only [Int32.toBitVec_and, BitVec.toNat_and]
    exact Nat.lt_succ_of_le Nat.and_le_right
  have e : (x &&& 255) = Int32.ofNat (x &&& 255).toBitVec.toNat := by
    apply Int32.toBitVec_inj.mp
    show _ = BitVec.ofNat 32 _
    rw [BitVec.ofNat_toNat]; simp
  rw [e]
  exact t ⟨_, h⟩
theorem up (cs : List Int32) (h : ∀ c ∈ cs, ¬ c < 0 ∧ ¬ (255 : Int32) < c) : ∀ c ∈ cs, ¬ c < 0 ∧ ¬ (65535 : Int32) < c := fun c hc => ⟨(h c hc).1, fun q => (h c hc).2 (by rw [Int32.lt_iff_toInt_lt] at q ⊢; have e1 : (65535 : Int32).toInt = 65535 := rfl; have e2 : (255 : Int32).toInt = 255 := rfl; omega)⟩
theorem own_pd0 : parseMethodDescriptor "(D)I" = some ⟨[.double], some .int⟩ := by decide +kernel
theorem own_pd1 : parseMethodDescriptor "(DDDD)D" = some ⟨[.double, .double, .double, .double], some .double⟩ := by decide +kernel
theorem own_pd2 : parseMethodDescriptor "(I)I" = some ⟨[.int], some .int⟩ := by decide +kernel
theorem own_pd3 : parseMethodDescriptor "(J)I" = some ⟨[.long], some .int⟩ := by decide +kernel
theorem own_pd4 : parseMethodDescriptor "(D)D" = some ⟨[.double], some .double⟩ := by decide +kernel
theorem own_pd5 : parseMethodDescriptor "(I)J" = some ⟨[.int], some .long⟩ := by decide +kernel
theorem own_pd6 : parseMethodDescriptor "(JI)J" = some ⟨[.long, .int], some .long⟩ := by decide +kernel
theorem own_pd7 : parseMethodDescriptor "()V" = some ⟨[], none⟩ := by decide +kernel
theorem own_pd8 : parseMethodDescriptor "(J)V" = some ⟨[.long], none⟩ := by decide +kernel
theorem own_pd9 : parseMethodDescriptor "(J)J" = some ⟨[.long], some .long⟩ := by decide +kernel
theorem own_pd10 : parseMethodDescriptor "(JJ)J" = some ⟨[.long, .long], some .long⟩ := by decide +kernel
theorem own_pd11 : parseMethodDescriptor "()J" = some ⟨[], some .long⟩ := by decide +kernel
theorem own_pd12 : parseMethodDescriptor "(D)J" = some ⟨[.double], some .long⟩ := by decide +kernel
theorem own_ushr (x : Int64) (q : Int32) (k : Nat) (hk : q.toBitVec.toNat % 64 = k) (hx : 0 ≤ x.toInt) : ((x.toUInt64 >>> (q &&& 0x3f).toInt64.toUInt64).toInt64).toInt = x.toInt / (2 ^ k : Nat) := by
  by_cases h0 : 0 < k
  · rw [c_lushr x q k hk h0, Int.emod_eq_of_lt hx (Int.lt_trans x.toInt_lt (by decide))]
  · have e : k = 0 := by omega
    subst e
    show (x.toBitVec >>> ((q &&& 0x3f).toInt64.toBitVec % 64)).toInt = _
    rw [(sm64 q 0 hk).1]
    show (x.toBitVec >>> (BitVec.ofNat 64 0 % 64#64)).toInt = _
    simp
theorem own_log {n L : Nat} (h1 : 2 ^ L ≤ n) (h2 : n < 2 ^ (L + 1)) : Nat.log2 n = L := by
  have h0 : n ≠ 0 := by have := Nat.two_pow_pos L; omega
  exact (Nat.log2_eq_iff h0).mpr ⟨h1, h2⟩
theorem own_logs {n : Nat} (h : n ≠ 0) : 2 ^ Nat.log2 n ≤ n ∧ n < 2 ^ (Nat.log2 n + 1) := (Nat.log2_eq_iff h).mp rfl
theorem own_logd {n k : Nat} (h : 2 ^ k ≤ n) : Nat.log2 (n / 2 ^ k) + k = Nat.log2 n := by
  have h0 : n ≠ 0 := by have := Nat.two_pow_pos k; omega
  obtain ⟨a, b⟩ := own_logs h0
  have hk : k ≤ Nat.log2 n := (Nat.le_log2 h0).mpr h
  obtain ⟨d, hd⟩ := Nat.exists_eq_add_of_le hk
  rw [hd] at a b ⊢
  have e : Nat.log2 (n / 2 ^ k) = d := by
    apply own_log
    · rw [Nat.le_div_iff_mul_le (Nat.two_pow_pos k), ← Nat.pow_add, Nat.add_comm]; exact a
    · rw [Nat.div_lt_iff_lt_mul (Nat.two_pow_pos k), ← Nat.pow_add]; rw [show d + 1 + k = k + d + 1 by omega]; exact b
  omega
def own_nz (u : Nat) (i n : Int32) (B : Int) : Prop := 0 < i.toInt ∧ i.toInt < B ∧ n.toInt - (Nat.log2 i.toInt.toNat : Int) = 31 - (Nat.log2 u : Int) ∧ -64 ≤ n.toInt ∧ n.toInt ≤ 31
theorem own_nzN {u : Nat} {i n : Int32} {B B' : Int} (h : own_nz u i n B) (hc : i.toInt < B') : own_nz u i n B' := ⟨h.1, hc, h.2.2⟩
theorem own_nzS {u : Nat} {i n : Int32} {B B' : Int} (h : own_nz u i n B) (k : Nat) (q D : Int32) (hq : q.toBitVec.toNat % 32 = k) (h0 : 0 < k) (hk : k ≤ 16) (hD : D.toInt = -(k : Int)) (hB : B ≤ B' * (2 ^ k : Nat)) (hi : ((2 ^ k : Nat) : Int) ≤ i.toInt) (hn : (k : Int) - 64 ≤ n.toInt) : own_nz u ((i.toUInt32 >>> (q &&& 31).toUInt32).toInt32) (n + D) B' := by
  obtain ⟨a1, a2, a3, a4, a5⟩ := h
  have e := c_iushr i q k hq h0
  have r := rng32 i
  rw [Int.emod_eq_of_lt (by omega) (by omega)] at e
  have en : (n + D).toInt = n.toInt - k := by
    have := c_iadd n D; have := rng32 (n + D); omega
  obtain ⟨m, hm⟩ : ∃ m : Nat, i.toInt = m := ⟨i.toInt.toNat, by omega⟩
  rw [hm] at e a1 a2 a3 hi
  have e2 : ((i.toUInt32 >>> (q &&& 31).toUInt32).toInt32).toInt = ((m / 2 ^ k : Nat) : Int) := by rw [e]; exact (Int.natCast_ediv _ _).symm
  have hi' : 2 ^ k ≤ m := by omega
  have hl := own_logd hi'
  have hp : 0 < m / 2 ^ k := Nat.div_pos hi' (Nat.two_pow_pos k)
  unfold own_nz
  rw [e2, en]
  refine ⟨by omega, ?_, ?_, by omega, by omega⟩
  · have : (m : Int) < B' * (2 ^ k : Nat) := Int.lt_of_lt_of_le a2 hB
    rw [Int.natCast_ediv]
    exact Int.ediv_lt_of_lt_mul (by have := Nat.two_pow_pos k; omega) this
  · show _ - ((((m / 2 ^ k : Nat) : Int).toNat.log2 : Nat) : Int) = _
    rw [Int.toNat_natCast] at a3 ⊢
    omega
theorem own_nzE {u : Nat} {i n : Int32} (h : own_nz u i n 4) : (n - ((i.toUInt32 >>> ((1 : Int32) &&& 31).toUInt32).toInt32)).toInt = 31 - (Nat.log2 u : Int) := by
  obtain ⟨a1, a2, a3, a4, a5⟩ := h
  have e := c_iushr i 1 1 (by decide) (by decide)
  have r := rng32 i
  rw [Int.emod_eq_of_lt (by omega) (by omega)] at e
  have f : ((Nat.log2 i.toInt.toNat : Nat) : Int) = i.toInt / 2 := by
    have : i.toInt = 1 ∨ i.toInt = 2 ∨ i.toInt = 3 := by omega
    rcases this with h | h | h <;> rw [h] <;> decide +kernel
  have g := c_isub n ((i.toUInt32 >>> ((1 : Int32) &&& 31).toUInt32).toInt32)
  have g2 := rng32 (n - ((i.toUInt32 >>> ((1 : Int32) &&& 31).toUInt32).toInt32))
  have e' : ((i.toUInt32 >>> ((1 : Int32) &&& 31).toUInt32).toInt32).toInt = i.toInt / 2 := e
  omega
def own_sh (n : Nat) : Nat := Nat.log2 n - 7
def own_bk (n : Nat) : Nat := 128 * own_sh n + n / 2 ^ own_sh n
def own_md (b : Nat) : Nat := if b < 256 then b else (b % 128 + 128) * 2 ^ (b / 128 - 1) + 2 ^ (b / 128 - 1) / 2
theorem own_small {n : Nat} (h : n < 256) : own_sh n = 0 := by
  unfold own_sh
  by_cases h0 : n = 0
  · subst h0; decide +kernel
  · have := (Nat.log2_lt h0 (k := 8)).mpr h
    omega
theorem own_big {n : Nat} (h : 256 ≤ n) : own_sh n + 7 = Nat.log2 n ∧ 1 ≤ own_sh n ∧ 128 ≤ n / 2 ^ own_sh n ∧ n / 2 ^ own_sh n < 256 := by
  have h0 : n ≠ 0 := by omega
  have h1 : 8 ≤ Nat.log2 n := (Nat.le_log2 h0).mpr h
  obtain ⟨a, b⟩ := own_logs h0
  have e : own_sh n + 7 = Nat.log2 n := by unfold own_sh; omega
  refine ⟨e, by unfold own_sh; omega, ?_, ?_⟩
  · rw [Nat.le_div_iff_mul_le (Nat.two_pow_pos _), show 128 = 2 ^ 7 from rfl, ← Nat.pow_add, Nat.add_comm, e]; exact a
  · rw [Nat.div_lt_iff_lt_mul (Nat.two_pow_pos _), show 256 = 2 ^ 8 from rfl, ← Nat.pow_add, show 8 + own_sh n = Nat.log2 n + 1 by omega]; exact b
theorem own_sh63 {n : Nat} (h : n < 2 ^ 63) : own_sh n ≤ 55 := by
  unfold own_sh
  by_cases h0 : n = 0
  · subst h0; decide +kernel
  · have := (Nat.log2_lt h0).mpr h
    omega
theorem own_bk_lt {n : Nat} (h : n < 2 ^ 63) : own_bk n < 7296 := by
  have h1 := own_sh63 h
  unfold own_bk
  by_cases h2 : n < 256
  · rw [own_small h2]; simp; omega
  · have h3 := own_big (Nat.not_lt.mp h2)
    omega
theorem own_bk_small {n : Nat} (h : n < 256) : own_bk n = n := by unfold own_bk; rw [own_small h]; simp
theorem own_md_bk {n : Nat} : own_md (own_bk n) = if n < 256 then n else n / 2 ^ own_sh n * 2 ^ own_sh n + 2 ^ own_sh n / 2 := by
  by_cases h : n < 256
  · rw [own_bk_small h, if_pos h, own_md, if_pos h]
  · obtain ⟨a, b, c, d⟩ := own_big (Nat.not_lt.mp h)
    rw [if_neg h]
    unfold own_md own_bk
    generalize own_sh n = S at *
    generalize n / 2 ^ S = Q at *
    rw [if_neg (by omega), show (128 * S + Q) / 128 - 1 = S by omega, show (128 * S + Q) % 128 + 128 = Q by omega]
theorem own_md_mono {a b : Nat} (h : a ≤ b) : own_md a ≤ own_md b := by
  unfold own_md
  by_cases h1 : b < 256
  · rw [if_pos h1, if_pos (by omega)]; exact h
  · rw [if_neg h1]
    have p1 : ∀ k : Nat, 1 ≤ 2 ^ k := fun k => Nat.two_pow_pos k
    by_cases h2 : a < 256
    · rw [if_pos h2]
      have e : 2 ≤ 2 ^ (b / 128 - 1) := by
        have : 1 ≤ b / 128 - 1 := by omega
        calc 2 = 2 ^ 1 := rfl
          _ ≤ _ := Nat.pow_le_pow_right (by decide) this
      have : 128 * 2 ≤ (b % 128 + 128) * 2 ^ (b / 128 - 1) := Nat.mul_le_mul (by omega) e
      omega
    · rw [if_neg h2]
      by_cases h3 : a / 128 = b / 128
      · rw [h3]
        have : (a % 128 + 128) * 2 ^ (b / 128 - 1) ≤ (b % 128 + 128) * 2 ^ (b / 128 - 1) := Nat.mul_le_mul_right _ (by omega)
        omega
      · have e : 2 * 2 ^ (a / 128 - 1) ≤ 2 ^ (b / 128 - 1) := by
          rw [← Nat.pow_succ']
          exact Nat.pow_le_pow_right (by decide) (by omega)
        have f : (a % 128 + 128) * 2 ^ (a / 128 - 1) + 2 ^ (a / 128 - 1) ≤ 128 * (2 * 2 ^ (a / 128 - 1)) := by
          rw [← Nat.succ_mul, ← Nat.mul_assoc]
          exact Nat.mul_le_mul_right _ (by omega)
        have g : 128 * (2 * 2 ^ (a / 128 - 1)) ≤ (b % 128 + 128) * 2 ^ (b / 128 - 1) := Nat.mul_le_mul (by omega) e
        omega
def own_up1 (f : Nat → Nat) (j : Nat) : Nat → Nat := fun i => if i = j then f i + 1 else f i
def own_S (f : Nat → Nat) : Nat → Nat
  | 0 => 0
  | i + 1 => own_S f i + f i
theorem own_S_up (f : Nat → Nat) (j : Nat) : ∀ i, own_S (own_up1 f j) i = own_S f i + (if j < i then 1 else 0)
  | 0 => by simp [own_S]
  | i + 1 => by
    show own_S (own_up1 f j) i + own_up1 f j i = own_S f i + f i + _
    rw [own_S_up f j i]
    unfold own_up1
    split <;> split <;> split <;> omega
theorem own_S_0 : ∀ i, own_S (fun _ => 0) i = 0
  | 0 => rfl
  | i + 1 => by show own_S (fun _ => 0) i + 0 = 0; rw [own_S_0 i]
def own_f3 (a b c : Nat) : Nat → Nat := own_up1 (own_up1 (own_up1 (fun _ => 0) a) b) c
theorem own_S3 (a b c i : Nat) : own_S (own_f3 a b c) i = (if a < i then 1 else 0) + (if b < i then 1 else 0) + (if c < i then 1 else 0) := by
  unfold own_f3; rw [own_S_up, own_S_up, own_S_up, own_S_0]; omega
def own_lo (a b c : Nat) : Nat := min a (min b c)
def own_me (a b c : Nat) : Nat := max (min a b) (min (max a b) c)
def own_hi (a b c : Nat) : Nat := max a (max b c)
def own_rank (f : Nat → Nat) (r j : Nat) : Prop := r ≤ own_S f (j + 1) ∧ ∀ i, i < j → own_S f (i + 1) < r
theorem own_rank1 (a b c : Nat) : own_rank (own_f3 a b c) 1 (own_lo a b c) := by
  unfold own_rank own_lo
  refine ⟨?_, fun i hi => ?_⟩ <;> rw [own_S3] <;> (repeat' split) <;> omega
theorem own_rank2 (a b c : Nat) : own_rank (own_f3 a b c) 2 (own_me a b c) := by
  unfold own_rank own_me
  refine ⟨?_, fun i hi => ?_⟩ <;> rw [own_S3] <;> (repeat' split) <;> omega
theorem own_rank3 (a b c : Nat) : own_rank (own_f3 a b c) 3 (own_hi a b c) := by
  unfold own_rank own_hi
  refine ⟨?_, fun i hi => ?_⟩ <;> rw [own_S3] <;> (repeat' split) <;> omega
theorem own_md_min (a b : Nat) : own_md (min a b) = min (own_md a) (own_md b) := by
  rcases Nat.le_total a b with h | h
  · rw [Nat.min_eq_left h, Nat.min_eq_left (own_md_mono h)]
  · rw [Nat.min_eq_right h, Nat.min_eq_right (own_md_mono h)]
theorem own_md_max (a b : Nat) : own_md (max a b) = max (own_md a) (own_md b) := by
  rcases Nat.le_total a b with h | h
  · rw [Nat.max_eq_right h, Nat.max_eq_right (own_md_mono h)]
  · rw [Nat.max_eq_left h, Nat.max_eq_left (own_md_mono h)]
def own_N (x : Int64) : Nat := x.toBitVec.toNat
theorem own_Npos {x : Int64} (h : 0 ≤ x.toInt) : x.toInt = own_N x ∧ own_N x < 2 ^ 63 := by
  have e : x.toInt = x.toBitVec.toInt := rfl
  rw [e, BitVec.toInt_eq_toNat_cond] at h ⊢
  have := x.toBitVec.isLt
  unfold own_N
  split at h <;> rename_i q
  · rw [if_pos q]; exact ⟨rfl, by omega⟩
  · exfalso; omega
theorem own_Nlt (x : Int64) : own_N x < 2 ^ 64 := x.toBitVec.isLt
theorem own_Nto {x : Int64} (h : own_N x < 2 ^ 63) : x.toInt = own_N x := by
  have e : x.toInt = x.toBitVec.toInt := rfl
  rw [e, BitVec.toInt_eq_toNat_cond]
  unfold own_N at h ⊢
  rw [if_pos (by omega)]
theorem own_Nor (x y : Int64) : own_N (x ||| y) = own_N x ||| own_N y := BitVec.toNat_or _ _
theorem own_Nand (x y : Int64) : own_N (x &&& y) = own_N x &&& own_N y := BitVec.toNat_and _ _
theorem own_Nshr (x : Int64) (q : Int32) (k : Nat) (hk : q.toBitVec.toNat % 64 = k) : own_N ((x.toUInt64 >>> (q &&& 0x3f).toInt64.toUInt64).toInt64) = own_N x / 2 ^ k := by
  have h5 := (sm64 q k hk).2
  show (x.toBitVec >>> ((q &&& 0x3f).toInt64.toBitVec % 64)).toNat = x.toBitVec.toNat / 2 ^ k
  rw [BitVec.ushiftRight_eq', BitVec.toNat_ushiftRight, Nat.shiftRight_eq_div_pow, BitVec.toNat_umod, (sm64 q k hk).1, BitVec.toNat_ofNat]; congr 2; show k % 2 ^ 64 % 64 = k; omega
/-- v's bits are x's, smeared down by less than D -/
def own_sm (x v D : Nat) : Prop := ∀ j, v.testBit j = true ↔ ∃ d, d < D ∧ x.testBit (j + d) = true
theorem own_sm1 (x : Nat) : own_sm x x 1 := fun j => by
  constructor
  · intro h; exact ⟨0, by decide, h⟩
  · rintro ⟨d, hd, h⟩
    have : d = 0 := by omega
    subst this; exact h
theorem own_smS {x v D : Nat} (h : own_sm x v D) (k : Nat) (hk : k = D) : own_sm x (v ||| v / 2 ^ k) (D + D) := fun j => by
  subst hk
  rw [Nat.testBit_or, Bool.or_eq_true, Nat.testBit_div_two_pow, h j, h (j + k)]
  constructor
  · rintro (⟨d, hd, q⟩ | ⟨d, hd, q⟩)
    · exact ⟨d, by omega, q⟩
    · exact ⟨k + d, by omega, by rw [← Nat.add_assoc]; exact q⟩
  · rintro ⟨d, hd, q⟩
    by_cases hh : d < k
    · exact Or.inl ⟨d, hh, q⟩
    · exact Or.inr ⟨d - k, by omega, by rw [Nat.add_assoc, show k + (d - k) = d by omega]; exact q⟩
theorem own_smE {x v : Nat} (h : own_sm x v 64) (hx : x < 2 ^ 63) (h0 : x ≠ 0) : v = 2 ^ (Nat.log2 x + 1) - 1 := by
  obtain ⟨a, b⟩ := own_logs h0
  have hL : Nat.log2 x < 63 := (Nat.log2_lt h0).mpr hx
  apply Nat.eq_of_testBit_eq
  intro j
  rw [Nat.testBit_two_pow_sub_one]
  have hb : x.testBit (Nat.log2 x) = true := by
    rw [Nat.testBit_eq_decide_div_mod_eq]
    have : x / 2 ^ Nat.log2 x = 1 := by
      have h1 : 1 ≤ x / 2 ^ Nat.log2 x := by rw [Nat.le_div_iff_mul_le (Nat.two_pow_pos _), Nat.one_mul]; exact a
      have h2 : x / 2 ^ Nat.log2 x < 2 := by rw [Nat.div_lt_iff_lt_mul (Nat.two_pow_pos _), ← Nat.pow_succ']; exact b
      omega
    rw [this]; rfl
  by_cases hj : j < Nat.log2 x + 1
  · rw [decide_eq_true hj]
    exact (h j).mpr ⟨Nat.log2 x - j, by omega, by rw [show j + (Nat.log2 x - j) = Nat.log2 x by omega]; exact hb⟩
  · rw [decide_eq_false hj]
    cases hv : v.testBit j with
    | false => rfl
    | true =>
      obtain ⟨d, -, q⟩ := (h j).mp hv
      have := Nat.ge_two_pow_of_testBit q
      have : 2 ^ (Nat.log2 x + 1) ≤ 2 ^ (j + d) := Nat.pow_le_pow_right (by decide) (by omega)
      omega
theorem own_andneg {x S : Nat} (hx : x < 2 ^ 64) (hS : S < 64) : x &&& (2 ^ 64 - 2 ^ S) = x / 2 ^ S * 2 ^ S := by
  have e : 2 ^ 64 - 2 ^ S = (2 ^ (64 - S) - 1) <<< S := by
    rw [Nat.shiftLeft_eq, Nat.sub_mul, ← Nat.pow_add, Nat.one_mul, show 64 - S + S = 64 by omega]
  rw [e, ← Nat.shiftRight_eq_div_pow, ← Nat.shiftLeft_eq]
  apply Nat.eq_of_testBit_eq
  intro j
  rw [Nat.testBit_and, Nat.testBit_shiftLeft, Nat.testBit_shiftLeft, Nat.testBit_two_pow_sub_one, Nat.testBit_shiftRight]
  by_cases hj : S ≤ j
  · rw [show S + (j - S) = j by omega]
    by_cases h2 : j < 64
    · simp [hj, h2]; omega
    · have : x.testBit j = false := Nat.testBit_lt_two_pow (Nat.lt_of_lt_of_le hx (Nat.pow_le_pow_right (by decide) (by omega)))
      simp [this]
  · simp [hj]
theorem own_mid (x v1 v2 v3 v4 v5 v6 : Int64) (hx : 0 ≤ x.toInt) (h256 : ¬ x.toInt < 256)
    (e1 : v1 = x ||| ((x.toUInt64 >>> ((1 : Int32) &&& 0x3f).toInt64.toUInt64).toInt64)) (e2 : v2 = v1 ||| ((v1.toUInt64 >>> ((2 : Int32) &&& 0x3f).toInt64.toUInt64).toInt64))
    (e3 : v3 = v2 ||| ((v2.toUInt64 >>> ((4 : Int32) &&& 0x3f).toInt64.toUInt64).toInt64)) (e4 : v4 = v3 ||| ((v3.toUInt64 >>> ((8 : Int32) &&& 0x3f).toInt64.toUInt64).toInt64))
    (e5 : v5 = v4 ||| ((v4.toUInt64 >>> ((16 : Int32) &&& 0x3f).toInt64.toUInt64).toInt64)) (e6 : v6 = v5 ||| ((v5.toUInt64 >>> ((32 : Int32) &&& 0x3f).toInt64.toUInt64).toInt64)) :
    ((x &&& (-(((v6 - ((v6.toUInt64 >>> ((1 : Int32) &&& 0x3f).toInt64.toUInt64).toInt64)).toUInt64 >>> ((7 : Int32) &&& 0x3f).toInt64.toUInt64).toInt64))) + (((((v6 - ((v6.toUInt64 >>> ((1 : Int32) &&& 0x3f).toInt64.toUInt64).toInt64)).toUInt64 >>> ((7 : Int32) &&& 0x3f).toInt64.toUInt64).toInt64).toUInt64 >>> ((1 : Int32) &&& 0x3f).toInt64.toUInt64).toInt64)).toInt = own_md (own_bk x.toInt.toNat) := by
  obtain ⟨a, b⟩ := own_Npos hx
  rw [a, Int.toNat_natCast]
  rw [a] at h256
  generalize hn : own_N x = n at *
  have n256 : 256 ≤ n := by omega
  have s1 := own_smS (own_sm1 n) 1 rfl
  rw [show n ||| n / 2 ^ 1 = own_N v1 by rw [e1, own_Nor, own_Nshr x 1 1 (by decide), hn]] at s1
  have s2 := own_smS s1 2 rfl
  rw [show own_N v1 ||| own_N v1 / 2 ^ 2 = own_N v2 by rw [e2, own_Nor, own_Nshr v1 2 2 (by decide)]] at s2
  have s3 := own_smS s2 4 rfl
  rw [show own_N v2 ||| own_N v2 / 2 ^ 4 = own_N v3 by rw [e3, own_Nor, own_Nshr v2 4 4 (by decide)]] at s3
  have s4 := own_smS s3 8 rfl
  rw [show own_N v3 ||| own_N v3 / 2 ^ 8 = own_N v4 by rw [e4, own_Nor, own_Nshr v3 8 8 (by decide)]] at s4
  have s5 := own_smS s4 16 rfl
  rw [show own_N v4 ||| own_N v4 / 2 ^ 16 = own_N v5 by rw [e5, own_Nor, own_Nshr v4 16 16 (by decide)]] at s5
  have s6 := own_smS s5 32 rfl
  rw [show own_N v5 ||| own_N v5 / 2 ^ 32 = own_N v6 by rw [e6, own_Nor, own_Nshr v5 32 32 (by decide)]] at s6
  have hv := own_smE s6 b (by omega)
  obtain ⟨f1, f2, f3, f4⟩ := own_big n256
  have hL : Nat.log2 n < 63 := (Nat.log2_lt (by omega)).mpr b
  rw [own_md_bk, if_neg (by omega)]
  generalize hS : own_sh n = S at *
  rw [← f1] at hv hL
  have p1 : 2 ^ (S + 7 + 1) ≤ 2 ^ 63 := Nat.pow_le_pow_right (by decide) (by omega)
  have p2 : 2 ^ (S + 7 + 1) = 2 * 2 ^ (S + 7) := Nat.pow_succ'
  have p3 : 2 ^ (S + 7) = 128 * 2 ^ S := by rw [Nat.pow_add, Nat.mul_comm]
  have p4 : 1 ≤ 2 ^ S := Nat.two_pow_pos S
  have hv7 : own_N ((v6.toUInt64 >>> ((1 : Int32) &&& 0x3f).toInt64.toUInt64).toInt64) = 2 ^ (S + 7) - 1 := by
    rw [own_Nshr v6 1 1 (by decide), hv]; omega
  obtain ⟨hb, hhb⟩ : ∃ hb : Int64, hb = v6 - ((v6.toUInt64 >>> ((1 : Int32) &&& 0x3f).toInt64.toUInt64).toInt64) := ⟨_, rfl⟩
  have hhbN : own_N hb = 2 ^ (S + 7) := by
    have t1 := own_Nto (x := v6) (by rw [hv]; omega)
    have t2 := own_Nto (x := ((v6.toUInt64 >>> ((1 : Int32) &&& 0x3f).toInt64.toUInt64).toInt64)) (by rw [hv7]; omega)
    have t3 := c_lsub v6 ((v6.toUInt64 >>> ((1 : Int32) &&& 0x3f).toInt64.toUInt64).toInt64)
    have t4 := rng64 hb
    rw [← hhb, t1, t2, hv, hv7] at t3
    have t5 : hb.toInt = ((2 ^ (S + 7) : Nat) : Int) := by omega
    have t6 := own_Npos (x := hb) (by omega)
    omega
  rw [← hhb]
  obtain ⟨w, hw⟩ : ∃ w : Int64, w = ((hb.toUInt64 >>> ((7 : Int32) &&& 0x3f).toInt64.toUInt64).toInt64) := ⟨_, rfl⟩
  have hwN : own_N w = 2 ^ S := by rw [hw, own_Nshr hb 7 7 (by decide), hhbN, p3]; omega
  rw [← hw]
  have hwI := own_Nto (x := w) (by rw [hwN]; omega)
  have hnegN : own_N (-w) = 2 ^ 64 - 2 ^ S := by
    show (-w.toBitVec).toNat = _
    have : w.toBitVec.toNat = 2 ^ S := hwN
    rw [BitVec.toNat_neg, this]
    exact Nat.mod_eq_of_lt (by omega)
  have h1 : own_N (x &&& (-w)) = n / 2 ^ S * 2 ^ S := by rw [own_Nand, hn, hnegN]; exact own_andneg (Nat.lt_trans b (by decide)) (by omega)
  have h2 : own_N ((w.toUInt64 >>> ((1 : Int32) &&& 0x3f).toInt64.toUInt64).toInt64) = 2 ^ S / 2 := by rw [own_Nshr w 1 1 (by decide), hwN]
  have l1 : n / 2 ^ S * 2 ^ S ≤ n := Nat.div_mul_le_self _ _
  have l3 : n / 2 ^ S * 2 ^ S ≤ 255 * 2 ^ S := Nat.mul_le_mul_right _ (by omega)
  have i1 := own_Nto (x := x &&& (-w)) (by rw [h1]; omega)
  have i2 := own_Nto (x := ((w.toUInt64 >>> ((1 : Int32) &&& 0x3f).toInt64.toUInt64).toInt64)) (by rw [h2]; omega)
  have i3 := c_ladd (x &&& (-w)) ((w.toUInt64 >>> ((1 : Int32) &&& 0x3f).toInt64.toUInt64).toInt64)
  have i4 := rng64 ((x &&& (-w)) + ((w.toUInt64 >>> ((1 : Int32) &&& 0x3f).toInt64.toUInt64).toInt64))
  rw [i1, i2, h1, h2] at i3
  omega
theorem own_qk {q : Int32} {k : Nat} (h : q.toInt = k) (hk : k < 64) : q.toBitVec.toNat % 64 = k := by
  have e : q.toInt = q.toBitVec.toInt := rfl
  rw [e, BitVec.toInt_eq_toNat_cond] at h
  have := q.toBitVec.isLt
  split at h <;> omega
theorem own_hi32 {x : Int64} (hx : 0 ≤ x.toInt) : (((x.toUInt64 >>> ((32 : Int32) &&& 0x3f).toInt64.toUInt64).toInt64).toInt32).toInt = x.toInt / 4294967296 := by
  have e := own_ushr x 32 32 (by decide) hx
  have r := rng64 x
  have c := c_l2i ((x.toUInt64 >>> ((32 : Int32) &&& 0x3f).toInt64.toUInt64).toInt64)
  have r2 := rng32 (((x.toUInt64 >>> ((32 : Int32) &&& 0x3f).toInt64.toUInt64).toInt64).toInt32)
  have e' : ((x.toUInt64 >>> ((32 : Int32) &&& 0x3f).toInt64.toUInt64).toInt64).toInt = x.toInt / 4294967296 := e
  omega
theorem own_ln1 {x : Int64} (hx : 0 < x.toInt) {H r : Int32} (hH : H = ((x.toUInt64 >>> ((32 : Int32) &&& 0x3f).toInt64.toUInt64).toInt64).toInt32) (hne : ¬ H = 0) (hr : r.toInt = 31 - (Nat.log2 (H.toInt % 4294967296).toNat : Int)) : r.toInt = 63 - (Nat.log2 x.toInt.toNat : Int) := by
  have e := own_hi32 (Int.le_of_lt hx)
  rw [← hH] at e
  have r3 := rng64 x
  have h0 : H.toInt ≠ 0 := fun q => hne (Int32.toInt_inj.mp q)
  obtain ⟨n, hn⟩ : ∃ n : Nat, x.toInt = n := ⟨x.toInt.toNat, by omega⟩
  rw [hn] at e
  have e2 : H.toInt % 4294967296 = ((n / 2 ^ 32 : Nat) : Int) := by omega
  rw [e2, Int.toNat_natCast] at hr
  have hl := own_logd (n := n) (k := 32) (by omega)
  rw [hn, Int.toNat_natCast, hr]
  omega
theorem own_ln2 {x : Int64} (hx : 0 < x.toInt) (hH : ((x.toUInt64 >>> ((32 : Int32) &&& 0x3f).toInt64.toUInt64).toInt64).toInt32 = 0) : ¬ x.toInt32 = 0 ∧ (x.toInt32.toInt % 4294967296).toNat = x.toInt.toNat := by
  have e := own_hi32 (Int.le_of_lt hx)
  rw [hH] at e
  have e0 : (0 : Int32).toInt = 0 := rfl
  have c := c_l2i x
  have r := rng32 x.toInt32
  constructor
  · intro q; rw [q, e0] at c; omega
  · omega
theorem own_ln3 {x : Int64} {r : Int32} (h0 : x.toInt < 4294967296) (hx : 0 < x.toInt) (hr : r.toInt = 31 - (Nat.log2 x.toInt.toNat : Int)) : ((32 : Int32) + r).toInt = 63 - (Nat.log2 x.toInt.toNat : Int) := by
  have c := c_iadd 32 r
  have e : (32 : Int32).toInt = 32 := rfl
  have q := rng32 ((32 : Int32) + r)
  have q2 := rng32 r
  have l : Nat.log2 x.toInt.toNat < 32 := (Nat.log2_lt (by omega)).mpr (by omega)
  omega
theorem own_ln4 {x : Int64} (hx : 0 < x.toInt) (hH : ((x.toUInt64 >>> ((32 : Int32) &&& 0x3f).toInt64.toUInt64).toInt64).toInt32 = 0) : x.toInt < 4294967296 := by
  have e := own_hi32 (Int.le_of_lt hx)
  rw [hH] at e
  have e0 : (0 : Int32).toInt = 0 := rfl
  omega
theorem own_bkS {x : Int64} (hx : 0 ≤ x.toInt) (h : 256 ≤ x.toInt) {r : Int32} (hr : r.toInt = 63 - (Nat.log2 x.toInt.toNat : Int)) : (((63 : Int32) - r) - (7 : Int32)).toInt = own_sh x.toInt.toNat := by
  have b := own_big (n := x.toInt.toNat) (by omega)
  have l : Nat.log2 x.toInt.toNat < 63 := (Nat.log2_lt (by omega)).mpr (by have := rng64 x; omega)
  have c1 := c_isub 63 r
  have c2 := c_isub ((63 : Int32) - r) 7
  have e1 : (63 : Int32).toInt = 63 := rfl
  have e2 : (7 : Int32).toInt = 7 := rfl
  have q1 := rng32 ((63 : Int32) - r)
  have q2 := rng32 (((63 : Int32) - r) - (7 : Int32))
  omega
theorem own_bkT {x : Int64} (hx : 0 ≤ x.toInt) (h : 256 ≤ x.toInt) {S : Int32} (hS : S.toInt = own_sh x.toInt.toNat) : (((((256 : Int32) + ((S - (1 : Int32)) * (128 : Int32))) + (((x.toUInt64 >>> (S &&& 0x3f).toInt64.toUInt64).toInt64).toInt32)) - (128 : Int32))).toInt = own_bk x.toInt.toNat := by
  have b := own_big (n := x.toInt.toNat) (by omega)
  have b2 := own_sh63 (n := x.toInt.toNat) (by have := rng64 x; omega)
  have e := own_ushr x S _ (own_qk hS (by omega)) hx
  obtain ⟨n, hn⟩ : ∃ n : Nat, x.toInt = n := ⟨x.toInt.toNat, by omega⟩
  unfold own_bk
  rw [hn, Int.toNat_natCast] at b b2 hS e
  rw [hn, Int.toNat_natCast]
  rw [hn] at h
  rw [← Int.natCast_ediv] at e
  generalize own_sh n = s at *
  generalize n / 2 ^ s = Q at *
  generalize ((x.toUInt64 >>> (S &&& 0x3f).toInt64.toUInt64).toInt64) = y at *
  have c0 := c_l2i y
  have c1 := c_isub S 1
  have c2 := c_imul (S - 1) 128
  have c3 := c_iadd 256 ((S - 1) * 128)
  have c4 := c_iadd (256 + (S - 1) * 128) y.toInt32
  have c5 := c_isub (256 + (S - 1) * 128 + y.toInt32) 128
  have e1 : (1 : Int32).toInt = 1 := rfl
  have e2 : (128 : Int32).toInt = 128 := rfl
  have e3 : (256 : Int32).toInt = 256 := rfl
  have r0 := rng32 y.toInt32
  have r1 := rng32 (S - 1)
  have r2 := rng32 ((S - 1) * 128)
  have r3 := rng32 (256 + (S - 1) * 128)
  have r4 := rng32 (256 + (S - 1) * 128 + y.toInt32)
  have r5 := rng32 (256 + (S - 1) * 128 + y.toInt32 - 128)
  have e4 : (S - 1).toInt = S.toInt - 1 := by omega
  rw [e4, e2] at c2
  omega
theorem own_mdT {b : Int32} (h0 : 256 ≤ b.toInt) (h1 : b.toInt < 7296) : ((((((b - (256 : Int32)) % (128 : Int32)) + (128 : Int32)).toInt64 <<< ((((b - (256 : Int32)) / (128 : Int32)) + (1 : Int32)) &&& 0x3f).toInt64) + (((1 : Int64) <<< ((((b - (256 : Int32)) / (128 : Int32)) + (1 : Int32)) &&& 0x3f).toInt64) / (2 : Int64)))).toInt = own_md b.toInt.toNat := by
  obtain ⟨n, hn⟩ : ∃ n : Nat, b.toInt = n := ⟨b.toInt.toNat, by omega⟩
  rw [hn] at h0 h1
  have e1 : (1 : Int32).toInt = 1 := rfl
  have e2 : (128 : Int32).toInt = 128 := rfl
  have e3 : (256 : Int32).toInt = 256 := rfl
  have c0 := c_isub b 256
  have r0 := rng32 (b - 256)
  have d0 : (b - 256).toInt = n - 256 := by omega
  have c1 := (c_idiv (b - 256) 128 128 rfl (by decide)).1 (by omega)
  have c2 := (c_irem (b - 256) 128 128 rfl).1 (by omega)
  have c3 := c_iadd ((b - 256) / 128) 1
  have r3 := rng32 ((b - 256) / 128 + 1)
  have c4 := c_iadd ((b - 256) % 128) 128
  have r4 := rng32 ((b - 256) % 128 + 128)
  have hq : ((b - 256) / 128 + 1).toInt = ((n / 128 - 1 : Nat) : Int) := by omega
  have hm : ((b - 256) % 128 + 128).toInt = ((n % 128 + 128 : Nat) : Int) := by omega
  generalize (b - 256) / 128 + 1 = q at *
  generalize (b - 256) % 128 + 128 = z at *
  have l1 := c_lshl z.toInt64 q _ (own_qk hq (by omega))
  have l2 := c_lshl (1 : Int64) q _ (own_qk hq (by omega))
  rw [c_i2l, hm] at l1
  have f1 : (1 : Int64).toInt = 1 := rfl
  rw [f1] at l2
  rw [hn, Int.toNat_natCast]
  unfold own_md
  rw [if_neg (by omega)]
  have hs : n / 128 - 1 ≤ 55 := by omega
  have hs1 : 1 ≤ n / 128 - 1 := by omega
  have hz : n % 128 + 128 ≤ 255 := by omega
  generalize n / 128 - 1 = s at *
  generalize n % 128 + 128 = Q at *
  have p1 : 2 ^ s ≤ 2 ^ 55 := Nat.pow_le_pow_right (by decide) hs
  have p2 : Q * 2 ^ s ≤ 255 * 2 ^ s := Nat.mul_le_mul_right _ hz
  rw [← Int.natCast_mul] at l1
  have g1 := rng64 (z.toInt64 <<< (q &&& 0x3f).toInt64)
  have g2 := rng64 ((1 : Int64) <<< (q &&& 0x3f).toInt64)
  generalize z.toInt64 <<< (q &&& 0x3f).toInt64 = y1 at *
  generalize (1 : Int64) <<< (q &&& 0x3f).toInt64 = y2 at *
  have k2 : y2.toInt = ((2 ^ s : Nat) : Int) := by omega
  have c6 := (c_ldiv y2 2 2 rfl (by decide)).1 (by omega)
  have c7 := c_ladd y1 (y2 / 2)
  have r7 := rng64 (y1 + y2 / 2)
  generalize Q * 2 ^ s = M at *
  generalize 2 ^ s = P at *
  omega
section Inn
variable {p : Program} {l : Launch} {e : Env} {s : State} {m : MethodId} {below : List Frame} {c : Code} {T : State} {args : Array Value}
theorem own_ldJ (h : At T m c below) (hW : s.WarmedH T.vm) (hx : p.tables.exec = Jvm.exec) {own : String} {index : Nat} {v : Int64} (hown : s.vm.findClass own = some m.cls)
    (w : (Cond.constantLong own index v).before args s = true) {g : JFrame} (hg : g.method = m) (hd : decode c.code g.pc = .ok (.ldc2_w index, 3)) {target : State}
    (hr : Steps p.tables e below (T.setTop { g with pc := g.pc + 3, stack := .long v :: g.stack }) target) : Steps p.tables e below (T.setTop g) target := by
  obtain ⟨k, cf, bytes, hk, hcf, hcp, hb⟩ := Cond.constantLong_spec hown w
  obtain ⟨k', hk', he⟩ := hW.alike.2.2 _ _ hk
  subst hg
  jvm_step h [hx, hd, ldc2_w.wp_long (s := T) (f := g) h.top hk' (by rw [he]; exact hcf) hcp, hb]
  exact hr
theorem own_ldD (h : At T m c below) (hW : s.WarmedH T.vm) (hx : p.tables.exec = Jvm.exec) {own : String} {index : Nat} {v : UInt64} (hown : s.vm.findClass own = some m.cls)
    (w : (Cond.constantDouble own index v).before args s = true) {g : JFrame} (hg : g.method = m) (hd : decode c.code g.pc = .ok (.ldc2_w index, 3)) {target : State}
    (hr : Steps p.tables e below (T.setTop { g with pc := g.pc + 3, stack := .double v :: g.stack }) target) : Steps p.tables e below (T.setTop g) target := by
  obtain ⟨k, cf, hk, hcf, hcp⟩ := Cond.constantDouble_spec hown w
  obtain ⟨k', hk', he⟩ := hW.alike.2.2 _ _ hk
  subst hg
  jvm_step h [hx, hd, ldc2_w.wp_double (s := T) (f := g) h.top hk' (by rw [he]; exact hcf) hcp]
  exact hr
theorem own_gs (h : At T m c below) (hW : s.WarmedH T.vm) (ha : l.admits e) (hx : p.tables.exec = Jvm.exec) {Z : State} (hZ : Z.Warmed39 s.vm) {a0 : Array Value} {own C n d : String} {index : Nat} (hown : s.vm.findClass own = some m.cls)
    (w : (Cond.fieldLink own index C n d).before a0 Z = true) {hp : Heap} (eT : T.heap = hp) {v : Value} (F : Sta Z hp C n d v) {g : JFrame} (hg : g.method = m) (hd : decode c.code g.pc = .ok (.getstatic index, 3)) :
    ∃ vm', s.WarmedH vm' ∧ ∀ target, Steps p.tables e below ((T.setVm vm').setTop { g with pc := g.pc + 3, stack := v :: g.stack }) target → Steps p.tables e below (T.setTop g) target := by
  obtain ⟨cf, i, k, f, st, cell, h1, h2, h3, h4, h5, h6, h7⟩ := F
  obtain ⟨k0, hi, ek⟩ := State.fieldFound?_setVm (s := Z) hZ.alike h1
  have hpl : e.platform.magicAccessors = ({} : Platform).magicAccessors := by rw [ha.platform]
  obtain ⟨ci', cfl, k', i', f', hi', hlinks, hright⟩ := Cond.fieldLink_spec hown (mvT (args := #[]) hZ w) e.platform hpl
  cases hi.symm.trans hi'
  obtain ⟨hk, hf⟩ := State.fieldFound?_spec hi
  obtain ⟨vm', hgives, hW', hready, hfi⟩ := State.fieldEntry (e := e) hW hlinks hright hk hf
  obtain ⟨kc, hkc, hekc⟩ := hW'.alike.2.2 _ _ hk
  refine ⟨vm', hW', fun target hrest => ?_⟩
  subst hg eT
  jvm_step h [hx, hd, getstatic.wp_cold (e := e) (s := T) (f := g) h.top hgives hready hfi,
    getstatic.wp_ready (e := e) (s := T.setVm vm') (f := g) h.top hready h2 hkc (by rw [hekc, ek]; exact h3) (by rw [hekc, ek]; exact h4) (show (T.setVm vm').heap[st]? = some cell from h5) (fun q => by rw [q] at h6; cases h6) h7]
  exact hrest
theorem own_is (h : At T m c below) (hW : s.WarmedH T.vm) (ha : l.admits e) (hexec : p.tables.exec = Jvm.exec)
    {own : String} {index : Nat} {x : MethodName} (hown : s.vm.findClass own = some m.cls) (hlink : (Cond.methodLink own index x).before args s = true)
    {m' : MethodId} {meth' : Method} {k' : Class} (hn : s.methodNamed? x = some m') (hm' : s.vm.method? m' = some meth') (hstatic : meth'.isStatic = true)
    (hk' : s.vm.classes[m'.cls]? = some k') (hinit : k'.init = .initialized)
    (hx : x.cls ≠ "java/lang/invoke/MethodHandle" ∧ x.cls ≠ "java/lang/invoke/VarHandle")
    {g : JFrame} (hg : g.method = m) {argsL rest : List Value} (hlen : argsL.length = meth'.sig.parameters.length) (hstack : g.stack = argsL.reverse ++ rest)
    (hdg : decode c.code g.pc = .ok (.invokestatic index, 3)) :
    ∃ vm', s.WarmedH vm' ∧ ∀ target, (∀ acts, Steps p.tables e below (doInvoke e ((T.setVm vm').setTop { g with stack := rest }) acts m' argsL.toArray).1 target) → Steps p.tables e below (T.setTop g) target := by
  have hpl : e.platform.magicAccessors = ({} : Platform).magicAccessors := by rw [ha.platform]
  have hpv : e.platform.polymorphicOnlyByInvokevirtual = true := by rw [ha.platform]
  obtain ⟨ci, hl, hright⟩ := Cond.methodLink_spec hown hn hlink e.platform hpl
  obtain ⟨kx, hkx, hnx⟩ := className_of_methodNamed hn
  cases hk'.symm.trans hkx
  have hE : s.MethodEntry e T.vm m.cls index m' ci := State.methodEntry hW hl hright fun k hk => by
    cases hk'.symm.trans hk
    rw [hnx]; exact hx
  obtain ⟨dk, cfile, nt, mname, mdesc, via, ck, _, hd, hcf, hcp, hnt, -, -, hck, -, hnopoly, -⟩ := hl.here
  cases hk'.symm.trans hck
  have alike := hE.warmed.alike
  obtain ⟨dk₂, hdk₂, hed₂⟩ := alike.2.2 _ _ hd
  obtain ⟨k₂, hk₂, he₂⟩ := alike.2.2 _ _ hk'
  have hnone : (k'.methods.any fun y => y.name == mname && !y.isStatic && signaturePolymorphic k' y) = false := by simp [hnopoly]
  have hnone₂ : (k₂.methods.any fun y => y.name == mname && !y.isStatic && signaturePolymorphic k₂ y) = false := by rw [he₂]; exact hnone
  refine ⟨T.vm.called m.cls ci index m', hE.warmed, fun target hrest => ?_⟩
  subst hg
  jvm_step h [hexec, hdg, invokestatic.wp_cold (e := e) (s := T) (s₀ := s) (f := g) h.top hpv hW hE hd hcf hcp hnt hk' hnone,
    invokestatic.wp_ready (e := e) (s := T.setVm (T.vm.called g.method.cls ci index m')) (k := k₂) (meth := meth') (m := m') (args := argsL) (rest := rest) (f := g)
      h.top ⟨ci, mname, mdesc, via, m'.cls, k₂, memberRef_ask_via (e := e) hdk₂ (by rw [hed₂]; exact hcf) hcp hnt, hE.classReady, hk₂, hnone₂⟩ hE.ready hk₂
      (by show (T.vm.called g.method.cls ci index m').method? m' = some meth'; rw [alike.method?]; exact hm') (by rw [he₂]; exact hnopoly meth') hstatic (by rw [he₂]; exact hinit) hlen hstack]
  exact fun acts => hrest _
def own_room (e : Env) (T : State) (k w : Nat) : Prop := T.frames.tail.length + k < (e.platform.stackLimits T.me).1 ∧ stackWeight T.frames.tail + w ≤ (e.platform.stackLimits T.me).2
def own_Sub (tb : Tables) (e : Env) (below : List Frame) (s : State) (m : MethodId) (c : Code) (a : Array Value) (v : Value) (k w : Nat) (hp : Heap) : Prop :=
  ∀ U : State, At U m c below → s.WarmedH U.vm → U.heap = hp → own_room e U k w → ∃ vm', s.WarmedH vm' ∧ ∀ target, (∀ (f : JFrame) (acts : List Action), f.method = m → f.locked = none → f.entered = [] → Steps tb e below (doReturn e ((U.setVm vm').setTop f) acts (some v)).1 target) → Steps tb e below (U.setTop (entryFrame m a c.maxLocals)) target
theorem own_at (h : At T m c below) (hW : s.WarmedH T.vm) {vm' : Vm} (hW' : s.WarmedH vm') : At (T.setVm vm') m c below := h.setVm (hW.alike.symm.trans hW'.alike)
theorem own_nf {vm' : Vm} (h : At T m c below) {k w : Nat} (hR : own_room e T k w) (hk : 1 ≤ k) {g : JFrame} {vars : Nat} (hw : g.locals.size + 11 + 2 * g.monitorRoom + (g.stack.map fun v => v.category).sum + (vars + 11) ≤ w) :
    e.platform.stackFull ((((T.setVm vm').setTop g).threads[((T.setVm vm').setTop g).cur]?).getD { frames := [] }) ((T.setVm vm').setTop g).frames vars = false := by
  have ht : (T.setVm vm').topJava?.isSome := h.top
  have hF : ((T.setVm vm').setTop g).frames = .java g :: T.frames.tail := State.frames_setTop' _ ht
  have r1 := hR.1
  have r2 := hR.2
  have e1 : e.platform.stackLimits (T.setVm vm').me = e.platform.stackLimits T.me := rfl
  refine stackFull_of hF ?_ ?_
  · rw [State.stackLimits_setTop _ ht, e1, List.length_cons]; omega
  · rw [State.stackLimits_setTop _ ht, e1, stackWeight_java]; omega
theorem own_d2r (h : At T m c below) (hW : s.WarmedH T.vm) (ha : l.admits e) (hx : p.tables.exec = Jvm.exec) {own : String} {index : Nat} (hown : s.vm.findClass own = some m.cls)
    (hlink : (Cond.methodLink own index doubleToRawLongBitsName).before args s = true) (hnat : (Cond.native doubleToRawLongBitsName).before args s = true) (hstat : (Cond.static doubleToRawLongBitsName).before args s = true) (hinit : (Cond.initialized "java/lang/Double").before args s = true)
    {k w : Nat} (hR : own_room e T k w) (hk : 1 ≤ k) {g : JFrame} (hg : g.method = m) {rest : List Value} {b : UInt64} (hst : g.stack = .double b :: rest) (hd : decode c.code g.pc = .ok (.invokestatic index, 3))
    (hw : g.locals.size + 11 + 2 * g.monitorRoom + (rest.map fun v => v.category).sum + (nativeFrameWords "java/lang/Double" "doubleToRawLongBits" 2 + 11) ≤ w) :
    ∃ vm', s.WarmedH vm' ∧ ∀ target, Steps p.tables e below ((T.setVm vm').setTop { g with pc := g.pc + 3, stack := .long b.toInt64 :: rest }) target → Steps p.tables e below (T.setTop g) target := by
  obtain ⟨r, kS, methS, hnS, hmS, hkS, N⟩ := NativeOf.of_static hnat hstat (ps := [.double]) (ret := some .long) (by decide +kernel)
  have hinitS : kS.init = .initialized := Cond.initialized_spec (findClass_of_methodNamed hnS) hkS hinit
  obtain ⟨vm', hW', step⟩ := own_is h hW ha hx hown hlink hnS hmS N.static hkS hinitS (by decide) hg (argsL := [.double b]) (rest := rest) (by rw [N.sig]; rfl) hst hd
  refine ⟨vm', hW', fun target hrest => step target fun acts => ?_⟩
  subst hg
  obtain ⟨kS', N'⟩ := N.alike hW'.alike
  exact Steps.doubleToRawLongBitsOf (g := { g with stack := rest }) (ig := .invokestatic index) (len := 3) p (own_at h hW hW') acts N' b (own_nf h hR hk hw) hd hrest
theorem own_l2d (h : At T m c below) (hW : s.WarmedH T.vm) (ha : l.admits e) (hx : p.tables.exec = Jvm.exec) {own : String} {index : Nat} (hown : s.vm.findClass own = some m.cls)
    (hlink : (Cond.methodLink own index longBitsToDoubleName).before args s = true) (hnat : (Cond.native longBitsToDoubleName).before args s = true) (hstat : (Cond.static longBitsToDoubleName).before args s = true) (hinit : (Cond.initialized "java/lang/Double").before args s = true)
    {k w : Nat} (hR : own_room e T k w) (hk : 1 ≤ k) {g : JFrame} (hg : g.method = m) {rest : List Value} {b : Int64} (hv : (b.toUInt64 &&& 0x7fffffffffffffff > 0x7ff0000000000000 && b.toUInt64 &&& 0x0008000000000000 == 0) = false) (hst : g.stack = .long b :: rest) (hd : decode c.code g.pc = .ok (.invokestatic index, 3))
    (hw : g.locals.size + 11 + 2 * g.monitorRoom + (rest.map fun v => v.category).sum + (nativeFrameWords "java/lang/Double" "longBitsToDouble" 2 + 11) ≤ w) :
    ∃ vm', s.WarmedH vm' ∧ ∀ target, Steps p.tables e below ((T.setVm vm').setTop { g with pc := g.pc + 3, stack := .double b.toUInt64 :: rest }) target → Steps p.tables e below (T.setTop g) target := by
  obtain ⟨r, kS, methS, hnS, hmS, hkS, N⟩ := NativeOf.of_static hnat hstat (ps := [.long]) (ret := some .double) (by decide +kernel)
  have hinitS : kS.init = .initialized := Cond.initialized_spec (findClass_of_methodNamed hnS) hkS hinit
  obtain ⟨vm', hW', step⟩ := own_is h hW ha hx hown hlink hnS hmS N.static hkS hinitS (by decide) hg (argsL := [.long b]) (rest := rest) (by rw [N.sig]; rfl) hst hd
  refine ⟨vm', hW', fun target hrest => step target fun acts => ?_⟩
  subst hg
  obtain ⟨kS', N'⟩ := N.alike hW'.alike
  exact Steps.longBitsToDoubleOf (g := { g with stack := rest }) (ig := .invokestatic index) (len := 3) p (own_at h hW hW') acts N' b (own_nf h hR hk hw) hv hd hrest
theorem own_call (h : At T m c below) (hW : s.WarmedH T.vm) (ha : l.admits e) (hx : p.tables.exec = Jvm.exec) {own : String} {index : Nat} {y : MethodName} (hown : s.vm.findClass own = some m.cls)
    (hlink : (Cond.methodLink own index y).before args s = true) (hstat : (Cond.static y).before args s = true) (hinit : (Cond.initialized y.cls).before args s = true) {by0 : ByteArray} {ml : Nat} {rt : Option FieldType} (hcode : (Cond.code y by0 ml rt).before args s = true)
    (hy : y.cls ≠ "java/lang/invoke/MethodHandle" ∧ y.cls ≠ "java/lang/invoke/VarHandle") (hpl : plainFor y = true) {argsL rest : List Value} {v : Value} {k w k' w' : Nat} {hp : Heap}
    (hB : ∀ (mk : MethodId) (meth : Method) (cM : Code), s.methodNamed? y = some mk → s.vm.method? mk = some meth → meth.code = some cM → cM.code = by0 → cM.maxLocals = ml → meth.sig.returnType = rt → own_Sub p.tables e below s mk cM argsL.toArray v k' w' hp)
    (eT : T.heap = hp) (hR : own_room e T k w) (hk : k' + 1 ≤ k) {g : JFrame} (hg : g.method = m) (hlen : ∀ sig, parseMethodDescriptor y.desc = some sig → argsL.length = sig.parameters.length) (hst : g.stack = argsL.reverse ++ rest) (hd : decode c.code g.pc = .ok (.invokestatic index, 3))
    (hw : g.locals.size + 11 + 2 * g.monitorRoom + (rest.map fun v => v.category).sum + (ml + 11) + w' ≤ w) :
    ∃ vm', s.WarmedH vm' ∧ ∀ target, Steps p.tables e below ((T.setVm vm').setTop { g with pc := g.pc + 3, stack := v :: rest }) target → Steps p.tables e below (T.setTop g) target := by
  obtain ⟨mk, hnamed⟩ := Cond.code_named hcode
  obtain ⟨methM, cM, hmethM, hcM, hbM, hlM, hrM, hlock, -, hsig⟩ := Cond.code_spec hnamed hcode
  obtain ⟨kP, hkP, -⟩ := className_of_methodNamed hnamed
  have hinitP : kP.init = .initialized := Cond.initialized_spec (findClass_of_methodNamed hnamed) hkP hinit
  obtain ⟨vm1, hW1, step⟩ := own_is h hW ha hx hown hlink hnamed hmethM (Cond.static_spec hnamed hmethM hstat) hkP hinitP hy hg (argsL := argsL) (rest := rest) (hlen _ hsig) hst hd
  subst hg
  have h1 : At (T.setVm vm1) g.method c below := own_at h hW hW1
  have hm1 : (T.setVm vm1).vm.method? mk = some methM := by rw [show (T.setVm vm1).vm = vm1 from rfl, hW1.alike.method?]; exact hmethM
  have hp1 : (T.setVm vm1).plainMethod mk := State.plainMethod.of_named hpl (show (T.setVm vm1).methodNamed? y = some mk from (show (s.setVm vm1).methodNamed? y = some mk by rw [State.methodNamed?_setVm hW1.alike]; exact hnamed)) hm1
  have h2 := At.enter (g := { g with stack := rest }) h1 argsL.toArray hm1 hcM hp1
  have hfr := frames_entered (s := T.setVm vm1) (g := { g with stack := rest }) h1.top (.java (entryFrame mk argsL.toArray cM.maxLocals))
  have hR2 : own_room e (((T.setVm vm1).setTop { g with stack := rest }).pushFrame (.java (entryFrame mk argsL.toArray cM.maxLocals))) k' w' := by
    have r1 := hR.1
    have r2 := hR.2
    have e1 : e.platform.stackLimits (((T.setVm vm1).setTop { g with stack := rest }).pushFrame (.java (entryFrame mk argsL.toArray cM.maxLocals))).me = e.platform.stackLimits T.me := by
      rw [State.stackLimits_pushFrame, State.stackLimits_setTop _ h1.top]; rfl
    have e2 : (T.setVm vm1).frames.tail = T.frames.tail := rfl
    unfold own_room
    rw [e1, hfr, List.tail_cons, e2, List.length_cons, stackWeight_java]
    constructor
    · omega
    · show stackWeight T.frames.tail + (g.locals.size + 11 + 2 * g.monitorRoom) + (rest.map fun v => v.category).sum + w' ≤ _
      omega
  obtain ⟨vm2, hW2, run⟩ := hB mk methM cM hnamed hmethM hcM hbM hlM hrM _ h2 hW1 eT hR2
  refine ⟨vm2, hW2, fun target hk2 => step target fun acts => ?_⟩
  rw [doInvoke_enter (g := { g with stack := rest }) h1.top acts hm1 hcM hlock (by rw [hlM]; exact own_nf h hR (by omega) (by show g.locals.size + 11 + 2 * g.monitorRoom + (rest.map fun v => v.category).sum + (ml + 11) ≤ w; omega))]
  refine run target fun f acts2 hf1 hf2 hf3 => ?_
  have hm2 : vm2.method? mk = some methM := by rw [hW2.alike.method?]; exact hmethM
  have h3 : At (T.setVm vm2) g.method c below := own_at h hW hW2
  rw [doReturn_leave (u := (((T.setVm vm1).setTop { g with stack := rest }).pushFrame (.java (entryFrame mk argsL.toArray cM.maxLocals))).setVm vm2) (f := f) (f₀ := entryFrame mk argsL.toArray cM.maxLocals) (g := { g with stack := rest }) (r := T.frames.tail) (meth := methM) (cg := c) (ig := .invokestatic index) (len := 3) acts2 hfr (by rw [hf1]; exact hm2) hlock hf2 hf3 h3.code hd]
  have e3 : ((((T.setVm vm1).setTop { g with stack := rest }).pushFrame (.java (entryFrame mk argsL.toArray cM.maxLocals))).setVm vm2).setFrames (.java { g with stack := rest } :: T.frames.tail) = (T.setVm vm2).setTop { g with stack := rest } := by
    have q := congrArg (fun S : State => S.setVm vm2) (setFrames_entered (s := T.setVm vm1) (g := { g with stack := rest }) h1.top (.java (entryFrame mk argsL.toArray cM.maxLocals)))
    exact q
  rw [e3, State.setTop_setTop]
  exact hk2
theorem own_rD (h : At T m c below) (hx : p.tables.exec = Jvm.exec) {meth : Method} (hm : T.vm.method? m = some meth) (hret : meth.sig.returnType = some .double) {pc : Nat} {Ls : Array Slot} {z : UInt64} {rest : List Value} (hd : decode c.code pc = .ok (.dreturn, 1)) {target : State}
    (hk : ∀ (f : JFrame) (acts : List Action), f.method = m → f.locked = none → f.entered = [] → Steps p.tables e below (doReturn e (T.setTop f) acts (some (.double z))).1 target) : Steps p.tables e below (T.setTop (mkF m pc Ls (.double z :: rest))) target := by
  have hn : narrow .double (.double z) = .double z := rfl
  show Steps p.tables e below (T.setTop { method := m, pc := pc, locals := Ls, stack := _ :: rest, locked := none }) _
  jvm_step h [h.top, hx, hd, hm, hret, hn]
  first | (intro acts; exact hk _ acts rfl rfl rfl) | exact hk _ _ rfl rfl rfl
theorem own_rI (h : At T m c below) (hx : p.tables.exec = Jvm.exec) {meth : Method} (hm : T.vm.method? m = some meth) (hret : meth.sig.returnType = some .int) {pc : Nat} {Ls : Array Slot} {z : Int32} {rest : List Value} (hd : decode c.code pc = .ok (.ireturn, 1)) {target : State}
    (hk : ∀ (f : JFrame) (acts : List Action), f.method = m → f.locked = none → f.entered = [] → Steps p.tables e below (doReturn e (T.setTop f) acts (some (.int z))).1 target) : Steps p.tables e below (T.setTop (mkF m pc Ls (.int z :: rest))) target := by
  have hn : narrow .int (.int z) = .int z := rfl
  show Steps p.tables e below (T.setTop { method := m, pc := pc, locals := Ls, stack := _ :: rest, locked := none }) _
  jvm_step h [h.top, hx, hd, hm, hret, hn]
  first | (intro acts; exact hk _ acts rfl rfl rfl) | exact hk _ _ rfl rfl rfl
theorem own_mt (hW : s.WarmedH T.vm) {meth : Method} (hm : s.vm.method? m = some meth) : T.vm.method? m = some meth := by rw [hW.alike.method?]; exact hm
theorem own_ceilB {R : Room} {Z : State} {a0 : Array Value} {n0 : Nat} {hp : Heap} {W k w : Nat} {b r : UInt64} (hx : p.tables.exec = Jvm.exec) (hZ : Z.Warmed39 s.vm) {byM byS : ByteArray}
    (wM : (Cond.code ⟨"java/lang/Math", "ceil", "(D)D"⟩ byM 2 (some .double)).before a0 Z = true) (wS : (Cond.code ⟨"java/lang/StrictMath", "ceil", "(D)D"⟩ byS 2 (some .double)).before a0 Z = true) (wi : (Cond.initialized "java/lang/StrictMath").before a0 Z = true)
    (hn : r &&& 0x7fffffffffffffff ≤ 0x7ff0000000000000)
    (hS : ∀ (mk : MethodId) (meth : Method) (cM : Code), s.methodNamed? ⟨"java/lang/StrictMath", "ceil", "(D)D"⟩ = some mk → s.vm.method? mk = some meth → meth.code = some cM → cM.code = byS → cM.maxLocals = 2 → meth.sig.returnType = some .double → own_Sub p.tables e below s mk cM #[.double b] (.double r) k w hp)
    (hpl : plainFor ⟨"java/lang/StrictMath", "ceil", "(D)D"⟩ = true) (hfr : k + 4 ≤ R.frames) (hlo : W + 13 + w + 13 ≤ R.locals) :
    Back l R p e below s args ⟨"java/lang/Math", "ceil", "(D)D"⟩ 3 W (fun A a => a = #[.double b] ∧ A.U.heap = hp ∧ A.cells + 0 ≤ R.cells ∧ A.slots + 0 ≤ R.slots)
      (fun A _ v B => ∃ L, (v = some (.double r) ∧ Fr n0 L ∧ B.U.heap = hp) ∧ B.locs = A.locs ++ L ∧ B.cells = A.cells + 0 ∧ B.slots = A.slots + 0) := by
  intro m meth c A g ig mk a' X hg hsize hdg hW hnamed ⟨ha', hAh, hc, hs⟩
  subst ha'
  obtain ⟨U, Ls, c0, s0⟩ := A
  dsimp only [Pt.U, Pt.locs, Pt.cells, Pt.slots] at hAh hc hs X hnamed ⊢
  have hU : Z.Warmed39 U.vm := wtrans hZ X.warmed
  obtain ⟨methM, cM, hmethM, hcodeM, -, hlocalsM, -, hlocksM, -, hsigM⟩ := Cond.code_spec hnamed (mv (args := #[]) hU wM)
  obtain ⟨kP, hkP, hkname⟩ := className_of_methodNamed hnamed
  obtain ⟨hmnM, hmdM⟩ := name_of_methodNamed hnamed hmethM
  have hxP : kP.methods[mk.idx]? = some methM := by simpa [Vm.method?, hkP] using hmethM
  have hbootP : kP.loader = none := Vm.bootOf_findClass (findClass_of_methodNamed hnamed) hkP
  have hCS := mv (args := #[]) hU wS
  obtain ⟨mS, hnS⟩ := Cond.code_named hCS
  obtain ⟨methS, cS, hmethS, hcodeS, hbS, hlocS, hretS, hlockS, -, -⟩ := Cond.code_spec hnS hCS
  obtain ⟨kS, hkS, -⟩ := className_of_methodNamed hnS
  have hfS : U.vm.findClass "java/lang/StrictMath" = some mS.cls := findClass_of_methodNamed hnS
  have hiS : kS.init = .initialized := Cond.initialized_spec hfS hkS (mv (args := #[]) hU wi)
  have hmS : kS.findMethod "ceil" "(D)D" = some mS.idx := by
    have h := hnS
    simp only [State.methodNamed?, Option.bind_eq_bind, Option.pure_def] at h
    rw [hfS] at h
    simp only [Option.bind_some, hkS] at h
    cases hfm : kS.findMethod "ceil" "(D)D" with
    | none => rw [hfm] at h; cases h
    | some j => rw [hfm] at h; simp at h; rw [← h]
  subst hg
  have h : At U g.method c below := X.here
  obtain ⟨g₀, hg0⟩ := Option.isSome_iff_exists.mp h.top
  obtain ⟨fr, hr⟩ := State.topJava?_eq_some.mp hg0
  have hcur : U.cur < U.threads.size := State.cur_lt_of_frames hr
  have htail : U.frames.tail = fr := by rw [hr]; rfl
  have hbl : fr = below := by rw [← htail]; exact X.tail
  subst hbl
  have htop : U.setTop g = U.setFrames (.java g :: fr) := State.setTop_of_frames _ hr
  obtain ⟨-, r2, -, r4⟩ := State.hasRoom_stack X.room
  rw [State.localsInUse_invoking X.frames X.method X.code] at r4
  rw [X.frames, List.length_cons] at r2
  have hfull := X.notFull (g := g) hsize (vars := cM.maxLocals) (by omega) (by rw [hlocalsM]; omega)
  rw [(doInvoke_java (s := U.setTop g) (e := e) (acts := []) (args := #[.double b]) (meth := methM) (code := cM) hmethM hcodeM hlocksM hfull).1, hlocalsM]
  have hU1 : (U.setTop g).pushFrame (.java { method := mk, pc := 0, locals := argsToLocals #[.double b] 2, stack := [], locked := none }) = U.setFrames (.java (entryFrame mk #[.double b] 2) :: .java g :: fr) := by
    rw [State.pushFrame, State.frames_setTop _ hr, htop, State.setFrames_setFrames]
    rfl
  rw [hU1]
  have hf1 : (U.setFrames (.java (entryFrame mk #[.double b] 2) :: .java g :: fr)).frames = .java (entryFrame mk #[.double b] 2) :: .java g :: fr := State.frames_setFrames _ hcur
  have hov : overridden p.tables e (U.setFrames (.java (entryFrame mk #[.double b] 2) :: .java g :: fr)) (entryFrame mk #[.double b] 2) = some Jvm.Free.Hsc.ceilRow :=
    Jvm.Free.Fl.Abs.overridden_some (k := kP) (x := methM) rfl hkP (by rw [hkname]; decide) hbootP hxP (by rw [hkname, hmnM, hmdM]; exact Jvm.Free.Hsc.ceil_row p)
  have hb2 : ∀ F : List Frame, ((U.setFrames F).vm.classes[mk.cls]?.bind fun y => y.methods[mk.idx]?) = some methM := by
    intro F
    show (U.vm.classes[mk.cls]?.bind fun y => y.methods[mk.idx]?) = some methM
    simp [hkP, hxP]
  have hsig2 : parseMethodDescriptor "(D)D" = some { parameters := [.double], returnType := some .double } := by decide +kernel
  have hparams : methM.sig.parameters.length = 1 := by
    have h3 := hsigM
    rw [hsig2] at h3
    rw [← Option.some.inj h3]
    rfl
  have htake : ∀ n : Nat, List.take (1 + n) [Value.double b] = [Value.double b] := by
    intro n
    exact List.take_of_length_le (Nat.le_add_right 1 n)
  obtain ⟨acts₂, hr2⟩ := Jvm.Free.Hsc.ceil_run b e (U.setFrames (.native { method := mk, args := #[.double b] } :: .java g :: fr)) (cS := mS.cls) (kS := kS) (i := mS.idx) hfS hkS hiS hmS
  have hwords : ∀ F : List Frame, (((U.setFrames F).vm.classes[mk.cls]?).bind fun k => (k.methods[mk.idx]?).map fun n => upcallWords k.name n.name).getD 0 = 0 := by
    intro F
    show ((U.vm.classes[mk.cls]?).bind fun k => (k.methods[mk.idx]?).map fun n => upcallWords k.name n.name).getD 0 = 0
    simp [hkP, hxP, hkname, hmnM, upcallWords]
  have hstep2 : (stepThread p.tables e (U.setFrames (.java (entryFrame mk #[.double b] 2) :: .java g :: fr))).1 = (doInvoke e (U.setFrames (.native { method := mk, args := #[.double b], stage := 1, saved := #[], awaiting := true, answer := none, words := 0 } :: .java g :: fr)) acts₂ mS #[.double b]).1 := by
    unfold stepThread
    simp only [hf1, hov]
    have hb3 : (U.vm.classes[mk.cls]?.bind fun x => x.methods[mk.idx]?) = some methM := by simp [hkP, hxP]
    have hw3 : ((U.vm.classes[mk.cls]?).bind fun k => Option.map (fun n => upcallWords k.name n.name) k.methods[mk.idx]?).getD 0 = 0 := by simp [hkP, hxP, hkname, hmnM, upcallWords]
    simp [entryFrame, argsToLocals, Value.category, argCount, hb2, hb3, hparams, htake, hr2, afterNative, hwords, hw3, State.setFrames_setFrames]
  obtain ⟨N, hN⟩ : ∃ N : NFrame, N = { method := mk, args := #[.double b], stage := 1, saved := #[], awaiting := true, answer := none, words := 0 } := ⟨_, rfl⟩
  rw [← hN] at hstep2
  have hNw : stackWeight (.native N :: .java g :: fr) = vmFrameWords + (stackWeight fr + (g.locals.size + 11 + 2 * g.monitorRoom) + (g.stack.map fun v => v.category).sum) := by
    rw [stackWeight_cons, stackWeight_java]
    congr 1
    show max N.words vmFrameWords = vmFrameWords
    rw [hN]; exact Nat.max_eq_right (Nat.zero_le _)
  have hN0 : (U.setFrames (.native N :: .java g :: fr)).frames = .native N :: .java g :: fr := State.frames_setFrames _ hcur
  have hlim : ∀ F : List Frame, e.platform.stackLimits (U.setFrames F).me = e.platform.stackLimits s.me := fun F => by rw [State.stackLimits_setFrames, X.limits]
  have hfull2 : e.platform.stackFull (((U.setFrames (.native N :: .java g :: fr)).threads[(U.setFrames (.native N :: .java g :: fr)).cur]?).getD { frames := [] }) (U.setFrames (.native N :: .java g :: fr)).frames cS.maxLocals = false := by
    refine stackFull_of hN0 ?_ ?_
    · rw [hlim, List.length_cons, List.length_cons]; omega
    · rw [hlim, hNw, hlocS, hsize]; omega
  have hent := (doInvoke_java (s := U.setFrames (.native N :: .java g :: fr)) (e := e) (acts := acts₂) (args := #[.double b]) (meth := methS) (code := cS) hmethS hcodeS hlockS hfull2).1
  have hU2 : (U.setFrames (.native N :: .java g :: fr)).pushFrame (.java { method := mS, pc := 0, locals := argsToLocals #[.double b] cS.maxLocals, stack := [], locked := none }) = U.setFrames (.java (entryFrame mS #[.double b] cS.maxLocals) :: .native N :: .java g :: fr) := by
    rw [State.pushFrame, hN0, State.setFrames_setFrames]
    rfl
  rw [hU2] at hent
  have hf2 : (U.setFrames (.java (entryFrame mS #[.double b] cS.maxLocals) :: .native N :: .java g :: fr)).frames = .java (entryFrame mS #[.double b] cS.maxLocals) :: .native N :: .java g :: fr := State.frames_setFrames _ hcur
  have hA2 : At (U.setFrames (.java (entryFrame mS #[.double b] cS.maxLocals) :: .native N :: .java g :: fr)) mS cS fr :=
    ⟨by rw [State.topJava?_of_frames hf2]; rfl, ⟨[.native N, .java g], by rw [hf2]; rfl⟩, h.running, by simpa using h.runnable, by simpa using h.alone, by rw [State.code?_eq]; simp [State.setFrames, hmethS, hcodeS], State.plainMethod.of_named (s := U) hpl hnS hmethS⟩
  have hnS' : s.methodNamed? ⟨"java/lang/StrictMath", "ceil", "(D)D"⟩ = some mS := by
    have q : (s.setVm U.vm).methodNamed? ⟨"java/lang/StrictMath", "ceil", "(D)D"⟩ = some mS := hnS
    rw [State.methodNamed?_setVm X.warmed.alike] at q; exact q
  have hmS' : s.vm.method? mS = some methS := by rw [← X.warmed.alike.method?]; exact hmethS
  have hR2 : own_room e (U.setFrames (.java (entryFrame mS #[.double b] cS.maxLocals) :: .native N :: .java g :: fr)) k w := by
    unfold own_room
    rw [hlim, hf2, List.tail_cons, hNw, List.length_cons, List.length_cons, hsize]
    constructor <;> omega
  obtain ⟨vm', hW', run⟩ := hS mS methS cS hnS' hmS' hcodeS hbS hlocS hretS _ hA2 X.warmed hAh hR2
  refine ⟨some (.double r), ⟨U.setVm vm', Ls, c0, s0⟩, X.noted hW', ⟨[], ⟨rfl, Fr.nil n0, hAh⟩, (List.append_nil _).symm, rfl, rfl⟩, ?_⟩
  dsimp only [Pt.U, Pt.locs, Pt.cells, Pt.slots]
  refine Steps.head ⟨h.running, by simpa using h.runnable, by simpa using h.alone⟩ ⟨[.java (entryFrame mk #[.double b] 2), .java g], by rw [hf1]; rfl, by simp, by simp⟩ ?_
  rw [hstep2, hent]
  have hset : (U.setFrames (.java (entryFrame mS #[.double b] cS.maxLocals) :: .native N :: .java g :: fr)) = (U.setFrames (.java (entryFrame mS #[.double b] cS.maxLocals) :: .native N :: .java g :: fr)).setTop (entryFrame mS #[.double b] cS.maxLocals) := (State.setTop_self (State.topJava?_of_frames hf2)).symm
  rw [hset]
  refine run _ fun f acts2 hf1' hf2' hf3' => ?_
  obtain ⟨N2, hN2⟩ : ∃ N2 : NFrame, N2 = { N with awaiting := false, answer := some (.returned (some (.double r))) } := ⟨_, rfl⟩
  have hfv : ((U.setFrames (.java (entryFrame mS #[.double b] cS.maxLocals) :: .native N :: .java g :: fr)).setVm vm').frames = .java (entryFrame mS #[.double b] cS.maxLocals) :: .native N :: .java g :: fr := hf2
  have hret2 := (doReturn_plain (e := e) (acts := acts2) (v := some (.double r)) (s := ((U.setFrames (.java (entryFrame mS #[.double b] cS.maxLocals) :: .native N :: .java g :: fr)).setVm vm').setTop f) (f := f) (below := .native N :: .java g :: fr) (fs := .native N2 :: .java g :: fr) (meth := methS) (State.frames_setTop f hfv)
    (by rw [hf1', State.setTop_of_frames _ hfv]; show vm'.method? mS = some methS; rw [hW'.alike.method?]; exact hmS') hlockS hf2' hf3' (by rw [hN2]; rfl)).1
  rw [hret2]
  have hS2 : (((U.setFrames (.java (entryFrame mS #[.double b] cS.maxLocals) :: .native N :: .java g :: fr)).setVm vm').setTop f).setFrames (.native N2 :: .java g :: fr) = (U.setVm vm').setFrames (.native N2 :: .java g :: fr) := by
    rw [State.setTop_of_frames _ hfv, State.setFrames_setFrames]
    show ((U.setFrames _).setFrames _).setVm vm' = (U.setFrames _).setVm vm'
    rw [State.setFrames_setFrames]
  rw [hS2]
  have hfS2 : ((U.setVm vm').setFrames (.native N2 :: .java g :: fr)).frames = .native N2 :: .java g :: fr := State.frames_setFrames (s := U.setVm vm') _ hcur
  have hal : U.vm.Alike vm' := X.warmed.alike.symm.trans hW'.alike
  obtain ⟨k2, hk2, ek⟩ := hal.2.2 _ _ hkP
  obtain ⟨acts₃, hr3⟩ := Jvm.Free.Hsc.ceil_resume hn e ((U.setVm vm').setFrames (.native N2 :: .java g :: fr))
  have hA3 : At (U.setVm vm') g.method c fr := h.setVm hal
  have hfs : handOver ((U.setVm vm').setFrames (.native N2 :: .java g :: fr)) (some (.double r)) (.java g :: fr) = some (.java { g with pc := g.pc + 3, stack := .double r :: g.stack } :: fr) := by
    have q : ((U.setVm vm').setFrames (.native N2 :: .java g :: fr)).code? g.method = some c := hA3.code
    simp [handOver, q, hdg, Except.toOption]
  have hstep4 : (stepThread p.tables e ((U.setVm vm').setFrames (.native N2 :: .java g :: fr))).1 = ((U.setVm vm').setFrames (.native N2 :: .java g :: fr)).setFrames (.java { g with pc := g.pc + 3, stack := .double r :: g.stack } :: fr) := by
    rw [Jvm.Free.Hsc.stepThread_resumed' (f := N2) (k := k2) (x := methM) (o := .returned (some (.double r))) hfS2 (by rw [hN2, hN]; exact hk2) (by rw [ek]; exact hbootP) (by rw [hN2, hN, ek]; exact hxP) (by rw [ek, hkname, hmnM, hmdM]; exact Jvm.Free.Hsc.ceil_row p) (by rw [hN2])]
    have e9 : N2.stage = 1 ∧ N2.saved = #[] := by rw [hN2, hN]; exact ⟨rfl, rfl⟩
    rw [e9.1, e9.2]
    show (afterNative e _ _ ((Jvm.Free.Hsc.ceilRow.resume 1 #[] (.returned (some (.double r)))).run e _)).1 = _
    rw [hr3]
    exact doReturn_native (f := N2) hfS2 (by rw [hN2, hN]) hfs
  refine Steps.head ⟨h.running, by simpa using h.runnable, by simpa using h.alone⟩ ⟨[.native N2, .java g], by rw [hfS2]; rfl, by simp, by simp⟩ ?_
  rw [hstep4, State.setFrames_setFrames, ← State.setTop_of_frames (s := U.setVm vm') _ hr]
  exact Steps.refl _
end Inn
theorem d16_0 : decode jdk_29_method_92_code 0 = .ok (.dload_n 0, 1) := by decide +kernel
theorem d16_1 : decode jdk_29_method_92_code 1 = .ok (.invokestatic 79, 3) := by decide +kernel
theorem d16_4 : decode jdk_29_method_92_code 4 = .ok (.ldc2_w 87, 3) := by decide +kernel
theorem d16_7 : decode jdk_29_method_92_code 7 = .ok (.land, 1) := by decide +kernel
theorem d16_8 : decode jdk_29_method_92_code 8 = .ok (.bipush 52, 2) := by decide +kernel
theorem d16_10 : decode jdk_29_method_92_code 10 = .ok (.lshr, 1) := by decide +kernel
theorem d16_11 : decode jdk_29_method_92_code 11 = .ok (.ldc2_w 322, 3) := by decide +kernel
theorem d16_14 : decode jdk_29_method_92_code 14 = .ok (.lsub, 1) := by decide +kernel
theorem d16_15 : decode jdk_29_method_92_code 15 = .ok (.l2i, 1) := by decide +kernel
theorem d16_16 : decode jdk_29_method_92_code 16 = .ok (.ireturn, 1) := by decide +kernel
theorem own_efs_ge1 (m : MethodId) : entryFrame m #[(.double (4606281698874543309 : UInt64))] 2 = (mkF m 0 #[.val (.double (4606281698874543309 : UInt64)), .second] []) := by first | (simp [entryFrame, mkF, argsToLocals, Value.category]; done) | rfl
set_option maxRecDepth 65536 in
set_option maxHeartbeats 40000000 in
theorem own_sub_ge1 {p : Program} {l : Launch} {e : Env} {below : List Frame} {s Z : State} {a0 : Array Value} {hp : Heap} (hw : ∀ d ∈ tables_1, d.before a0 Z = true) (hZ : Z.Warmed39 s.vm) (ha : l.admits e) (hx : p.tables.exec = Jvm.exec) (F : Sta Z hp "java/lang/StrictMath" "$assertionsDisabled" "Z" (.int (1 : Int32))) (m : MethodId) (meth : Method) (c : Code) (hn : s.methodNamed? (⟨"java/lang/Math", "getExponent", "(D)I"⟩ : MethodName) = some m) (hm : s.vm.method? m = some meth) (hc : meth.code = some c) (hby : c.code = jdk_29_method_92_code) (hml : c.maxLocals = 2) (hret : meth.sig.returnType = some .int) : own_Sub p.tables e below s m c #[(.double (4606281698874543309 : UInt64))] (.int (-1 : Int32)) 1 60 hp := by
  intro T hA hW hT hR
  have hown : s.vm.findClass "java/lang/Math" = some m.cls := findClass_of_methodNamed hn
  rw [hml, own_efs_ge1 m]
  obtain ⟨vm1, hW1, st1⟩ := own_d2r (p := p) (e := e) (T := T) (args := #[]) hA hW ha hx hown (mvT hZ (hw _ (List.mem_of_getElem? (i := 76) rfl))) (mvT hZ (hw _ (List.mem_of_getElem? (i := 79) rfl))) (mvT hZ (hw _ (List.mem_of_getElem? (i := 77) rfl))) (mvT hZ (hw _ (List.mem_of_getElem? (i := 78) rfl))) hR (by decide) (g := (mkF m 1 #[.val (.double (4606281698874543309 : UInt64)), .second] [(.double (4606281698874543309 : UInt64))])) rfl (rest := []) rfl (hb hby d16_1) (by show 2 + 11 + 2 * 0 + 0 + (nativeFrameWords "java/lang/Double" "doubleToRawLongBits" 2 + 11) ≤ 60; decide +kernel)
  have hA1 : At (T.setVm vm1) m c below := own_at hA hW hW1
  refine ⟨vm1, hW1, fun target hk => ?_⟩
  show Steps p.tables e below (T.setTop (mkF m 0 #[.val (.double (4606281698874543309 : UInt64)), .second] [])) _
  refine XS.dloadN hA hx rfl (hb hby d16_0) rfl ?_
  show Steps p.tables e below (T.setTop (mkF m 1 #[.val (.double (4606281698874543309 : UInt64)), .second] [(.double (4606281698874543309 : UInt64))])) _
  refine st1 _ ?_
  show Steps p.tables e below ((T.setVm vm1).setTop (mkF m 4 #[.val (.double (4606281698874543309 : UInt64)), .second] [(.long ((4606281698874543309 : UInt64)).toInt64)])) _
  refine own_ldJ hA1 hW1 hx hown (mvT hZ (hw _ (List.mem_of_getElem? (i := 80) rfl))) (args := #[]) (g := (mkF m 4 #[.val (.double (4606281698874543309 : UInt64)), .second] [(.long ((4606281698874543309 : UInt64)).toInt64)])) rfl (hb hby d16_4) ?_
  show Steps p.tables e below ((T.setVm vm1).setTop (mkF m 7 #[.val (.double (4606281698874543309 : UInt64)), .second] [(.long (9218868437227405312 : Int64)), (.long ((4606281698874543309 : UInt64)).toInt64)])) _
  refine XS.land hA1 hx rfl (hb hby d16_7) rfl ?_
  show Steps p.tables e below ((T.setVm vm1).setTop (mkF m 8 #[.val (.double (4606281698874543309 : UInt64)), .second] [(.long (((4606281698874543309 : UInt64)).toInt64 &&& (9218868437227405312 : Int64)))])) _
  refine XS.bipush hA1 hx rfl (hb hby d16_8) ?_
  show Steps p.tables e below ((T.setVm vm1).setTop (mkF m 10 #[.val (.double (4606281698874543309 : UInt64)), .second] [(.int (52 : Int32)), (.long (((4606281698874543309 : UInt64)).toInt64 &&& (9218868437227405312 : Int64)))])) _
  refine XS.lshr hA1 hx rfl (hb hby d16_10) rfl ?_
  show Steps p.tables e below ((T.setVm vm1).setTop (mkF m 11 #[.val (.double (4606281698874543309 : UInt64)), .second] [(.long ((((4606281698874543309 : UInt64)).toInt64 &&& (9218868437227405312 : Int64)) >>> ((52 : Int32) &&& 0x3f).toInt64))])) _
  refine own_ldJ hA1 hW1 hx hown (mvT hZ (hw _ (List.mem_of_getElem? (i := 81) rfl))) (args := #[]) (g := (mkF m 11 #[.val (.double (4606281698874543309 : UInt64)), .second] [(.long ((((4606281698874543309 : UInt64)).toInt64 &&& (9218868437227405312 : Int64)) >>> ((52 : Int32) &&& 0x3f).toInt64))])) rfl (hb hby d16_11) ?_
  show Steps p.tables e below ((T.setVm vm1).setTop (mkF m 14 #[.val (.double (4606281698874543309 : UInt64)), .second] [(.long (1023 : Int64)), (.long ((((4606281698874543309 : UInt64)).toInt64 &&& (9218868437227405312 : Int64)) >>> ((52 : Int32) &&& 0x3f).toInt64))])) _
  refine XS.lsub hA1 hx rfl (hb hby d16_14) rfl ?_
  show Steps p.tables e below ((T.setVm vm1).setTop (mkF m 15 #[.val (.double (4606281698874543309 : UInt64)), .second] [(.long (((((4606281698874543309 : UInt64)).toInt64 &&& (9218868437227405312 : Int64)) >>> ((52 : Int32) &&& 0x3f).toInt64) - (1023 : Int64)))])) _
  refine XS.l2i hA1 hx rfl (hb hby d16_15) rfl ?_
  show Steps p.tables e below ((T.setVm vm1).setTop (mkF m 16 #[.val (.double (4606281698874543309 : UInt64)), .second] [(.int ((((((4606281698874543309 : UInt64)).toInt64 &&& (9218868437227405312 : Int64)) >>> ((52 : Int32) &&& 0x3f).toInt64) - (1023 : Int64)).toInt32))])) _
  rw [show ((((((4606281698874543309 : UInt64)).toInt64 &&& (9218868437227405312 : Int64)) >>> ((52 : Int32) &&& 0x3f).toInt64) - (1023 : Int64)).toInt32) = (-1 : Int32) by decide +kernel]
  exact own_rI hA1 hx (own_mt hW1 hm) hret (hb hby d16_16) hk
theorem own_efs_ge2 (m : MethodId) : entryFrame m #[(.double (4610785298501913805 : UInt64))] 2 = (mkF m 0 #[.val (.double (4610785298501913805 : UInt64)), .second] []) := by first | (simp [entryFrame, mkF, argsToLocals, Value.category]; done) | rfl
set_option maxRecDepth 65536 in
set_option maxHeartbeats 40000000 in
theorem own_sub_ge2 {p : Program} {l : Launch} {e : Env} {below : List Frame} {s Z : State} {a0 : Array Value} {hp : Heap} (hw : ∀ d ∈ tables_1, d.before a0 Z = true) (hZ : Z.Warmed39 s.vm) (ha : l.admits e) (hx : p.tables.exec = Jvm.exec) (F : Sta Z hp "java/lang/StrictMath" "$assertionsDisabled" "Z" (.int (1 : Int32))) (m : MethodId) (meth : Method) (c : Code) (hn : s.methodNamed? (⟨"java/lang/Math", "getExponent", "(D)I"⟩ : MethodName) = some m) (hm : s.vm.method? m = some meth) (hc : meth.code = some c) (hby : c.code = jdk_29_method_92_code) (hml : c.maxLocals = 2) (hret : meth.sig.returnType = some .int) : own_Sub p.tables e below s m c #[(.double (4610785298501913805 : UInt64))] (.int (0 : Int32)) 1 60 hp := by
  intro T hA hW hT hR
  have hown : s.vm.findClass "java/lang/Math" = some m.cls := findClass_of_methodNamed hn
  rw [hml, own_efs_ge2 m]
  obtain ⟨vm2, hW2, st2⟩ := own_d2r (p := p) (e := e) (T := T) (args := #[]) hA hW ha hx hown (mvT hZ (hw _ (List.mem_of_getElem? (i := 76) rfl))) (mvT hZ (hw _ (List.mem_of_getElem? (i := 79) rfl))) (mvT hZ (hw _ (List.mem_of_getElem? (i := 77) rfl))) (mvT hZ (hw _ (List.mem_of_getElem? (i := 78) rfl))) hR (by decide) (g := (mkF m 1 #[.val (.double (4610785298501913805 : UInt64)), .second] [(.double (4610785298501913805 : UInt64))])) rfl (rest := []) rfl (hb hby d16_1) (by show 2 + 11 + 2 * 0 + 0 + (nativeFrameWords "java/lang/Double" "doubleToRawLongBits" 2 + 11) ≤ 60; decide +kernel)
  have hA2 : At (T.setVm vm2) m c below := own_at hA hW hW2
  refine ⟨vm2, hW2, fun target hk => ?_⟩
  show Steps p.tables e below (T.setTop (mkF m 0 #[.val (.double (4610785298501913805 : UInt64)), .second] [])) _
  refine XS.dloadN hA hx rfl (hb hby d16_0) rfl ?_
  show Steps p.tables e below (T.setTop (mkF m 1 #[.val (.double (4610785298501913805 : UInt64)), .second] [(.double (4610785298501913805 : UInt64))])) _
  refine st2 _ ?_
  show Steps p.tables e below ((T.setVm vm2).setTop (mkF m 4 #[.val (.double (4610785298501913805 : UInt64)), .second] [(.long ((4610785298501913805 : UInt64)).toInt64)])) _
  refine own_ldJ hA2 hW2 hx hown (mvT hZ (hw _ (List.mem_of_getElem? (i := 80) rfl))) (args := #[]) (g := (mkF m 4 #[.val (.double (4610785298501913805 : UInt64)), .second] [(.long ((4610785298501913805 : UInt64)).toInt64)])) rfl (hb hby d16_4) ?_
  show Steps p.tables e below ((T.setVm vm2).setTop (mkF m 7 #[.val (.double (4610785298501913805 : UInt64)), .second] [(.long (9218868437227405312 : Int64)), (.long ((4610785298501913805 : UInt64)).toInt64)])) _
  refine XS.land hA2 hx rfl (hb hby d16_7) rfl ?_
  show Steps p.tables e below ((T.setVm vm2).setTop (mkF m 8 #[.val (.double (4610785298501913805 : UInt64)), .second] [(.long (((4610785298501913805 : UInt64)).toInt64 &&& (9218868437227405312 : Int64)))])) _
  refine XS.bipush hA2 hx rfl (hb hby d16_8) ?_
  show Steps p.tables e below ((T.setVm vm2).setTop (mkF m 10 #[.val (.double (4610785298501913805 : UInt64)), .second] [(.int (52 : Int32)), (.long (((4610785298501913805 : UInt64)).toInt64 &&& (9218868437227405312 : Int64)))])) _
  refine XS.lshr hA2 hx rfl (hb hby d16_10) rfl ?_
  show Steps p.tables e below ((T.setVm vm2).setTop (mkF m 11 #[.val (.double (4610785298501913805 : UInt64)), .second] [(.long ((((4610785298501913805 : UInt64)).toInt64 &&& (9218868437227405312 : Int64)) >>> ((52 : Int32) &&& 0x3f).toInt64))])) _
  refine own_ldJ hA2 hW2 hx hown (mvT hZ (hw _ (List.mem_of_getElem? (i := 81) rfl))) (args := #[]) (g := (mkF m 11 #[.val (.double (4610785298501913805 : UInt64)), .second] [(.long ((((4610785298501913805 : UInt64)).toInt64 &&& (9218868437227405312 : Int64)) >>> ((52 : Int32) &&& 0x3f).toInt64))])) rfl (hb hby d16_11) ?_
  show Steps p.tables e below ((T.setVm vm2).setTop (mkF m 14 #[.val (.double (4610785298501913805 : UInt64)), .second] [(.long (1023 : Int64)), (.long ((((4610785298501913805 : UInt64)).toInt64 &&& (9218868437227405312 : Int64)) >>> ((52 : Int32) &&& 0x3f).toInt64))])) _
  refine XS.lsub hA2 hx rfl (hb hby d16_14) rfl ?_
  show Steps p.tables e below ((T.setVm vm2).setTop (mkF m 15 #[.val (.double (4610785298501913805 : UInt64)), .second] [(.long (((((4610785298501913805 : UInt64)).toInt64 &&& (9218868437227405312 : Int64)) >>> ((52 : Int32) &&& 0x3f).toInt64) - (1023 : Int64)))])) _
  refine XS.l2i hA2 hx rfl (hb hby d16_15) rfl ?_
  show Steps p.tables e below ((T.setVm vm2).setTop (mkF m 16 #[.val (.double (4610785298501913805 : UInt64)), .second] [(.int ((((((4610785298501913805 : UInt64)).toInt64 &&& (9218868437227405312 : Int64)) >>> ((52 : Int32) &&& 0x3f).toInt64) - (1023 : Int64)).toInt32))])) _
  rw [show ((((((4610785298501913805 : UInt64)).toInt64 &&& (9218868437227405312 : Int64)) >>> ((52 : Int32) &&& 0x3f).toInt64) - (1023 : Int64)).toInt32) = (0 : Int32) by decide +kernel]
  exact own_rI hA2 hx (own_mt hW2 hm) hret (hb hby d16_16) hk
theorem own_efs_ge3 (m : MethodId) : entryFrame m #[(.double (4613937818241073152 : UInt64))] 2 = (mkF m 0 #[.val (.double (4613937818241073152 : UInt64)), .second] []) := by first | (simp [entryFrame, mkF, argsToLocals, Value.category]; done) | rfl
set_option maxRecDepth 65536 in
set_option maxHeartbeats 40000000 in
theorem own_sub_ge3 {p : Program} {l : Launch} {e : Env} {below : List Frame} {s Z : State} {a0 : Array Value} {hp : Heap} (hw : ∀ d ∈ tables_1, d.before a0 Z = true) (hZ : Z.Warmed39 s.vm) (ha : l.admits e) (hx : p.tables.exec = Jvm.exec) (F : Sta Z hp "java/lang/StrictMath" "$assertionsDisabled" "Z" (.int (1 : Int32))) (m : MethodId) (meth : Method) (c : Code) (hn : s.methodNamed? (⟨"java/lang/Math", "getExponent", "(D)I"⟩ : MethodName) = some m) (hm : s.vm.method? m = some meth) (hc : meth.code = some c) (hby : c.code = jdk_29_method_92_code) (hml : c.maxLocals = 2) (hret : meth.sig.returnType = some .int) : own_Sub p.tables e below s m c #[(.double (4613937818241073152 : UInt64))] (.int (1 : Int32)) 1 60 hp := by
  intro T hA hW hT hR
  have hown : s.vm.findClass "java/lang/Math" = some m.cls := findClass_of_methodNamed hn
  rw [hml, own_efs_ge3 m]
  obtain ⟨vm3, hW3, st3⟩ := own_d2r (p := p) (e := e) (T := T) (args := #[]) hA hW ha hx hown (mvT hZ (hw _ (List.mem_of_getElem? (i := 76) rfl))) (mvT hZ (hw _ (List.mem_of_getElem? (i := 79) rfl))) (mvT hZ (hw _ (List.mem_of_getElem? (i := 77) rfl))) (mvT hZ (hw _ (List.mem_of_getElem? (i := 78) rfl))) hR (by decide) (g := (mkF m 1 #[.val (.double (4613937818241073152 : UInt64)), .second] [(.double (4613937818241073152 : UInt64))])) rfl (rest := []) rfl (hb hby d16_1) (by show 2 + 11 + 2 * 0 + 0 + (nativeFrameWords "java/lang/Double" "doubleToRawLongBits" 2 + 11) ≤ 60; decide +kernel)
  have hA3 : At (T.setVm vm3) m c below := own_at hA hW hW3
  refine ⟨vm3, hW3, fun target hk => ?_⟩
  show Steps p.tables e below (T.setTop (mkF m 0 #[.val (.double (4613937818241073152 : UInt64)), .second] [])) _
  refine XS.dloadN hA hx rfl (hb hby d16_0) rfl ?_
  show Steps p.tables e below (T.setTop (mkF m 1 #[.val (.double (4613937818241073152 : UInt64)), .second] [(.double (4613937818241073152 : UInt64))])) _
  refine st3 _ ?_
  show Steps p.tables e below ((T.setVm vm3).setTop (mkF m 4 #[.val (.double (4613937818241073152 : UInt64)), .second] [(.long ((4613937818241073152 : UInt64)).toInt64)])) _
  refine own_ldJ hA3 hW3 hx hown (mvT hZ (hw _ (List.mem_of_getElem? (i := 80) rfl))) (args := #[]) (g := (mkF m 4 #[.val (.double (4613937818241073152 : UInt64)), .second] [(.long ((4613937818241073152 : UInt64)).toInt64)])) rfl (hb hby d16_4) ?_
  show Steps p.tables e below ((T.setVm vm3).setTop (mkF m 7 #[.val (.double (4613937818241073152 : UInt64)), .second] [(.long (9218868437227405312 : Int64)), (.long ((4613937818241073152 : UInt64)).toInt64)])) _
  refine XS.land hA3 hx rfl (hb hby d16_7) rfl ?_
  show Steps p.tables e below ((T.setVm vm3).setTop (mkF m 8 #[.val (.double (4613937818241073152 : UInt64)), .second] [(.long (((4613937818241073152 : UInt64)).toInt64 &&& (9218868437227405312 : Int64)))])) _
  refine XS.bipush hA3 hx rfl (hb hby d16_8) ?_
  show Steps p.tables e below ((T.setVm vm3).setTop (mkF m 10 #[.val (.double (4613937818241073152 : UInt64)), .second] [(.int (52 : Int32)), (.long (((4613937818241073152 : UInt64)).toInt64 &&& (9218868437227405312 : Int64)))])) _
  refine XS.lshr hA3 hx rfl (hb hby d16_10) rfl ?_
  show Steps p.tables e below ((T.setVm vm3).setTop (mkF m 11 #[.val (.double (4613937818241073152 : UInt64)), .second] [(.long ((((4613937818241073152 : UInt64)).toInt64 &&& (9218868437227405312 : Int64)) >>> ((52 : Int32) &&& 0x3f).toInt64))])) _
  refine own_ldJ hA3 hW3 hx hown (mvT hZ (hw _ (List.mem_of_getElem? (i := 81) rfl))) (args := #[]) (g := (mkF m 11 #[.val (.double (4613937818241073152 : UInt64)), .second] [(.long ((((4613937818241073152 : UInt64)).toInt64 &&& (9218868437227405312 : Int64)) >>> ((52 : Int32) &&& 0x3f).toInt64))])) rfl (hb hby d16_11) ?_
  show Steps p.tables e below ((T.setVm vm3).setTop (mkF m 14 #[.val (.double (4613937818241073152 : UInt64)), .second] [(.long (1023 : Int64)), (.long ((((4613937818241073152 : UInt64)).toInt64 &&& (9218868437227405312 : Int64)) >>> ((52 : Int32) &&& 0x3f).toInt64))])) _
  refine XS.lsub hA3 hx rfl (hb hby d16_14) rfl ?_
  show Steps p.tables e below ((T.setVm vm3).setTop (mkF m 15 #[.val (.double (4613937818241073152 : UInt64)), .second] [(.long (((((4613937818241073152 : UInt64)).toInt64 &&& (9218868437227405312 : Int64)) >>> ((52 : Int32) &&& 0x3f).toInt64) - (1023 : Int64)))])) _
  refine XS.l2i hA3 hx rfl (hb hby d16_15) rfl ?_
  show Steps p.tables e below ((T.setVm vm3).setTop (mkF m 16 #[.val (.double (4613937818241073152 : UInt64)), .second] [(.int ((((((4613937818241073152 : UInt64)).toInt64 &&& (9218868437227405312 : Int64)) >>> ((52 : Int32) &&& 0x3f).toInt64) - (1023 : Int64)).toInt32))])) _
  rw [show ((((((4613937818241073152 : UInt64)).toInt64 &&& (9218868437227405312 : Int64)) >>> ((52 : Int32) &&& 0x3f).toInt64) - (1023 : Int64)).toInt32) = (1 : Int32) by decide +kernel]
  exact own_rI hA3 hx (own_mt hW3 hm) hret (hb hby d16_16) hk
theorem d15_0 : decode jdk_128_method_18_code 0 = .ok (.dload_n 0, 1) := by decide +kernel
theorem d15_1 : decode jdk_128_method_18_code 1 = .ok (.invokestatic 66, 3) := by decide +kernel
theorem d15_4 : decode jdk_128_method_18_code 4 = .ok (.istore 8, 2) := by decide +kernel
theorem d15_6 : decode jdk_128_method_18_code 6 = .ok (.iload 8, 2) := by decide +kernel
theorem d15_8 : decode jdk_128_method_18_code 8 = .ok (.ifCond .ge 26, 3) := by decide +kernel
theorem d15_11 : decode jdk_128_method_18_code 11 = .ok (.dload_n 0, 1) := by decide +kernel
theorem d15_12 : decode jdk_128_method_18_code 12 = .ok (.dconst 0, 1) := by decide +kernel
theorem d15_13 : decode jdk_128_method_18_code 13 = .ok (.dcmp .l, 1) := by decide +kernel
theorem d15_14 : decode jdk_128_method_18_code 14 = .ok (.ifCond .ne 7, 3) := by decide +kernel
theorem d15_21 : decode jdk_128_method_18_code 21 = .ok (.dload_n 0, 1) := by decide +kernel
theorem d15_22 : decode jdk_128_method_18_code 22 = .ok (.dconst 0, 1) := by decide +kernel
theorem d15_23 : decode jdk_128_method_18_code 23 = .ok (.dcmp .g, 1) := by decide +kernel
theorem d15_24 : decode jdk_128_method_18_code 24 = .ok (.ifCond .ge 7, 3) := by decide +kernel
theorem d15_31 : decode jdk_128_method_18_code 31 = .ok (.dload 4, 2) := by decide +kernel
theorem d15_33 : decode jdk_128_method_18_code 33 = .ok (.dreturn, 1) := by decide +kernel
theorem d15_34 : decode jdk_128_method_18_code 34 = .ok (.iload 8, 2) := by decide +kernel
theorem d15_36 : decode jdk_128_method_18_code 36 = .ok (.bipush 52, 2) := by decide +kernel
theorem d15_38 : decode jdk_128_method_18_code 38 = .ok (.if_icmp .lt 5, 3) := by decide +kernel
theorem d15_43 : decode jdk_128_method_18_code 43 = .ok (.getstatic 70, 3) := by decide +kernel
theorem d15_46 : decode jdk_128_method_18_code 46 = .ok (.ifCond .ne 23, 3) := by decide +kernel
theorem d15_69 : decode jdk_128_method_18_code 69 = .ok (.dload_n 0, 1) := by decide +kernel
theorem d15_70 : decode jdk_128_method_18_code 70 = .ok (.invokestatic 77, 3) := by decide +kernel
theorem d15_73 : decode jdk_128_method_18_code 73 = .ok (.lstore 9, 2) := by decide +kernel
theorem d15_75 : decode jdk_128_method_18_code 75 = .ok (.ldc2_w 85, 3) := by decide +kernel
theorem d15_78 : decode jdk_128_method_18_code 78 = .ok (.iload 8, 2) := by decide +kernel
theorem d15_80 : decode jdk_128_method_18_code 80 = .ok (.lshr, 1) := by decide +kernel
theorem d15_81 : decode jdk_128_method_18_code 81 = .ok (.lstore 11, 2) := by decide +kernel
theorem d15_83 : decode jdk_128_method_18_code 83 = .ok (.lload 11, 2) := by decide +kernel
theorem d15_85 : decode jdk_128_method_18_code 85 = .ok (.lload 9, 2) := by decide +kernel
theorem d15_87 : decode jdk_128_method_18_code 87 = .ok (.land, 1) := by decide +kernel
theorem d15_88 : decode jdk_128_method_18_code 88 = .ok (.lconst 0, 1) := by decide +kernel
theorem d15_89 : decode jdk_128_method_18_code 89 = .ok (.lcmp, 1) := by decide +kernel
theorem d15_90 : decode jdk_128_method_18_code 90 = .ok (.ifCond .ne 5, 3) := by decide +kernel
theorem d15_93 : decode jdk_128_method_18_code 93 = .ok (.dload_n 0, 1) := by decide +kernel
theorem d15_94 : decode jdk_128_method_18_code 94 = .ok (.dreturn, 1) := by decide +kernel
theorem d15_95 : decode jdk_128_method_18_code 95 = .ok (.lload 9, 2) := by decide +kernel
theorem d15_97 : decode jdk_128_method_18_code 97 = .ok (.lload 11, 2) := by decide +kernel
theorem d15_99 : decode jdk_128_method_18_code 99 = .ok (.ldc2_w 87, 3) := by decide +kernel
theorem d15_102 : decode jdk_128_method_18_code 102 = .ok (.lxor, 1) := by decide +kernel
theorem d15_103 : decode jdk_128_method_18_code 103 = .ok (.land, 1) := by decide +kernel
theorem d15_104 : decode jdk_128_method_18_code 104 = .ok (.invokestatic 89, 3) := by decide +kernel
theorem d15_107 : decode jdk_128_method_18_code 107 = .ok (.dstore 13, 2) := by decide +kernel
theorem d15_109 : decode jdk_128_method_18_code 109 = .ok (.dload 6, 2) := by decide +kernel
theorem d15_111 : decode jdk_128_method_18_code 111 = .ok (.dload_n 0, 1) := by decide +kernel
theorem d15_112 : decode jdk_128_method_18_code 112 = .ok (.dmul, 1) := by decide +kernel
theorem d15_113 : decode jdk_128_method_18_code 113 = .ok (.dconst 0, 1) := by decide +kernel
theorem d15_114 : decode jdk_128_method_18_code 114 = .ok (.dcmp .l, 1) := by decide +kernel
theorem d15_115 : decode jdk_128_method_18_code 115 = .ok (.ifCond .le 10, 3) := by decide +kernel
theorem d15_118 : decode jdk_128_method_18_code 118 = .ok (.dload 13, 2) := by decide +kernel
theorem d15_120 : decode jdk_128_method_18_code 120 = .ok (.dload 6, 2) := by decide +kernel
theorem d15_122 : decode jdk_128_method_18_code 122 = .ok (.dadd, 1) := by decide +kernel
theorem d15_123 : decode jdk_128_method_18_code 123 = .ok (.dstore 13, 2) := by decide +kernel
theorem d15_125 : decode jdk_128_method_18_code 125 = .ok (.dload 13, 2) := by decide +kernel
theorem d15_127 : decode jdk_128_method_18_code 127 = .ok (.dreturn, 1) := by decide +kernel
theorem own_efs_fo1 (m : MethodId) : entryFrame m #[(.double (4606281698874543309 : UInt64)), (.double (9223372036854775808 : UInt64)), (.double (4607182418800017408 : UInt64)), (.double (4607182418800017408 : UInt64))] 15 = (mkF m 0 #[.val (.double (4606281698874543309 : UInt64)), .second, .val (.double (9223372036854775808 : UInt64)), .second, .val (.double (4607182418800017408 : UInt64)), .second, .val (.double (4607182418800017408 : UInt64)), .second, .unset, .unset, .unset, .unset, .unset, .unset, .unset] []) := by first | (simp [entryFrame, mkF, argsToLocals, Value.category]; done) | rfl
set_option maxRecDepth 65536 in
set_option maxHeartbeats 40000000 in
theorem own_sub_fo1 {p : Program} {l : Launch} {e : Env} {below : List Frame} {s Z : State} {a0 : Array Value} {hp : Heap} (hw : ∀ d ∈ tables_1, d.before a0 Z = true) (hZ : Z.Warmed39 s.vm) (ha : l.admits e) (hx : p.tables.exec = Jvm.exec) (F : Sta Z hp "java/lang/StrictMath" "$assertionsDisabled" "Z" (.int (1 : Int32))) (m : MethodId) (meth : Method) (c : Code) (hn : s.methodNamed? (⟨"java/lang/StrictMath", "floorOrCeil", "(DDDD)D"⟩ : MethodName) = some m) (hm : s.vm.method? m = some meth) (hc : meth.code = some c) (hby : c.code = jdk_128_method_18_code) (hml : c.maxLocals = 15) (hret : meth.sig.returnType = some .double) : own_Sub p.tables e below s m c #[(.double (4606281698874543309 : UInt64)), (.double (9223372036854775808 : UInt64)), (.double (4607182418800017408 : UInt64)), (.double (4607182418800017408 : UInt64))] (.double (4607182418800017408 : UInt64)) 2 100 hp := by
  intro T hA hW hT hR
  have hown : s.vm.findClass "java/lang/StrictMath" = some m.cls := findClass_of_methodNamed hn
  rw [hml, own_efs_fo1 m]
  obtain ⟨vm4, hW4, st4⟩ := own_call (p := p) (e := e) (T := T) (args := #[]) hA hW ha hx (y := (⟨"java/lang/Math", "getExponent", "(D)I"⟩ : MethodName)) hown (mvT hZ (hw _ (List.mem_of_getElem? (i := 73) rfl))) (mvT hZ (hw _ (List.mem_of_getElem? (i := 74) rfl))) (mvT hZ (hw _ (List.mem_of_getElem? (i := 44) rfl))) (mvT hZ (hw _ (List.mem_of_getElem? (i := 75) rfl))) (by decide) (Jvm.Free.JP.mathPlain rfl (by decide +kernel)) (argsL := [(.double (4606281698874543309 : UInt64))]) (rest := []) (v := (.int (-1 : Int32))) (k' := 1) (w' := 60) (hp := hp) (fun mk meth cM a1 a2 a3 a4 a5 a6 => own_sub_ge1 hw hZ ha hx F mk meth cM a1 a2 a3 a4 a5 a6) hT hR (by decide) (g := (mkF m 1 #[.val (.double (4606281698874543309 : UInt64)), .second, .val (.double (9223372036854775808 : UInt64)), .second, .val (.double (4607182418800017408 : UInt64)), .second, .val (.double (4607182418800017408 : UInt64)), .second, .unset, .unset, .unset, .unset, .unset, .unset, .unset] [(.double (4606281698874543309 : UInt64))])) rfl (lenOf own_pd0 rfl) rfl (hb hby d15_1) (by show 15 + 11 + 2 * 0 + 0 + (2 + 11) + 60 ≤ 100; decide)
  have hA4 : At (T.setVm vm4) m c below := own_at hA hW hW4
  refine ⟨vm4, hW4, fun target hk => ?_⟩
  show Steps p.tables e below (T.setTop (mkF m 0 #[.val (.double (4606281698874543309 : UInt64)), .second, .val (.double (9223372036854775808 : UInt64)), .second, .val (.double (4607182418800017408 : UInt64)), .second, .val (.double (4607182418800017408 : UInt64)), .second, .unset, .unset, .unset, .unset, .unset, .unset, .unset] [])) _
  refine XS.dloadN hA hx rfl (hb hby d15_0) rfl ?_
  show Steps p.tables e below (T.setTop (mkF m 1 #[.val (.double (4606281698874543309 : UInt64)), .second, .val (.double (9223372036854775808 : UInt64)), .second, .val (.double (4607182418800017408 : UInt64)), .second, .val (.double (4607182418800017408 : UInt64)), .second, .unset, .unset, .unset, .unset, .unset, .unset, .unset] [(.double (4606281698874543309 : UInt64))])) _
  refine st4 _ ?_
  show Steps p.tables e below ((T.setVm vm4).setTop (mkF m 4 #[.val (.double (4606281698874543309 : UInt64)), .second, .val (.double (9223372036854775808 : UInt64)), .second, .val (.double (4607182418800017408 : UInt64)), .second, .val (.double (4607182418800017408 : UInt64)), .second, .unset, .unset, .unset, .unset, .unset, .unset, .unset] [(.int (-1 : Int32))])) _
  refine XS.istore hA4 hx rfl (hb hby d15_4) rfl (l' := #[.val (.double (4606281698874543309 : UInt64)), .second, .val (.double (9223372036854775808 : UInt64)), .second, .val (.double (4607182418800017408 : UInt64)), .second, .val (.double (4607182418800017408 : UInt64)), .second, .val (.int (-1 : Int32)), .unset, .unset, .unset, .unset, .unset, .unset]) rfl ?_
  show Steps p.tables e below ((T.setVm vm4).setTop (mkF m 6 #[.val (.double (4606281698874543309 : UInt64)), .second, .val (.double (9223372036854775808 : UInt64)), .second, .val (.double (4607182418800017408 : UInt64)), .second, .val (.double (4607182418800017408 : UInt64)), .second, .val (.int (-1 : Int32)), .unset, .unset, .unset, .unset, .unset, .unset] [])) _
  refine XS.iload hA4 hx rfl (hb hby d15_6) rfl ?_
  show Steps p.tables e below ((T.setVm vm4).setTop (mkF m 8 #[.val (.double (4606281698874543309 : UInt64)), .second, .val (.double (9223372036854775808 : UInt64)), .second, .val (.double (4607182418800017408 : UInt64)), .second, .val (.double (4607182418800017408 : UInt64)), .second, .val (.int (-1 : Int32)), .unset, .unset, .unset, .unset, .unset, .unset] [(.int (-1 : Int32))])) _
  refine XS.ifNo hA4 hx rfl (hb hby d15_8) rfl ((if0 _ _).trans (tlt (by decide +kernel)).2.1) ?_
  show Steps p.tables e below ((T.setVm vm4).setTop (mkF m 11 #[.val (.double (4606281698874543309 : UInt64)), .second, .val (.double (9223372036854775808 : UInt64)), .second, .val (.double (4607182418800017408 : UInt64)), .second, .val (.double (4607182418800017408 : UInt64)), .second, .val (.int (-1 : Int32)), .unset, .unset, .unset, .unset, .unset, .unset] [])) _
  refine XS.dloadN hA4 hx rfl (hb hby d15_11) rfl ?_
  show Steps p.tables e below ((T.setVm vm4).setTop (mkF m 12 #[.val (.double (4606281698874543309 : UInt64)), .second, .val (.double (9223372036854775808 : UInt64)), .second, .val (.double (4607182418800017408 : UInt64)), .second, .val (.double (4607182418800017408 : UInt64)), .second, .val (.int (-1 : Int32)), .unset, .unset, .unset, .unset, .unset, .unset] [(.double (4606281698874543309 : UInt64))])) _
  refine XS.dconst0 hA4 hx rfl (v := 0) (hb hby d15_12) (by decide +kernel) ?_
  show Steps p.tables e below ((T.setVm vm4).setTop (mkF m 13 #[.val (.double (4606281698874543309 : UInt64)), .second, .val (.double (9223372036854775808 : UInt64)), .second, .val (.double (4607182418800017408 : UInt64)), .second, .val (.double (4607182418800017408 : UInt64)), .second, .val (.int (-1 : Int32)), .unset, .unset, .unset, .unset, .unset, .unset] [(.double (0 : UInt64)), (.double (4606281698874543309 : UInt64))])) _
  refine XS.dcmpS hA4 hx rfl (v := (1 : Int32)) (hb hby d15_13) rfl (by decide +kernel) ?_
  show Steps p.tables e below ((T.setVm vm4).setTop (mkF m 14 #[.val (.double (4606281698874543309 : UInt64)), .second, .val (.double (9223372036854775808 : UInt64)), .second, .val (.double (4607182418800017408 : UInt64)), .second, .val (.double (4607182418800017408 : UInt64)), .second, .val (.int (-1 : Int32)), .unset, .unset, .unset, .unset, .unset, .unset] [(.int (1 : Int32))])) _
  refine XS.ifYes hA4 hx rfl (pc0 := 14) (pc' := 21) rfl (hb hby d15_14) rfl ((if0 _ _).trans (feq (by decide +kernel)).2) (by decide) (by decide) ?_
  show Steps p.tables e below ((T.setVm vm4).setTop (mkF m 21 #[.val (.double (4606281698874543309 : UInt64)), .second, .val (.double (9223372036854775808 : UInt64)), .second, .val (.double (4607182418800017408 : UInt64)), .second, .val (.double (4607182418800017408 : UInt64)), .second, .val (.int (-1 : Int32)), .unset, .unset, .unset, .unset, .unset, .unset] [])) _
  refine XS.dloadN hA4 hx rfl (hb hby d15_21) rfl ?_
  show Steps p.tables e below ((T.setVm vm4).setTop (mkF m 22 #[.val (.double (4606281698874543309 : UInt64)), .second, .val (.double (9223372036854775808 : UInt64)), .second, .val (.double (4607182418800017408 : UInt64)), .second, .val (.double (4607182418800017408 : UInt64)), .second, .val (.int (-1 : Int32)), .unset, .unset, .unset, .unset, .unset, .unset] [(.double (4606281698874543309 : UInt64))])) _
  refine XS.dconst0 hA4 hx rfl (v := 0) (hb hby d15_22) (by decide +kernel) ?_
  show Steps p.tables e below ((T.setVm vm4).setTop (mkF m 23 #[.val (.double (4606281698874543309 : UInt64)), .second, .val (.double (9223372036854775808 : UInt64)), .second, .val (.double (4607182418800017408 : UInt64)), .second, .val (.double (4607182418800017408 : UInt64)), .second, .val (.int (-1 : Int32)), .unset, .unset, .unset, .unset, .unset, .unset] [(.double (0 : UInt64)), (.double (4606281698874543309 : UInt64))])) _
  refine XS.dcmpS hA4 hx rfl (v := (1 : Int32)) (hb hby d15_23) rfl (by decide +kernel) ?_
  show Steps p.tables e below ((T.setVm vm4).setTop (mkF m 24 #[.val (.double (4606281698874543309 : UInt64)), .second, .val (.double (9223372036854775808 : UInt64)), .second, .val (.double (4607182418800017408 : UInt64)), .second, .val (.double (4607182418800017408 : UInt64)), .second, .val (.int (-1 : Int32)), .unset, .unset, .unset, .unset, .unset, .unset] [(.int (1 : Int32))])) _
  refine XS.ifYes hA4 hx rfl (pc0 := 24) (pc' := 31) rfl (hb hby d15_24) rfl ((if0 _ _).trans (flt (by decide +kernel)).2.1) (by decide) (by decide) ?_
  show Steps p.tables e below ((T.setVm vm4).setTop (mkF m 31 #[.val (.double (4606281698874543309 : UInt64)), .second, .val (.double (9223372036854775808 : UInt64)), .second, .val (.double (4607182418800017408 : UInt64)), .second, .val (.double (4607182418800017408 : UInt64)), .second, .val (.int (-1 : Int32)), .unset, .unset, .unset, .unset, .unset, .unset] [])) _
  refine XS.dload hA4 hx rfl (hb hby d15_31) rfl ?_
  show Steps p.tables e below ((T.setVm vm4).setTop (mkF m 33 #[.val (.double (4606281698874543309 : UInt64)), .second, .val (.double (9223372036854775808 : UInt64)), .second, .val (.double (4607182418800017408 : UInt64)), .second, .val (.double (4607182418800017408 : UInt64)), .second, .val (.int (-1 : Int32)), .unset, .unset, .unset, .unset, .unset, .unset] [(.double (4607182418800017408 : UInt64))])) _
  exact own_rD hA4 hx (own_mt hW4 hm) hret (hb hby d15_33) hk
theorem own_efs_fo2 (m : MethodId) : entryFrame m #[(.double (4610785298501913805 : UInt64)), (.double (9223372036854775808 : UInt64)), (.double (4607182418800017408 : UInt64)), (.double (4607182418800017408 : UInt64))] 15 = (mkF m 0 #[.val (.double (4610785298501913805 : UInt64)), .second, .val (.double (9223372036854775808 : UInt64)), .second, .val (.double (4607182418800017408 : UInt64)), .second, .val (.double (4607182418800017408 : UInt64)), .second, .unset, .unset, .unset, .unset, .unset, .unset, .unset] []) := by first | (simp [entryFrame, mkF, argsToLocals, Value.category]; done) | rfl
set_option maxRecDepth 65536 in
set_option maxHeartbeats 40000000 in
theorem own_sub_fo2 {p : Program} {l : Launch} {e : Env} {below : List Frame} {s Z : State} {a0 : Array Value} {hp : Heap} (hw : ∀ d ∈ tables_1, d.before a0 Z = true) (hZ : Z.Warmed39 s.vm) (ha : l.admits e) (hx : p.tables.exec = Jvm.exec) (F : Sta Z hp "java/lang/StrictMath" "$assertionsDisabled" "Z" (.int (1 : Int32))) (m : MethodId) (meth : Method) (c : Code) (hn : s.methodNamed? (⟨"java/lang/StrictMath", "floorOrCeil", "(DDDD)D"⟩ : MethodName) = some m) (hm : s.vm.method? m = some meth) (hc : meth.code = some c) (hby : c.code = jdk_128_method_18_code) (hml : c.maxLocals = 15) (hret : meth.sig.returnType = some .double) : own_Sub p.tables e below s m c #[(.double (4610785298501913805 : UInt64)), (.double (9223372036854775808 : UInt64)), (.double (4607182418800017408 : UInt64)), (.double (4607182418800017408 : UInt64))] (.double (4611686018427387904 : UInt64)) 2 100 hp := by
  intro T hA hW hT hR
  have hown : s.vm.findClass "java/lang/StrictMath" = some m.cls := findClass_of_methodNamed hn
  rw [hml, own_efs_fo2 m]
  obtain ⟨vm5, hW5, st5⟩ := own_call (p := p) (e := e) (T := T) (args := #[]) hA hW ha hx (y := (⟨"java/lang/Math", "getExponent", "(D)I"⟩ : MethodName)) hown (mvT hZ (hw _ (List.mem_of_getElem? (i := 73) rfl))) (mvT hZ (hw _ (List.mem_of_getElem? (i := 74) rfl))) (mvT hZ (hw _ (List.mem_of_getElem? (i := 44) rfl))) (mvT hZ (hw _ (List.mem_of_getElem? (i := 75) rfl))) (by decide) (Jvm.Free.JP.mathPlain rfl (by decide +kernel)) (argsL := [(.double (4610785298501913805 : UInt64))]) (rest := []) (v := (.int (0 : Int32))) (k' := 1) (w' := 60) (hp := hp) (fun mk meth cM a1 a2 a3 a4 a5 a6 => own_sub_ge2 hw hZ ha hx F mk meth cM a1 a2 a3 a4 a5 a6) hT hR (by decide) (g := (mkF m 1 #[.val (.double (4610785298501913805 : UInt64)), .second, .val (.double (9223372036854775808 : UInt64)), .second, .val (.double (4607182418800017408 : UInt64)), .second, .val (.double (4607182418800017408 : UInt64)), .second, .unset, .unset, .unset, .unset, .unset, .unset, .unset] [(.double (4610785298501913805 : UInt64))])) rfl (lenOf own_pd0 rfl) rfl (hb hby d15_1) (by show 15 + 11 + 2 * 0 + 0 + (2 + 11) + 60 ≤ 100; decide)
  have hA5 : At (T.setVm vm5) m c below := own_at hA hW hW5
  obtain ⟨vm6, hW6, st6⟩ := own_gs (p := p) (e := e) (T := (T.setVm vm5)) hA5 hW5 ha hx hZ hown (hw _ (List.mem_of_getElem? (i := 86) rfl)) (hp := hp) hT F (g := (mkF m 43 #[.val (.double (4610785298501913805 : UInt64)), .second, .val (.double (9223372036854775808 : UInt64)), .second, .val (.double (4607182418800017408 : UInt64)), .second, .val (.double (4607182418800017408 : UInt64)), .second, .val (.int (0 : Int32)), .unset, .unset, .unset, .unset, .unset, .unset] [])) rfl (hb hby d15_43)
  have hA6 : At (T.setVm vm6) m c below := own_at hA hW hW6
  obtain ⟨vm7, hW7, st7⟩ := own_d2r (p := p) (e := e) (T := (T.setVm vm6)) (args := #[]) hA6 hW6 ha hx hown (mvT hZ (hw _ (List.mem_of_getElem? (i := 87) rfl))) (mvT hZ (hw _ (List.mem_of_getElem? (i := 79) rfl))) (mvT hZ (hw _ (List.mem_of_getElem? (i := 77) rfl))) (mvT hZ (hw _ (List.mem_of_getElem? (i := 78) rfl))) hR (by decide) (g := (mkF m 70 #[.val (.double (4610785298501913805 : UInt64)), .second, .val (.double (9223372036854775808 : UInt64)), .second, .val (.double (4607182418800017408 : UInt64)), .second, .val (.double (4607182418800017408 : UInt64)), .second, .val (.int (0 : Int32)), .unset, .unset, .unset, .unset, .unset, .unset] [(.double (4610785298501913805 : UInt64))])) rfl (rest := []) rfl (hb hby d15_70) (by show 15 + 11 + 2 * 0 + 0 + (nativeFrameWords "java/lang/Double" "doubleToRawLongBits" 2 + 11) ≤ 100; decide +kernel)
  have hA7 : At (T.setVm vm7) m c below := own_at hA hW hW7
  obtain ⟨vm8, hW8, st8⟩ := own_l2d (p := p) (e := e) (T := (T.setVm vm7)) (args := #[]) hA7 hW7 ha hx hown (mvT hZ (hw _ (List.mem_of_getElem? (i := 90) rfl))) (mvT hZ (hw _ (List.mem_of_getElem? (i := 92) rfl))) (mvT hZ (hw _ (List.mem_of_getElem? (i := 91) rfl))) (mvT hZ (hw _ (List.mem_of_getElem? (i := 78) rfl))) hR (by decide) (g := (mkF m 104 #[.val (.double (4610785298501913805 : UInt64)), .second, .val (.double (9223372036854775808 : UInt64)), .second, .val (.double (4607182418800017408 : UInt64)), .second, .val (.double (4607182418800017408 : UInt64)), .second, .val (.int (0 : Int32)), .val (.long ((4610785298501913805 : UInt64)).toInt64), .second, .val (.long ((4503599627370495 : Int64) >>> ((0 : Int32) &&& 0x3f).toInt64)), .second, .unset, .unset] [(.long (((4610785298501913805 : UInt64)).toInt64 &&& (((4503599627370495 : Int64) >>> ((0 : Int32) &&& 0x3f).toInt64) ^^^ (-1 : Int64))))])) rfl (by decide +kernel) (rest := []) rfl (hb hby d15_104) (by show 15 + 11 + 2 * 0 + 0 + (nativeFrameWords "java/lang/Double" "longBitsToDouble" 2 + 11) ≤ 100; decide +kernel)
  have hA8 : At (T.setVm vm8) m c below := own_at hA hW hW8
  refine ⟨vm8, hW8, fun target hk => ?_⟩
  show Steps p.tables e below (T.setTop (mkF m 0 #[.val (.double (4610785298501913805 : UInt64)), .second, .val (.double (9223372036854775808 : UInt64)), .second, .val (.double (4607182418800017408 : UInt64)), .second, .val (.double (4607182418800017408 : UInt64)), .second, .unset, .unset, .unset, .unset, .unset, .unset, .unset] [])) _
  refine XS.dloadN hA hx rfl (hb hby d15_0) rfl ?_
  show Steps p.tables e below (T.setTop (mkF m 1 #[.val (.double (4610785298501913805 : UInt64)), .second, .val (.double (9223372036854775808 : UInt64)), .second, .val (.double (4607182418800017408 : UInt64)), .second, .val (.double (4607182418800017408 : UInt64)), .second, .unset, .unset, .unset, .unset, .unset, .unset, .unset] [(.double (4610785298501913805 : UInt64))])) _
  refine st5 _ ?_
  show Steps p.tables e below ((T.setVm vm5).setTop (mkF m 4 #[.val (.double (4610785298501913805 : UInt64)), .second, .val (.double (9223372036854775808 : UInt64)), .second, .val (.double (4607182418800017408 : UInt64)), .second, .val (.double (4607182418800017408 : UInt64)), .second, .unset, .unset, .unset, .unset, .unset, .unset, .unset] [(.int (0 : Int32))])) _
  refine XS.istore hA5 hx rfl (hb hby d15_4) rfl (l' := #[.val (.double (4610785298501913805 : UInt64)), .second, .val (.double (9223372036854775808 : UInt64)), .second, .val (.double (4607182418800017408 : UInt64)), .second, .val (.double (4607182418800017408 : UInt64)), .second, .val (.int (0 : Int32)), .unset, .unset, .unset, .unset, .unset, .unset]) rfl ?_
  show Steps p.tables e below ((T.setVm vm5).setTop (mkF m 6 #[.val (.double (4610785298501913805 : UInt64)), .second, .val (.double (9223372036854775808 : UInt64)), .second, .val (.double (4607182418800017408 : UInt64)), .second, .val (.double (4607182418800017408 : UInt64)), .second, .val (.int (0 : Int32)), .unset, .unset, .unset, .unset, .unset, .unset] [])) _
  refine XS.iload hA5 hx rfl (hb hby d15_6) rfl ?_
  show Steps p.tables e below ((T.setVm vm5).setTop (mkF m 8 #[.val (.double (4610785298501913805 : UInt64)), .second, .val (.double (9223372036854775808 : UInt64)), .second, .val (.double (4607182418800017408 : UInt64)), .second, .val (.double (4607182418800017408 : UInt64)), .second, .val (.int (0 : Int32)), .unset, .unset, .unset, .unset, .unset, .unset] [(.int (0 : Int32))])) _
  refine XS.ifYes hA5 hx rfl (pc0 := 8) (pc' := 34) rfl (hb hby d15_8) rfl ((if0 _ _).trans (flt (by decide +kernel)).2.1) (by decide) (by decide) ?_
  show Steps p.tables e below ((T.setVm vm5).setTop (mkF m 34 #[.val (.double (4610785298501913805 : UInt64)), .second, .val (.double (9223372036854775808 : UInt64)), .second, .val (.double (4607182418800017408 : UInt64)), .second, .val (.double (4607182418800017408 : UInt64)), .second, .val (.int (0 : Int32)), .unset, .unset, .unset, .unset, .unset, .unset] [])) _
  refine XS.iload hA5 hx rfl (hb hby d15_34) rfl ?_
  show Steps p.tables e below ((T.setVm vm5).setTop (mkF m 36 #[.val (.double (4610785298501913805 : UInt64)), .second, .val (.double (9223372036854775808 : UInt64)), .second, .val (.double (4607182418800017408 : UInt64)), .second, .val (.double (4607182418800017408 : UInt64)), .second, .val (.int (0 : Int32)), .unset, .unset, .unset, .unset, .unset, .unset] [(.int (0 : Int32))])) _
  refine XS.bipush hA5 hx rfl (hb hby d15_36) ?_
  show Steps p.tables e below ((T.setVm vm5).setTop (mkF m 38 #[.val (.double (4610785298501913805 : UInt64)), .second, .val (.double (9223372036854775808 : UInt64)), .second, .val (.double (4607182418800017408 : UInt64)), .second, .val (.double (4607182418800017408 : UInt64)), .second, .val (.int (0 : Int32)), .unset, .unset, .unset, .unset, .unset, .unset] [(.int (52 : Int32)), (.int (0 : Int32))])) _
  refine XS.icmpYes hA5 hx rfl (pc0 := 38) (pc' := 43) rfl (hb hby d15_38) rfl (tlt (by decide +kernel)).1 (by decide) (by decide) ?_
  show Steps p.tables e below ((T.setVm vm5).setTop (mkF m 43 #[.val (.double (4610785298501913805 : UInt64)), .second, .val (.double (9223372036854775808 : UInt64)), .second, .val (.double (4607182418800017408 : UInt64)), .second, .val (.double (4607182418800017408 : UInt64)), .second, .val (.int (0 : Int32)), .unset, .unset, .unset, .unset, .unset, .unset] [])) _
  refine st6 _ ?_
  show Steps p.tables e below ((T.setVm vm6).setTop (mkF m 46 #[.val (.double (4610785298501913805 : UInt64)), .second, .val (.double (9223372036854775808 : UInt64)), .second, .val (.double (4607182418800017408 : UInt64)), .second, .val (.double (4607182418800017408 : UInt64)), .second, .val (.int (0 : Int32)), .unset, .unset, .unset, .unset, .unset, .unset] [(.int (1 : Int32))])) _
  refine XS.ifYes hA6 hx rfl (pc0 := 46) (pc' := 69) rfl (hb hby d15_46) rfl ((if0 _ _).trans (feq (by decide +kernel)).2) (by decide) (by decide) ?_
  show Steps p.tables e below ((T.setVm vm6).setTop (mkF m 69 #[.val (.double (4610785298501913805 : UInt64)), .second, .val (.double (9223372036854775808 : UInt64)), .second, .val (.double (4607182418800017408 : UInt64)), .second, .val (.double (4607182418800017408 : UInt64)), .second, .val (.int (0 : Int32)), .unset, .unset, .unset, .unset, .unset, .unset] [])) _
  refine XS.dloadN hA6 hx rfl (hb hby d15_69) rfl ?_
  show Steps p.tables e below ((T.setVm vm6).setTop (mkF m 70 #[.val (.double (4610785298501913805 : UInt64)), .second, .val (.double (9223372036854775808 : UInt64)), .second, .val (.double (4607182418800017408 : UInt64)), .second, .val (.double (4607182418800017408 : UInt64)), .second, .val (.int (0 : Int32)), .unset, .unset, .unset, .unset, .unset, .unset] [(.double (4610785298501913805 : UInt64))])) _
  refine st7 _ ?_
  show Steps p.tables e below ((T.setVm vm7).setTop (mkF m 73 #[.val (.double (4610785298501913805 : UInt64)), .second, .val (.double (9223372036854775808 : UInt64)), .second, .val (.double (4607182418800017408 : UInt64)), .second, .val (.double (4607182418800017408 : UInt64)), .second, .val (.int (0 : Int32)), .unset, .unset, .unset, .unset, .unset, .unset] [(.long ((4610785298501913805 : UInt64)).toInt64)])) _
  refine XS.lstore hA7 hx rfl (hb hby d15_73) rfl (l' := #[.val (.double (4610785298501913805 : UInt64)), .second, .val (.double (9223372036854775808 : UInt64)), .second, .val (.double (4607182418800017408 : UInt64)), .second, .val (.double (4607182418800017408 : UInt64)), .second, .val (.int (0 : Int32)), .val (.long ((4610785298501913805 : UInt64)).toInt64), .second, .unset, .unset, .unset, .unset]) rfl ?_
  show Steps p.tables e below ((T.setVm vm7).setTop (mkF m 75 #[.val (.double (4610785298501913805 : UInt64)), .second, .val (.double (9223372036854775808 : UInt64)), .second, .val (.double (4607182418800017408 : UInt64)), .second, .val (.double (4607182418800017408 : UInt64)), .second, .val (.int (0 : Int32)), .val (.long ((4610785298501913805 : UInt64)).toInt64), .second, .unset, .unset, .unset, .unset] [])) _
  refine own_ldJ hA7 hW7 hx hown (mvT hZ (hw _ (List.mem_of_getElem? (i := 88) rfl))) (args := #[]) (g := (mkF m 75 #[.val (.double (4610785298501913805 : UInt64)), .second, .val (.double (9223372036854775808 : UInt64)), .second, .val (.double (4607182418800017408 : UInt64)), .second, .val (.double (4607182418800017408 : UInt64)), .second, .val (.int (0 : Int32)), .val (.long ((4610785298501913805 : UInt64)).toInt64), .second, .unset, .unset, .unset, .unset] [])) rfl (hb hby d15_75) ?_
  show Steps p.tables e below ((T.setVm vm7).setTop (mkF m 78 #[.val (.double (4610785298501913805 : UInt64)), .second, .val (.double (9223372036854775808 : UInt64)), .second, .val (.double (4607182418800017408 : UInt64)), .second, .val (.double (4607182418800017408 : UInt64)), .second, .val (.int (0 : Int32)), .val (.long ((4610785298501913805 : UInt64)).toInt64), .second, .unset, .unset, .unset, .unset] [(.long (4503599627370495 : Int64))])) _
  refine XS.iload hA7 hx rfl (hb hby d15_78) rfl ?_
  show Steps p.tables e below ((T.setVm vm7).setTop (mkF m 80 #[.val (.double (4610785298501913805 : UInt64)), .second, .val (.double (9223372036854775808 : UInt64)), .second, .val (.double (4607182418800017408 : UInt64)), .second, .val (.double (4607182418800017408 : UInt64)), .second, .val (.int (0 : Int32)), .val (.long ((4610785298501913805 : UInt64)).toInt64), .second, .unset, .unset, .unset, .unset] [(.int (0 : Int32)), (.long (4503599627370495 : Int64))])) _
  refine XS.lshr hA7 hx rfl (hb hby d15_80) rfl ?_
  show Steps p.tables e below ((T.setVm vm7).setTop (mkF m 81 #[.val (.double (4610785298501913805 : UInt64)), .second, .val (.double (9223372036854775808 : UInt64)), .second, .val (.double (4607182418800017408 : UInt64)), .second, .val (.double (4607182418800017408 : UInt64)), .second, .val (.int (0 : Int32)), .val (.long ((4610785298501913805 : UInt64)).toInt64), .second, .unset, .unset, .unset, .unset] [(.long ((4503599627370495 : Int64) >>> ((0 : Int32) &&& 0x3f).toInt64))])) _
  refine XS.lstore hA7 hx rfl (hb hby d15_81) rfl (l' := #[.val (.double (4610785298501913805 : UInt64)), .second, .val (.double (9223372036854775808 : UInt64)), .second, .val (.double (4607182418800017408 : UInt64)), .second, .val (.double (4607182418800017408 : UInt64)), .second, .val (.int (0 : Int32)), .val (.long ((4610785298501913805 : UInt64)).toInt64), .second, .val (.long ((4503599627370495 : Int64) >>> ((0 : Int32) &&& 0x3f).toInt64)), .second, .unset, .unset]) rfl ?_
  show Steps p.tables e below ((T.setVm vm7).setTop (mkF m 83 #[.val (.double (4610785298501913805 : UInt64)), .second, .val (.double (9223372036854775808 : UInt64)), .second, .val (.double (4607182418800017408 : UInt64)), .second, .val (.double (4607182418800017408 : UInt64)), .second, .val (.int (0 : Int32)), .val (.long ((4610785298501913805 : UInt64)).toInt64), .second, .val (.long ((4503599627370495 : Int64) >>> ((0 : Int32) &&& 0x3f).toInt64)), .second, .unset, .unset] [])) _
  refine XS.lload hA7 hx rfl (hb hby d15_83) rfl ?_
  show Steps p.tables e below ((T.setVm vm7).setTop (mkF m 85 #[.val (.double (4610785298501913805 : UInt64)), .second, .val (.double (9223372036854775808 : UInt64)), .second, .val (.double (4607182418800017408 : UInt64)), .second, .val (.double (4607182418800017408 : UInt64)), .second, .val (.int (0 : Int32)), .val (.long ((4610785298501913805 : UInt64)).toInt64), .second, .val (.long ((4503599627370495 : Int64) >>> ((0 : Int32) &&& 0x3f).toInt64)), .second, .unset, .unset] [(.long ((4503599627370495 : Int64) >>> ((0 : Int32) &&& 0x3f).toInt64))])) _
  refine XS.lload hA7 hx rfl (hb hby d15_85) rfl ?_
  show Steps p.tables e below ((T.setVm vm7).setTop (mkF m 87 #[.val (.double (4610785298501913805 : UInt64)), .second, .val (.double (9223372036854775808 : UInt64)), .second, .val (.double (4607182418800017408 : UInt64)), .second, .val (.double (4607182418800017408 : UInt64)), .second, .val (.int (0 : Int32)), .val (.long ((4610785298501913805 : UInt64)).toInt64), .second, .val (.long ((4503599627370495 : Int64) >>> ((0 : Int32) &&& 0x3f).toInt64)), .second, .unset, .unset] [(.long ((4610785298501913805 : UInt64)).toInt64), (.long ((4503599627370495 : Int64) >>> ((0 : Int32) &&& 0x3f).toInt64))])) _
  refine XS.land hA7 hx rfl (hb hby d15_87) rfl ?_
  show Steps p.tables e below ((T.setVm vm7).setTop (mkF m 88 #[.val (.double (4610785298501913805 : UInt64)), .second, .val (.double (9223372036854775808 : UInt64)), .second, .val (.double (4607182418800017408 : UInt64)), .second, .val (.double (4607182418800017408 : UInt64)), .second, .val (.int (0 : Int32)), .val (.long ((4610785298501913805 : UInt64)).toInt64), .second, .val (.long ((4503599627370495 : Int64) >>> ((0 : Int32) &&& 0x3f).toInt64)), .second, .unset, .unset] [(.long (((4503599627370495 : Int64) >>> ((0 : Int32) &&& 0x3f).toInt64) &&& ((4610785298501913805 : UInt64)).toInt64))])) _
  refine XS.lconst hA7 hx rfl (hb hby d15_88) ?_
  show Steps p.tables e below ((T.setVm vm7).setTop (mkF m 89 #[.val (.double (4610785298501913805 : UInt64)), .second, .val (.double (9223372036854775808 : UInt64)), .second, .val (.double (4607182418800017408 : UInt64)), .second, .val (.double (4607182418800017408 : UInt64)), .second, .val (.int (0 : Int32)), .val (.long ((4610785298501913805 : UInt64)).toInt64), .second, .val (.long ((4503599627370495 : Int64) >>> ((0 : Int32) &&& 0x3f).toInt64)), .second, .unset, .unset] [(.long (0 : Int64)), (.long (((4503599627370495 : Int64) >>> ((0 : Int32) &&& 0x3f).toInt64) &&& ((4610785298501913805 : UInt64)).toInt64))])) _
  refine XS.lcmp hA7 hx rfl (hb hby d15_89) rfl ?_
  show Steps p.tables e below ((T.setVm vm7).setTop (mkF m 90 #[.val (.double (4610785298501913805 : UInt64)), .second, .val (.double (9223372036854775808 : UInt64)), .second, .val (.double (4607182418800017408 : UInt64)), .second, .val (.double (4607182418800017408 : UInt64)), .second, .val (.int (0 : Int32)), .val (.long ((4610785298501913805 : UInt64)).toInt64), .second, .val (.long ((4503599627370495 : Int64) >>> ((0 : Int32) &&& 0x3f).toInt64)), .second, .unset, .unset] [(.int (lcmpW (((4503599627370495 : Int64) >>> ((0 : Int32) &&& 0x3f).toInt64) &&& ((4610785298501913805 : UInt64)).toInt64) (0 : Int64)))])) _
  refine XS.ifYes hA7 hx rfl (pc0 := 90) (pc' := 95) rfl (hb hby d15_90) rfl ((if0 _ _).trans (feq (by decide +kernel)).2) (by decide) (by decide) ?_
  show Steps p.tables e below ((T.setVm vm7).setTop (mkF m 95 #[.val (.double (4610785298501913805 : UInt64)), .second, .val (.double (9223372036854775808 : UInt64)), .second, .val (.double (4607182418800017408 : UInt64)), .second, .val (.double (4607182418800017408 : UInt64)), .second, .val (.int (0 : Int32)), .val (.long ((4610785298501913805 : UInt64)).toInt64), .second, .val (.long ((4503599627370495 : Int64) >>> ((0 : Int32) &&& 0x3f).toInt64)), .second, .unset, .unset] [])) _
  refine XS.lload hA7 hx rfl (hb hby d15_95) rfl ?_
  show Steps p.tables e below ((T.setVm vm7).setTop (mkF m 97 #[.val (.double (4610785298501913805 : UInt64)), .second, .val (.double (9223372036854775808 : UInt64)), .second, .val (.double (4607182418800017408 : UInt64)), .second, .val (.double (4607182418800017408 : UInt64)), .second, .val (.int (0 : Int32)), .val (.long ((4610785298501913805 : UInt64)).toInt64), .second, .val (.long ((4503599627370495 : Int64) >>> ((0 : Int32) &&& 0x3f).toInt64)), .second, .unset, .unset] [(.long ((4610785298501913805 : UInt64)).toInt64)])) _
  refine XS.lload hA7 hx rfl (hb hby d15_97) rfl ?_
  show Steps p.tables e below ((T.setVm vm7).setTop (mkF m 99 #[.val (.double (4610785298501913805 : UInt64)), .second, .val (.double (9223372036854775808 : UInt64)), .second, .val (.double (4607182418800017408 : UInt64)), .second, .val (.double (4607182418800017408 : UInt64)), .second, .val (.int (0 : Int32)), .val (.long ((4610785298501913805 : UInt64)).toInt64), .second, .val (.long ((4503599627370495 : Int64) >>> ((0 : Int32) &&& 0x3f).toInt64)), .second, .unset, .unset] [(.long ((4503599627370495 : Int64) >>> ((0 : Int32) &&& 0x3f).toInt64)), (.long ((4610785298501913805 : UInt64)).toInt64)])) _
  refine own_ldJ hA7 hW7 hx hown (mvT hZ (hw _ (List.mem_of_getElem? (i := 89) rfl))) (args := #[]) (g := (mkF m 99 #[.val (.double (4610785298501913805 : UInt64)), .second, .val (.double (9223372036854775808 : UInt64)), .second, .val (.double (4607182418800017408 : UInt64)), .second, .val (.double (4607182418800017408 : UInt64)), .second, .val (.int (0 : Int32)), .val (.long ((4610785298501913805 : UInt64)).toInt64), .second, .val (.long ((4503599627370495 : Int64) >>> ((0 : Int32) &&& 0x3f).toInt64)), .second, .unset, .unset] [(.long ((4503599627370495 : Int64) >>> ((0 : Int32) &&& 0x3f).toInt64)), (.long ((4610785298501913805 : UInt64)).toInt64)])) rfl (hb hby d15_99) ?_
  show Steps p.tables e below ((T.setVm vm7).setTop (mkF m 102 #[.val (.double (4610785298501913805 : UInt64)), .second, .val (.double (9223372036854775808 : UInt64)), .second, .val (.double (4607182418800017408 : UInt64)), .second, .val (.double (4607182418800017408 : UInt64)), .second, .val (.int (0 : Int32)), .val (.long ((4610785298501913805 : UInt64)).toInt64), .second, .val (.long ((4503599627370495 : Int64) >>> ((0 : Int32) &&& 0x3f).toInt64)), .second, .unset, .unset] [(.long (-1 : Int64)), (.long ((4503599627370495 : Int64) >>> ((0 : Int32) &&& 0x3f).toInt64)), (.long ((4610785298501913805 : UInt64)).toInt64)])) _
  refine XS.lxor hA7 hx rfl (hb hby d15_102) rfl ?_
  show Steps p.tables e below ((T.setVm vm7).setTop (mkF m 103 #[.val (.double (4610785298501913805 : UInt64)), .second, .val (.double (9223372036854775808 : UInt64)), .second, .val (.double (4607182418800017408 : UInt64)), .second, .val (.double (4607182418800017408 : UInt64)), .second, .val (.int (0 : Int32)), .val (.long ((4610785298501913805 : UInt64)).toInt64), .second, .val (.long ((4503599627370495 : Int64) >>> ((0 : Int32) &&& 0x3f).toInt64)), .second, .unset, .unset] [(.long (((4503599627370495 : Int64) >>> ((0 : Int32) &&& 0x3f).toInt64) ^^^ (-1 : Int64))), (.long ((4610785298501913805 : UInt64)).toInt64)])) _
  refine XS.land hA7 hx rfl (hb hby d15_103) rfl ?_
  show Steps p.tables e below ((T.setVm vm7).setTop (mkF m 104 #[.val (.double (4610785298501913805 : UInt64)), .second, .val (.double (9223372036854775808 : UInt64)), .second, .val (.double (4607182418800017408 : UInt64)), .second, .val (.double (4607182418800017408 : UInt64)), .second, .val (.int (0 : Int32)), .val (.long ((4610785298501913805 : UInt64)).toInt64), .second, .val (.long ((4503599627370495 : Int64) >>> ((0 : Int32) &&& 0x3f).toInt64)), .second, .unset, .unset] [(.long (((4610785298501913805 : UInt64)).toInt64 &&& (((4503599627370495 : Int64) >>> ((0 : Int32) &&& 0x3f).toInt64) ^^^ (-1 : Int64))))])) _
  refine st8 _ ?_
  show Steps p.tables e below ((T.setVm vm8).setTop (mkF m 107 #[.val (.double (4610785298501913805 : UInt64)), .second, .val (.double (9223372036854775808 : UInt64)), .second, .val (.double (4607182418800017408 : UInt64)), .second, .val (.double (4607182418800017408 : UInt64)), .second, .val (.int (0 : Int32)), .val (.long ((4610785298501913805 : UInt64)).toInt64), .second, .val (.long ((4503599627370495 : Int64) >>> ((0 : Int32) &&& 0x3f).toInt64)), .second, .unset, .unset] [(.double ((((4610785298501913805 : UInt64)).toInt64 &&& (((4503599627370495 : Int64) >>> ((0 : Int32) &&& 0x3f).toInt64) ^^^ (-1 : Int64)))).toUInt64)])) _
  refine XS.dstore hA8 hx rfl (hb hby d15_107) rfl (l' := #[.val (.double (4610785298501913805 : UInt64)), .second, .val (.double (9223372036854775808 : UInt64)), .second, .val (.double (4607182418800017408 : UInt64)), .second, .val (.double (4607182418800017408 : UInt64)), .second, .val (.int (0 : Int32)), .val (.long ((4610785298501913805 : UInt64)).toInt64), .second, .val (.long ((4503599627370495 : Int64) >>> ((0 : Int32) &&& 0x3f).toInt64)), .second, .val (.double ((((4610785298501913805 : UInt64)).toInt64 &&& (((4503599627370495 : Int64) >>> ((0 : Int32) &&& 0x3f).toInt64) ^^^ (-1 : Int64)))).toUInt64), .second]) rfl ?_
  show Steps p.tables e below ((T.setVm vm8).setTop (mkF m 109 #[.val (.double (4610785298501913805 : UInt64)), .second, .val (.double (9223372036854775808 : UInt64)), .second, .val (.double (4607182418800017408 : UInt64)), .second, .val (.double (4607182418800017408 : UInt64)), .second, .val (.int (0 : Int32)), .val (.long ((4610785298501913805 : UInt64)).toInt64), .second, .val (.long ((4503599627370495 : Int64) >>> ((0 : Int32) &&& 0x3f).toInt64)), .second, .val (.double ((((4610785298501913805 : UInt64)).toInt64 &&& (((4503599627370495 : Int64) >>> ((0 : Int32) &&& 0x3f).toInt64) ^^^ (-1 : Int64)))).toUInt64), .second] [])) _
  refine XS.dload hA8 hx rfl (hb hby d15_109) rfl ?_
  show Steps p.tables e below ((T.setVm vm8).setTop (mkF m 111 #[.val (.double (4610785298501913805 : UInt64)), .second, .val (.double (9223372036854775808 : UInt64)), .second, .val (.double (4607182418800017408 : UInt64)), .second, .val (.double (4607182418800017408 : UInt64)), .second, .val (.int (0 : Int32)), .val (.long ((4610785298501913805 : UInt64)).toInt64), .second, .val (.long ((4503599627370495 : Int64) >>> ((0 : Int32) &&& 0x3f).toInt64)), .second, .val (.double ((((4610785298501913805 : UInt64)).toInt64 &&& (((4503599627370495 : Int64) >>> ((0 : Int32) &&& 0x3f).toInt64) ^^^ (-1 : Int64)))).toUInt64), .second] [(.double (4607182418800017408 : UInt64))])) _
  refine XS.dloadN hA8 hx rfl (hb hby d15_111) rfl ?_
  show Steps p.tables e below ((T.setVm vm8).setTop (mkF m 112 #[.val (.double (4610785298501913805 : UInt64)), .second, .val (.double (9223372036854775808 : UInt64)), .second, .val (.double (4607182418800017408 : UInt64)), .second, .val (.double (4607182418800017408 : UInt64)), .second, .val (.int (0 : Int32)), .val (.long ((4610785298501913805 : UInt64)).toInt64), .second, .val (.long ((4503599627370495 : Int64) >>> ((0 : Int32) &&& 0x3f).toInt64)), .second, .val (.double ((((4610785298501913805 : UInt64)).toInt64 &&& (((4503599627370495 : Int64) >>> ((0 : Int32) &&& 0x3f).toInt64) ^^^ (-1 : Int64)))).toUInt64), .second] [(.double (4610785298501913805 : UInt64)), (.double (4607182418800017408 : UInt64))])) _
  refine XS.dmulS hA8 hx rfl (v := (4610785298501913805 : UInt64)) (hb hby d15_112) rfl (show FP.dmul (4607182418800017408 : UInt64) (4610785298501913805 : UInt64) &&& 0x7fffffffffffffff ≤ 0x7ff0000000000000 by decide +kernel) (by decide +kernel) ?_
  show Steps p.tables e below ((T.setVm vm8).setTop (mkF m 113 #[.val (.double (4610785298501913805 : UInt64)), .second, .val (.double (9223372036854775808 : UInt64)), .second, .val (.double (4607182418800017408 : UInt64)), .second, .val (.double (4607182418800017408 : UInt64)), .second, .val (.int (0 : Int32)), .val (.long ((4610785298501913805 : UInt64)).toInt64), .second, .val (.long ((4503599627370495 : Int64) >>> ((0 : Int32) &&& 0x3f).toInt64)), .second, .val (.double ((((4610785298501913805 : UInt64)).toInt64 &&& (((4503599627370495 : Int64) >>> ((0 : Int32) &&& 0x3f).toInt64) ^^^ (-1 : Int64)))).toUInt64), .second] [(.double (4610785298501913805 : UInt64))])) _
  refine XS.dconst0 hA8 hx rfl (v := 0) (hb hby d15_113) (by decide +kernel) ?_
  show Steps p.tables e below ((T.setVm vm8).setTop (mkF m 114 #[.val (.double (4610785298501913805 : UInt64)), .second, .val (.double (9223372036854775808 : UInt64)), .second, .val (.double (4607182418800017408 : UInt64)), .second, .val (.double (4607182418800017408 : UInt64)), .second, .val (.int (0 : Int32)), .val (.long ((4610785298501913805 : UInt64)).toInt64), .second, .val (.long ((4503599627370495 : Int64) >>> ((0 : Int32) &&& 0x3f).toInt64)), .second, .val (.double ((((4610785298501913805 : UInt64)).toInt64 &&& (((4503599627370495 : Int64) >>> ((0 : Int32) &&& 0x3f).toInt64) ^^^ (-1 : Int64)))).toUInt64), .second] [(.double (0 : UInt64)), (.double (4610785298501913805 : UInt64))])) _
  refine XS.dcmpS hA8 hx rfl (v := (1 : Int32)) (hb hby d15_114) rfl (by decide +kernel) ?_
  show Steps p.tables e below ((T.setVm vm8).setTop (mkF m 115 #[.val (.double (4610785298501913805 : UInt64)), .second, .val (.double (9223372036854775808 : UInt64)), .second, .val (.double (4607182418800017408 : UInt64)), .second, .val (.double (4607182418800017408 : UInt64)), .second, .val (.int (0 : Int32)), .val (.long ((4610785298501913805 : UInt64)).toInt64), .second, .val (.long ((4503599627370495 : Int64) >>> ((0 : Int32) &&& 0x3f).toInt64)), .second, .val (.double ((((4610785298501913805 : UInt64)).toInt64 &&& (((4503599627370495 : Int64) >>> ((0 : Int32) &&& 0x3f).toInt64) ^^^ (-1 : Int64)))).toUInt64), .second] [(.int (1 : Int32))])) _
  refine XS.ifNo hA8 hx rfl (hb hby d15_115) rfl ((if0 _ _).trans (tlt (by decide +kernel)).2.2.2) ?_
  show Steps p.tables e below ((T.setVm vm8).setTop (mkF m 118 #[.val (.double (4610785298501913805 : UInt64)), .second, .val (.double (9223372036854775808 : UInt64)), .second, .val (.double (4607182418800017408 : UInt64)), .second, .val (.double (4607182418800017408 : UInt64)), .second, .val (.int (0 : Int32)), .val (.long ((4610785298501913805 : UInt64)).toInt64), .second, .val (.long ((4503599627370495 : Int64) >>> ((0 : Int32) &&& 0x3f).toInt64)), .second, .val (.double ((((4610785298501913805 : UInt64)).toInt64 &&& (((4503599627370495 : Int64) >>> ((0 : Int32) &&& 0x3f).toInt64) ^^^ (-1 : Int64)))).toUInt64), .second] [])) _
  refine XS.dload hA8 hx rfl (hb hby d15_118) rfl ?_
  show Steps p.tables e below ((T.setVm vm8).setTop (mkF m 120 #[.val (.double (4610785298501913805 : UInt64)), .second, .val (.double (9223372036854775808 : UInt64)), .second, .val (.double (4607182418800017408 : UInt64)), .second, .val (.double (4607182418800017408 : UInt64)), .second, .val (.int (0 : Int32)), .val (.long ((4610785298501913805 : UInt64)).toInt64), .second, .val (.long ((4503599627370495 : Int64) >>> ((0 : Int32) &&& 0x3f).toInt64)), .second, .val (.double ((((4610785298501913805 : UInt64)).toInt64 &&& (((4503599627370495 : Int64) >>> ((0 : Int32) &&& 0x3f).toInt64) ^^^ (-1 : Int64)))).toUInt64), .second] [(.double ((((4610785298501913805 : UInt64)).toInt64 &&& (((4503599627370495 : Int64) >>> ((0 : Int32) &&& 0x3f).toInt64) ^^^ (-1 : Int64)))).toUInt64)])) _
  refine XS.dload hA8 hx rfl (hb hby d15_120) rfl ?_
  show Steps p.tables e below ((T.setVm vm8).setTop (mkF m 122 #[.val (.double (4610785298501913805 : UInt64)), .second, .val (.double (9223372036854775808 : UInt64)), .second, .val (.double (4607182418800017408 : UInt64)), .second, .val (.double (4607182418800017408 : UInt64)), .second, .val (.int (0 : Int32)), .val (.long ((4610785298501913805 : UInt64)).toInt64), .second, .val (.long ((4503599627370495 : Int64) >>> ((0 : Int32) &&& 0x3f).toInt64)), .second, .val (.double ((((4610785298501913805 : UInt64)).toInt64 &&& (((4503599627370495 : Int64) >>> ((0 : Int32) &&& 0x3f).toInt64) ^^^ (-1 : Int64)))).toUInt64), .second] [(.double (4607182418800017408 : UInt64)), (.double ((((4610785298501913805 : UInt64)).toInt64 &&& (((4503599627370495 : Int64) >>> ((0 : Int32) &&& 0x3f).toInt64) ^^^ (-1 : Int64)))).toUInt64)])) _
  refine XS.daddS hA8 hx rfl (v := (4611686018427387904 : UInt64)) (hb hby d15_122) rfl (show FP.dadd ((((4610785298501913805 : UInt64)).toInt64 &&& (((4503599627370495 : Int64) >>> ((0 : Int32) &&& 0x3f).toInt64) ^^^ (-1 : Int64)))).toUInt64 (4607182418800017408 : UInt64) &&& 0x7fffffffffffffff ≤ 0x7ff0000000000000 by decide +kernel) (by decide +kernel) ?_
  show Steps p.tables e below ((T.setVm vm8).setTop (mkF m 123 #[.val (.double (4610785298501913805 : UInt64)), .second, .val (.double (9223372036854775808 : UInt64)), .second, .val (.double (4607182418800017408 : UInt64)), .second, .val (.double (4607182418800017408 : UInt64)), .second, .val (.int (0 : Int32)), .val (.long ((4610785298501913805 : UInt64)).toInt64), .second, .val (.long ((4503599627370495 : Int64) >>> ((0 : Int32) &&& 0x3f).toInt64)), .second, .val (.double ((((4610785298501913805 : UInt64)).toInt64 &&& (((4503599627370495 : Int64) >>> ((0 : Int32) &&& 0x3f).toInt64) ^^^ (-1 : Int64)))).toUInt64), .second] [(.double (4611686018427387904 : UInt64))])) _
  refine XS.dstore hA8 hx rfl (hb hby d15_123) rfl (l' := #[.val (.double (4610785298501913805 : UInt64)), .second, .val (.double (9223372036854775808 : UInt64)), .second, .val (.double (4607182418800017408 : UInt64)), .second, .val (.double (4607182418800017408 : UInt64)), .second, .val (.int (0 : Int32)), .val (.long ((4610785298501913805 : UInt64)).toInt64), .second, .val (.long ((4503599627370495 : Int64) >>> ((0 : Int32) &&& 0x3f).toInt64)), .second, .val (.double (4611686018427387904 : UInt64)), .second]) rfl ?_
  show Steps p.tables e below ((T.setVm vm8).setTop (mkF m 125 #[.val (.double (4610785298501913805 : UInt64)), .second, .val (.double (9223372036854775808 : UInt64)), .second, .val (.double (4607182418800017408 : UInt64)), .second, .val (.double (4607182418800017408 : UInt64)), .second, .val (.int (0 : Int32)), .val (.long ((4610785298501913805 : UInt64)).toInt64), .second, .val (.long ((4503599627370495 : Int64) >>> ((0 : Int32) &&& 0x3f).toInt64)), .second, .val (.double (4611686018427387904 : UInt64)), .second] [])) _
  refine XS.dload hA8 hx rfl (hb hby d15_125) rfl ?_
  show Steps p.tables e below ((T.setVm vm8).setTop (mkF m 127 #[.val (.double (4610785298501913805 : UInt64)), .second, .val (.double (9223372036854775808 : UInt64)), .second, .val (.double (4607182418800017408 : UInt64)), .second, .val (.double (4607182418800017408 : UInt64)), .second, .val (.int (0 : Int32)), .val (.long ((4610785298501913805 : UInt64)).toInt64), .second, .val (.long ((4503599627370495 : Int64) >>> ((0 : Int32) &&& 0x3f).toInt64)), .second, .val (.double (4611686018427387904 : UInt64)), .second] [(.double (4611686018427387904 : UInt64))])) _
  exact own_rD hA8 hx (own_mt hW8 hm) hret (hb hby d15_127) hk
theorem own_efs_fo3 (m : MethodId) : entryFrame m #[(.double (4613937818241073152 : UInt64)), (.double (9223372036854775808 : UInt64)), (.double (4607182418800017408 : UInt64)), (.double (4607182418800017408 : UInt64))] 15 = (mkF m 0 #[.val (.double (4613937818241073152 : UInt64)), .second, .val (.double (9223372036854775808 : UInt64)), .second, .val (.double (4607182418800017408 : UInt64)), .second, .val (.double (4607182418800017408 : UInt64)), .second, .unset, .unset, .unset, .unset, .unset, .unset, .unset] []) := by first | (simp [entryFrame, mkF, argsToLocals, Value.category]; done) | rfl
set_option maxRecDepth 65536 in
set_option maxHeartbeats 40000000 in
theorem own_sub_fo3 {p : Program} {l : Launch} {e : Env} {below : List Frame} {s Z : State} {a0 : Array Value} {hp : Heap} (hw : ∀ d ∈ tables_1, d.before a0 Z = true) (hZ : Z.Warmed39 s.vm) (ha : l.admits e) (hx : p.tables.exec = Jvm.exec) (F : Sta Z hp "java/lang/StrictMath" "$assertionsDisabled" "Z" (.int (1 : Int32))) (m : MethodId) (meth : Method) (c : Code) (hn : s.methodNamed? (⟨"java/lang/StrictMath", "floorOrCeil", "(DDDD)D"⟩ : MethodName) = some m) (hm : s.vm.method? m = some meth) (hc : meth.code = some c) (hby : c.code = jdk_128_method_18_code) (hml : c.maxLocals = 15) (hret : meth.sig.returnType = some .double) : own_Sub p.tables e below s m c #[(.double (4613937818241073152 : UInt64)), (.double (9223372036854775808 : UInt64)), (.double (4607182418800017408 : UInt64)), (.double (4607182418800017408 : UInt64))] (.double (4613937818241073152 : UInt64)) 2 100 hp := by
  intro T hA hW hT hR
  have hown : s.vm.findClass "java/lang/StrictMath" = some m.cls := findClass_of_methodNamed hn
  rw [hml, own_efs_fo3 m]
  obtain ⟨vm9, hW9, st9⟩ := own_call (p := p) (e := e) (T := T) (args := #[]) hA hW ha hx (y := (⟨"java/lang/Math", "getExponent", "(D)I"⟩ : MethodName)) hown (mvT hZ (hw _ (List.mem_of_getElem? (i := 73) rfl))) (mvT hZ (hw _ (List.mem_of_getElem? (i := 74) rfl))) (mvT hZ (hw _ (List.mem_of_getElem? (i := 44) rfl))) (mvT hZ (hw _ (List.mem_of_getElem? (i := 75) rfl))) (by decide) (Jvm.Free.JP.mathPlain rfl (by decide +kernel)) (argsL := [(.double (4613937818241073152 : UInt64))]) (rest := []) (v := (.int (1 : Int32))) (k' := 1) (w' := 60) (hp := hp) (fun mk meth cM a1 a2 a3 a4 a5 a6 => own_sub_ge3 hw hZ ha hx F mk meth cM a1 a2 a3 a4 a5 a6) hT hR (by decide) (g := (mkF m 1 #[.val (.double (4613937818241073152 : UInt64)), .second, .val (.double (9223372036854775808 : UInt64)), .second, .val (.double (4607182418800017408 : UInt64)), .second, .val (.double (4607182418800017408 : UInt64)), .second, .unset, .unset, .unset, .unset, .unset, .unset, .unset] [(.double (4613937818241073152 : UInt64))])) rfl (lenOf own_pd0 rfl) rfl (hb hby d15_1) (by show 15 + 11 + 2 * 0 + 0 + (2 + 11) + 60 ≤ 100; decide)
  have hA9 : At (T.setVm vm9) m c below := own_at hA hW hW9
  obtain ⟨vm10, hW10, st10⟩ := own_gs (p := p) (e := e) (T := (T.setVm vm9)) hA9 hW9 ha hx hZ hown (hw _ (List.mem_of_getElem? (i := 86) rfl)) (hp := hp) hT F (g := (mkF m 43 #[.val (.double (4613937818241073152 : UInt64)), .second, .val (.double (9223372036854775808 : UInt64)), .second, .val (.double (4607182418800017408 : UInt64)), .second, .val (.double (4607182418800017408 : UInt64)), .second, .val (.int (1 : Int32)), .unset, .unset, .unset, .unset, .unset, .unset] [])) rfl (hb hby d15_43)
  have hA10 : At (T.setVm vm10) m c below := own_at hA hW hW10
  obtain ⟨vm11, hW11, st11⟩ := own_d2r (p := p) (e := e) (T := (T.setVm vm10)) (args := #[]) hA10 hW10 ha hx hown (mvT hZ (hw _ (List.mem_of_getElem? (i := 87) rfl))) (mvT hZ (hw _ (List.mem_of_getElem? (i := 79) rfl))) (mvT hZ (hw _ (List.mem_of_getElem? (i := 77) rfl))) (mvT hZ (hw _ (List.mem_of_getElem? (i := 78) rfl))) hR (by decide) (g := (mkF m 70 #[.val (.double (4613937818241073152 : UInt64)), .second, .val (.double (9223372036854775808 : UInt64)), .second, .val (.double (4607182418800017408 : UInt64)), .second, .val (.double (4607182418800017408 : UInt64)), .second, .val (.int (1 : Int32)), .unset, .unset, .unset, .unset, .unset, .unset] [(.double (4613937818241073152 : UInt64))])) rfl (rest := []) rfl (hb hby d15_70) (by show 15 + 11 + 2 * 0 + 0 + (nativeFrameWords "java/lang/Double" "doubleToRawLongBits" 2 + 11) ≤ 100; decide +kernel)
  have hA11 : At (T.setVm vm11) m c below := own_at hA hW hW11
  refine ⟨vm11, hW11, fun target hk => ?_⟩
  show Steps p.tables e below (T.setTop (mkF m 0 #[.val (.double (4613937818241073152 : UInt64)), .second, .val (.double (9223372036854775808 : UInt64)), .second, .val (.double (4607182418800017408 : UInt64)), .second, .val (.double (4607182418800017408 : UInt64)), .second, .unset, .unset, .unset, .unset, .unset, .unset, .unset] [])) _
  refine XS.dloadN hA hx rfl (hb hby d15_0) rfl ?_
  show Steps p.tables e below (T.setTop (mkF m 1 #[.val (.double (4613937818241073152 : UInt64)), .second, .val (.double (9223372036854775808 : UInt64)), .second, .val (.double (4607182418800017408 : UInt64)), .second, .val (.double (4607182418800017408 : UInt64)), .second, .unset, .unset, .unset, .unset, .unset, .unset, .unset] [(.double (4613937818241073152 : UInt64))])) _
  refine st9 _ ?_
  show Steps p.tables e below ((T.setVm vm9).setTop (mkF m 4 #[.val (.double (4613937818241073152 : UInt64)), .second, .val (.double (9223372036854775808 : UInt64)), .second, .val (.double (4607182418800017408 : UInt64)), .second, .val (.double (4607182418800017408 : UInt64)), .second, .unset, .unset, .unset, .unset, .unset, .unset, .unset] [(.int (1 : Int32))])) _
  refine XS.istore hA9 hx rfl (hb hby d15_4) rfl (l' := #[.val (.double (4613937818241073152 : UInt64)), .second, .val (.double (9223372036854775808 : UInt64)), .second, .val (.double (4607182418800017408 : UInt64)), .second, .val (.double (4607182418800017408 : UInt64)), .second, .val (.int (1 : Int32)), .unset, .unset, .unset, .unset, .unset, .unset]) rfl ?_
  show Steps p.tables e below ((T.setVm vm9).setTop (mkF m 6 #[.val (.double (4613937818241073152 : UInt64)), .second, .val (.double (9223372036854775808 : UInt64)), .second, .val (.double (4607182418800017408 : UInt64)), .second, .val (.double (4607182418800017408 : UInt64)), .second, .val (.int (1 : Int32)), .unset, .unset, .unset, .unset, .unset, .unset] [])) _
  refine XS.iload hA9 hx rfl (hb hby d15_6) rfl ?_
  show Steps p.tables e below ((T.setVm vm9).setTop (mkF m 8 #[.val (.double (4613937818241073152 : UInt64)), .second, .val (.double (9223372036854775808 : UInt64)), .second, .val (.double (4607182418800017408 : UInt64)), .second, .val (.double (4607182418800017408 : UInt64)), .second, .val (.int (1 : Int32)), .unset, .unset, .unset, .unset, .unset, .unset] [(.int (1 : Int32))])) _
  refine XS.ifYes hA9 hx rfl (pc0 := 8) (pc' := 34) rfl (hb hby d15_8) rfl ((if0 _ _).trans (flt (by decide +kernel)).2.1) (by decide) (by decide) ?_
  show Steps p.tables e below ((T.setVm vm9).setTop (mkF m 34 #[.val (.double (4613937818241073152 : UInt64)), .second, .val (.double (9223372036854775808 : UInt64)), .second, .val (.double (4607182418800017408 : UInt64)), .second, .val (.double (4607182418800017408 : UInt64)), .second, .val (.int (1 : Int32)), .unset, .unset, .unset, .unset, .unset, .unset] [])) _
  refine XS.iload hA9 hx rfl (hb hby d15_34) rfl ?_
  show Steps p.tables e below ((T.setVm vm9).setTop (mkF m 36 #[.val (.double (4613937818241073152 : UInt64)), .second, .val (.double (9223372036854775808 : UInt64)), .second, .val (.double (4607182418800017408 : UInt64)), .second, .val (.double (4607182418800017408 : UInt64)), .second, .val (.int (1 : Int32)), .unset, .unset, .unset, .unset, .unset, .unset] [(.int (1 : Int32))])) _
  refine XS.bipush hA9 hx rfl (hb hby d15_36) ?_
  show Steps p.tables e below ((T.setVm vm9).setTop (mkF m 38 #[.val (.double (4613937818241073152 : UInt64)), .second, .val (.double (9223372036854775808 : UInt64)), .second, .val (.double (4607182418800017408 : UInt64)), .second, .val (.double (4607182418800017408 : UInt64)), .second, .val (.int (1 : Int32)), .unset, .unset, .unset, .unset, .unset, .unset] [(.int (52 : Int32)), (.int (1 : Int32))])) _
  refine XS.icmpYes hA9 hx rfl (pc0 := 38) (pc' := 43) rfl (hb hby d15_38) rfl (tlt (by decide +kernel)).1 (by decide) (by decide) ?_
  show Steps p.tables e below ((T.setVm vm9).setTop (mkF m 43 #[.val (.double (4613937818241073152 : UInt64)), .second, .val (.double (9223372036854775808 : UInt64)), .second, .val (.double (4607182418800017408 : UInt64)), .second, .val (.double (4607182418800017408 : UInt64)), .second, .val (.int (1 : Int32)), .unset, .unset, .unset, .unset, .unset, .unset] [])) _
  refine st10 _ ?_
  show Steps p.tables e below ((T.setVm vm10).setTop (mkF m 46 #[.val (.double (4613937818241073152 : UInt64)), .second, .val (.double (9223372036854775808 : UInt64)), .second, .val (.double (4607182418800017408 : UInt64)), .second, .val (.double (4607182418800017408 : UInt64)), .second, .val (.int (1 : Int32)), .unset, .unset, .unset, .unset, .unset, .unset] [(.int (1 : Int32))])) _
  refine XS.ifYes hA10 hx rfl (pc0 := 46) (pc' := 69) rfl (hb hby d15_46) rfl ((if0 _ _).trans (feq (by decide +kernel)).2) (by decide) (by decide) ?_
  show Steps p.tables e below ((T.setVm vm10).setTop (mkF m 69 #[.val (.double (4613937818241073152 : UInt64)), .second, .val (.double (9223372036854775808 : UInt64)), .second, .val (.double (4607182418800017408 : UInt64)), .second, .val (.double (4607182418800017408 : UInt64)), .second, .val (.int (1 : Int32)), .unset, .unset, .unset, .unset, .unset, .unset] [])) _
  refine XS.dloadN hA10 hx rfl (hb hby d15_69) rfl ?_
  show Steps p.tables e below ((T.setVm vm10).setTop (mkF m 70 #[.val (.double (4613937818241073152 : UInt64)), .second, .val (.double (9223372036854775808 : UInt64)), .second, .val (.double (4607182418800017408 : UInt64)), .second, .val (.double (4607182418800017408 : UInt64)), .second, .val (.int (1 : Int32)), .unset, .unset, .unset, .unset, .unset, .unset] [(.double (4613937818241073152 : UInt64))])) _
  refine st11 _ ?_
  show Steps p.tables e below ((T.setVm vm11).setTop (mkF m 73 #[.val (.double (4613937818241073152 : UInt64)), .second, .val (.double (9223372036854775808 : UInt64)), .second, .val (.double (4607182418800017408 : UInt64)), .second, .val (.double (4607182418800017408 : UInt64)), .second, .val (.int (1 : Int32)), .unset, .unset, .unset, .unset, .unset, .unset] [(.long ((4613937818241073152 : UInt64)).toInt64)])) _
  refine XS.lstore hA11 hx rfl (hb hby d15_73) rfl (l' := #[.val (.double (4613937818241073152 : UInt64)), .second, .val (.double (9223372036854775808 : UInt64)), .second, .val (.double (4607182418800017408 : UInt64)), .second, .val (.double (4607182418800017408 : UInt64)), .second, .val (.int (1 : Int32)), .val (.long ((4613937818241073152 : UInt64)).toInt64), .second, .unset, .unset, .unset, .unset]) rfl ?_
  show Steps p.tables e below ((T.setVm vm11).setTop (mkF m 75 #[.val (.double (4613937818241073152 : UInt64)), .second, .val (.double (9223372036854775808 : UInt64)), .second, .val (.double (4607182418800017408 : UInt64)), .second, .val (.double (4607182418800017408 : UInt64)), .second, .val (.int (1 : Int32)), .val (.long ((4613937818241073152 : UInt64)).toInt64), .second, .unset, .unset, .unset, .unset] [])) _
  refine own_ldJ hA11 hW11 hx hown (mvT hZ (hw _ (List.mem_of_getElem? (i := 88) rfl))) (args := #[]) (g := (mkF m 75 #[.val (.double (4613937818241073152 : UInt64)), .second, .val (.double (9223372036854775808 : UInt64)), .second, .val (.double (4607182418800017408 : UInt64)), .second, .val (.double (4607182418800017408 : UInt64)), .second, .val (.int (1 : Int32)), .val (.long ((4613937818241073152 : UInt64)).toInt64), .second, .unset, .unset, .unset, .unset] [])) rfl (hb hby d15_75) ?_
  show Steps p.tables e below ((T.setVm vm11).setTop (mkF m 78 #[.val (.double (4613937818241073152 : UInt64)), .second, .val (.double (9223372036854775808 : UInt64)), .second, .val (.double (4607182418800017408 : UInt64)), .second, .val (.double (4607182418800017408 : UInt64)), .second, .val (.int (1 : Int32)), .val (.long ((4613937818241073152 : UInt64)).toInt64), .second, .unset, .unset, .unset, .unset] [(.long (4503599627370495 : Int64))])) _
  refine XS.iload hA11 hx rfl (hb hby d15_78) rfl ?_
  show Steps p.tables e below ((T.setVm vm11).setTop (mkF m 80 #[.val (.double (4613937818241073152 : UInt64)), .second, .val (.double (9223372036854775808 : UInt64)), .second, .val (.double (4607182418800017408 : UInt64)), .second, .val (.double (4607182418800017408 : UInt64)), .second, .val (.int (1 : Int32)), .val (.long ((4613937818241073152 : UInt64)).toInt64), .second, .unset, .unset, .unset, .unset] [(.int (1 : Int32)), (.long (4503599627370495 : Int64))])) _
  refine XS.lshr hA11 hx rfl (hb hby d15_80) rfl ?_
  show Steps p.tables e below ((T.setVm vm11).setTop (mkF m 81 #[.val (.double (4613937818241073152 : UInt64)), .second, .val (.double (9223372036854775808 : UInt64)), .second, .val (.double (4607182418800017408 : UInt64)), .second, .val (.double (4607182418800017408 : UInt64)), .second, .val (.int (1 : Int32)), .val (.long ((4613937818241073152 : UInt64)).toInt64), .second, .unset, .unset, .unset, .unset] [(.long ((4503599627370495 : Int64) >>> ((1 : Int32) &&& 0x3f).toInt64))])) _
  refine XS.lstore hA11 hx rfl (hb hby d15_81) rfl (l' := #[.val (.double (4613937818241073152 : UInt64)), .second, .val (.double (9223372036854775808 : UInt64)), .second, .val (.double (4607182418800017408 : UInt64)), .second, .val (.double (4607182418800017408 : UInt64)), .second, .val (.int (1 : Int32)), .val (.long ((4613937818241073152 : UInt64)).toInt64), .second, .val (.long ((4503599627370495 : Int64) >>> ((1 : Int32) &&& 0x3f).toInt64)), .second, .unset, .unset]) rfl ?_
  show Steps p.tables e below ((T.setVm vm11).setTop (mkF m 83 #[.val (.double (4613937818241073152 : UInt64)), .second, .val (.double (9223372036854775808 : UInt64)), .second, .val (.double (4607182418800017408 : UInt64)), .second, .val (.double (4607182418800017408 : UInt64)), .second, .val (.int (1 : Int32)), .val (.long ((4613937818241073152 : UInt64)).toInt64), .second, .val (.long ((4503599627370495 : Int64) >>> ((1 : Int32) &&& 0x3f).toInt64)), .second, .unset, .unset] [])) _
  refine XS.lload hA11 hx rfl (hb hby d15_83) rfl ?_
  show Steps p.tables e below ((T.setVm vm11).setTop (mkF m 85 #[.val (.double (4613937818241073152 : UInt64)), .second, .val (.double (9223372036854775808 : UInt64)), .second, .val (.double (4607182418800017408 : UInt64)), .second, .val (.double (4607182418800017408 : UInt64)), .second, .val (.int (1 : Int32)), .val (.long ((4613937818241073152 : UInt64)).toInt64), .second, .val (.long ((4503599627370495 : Int64) >>> ((1 : Int32) &&& 0x3f).toInt64)), .second, .unset, .unset] [(.long ((4503599627370495 : Int64) >>> ((1 : Int32) &&& 0x3f).toInt64))])) _
  refine XS.lload hA11 hx rfl (hb hby d15_85) rfl ?_
  show Steps p.tables e below ((T.setVm vm11).setTop (mkF m 87 #[.val (.double (4613937818241073152 : UInt64)), .second, .val (.double (9223372036854775808 : UInt64)), .second, .val (.double (4607182418800017408 : UInt64)), .second, .val (.double (4607182418800017408 : UInt64)), .second, .val (.int (1 : Int32)), .val (.long ((4613937818241073152 : UInt64)).toInt64), .second, .val (.long ((4503599627370495 : Int64) >>> ((1 : Int32) &&& 0x3f).toInt64)), .second, .unset, .unset] [(.long ((4613937818241073152 : UInt64)).toInt64), (.long ((4503599627370495 : Int64) >>> ((1 : Int32) &&& 0x3f).toInt64))])) _
  refine XS.land hA11 hx rfl (hb hby d15_87) rfl ?_
  show Steps p.tables e below ((T.setVm vm11).setTop (mkF m 88 #[.val (.double (4613937818241073152 : UInt64)), .second, .val (.double (9223372036854775808 : UInt64)), .second, .val (.double (4607182418800017408 : UInt64)), .second, .val (.double (4607182418800017408 : UInt64)), .second, .val (.int (1 : Int32)), .val (.long ((4613937818241073152 : UInt64)).toInt64), .second, .val (.long ((4503599627370495 : Int64) >>> ((1 : Int32) &&& 0x3f).toInt64)), .second, .unset, .unset] [(.long (((4503599627370495 : Int64) >>> ((1 : Int32) &&& 0x3f).toInt64) &&& ((4613937818241073152 : UInt64)).toInt64))])) _
  refine XS.lconst hA11 hx rfl (hb hby d15_88) ?_
  show Steps p.tables e below ((T.setVm vm11).setTop (mkF m 89 #[.val (.double (4613937818241073152 : UInt64)), .second, .val (.double (9223372036854775808 : UInt64)), .second, .val (.double (4607182418800017408 : UInt64)), .second, .val (.double (4607182418800017408 : UInt64)), .second, .val (.int (1 : Int32)), .val (.long ((4613937818241073152 : UInt64)).toInt64), .second, .val (.long ((4503599627370495 : Int64) >>> ((1 : Int32) &&& 0x3f).toInt64)), .second, .unset, .unset] [(.long (0 : Int64)), (.long (((4503599627370495 : Int64) >>> ((1 : Int32) &&& 0x3f).toInt64) &&& ((4613937818241073152 : UInt64)).toInt64))])) _
  refine XS.lcmp hA11 hx rfl (hb hby d15_89) rfl ?_
  show Steps p.tables e below ((T.setVm vm11).setTop (mkF m 90 #[.val (.double (4613937818241073152 : UInt64)), .second, .val (.double (9223372036854775808 : UInt64)), .second, .val (.double (4607182418800017408 : UInt64)), .second, .val (.double (4607182418800017408 : UInt64)), .second, .val (.int (1 : Int32)), .val (.long ((4613937818241073152 : UInt64)).toInt64), .second, .val (.long ((4503599627370495 : Int64) >>> ((1 : Int32) &&& 0x3f).toInt64)), .second, .unset, .unset] [(.int (lcmpW (((4503599627370495 : Int64) >>> ((1 : Int32) &&& 0x3f).toInt64) &&& ((4613937818241073152 : UInt64)).toInt64) (0 : Int64)))])) _
  refine XS.ifNo hA11 hx rfl (hb hby d15_90) rfl ((if0 _ _).trans (teq (by decide +kernel)).2) ?_
  show Steps p.tables e below ((T.setVm vm11).setTop (mkF m 93 #[.val (.double (4613937818241073152 : UInt64)), .second, .val (.double (9223372036854775808 : UInt64)), .second, .val (.double (4607182418800017408 : UInt64)), .second, .val (.double (4607182418800017408 : UInt64)), .second, .val (.int (1 : Int32)), .val (.long ((4613937818241073152 : UInt64)).toInt64), .second, .val (.long ((4503599627370495 : Int64) >>> ((1 : Int32) &&& 0x3f).toInt64)), .second, .unset, .unset] [])) _
  refine XS.dloadN hA11 hx rfl (hb hby d15_93) rfl ?_
  show Steps p.tables e below ((T.setVm vm11).setTop (mkF m 94 #[.val (.double (4613937818241073152 : UInt64)), .second, .val (.double (9223372036854775808 : UInt64)), .second, .val (.double (4607182418800017408 : UInt64)), .second, .val (.double (4607182418800017408 : UInt64)), .second, .val (.int (1 : Int32)), .val (.long ((4613937818241073152 : UInt64)).toInt64), .second, .val (.long ((4503599627370495 : Int64) >>> ((1 : Int32) &&& 0x3f).toInt64)), .second, .unset, .unset] [(.double (4613937818241073152 : UInt64))])) _
  exact own_rD hA11 hx (own_mt hW11 hm) hret (hb hby d15_94) hk
theorem d14_0 : decode jdk_128_method_16_code 0 = .ok (.dload_n 0, 1) := by decide +kernel
theorem d14_1 : decode jdk_128_method_16_code 1 = .ok (.ldc2_w 58, 3) := by decide +kernel
theorem d14_4 : decode jdk_128_method_16_code 4 = .ok (.dconst 1, 1) := by decide +kernel
theorem d14_5 : decode jdk_128_method_16_code 5 = .ok (.dconst 1, 1) := by decide +kernel
theorem d14_6 : decode jdk_128_method_16_code 6 = .ok (.invokestatic 60, 3) := by decide +kernel
theorem d14_9 : decode jdk_128_method_16_code 9 = .ok (.dreturn, 1) := by decide +kernel
theorem own_efs_ce1 (m : MethodId) : entryFrame m #[(.double (4606281698874543309 : UInt64))] 2 = (mkF m 0 #[.val (.double (4606281698874543309 : UInt64)), .second] []) := by first | (simp [entryFrame, mkF, argsToLocals, Value.category]; done) | rfl
set_option maxRecDepth 65536 in
set_option maxHeartbeats 40000000 in
theorem own_sub_ce1 {p : Program} {l : Launch} {e : Env} {below : List Frame} {s Z : State} {a0 : Array Value} {hp : Heap} (hw : ∀ d ∈ tables_1, d.before a0 Z = true) (hZ : Z.Warmed39 s.vm) (ha : l.admits e) (hx : p.tables.exec = Jvm.exec) (F : Sta Z hp "java/lang/StrictMath" "$assertionsDisabled" "Z" (.int (1 : Int32))) (m : MethodId) (meth : Method) (c : Code) (hn : s.methodNamed? (⟨"java/lang/StrictMath", "ceil", "(D)D"⟩ : MethodName) = some m) (hm : s.vm.method? m = some meth) (hc : meth.code = some c) (hby : c.code = jdk_128_method_16_code) (hml : c.maxLocals = 2) (hret : meth.sig.returnType = some .double) : own_Sub p.tables e below s m c #[(.double (4606281698874543309 : UInt64))] (.double (4607182418800017408 : UInt64)) 3 140 hp := by
  intro T hA hW hT hR
  have hown : s.vm.findClass "java/lang/StrictMath" = some m.cls := findClass_of_methodNamed hn
  rw [hml, own_efs_ce1 m]
  obtain ⟨vm12, hW12, st12⟩ := own_call (p := p) (e := e) (T := T) (args := #[]) hA hW ha hx (y := (⟨"java/lang/StrictMath", "floorOrCeil", "(DDDD)D"⟩ : MethodName)) hown (mvT hZ (hw _ (List.mem_of_getElem? (i := 70) rfl))) (mvT hZ (hw _ (List.mem_of_getElem? (i := 71) rfl))) (mvT hZ (hw _ (List.mem_of_getElem? (i := 67) rfl))) (mvT hZ (hw _ (List.mem_of_getElem? (i := 72) rfl))) (by decide) (plainFor_of_name (by first | (simp [plainName, overriddenIn]; done) | decide +kernel)) (argsL := [(.double (4606281698874543309 : UInt64)), (.double (9223372036854775808 : UInt64)), (.double (4607182418800017408 : UInt64)), (.double (4607182418800017408 : UInt64))]) (rest := []) (v := (.double (4607182418800017408 : UInt64))) (k' := 2) (w' := 100) (hp := hp) (fun mk meth cM a1 a2 a3 a4 a5 a6 => own_sub_fo1 hw hZ ha hx F mk meth cM a1 a2 a3 a4 a5 a6) hT hR (by decide) (g := (mkF m 6 #[.val (.double (4606281698874543309 : UInt64)), .second] [(.double (4607182418800017408 : UInt64)), (.double (4607182418800017408 : UInt64)), (.double (9223372036854775808 : UInt64)), (.double (4606281698874543309 : UInt64))])) rfl (lenOf own_pd1 rfl) rfl (hb hby d14_6) (by show 2 + 11 + 2 * 0 + 0 + (15 + 11) + 100 ≤ 140; decide)
  have hA12 : At (T.setVm vm12) m c below := own_at hA hW hW12
  refine ⟨vm12, hW12, fun target hk => ?_⟩
  show Steps p.tables e below (T.setTop (mkF m 0 #[.val (.double (4606281698874543309 : UInt64)), .second] [])) _
  refine XS.dloadN hA hx rfl (hb hby d14_0) rfl ?_
  show Steps p.tables e below (T.setTop (mkF m 1 #[.val (.double (4606281698874543309 : UInt64)), .second] [(.double (4606281698874543309 : UInt64))])) _
  refine own_ldD hA hW hx hown (mvT hZ (hw _ (List.mem_of_getElem? (i := 69) rfl))) (args := #[]) (g := (mkF m 1 #[.val (.double (4606281698874543309 : UInt64)), .second] [(.double (4606281698874543309 : UInt64))])) rfl (hb hby d14_1) ?_
  show Steps p.tables e below (T.setTop (mkF m 4 #[.val (.double (4606281698874543309 : UInt64)), .second] [(.double (9223372036854775808 : UInt64)), (.double (4606281698874543309 : UInt64))])) _
  refine XS.dconst1 hA hx rfl (v := 4607182418800017408) (hb hby d14_4) (by decide +kernel) ?_
  show Steps p.tables e below (T.setTop (mkF m 5 #[.val (.double (4606281698874543309 : UInt64)), .second] [(.double (4607182418800017408 : UInt64)), (.double (9223372036854775808 : UInt64)), (.double (4606281698874543309 : UInt64))])) _
  refine XS.dconst1 hA hx rfl (v := 4607182418800017408) (hb hby d14_5) (by decide +kernel) ?_
  show Steps p.tables e below (T.setTop (mkF m 6 #[.val (.double (4606281698874543309 : UInt64)), .second] [(.double (4607182418800017408 : UInt64)), (.double (4607182418800017408 : UInt64)), (.double (9223372036854775808 : UInt64)), (.double (4606281698874543309 : UInt64))])) _
  refine st12 _ ?_
  show Steps p.tables e below ((T.setVm vm12).setTop (mkF m 9 #[.val (.double (4606281698874543309 : UInt64)), .second] [(.double (4607182418800017408 : UInt64))])) _
  exact own_rD hA12 hx (own_mt hW12 hm) hret (hb hby d14_9) hk
theorem own_efs_ce2 (m : MethodId) : entryFrame m #[(.double (4610785298501913805 : UInt64))] 2 = (mkF m 0 #[.val (.double (4610785298501913805 : UInt64)), .second] []) := by first | (simp [entryFrame, mkF, argsToLocals, Value.category]; done) | rfl
set_option maxRecDepth 65536 in
set_option maxHeartbeats 40000000 in
theorem own_sub_ce2 {p : Program} {l : Launch} {e : Env} {below : List Frame} {s Z : State} {a0 : Array Value} {hp : Heap} (hw : ∀ d ∈ tables_1, d.before a0 Z = true) (hZ : Z.Warmed39 s.vm) (ha : l.admits e) (hx : p.tables.exec = Jvm.exec) (F : Sta Z hp "java/lang/StrictMath" "$assertionsDisabled" "Z" (.int (1 : Int32))) (m : MethodId) (meth : Method) (c : Code) (hn : s.methodNamed? (⟨"java/lang/StrictMath", "ceil", "(D)D"⟩ : MethodName) = some m) (hm : s.vm.method? m = some meth) (hc : meth.code = some c) (hby : c.code = jdk_128_method_16_code) (hml : c.maxLocals = 2) (hret : meth.sig.returnType = some .double) : own_Sub p.tables e below s m c #[(.double (4610785298501913805 : UInt64))] (.double (4611686018427387904 : UInt64)) 3 140 hp := by
  intro T hA hW hT hR
  have hown : s.vm.findClass "java/lang/StrictMath" = some m.cls := findClass_of_methodNamed hn
  rw [hml, own_efs_ce2 m]
  obtain ⟨vm13, hW13, st13⟩ := own_call (p := p) (e := e) (T := T) (args := #[]) hA hW ha hx (y := (⟨"java/lang/StrictMath", "floorOrCeil", "(DDDD)D"⟩ : MethodName)) hown (mvT hZ (hw _ (List.mem_of_getElem? (i := 70) rfl))) (mvT hZ (hw _ (List.mem_of_getElem? (i := 71) rfl))) (mvT hZ (hw _ (List.mem_of_getElem? (i := 67) rfl))) (mvT hZ (hw _ (List.mem_of_getElem? (i := 72) rfl))) (by decide) (plainFor_of_name (by first | (simp [plainName, overriddenIn]; done) | decide +kernel)) (argsL := [(.double (4610785298501913805 : UInt64)), (.double (9223372036854775808 : UInt64)), (.double (4607182418800017408 : UInt64)), (.double (4607182418800017408 : UInt64))]) (rest := []) (v := (.double (4611686018427387904 : UInt64))) (k' := 2) (w' := 100) (hp := hp) (fun mk meth cM a1 a2 a3 a4 a5 a6 => own_sub_fo2 hw hZ ha hx F mk meth cM a1 a2 a3 a4 a5 a6) hT hR (by decide) (g := (mkF m 6 #[.val (.double (4610785298501913805 : UInt64)), .second] [(.double (4607182418800017408 : UInt64)), (.double (4607182418800017408 : UInt64)), (.double (9223372036854775808 : UInt64)), (.double (4610785298501913805 : UInt64))])) rfl (lenOf own_pd1 rfl) rfl (hb hby d14_6) (by show 2 + 11 + 2 * 0 + 0 + (15 + 11) + 100 ≤ 140; decide)
  have hA13 : At (T.setVm vm13) m c below := own_at hA hW hW13
  refine ⟨vm13, hW13, fun target hk => ?_⟩
  show Steps p.tables e below (T.setTop (mkF m 0 #[.val (.double (4610785298501913805 : UInt64)), .second] [])) _
  refine XS.dloadN hA hx rfl (hb hby d14_0) rfl ?_
  show Steps p.tables e below (T.setTop (mkF m 1 #[.val (.double (4610785298501913805 : UInt64)), .second] [(.double (4610785298501913805 : UInt64))])) _
  refine own_ldD hA hW hx hown (mvT hZ (hw _ (List.mem_of_getElem? (i := 69) rfl))) (args := #[]) (g := (mkF m 1 #[.val (.double (4610785298501913805 : UInt64)), .second] [(.double (4610785298501913805 : UInt64))])) rfl (hb hby d14_1) ?_
  show Steps p.tables e below (T.setTop (mkF m 4 #[.val (.double (4610785298501913805 : UInt64)), .second] [(.double (9223372036854775808 : UInt64)), (.double (4610785298501913805 : UInt64))])) _
  refine XS.dconst1 hA hx rfl (v := 4607182418800017408) (hb hby d14_4) (by decide +kernel) ?_
  show Steps p.tables e below (T.setTop (mkF m 5 #[.val (.double (4610785298501913805 : UInt64)), .second] [(.double (4607182418800017408 : UInt64)), (.double (9223372036854775808 : UInt64)), (.double (4610785298501913805 : UInt64))])) _
  refine XS.dconst1 hA hx rfl (v := 4607182418800017408) (hb hby d14_5) (by decide +kernel) ?_
  show Steps p.tables e below (T.setTop (mkF m 6 #[.val (.double (4610785298501913805 : UInt64)), .second] [(.double (4607182418800017408 : UInt64)), (.double (4607182418800017408 : UInt64)), (.double (9223372036854775808 : UInt64)), (.double (4610785298501913805 : UInt64))])) _
  refine st13 _ ?_
  show Steps p.tables e below ((T.setVm vm13).setTop (mkF m 9 #[.val (.double (4610785298501913805 : UInt64)), .second] [(.double (4611686018427387904 : UInt64))])) _
  exact own_rD hA13 hx (own_mt hW13 hm) hret (hb hby d14_9) hk
theorem own_efs_ce3 (m : MethodId) : entryFrame m #[(.double (4613937818241073152 : UInt64))] 2 = (mkF m 0 #[.val (.double (4613937818241073152 : UInt64)), .second] []) := by first | (simp [entryFrame, mkF, argsToLocals, Value.category]; done) | rfl
set_option maxRecDepth 65536 in
set_option maxHeartbeats 40000000 in
theorem own_sub_ce3 {p : Program} {l : Launch} {e : Env} {below : List Frame} {s Z : State} {a0 : Array Value} {hp : Heap} (hw : ∀ d ∈ tables_1, d.before a0 Z = true) (hZ : Z.Warmed39 s.vm) (ha : l.admits e) (hx : p.tables.exec = Jvm.exec) (F : Sta Z hp "java/lang/StrictMath" "$assertionsDisabled" "Z" (.int (1 : Int32))) (m : MethodId) (meth : Method) (c : Code) (hn : s.methodNamed? (⟨"java/lang/StrictMath", "ceil", "(D)D"⟩ : MethodName) = some m) (hm : s.vm.method? m = some meth) (hc : meth.code = some c) (hby : c.code = jdk_128_method_16_code) (hml : c.maxLocals = 2) (hret : meth.sig.returnType = some .double) : own_Sub p.tables e below s m c #[(.double (4613937818241073152 : UInt64))] (.double (4613937818241073152 : UInt64)) 3 140 hp := by
  intro T hA hW hT hR
  have hown : s.vm.findClass "java/lang/StrictMath" = some m.cls := findClass_of_methodNamed hn
  rw [hml, own_efs_ce3 m]
  obtain ⟨vm14, hW14, st14⟩ := own_call (p := p) (e := e) (T := T) (args := #[]) hA hW ha hx (y := (⟨"java/lang/StrictMath", "floorOrCeil", "(DDDD)D"⟩ : MethodName)) hown (mvT hZ (hw _ (List.mem_of_getElem? (i := 70) rfl))) (mvT hZ (hw _ (List.mem_of_getElem? (i := 71) rfl))) (mvT hZ (hw _ (List.mem_of_getElem? (i := 67) rfl))) (mvT hZ (hw _ (List.mem_of_getElem? (i := 72) rfl))) (by decide) (plainFor_of_name (by first | (simp [plainName, overriddenIn]; done) | decide +kernel)) (argsL := [(.double (4613937818241073152 : UInt64)), (.double (9223372036854775808 : UInt64)), (.double (4607182418800017408 : UInt64)), (.double (4607182418800017408 : UInt64))]) (rest := []) (v := (.double (4613937818241073152 : UInt64))) (k' := 2) (w' := 100) (hp := hp) (fun mk meth cM a1 a2 a3 a4 a5 a6 => own_sub_fo3 hw hZ ha hx F mk meth cM a1 a2 a3 a4 a5 a6) hT hR (by decide) (g := (mkF m 6 #[.val (.double (4613937818241073152 : UInt64)), .second] [(.double (4607182418800017408 : UInt64)), (.double (4607182418800017408 : UInt64)), (.double (9223372036854775808 : UInt64)), (.double (4613937818241073152 : UInt64))])) rfl (lenOf own_pd1 rfl) rfl (hb hby d14_6) (by show 2 + 11 + 2 * 0 + 0 + (15 + 11) + 100 ≤ 140; decide)
  have hA14 : At (T.setVm vm14) m c below := own_at hA hW hW14
  refine ⟨vm14, hW14, fun target hk => ?_⟩
  show Steps p.tables e below (T.setTop (mkF m 0 #[.val (.double (4613937818241073152 : UInt64)), .second] [])) _
  refine XS.dloadN hA hx rfl (hb hby d14_0) rfl ?_
  show Steps p.tables e below (T.setTop (mkF m 1 #[.val (.double (4613937818241073152 : UInt64)), .second] [(.double (4613937818241073152 : UInt64))])) _
  refine own_ldD hA hW hx hown (mvT hZ (hw _ (List.mem_of_getElem? (i := 69) rfl))) (args := #[]) (g := (mkF m 1 #[.val (.double (4613937818241073152 : UInt64)), .second] [(.double (4613937818241073152 : UInt64))])) rfl (hb hby d14_1) ?_
  show Steps p.tables e below (T.setTop (mkF m 4 #[.val (.double (4613937818241073152 : UInt64)), .second] [(.double (9223372036854775808 : UInt64)), (.double (4613937818241073152 : UInt64))])) _
  refine XS.dconst1 hA hx rfl (v := 4607182418800017408) (hb hby d14_4) (by decide +kernel) ?_
  show Steps p.tables e below (T.setTop (mkF m 5 #[.val (.double (4613937818241073152 : UInt64)), .second] [(.double (4607182418800017408 : UInt64)), (.double (9223372036854775808 : UInt64)), (.double (4613937818241073152 : UInt64))])) _
  refine XS.dconst1 hA hx rfl (v := 4607182418800017408) (hb hby d14_5) (by decide +kernel) ?_
  show Steps p.tables e below (T.setTop (mkF m 6 #[.val (.double (4613937818241073152 : UInt64)), .second] [(.double (4607182418800017408 : UInt64)), (.double (4607182418800017408 : UInt64)), (.double (9223372036854775808 : UInt64)), (.double (4613937818241073152 : UInt64))])) _
  refine st14 _ ?_
  show Steps p.tables e below ((T.setVm vm14).setTop (mkF m 9 #[.val (.double (4613937818241073152 : UInt64)), .second] [(.double (4613937818241073152 : UInt64))])) _
  exact own_rD hA14 hx (own_mt hW14 hm) hret (hb hby d14_9) hk
theorem own_dec {n D : Int32} {k lo : Int} (h1 : lo + k ≤ n.toInt) (h2 : n.toInt ≤ 31) (hk : 0 ≤ k) (h0 : 0 ≤ lo) (hD : D.toInt = -k) : lo ≤ (n + D).toInt := by
  have e := c_iadd n D
  have r := rng32 (n + D)
  omega
theorem own_ix {r : Int32} {n : Nat} (h : r.toInt = n) : r.toNatClampNeg = n := by
  show r.toInt.toNat = n
  rw [h]; rfl
theorem own_ofI {n : Nat} (h : n < 7297) : (Int32.ofNat n).toInt = n := Int32.toInt_ofNat_of_lt (by omega)
theorem own_ofJ {n : Nat} (h : n ≤ 3) : (Int64.ofNat n).toInt = n := Int64.toInt_ofNat_of_lt (by omega)
theorem own_inb {r : Int32} {n : Nat} {cell : Cell} (h : r.toInt = n) (hn : n < 7296) (hs : cell.slots.size = 7296) : ¬ (r < 0 ∨ cell.slots.size ≤ r.toNatClampNeg) := by
  rw [own_ix h, hs, Int32.lt_iff_toInt_lt, h]
  have e0 : (0 : Int32).toInt = 0 := rfl
  omega
def own_C (Z : State) (h : Heap) (c : Addr) (f : Nat → Nat) : Prop := ∃ cell : Cell, Arr Z h c cell .long ∧ cell.slots.size = 7296 ∧ ∀ i, i < 7296 → cell.slots[i]? = some (.long (Int64.ofNat (f i)))
def own_H (Z : State) (h : Heap) (a c : Addr) (f : Nat → Nat) (t : Int64) : Prop := Exa Z h a "com/example/resplice/resplice/LatencyHistogram" ∧ Fld Z h a "com/example/resplice/resplice/LatencyHistogram" "counts" "[J" (.ref c) ∧ Fld Z h a "com/example/resplice/resplice/LatencyHistogram" "total" "J" (.long t) ∧ a ≠ c ∧ own_C Z h c f
theorem own_Cset {Z : State} {h h' : Heap} {c : Addr} {f : Nat → Nat} {cell : Cell} {r : Int32} {n : Nat} (A : Arr Z h c cell .long) (S : cell.slots.size = 7296) (G : ∀ i, i < 7296 → cell.slots[i]? = some (.long (Int64.ofNat (f i)))) (hr : r.toInt = n) (hn : n < 7296) (W : Wr h h' c r.toNatClampNeg (.long (Int64.ofNat (f n) + (1 : Int64)))) : own_C Z h' c (own_up1 f n) := by
  refine ⟨_, Arr.same W A, by rw [sz_set]; exact S, fun i hi => ?_⟩
  rw [own_ix hr]
  unfold own_up1
  by_cases q : n = i
  · subst q
    rw [if_pos rfl, show Int64.ofNat (f n + 1) = Int64.ofNat (f n) + (1 : Int64) from Int64.ofNat_add _ _]
    simp [Cell.setSlot, S, hi]
  · rw [if_neg (Ne.symm q)]
    simp only [Cell.setSlot]
    rw [Array.getElem?_setIfInBounds_ne q]; exact G i hi
theorem own_C0 {Z : State} {h : Heap} {c : Addr} {k : ClassId} {z : Int32} (V : Arv Z h c k .long z [] (.long (0 : Int64))) (hz : z.toInt = 7296) : own_C Z h c (fun _ => 0) := by
  obtain ⟨cell, A, -, S, -, H, -⟩ := V
  have e := own_ix (n := 7296) hz
  rw [e] at S
  exact ⟨cell, A, S, fun i hi => by rw [H i (by rw [S]; exact hi)]; rfl⟩
theorem own_minI (a b : Int64) : (if b < a then b else a).toInt = min a.toInt b.toInt := by
  by_cases h : b < a
  · rw [if_pos h]; rw [Int64.lt_iff_toInt_lt] at h; omega
  · rw [if_neg h]; rw [Int64.lt_iff_toInt_lt] at h; omega
theorem own_maxI (a b : Int64) : (if a < b then b else a).toInt = max a.toInt b.toInt := by
  by_cases h : a < b
  · rw [if_pos h]; rw [Int64.lt_iff_toInt_lt] at h; omega
  · rw [if_neg h]; rw [Int64.lt_iff_toInt_lt] at h; omega
theorem own_S3le (a b c i : Nat) : own_S (own_f3 a b c) i ≤ 3 := by
  rw [own_S3]; (repeat' split) <;> omega
theorem d1_0 : decode method_2_code 0 = .ok (.lload_n 0, 1) := by decide +kernel
theorem d1_1 : decode method_2_code 1 = .ok (.ldc2_w 9, 3) := by decide +kernel
theorem d1_4 : decode method_2_code 4 = .ok (.land, 1) := by decide +kernel
theorem d1_5 : decode method_2_code 5 = .ok (.iload_n 2, 1) := by decide +kernel
theorem d1_6 : decode method_2_code 6 = .ok (.bipush 63, 2) := by decide +kernel
theorem d1_8 : decode method_2_code 8 = .ok (.iand, 1) := by decide +kernel
theorem d1_9 : decode method_2_code 9 = .ok (.lushr, 1) := by decide +kernel
theorem d1_10 : decode method_2_code 10 = .ok (.lreturn, 1) := by decide +kernel
def QV (h0 : Heap) (n0 : Nat) (v : Option Value) (h : Heap) (L : List Loc) : Prop := ∃ r : Int64, v = some (.long r) ∧ 0 ≤ r.toInt ∧ Fr n0 L ∧ h = h0
theorem own_valp (x : Int64) (q : Int32) : 0 ≤ (((x &&& (9223372036854775807 : Int64)).toUInt64 >>> (q &&& 0x3f).toInt64.toUInt64).toInt64).toInt := by
  have h := (c_andSL x (9223372036854775807 : Int64)).2.2 (by decide)
  rw [own_ushr _ q _ rfl h]
  exact Int.ediv_nonneg h (by have := Nat.two_pow_pos (q.toBitVec.toNat % 64); omega)
theorem own_pn_rmV : plainName "com/example/resplice/resplice/LatencyHistogramRecordPinLaw" = true := by first | (simp [plainName, overriddenIn]; done) | decide +kernel
theorem own_ef_rmV (m : MethodId) (p0 : Int64) (p1 : Int32) : entryFrame m #[(.long p0), (.int p1)] 3 = (mkF m 0 #[.val (.long p0), .second, .val (.int p1)] []) := by first | (simp [entryFrame, mkF, argsToLocals, Value.category]; done) | rfl
set_option maxRecDepth 65536 in
set_option maxHeartbeats 40000000 in
theorem rmV (l : Launch) (Z : State) (a0 : Array Value) (hw : ∀ d ∈ tables_1, d.before a0 Z = true) (ws : List Jvm.Cond) (p0 : Int64) (p1 : Int32) (h0 : Heap) (n0 : Nat) (Z0 : n0 ≤ h0.size) :
    MetFree l (⟨"com/example/resplice/resplice/LatencyHistogramRecordPinLaw", "val", "(JI)J"⟩ : MethodName) (head1 (Jvm.Cond.code (⟨"com/example/resplice/resplice/LatencyHistogramRecordPinLaw", "val", "(JI)J"⟩ : MethodName) method_2_code 3 (some .long) :: ws) ({ frames := 0, cells := 0, slots := 0, locals := 0 } : Room)) (fun a U => a = #[(.long p0), (.int p1)] ∧ Z.Warmed39 U.vm ∧ U.heap = h0) (fun _ _ _ _ _ => True) (fun _ U o U' => ∃ v L, o = .returned v ∧ QV h0 n0 v U'.heap L ∧ FrameEnd U o U' L ({ frames := 0, cells := 0, slots := 0, locals := 0 } : Room).cells ({ frames := 0, cells := 0, slots := 0, locals := 0 } : Room).slots) := by
  refine MetFree.of_bodySF (plainFor_of_name own_pn_rmV) hisR ?_
  intro p e s m args below meth c s₁ Bd hml0 hP hK
  obtain ⟨hargs, hZ, hh⟩ := hP
  have hx := Bd.exec
  have hby := Bd.bytes
  have hml : c.maxLocals = 3 := hml0
  have hown : s.vm.findClass "com/example/resplice/resplice/LatencyHistogramRecordPinLaw" = some m.cls := findClass_of_methodNamed Bd.named
  have hnm := (name_of_methodNamed Bd.named Bd.method).1
  have hlock : meth.locks = false := Bd.notSynchronized
  have hret0 := Bd.returns
  have X0 : Stand p l e ({ frames := 0, cells := 0, slots := 0, locals := 0 } : Room) s m args below meth c s₁ [] 0 0 := Stand.of_body Bd
  have e0 : s₁.heap = h0 := by rw [← hh, Bd.state]; rfl
  have N0 := Fr.nil n0
  have pre0 : ∀ t, Steps p.tables e below (s₁.setTop (mkF m 0 #[.val (.long p0), .second, .val (.int p1)] [])) t → Steps p.tables e below (s₁.setTop (entryFrame m args 3)) t := fun t k => castTop (by rw [hargs]; exact own_ef_rmV m p0 p1) k
  clear Bd
  obtain ⟨fs, hr, hrun, hended, hW, hsame⟩ := X0.leave (v := some (.long (((p0 &&& (9223372036854775807 : Int64)).toUInt64 >>> ((p1 &&& (63 : Int32)) &&& 0x3f).toInt64.toUInt64).toInt64))) (fun h => by rw [hret0] at h; cases h)
  refine ⟨_, _, pre0 _ ?_, hrun, hended, _, _, rfl, ?_, ⟨_, rfl⟩, hW, hsame.mono (by decide) (by decide)⟩
  · show Steps p.tables e below (s₁.setTop (mkF m 0 #[.val (.long p0), .second, .val (.int p1)] [])) _
    refine XS.lloadN X0.here hx rfl (hb hby d1_0) rfl ?_
    show Steps p.tables e below (s₁.setTop (mkF m 1 #[.val (.long p0), .second, .val (.int p1)] [(.long p0)])) _
    refine X0.ldc2Long hx hown (mvT hZ (hw _ (List.mem_of_getElem? (i := 4) rfl))) (g := (mkF m 1 #[.val (.long p0), .second, .val (.int p1)] [(.long p0)])) rfl (hb hby d1_1) _ ?_
    show Steps p.tables e below (s₁.setTop (mkF m 4 #[.val (.long p0), .second, .val (.int p1)] [(.long (9223372036854775807 : Int64)), (.long p0)])) _
    refine XS.land X0.here hx rfl (hb hby d1_4) rfl ?_
    show Steps p.tables e below (s₁.setTop (mkF m 5 #[.val (.long p0), .second, .val (.int p1)] [(.long (p0 &&& (9223372036854775807 : Int64)))])) _
    refine XS.iloadN X0.here hx rfl (hb hby d1_5) rfl ?_
    show Steps p.tables e below (s₁.setTop (mkF m 6 #[.val (.long p0), .second, .val (.int p1)] [(.int p1), (.long (p0 &&& (9223372036854775807 : Int64)))])) _
    refine XS.bipush X0.here hx rfl (hb hby d1_6) ?_
    show Steps p.tables e below (s₁.setTop (mkF m 8 #[.val (.long p0), .second, .val (.int p1)] [(.int (63 : Int32)), (.int p1), (.long (p0 &&& (9223372036854775807 : Int64)))])) _
    refine XS.iand X0.here hx rfl (hb hby d1_8) rfl ?_
    show Steps p.tables e below (s₁.setTop (mkF m 9 #[.val (.long p0), .second, .val (.int p1)] [(.int (p1 &&& (63 : Int32))), (.long (p0 &&& (9223372036854775807 : Int64)))])) _
    refine XS.lushr X0.here hx rfl (hb hby d1_9) rfl ?_
    show Steps p.tables e below (s₁.setTop (mkF m 10 #[.val (.long p0), .second, .val (.int p1)] [(.long (((p0 &&& (9223372036854775807 : Int64)).toUInt64 >>> ((p1 &&& (63 : Int32)) &&& 0x3f).toInt64.toUInt64).toInt64))])) _
    exact retJ X0 hx hret0 (hb hby d1_10) hr
  · show QV h0 n0 _ s₁.heap _
    rw [e0]
    exact ⟨_, rfl, own_valp _ _, N0, rfl⟩
theorem d6_0 : decode jdk_33_method_47_code 0 = .ok (.iload_n 0, 1) := by decide +kernel
theorem d6_1 : decode jdk_33_method_47_code 1 = .ok (.ifCond .gt 14, 3) := by decide +kernel
theorem d6_4 : decode jdk_33_method_47_code 4 = .ok (.iload_n 0, 1) := by decide +kernel
theorem d6_5 : decode jdk_33_method_47_code 5 = .ok (.ifCond .ne 8, 3) := by decide +kernel
theorem d6_13 : decode jdk_33_method_47_code 13 = .ok (.iconst 0, 1) := by decide +kernel
theorem d6_14 : decode jdk_33_method_47_code 14 = .ok (.ireturn, 1) := by decide +kernel
theorem d6_15 : decode jdk_33_method_47_code 15 = .ok (.bipush 31, 2) := by decide +kernel
theorem d6_17 : decode jdk_33_method_47_code 17 = .ok (.istore_n 1, 1) := by decide +kernel
theorem d6_18 : decode jdk_33_method_47_code 18 = .ok (.iload_n 0, 1) := by decide +kernel
theorem d6_19 : decode jdk_33_method_47_code 19 = .ok (.ldc_w 264, 3) := by decide +kernel
theorem d6_22 : decode jdk_33_method_47_code 22 = .ok (.if_icmp .lt 11, 3) := by decide +kernel
theorem d6_25 : decode jdk_33_method_47_code 25 = .ok (.iinc 1 (-16), 3) := by decide +kernel
theorem d6_28 : decode jdk_33_method_47_code 28 = .ok (.iload_n 0, 1) := by decide +kernel
theorem d6_29 : decode jdk_33_method_47_code 29 = .ok (.bipush 16, 2) := by decide +kernel
theorem d6_31 : decode jdk_33_method_47_code 31 = .ok (.iushr, 1) := by decide +kernel
theorem d6_32 : decode jdk_33_method_47_code 32 = .ok (.istore_n 0, 1) := by decide +kernel
theorem d6_33 : decode jdk_33_method_47_code 33 = .ok (.iload_n 0, 1) := by decide +kernel
theorem d6_34 : decode jdk_33_method_47_code 34 = .ok (.sipush 256, 3) := by decide +kernel
theorem d6_37 : decode jdk_33_method_47_code 37 = .ok (.if_icmp .lt 11, 3) := by decide +kernel
theorem d6_40 : decode jdk_33_method_47_code 40 = .ok (.iinc 1 (-8), 3) := by decide +kernel
theorem d6_43 : decode jdk_33_method_47_code 43 = .ok (.iload_n 0, 1) := by decide +kernel
theorem d6_44 : decode jdk_33_method_47_code 44 = .ok (.bipush 8, 2) := by decide +kernel
theorem d6_46 : decode jdk_33_method_47_code 46 = .ok (.iushr, 1) := by decide +kernel
theorem d6_47 : decode jdk_33_method_47_code 47 = .ok (.istore_n 0, 1) := by decide +kernel
theorem d6_48 : decode jdk_33_method_47_code 48 = .ok (.iload_n 0, 1) := by decide +kernel
theorem d6_49 : decode jdk_33_method_47_code 49 = .ok (.bipush 16, 2) := by decide +kernel
theorem d6_51 : decode jdk_33_method_47_code 51 = .ok (.if_icmp .lt 10, 3) := by decide +kernel
theorem d6_54 : decode jdk_33_method_47_code 54 = .ok (.iinc 1 (-4), 3) := by decide +kernel
theorem d6_57 : decode jdk_33_method_47_code 57 = .ok (.iload_n 0, 1) := by decide +kernel
theorem d6_58 : decode jdk_33_method_47_code 58 = .ok (.iconst 4, 1) := by decide +kernel
theorem d6_59 : decode jdk_33_method_47_code 59 = .ok (.iushr, 1) := by decide +kernel
theorem d6_60 : decode jdk_33_method_47_code 60 = .ok (.istore_n 0, 1) := by decide +kernel
theorem d6_61 : decode jdk_33_method_47_code 61 = .ok (.iload_n 0, 1) := by decide +kernel
theorem d6_62 : decode jdk_33_method_47_code 62 = .ok (.iconst 4, 1) := by decide +kernel
theorem d6_63 : decode jdk_33_method_47_code 63 = .ok (.if_icmp .lt 10, 3) := by decide +kernel
theorem d6_66 : decode jdk_33_method_47_code 66 = .ok (.iinc 1 (-2), 3) := by decide +kernel
theorem d6_69 : decode jdk_33_method_47_code 69 = .ok (.iload_n 0, 1) := by decide +kernel
theorem d6_70 : decode jdk_33_method_47_code 70 = .ok (.iconst 2, 1) := by decide +kernel
theorem d6_71 : decode jdk_33_method_47_code 71 = .ok (.iushr, 1) := by decide +kernel
theorem d6_72 : decode jdk_33_method_47_code 72 = .ok (.istore_n 0, 1) := by decide +kernel
theorem d6_73 : decode jdk_33_method_47_code 73 = .ok (.iload_n 1, 1) := by decide +kernel
theorem d6_74 : decode jdk_33_method_47_code 74 = .ok (.iload_n 0, 1) := by decide +kernel
theorem d6_75 : decode jdk_33_method_47_code 75 = .ok (.iconst 1, 1) := by decide +kernel
theorem d6_76 : decode jdk_33_method_47_code 76 = .ok (.iushr, 1) := by decide +kernel
theorem d6_77 : decode jdk_33_method_47_code 77 = .ok (.isub, 1) := by decide +kernel
theorem d6_78 : decode jdk_33_method_47_code 78 = .ok (.ireturn, 1) := by decide +kernel
def QN (p0 : Int32) (h0 : Heap) (n0 : Nat) (v : Option Value) (h : Heap) (L : List Loc) : Prop := ∃ r : Int32, v = some (.int r) ∧ r.toInt = 31 - (Nat.log2 (p0.toInt % 4294967296).toNat : Int) ∧ Fr n0 L ∧ h = h0
theorem own_pn_rmN : plainName "java/lang/Integer" = true := by first | (simp [plainName, overriddenIn]; done) | decide +kernel
theorem own_ef_rmN (m : MethodId) (p0 : Int32) : entryFrame m #[(.int p0)] 2 = (mkF m 0 #[.val (.int p0), .unset] []) := by first | (simp [entryFrame, mkF, argsToLocals, Value.category]; done) | rfl
set_option maxRecDepth 65536 in
set_option maxHeartbeats 40000000 in
theorem rmN (l : Launch) (Z : State) (a0 : Array Value) (hw : ∀ d ∈ tables_1, d.before a0 Z = true) (ws : List Jvm.Cond) (p0 : Int32) (h0 : Heap) (n0 : Nat) (Z0 : n0 ≤ h0.size) (hne : ¬ p0 = (0 : Int32)) :
    MetFree l (⟨"java/lang/Integer", "numberOfLeadingZeros", "(I)I"⟩ : MethodName) (head1 (Jvm.Cond.code (⟨"java/lang/Integer", "numberOfLeadingZeros", "(I)I"⟩ : MethodName) jdk_33_method_47_code 2 (some .int) :: ws) ({ frames := 0, cells := 0, slots := 0, locals := 0 } : Room)) (fun a U => a = #[(.int p0)] ∧ Z.Warmed39 U.vm ∧ U.heap = h0) (fun _ _ _ _ _ => True) (fun _ U o U' => ∃ v L, o = .returned v ∧ QN p0 h0 n0 v U'.heap L ∧ FrameEnd U o U' L ({ frames := 0, cells := 0, slots := 0, locals := 0 } : Room).cells ({ frames := 0, cells := 0, slots := 0, locals := 0 } : Room).slots) := by
  refine MetFree.of_bodySF (plainFor_of_name own_pn_rmN) hisR ?_
  intro p e s m args below meth c s₁ Bd hml0 hP hK
  obtain ⟨hargs, hZ, hh⟩ := hP
  have hx := Bd.exec
  have hby := Bd.bytes
  have hml : c.maxLocals = 2 := hml0
  have hown : s.vm.findClass "java/lang/Integer" = some m.cls := findClass_of_methodNamed Bd.named
  have hnm := (name_of_methodNamed Bd.named Bd.method).1
  have hlock : meth.locks = false := Bd.notSynchronized
  have hret0 := Bd.returns
  have X0 : Stand p l e ({ frames := 0, cells := 0, slots := 0, locals := 0 } : Room) s m args below meth c s₁ [] 0 0 := Stand.of_body Bd
  have e0 : s₁.heap = h0 := by rw [← hh, Bd.state]; rfl
  have N0 := Fr.nil n0
  have pre0 : ∀ t, Steps p.tables e below (s₁.setTop (mkF m 0 #[.val (.int p0), .unset] [])) t → Steps p.tables e below (s₁.setTop (entryFrame m args 2)) t := fun t k => castTop (by rw [hargs]; exact own_ef_rmN m p0) k
  clear Bd
  have z0 : (0 : Int32).toInt = 0 := rfl
  have rr := rng32 p0
  by_cases hc : (0 : Int32) < p0
  · skip
    have hu : (p0.toInt % 4294967296).toNat = p0.toInt.toNat := by rw [Int32.lt_iff_toInt_lt] at hc; omega
    obtain ⟨u, hu0⟩ : ∃ u, u = (p0.toInt % 4294967296).toNat := ⟨_, rfl⟩
    have q0 : own_nz u p0 (31 : Int32) 2147483648 := by
      rw [Int32.lt_iff_toInt_lt] at hc
      have e31 : (31 : Int32).toInt = 31 := rfl
      refine ⟨by omega, by omega, ?_, by omega, by omega⟩
      rw [hu0, hu, e31]
    obtain ⟨ii0, nn0, q1, st15⟩ : ∃ (ii0 : Int32) (nn0 : Int32), (own_nz u ii0 nn0 65536 ∧ 15 ≤ nn0.toInt) ∧ ∀ target, Steps p.tables e below (s₁.setTop (mkF m 33 #[.val (.int ii0), .val (.int nn0)] [])) target → Steps p.tables e below (s₁.setTop (mkF m 18 #[.val (.int p0), .val (.int (31 : Int32))] [])) target := by
      by_cases hd : p0 < (65536 : Int32)
      · skip
        refine ⟨p0, (31 : Int32), ⟨own_nzN q0 (Int32.lt_iff_toInt_lt.mp hd), (by have e31 : (31 : Int32).toInt = 31 := rfl; omega)⟩, fun target hk => ?_⟩
        show Steps p.tables e below (s₁.setTop (mkF m 18 #[.val (.int p0), .val (.int (31 : Int32))] [])) _
        refine XS.iloadN X0.here hx rfl (hb hby d6_18) rfl ?_
        show Steps p.tables e below (s₁.setTop (mkF m 19 #[.val (.int p0), .val (.int (31 : Int32))] [(.int p0)])) _
        refine X0.ldcwInt hx hown (mvT hZ (hw _ (List.mem_of_getElem? (i := 27) rfl))) (g := (mkF m 19 #[.val (.int p0), .val (.int (31 : Int32))] [(.int p0)])) rfl (hb hby d6_19) _ ?_
        show Steps p.tables e below (s₁.setTop (mkF m 22 #[.val (.int p0), .val (.int (31 : Int32))] [(.int (65536 : Int32)), (.int p0)])) _
        refine XS.icmpYes X0.here hx rfl (pc0 := 22) (pc' := 33) rfl (hb hby d6_22) rfl (tlt hd).1 (by decide) (by decide) ?_
        exact hk
      · skip
        refine ⟨((p0.toUInt32 >>> ((16 : Int32) &&& 31).toUInt32).toInt32), ((31 : Int32) + (-16 : Int32)), ⟨own_nzS q0 16 (16 : Int32) (-16 : Int32) (by decide) (by decide) (by decide) rfl (by decide) (by have := mt Int32.lt_iff_toInt_lt.mpr hd; have e : (65536 : Int32).toInt = 65536 := rfl; omega) (by have e31 : (31 : Int32).toInt = 31 := rfl; omega), own_dec (k := 16) (lo := 15) (by decide) (by decide) (by decide) (by decide) rfl⟩, fun target hk => ?_⟩
        show Steps p.tables e below (s₁.setTop (mkF m 18 #[.val (.int p0), .val (.int (31 : Int32))] [])) _
        refine XS.iloadN X0.here hx rfl (hb hby d6_18) rfl ?_
        show Steps p.tables e below (s₁.setTop (mkF m 19 #[.val (.int p0), .val (.int (31 : Int32))] [(.int p0)])) _
        refine X0.ldcwInt hx hown (mvT hZ (hw _ (List.mem_of_getElem? (i := 27) rfl))) (g := (mkF m 19 #[.val (.int p0), .val (.int (31 : Int32))] [(.int p0)])) rfl (hb hby d6_19) _ ?_
        show Steps p.tables e below (s₁.setTop (mkF m 22 #[.val (.int p0), .val (.int (31 : Int32))] [(.int (65536 : Int32)), (.int p0)])) _
        refine XS.icmpNo X0.here hx rfl (hb hby d6_22) rfl (flt hd).1 ?_
        show Steps p.tables e below (s₁.setTop (mkF m 25 #[.val (.int p0), .val (.int (31 : Int32))] [])) _
        refine XS.iinc X0.here hx rfl (hb hby d6_25) rfl (l' := #[.val (.int p0), .val (.int ((31 : Int32) + (-16 : Int32)))]) rfl ?_
        show Steps p.tables e below (s₁.setTop (mkF m 28 #[.val (.int p0), .val (.int ((31 : Int32) + (-16 : Int32)))] [])) _
        refine XS.iloadN X0.here hx rfl (hb hby d6_28) rfl ?_
        show Steps p.tables e below (s₁.setTop (mkF m 29 #[.val (.int p0), .val (.int ((31 : Int32) + (-16 : Int32)))] [(.int p0)])) _
        refine XS.bipush X0.here hx rfl (hb hby d6_29) ?_
        show Steps p.tables e below (s₁.setTop (mkF m 31 #[.val (.int p0), .val (.int ((31 : Int32) + (-16 : Int32)))] [(.int (16 : Int32)), (.int p0)])) _
        refine XS.iushr X0.here hx rfl (hb hby d6_31) rfl ?_
        show Steps p.tables e below (s₁.setTop (mkF m 32 #[.val (.int p0), .val (.int ((31 : Int32) + (-16 : Int32)))] [(.int ((p0.toUInt32 >>> ((16 : Int32) &&& 31).toUInt32).toInt32))])) _
        refine XS.istoreN X0.here hx rfl (hb hby d6_32) rfl (l' := #[.val (.int ((p0.toUInt32 >>> ((16 : Int32) &&& 31).toUInt32).toInt32)), .val (.int ((31 : Int32) + (-16 : Int32)))]) rfl ?_
        exact hk
    obtain ⟨ii1, nn1, q2, st16⟩ : ∃ (ii1 : Int32) (nn1 : Int32), (own_nz u ii1 nn1 256 ∧ 7 ≤ nn1.toInt) ∧ ∀ target, Steps p.tables e below (s₁.setTop (mkF m 48 #[.val (.int ii1), .val (.int nn1)] [])) target → Steps p.tables e below (s₁.setTop (mkF m 33 #[.val (.int ii0), .val (.int nn0)] [])) target := by
      by_cases hd : ii0 < (256 : Int32)
      · skip
        refine ⟨ii0, nn0, ⟨own_nzN q1.1 (Int32.lt_iff_toInt_lt.mp hd), (by have := q1.2; omega)⟩, fun target hk => ?_⟩
        show Steps p.tables e below (s₁.setTop (mkF m 33 #[.val (.int ii0), .val (.int nn0)] [])) _
        refine XS.iloadN X0.here hx rfl (hb hby d6_33) rfl ?_
        show Steps p.tables e below (s₁.setTop (mkF m 34 #[.val (.int ii0), .val (.int nn0)] [(.int ii0)])) _
        refine XS.sipush X0.here hx rfl (hb hby d6_34) ?_
        show Steps p.tables e below (s₁.setTop (mkF m 37 #[.val (.int ii0), .val (.int nn0)] [(.int (256 : Int32)), (.int ii0)])) _
        refine XS.icmpYes X0.here hx rfl (pc0 := 37) (pc' := 48) rfl (hb hby d6_37) rfl (tlt hd).1 (by decide) (by decide) ?_
        exact hk
      · skip
        refine ⟨((ii0.toUInt32 >>> ((8 : Int32) &&& 31).toUInt32).toInt32), (nn0 + (-8 : Int32)), ⟨own_nzS q1.1 8 (8 : Int32) (-8 : Int32) (by decide) (by decide) (by decide) rfl (by decide) (by have := mt Int32.lt_iff_toInt_lt.mpr hd; have e : (256 : Int32).toInt = 256 := rfl; omega) (by have := q1.2; omega), own_dec (k := 8) (lo := 7) (show (7 : Int) + 8 ≤ _ from q1.2) q1.1.2.2.2.2 (by decide) (by decide) rfl⟩, fun target hk => ?_⟩
        show Steps p.tables e below (s₁.setTop (mkF m 33 #[.val (.int ii0), .val (.int nn0)] [])) _
        refine XS.iloadN X0.here hx rfl (hb hby d6_33) rfl ?_
        show Steps p.tables e below (s₁.setTop (mkF m 34 #[.val (.int ii0), .val (.int nn0)] [(.int ii0)])) _
        refine XS.sipush X0.here hx rfl (hb hby d6_34) ?_
        show Steps p.tables e below (s₁.setTop (mkF m 37 #[.val (.int ii0), .val (.int nn0)] [(.int (256 : Int32)), (.int ii0)])) _
        refine XS.icmpNo X0.here hx rfl (hb hby d6_37) rfl (flt hd).1 ?_
        show Steps p.tables e below (s₁.setTop (mkF m 40 #[.val (.int ii0), .val (.int nn0)] [])) _
        refine XS.iinc X0.here hx rfl (hb hby d6_40) rfl (l' := #[.val (.int ii0), .val (.int (nn0 + (-8 : Int32)))]) rfl ?_
        show Steps p.tables e below (s₁.setTop (mkF m 43 #[.val (.int ii0), .val (.int (nn0 + (-8 : Int32)))] [])) _
        refine XS.iloadN X0.here hx rfl (hb hby d6_43) rfl ?_
        show Steps p.tables e below (s₁.setTop (mkF m 44 #[.val (.int ii0), .val (.int (nn0 + (-8 : Int32)))] [(.int ii0)])) _
        refine XS.bipush X0.here hx rfl (hb hby d6_44) ?_
        show Steps p.tables e below (s₁.setTop (mkF m 46 #[.val (.int ii0), .val (.int (nn0 + (-8 : Int32)))] [(.int (8 : Int32)), (.int ii0)])) _
        refine XS.iushr X0.here hx rfl (hb hby d6_46) rfl ?_
        show Steps p.tables e below (s₁.setTop (mkF m 47 #[.val (.int ii0), .val (.int (nn0 + (-8 : Int32)))] [(.int ((ii0.toUInt32 >>> ((8 : Int32) &&& 31).toUInt32).toInt32))])) _
        refine XS.istoreN X0.here hx rfl (hb hby d6_47) rfl (l' := #[.val (.int ((ii0.toUInt32 >>> ((8 : Int32) &&& 31).toUInt32).toInt32)), .val (.int (nn0 + (-8 : Int32)))]) rfl ?_
        exact hk
    obtain ⟨ii2, nn2, q3, st17⟩ : ∃ (ii2 : Int32) (nn2 : Int32), (own_nz u ii2 nn2 16 ∧ 3 ≤ nn2.toInt) ∧ ∀ target, Steps p.tables e below (s₁.setTop (mkF m 61 #[.val (.int ii2), .val (.int nn2)] [])) target → Steps p.tables e below (s₁.setTop (mkF m 48 #[.val (.int ii1), .val (.int nn1)] [])) target := by
      by_cases hd : ii1 < (16 : Int32)
      · skip
        refine ⟨ii1, nn1, ⟨own_nzN q2.1 (Int32.lt_iff_toInt_lt.mp hd), (by have := q2.2; omega)⟩, fun target hk => ?_⟩
        show Steps p.tables e below (s₁.setTop (mkF m 48 #[.val (.int ii1), .val (.int nn1)] [])) _
        refine XS.iloadN X0.here hx rfl (hb hby d6_48) rfl ?_
        show Steps p.tables e below (s₁.setTop (mkF m 49 #[.val (.int ii1), .val (.int nn1)] [(.int ii1)])) _
        refine XS.bipush X0.here hx rfl (hb hby d6_49) ?_
        show Steps p.tables e below (s₁.setTop (mkF m 51 #[.val (.int ii1), .val (.int nn1)] [(.int (16 : Int32)), (.int ii1)])) _
        refine XS.icmpYes X0.here hx rfl (pc0 := 51) (pc' := 61) rfl (hb hby d6_51) rfl (tlt hd).1 (by decide) (by decide) ?_
        exact hk
      · skip
        refine ⟨((ii1.toUInt32 >>> ((4 : Int32) &&& 31).toUInt32).toInt32), (nn1 + (-4 : Int32)), ⟨own_nzS q2.1 4 (4 : Int32) (-4 : Int32) (by decide) (by decide) (by decide) rfl (by decide) (by have := mt Int32.lt_iff_toInt_lt.mpr hd; have e : (16 : Int32).toInt = 16 := rfl; omega) (by have := q2.2; omega), own_dec (k := 4) (lo := 3) (show (3 : Int) + 4 ≤ _ from q2.2) q2.1.2.2.2.2 (by decide) (by decide) rfl⟩, fun target hk => ?_⟩
        show Steps p.tables e below (s₁.setTop (mkF m 48 #[.val (.int ii1), .val (.int nn1)] [])) _
        refine XS.iloadN X0.here hx rfl (hb hby d6_48) rfl ?_
        show Steps p.tables e below (s₁.setTop (mkF m 49 #[.val (.int ii1), .val (.int nn1)] [(.int ii1)])) _
        refine XS.bipush X0.here hx rfl (hb hby d6_49) ?_
        show Steps p.tables e below (s₁.setTop (mkF m 51 #[.val (.int ii1), .val (.int nn1)] [(.int (16 : Int32)), (.int ii1)])) _
        refine XS.icmpNo X0.here hx rfl (hb hby d6_51) rfl (flt hd).1 ?_
        show Steps p.tables e below (s₁.setTop (mkF m 54 #[.val (.int ii1), .val (.int nn1)] [])) _
        refine XS.iinc X0.here hx rfl (hb hby d6_54) rfl (l' := #[.val (.int ii1), .val (.int (nn1 + (-4 : Int32)))]) rfl ?_
        show Steps p.tables e below (s₁.setTop (mkF m 57 #[.val (.int ii1), .val (.int (nn1 + (-4 : Int32)))] [])) _
        refine XS.iloadN X0.here hx rfl (hb hby d6_57) rfl ?_
        show Steps p.tables e below (s₁.setTop (mkF m 58 #[.val (.int ii1), .val (.int (nn1 + (-4 : Int32)))] [(.int ii1)])) _
        refine XS.iconst X0.here hx rfl (hb hby d6_58) ?_
        show Steps p.tables e below (s₁.setTop (mkF m 59 #[.val (.int ii1), .val (.int (nn1 + (-4 : Int32)))] [(.int (4 : Int32)), (.int ii1)])) _
        refine XS.iushr X0.here hx rfl (hb hby d6_59) rfl ?_
        show Steps p.tables e below (s₁.setTop (mkF m 60 #[.val (.int ii1), .val (.int (nn1 + (-4 : Int32)))] [(.int ((ii1.toUInt32 >>> ((4 : Int32) &&& 31).toUInt32).toInt32))])) _
        refine XS.istoreN X0.here hx rfl (hb hby d6_60) rfl (l' := #[.val (.int ((ii1.toUInt32 >>> ((4 : Int32) &&& 31).toUInt32).toInt32)), .val (.int (nn1 + (-4 : Int32)))]) rfl ?_
        exact hk
    obtain ⟨ii3, nn3, q4, st18⟩ : ∃ (ii3 : Int32) (nn3 : Int32), (own_nz u ii3 nn3 4 ∧ 1 ≤ nn3.toInt) ∧ ∀ target, Steps p.tables e below (s₁.setTop (mkF m 73 #[.val (.int ii3), .val (.int nn3)] [])) target → Steps p.tables e below (s₁.setTop (mkF m 61 #[.val (.int ii2), .val (.int nn2)] [])) target := by
      by_cases hd : ii2 < (4 : Int32)
      · skip
        refine ⟨ii2, nn2, ⟨own_nzN q3.1 (Int32.lt_iff_toInt_lt.mp hd), (by have := q3.2; omega)⟩, fun target hk => ?_⟩
        show Steps p.tables e below (s₁.setTop (mkF m 61 #[.val (.int ii2), .val (.int nn2)] [])) _
        refine XS.iloadN X0.here hx rfl (hb hby d6_61) rfl ?_
        show Steps p.tables e below (s₁.setTop (mkF m 62 #[.val (.int ii2), .val (.int nn2)] [(.int ii2)])) _
        refine XS.iconst X0.here hx rfl (hb hby d6_62) ?_
        show Steps p.tables e below (s₁.setTop (mkF m 63 #[.val (.int ii2), .val (.int nn2)] [(.int (4 : Int32)), (.int ii2)])) _
        refine XS.icmpYes X0.here hx rfl (pc0 := 63) (pc' := 73) rfl (hb hby d6_63) rfl (tlt hd).1 (by decide) (by decide) ?_
        exact hk
      · skip
        refine ⟨((ii2.toUInt32 >>> ((2 : Int32) &&& 31).toUInt32).toInt32), (nn2 + (-2 : Int32)), ⟨own_nzS q3.1 2 (2 : Int32) (-2 : Int32) (by decide) (by decide) (by decide) rfl (by decide) (by have := mt Int32.lt_iff_toInt_lt.mpr hd; have e : (4 : Int32).toInt = 4 := rfl; omega) (by have := q3.2; omega), own_dec (k := 2) (lo := 1) (show (1 : Int) + 2 ≤ _ from q3.2) q3.1.2.2.2.2 (by decide) (by decide) rfl⟩, fun target hk => ?_⟩
        show Steps p.tables e below (s₁.setTop (mkF m 61 #[.val (.int ii2), .val (.int nn2)] [])) _
        refine XS.iloadN X0.here hx rfl (hb hby d6_61) rfl ?_
        show Steps p.tables e below (s₁.setTop (mkF m 62 #[.val (.int ii2), .val (.int nn2)] [(.int ii2)])) _
        refine XS.iconst X0.here hx rfl (hb hby d6_62) ?_
        show Steps p.tables e below (s₁.setTop (mkF m 63 #[.val (.int ii2), .val (.int nn2)] [(.int (4 : Int32)), (.int ii2)])) _
        refine XS.icmpNo X0.here hx rfl (hb hby d6_63) rfl (flt hd).1 ?_
        show Steps p.tables e below (s₁.setTop (mkF m 66 #[.val (.int ii2), .val (.int nn2)] [])) _
        refine XS.iinc X0.here hx rfl (hb hby d6_66) rfl (l' := #[.val (.int ii2), .val (.int (nn2 + (-2 : Int32)))]) rfl ?_
        show Steps p.tables e below (s₁.setTop (mkF m 69 #[.val (.int ii2), .val (.int (nn2 + (-2 : Int32)))] [])) _
        refine XS.iloadN X0.here hx rfl (hb hby d6_69) rfl ?_
        show Steps p.tables e below (s₁.setTop (mkF m 70 #[.val (.int ii2), .val (.int (nn2 + (-2 : Int32)))] [(.int ii2)])) _
        refine XS.iconst X0.here hx rfl (hb hby d6_70) ?_
        show Steps p.tables e below (s₁.setTop (mkF m 71 #[.val (.int ii2), .val (.int (nn2 + (-2 : Int32)))] [(.int (2 : Int32)), (.int ii2)])) _
        refine XS.iushr X0.here hx rfl (hb hby d6_71) rfl ?_
        show Steps p.tables e below (s₁.setTop (mkF m 72 #[.val (.int ii2), .val (.int (nn2 + (-2 : Int32)))] [(.int ((ii2.toUInt32 >>> ((2 : Int32) &&& 31).toUInt32).toInt32))])) _
        refine XS.istoreN X0.here hx rfl (hb hby d6_72) rfl (l' := #[.val (.int ((ii2.toUInt32 >>> ((2 : Int32) &&& 31).toUInt32).toInt32)), .val (.int (nn2 + (-2 : Int32)))]) rfl ?_
        exact hk
    obtain ⟨fs, hr, hrun, hended, hW, hsame⟩ := X0.leave (v := some (.int (nn3 - ((ii3.toUInt32 >>> ((1 : Int32) &&& 31).toUInt32).toInt32)))) (fun h => by rw [hret0] at h; cases h)
    refine ⟨_, _, pre0 _ ?_, hrun, hended, _, _, rfl, ?_, ⟨_, rfl⟩, hW, hsame.mono (by decide) (by decide)⟩
    · show Steps p.tables e below (s₁.setTop (mkF m 0 #[.val (.int p0), .unset] [])) _
      refine XS.iloadN X0.here hx rfl (hb hby d6_0) rfl ?_
      show Steps p.tables e below (s₁.setTop (mkF m 1 #[.val (.int p0), .unset] [(.int p0)])) _
      refine XS.ifYes X0.here hx rfl (pc0 := 1) (pc' := 15) rfl (hb hby d6_1) rfl ((if0 _ _).trans (tlt hc).2.2.1) (by decide) (by decide) ?_
      show Steps p.tables e below (s₁.setTop (mkF m 15 #[.val (.int p0), .unset] [])) _
      refine XS.bipush X0.here hx rfl (hb hby d6_15) ?_
      show Steps p.tables e below (s₁.setTop (mkF m 17 #[.val (.int p0), .unset] [(.int (31 : Int32))])) _
      refine XS.istoreN X0.here hx rfl (hb hby d6_17) rfl (l' := #[.val (.int p0), .val (.int (31 : Int32))]) rfl ?_
      show Steps p.tables e below (s₁.setTop (mkF m 18 #[.val (.int p0), .val (.int (31 : Int32))] [])) _
      refine st15 _ ?_
      show Steps p.tables e below (s₁.setTop (mkF m 33 #[.val (.int ii0), .val (.int nn0)] [])) _
      refine st16 _ ?_
      show Steps p.tables e below (s₁.setTop (mkF m 48 #[.val (.int ii1), .val (.int nn1)] [])) _
      refine st17 _ ?_
      show Steps p.tables e below (s₁.setTop (mkF m 61 #[.val (.int ii2), .val (.int nn2)] [])) _
      refine st18 _ ?_
      show Steps p.tables e below (s₁.setTop (mkF m 73 #[.val (.int ii3), .val (.int nn3)] [])) _
      refine XS.iloadN X0.here hx rfl (hb hby d6_73) rfl ?_
      show Steps p.tables e below (s₁.setTop (mkF m 74 #[.val (.int ii3), .val (.int nn3)] [(.int nn3)])) _
      refine XS.iloadN X0.here hx rfl (hb hby d6_74) rfl ?_
      show Steps p.tables e below (s₁.setTop (mkF m 75 #[.val (.int ii3), .val (.int nn3)] [(.int ii3), (.int nn3)])) _
      refine XS.iconst X0.here hx rfl (hb hby d6_75) ?_
      show Steps p.tables e below (s₁.setTop (mkF m 76 #[.val (.int ii3), .val (.int nn3)] [(.int (1 : Int32)), (.int ii3), (.int nn3)])) _
      refine XS.iushr X0.here hx rfl (hb hby d6_76) rfl ?_
      show Steps p.tables e below (s₁.setTop (mkF m 77 #[.val (.int ii3), .val (.int nn3)] [(.int ((ii3.toUInt32 >>> ((1 : Int32) &&& 31).toUInt32).toInt32)), (.int nn3)])) _
      refine XS.isub X0.here hx rfl (hb hby d6_77) rfl ?_
      show Steps p.tables e below (s₁.setTop (mkF m 78 #[.val (.int ii3), .val (.int nn3)] [(.int (nn3 - ((ii3.toUInt32 >>> ((1 : Int32) &&& 31).toUInt32).toInt32)))])) _
      exact retI X0 hx hret0 (hb hby d6_78) hr
    · show QN p0 h0 n0 _ s₁.heap _
      rw [e0]
      exact ⟨_, rfl, by rw [← hu0]; exact own_nzE q4.1, N0, rfl⟩
  · skip
    obtain ⟨fs, hr, hrun, hended, hW, hsame⟩ := X0.leave (v := some (.int (0 : Int32))) (fun h => by rw [hret0] at h; cases h)
    refine ⟨_, _, pre0 _ ?_, hrun, hended, _, _, rfl, ?_, ⟨_, rfl⟩, hW, hsame.mono (by decide) (by decide)⟩
    · show Steps p.tables e below (s₁.setTop (mkF m 0 #[.val (.int p0), .unset] [])) _
      refine XS.iloadN X0.here hx rfl (hb hby d6_0) rfl ?_
      show Steps p.tables e below (s₁.setTop (mkF m 1 #[.val (.int p0), .unset] [(.int p0)])) _
      refine XS.ifNo X0.here hx rfl (hb hby d6_1) rfl ((if0 _ _).trans (flt hc).2.2.1) ?_
      show Steps p.tables e below (s₁.setTop (mkF m 4 #[.val (.int p0), .unset] [])) _
      refine XS.iloadN X0.here hx rfl (hb hby d6_4) rfl ?_
      show Steps p.tables e below (s₁.setTop (mkF m 5 #[.val (.int p0), .unset] [(.int p0)])) _
      refine XS.ifYes X0.here hx rfl (pc0 := 5) (pc' := 13) rfl (hb hby d6_5) rfl ((if0 _ _).trans (feq hne).2) (by decide) (by decide) ?_
      show Steps p.tables e below (s₁.setTop (mkF m 13 #[.val (.int p0), .unset] [])) _
      refine XS.iconst X0.here hx rfl (hb hby d6_13) ?_
      show Steps p.tables e below (s₁.setTop (mkF m 14 #[.val (.int p0), .unset] [(.int (0 : Int32))])) _
      exact retI X0 hx hret0 (hb hby d6_14) hr
    · show QN p0 h0 n0 _ s₁.heap _
      rw [e0]
      exact ⟨_, rfl, by
        have h1 : p0.toInt < 0 := by
          have a := mt Int32.lt_iff_toInt_lt.mpr hc
          have b : p0.toInt ≠ 0 := fun q => hne (Int32.toInt_inj.mp q)
          omega
        rw [z0, own_log (L := 31) (n := (p0.toInt % 4294967296).toNat) (by omega) (by omega)]; rfl, N0, rfl⟩
theorem d5_0 : decode jdk_35_method_48_code 0 = .ok (.lload_n 0, 1) := by decide +kernel
theorem d5_1 : decode jdk_35_method_48_code 1 = .ok (.bipush 32, 2) := by decide +kernel
theorem d5_3 : decode jdk_35_method_48_code 3 = .ok (.lushr, 1) := by decide +kernel
theorem d5_4 : decode jdk_35_method_48_code 4 = .ok (.l2i, 1) := by decide +kernel
theorem d5_5 : decode jdk_35_method_48_code 5 = .ok (.istore_n 2, 1) := by decide +kernel
theorem d5_6 : decode jdk_35_method_48_code 6 = .ok (.iload_n 2, 1) := by decide +kernel
theorem d5_7 : decode jdk_35_method_48_code 7 = .ok (.ifCond .ne 14, 3) := by decide +kernel
theorem d5_10 : decode jdk_35_method_48_code 10 = .ok (.bipush 32, 2) := by decide +kernel
theorem d5_12 : decode jdk_35_method_48_code 12 = .ok (.lload_n 0, 1) := by decide +kernel
theorem d5_13 : decode jdk_35_method_48_code 13 = .ok (.l2i, 1) := by decide +kernel
theorem d5_14 : decode jdk_35_method_48_code 14 = .ok (.invokestatic 308, 3) := by decide +kernel
theorem d5_17 : decode jdk_35_method_48_code 17 = .ok (.iadd, 1) := by decide +kernel
theorem d5_18 : decode jdk_35_method_48_code 18 = .ok (.goto 7, 3) := by decide +kernel
theorem d5_21 : decode jdk_35_method_48_code 21 = .ok (.iload_n 2, 1) := by decide +kernel
theorem d5_22 : decode jdk_35_method_48_code 22 = .ok (.invokestatic 308, 3) := by decide +kernel
theorem d5_25 : decode jdk_35_method_48_code 25 = .ok (.ireturn, 1) := by decide +kernel
def QL (p0 : Int64) (h0 : Heap) (n0 : Nat) (v : Option Value) (h : Heap) (L : List Loc) : Prop := ∃ r : Int32, v = some (.int r) ∧ r.toInt = 63 - (Nat.log2 p0.toInt.toNat : Int) ∧ Fr n0 L ∧ h = h0
theorem own_pn_rmL : plainName "java/lang/Long" = true := by first | (simp [plainName, overriddenIn]; done) | decide +kernel
theorem own_ef_rmL (m : MethodId) (p0 : Int64) : entryFrame m #[(.long p0)] 3 = (mkF m 0 #[.val (.long p0), .second, .unset] []) := by first | (simp [entryFrame, mkF, argsToLocals, Value.category]; done) | rfl
set_option maxRecDepth 65536 in
set_option maxHeartbeats 40000000 in
theorem rmL (l : Launch) (Z : State) (a0 : Array Value) (hw : ∀ d ∈ tables_1, d.before a0 Z = true) (ws : List Jvm.Cond) (p0 : Int64) (h0 : Heap) (n0 : Nat) (Z0 : n0 ≤ h0.size) (hpos : 0 < p0.toInt) :
    MetFree l (⟨"java/lang/Long", "numberOfLeadingZeros", "(J)I"⟩ : MethodName) (head1 (Jvm.Cond.code (⟨"java/lang/Long", "numberOfLeadingZeros", "(J)I"⟩ : MethodName) jdk_35_method_48_code 3 (some .int) :: ws) ({ frames := 1, cells := 0, slots := 0, locals := 20 } : Room)) (fun a U => a = #[(.long p0)] ∧ Z.Warmed39 U.vm ∧ U.heap = h0) (fun _ _ _ _ _ => True) (fun _ U o U' => ∃ v L, o = .returned v ∧ QL p0 h0 n0 v U'.heap L ∧ FrameEnd U o U' L ({ frames := 1, cells := 0, slots := 0, locals := 20 } : Room).cells ({ frames := 1, cells := 0, slots := 0, locals := 20 } : Room).slots) := by
  refine MetFree.of_bodySF (plainFor_of_name own_pn_rmL) hisR ?_
  intro p e s m args below meth c s₁ Bd hml0 hP hK
  obtain ⟨hargs, hZ, hh⟩ := hP
  have hx := Bd.exec
  have hby := Bd.bytes
  have hml : c.maxLocals = 3 := hml0
  have hown : s.vm.findClass "java/lang/Long" = some m.cls := findClass_of_methodNamed Bd.named
  have hnm := (name_of_methodNamed Bd.named Bd.method).1
  have hlock : meth.locks = false := Bd.notSynchronized
  have hret0 := Bd.returns
  have X0 : Stand p l e ({ frames := 1, cells := 0, slots := 0, locals := 20 } : Room) s m args below meth c s₁ [] 0 0 := Stand.of_body Bd
  have e0 : s₁.heap = h0 := by rw [← hh, Bd.state]; rfl
  have N0 := Fr.nil n0
  have pre0 : ∀ t, Steps p.tables e below (s₁.setTop (mkF m 0 #[.val (.long p0), .second, .unset] [])) t → Steps p.tables e below (s₁.setTop (entryFrame m args 3)) t := fun t k => castTop (by rw [hargs]; exact own_ef_rmL m p0) k
  clear Bd
  by_cases hc : ((p0.toUInt64 >>> ((32 : Int32) &&& 0x3f).toInt64.toUInt64).toInt64).toInt32 = (0 : Int32)
  · skip
    obtain ⟨v19, vmx19, ⟨T19, L19, k19, n19⟩, -, X19, ⟨Lc19, hQ19, l19, y19, z19⟩, st19⟩ := Jvm.LawKit.callS X0 hx (y := (⟨"java/lang/Integer", "numberOfLeadingZeros", "(I)I"⟩ : MethodName)) hown (mvT hZ (hw _ (List.mem_of_getElem? (i := 23) rfl))) (mvT hZ (hw _ (List.mem_of_getElem? (i := 24) rfl))) (mvT hZ (hw _ (List.mem_of_getElem? (i := 25) rfl))) (mvT hZ (hw _ (List.mem_of_getElem? (i := 26) rfl))) (by decide) (backOf (W := 1) (rmN l Z a0 hw [] (p0.toInt32) h0 n0 Z0 (own_ln2 hpos hc).1) hZ (hw _ (List.mem_of_getElem? (i := 26) rfl)) (hw _ (List.mem_of_getElem? (i := 25) rfl)) (by decide) (by decide)) (g := (mkF m 14 #[.val (.long p0), .second, .val (.int (((p0.toUInt64 >>> ((32 : Int32) &&& 0x3f).toInt64.toUInt64).toInt64).toInt32))] [(.int (p0.toInt32)), (.int (32 : Int32))])) rfl (by rw [hml]; rfl) (argsL := [(.int (p0.toInt32))]) (rest := [(.int (32 : Int32))]) (lenOf own_pd2 rfl) rfl (by show 2 * 0 + _ ≤ _; exact Nat.le_of_eq rfl) (hb hby d5_14) (fun _ _ => ⟨rfl, e0, (by decide : 0 + 0 ≤ _), (by decide : 0 + 0 ≤ _)⟩)
    dsimp only [Pt.U, Pt.locs, Pt.cells, Pt.slots] at X19 l19 y19 z19 st19 hQ19
    subst l19 y19 z19
    obtain ⟨r19, rfl, hr19, Nq19, eh19⟩ := hQ19
    have N19 := Fr.app N0 Nq19
    obtain ⟨fs, hr, hrun, hended, hW, hsame⟩ := X19.leave (v := some (.int ((32 : Int32) + r19))) (fun h => by rw [hret0] at h; cases h)
    refine ⟨_, _, pre0 _ ?_, hrun, hended, _, _, rfl, ?_, ⟨_, rfl⟩, hW, hsame.mono (by decide) (by decide)⟩
    · show Steps p.tables e below (s₁.setTop (mkF m 0 #[.val (.long p0), .second, .unset] [])) _
      refine XS.lloadN X0.here hx rfl (hb hby d5_0) rfl ?_
      show Steps p.tables e below (s₁.setTop (mkF m 1 #[.val (.long p0), .second, .unset] [(.long p0)])) _
      refine XS.bipush X0.here hx rfl (hb hby d5_1) ?_
      show Steps p.tables e below (s₁.setTop (mkF m 3 #[.val (.long p0), .second, .unset] [(.int (32 : Int32)), (.long p0)])) _
      refine XS.lushr X0.here hx rfl (hb hby d5_3) rfl ?_
      show Steps p.tables e below (s₁.setTop (mkF m 4 #[.val (.long p0), .second, .unset] [(.long ((p0.toUInt64 >>> ((32 : Int32) &&& 0x3f).toInt64.toUInt64).toInt64))])) _
      refine XS.l2i X0.here hx rfl (hb hby d5_4) rfl ?_
      show Steps p.tables e below (s₁.setTop (mkF m 5 #[.val (.long p0), .second, .unset] [(.int (((p0.toUInt64 >>> ((32 : Int32) &&& 0x3f).toInt64.toUInt64).toInt64).toInt32))])) _
      refine XS.istoreN X0.here hx rfl (hb hby d5_5) rfl (l' := #[.val (.long p0), .second, .val (.int (((p0.toUInt64 >>> ((32 : Int32) &&& 0x3f).toInt64.toUInt64).toInt64).toInt32))]) rfl ?_
      show Steps p.tables e below (s₁.setTop (mkF m 6 #[.val (.long p0), .second, .val (.int (((p0.toUInt64 >>> ((32 : Int32) &&& 0x3f).toInt64.toUInt64).toInt64).toInt32))] [])) _
      refine XS.iloadN X0.here hx rfl (hb hby d5_6) rfl ?_
      show Steps p.tables e below (s₁.setTop (mkF m 7 #[.val (.long p0), .second, .val (.int (((p0.toUInt64 >>> ((32 : Int32) &&& 0x3f).toInt64.toUInt64).toInt64).toInt32))] [(.int (((p0.toUInt64 >>> ((32 : Int32) &&& 0x3f).toInt64.toUInt64).toInt64).toInt32))])) _
      refine XS.ifNo X0.here hx rfl (hb hby d5_7) rfl ((if0 _ _).trans (teq hc).2) ?_
      show Steps p.tables e below (s₁.setTop (mkF m 10 #[.val (.long p0), .second, .val (.int (((p0.toUInt64 >>> ((32 : Int32) &&& 0x3f).toInt64.toUInt64).toInt64).toInt32))] [])) _
      refine XS.bipush X0.here hx rfl (hb hby d5_10) ?_
      show Steps p.tables e below (s₁.setTop (mkF m 12 #[.val (.long p0), .second, .val (.int (((p0.toUInt64 >>> ((32 : Int32) &&& 0x3f).toInt64.toUInt64).toInt64).toInt32))] [(.int (32 : Int32))])) _
      refine XS.lloadN X0.here hx rfl (hb hby d5_12) rfl ?_
      show Steps p.tables e below (s₁.setTop (mkF m 13 #[.val (.long p0), .second, .val (.int (((p0.toUInt64 >>> ((32 : Int32) &&& 0x3f).toInt64.toUInt64).toInt64).toInt32))] [(.long p0), (.int (32 : Int32))])) _
      refine XS.l2i X0.here hx rfl (hb hby d5_13) rfl ?_
      show Steps p.tables e below (s₁.setTop (mkF m 14 #[.val (.long p0), .second, .val (.int (((p0.toUInt64 >>> ((32 : Int32) &&& 0x3f).toInt64.toUInt64).toInt64).toInt32))] [(.int (p0.toInt32)), (.int (32 : Int32))])) _
      refine st19 _ ?_
      show Steps p.tables e below (T19.setTop (mkF m 17 #[.val (.long p0), .second, .val (.int (((p0.toUInt64 >>> ((32 : Int32) &&& 0x3f).toInt64.toUInt64).toInt64).toInt32))] [(.int r19), (.int (32 : Int32))])) _
      refine XS.iadd X19.here hx rfl (hb hby d5_17) rfl ?_
      show Steps p.tables e below (T19.setTop (mkF m 18 #[.val (.long p0), .second, .val (.int (((p0.toUInt64 >>> ((32 : Int32) &&& 0x3f).toInt64.toUInt64).toInt64).toInt32))] [(.int ((32 : Int32) + r19))])) _
      refine XS.goto X19.here hx rfl (pc0 := 18) (pc' := 25) rfl (hb hby d5_18) (by decide) (by decide) ?_
      show Steps p.tables e below (T19.setTop (mkF m 25 #[.val (.long p0), .second, .val (.int (((p0.toUInt64 >>> ((32 : Int32) &&& 0x3f).toInt64.toUInt64).toInt64).toInt32))] [(.int ((32 : Int32) + r19))])) _
      exact retI X19 hx hret0 (hb hby d5_25) hr
    · show QL p0 h0 n0 _ T19.heap _
      rw [eh19]
      exact ⟨_, rfl, own_ln3 (own_ln4 hpos hc) hpos (by rw [hr19, (own_ln2 hpos hc).2]), N19, rfl⟩
  · skip
    obtain ⟨v20, vmx20, ⟨T20, L20, k20, n20⟩, -, X20, ⟨Lc20, hQ20, l20, y20, z20⟩, st20⟩ := Jvm.LawKit.callS X0 hx (y := (⟨"java/lang/Integer", "numberOfLeadingZeros", "(I)I"⟩ : MethodName)) hown (mvT hZ (hw _ (List.mem_of_getElem? (i := 23) rfl))) (mvT hZ (hw _ (List.mem_of_getElem? (i := 24) rfl))) (mvT hZ (hw _ (List.mem_of_getElem? (i := 25) rfl))) (mvT hZ (hw _ (List.mem_of_getElem? (i := 26) rfl))) (by decide) (backOf (W := 0) (rmN l Z a0 hw [] (((p0.toUInt64 >>> ((32 : Int32) &&& 0x3f).toInt64.toUInt64).toInt64).toInt32) h0 n0 Z0 hc) hZ (hw _ (List.mem_of_getElem? (i := 26) rfl)) (hw _ (List.mem_of_getElem? (i := 25) rfl)) (by decide) (by decide)) (g := (mkF m 22 #[.val (.long p0), .second, .val (.int (((p0.toUInt64 >>> ((32 : Int32) &&& 0x3f).toInt64.toUInt64).toInt64).toInt32))] [(.int (((p0.toUInt64 >>> ((32 : Int32) &&& 0x3f).toInt64.toUInt64).toInt64).toInt32))])) rfl (by rw [hml]; rfl) (argsL := [(.int (((p0.toUInt64 >>> ((32 : Int32) &&& 0x3f).toInt64.toUInt64).toInt64).toInt32))]) (rest := []) (lenOf own_pd2 rfl) rfl (by show 2 * 0 + _ ≤ _; exact Nat.le_of_eq rfl) (hb hby d5_22) (fun _ _ => ⟨rfl, e0, (by decide : 0 + 0 ≤ _), (by decide : 0 + 0 ≤ _)⟩)
    dsimp only [Pt.U, Pt.locs, Pt.cells, Pt.slots] at X20 l20 y20 z20 st20 hQ20
    subst l20 y20 z20
    obtain ⟨r20, rfl, hr20, Nq20, eh20⟩ := hQ20
    have N20 := Fr.app N0 Nq20
    obtain ⟨fs, hr, hrun, hended, hW, hsame⟩ := X20.leave (v := some (.int r20)) (fun h => by rw [hret0] at h; cases h)
    refine ⟨_, _, pre0 _ ?_, hrun, hended, _, _, rfl, ?_, ⟨_, rfl⟩, hW, hsame.mono (by decide) (by decide)⟩
    · show Steps p.tables e below (s₁.setTop (mkF m 0 #[.val (.long p0), .second, .unset] [])) _
      refine XS.lloadN X0.here hx rfl (hb hby d5_0) rfl ?_
      show Steps p.tables e below (s₁.setTop (mkF m 1 #[.val (.long p0), .second, .unset] [(.long p0)])) _
      refine XS.bipush X0.here hx rfl (hb hby d5_1) ?_
      show Steps p.tables e below (s₁.setTop (mkF m 3 #[.val (.long p0), .second, .unset] [(.int (32 : Int32)), (.long p0)])) _
      refine XS.lushr X0.here hx rfl (hb hby d5_3) rfl ?_
      show Steps p.tables e below (s₁.setTop (mkF m 4 #[.val (.long p0), .second, .unset] [(.long ((p0.toUInt64 >>> ((32 : Int32) &&& 0x3f).toInt64.toUInt64).toInt64))])) _
      refine XS.l2i X0.here hx rfl (hb hby d5_4) rfl ?_
      show Steps p.tables e below (s₁.setTop (mkF m 5 #[.val (.long p0), .second, .unset] [(.int (((p0.toUInt64 >>> ((32 : Int32) &&& 0x3f).toInt64.toUInt64).toInt64).toInt32))])) _
      refine XS.istoreN X0.here hx rfl (hb hby d5_5) rfl (l' := #[.val (.long p0), .second, .val (.int (((p0.toUInt64 >>> ((32 : Int32) &&& 0x3f).toInt64.toUInt64).toInt64).toInt32))]) rfl ?_
      show Steps p.tables e below (s₁.setTop (mkF m 6 #[.val (.long p0), .second, .val (.int (((p0.toUInt64 >>> ((32 : Int32) &&& 0x3f).toInt64.toUInt64).toInt64).toInt32))] [])) _
      refine XS.iloadN X0.here hx rfl (hb hby d5_6) rfl ?_
      show Steps p.tables e below (s₁.setTop (mkF m 7 #[.val (.long p0), .second, .val (.int (((p0.toUInt64 >>> ((32 : Int32) &&& 0x3f).toInt64.toUInt64).toInt64).toInt32))] [(.int (((p0.toUInt64 >>> ((32 : Int32) &&& 0x3f).toInt64.toUInt64).toInt64).toInt32))])) _
      refine XS.ifYes X0.here hx rfl (pc0 := 7) (pc' := 21) rfl (hb hby d5_7) rfl ((if0 _ _).trans (feq hc).2) (by decide) (by decide) ?_
      show Steps p.tables e below (s₁.setTop (mkF m 21 #[.val (.long p0), .second, .val (.int (((p0.toUInt64 >>> ((32 : Int32) &&& 0x3f).toInt64.toUInt64).toInt64).toInt32))] [])) _
      refine XS.iloadN X0.here hx rfl (hb hby d5_21) rfl ?_
      show Steps p.tables e below (s₁.setTop (mkF m 22 #[.val (.long p0), .second, .val (.int (((p0.toUInt64 >>> ((32 : Int32) &&& 0x3f).toInt64.toUInt64).toInt64).toInt32))] [(.int (((p0.toUInt64 >>> ((32 : Int32) &&& 0x3f).toInt64.toUInt64).toInt64).toInt32))])) _
      refine st20 _ ?_
      show Steps p.tables e below (T20.setTop (mkF m 25 #[.val (.long p0), .second, .val (.int (((p0.toUInt64 >>> ((32 : Int32) &&& 0x3f).toInt64.toUInt64).toInt64).toInt32))] [(.int r20)])) _
      exact retI X20 hx hret0 (hb hby d5_25) hr
    · show QL p0 h0 n0 _ T20.heap _
      rw [eh20]
      exact ⟨_, rfl, own_ln1 hpos rfl hc hr20, N20, rfl⟩
theorem d4_0 : decode prog_10_method_5_code 0 = .ok (.lload_n 0, 1) := by decide +kernel
theorem d4_1 : decode prog_10_method_5_code 1 = .ok (.ldc2_w 37, 3) := by decide +kernel
theorem d4_4 : decode prog_10_method_5_code 4 = .ok (.lcmp, 1) := by decide +kernel
theorem d4_5 : decode prog_10_method_5_code 5 = .ok (.ifCond .ge 6, 3) := by decide +kernel
theorem d4_8 : decode prog_10_method_5_code 8 = .ok (.lload_n 0, 1) := by decide +kernel
theorem d4_9 : decode prog_10_method_5_code 9 = .ok (.l2i, 1) := by decide +kernel
theorem d4_10 : decode prog_10_method_5_code 10 = .ok (.ireturn, 1) := by decide +kernel
theorem d4_11 : decode prog_10_method_5_code 11 = .ok (.bipush 63, 2) := by decide +kernel
theorem d4_13 : decode prog_10_method_5_code 13 = .ok (.lload_n 0, 1) := by decide +kernel
theorem d4_14 : decode prog_10_method_5_code 14 = .ok (.invokestatic 39, 3) := by decide +kernel
theorem d4_17 : decode prog_10_method_5_code 17 = .ok (.isub, 1) := by decide +kernel
theorem d4_18 : decode prog_10_method_5_code 18 = .ok (.bipush 7, 2) := by decide +kernel
theorem d4_20 : decode prog_10_method_5_code 20 = .ok (.isub, 1) := by decide +kernel
theorem d4_21 : decode prog_10_method_5_code 21 = .ok (.istore_n 2, 1) := by decide +kernel
theorem d4_22 : decode prog_10_method_5_code 22 = .ok (.sipush 256, 3) := by decide +kernel
theorem d4_25 : decode prog_10_method_5_code 25 = .ok (.iload_n 2, 1) := by decide +kernel
theorem d4_26 : decode prog_10_method_5_code 26 = .ok (.iconst 1, 1) := by decide +kernel
theorem d4_27 : decode prog_10_method_5_code 27 = .ok (.isub, 1) := by decide +kernel
theorem d4_28 : decode prog_10_method_5_code 28 = .ok (.sipush 128, 3) := by decide +kernel
theorem d4_31 : decode prog_10_method_5_code 31 = .ok (.imul, 1) := by decide +kernel
theorem d4_32 : decode prog_10_method_5_code 32 = .ok (.iadd, 1) := by decide +kernel
theorem d4_33 : decode prog_10_method_5_code 33 = .ok (.lload_n 0, 1) := by decide +kernel
theorem d4_34 : decode prog_10_method_5_code 34 = .ok (.iload_n 2, 1) := by decide +kernel
theorem d4_35 : decode prog_10_method_5_code 35 = .ok (.lushr, 1) := by decide +kernel
theorem d4_36 : decode prog_10_method_5_code 36 = .ok (.l2i, 1) := by decide +kernel
theorem d4_37 : decode prog_10_method_5_code 37 = .ok (.iadd, 1) := by decide +kernel
theorem d4_38 : decode prog_10_method_5_code 38 = .ok (.sipush 128, 3) := by decide +kernel
theorem d4_41 : decode prog_10_method_5_code 41 = .ok (.isub, 1) := by decide +kernel
theorem d4_42 : decode prog_10_method_5_code 42 = .ok (.ireturn, 1) := by decide +kernel
def QB (p0 : Int64) (h0 : Heap) (n0 : Nat) (v : Option Value) (h : Heap) (L : List Loc) : Prop := ∃ r : Int32, v = some (.int r) ∧ r.toInt = own_bk p0.toInt.toNat ∧ Fr n0 L ∧ h = h0
theorem own_pn_rmB : plainName "com/example/resplice/resplice/LatencyHistogram" = true := by first | (simp [plainName, overriddenIn]; done) | decide +kernel
theorem own_ef_rmB (m : MethodId) (p0 : Int64) : entryFrame m #[(.long p0)] 3 = (mkF m 0 #[.val (.long p0), .second, .unset] []) := by first | (simp [entryFrame, mkF, argsToLocals, Value.category]; done) | rfl
set_option maxRecDepth 65536 in
set_option maxHeartbeats 40000000 in
theorem rmB (l : Launch) (Z : State) (a0 : Array Value) (hw : ∀ d ∈ tables_1, d.before a0 Z = true) (ws : List Jvm.Cond) (p0 : Int64) (h0 : Heap) (n0 : Nat) (Z0 : n0 ≤ h0.size) (hpos : 0 ≤ p0.toInt) :
    MetFree l (⟨"com/example/resplice/resplice/LatencyHistogram", "bucket", "(J)I"⟩ : MethodName) (head1 (Jvm.Cond.code (⟨"com/example/resplice/resplice/LatencyHistogram", "bucket", "(J)I"⟩ : MethodName) prog_10_method_5_code 3 (some .int) :: ws) ({ frames := 2, cells := 0, slots := 0, locals := 50 } : Room)) (fun a U => a = #[(.long p0)] ∧ Z.Warmed39 U.vm ∧ U.heap = h0) (fun _ _ _ _ _ => True) (fun _ U o U' => ∃ v L, o = .returned v ∧ QB p0 h0 n0 v U'.heap L ∧ FrameEnd U o U' L ({ frames := 2, cells := 0, slots := 0, locals := 50 } : Room).cells ({ frames := 2, cells := 0, slots := 0, locals := 50 } : Room).slots) := by
  refine MetFree.of_bodySF (plainFor_of_name own_pn_rmB) hisR ?_
  intro p e s m args below meth c s₁ Bd hml0 hP hK
  obtain ⟨hargs, hZ, hh⟩ := hP
  have hx := Bd.exec
  have hby := Bd.bytes
  have hml : c.maxLocals = 3 := hml0
  have hown : s.vm.findClass "com/example/resplice/resplice/LatencyHistogram" = some m.cls := findClass_of_methodNamed Bd.named
  have hnm := (name_of_methodNamed Bd.named Bd.method).1
  have hlock : meth.locks = false := Bd.notSynchronized
  have hret0 := Bd.returns
  have X0 : Stand p l e ({ frames := 2, cells := 0, slots := 0, locals := 50 } : Room) s m args below meth c s₁ [] 0 0 := Stand.of_body Bd
  have e0 : s₁.heap = h0 := by rw [← hh, Bd.state]; rfl
  have N0 := Fr.nil n0
  have pre0 : ∀ t, Steps p.tables e below (s₁.setTop (mkF m 0 #[.val (.long p0), .second, .unset] [])) t → Steps p.tables e below (s₁.setTop (entryFrame m args 3)) t := fun t k => castTop (by rw [hargs]; exact own_ef_rmB m p0) k
  clear Bd
  have e256 : (256 : Int64).toInt = 256 := rfl
  by_cases hc : p0 < (256 : Int64)
  · skip
    obtain ⟨fs, hr, hrun, hended, hW, hsame⟩ := X0.leave (v := some (.int (p0.toInt32))) (fun h => by rw [hret0] at h; cases h)
    refine ⟨_, _, pre0 _ ?_, hrun, hended, _, _, rfl, ?_, ⟨_, rfl⟩, hW, hsame.mono (by decide) (by decide)⟩
    · show Steps p.tables e below (s₁.setTop (mkF m 0 #[.val (.long p0), .second, .unset] [])) _
      refine XS.lloadN X0.here hx rfl (hb hby d4_0) rfl ?_
      show Steps p.tables e below (s₁.setTop (mkF m 1 #[.val (.long p0), .second, .unset] [(.long p0)])) _
      refine X0.ldc2Long hx hown (mvT hZ (hw _ (List.mem_of_getElem? (i := 18) rfl))) (g := (mkF m 1 #[.val (.long p0), .second, .unset] [(.long p0)])) rfl (hb hby d4_1) _ ?_
      show Steps p.tables e below (s₁.setTop (mkF m 4 #[.val (.long p0), .second, .unset] [(.long (256 : Int64)), (.long p0)])) _
      refine XS.lcmp X0.here hx rfl (hb hby d4_4) rfl ?_
      show Steps p.tables e below (s₁.setTop (mkF m 5 #[.val (.long p0), .second, .unset] [(.int (lcmpW p0 (256 : Int64)))])) _
      refine XS.ifNo X0.here hx rfl (hb hby d4_5) rfl ((if0 _ _).trans (tlt ((lw_lt _ _).mpr hc)).2.1) ?_
      show Steps p.tables e below (s₁.setTop (mkF m 8 #[.val (.long p0), .second, .unset] [])) _
      refine XS.lloadN X0.here hx rfl (hb hby d4_8) rfl ?_
      show Steps p.tables e below (s₁.setTop (mkF m 9 #[.val (.long p0), .second, .unset] [(.long p0)])) _
      refine XS.l2i X0.here hx rfl (hb hby d4_9) rfl ?_
      show Steps p.tables e below (s₁.setTop (mkF m 10 #[.val (.long p0), .second, .unset] [(.int (p0.toInt32))])) _
      exact retI X0 hx hret0 (hb hby d4_10) hr
    · show QB p0 h0 n0 _ s₁.heap _
      rw [e0]
      exact ⟨_, rfl, by
        rw [Int64.lt_iff_toInt_lt] at hc
        rw [own_bk_small (by omega)]
        have c := c_l2i p0
        have r := rng32 p0.toInt32
        omega, N0, rfl⟩
  · skip
    have hg : 256 ≤ p0.toInt := by rw [Int64.lt_iff_toInt_lt] at hc; omega
    obtain ⟨v21, vmx21, ⟨T21, L21, k21, n21⟩, -, X21, ⟨Lc21, hQ21, l21, y21, z21⟩, st21⟩ := Jvm.LawKit.callS X0 hx (y := (⟨"java/lang/Long", "numberOfLeadingZeros", "(J)I"⟩ : MethodName)) hown (mvT hZ (hw _ (List.mem_of_getElem? (i := 19) rfl))) (mvT hZ (hw _ (List.mem_of_getElem? (i := 20) rfl))) (mvT hZ (hw _ (List.mem_of_getElem? (i := 21) rfl))) (mvT hZ (hw _ (List.mem_of_getElem? (i := 22) rfl))) (by decide) (backOf (W := 1) (rmL l Z a0 hw [] p0 h0 n0 Z0 (by omega)) hZ (hw _ (List.mem_of_getElem? (i := 22) rfl)) (hw _ (List.mem_of_getElem? (i := 21) rfl)) (by decide) (by decide)) (g := (mkF m 14 #[.val (.long p0), .second, .unset] [(.long p0), (.int (63 : Int32))])) rfl (by rw [hml]; rfl) (argsL := [(.long p0)]) (rest := [(.int (63 : Int32))]) (lenOf own_pd3 rfl) rfl (by show 2 * 0 + _ ≤ _; exact Nat.le_of_eq rfl) (hb hby d4_14) (fun _ _ => ⟨rfl, e0, (by decide : 0 + 0 ≤ _), (by decide : 0 + 0 ≤ _)⟩)
    dsimp only [Pt.U, Pt.locs, Pt.cells, Pt.slots] at X21 l21 y21 z21 st21 hQ21
    subst l21 y21 z21
    obtain ⟨r21, rfl, hr21, Nq21, eh21⟩ := hQ21
    have N21 := Fr.app N0 Nq21
    obtain ⟨fs, hr, hrun, hended, hW, hsame⟩ := X21.leave (v := some (.int ((((256 : Int32) + (((((63 : Int32) - r21) - (7 : Int32)) - (1 : Int32)) * (128 : Int32))) + (((p0.toUInt64 >>> ((((63 : Int32) - r21) - (7 : Int32)) &&& 0x3f).toInt64.toUInt64).toInt64).toInt32)) - (128 : Int32)))) (fun h => by rw [hret0] at h; cases h)
    refine ⟨_, _, pre0 _ ?_, hrun, hended, _, _, rfl, ?_, ⟨_, rfl⟩, hW, hsame.mono (by decide) (by decide)⟩
    · show Steps p.tables e below (s₁.setTop (mkF m 0 #[.val (.long p0), .second, .unset] [])) _
      refine XS.lloadN X0.here hx rfl (hb hby d4_0) rfl ?_
      show Steps p.tables e below (s₁.setTop (mkF m 1 #[.val (.long p0), .second, .unset] [(.long p0)])) _
      refine X0.ldc2Long hx hown (mvT hZ (hw _ (List.mem_of_getElem? (i := 18) rfl))) (g := (mkF m 1 #[.val (.long p0), .second, .unset] [(.long p0)])) rfl (hb hby d4_1) _ ?_
      show Steps p.tables e below (s₁.setTop (mkF m 4 #[.val (.long p0), .second, .unset] [(.long (256 : Int64)), (.long p0)])) _
      refine XS.lcmp X0.here hx rfl (hb hby d4_4) rfl ?_
      show Steps p.tables e below (s₁.setTop (mkF m 5 #[.val (.long p0), .second, .unset] [(.int (lcmpW p0 (256 : Int64)))])) _
      refine XS.ifYes X0.here hx rfl (pc0 := 5) (pc' := 11) rfl (hb hby d4_5) rfl ((if0 _ _).trans (flt (mt (lw_lt _ _).mp hc)).2.1) (by decide) (by decide) ?_
      show Steps p.tables e below (s₁.setTop (mkF m 11 #[.val (.long p0), .second, .unset] [])) _
      refine XS.bipush X0.here hx rfl (hb hby d4_11) ?_
      show Steps p.tables e below (s₁.setTop (mkF m 13 #[.val (.long p0), .second, .unset] [(.int (63 : Int32))])) _
      refine XS.lloadN X0.here hx rfl (hb hby d4_13) rfl ?_
      show Steps p.tables e below (s₁.setTop (mkF m 14 #[.val (.long p0), .second, .unset] [(.long p0), (.int (63 : Int32))])) _
      refine st21 _ ?_
      show Steps p.tables e below (T21.setTop (mkF m 17 #[.val (.long p0), .second, .unset] [(.int r21), (.int (63 : Int32))])) _
      refine XS.isub X21.here hx rfl (hb hby d4_17) rfl ?_
      show Steps p.tables e below (T21.setTop (mkF m 18 #[.val (.long p0), .second, .unset] [(.int ((63 : Int32) - r21))])) _
      refine XS.bipush X21.here hx rfl (hb hby d4_18) ?_
      show Steps p.tables e below (T21.setTop (mkF m 20 #[.val (.long p0), .second, .unset] [(.int (7 : Int32)), (.int ((63 : Int32) - r21))])) _
      refine XS.isub X21.here hx rfl (hb hby d4_20) rfl ?_
      show Steps p.tables e below (T21.setTop (mkF m 21 #[.val (.long p0), .second, .unset] [(.int (((63 : Int32) - r21) - (7 : Int32)))])) _
      refine XS.istoreN X21.here hx rfl (hb hby d4_21) rfl (l' := #[.val (.long p0), .second, .val (.int (((63 : Int32) - r21) - (7 : Int32)))]) rfl ?_
      show Steps p.tables e below (T21.setTop (mkF m 22 #[.val (.long p0), .second, .val (.int (((63 : Int32) - r21) - (7 : Int32)))] [])) _
      refine XS.sipush X21.here hx rfl (hb hby d4_22) ?_
      show Steps p.tables e below (T21.setTop (mkF m 25 #[.val (.long p0), .second, .val (.int (((63 : Int32) - r21) - (7 : Int32)))] [(.int (256 : Int32))])) _
      refine XS.iloadN X21.here hx rfl (hb hby d4_25) rfl ?_
      show Steps p.tables e below (T21.setTop (mkF m 26 #[.val (.long p0), .second, .val (.int (((63 : Int32) - r21) - (7 : Int32)))] [(.int (((63 : Int32) - r21) - (7 : Int32))), (.int (256 : Int32))])) _
      refine XS.iconst X21.here hx rfl (hb hby d4_26) ?_
      show Steps p.tables e below (T21.setTop (mkF m 27 #[.val (.long p0), .second, .val (.int (((63 : Int32) - r21) - (7 : Int32)))] [(.int (1 : Int32)), (.int (((63 : Int32) - r21) - (7 : Int32))), (.int (256 : Int32))])) _
      refine XS.isub X21.here hx rfl (hb hby d4_27) rfl ?_
      show Steps p.tables e below (T21.setTop (mkF m 28 #[.val (.long p0), .second, .val (.int (((63 : Int32) - r21) - (7 : Int32)))] [(.int ((((63 : Int32) - r21) - (7 : Int32)) - (1 : Int32))), (.int (256 : Int32))])) _
      refine XS.sipush X21.here hx rfl (hb hby d4_28) ?_
      show Steps p.tables e below (T21.setTop (mkF m 31 #[.val (.long p0), .second, .val (.int (((63 : Int32) - r21) - (7 : Int32)))] [(.int (128 : Int32)), (.int ((((63 : Int32) - r21) - (7 : Int32)) - (1 : Int32))), (.int (256 : Int32))])) _
      refine XS.imul X21.here hx rfl (hb hby d4_31) rfl ?_
      show Steps p.tables e below (T21.setTop (mkF m 32 #[.val (.long p0), .second, .val (.int (((63 : Int32) - r21) - (7 : Int32)))] [(.int (((((63 : Int32) - r21) - (7 : Int32)) - (1 : Int32)) * (128 : Int32))), (.int (256 : Int32))])) _
      refine XS.iadd X21.here hx rfl (hb hby d4_32) rfl ?_
      show Steps p.tables e below (T21.setTop (mkF m 33 #[.val (.long p0), .second, .val (.int (((63 : Int32) - r21) - (7 : Int32)))] [(.int ((256 : Int32) + (((((63 : Int32) - r21) - (7 : Int32)) - (1 : Int32)) * (128 : Int32))))])) _
      refine XS.lloadN X21.here hx rfl (hb hby d4_33) rfl ?_
      show Steps p.tables e below (T21.setTop (mkF m 34 #[.val (.long p0), .second, .val (.int (((63 : Int32) - r21) - (7 : Int32)))] [(.long p0), (.int ((256 : Int32) + (((((63 : Int32) - r21) - (7 : Int32)) - (1 : Int32)) * (128 : Int32))))])) _
      refine XS.iloadN X21.here hx rfl (hb hby d4_34) rfl ?_
      show Steps p.tables e below (T21.setTop (mkF m 35 #[.val (.long p0), .second, .val (.int (((63 : Int32) - r21) - (7 : Int32)))] [(.int (((63 : Int32) - r21) - (7 : Int32))), (.long p0), (.int ((256 : Int32) + (((((63 : Int32) - r21) - (7 : Int32)) - (1 : Int32)) * (128 : Int32))))])) _
      refine XS.lushr X21.here hx rfl (hb hby d4_35) rfl ?_
      show Steps p.tables e below (T21.setTop (mkF m 36 #[.val (.long p0), .second, .val (.int (((63 : Int32) - r21) - (7 : Int32)))] [(.long ((p0.toUInt64 >>> ((((63 : Int32) - r21) - (7 : Int32)) &&& 0x3f).toInt64.toUInt64).toInt64)), (.int ((256 : Int32) + (((((63 : Int32) - r21) - (7 : Int32)) - (1 : Int32)) * (128 : Int32))))])) _
      refine XS.l2i X21.here hx rfl (hb hby d4_36) rfl ?_
      show Steps p.tables e below (T21.setTop (mkF m 37 #[.val (.long p0), .second, .val (.int (((63 : Int32) - r21) - (7 : Int32)))] [(.int (((p0.toUInt64 >>> ((((63 : Int32) - r21) - (7 : Int32)) &&& 0x3f).toInt64.toUInt64).toInt64).toInt32)), (.int ((256 : Int32) + (((((63 : Int32) - r21) - (7 : Int32)) - (1 : Int32)) * (128 : Int32))))])) _
      refine XS.iadd X21.here hx rfl (hb hby d4_37) rfl ?_
      show Steps p.tables e below (T21.setTop (mkF m 38 #[.val (.long p0), .second, .val (.int (((63 : Int32) - r21) - (7 : Int32)))] [(.int (((256 : Int32) + (((((63 : Int32) - r21) - (7 : Int32)) - (1 : Int32)) * (128 : Int32))) + (((p0.toUInt64 >>> ((((63 : Int32) - r21) - (7 : Int32)) &&& 0x3f).toInt64.toUInt64).toInt64).toInt32)))])) _
      refine XS.sipush X21.here hx rfl (hb hby d4_38) ?_
      show Steps p.tables e below (T21.setTop (mkF m 41 #[.val (.long p0), .second, .val (.int (((63 : Int32) - r21) - (7 : Int32)))] [(.int (128 : Int32)), (.int (((256 : Int32) + (((((63 : Int32) - r21) - (7 : Int32)) - (1 : Int32)) * (128 : Int32))) + (((p0.toUInt64 >>> ((((63 : Int32) - r21) - (7 : Int32)) &&& 0x3f).toInt64.toUInt64).toInt64).toInt32)))])) _
      refine XS.isub X21.here hx rfl (hb hby d4_41) rfl ?_
      show Steps p.tables e below (T21.setTop (mkF m 42 #[.val (.long p0), .second, .val (.int (((63 : Int32) - r21) - (7 : Int32)))] [(.int ((((256 : Int32) + (((((63 : Int32) - r21) - (7 : Int32)) - (1 : Int32)) * (128 : Int32))) + (((p0.toUInt64 >>> ((((63 : Int32) - r21) - (7 : Int32)) &&& 0x3f).toInt64.toUInt64).toInt64).toInt32)) - (128 : Int32)))])) _
      exact retI X21 hx hret0 (hb hby d4_42) hr
    · show QB p0 h0 n0 _ T21.heap _
      rw [eh21]
      exact ⟨_, rfl, own_bkT hpos hg (own_bkS hpos hg hr21), N21, rfl⟩
theorem d17_0 : decode prog_10_method_6_code 0 = .ok (.iload_n 0, 1) := by decide +kernel
theorem d17_1 : decode prog_10_method_6_code 1 = .ok (.sipush 256, 3) := by decide +kernel
theorem d17_4 : decode prog_10_method_6_code 4 = .ok (.if_icmp .ge 6, 3) := by decide +kernel
theorem d17_7 : decode prog_10_method_6_code 7 = .ok (.iload_n 0, 1) := by decide +kernel
theorem d17_8 : decode prog_10_method_6_code 8 = .ok (.i2l, 1) := by decide +kernel
theorem d17_9 : decode prog_10_method_6_code 9 = .ok (.lreturn, 1) := by decide +kernel
theorem d17_10 : decode prog_10_method_6_code 10 = .ok (.iload_n 0, 1) := by decide +kernel
theorem d17_11 : decode prog_10_method_6_code 11 = .ok (.sipush 256, 3) := by decide +kernel
theorem d17_14 : decode prog_10_method_6_code 14 = .ok (.isub, 1) := by decide +kernel
theorem d17_15 : decode prog_10_method_6_code 15 = .ok (.sipush 128, 3) := by decide +kernel
theorem d17_18 : decode prog_10_method_6_code 18 = .ok (.idiv, 1) := by decide +kernel
theorem d17_19 : decode prog_10_method_6_code 19 = .ok (.iconst 1, 1) := by decide +kernel
theorem d17_20 : decode prog_10_method_6_code 20 = .ok (.iadd, 1) := by decide +kernel
theorem d17_21 : decode prog_10_method_6_code 21 = .ok (.istore_n 1, 1) := by decide +kernel
theorem d17_22 : decode prog_10_method_6_code 22 = .ok (.iload_n 0, 1) := by decide +kernel
theorem d17_23 : decode prog_10_method_6_code 23 = .ok (.sipush 256, 3) := by decide +kernel
theorem d17_26 : decode prog_10_method_6_code 26 = .ok (.isub, 1) := by decide +kernel
theorem d17_27 : decode prog_10_method_6_code 27 = .ok (.sipush 128, 3) := by decide +kernel
theorem d17_30 : decode prog_10_method_6_code 30 = .ok (.irem, 1) := by decide +kernel
theorem d17_31 : decode prog_10_method_6_code 31 = .ok (.sipush 128, 3) := by decide +kernel
theorem d17_34 : decode prog_10_method_6_code 34 = .ok (.iadd, 1) := by decide +kernel
theorem d17_35 : decode prog_10_method_6_code 35 = .ok (.i2l, 1) := by decide +kernel
theorem d17_36 : decode prog_10_method_6_code 36 = .ok (.iload_n 1, 1) := by decide +kernel
theorem d17_37 : decode prog_10_method_6_code 37 = .ok (.lshl, 1) := by decide +kernel
theorem d17_38 : decode prog_10_method_6_code 38 = .ok (.lstore_n 2, 1) := by decide +kernel
theorem d17_39 : decode prog_10_method_6_code 39 = .ok (.lload_n 2, 1) := by decide +kernel
theorem d17_40 : decode prog_10_method_6_code 40 = .ok (.lconst 1, 1) := by decide +kernel
theorem d17_41 : decode prog_10_method_6_code 41 = .ok (.iload_n 1, 1) := by decide +kernel
theorem d17_42 : decode prog_10_method_6_code 42 = .ok (.lshl, 1) := by decide +kernel
theorem d17_43 : decode prog_10_method_6_code 43 = .ok (.ldc2_w 42, 3) := by decide +kernel
theorem d17_46 : decode prog_10_method_6_code 46 = .ok (.ldiv, 1) := by decide +kernel
theorem d17_47 : decode prog_10_method_6_code 47 = .ok (.ladd, 1) := by decide +kernel
theorem d17_48 : decode prog_10_method_6_code 48 = .ok (.lreturn, 1) := by decide +kernel
def QM (p0 : Int32) (h0 : Heap) (n0 : Nat) (v : Option Value) (h : Heap) (L : List Loc) : Prop := ∃ r : Int64, v = some (.long r) ∧ r.toInt = own_md p0.toInt.toNat ∧ Fr n0 L ∧ h = h0
theorem own_pn_rmM : plainName "com/example/resplice/resplice/LatencyHistogram" = true := by first | (simp [plainName, overriddenIn]; done) | decide +kernel
theorem own_ef_rmM (m : MethodId) (p0 : Int32) : entryFrame m #[(.int p0)] 4 = (mkF m 0 #[.val (.int p0), .unset, .unset, .unset] []) := by first | (simp [entryFrame, mkF, argsToLocals, Value.category]; done) | rfl
set_option maxRecDepth 65536 in
set_option maxHeartbeats 40000000 in
theorem rmM (l : Launch) (Z : State) (a0 : Array Value) (hw : ∀ d ∈ tables_1, d.before a0 Z = true) (ws : List Jvm.Cond) (p0 : Int32) (h0 : Heap) (n0 : Nat) (Z0 : n0 ≤ h0.size) (hpos : 0 ≤ p0.toInt) (hlt : p0.toInt < 7296) :
    MetFree l (⟨"com/example/resplice/resplice/LatencyHistogram", "middle", "(I)J"⟩ : MethodName) (head1 (Jvm.Cond.code (⟨"com/example/resplice/resplice/LatencyHistogram", "middle", "(I)J"⟩ : MethodName) prog_10_method_6_code 4 (some .long) :: ws) ({ frames := 0, cells := 0, slots := 0, locals := 0 } : Room)) (fun a U => a = #[(.int p0)] ∧ Z.Warmed39 U.vm ∧ U.heap = h0) (fun _ _ _ _ _ => True) (fun _ U o U' => ∃ v L, o = .returned v ∧ QM p0 h0 n0 v U'.heap L ∧ FrameEnd U o U' L ({ frames := 0, cells := 0, slots := 0, locals := 0 } : Room).cells ({ frames := 0, cells := 0, slots := 0, locals := 0 } : Room).slots) := by
  refine MetFree.of_bodySF (plainFor_of_name own_pn_rmM) hisR ?_
  intro p e s m args below meth c s₁ Bd hml0 hP hK
  obtain ⟨hargs, hZ, hh⟩ := hP
  have hx := Bd.exec
  have hby := Bd.bytes
  have hml : c.maxLocals = 4 := hml0
  have hown : s.vm.findClass "com/example/resplice/resplice/LatencyHistogram" = some m.cls := findClass_of_methodNamed Bd.named
  have hnm := (name_of_methodNamed Bd.named Bd.method).1
  have hlock : meth.locks = false := Bd.notSynchronized
  have hret0 := Bd.returns
  have X0 : Stand p l e ({ frames := 0, cells := 0, slots := 0, locals := 0 } : Room) s m args below meth c s₁ [] 0 0 := Stand.of_body Bd
  have e0 : s₁.heap = h0 := by rw [← hh, Bd.state]; rfl
  have N0 := Fr.nil n0
  have pre0 : ∀ t, Steps p.tables e below (s₁.setTop (mkF m 0 #[.val (.int p0), .unset, .unset, .unset] [])) t → Steps p.tables e below (s₁.setTop (entryFrame m args 4)) t := fun t k => castTop (by rw [hargs]; exact own_ef_rmM m p0) k
  clear Bd
  have e256 : (256 : Int32).toInt = 256 := rfl
  by_cases hc : p0 < (256 : Int32)
  · skip
    obtain ⟨fs, hr, hrun, hended, hW, hsame⟩ := X0.leave (v := some (.long (p0.toInt64))) (fun h => by rw [hret0] at h; cases h)
    refine ⟨_, _, pre0 _ ?_, hrun, hended, _, _, rfl, ?_, ⟨_, rfl⟩, hW, hsame.mono (by decide) (by decide)⟩
    · show Steps p.tables e below (s₁.setTop (mkF m 0 #[.val (.int p0), .unset, .unset, .unset] [])) _
      refine XS.iloadN X0.here hx rfl (hb hby d17_0) rfl ?_
      show Steps p.tables e below (s₁.setTop (mkF m 1 #[.val (.int p0), .unset, .unset, .unset] [(.int p0)])) _
      refine XS.sipush X0.here hx rfl (hb hby d17_1) ?_
      show Steps p.tables e below (s₁.setTop (mkF m 4 #[.val (.int p0), .unset, .unset, .unset] [(.int (256 : Int32)), (.int p0)])) _
      refine XS.icmpNo X0.here hx rfl (hb hby d17_4) rfl (tlt hc).2.1 ?_
      show Steps p.tables e below (s₁.setTop (mkF m 7 #[.val (.int p0), .unset, .unset, .unset] [])) _
      refine XS.iloadN X0.here hx rfl (hb hby d17_7) rfl ?_
      show Steps p.tables e below (s₁.setTop (mkF m 8 #[.val (.int p0), .unset, .unset, .unset] [(.int p0)])) _
      refine XS.i2l X0.here hx rfl (hb hby d17_8) rfl ?_
      show Steps p.tables e below (s₁.setTop (mkF m 9 #[.val (.int p0), .unset, .unset, .unset] [(.long (p0.toInt64))])) _
      exact retJ X0 hx hret0 (hb hby d17_9) hr
    · show QM p0 h0 n0 _ s₁.heap _
      rw [e0]
      exact ⟨_, rfl, by
        rw [Int32.lt_iff_toInt_lt] at hc
        rw [c_i2l]; unfold own_md; rw [if_pos (by omega)]; omega, N0, rfl⟩
  · skip
    obtain ⟨fs, hr, hrun, hended, hW, hsame⟩ := X0.leave (v := some (.long ((((((p0 - (256 : Int32)) % (128 : Int32)) + (128 : Int32)).toInt64) <<< ((((p0 - (256 : Int32)) / (128 : Int32)) + (1 : Int32)) &&& 0x3f).toInt64) + (((1 : Int64) <<< ((((p0 - (256 : Int32)) / (128 : Int32)) + (1 : Int32)) &&& 0x3f).toInt64) / (2 : Int64))))) (fun h => by rw [hret0] at h; cases h)
    refine ⟨_, _, pre0 _ ?_, hrun, hended, _, _, rfl, ?_, ⟨_, rfl⟩, hW, hsame.mono (by decide) (by decide)⟩
    · show Steps p.tables e below (s₁.setTop (mkF m 0 #[.val (.int p0), .unset, .unset, .unset] [])) _
      refine XS.iloadN X0.here hx rfl (hb hby d17_0) rfl ?_
      show Steps p.tables e below (s₁.setTop (mkF m 1 #[.val (.int p0), .unset, .unset, .unset] [(.int p0)])) _
      refine XS.sipush X0.here hx rfl (hb hby d17_1) ?_
      show Steps p.tables e below (s₁.setTop (mkF m 4 #[.val (.int p0), .unset, .unset, .unset] [(.int (256 : Int32)), (.int p0)])) _
      refine XS.icmpYes X0.here hx rfl (pc0 := 4) (pc' := 10) rfl (hb hby d17_4) rfl (flt hc).2.1 (by decide) (by decide) ?_
      show Steps p.tables e below (s₁.setTop (mkF m 10 #[.val (.int p0), .unset, .unset, .unset] [])) _
      refine XS.iloadN X0.here hx rfl (hb hby d17_10) rfl ?_
      show Steps p.tables e below (s₁.setTop (mkF m 11 #[.val (.int p0), .unset, .unset, .unset] [(.int p0)])) _
      refine XS.sipush X0.here hx rfl (hb hby d17_11) ?_
      show Steps p.tables e below (s₁.setTop (mkF m 14 #[.val (.int p0), .unset, .unset, .unset] [(.int (256 : Int32)), (.int p0)])) _
      refine XS.isub X0.here hx rfl (hb hby d17_14) rfl ?_
      show Steps p.tables e below (s₁.setTop (mkF m 15 #[.val (.int p0), .unset, .unset, .unset] [(.int (p0 - (256 : Int32)))])) _
      refine XS.sipush X0.here hx rfl (hb hby d17_15) ?_
      show Steps p.tables e below (s₁.setTop (mkF m 18 #[.val (.int p0), .unset, .unset, .unset] [(.int (128 : Int32)), (.int (p0 - (256 : Int32)))])) _
      refine XS.idiv X0.here hx rfl (hb hby d17_18) rfl (by decide) ?_
      show Steps p.tables e below (s₁.setTop (mkF m 19 #[.val (.int p0), .unset, .unset, .unset] [(.int ((p0 - (256 : Int32)) / (128 : Int32)))])) _
      refine XS.iconst X0.here hx rfl (hb hby d17_19) ?_
      show Steps p.tables e below (s₁.setTop (mkF m 20 #[.val (.int p0), .unset, .unset, .unset] [(.int (1 : Int32)), (.int ((p0 - (256 : Int32)) / (128 : Int32)))])) _
      refine XS.iadd X0.here hx rfl (hb hby d17_20) rfl ?_
      show Steps p.tables e below (s₁.setTop (mkF m 21 #[.val (.int p0), .unset, .unset, .unset] [(.int (((p0 - (256 : Int32)) / (128 : Int32)) + (1 : Int32)))])) _
      refine XS.istoreN X0.here hx rfl (hb hby d17_21) rfl (l' := #[.val (.int p0), .val (.int (((p0 - (256 : Int32)) / (128 : Int32)) + (1 : Int32))), .unset, .unset]) rfl ?_
      show Steps p.tables e below (s₁.setTop (mkF m 22 #[.val (.int p0), .val (.int (((p0 - (256 : Int32)) / (128 : Int32)) + (1 : Int32))), .unset, .unset] [])) _
      refine XS.iloadN X0.here hx rfl (hb hby d17_22) rfl ?_
      show Steps p.tables e below (s₁.setTop (mkF m 23 #[.val (.int p0), .val (.int (((p0 - (256 : Int32)) / (128 : Int32)) + (1 : Int32))), .unset, .unset] [(.int p0)])) _
      refine XS.sipush X0.here hx rfl (hb hby d17_23) ?_
      show Steps p.tables e below (s₁.setTop (mkF m 26 #[.val (.int p0), .val (.int (((p0 - (256 : Int32)) / (128 : Int32)) + (1 : Int32))), .unset, .unset] [(.int (256 : Int32)), (.int p0)])) _
      refine XS.isub X0.here hx rfl (hb hby d17_26) rfl ?_
      show Steps p.tables e below (s₁.setTop (mkF m 27 #[.val (.int p0), .val (.int (((p0 - (256 : Int32)) / (128 : Int32)) + (1 : Int32))), .unset, .unset] [(.int (p0 - (256 : Int32)))])) _
      refine XS.sipush X0.here hx rfl (hb hby d17_27) ?_
      show Steps p.tables e below (s₁.setTop (mkF m 30 #[.val (.int p0), .val (.int (((p0 - (256 : Int32)) / (128 : Int32)) + (1 : Int32))), .unset, .unset] [(.int (128 : Int32)), (.int (p0 - (256 : Int32)))])) _
      refine Jvm.RoadKit.iremM (g := (mkF m 30 #[.val (.int p0), .val (.int (((p0 - (256 : Int32)) / (128 : Int32)) + (1 : Int32))), .unset, .unset] [(.int (128 : Int32)), (.int (p0 - (256 : Int32)))])) X0 hx rfl (hb hby d17_30) rfl (by decide) ?_
      show Steps p.tables e below (s₁.setTop (mkF m 31 #[.val (.int p0), .val (.int (((p0 - (256 : Int32)) / (128 : Int32)) + (1 : Int32))), .unset, .unset] [(.int ((p0 - (256 : Int32)) % (128 : Int32)))])) _
      refine XS.sipush X0.here hx rfl (hb hby d17_31) ?_
      show Steps p.tables e below (s₁.setTop (mkF m 34 #[.val (.int p0), .val (.int (((p0 - (256 : Int32)) / (128 : Int32)) + (1 : Int32))), .unset, .unset] [(.int (128 : Int32)), (.int ((p0 - (256 : Int32)) % (128 : Int32)))])) _
      refine XS.iadd X0.here hx rfl (hb hby d17_34) rfl ?_
      show Steps p.tables e below (s₁.setTop (mkF m 35 #[.val (.int p0), .val (.int (((p0 - (256 : Int32)) / (128 : Int32)) + (1 : Int32))), .unset, .unset] [(.int (((p0 - (256 : Int32)) % (128 : Int32)) + (128 : Int32)))])) _
      refine XS.i2l X0.here hx rfl (hb hby d17_35) rfl ?_
      show Steps p.tables e below (s₁.setTop (mkF m 36 #[.val (.int p0), .val (.int (((p0 - (256 : Int32)) / (128 : Int32)) + (1 : Int32))), .unset, .unset] [(.long ((((p0 - (256 : Int32)) % (128 : Int32)) + (128 : Int32)).toInt64))])) _
      refine XS.iloadN X0.here hx rfl (hb hby d17_36) rfl ?_
      show Steps p.tables e below (s₁.setTop (mkF m 37 #[.val (.int p0), .val (.int (((p0 - (256 : Int32)) / (128 : Int32)) + (1 : Int32))), .unset, .unset] [(.int (((p0 - (256 : Int32)) / (128 : Int32)) + (1 : Int32))), (.long ((((p0 - (256 : Int32)) % (128 : Int32)) + (128 : Int32)).toInt64))])) _
      refine XS.lshl X0.here hx rfl (hb hby d17_37) rfl ?_
      show Steps p.tables e below (s₁.setTop (mkF m 38 #[.val (.int p0), .val (.int (((p0 - (256 : Int32)) / (128 : Int32)) + (1 : Int32))), .unset, .unset] [(.long (((((p0 - (256 : Int32)) % (128 : Int32)) + (128 : Int32)).toInt64) <<< ((((p0 - (256 : Int32)) / (128 : Int32)) + (1 : Int32)) &&& 0x3f).toInt64))])) _
      refine XS.lstoreN X0.here hx rfl (hb hby d17_38) rfl (l' := #[.val (.int p0), .val (.int (((p0 - (256 : Int32)) / (128 : Int32)) + (1 : Int32))), .val (.long (((((p0 - (256 : Int32)) % (128 : Int32)) + (128 : Int32)).toInt64) <<< ((((p0 - (256 : Int32)) / (128 : Int32)) + (1 : Int32)) &&& 0x3f).toInt64)), .second]) rfl ?_
      show Steps p.tables e below (s₁.setTop (mkF m 39 #[.val (.int p0), .val (.int (((p0 - (256 : Int32)) / (128 : Int32)) + (1 : Int32))), .val (.long (((((p0 - (256 : Int32)) % (128 : Int32)) + (128 : Int32)).toInt64) <<< ((((p0 - (256 : Int32)) / (128 : Int32)) + (1 : Int32)) &&& 0x3f).toInt64)), .second] [])) _
      refine XS.lloadN X0.here hx rfl (hb hby d17_39) rfl ?_
      show Steps p.tables e below (s₁.setTop (mkF m 40 #[.val (.int p0), .val (.int (((p0 - (256 : Int32)) / (128 : Int32)) + (1 : Int32))), .val (.long (((((p0 - (256 : Int32)) % (128 : Int32)) + (128 : Int32)).toInt64) <<< ((((p0 - (256 : Int32)) / (128 : Int32)) + (1 : Int32)) &&& 0x3f).toInt64)), .second] [(.long (((((p0 - (256 : Int32)) % (128 : Int32)) + (128 : Int32)).toInt64) <<< ((((p0 - (256 : Int32)) / (128 : Int32)) + (1 : Int32)) &&& 0x3f).toInt64))])) _
      refine XS.lconst X0.here hx rfl (hb hby d17_40) ?_
      show Steps p.tables e below (s₁.setTop (mkF m 41 #[.val (.int p0), .val (.int (((p0 - (256 : Int32)) / (128 : Int32)) + (1 : Int32))), .val (.long (((((p0 - (256 : Int32)) % (128 : Int32)) + (128 : Int32)).toInt64) <<< ((((p0 - (256 : Int32)) / (128 : Int32)) + (1 : Int32)) &&& 0x3f).toInt64)), .second] [(.long (1 : Int64)), (.long (((((p0 - (256 : Int32)) % (128 : Int32)) + (128 : Int32)).toInt64) <<< ((((p0 - (256 : Int32)) / (128 : Int32)) + (1 : Int32)) &&& 0x3f).toInt64))])) _
      refine XS.iloadN X0.here hx rfl (hb hby d17_41) rfl ?_
      show Steps p.tables e below (s₁.setTop (mkF m 42 #[.val (.int p0), .val (.int (((p0 - (256 : Int32)) / (128 : Int32)) + (1 : Int32))), .val (.long (((((p0 - (256 : Int32)) % (128 : Int32)) + (128 : Int32)).toInt64) <<< ((((p0 - (256 : Int32)) / (128 : Int32)) + (1 : Int32)) &&& 0x3f).toInt64)), .second] [(.int (((p0 - (256 : Int32)) / (128 : Int32)) + (1 : Int32))), (.long (1 : Int64)), (.long (((((p0 - (256 : Int32)) % (128 : Int32)) + (128 : Int32)).toInt64) <<< ((((p0 - (256 : Int32)) / (128 : Int32)) + (1 : Int32)) &&& 0x3f).toInt64))])) _
      refine XS.lshl X0.here hx rfl (hb hby d17_42) rfl ?_
      show Steps p.tables e below (s₁.setTop (mkF m 43 #[.val (.int p0), .val (.int (((p0 - (256 : Int32)) / (128 : Int32)) + (1 : Int32))), .val (.long (((((p0 - (256 : Int32)) % (128 : Int32)) + (128 : Int32)).toInt64) <<< ((((p0 - (256 : Int32)) / (128 : Int32)) + (1 : Int32)) &&& 0x3f).toInt64)), .second] [(.long ((1 : Int64) <<< ((((p0 - (256 : Int32)) / (128 : Int32)) + (1 : Int32)) &&& 0x3f).toInt64)), (.long (((((p0 - (256 : Int32)) % (128 : Int32)) + (128 : Int32)).toInt64) <<< ((((p0 - (256 : Int32)) / (128 : Int32)) + (1 : Int32)) &&& 0x3f).toInt64))])) _
      refine X0.ldc2Long hx hown (mvT hZ (hw _ (List.mem_of_getElem? (i := 94) rfl))) (g := (mkF m 43 #[.val (.int p0), .val (.int (((p0 - (256 : Int32)) / (128 : Int32)) + (1 : Int32))), .val (.long (((((p0 - (256 : Int32)) % (128 : Int32)) + (128 : Int32)).toInt64) <<< ((((p0 - (256 : Int32)) / (128 : Int32)) + (1 : Int32)) &&& 0x3f).toInt64)), .second] [(.long ((1 : Int64) <<< ((((p0 - (256 : Int32)) / (128 : Int32)) + (1 : Int32)) &&& 0x3f).toInt64)), (.long (((((p0 - (256 : Int32)) % (128 : Int32)) + (128 : Int32)).toInt64) <<< ((((p0 - (256 : Int32)) / (128 : Int32)) + (1 : Int32)) &&& 0x3f).toInt64))])) rfl (hb hby d17_43) _ ?_
      show Steps p.tables e below (s₁.setTop (mkF m 46 #[.val (.int p0), .val (.int (((p0 - (256 : Int32)) / (128 : Int32)) + (1 : Int32))), .val (.long (((((p0 - (256 : Int32)) % (128 : Int32)) + (128 : Int32)).toInt64) <<< ((((p0 - (256 : Int32)) / (128 : Int32)) + (1 : Int32)) &&& 0x3f).toInt64)), .second] [(.long (2 : Int64)), (.long ((1 : Int64) <<< ((((p0 - (256 : Int32)) / (128 : Int32)) + (1 : Int32)) &&& 0x3f).toInt64)), (.long (((((p0 - (256 : Int32)) % (128 : Int32)) + (128 : Int32)).toInt64) <<< ((((p0 - (256 : Int32)) / (128 : Int32)) + (1 : Int32)) &&& 0x3f).toInt64))])) _
      refine XS.ldiv X0.here hx rfl (hb hby d17_46) rfl (by decide) ?_
      show Steps p.tables e below (s₁.setTop (mkF m 47 #[.val (.int p0), .val (.int (((p0 - (256 : Int32)) / (128 : Int32)) + (1 : Int32))), .val (.long (((((p0 - (256 : Int32)) % (128 : Int32)) + (128 : Int32)).toInt64) <<< ((((p0 - (256 : Int32)) / (128 : Int32)) + (1 : Int32)) &&& 0x3f).toInt64)), .second] [(.long (((1 : Int64) <<< ((((p0 - (256 : Int32)) / (128 : Int32)) + (1 : Int32)) &&& 0x3f).toInt64) / (2 : Int64))), (.long (((((p0 - (256 : Int32)) % (128 : Int32)) + (128 : Int32)).toInt64) <<< ((((p0 - (256 : Int32)) / (128 : Int32)) + (1 : Int32)) &&& 0x3f).toInt64))])) _
      refine XS.ladd X0.here hx rfl (hb hby d17_47) rfl ?_
      show Steps p.tables e below (s₁.setTop (mkF m 48 #[.val (.int p0), .val (.int (((p0 - (256 : Int32)) / (128 : Int32)) + (1 : Int32))), .val (.long (((((p0 - (256 : Int32)) % (128 : Int32)) + (128 : Int32)).toInt64) <<< ((((p0 - (256 : Int32)) / (128 : Int32)) + (1 : Int32)) &&& 0x3f).toInt64)), .second] [(.long ((((((p0 - (256 : Int32)) % (128 : Int32)) + (128 : Int32)).toInt64) <<< ((((p0 - (256 : Int32)) / (128 : Int32)) + (1 : Int32)) &&& 0x3f).toInt64) + (((1 : Int64) <<< ((((p0 - (256 : Int32)) / (128 : Int32)) + (1 : Int32)) &&& 0x3f).toInt64) / (2 : Int64))))])) _
      exact retJ X0 hx hret0 (hb hby d17_48) hr
    · show QM p0 h0 n0 _ s₁.heap _
      rw [e0]
      exact ⟨_, rfl, own_mdT (by rw [Int32.lt_iff_toInt_lt] at hc; omega) hlt, N0, rfl⟩
theorem d8_0 : decode method_3_code 0 = .ok (.lload_n 0, 1) := by decide +kernel
theorem d8_1 : decode method_3_code 1 = .ok (.ldc2_w 11, 3) := by decide +kernel
theorem d8_4 : decode method_3_code 4 = .ok (.lcmp, 1) := by decide +kernel
theorem d8_5 : decode method_3_code 5 = .ok (.ifCond .ge 5, 3) := by decide +kernel
theorem d8_8 : decode method_3_code 8 = .ok (.lload_n 0, 1) := by decide +kernel
theorem d8_9 : decode method_3_code 9 = .ok (.lreturn, 1) := by decide +kernel
theorem d8_10 : decode method_3_code 10 = .ok (.lload_n 0, 1) := by decide +kernel
theorem d8_11 : decode method_3_code 11 = .ok (.lstore_n 2, 1) := by decide +kernel
theorem d8_12 : decode method_3_code 12 = .ok (.lload_n 2, 1) := by decide +kernel
theorem d8_13 : decode method_3_code 13 = .ok (.lload_n 2, 1) := by decide +kernel
theorem d8_14 : decode method_3_code 14 = .ok (.iconst 1, 1) := by decide +kernel
theorem d8_15 : decode method_3_code 15 = .ok (.lushr, 1) := by decide +kernel
theorem d8_16 : decode method_3_code 16 = .ok (.lor, 1) := by decide +kernel
theorem d8_17 : decode method_3_code 17 = .ok (.lstore_n 2, 1) := by decide +kernel
theorem d8_18 : decode method_3_code 18 = .ok (.lload_n 2, 1) := by decide +kernel
theorem d8_19 : decode method_3_code 19 = .ok (.lload_n 2, 1) := by decide +kernel
theorem d8_20 : decode method_3_code 20 = .ok (.iconst 2, 1) := by decide +kernel
theorem d8_21 : decode method_3_code 21 = .ok (.lushr, 1) := by decide +kernel
theorem d8_22 : decode method_3_code 22 = .ok (.lor, 1) := by decide +kernel
theorem d8_23 : decode method_3_code 23 = .ok (.lstore_n 2, 1) := by decide +kernel
theorem d8_24 : decode method_3_code 24 = .ok (.lload_n 2, 1) := by decide +kernel
theorem d8_25 : decode method_3_code 25 = .ok (.lload_n 2, 1) := by decide +kernel
theorem d8_26 : decode method_3_code 26 = .ok (.iconst 4, 1) := by decide +kernel
theorem d8_27 : decode method_3_code 27 = .ok (.lushr, 1) := by decide +kernel
theorem d8_28 : decode method_3_code 28 = .ok (.lor, 1) := by decide +kernel
theorem d8_29 : decode method_3_code 29 = .ok (.lstore_n 2, 1) := by decide +kernel
theorem d8_30 : decode method_3_code 30 = .ok (.lload_n 2, 1) := by decide +kernel
theorem d8_31 : decode method_3_code 31 = .ok (.lload_n 2, 1) := by decide +kernel
theorem d8_32 : decode method_3_code 32 = .ok (.bipush 8, 2) := by decide +kernel
theorem d8_34 : decode method_3_code 34 = .ok (.lushr, 1) := by decide +kernel
theorem d8_35 : decode method_3_code 35 = .ok (.lor, 1) := by decide +kernel
theorem d8_36 : decode method_3_code 36 = .ok (.lstore_n 2, 1) := by decide +kernel
theorem d8_37 : decode method_3_code 37 = .ok (.lload_n 2, 1) := by decide +kernel
theorem d8_38 : decode method_3_code 38 = .ok (.lload_n 2, 1) := by decide +kernel
theorem d8_39 : decode method_3_code 39 = .ok (.bipush 16, 2) := by decide +kernel
theorem d8_41 : decode method_3_code 41 = .ok (.lushr, 1) := by decide +kernel
theorem d8_42 : decode method_3_code 42 = .ok (.lor, 1) := by decide +kernel
theorem d8_43 : decode method_3_code 43 = .ok (.lstore_n 2, 1) := by decide +kernel
theorem d8_44 : decode method_3_code 44 = .ok (.lload_n 2, 1) := by decide +kernel
theorem d8_45 : decode method_3_code 45 = .ok (.lload_n 2, 1) := by decide +kernel
theorem d8_46 : decode method_3_code 46 = .ok (.bipush 32, 2) := by decide +kernel
theorem d8_48 : decode method_3_code 48 = .ok (.lushr, 1) := by decide +kernel
theorem d8_49 : decode method_3_code 49 = .ok (.lor, 1) := by decide +kernel
theorem d8_50 : decode method_3_code 50 = .ok (.lstore_n 2, 1) := by decide +kernel
theorem d8_51 : decode method_3_code 51 = .ok (.lload_n 2, 1) := by decide +kernel
theorem d8_52 : decode method_3_code 52 = .ok (.lload_n 2, 1) := by decide +kernel
theorem d8_53 : decode method_3_code 53 = .ok (.iconst 1, 1) := by decide +kernel
theorem d8_54 : decode method_3_code 54 = .ok (.lushr, 1) := by decide +kernel
theorem d8_55 : decode method_3_code 55 = .ok (.lsub, 1) := by decide +kernel
theorem d8_56 : decode method_3_code 56 = .ok (.lstore 4, 2) := by decide +kernel
theorem d8_58 : decode method_3_code 58 = .ok (.lload 4, 2) := by decide +kernel
theorem d8_60 : decode method_3_code 60 = .ok (.bipush 7, 2) := by decide +kernel
theorem d8_62 : decode method_3_code 62 = .ok (.lushr, 1) := by decide +kernel
theorem d8_63 : decode method_3_code 63 = .ok (.lstore 6, 2) := by decide +kernel
theorem d8_65 : decode method_3_code 65 = .ok (.lload_n 0, 1) := by decide +kernel
theorem d8_66 : decode method_3_code 66 = .ok (.lload 6, 2) := by decide +kernel
theorem d8_68 : decode method_3_code 68 = .ok (.lneg, 1) := by decide +kernel
theorem d8_69 : decode method_3_code 69 = .ok (.land, 1) := by decide +kernel
theorem d8_70 : decode method_3_code 70 = .ok (.lload 6, 2) := by decide +kernel
theorem d8_72 : decode method_3_code 72 = .ok (.iconst 1, 1) := by decide +kernel
theorem d8_73 : decode method_3_code 73 = .ok (.lushr, 1) := by decide +kernel
theorem d8_74 : decode method_3_code 74 = .ok (.ladd, 1) := by decide +kernel
theorem d8_75 : decode method_3_code 75 = .ok (.lreturn, 1) := by decide +kernel
def QMi (p0 : Int64) (h0 : Heap) (n0 : Nat) (v : Option Value) (h : Heap) (L : List Loc) : Prop := ∃ r : Int64, v = some (.long r) ∧ r.toInt = own_md (own_bk p0.toInt.toNat) ∧ Fr n0 L ∧ h = h0
theorem own_pn_rmMi : plainName "com/example/resplice/resplice/LatencyHistogramRecordPinLaw" = true := by first | (simp [plainName, overriddenIn]; done) | decide +kernel
theorem own_ef_rmMi (m : MethodId) (p0 : Int64) : entryFrame m #[(.long p0)] 8 = (mkF m 0 #[.val (.long p0), .second, .unset, .unset, .unset, .unset, .unset, .unset] []) := by first | (simp [entryFrame, mkF, argsToLocals, Value.category]; done) | rfl
set_option maxRecDepth 65536 in
set_option maxHeartbeats 40000000 in
theorem rmMi (l : Launch) (Z : State) (a0 : Array Value) (hw : ∀ d ∈ tables_1, d.before a0 Z = true) (ws : List Jvm.Cond) (p0 : Int64) (h0 : Heap) (n0 : Nat) (Z0 : n0 ≤ h0.size) (hpos : 0 ≤ p0.toInt) :
    MetFree l (⟨"com/example/resplice/resplice/LatencyHistogramRecordPinLaw", "mid", "(J)J"⟩ : MethodName) (head1 (Jvm.Cond.code (⟨"com/example/resplice/resplice/LatencyHistogramRecordPinLaw", "mid", "(J)J"⟩ : MethodName) method_3_code 8 (some .long) :: ws) ({ frames := 0, cells := 0, slots := 0, locals := 0 } : Room)) (fun a U => a = #[(.long p0)] ∧ Z.Warmed39 U.vm ∧ U.heap = h0) (fun _ _ _ _ _ => True) (fun _ U o U' => ∃ v L, o = .returned v ∧ QMi p0 h0 n0 v U'.heap L ∧ FrameEnd U o U' L ({ frames := 0, cells := 0, slots := 0, locals := 0 } : Room).cells ({ frames := 0, cells := 0, slots := 0, locals := 0 } : Room).slots) := by
  refine MetFree.of_bodySF (plainFor_of_name own_pn_rmMi) hisR ?_
  intro p e s m args below meth c s₁ Bd hml0 hP hK
  obtain ⟨hargs, hZ, hh⟩ := hP
  have hx := Bd.exec
  have hby := Bd.bytes
  have hml : c.maxLocals = 8 := hml0
  have hown : s.vm.findClass "com/example/resplice/resplice/LatencyHistogramRecordPinLaw" = some m.cls := findClass_of_methodNamed Bd.named
  have hnm := (name_of_methodNamed Bd.named Bd.method).1
  have hlock : meth.locks = false := Bd.notSynchronized
  have hret0 := Bd.returns
  have X0 : Stand p l e ({ frames := 0, cells := 0, slots := 0, locals := 0 } : Room) s m args below meth c s₁ [] 0 0 := Stand.of_body Bd
  have e0 : s₁.heap = h0 := by rw [← hh, Bd.state]; rfl
  have N0 := Fr.nil n0
  have pre0 : ∀ t, Steps p.tables e below (s₁.setTop (mkF m 0 #[.val (.long p0), .second, .unset, .unset, .unset, .unset, .unset, .unset] [])) t → Steps p.tables e below (s₁.setTop (entryFrame m args 8)) t := fun t k => castTop (by rw [hargs]; exact own_ef_rmMi m p0) k
  clear Bd
  have e256 : (256 : Int64).toInt = 256 := rfl
  by_cases hc : p0 < (256 : Int64)
  · skip
    obtain ⟨fs, hr, hrun, hended, hW, hsame⟩ := X0.leave (v := some (.long p0)) (fun h => by rw [hret0] at h; cases h)
    refine ⟨_, _, pre0 _ ?_, hrun, hended, _, _, rfl, ?_, ⟨_, rfl⟩, hW, hsame.mono (by decide) (by decide)⟩
    · show Steps p.tables e below (s₁.setTop (mkF m 0 #[.val (.long p0), .second, .unset, .unset, .unset, .unset, .unset, .unset] [])) _
      refine XS.lloadN X0.here hx rfl (hb hby d8_0) rfl ?_
      show Steps p.tables e below (s₁.setTop (mkF m 1 #[.val (.long p0), .second, .unset, .unset, .unset, .unset, .unset, .unset] [(.long p0)])) _
      refine X0.ldc2Long hx hown (mvT hZ (hw _ (List.mem_of_getElem? (i := 41) rfl))) (g := (mkF m 1 #[.val (.long p0), .second, .unset, .unset, .unset, .unset, .unset, .unset] [(.long p0)])) rfl (hb hby d8_1) _ ?_
      show Steps p.tables e below (s₁.setTop (mkF m 4 #[.val (.long p0), .second, .unset, .unset, .unset, .unset, .unset, .unset] [(.long (256 : Int64)), (.long p0)])) _
      refine XS.lcmp X0.here hx rfl (hb hby d8_4) rfl ?_
      show Steps p.tables e below (s₁.setTop (mkF m 5 #[.val (.long p0), .second, .unset, .unset, .unset, .unset, .unset, .unset] [(.int (lcmpW p0 (256 : Int64)))])) _
      refine XS.ifNo X0.here hx rfl (hb hby d8_5) rfl ((if0 _ _).trans (tlt ((lw_lt _ _).mpr hc)).2.1) ?_
      show Steps p.tables e below (s₁.setTop (mkF m 8 #[.val (.long p0), .second, .unset, .unset, .unset, .unset, .unset, .unset] [])) _
      refine XS.lloadN X0.here hx rfl (hb hby d8_8) rfl ?_
      show Steps p.tables e below (s₁.setTop (mkF m 9 #[.val (.long p0), .second, .unset, .unset, .unset, .unset, .unset, .unset] [(.long p0)])) _
      exact retJ X0 hx hret0 (hb hby d8_9) hr
    · show QMi p0 h0 n0 _ s₁.heap _
      rw [e0]
      exact ⟨_, rfl, by
        rw [Int64.lt_iff_toInt_lt] at hc
        rw [own_md_bk, if_pos (by omega)]; omega, N0, rfl⟩
  · skip
    obtain ⟨v1, ev1, st22⟩ : ∃ (v1 : Int64), (v1 = p0 ||| ((p0.toUInt64 >>> ((1 : Int32) &&& 0x3f).toInt64.toUInt64).toInt64)) ∧ ∀ target, Steps p.tables e below (s₁.setTop (mkF m 18 #[.val (.long p0), .second, .val (.long v1), .second, .unset, .unset, .unset, .unset] [])) target → Steps p.tables e below (s₁.setTop (mkF m 12 #[.val (.long p0), .second, .val (.long p0), .second, .unset, .unset, .unset, .unset] [])) target := by
      refine ⟨(p0 ||| ((p0.toUInt64 >>> ((1 : Int32) &&& 0x3f).toInt64.toUInt64).toInt64)), rfl, fun target hk => ?_⟩
      show Steps p.tables e below (s₁.setTop (mkF m 12 #[.val (.long p0), .second, .val (.long p0), .second, .unset, .unset, .unset, .unset] [])) _
      refine XS.lloadN X0.here hx rfl (hb hby d8_12) rfl ?_
      show Steps p.tables e below (s₁.setTop (mkF m 13 #[.val (.long p0), .second, .val (.long p0), .second, .unset, .unset, .unset, .unset] [(.long p0)])) _
      refine XS.lloadN X0.here hx rfl (hb hby d8_13) rfl ?_
      show Steps p.tables e below (s₁.setTop (mkF m 14 #[.val (.long p0), .second, .val (.long p0), .second, .unset, .unset, .unset, .unset] [(.long p0), (.long p0)])) _
      refine XS.iconst X0.here hx rfl (hb hby d8_14) ?_
      show Steps p.tables e below (s₁.setTop (mkF m 15 #[.val (.long p0), .second, .val (.long p0), .second, .unset, .unset, .unset, .unset] [(.int (1 : Int32)), (.long p0), (.long p0)])) _
      refine XS.lushr X0.here hx rfl (hb hby d8_15) rfl ?_
      show Steps p.tables e below (s₁.setTop (mkF m 16 #[.val (.long p0), .second, .val (.long p0), .second, .unset, .unset, .unset, .unset] [(.long ((p0.toUInt64 >>> ((1 : Int32) &&& 0x3f).toInt64.toUInt64).toInt64)), (.long p0)])) _
      refine XS.lor X0.here hx rfl (hb hby d8_16) rfl ?_
      show Steps p.tables e below (s₁.setTop (mkF m 17 #[.val (.long p0), .second, .val (.long p0), .second, .unset, .unset, .unset, .unset] [(.long (p0 ||| ((p0.toUInt64 >>> ((1 : Int32) &&& 0x3f).toInt64.toUInt64).toInt64)))])) _
      refine XS.lstoreN X0.here hx rfl (hb hby d8_17) rfl (l' := #[.val (.long p0), .second, .val (.long (p0 ||| ((p0.toUInt64 >>> ((1 : Int32) &&& 0x3f).toInt64.toUInt64).toInt64))), .second, .unset, .unset, .unset, .unset]) rfl ?_
      exact hk
    obtain ⟨v2, ev2, st23⟩ : ∃ (v2 : Int64), (v2 = v1 ||| ((v1.toUInt64 >>> ((2 : Int32) &&& 0x3f).toInt64.toUInt64).toInt64)) ∧ ∀ target, Steps p.tables e below (s₁.setTop (mkF m 24 #[.val (.long p0), .second, .val (.long v2), .second, .unset, .unset, .unset, .unset] [])) target → Steps p.tables e below (s₁.setTop (mkF m 18 #[.val (.long p0), .second, .val (.long v1), .second, .unset, .unset, .unset, .unset] [])) target := by
      refine ⟨(v1 ||| ((v1.toUInt64 >>> ((2 : Int32) &&& 0x3f).toInt64.toUInt64).toInt64)), rfl, fun target hk => ?_⟩
      show Steps p.tables e below (s₁.setTop (mkF m 18 #[.val (.long p0), .second, .val (.long v1), .second, .unset, .unset, .unset, .unset] [])) _
      refine XS.lloadN X0.here hx rfl (hb hby d8_18) rfl ?_
      show Steps p.tables e below (s₁.setTop (mkF m 19 #[.val (.long p0), .second, .val (.long v1), .second, .unset, .unset, .unset, .unset] [(.long v1)])) _
      refine XS.lloadN X0.here hx rfl (hb hby d8_19) rfl ?_
      show Steps p.tables e below (s₁.setTop (mkF m 20 #[.val (.long p0), .second, .val (.long v1), .second, .unset, .unset, .unset, .unset] [(.long v1), (.long v1)])) _
      refine XS.iconst X0.here hx rfl (hb hby d8_20) ?_
      show Steps p.tables e below (s₁.setTop (mkF m 21 #[.val (.long p0), .second, .val (.long v1), .second, .unset, .unset, .unset, .unset] [(.int (2 : Int32)), (.long v1), (.long v1)])) _
      refine XS.lushr X0.here hx rfl (hb hby d8_21) rfl ?_
      show Steps p.tables e below (s₁.setTop (mkF m 22 #[.val (.long p0), .second, .val (.long v1), .second, .unset, .unset, .unset, .unset] [(.long ((v1.toUInt64 >>> ((2 : Int32) &&& 0x3f).toInt64.toUInt64).toInt64)), (.long v1)])) _
      refine XS.lor X0.here hx rfl (hb hby d8_22) rfl ?_
      show Steps p.tables e below (s₁.setTop (mkF m 23 #[.val (.long p0), .second, .val (.long v1), .second, .unset, .unset, .unset, .unset] [(.long (v1 ||| ((v1.toUInt64 >>> ((2 : Int32) &&& 0x3f).toInt64.toUInt64).toInt64)))])) _
      refine XS.lstoreN X0.here hx rfl (hb hby d8_23) rfl (l' := #[.val (.long p0), .second, .val (.long (v1 ||| ((v1.toUInt64 >>> ((2 : Int32) &&& 0x3f).toInt64.toUInt64).toInt64))), .second, .unset, .unset, .unset, .unset]) rfl ?_
      exact hk
    obtain ⟨v3, ev3, st24⟩ : ∃ (v3 : Int64), (v3 = v2 ||| ((v2.toUInt64 >>> ((4 : Int32) &&& 0x3f).toInt64.toUInt64).toInt64)) ∧ ∀ target, Steps p.tables e below (s₁.setTop (mkF m 30 #[.val (.long p0), .second, .val (.long v3), .second, .unset, .unset, .unset, .unset] [])) target → Steps p.tables e below (s₁.setTop (mkF m 24 #[.val (.long p0), .second, .val (.long v2), .second, .unset, .unset, .unset, .unset] [])) target := by
      refine ⟨(v2 ||| ((v2.toUInt64 >>> ((4 : Int32) &&& 0x3f).toInt64.toUInt64).toInt64)), rfl, fun target hk => ?_⟩
      show Steps p.tables e below (s₁.setTop (mkF m 24 #[.val (.long p0), .second, .val (.long v2), .second, .unset, .unset, .unset, .unset] [])) _
      refine XS.lloadN X0.here hx rfl (hb hby d8_24) rfl ?_
      show Steps p.tables e below (s₁.setTop (mkF m 25 #[.val (.long p0), .second, .val (.long v2), .second, .unset, .unset, .unset, .unset] [(.long v2)])) _
      refine XS.lloadN X0.here hx rfl (hb hby d8_25) rfl ?_
      show Steps p.tables e below (s₁.setTop (mkF m 26 #[.val (.long p0), .second, .val (.long v2), .second, .unset, .unset, .unset, .unset] [(.long v2), (.long v2)])) _
      refine XS.iconst X0.here hx rfl (hb hby d8_26) ?_
      show Steps p.tables e below (s₁.setTop (mkF m 27 #[.val (.long p0), .second, .val (.long v2), .second, .unset, .unset, .unset, .unset] [(.int (4 : Int32)), (.long v2), (.long v2)])) _
      refine XS.lushr X0.here hx rfl (hb hby d8_27) rfl ?_
      show Steps p.tables e below (s₁.setTop (mkF m 28 #[.val (.long p0), .second, .val (.long v2), .second, .unset, .unset, .unset, .unset] [(.long ((v2.toUInt64 >>> ((4 : Int32) &&& 0x3f).toInt64.toUInt64).toInt64)), (.long v2)])) _
      refine XS.lor X0.here hx rfl (hb hby d8_28) rfl ?_
      show Steps p.tables e below (s₁.setTop (mkF m 29 #[.val (.long p0), .second, .val (.long v2), .second, .unset, .unset, .unset, .unset] [(.long (v2 ||| ((v2.toUInt64 >>> ((4 : Int32) &&& 0x3f).toInt64.toUInt64).toInt64)))])) _
      refine XS.lstoreN X0.here hx rfl (hb hby d8_29) rfl (l' := #[.val (.long p0), .second, .val (.long (v2 ||| ((v2.toUInt64 >>> ((4 : Int32) &&& 0x3f).toInt64.toUInt64).toInt64))), .second, .unset, .unset, .unset, .unset]) rfl ?_
      exact hk
    obtain ⟨v4, ev4, st25⟩ : ∃ (v4 : Int64), (v4 = v3 ||| ((v3.toUInt64 >>> ((8 : Int32) &&& 0x3f).toInt64.toUInt64).toInt64)) ∧ ∀ target, Steps p.tables e below (s₁.setTop (mkF m 37 #[.val (.long p0), .second, .val (.long v4), .second, .unset, .unset, .unset, .unset] [])) target → Steps p.tables e below (s₁.setTop (mkF m 30 #[.val (.long p0), .second, .val (.long v3), .second, .unset, .unset, .unset, .unset] [])) target := by
      refine ⟨(v3 ||| ((v3.toUInt64 >>> ((8 : Int32) &&& 0x3f).toInt64.toUInt64).toInt64)), rfl, fun target hk => ?_⟩
      show Steps p.tables e below (s₁.setTop (mkF m 30 #[.val (.long p0), .second, .val (.long v3), .second, .unset, .unset, .unset, .unset] [])) _
      refine XS.lloadN X0.here hx rfl (hb hby d8_30) rfl ?_
      show Steps p.tables e below (s₁.setTop (mkF m 31 #[.val (.long p0), .second, .val (.long v3), .second, .unset, .unset, .unset, .unset] [(.long v3)])) _
      refine XS.lloadN X0.here hx rfl (hb hby d8_31) rfl ?_
      show Steps p.tables e below (s₁.setTop (mkF m 32 #[.val (.long p0), .second, .val (.long v3), .second, .unset, .unset, .unset, .unset] [(.long v3), (.long v3)])) _
      refine XS.bipush X0.here hx rfl (hb hby d8_32) ?_
      show Steps p.tables e below (s₁.setTop (mkF m 34 #[.val (.long p0), .second, .val (.long v3), .second, .unset, .unset, .unset, .unset] [(.int (8 : Int32)), (.long v3), (.long v3)])) _
      refine XS.lushr X0.here hx rfl (hb hby d8_34) rfl ?_
      show Steps p.tables e below (s₁.setTop (mkF m 35 #[.val (.long p0), .second, .val (.long v3), .second, .unset, .unset, .unset, .unset] [(.long ((v3.toUInt64 >>> ((8 : Int32) &&& 0x3f).toInt64.toUInt64).toInt64)), (.long v3)])) _
      refine XS.lor X0.here hx rfl (hb hby d8_35) rfl ?_
      show Steps p.tables e below (s₁.setTop (mkF m 36 #[.val (.long p0), .second, .val (.long v3), .second, .unset, .unset, .unset, .unset] [(.long (v3 ||| ((v3.toUInt64 >>> ((8 : Int32) &&& 0x3f).toInt64.toUInt64).toInt64)))])) _
      refine XS.lstoreN X0.here hx rfl (hb hby d8_36) rfl (l' := #[.val (.long p0), .second, .val (.long (v3 ||| ((v3.toUInt64 >>> ((8 : Int32) &&& 0x3f).toInt64.toUInt64).toInt64))), .second, .unset, .unset, .unset, .unset]) rfl ?_
      exact hk
    obtain ⟨v5, ev5, st26⟩ : ∃ (v5 : Int64), (v5 = v4 ||| ((v4.toUInt64 >>> ((16 : Int32) &&& 0x3f).toInt64.toUInt64).toInt64)) ∧ ∀ target, Steps p.tables e below (s₁.setTop (mkF m 44 #[.val (.long p0), .second, .val (.long v5), .second, .unset, .unset, .unset, .unset] [])) target → Steps p.tables e below (s₁.setTop (mkF m 37 #[.val (.long p0), .second, .val (.long v4), .second, .unset, .unset, .unset, .unset] [])) target := by
      refine ⟨(v4 ||| ((v4.toUInt64 >>> ((16 : Int32) &&& 0x3f).toInt64.toUInt64).toInt64)), rfl, fun target hk => ?_⟩
      show Steps p.tables e below (s₁.setTop (mkF m 37 #[.val (.long p0), .second, .val (.long v4), .second, .unset, .unset, .unset, .unset] [])) _
      refine XS.lloadN X0.here hx rfl (hb hby d8_37) rfl ?_
      show Steps p.tables e below (s₁.setTop (mkF m 38 #[.val (.long p0), .second, .val (.long v4), .second, .unset, .unset, .unset, .unset] [(.long v4)])) _
      refine XS.lloadN X0.here hx rfl (hb hby d8_38) rfl ?_
      show Steps p.tables e below (s₁.setTop (mkF m 39 #[.val (.long p0), .second, .val (.long v4), .second, .unset, .unset, .unset, .unset] [(.long v4), (.long v4)])) _
      refine XS.bipush X0.here hx rfl (hb hby d8_39) ?_
      show Steps p.tables e below (s₁.setTop (mkF m 41 #[.val (.long p0), .second, .val (.long v4), .second, .unset, .unset, .unset, .unset] [(.int (16 : Int32)), (.long v4), (.long v4)])) _
      refine XS.lushr X0.here hx rfl (hb hby d8_41) rfl ?_
      show Steps p.tables e below (s₁.setTop (mkF m 42 #[.val (.long p0), .second, .val (.long v4), .second, .unset, .unset, .unset, .unset] [(.long ((v4.toUInt64 >>> ((16 : Int32) &&& 0x3f).toInt64.toUInt64).toInt64)), (.long v4)])) _
      refine XS.lor X0.here hx rfl (hb hby d8_42) rfl ?_
      show Steps p.tables e below (s₁.setTop (mkF m 43 #[.val (.long p0), .second, .val (.long v4), .second, .unset, .unset, .unset, .unset] [(.long (v4 ||| ((v4.toUInt64 >>> ((16 : Int32) &&& 0x3f).toInt64.toUInt64).toInt64)))])) _
      refine XS.lstoreN X0.here hx rfl (hb hby d8_43) rfl (l' := #[.val (.long p0), .second, .val (.long (v4 ||| ((v4.toUInt64 >>> ((16 : Int32) &&& 0x3f).toInt64.toUInt64).toInt64))), .second, .unset, .unset, .unset, .unset]) rfl ?_
      exact hk
    obtain ⟨v6, ev6, st27⟩ : ∃ (v6 : Int64), (v6 = v5 ||| ((v5.toUInt64 >>> ((32 : Int32) &&& 0x3f).toInt64.toUInt64).toInt64)) ∧ ∀ target, Steps p.tables e below (s₁.setTop (mkF m 51 #[.val (.long p0), .second, .val (.long v6), .second, .unset, .unset, .unset, .unset] [])) target → Steps p.tables e below (s₁.setTop (mkF m 44 #[.val (.long p0), .second, .val (.long v5), .second, .unset, .unset, .unset, .unset] [])) target := by
      refine ⟨(v5 ||| ((v5.toUInt64 >>> ((32 : Int32) &&& 0x3f).toInt64.toUInt64).toInt64)), rfl, fun target hk => ?_⟩
      show Steps p.tables e below (s₁.setTop (mkF m 44 #[.val (.long p0), .second, .val (.long v5), .second, .unset, .unset, .unset, .unset] [])) _
      refine XS.lloadN X0.here hx rfl (hb hby d8_44) rfl ?_
      show Steps p.tables e below (s₁.setTop (mkF m 45 #[.val (.long p0), .second, .val (.long v5), .second, .unset, .unset, .unset, .unset] [(.long v5)])) _
      refine XS.lloadN X0.here hx rfl (hb hby d8_45) rfl ?_
      show Steps p.tables e below (s₁.setTop (mkF m 46 #[.val (.long p0), .second, .val (.long v5), .second, .unset, .unset, .unset, .unset] [(.long v5), (.long v5)])) _
      refine XS.bipush X0.here hx rfl (hb hby d8_46) ?_
      show Steps p.tables e below (s₁.setTop (mkF m 48 #[.val (.long p0), .second, .val (.long v5), .second, .unset, .unset, .unset, .unset] [(.int (32 : Int32)), (.long v5), (.long v5)])) _
      refine XS.lushr X0.here hx rfl (hb hby d8_48) rfl ?_
      show Steps p.tables e below (s₁.setTop (mkF m 49 #[.val (.long p0), .second, .val (.long v5), .second, .unset, .unset, .unset, .unset] [(.long ((v5.toUInt64 >>> ((32 : Int32) &&& 0x3f).toInt64.toUInt64).toInt64)), (.long v5)])) _
      refine XS.lor X0.here hx rfl (hb hby d8_49) rfl ?_
      show Steps p.tables e below (s₁.setTop (mkF m 50 #[.val (.long p0), .second, .val (.long v5), .second, .unset, .unset, .unset, .unset] [(.long (v5 ||| ((v5.toUInt64 >>> ((32 : Int32) &&& 0x3f).toInt64.toUInt64).toInt64)))])) _
      refine XS.lstoreN X0.here hx rfl (hb hby d8_50) rfl (l' := #[.val (.long p0), .second, .val (.long (v5 ||| ((v5.toUInt64 >>> ((32 : Int32) &&& 0x3f).toInt64.toUInt64).toInt64))), .second, .unset, .unset, .unset, .unset]) rfl ?_
      exact hk
    obtain ⟨fs, hr, hrun, hended, hW, hsame⟩ := X0.leave (v := some (.long ((p0 &&& (-(((v6 - ((v6.toUInt64 >>> ((1 : Int32) &&& 0x3f).toInt64.toUInt64).toInt64)).toUInt64 >>> ((7 : Int32) &&& 0x3f).toInt64.toUInt64).toInt64))) + (((((v6 - ((v6.toUInt64 >>> ((1 : Int32) &&& 0x3f).toInt64.toUInt64).toInt64)).toUInt64 >>> ((7 : Int32) &&& 0x3f).toInt64.toUInt64).toInt64).toUInt64 >>> ((1 : Int32) &&& 0x3f).toInt64.toUInt64).toInt64)))) (fun h => by rw [hret0] at h; cases h)
    refine ⟨_, _, pre0 _ ?_, hrun, hended, _, _, rfl, ?_, ⟨_, rfl⟩, hW, hsame.mono (by decide) (by decide)⟩
    · show Steps p.tables e below (s₁.setTop (mkF m 0 #[.val (.long p0), .second, .unset, .unset, .unset, .unset, .unset, .unset] [])) _
      refine XS.lloadN X0.here hx rfl (hb hby d8_0) rfl ?_
      show Steps p.tables e below (s₁.setTop (mkF m 1 #[.val (.long p0), .second, .unset, .unset, .unset, .unset, .unset, .unset] [(.long p0)])) _
      refine X0.ldc2Long hx hown (mvT hZ (hw _ (List.mem_of_getElem? (i := 41) rfl))) (g := (mkF m 1 #[.val (.long p0), .second, .unset, .unset, .unset, .unset, .unset, .unset] [(.long p0)])) rfl (hb hby d8_1) _ ?_
      show Steps p.tables e below (s₁.setTop (mkF m 4 #[.val (.long p0), .second, .unset, .unset, .unset, .unset, .unset, .unset] [(.long (256 : Int64)), (.long p0)])) _
      refine XS.lcmp X0.here hx rfl (hb hby d8_4) rfl ?_
      show Steps p.tables e below (s₁.setTop (mkF m 5 #[.val (.long p0), .second, .unset, .unset, .unset, .unset, .unset, .unset] [(.int (lcmpW p0 (256 : Int64)))])) _
      refine XS.ifYes X0.here hx rfl (pc0 := 5) (pc' := 10) rfl (hb hby d8_5) rfl ((if0 _ _).trans (flt (mt (lw_lt _ _).mp hc)).2.1) (by decide) (by decide) ?_
      show Steps p.tables e below (s₁.setTop (mkF m 10 #[.val (.long p0), .second, .unset, .unset, .unset, .unset, .unset, .unset] [])) _
      refine XS.lloadN X0.here hx rfl (hb hby d8_10) rfl ?_
      show Steps p.tables e below (s₁.setTop (mkF m 11 #[.val (.long p0), .second, .unset, .unset, .unset, .unset, .unset, .unset] [(.long p0)])) _
      refine XS.lstoreN X0.here hx rfl (hb hby d8_11) rfl (l' := #[.val (.long p0), .second, .val (.long p0), .second, .unset, .unset, .unset, .unset]) rfl ?_
      show Steps p.tables e below (s₁.setTop (mkF m 12 #[.val (.long p0), .second, .val (.long p0), .second, .unset, .unset, .unset, .unset] [])) _
      refine st22 _ ?_
      show Steps p.tables e below (s₁.setTop (mkF m 18 #[.val (.long p0), .second, .val (.long v1), .second, .unset, .unset, .unset, .unset] [])) _
      refine st23 _ ?_
      show Steps p.tables e below (s₁.setTop (mkF m 24 #[.val (.long p0), .second, .val (.long v2), .second, .unset, .unset, .unset, .unset] [])) _
      refine st24 _ ?_
      show Steps p.tables e below (s₁.setTop (mkF m 30 #[.val (.long p0), .second, .val (.long v3), .second, .unset, .unset, .unset, .unset] [])) _
      refine st25 _ ?_
      show Steps p.tables e below (s₁.setTop (mkF m 37 #[.val (.long p0), .second, .val (.long v4), .second, .unset, .unset, .unset, .unset] [])) _
      refine st26 _ ?_
      show Steps p.tables e below (s₁.setTop (mkF m 44 #[.val (.long p0), .second, .val (.long v5), .second, .unset, .unset, .unset, .unset] [])) _
      refine st27 _ ?_
      show Steps p.tables e below (s₁.setTop (mkF m 51 #[.val (.long p0), .second, .val (.long v6), .second, .unset, .unset, .unset, .unset] [])) _
      refine XS.lloadN X0.here hx rfl (hb hby d8_51) rfl ?_
      show Steps p.tables e below (s₁.setTop (mkF m 52 #[.val (.long p0), .second, .val (.long v6), .second, .unset, .unset, .unset, .unset] [(.long v6)])) _
      refine XS.lloadN X0.here hx rfl (hb hby d8_52) rfl ?_
      show Steps p.tables e below (s₁.setTop (mkF m 53 #[.val (.long p0), .second, .val (.long v6), .second, .unset, .unset, .unset, .unset] [(.long v6), (.long v6)])) _
      refine XS.iconst X0.here hx rfl (hb hby d8_53) ?_
      show Steps p.tables e below (s₁.setTop (mkF m 54 #[.val (.long p0), .second, .val (.long v6), .second, .unset, .unset, .unset, .unset] [(.int (1 : Int32)), (.long v6), (.long v6)])) _
      refine XS.lushr X0.here hx rfl (hb hby d8_54) rfl ?_
      show Steps p.tables e below (s₁.setTop (mkF m 55 #[.val (.long p0), .second, .val (.long v6), .second, .unset, .unset, .unset, .unset] [(.long ((v6.toUInt64 >>> ((1 : Int32) &&& 0x3f).toInt64.toUInt64).toInt64)), (.long v6)])) _
      refine XS.lsub X0.here hx rfl (hb hby d8_55) rfl ?_
      show Steps p.tables e below (s₁.setTop (mkF m 56 #[.val (.long p0), .second, .val (.long v6), .second, .unset, .unset, .unset, .unset] [(.long (v6 - ((v6.toUInt64 >>> ((1 : Int32) &&& 0x3f).toInt64.toUInt64).toInt64)))])) _
      refine XS.lstore X0.here hx rfl (hb hby d8_56) rfl (l' := #[.val (.long p0), .second, .val (.long v6), .second, .val (.long (v6 - ((v6.toUInt64 >>> ((1 : Int32) &&& 0x3f).toInt64.toUInt64).toInt64))), .second, .unset, .unset]) rfl ?_
      show Steps p.tables e below (s₁.setTop (mkF m 58 #[.val (.long p0), .second, .val (.long v6), .second, .val (.long (v6 - ((v6.toUInt64 >>> ((1 : Int32) &&& 0x3f).toInt64.toUInt64).toInt64))), .second, .unset, .unset] [])) _
      refine XS.lload X0.here hx rfl (hb hby d8_58) rfl ?_
      show Steps p.tables e below (s₁.setTop (mkF m 60 #[.val (.long p0), .second, .val (.long v6), .second, .val (.long (v6 - ((v6.toUInt64 >>> ((1 : Int32) &&& 0x3f).toInt64.toUInt64).toInt64))), .second, .unset, .unset] [(.long (v6 - ((v6.toUInt64 >>> ((1 : Int32) &&& 0x3f).toInt64.toUInt64).toInt64)))])) _
      refine XS.bipush X0.here hx rfl (hb hby d8_60) ?_
      show Steps p.tables e below (s₁.setTop (mkF m 62 #[.val (.long p0), .second, .val (.long v6), .second, .val (.long (v6 - ((v6.toUInt64 >>> ((1 : Int32) &&& 0x3f).toInt64.toUInt64).toInt64))), .second, .unset, .unset] [(.int (7 : Int32)), (.long (v6 - ((v6.toUInt64 >>> ((1 : Int32) &&& 0x3f).toInt64.toUInt64).toInt64)))])) _
      refine XS.lushr X0.here hx rfl (hb hby d8_62) rfl ?_
      show Steps p.tables e below (s₁.setTop (mkF m 63 #[.val (.long p0), .second, .val (.long v6), .second, .val (.long (v6 - ((v6.toUInt64 >>> ((1 : Int32) &&& 0x3f).toInt64.toUInt64).toInt64))), .second, .unset, .unset] [(.long (((v6 - ((v6.toUInt64 >>> ((1 : Int32) &&& 0x3f).toInt64.toUInt64).toInt64)).toUInt64 >>> ((7 : Int32) &&& 0x3f).toInt64.toUInt64).toInt64))])) _
      refine XS.lstore X0.here hx rfl (hb hby d8_63) rfl (l' := #[.val (.long p0), .second, .val (.long v6), .second, .val (.long (v6 - ((v6.toUInt64 >>> ((1 : Int32) &&& 0x3f).toInt64.toUInt64).toInt64))), .second, .val (.long (((v6 - ((v6.toUInt64 >>> ((1 : Int32) &&& 0x3f).toInt64.toUInt64).toInt64)).toUInt64 >>> ((7 : Int32) &&& 0x3f).toInt64.toUInt64).toInt64)), .second]) rfl ?_
      show Steps p.tables e below (s₁.setTop (mkF m 65 #[.val (.long p0), .second, .val (.long v6), .second, .val (.long (v6 - ((v6.toUInt64 >>> ((1 : Int32) &&& 0x3f).toInt64.toUInt64).toInt64))), .second, .val (.long (((v6 - ((v6.toUInt64 >>> ((1 : Int32) &&& 0x3f).toInt64.toUInt64).toInt64)).toUInt64 >>> ((7 : Int32) &&& 0x3f).toInt64.toUInt64).toInt64)), .second] [])) _
      refine XS.lloadN X0.here hx rfl (hb hby d8_65) rfl ?_
      show Steps p.tables e below (s₁.setTop (mkF m 66 #[.val (.long p0), .second, .val (.long v6), .second, .val (.long (v6 - ((v6.toUInt64 >>> ((1 : Int32) &&& 0x3f).toInt64.toUInt64).toInt64))), .second, .val (.long (((v6 - ((v6.toUInt64 >>> ((1 : Int32) &&& 0x3f).toInt64.toUInt64).toInt64)).toUInt64 >>> ((7 : Int32) &&& 0x3f).toInt64.toUInt64).toInt64)), .second] [(.long p0)])) _
      refine XS.lload X0.here hx rfl (hb hby d8_66) rfl ?_
      show Steps p.tables e below (s₁.setTop (mkF m 68 #[.val (.long p0), .second, .val (.long v6), .second, .val (.long (v6 - ((v6.toUInt64 >>> ((1 : Int32) &&& 0x3f).toInt64.toUInt64).toInt64))), .second, .val (.long (((v6 - ((v6.toUInt64 >>> ((1 : Int32) &&& 0x3f).toInt64.toUInt64).toInt64)).toUInt64 >>> ((7 : Int32) &&& 0x3f).toInt64.toUInt64).toInt64)), .second] [(.long (((v6 - ((v6.toUInt64 >>> ((1 : Int32) &&& 0x3f).toInt64.toUInt64).toInt64)).toUInt64 >>> ((7 : Int32) &&& 0x3f).toInt64.toUInt64).toInt64)), (.long p0)])) _
      refine XS.lneg X0.here hx rfl (hb hby d8_68) rfl ?_
      show Steps p.tables e below (s₁.setTop (mkF m 69 #[.val (.long p0), .second, .val (.long v6), .second, .val (.long (v6 - ((v6.toUInt64 >>> ((1 : Int32) &&& 0x3f).toInt64.toUInt64).toInt64))), .second, .val (.long (((v6 - ((v6.toUInt64 >>> ((1 : Int32) &&& 0x3f).toInt64.toUInt64).toInt64)).toUInt64 >>> ((7 : Int32) &&& 0x3f).toInt64.toUInt64).toInt64)), .second] [(.long (-(((v6 - ((v6.toUInt64 >>> ((1 : Int32) &&& 0x3f).toInt64.toUInt64).toInt64)).toUInt64 >>> ((7 : Int32) &&& 0x3f).toInt64.toUInt64).toInt64))), (.long p0)])) _
      refine XS.land X0.here hx rfl (hb hby d8_69) rfl ?_
      show Steps p.tables e below (s₁.setTop (mkF m 70 #[.val (.long p0), .second, .val (.long v6), .second, .val (.long (v6 - ((v6.toUInt64 >>> ((1 : Int32) &&& 0x3f).toInt64.toUInt64).toInt64))), .second, .val (.long (((v6 - ((v6.toUInt64 >>> ((1 : Int32) &&& 0x3f).toInt64.toUInt64).toInt64)).toUInt64 >>> ((7 : Int32) &&& 0x3f).toInt64.toUInt64).toInt64)), .second] [(.long (p0 &&& (-(((v6 - ((v6.toUInt64 >>> ((1 : Int32) &&& 0x3f).toInt64.toUInt64).toInt64)).toUInt64 >>> ((7 : Int32) &&& 0x3f).toInt64.toUInt64).toInt64))))])) _
      refine XS.lload X0.here hx rfl (hb hby d8_70) rfl ?_
      show Steps p.tables e below (s₁.setTop (mkF m 72 #[.val (.long p0), .second, .val (.long v6), .second, .val (.long (v6 - ((v6.toUInt64 >>> ((1 : Int32) &&& 0x3f).toInt64.toUInt64).toInt64))), .second, .val (.long (((v6 - ((v6.toUInt64 >>> ((1 : Int32) &&& 0x3f).toInt64.toUInt64).toInt64)).toUInt64 >>> ((7 : Int32) &&& 0x3f).toInt64.toUInt64).toInt64)), .second] [(.long (((v6 - ((v6.toUInt64 >>> ((1 : Int32) &&& 0x3f).toInt64.toUInt64).toInt64)).toUInt64 >>> ((7 : Int32) &&& 0x3f).toInt64.toUInt64).toInt64)), (.long (p0 &&& (-(((v6 - ((v6.toUInt64 >>> ((1 : Int32) &&& 0x3f).toInt64.toUInt64).toInt64)).toUInt64 >>> ((7 : Int32) &&& 0x3f).toInt64.toUInt64).toInt64))))])) _
      refine XS.iconst X0.here hx rfl (hb hby d8_72) ?_
      show Steps p.tables e below (s₁.setTop (mkF m 73 #[.val (.long p0), .second, .val (.long v6), .second, .val (.long (v6 - ((v6.toUInt64 >>> ((1 : Int32) &&& 0x3f).toInt64.toUInt64).toInt64))), .second, .val (.long (((v6 - ((v6.toUInt64 >>> ((1 : Int32) &&& 0x3f).toInt64.toUInt64).toInt64)).toUInt64 >>> ((7 : Int32) &&& 0x3f).toInt64.toUInt64).toInt64)), .second] [(.int (1 : Int32)), (.long (((v6 - ((v6.toUInt64 >>> ((1 : Int32) &&& 0x3f).toInt64.toUInt64).toInt64)).toUInt64 >>> ((7 : Int32) &&& 0x3f).toInt64.toUInt64).toInt64)), (.long (p0 &&& (-(((v6 - ((v6.toUInt64 >>> ((1 : Int32) &&& 0x3f).toInt64.toUInt64).toInt64)).toUInt64 >>> ((7 : Int32) &&& 0x3f).toInt64.toUInt64).toInt64))))])) _
      refine XS.lushr X0.here hx rfl (hb hby d8_73) rfl ?_
      show Steps p.tables e below (s₁.setTop (mkF m 74 #[.val (.long p0), .second, .val (.long v6), .second, .val (.long (v6 - ((v6.toUInt64 >>> ((1 : Int32) &&& 0x3f).toInt64.toUInt64).toInt64))), .second, .val (.long (((v6 - ((v6.toUInt64 >>> ((1 : Int32) &&& 0x3f).toInt64.toUInt64).toInt64)).toUInt64 >>> ((7 : Int32) &&& 0x3f).toInt64.toUInt64).toInt64)), .second] [(.long (((((v6 - ((v6.toUInt64 >>> ((1 : Int32) &&& 0x3f).toInt64.toUInt64).toInt64)).toUInt64 >>> ((7 : Int32) &&& 0x3f).toInt64.toUInt64).toInt64).toUInt64 >>> ((1 : Int32) &&& 0x3f).toInt64.toUInt64).toInt64)), (.long (p0 &&& (-(((v6 - ((v6.toUInt64 >>> ((1 : Int32) &&& 0x3f).toInt64.toUInt64).toInt64)).toUInt64 >>> ((7 : Int32) &&& 0x3f).toInt64.toUInt64).toInt64))))])) _
      refine XS.ladd X0.here hx rfl (hb hby d8_74) rfl ?_
      show Steps p.tables e below (s₁.setTop (mkF m 75 #[.val (.long p0), .second, .val (.long v6), .second, .val (.long (v6 - ((v6.toUInt64 >>> ((1 : Int32) &&& 0x3f).toInt64.toUInt64).toInt64))), .second, .val (.long (((v6 - ((v6.toUInt64 >>> ((1 : Int32) &&& 0x3f).toInt64.toUInt64).toInt64)).toUInt64 >>> ((7 : Int32) &&& 0x3f).toInt64.toUInt64).toInt64)), .second] [(.long ((p0 &&& (-(((v6 - ((v6.toUInt64 >>> ((1 : Int32) &&& 0x3f).toInt64.toUInt64).toInt64)).toUInt64 >>> ((7 : Int32) &&& 0x3f).toInt64.toUInt64).toInt64))) + (((((v6 - ((v6.toUInt64 >>> ((1 : Int32) &&& 0x3f).toInt64.toUInt64).toInt64)).toUInt64 >>> ((7 : Int32) &&& 0x3f).toInt64.toUInt64).toInt64).toUInt64 >>> ((1 : Int32) &&& 0x3f).toInt64.toUInt64).toInt64)))])) _
      exact retJ X0 hx hret0 (hb hby d8_75) hr
    · show QMi p0 h0 n0 _ s₁.heap _
      rw [e0]
      exact ⟨_, rfl, own_mid p0 v1 v2 v3 v4 v5 v6 hpos (fun q => hc (Int64.lt_iff_toInt_lt.mpr q)) ev1 ev2 ev3 ev4 ev5 ev6, N0, rfl⟩
theorem d9_0 : decode jdk_29_method_70_code 0 = .ok (.lload_n 0, 1) := by decide +kernel
theorem d9_1 : decode jdk_29_method_70_code 1 = .ok (.lload_n 2, 1) := by decide +kernel
theorem d9_2 : decode jdk_29_method_70_code 2 = .ok (.lcmp, 1) := by decide +kernel
theorem d9_3 : decode jdk_29_method_70_code 3 = .ok (.ifCond .gt 7, 3) := by decide +kernel
theorem d9_6 : decode jdk_29_method_70_code 6 = .ok (.lload_n 0, 1) := by decide +kernel
theorem d9_7 : decode jdk_29_method_70_code 7 = .ok (.goto 4, 3) := by decide +kernel
theorem d9_10 : decode jdk_29_method_70_code 10 = .ok (.lload_n 2, 1) := by decide +kernel
theorem d9_11 : decode jdk_29_method_70_code 11 = .ok (.lreturn, 1) := by decide +kernel
def QJmin (p0 p1 : Int64) (h0 : Heap) (n0 : Nat) (v : Option Value) (h : Heap) (L : List Loc) : Prop := v = some (.long (if p1 < p0 then p1 else p0)) ∧ Fr n0 L ∧ h = h0
theorem own_ef_rmJmin (m : MethodId) (p0 : Int64) (p1 : Int64) : entryFrame m #[(.long p0), (.long p1)] 4 = (mkF m 0 #[.val (.long p0), .second, .val (.long p1), .second] []) := by first | (simp [entryFrame, mkF, argsToLocals, Value.category]; done) | rfl
set_option maxRecDepth 65536 in
set_option maxHeartbeats 40000000 in
theorem rmJmin (l : Launch) (Z : State) (a0 : Array Value) (hw : ∀ d ∈ tables_1, d.before a0 Z = true) (ws : List Jvm.Cond) (p0 : Int64) (p1 : Int64) (h0 : Heap) (n0 : Nat) (Z0 : n0 ≤ h0.size) :
    MetFree l (⟨"java/lang/Math", "min", "(JJ)J"⟩ : MethodName) (head1 (Jvm.Cond.code (⟨"java/lang/Math", "min", "(JJ)J"⟩ : MethodName) jdk_29_method_70_code 4 (some .long) :: ws) ({ frames := 0, cells := 0, slots := 0, locals := 0 } : Room)) (fun a U => a = #[(.long p0), (.long p1)] ∧ Z.Warmed39 U.vm ∧ U.heap = h0) (fun _ _ _ _ _ => True) (fun _ U o U' => ∃ v L, o = .returned v ∧ QJmin p0 p1 h0 n0 v U'.heap L ∧ FrameEnd U o U' L ({ frames := 0, cells := 0, slots := 0, locals := 0 } : Room).cells ({ frames := 0, cells := 0, slots := 0, locals := 0 } : Room).slots) := by
  refine MetFree.of_bodySF (Jvm.Free.JP.mathPlain rfl (by decide +kernel)) hisR ?_
  intro p e s m args below meth c s₁ Bd hml0 hP hK
  obtain ⟨hargs, hZ, hh⟩ := hP
  have hx := Bd.exec
  have hby := Bd.bytes
  have hml : c.maxLocals = 4 := hml0
  have hown : s.vm.findClass "java/lang/Math" = some m.cls := findClass_of_methodNamed Bd.named
  have hnm := (name_of_methodNamed Bd.named Bd.method).1
  have hlock : meth.locks = false := Bd.notSynchronized
  have hret0 := Bd.returns
  have X0 : Stand p l e ({ frames := 0, cells := 0, slots := 0, locals := 0 } : Room) s m args below meth c s₁ [] 0 0 := Stand.of_body Bd
  have e0 : s₁.heap = h0 := by rw [← hh, Bd.state]; rfl
  have N0 := Fr.nil n0
  have pre0 : ∀ t, Steps p.tables e below (s₁.setTop (mkF m 0 #[.val (.long p0), .second, .val (.long p1), .second] [])) t → Steps p.tables e below (s₁.setTop (entryFrame m args 4)) t := fun t k => castTop (by rw [hargs]; exact own_ef_rmJmin m p0 p1) k
  clear Bd
  by_cases hc : p1 < p0
  · skip
    obtain ⟨fs, hr, hrun, hended, hW, hsame⟩ := X0.leave (v := some (.long p1)) (fun h => by rw [hret0] at h; cases h)
    refine ⟨_, _, pre0 _ ?_, hrun, hended, _, _, rfl, ?_, ⟨_, rfl⟩, hW, hsame.mono (by decide) (by decide)⟩
    · show Steps p.tables e below (s₁.setTop (mkF m 0 #[.val (.long p0), .second, .val (.long p1), .second] [])) _
      refine XS.lloadN X0.here hx rfl (hb hby d9_0) rfl ?_
      show Steps p.tables e below (s₁.setTop (mkF m 1 #[.val (.long p0), .second, .val (.long p1), .second] [(.long p0)])) _
      refine XS.lloadN X0.here hx rfl (hb hby d9_1) rfl ?_
      show Steps p.tables e below (s₁.setTop (mkF m 2 #[.val (.long p0), .second, .val (.long p1), .second] [(.long p1), (.long p0)])) _
      refine XS.lcmp X0.here hx rfl (hb hby d9_2) rfl ?_
      show Steps p.tables e below (s₁.setTop (mkF m 3 #[.val (.long p0), .second, .val (.long p1), .second] [(.int (lcmpW p0 p1))])) _
      refine XS.ifYes X0.here hx rfl (pc0 := 3) (pc' := 10) rfl (hb hby d9_3) rfl ((if0 _ _).trans (tlt ((lw_gt _ _).mpr hc)).2.2.1) (by decide) (by decide) ?_
      show Steps p.tables e below (s₁.setTop (mkF m 10 #[.val (.long p0), .second, .val (.long p1), .second] [])) _
      refine XS.lloadN X0.here hx rfl (hb hby d9_10) rfl ?_
      show Steps p.tables e below (s₁.setTop (mkF m 11 #[.val (.long p0), .second, .val (.long p1), .second] [(.long p1)])) _
      exact retJ X0 hx hret0 (hb hby d9_11) hr
    · show QJmin p0 p1 h0 n0 _ s₁.heap _
      rw [e0]
      exact ⟨by rw [if_pos hc], N0, rfl⟩
  · skip
    obtain ⟨fs, hr, hrun, hended, hW, hsame⟩ := X0.leave (v := some (.long p0)) (fun h => by rw [hret0] at h; cases h)
    refine ⟨_, _, pre0 _ ?_, hrun, hended, _, _, rfl, ?_, ⟨_, rfl⟩, hW, hsame.mono (by decide) (by decide)⟩
    · show Steps p.tables e below (s₁.setTop (mkF m 0 #[.val (.long p0), .second, .val (.long p1), .second] [])) _
      refine XS.lloadN X0.here hx rfl (hb hby d9_0) rfl ?_
      show Steps p.tables e below (s₁.setTop (mkF m 1 #[.val (.long p0), .second, .val (.long p1), .second] [(.long p0)])) _
      refine XS.lloadN X0.here hx rfl (hb hby d9_1) rfl ?_
      show Steps p.tables e below (s₁.setTop (mkF m 2 #[.val (.long p0), .second, .val (.long p1), .second] [(.long p1), (.long p0)])) _
      refine XS.lcmp X0.here hx rfl (hb hby d9_2) rfl ?_
      show Steps p.tables e below (s₁.setTop (mkF m 3 #[.val (.long p0), .second, .val (.long p1), .second] [(.int (lcmpW p0 p1))])) _
      refine XS.ifNo X0.here hx rfl (hb hby d9_3) rfl ((if0 _ _).trans (flt (mt (lw_gt _ _).mp hc)).2.2.1) ?_
      show Steps p.tables e below (s₁.setTop (mkF m 6 #[.val (.long p0), .second, .val (.long p1), .second] [])) _
      refine XS.lloadN X0.here hx rfl (hb hby d9_6) rfl ?_
      show Steps p.tables e below (s₁.setTop (mkF m 7 #[.val (.long p0), .second, .val (.long p1), .second] [(.long p0)])) _
      refine XS.goto X0.here hx rfl (pc0 := 7) (pc' := 11) rfl (hb hby d9_7) (by decide) (by decide) ?_
      show Steps p.tables e below (s₁.setTop (mkF m 11 #[.val (.long p0), .second, .val (.long p1), .second] [(.long p0)])) _
      exact retJ X0 hx hret0 (hb hby d9_11) hr
    · show QJmin p0 p1 h0 n0 _ s₁.heap _
      rw [e0]
      exact ⟨by rw [if_neg hc], N0, rfl⟩
theorem d10_0 : decode jdk_29_method_66_code 0 = .ok (.lload_n 0, 1) := by decide +kernel
theorem d10_1 : decode jdk_29_method_66_code 1 = .ok (.lload_n 2, 1) := by decide +kernel
theorem d10_2 : decode jdk_29_method_66_code 2 = .ok (.lcmp, 1) := by decide +kernel
theorem d10_3 : decode jdk_29_method_66_code 3 = .ok (.ifCond .lt 7, 3) := by decide +kernel
theorem d10_6 : decode jdk_29_method_66_code 6 = .ok (.lload_n 0, 1) := by decide +kernel
theorem d10_7 : decode jdk_29_method_66_code 7 = .ok (.goto 4, 3) := by decide +kernel
theorem d10_10 : decode jdk_29_method_66_code 10 = .ok (.lload_n 2, 1) := by decide +kernel
theorem d10_11 : decode jdk_29_method_66_code 11 = .ok (.lreturn, 1) := by decide +kernel
def QJmax (p0 p1 : Int64) (h0 : Heap) (n0 : Nat) (v : Option Value) (h : Heap) (L : List Loc) : Prop := v = some (.long (if p0 < p1 then p1 else p0)) ∧ Fr n0 L ∧ h = h0
theorem own_ef_rmJmax (m : MethodId) (p0 : Int64) (p1 : Int64) : entryFrame m #[(.long p0), (.long p1)] 4 = (mkF m 0 #[.val (.long p0), .second, .val (.long p1), .second] []) := by first | (simp [entryFrame, mkF, argsToLocals, Value.category]; done) | rfl
set_option maxRecDepth 65536 in
set_option maxHeartbeats 40000000 in
theorem rmJmax (l : Launch) (Z : State) (a0 : Array Value) (hw : ∀ d ∈ tables_1, d.before a0 Z = true) (ws : List Jvm.Cond) (p0 : Int64) (p1 : Int64) (h0 : Heap) (n0 : Nat) (Z0 : n0 ≤ h0.size) :
    MetFree l (⟨"java/lang/Math", "max", "(JJ)J"⟩ : MethodName) (head1 (Jvm.Cond.code (⟨"java/lang/Math", "max", "(JJ)J"⟩ : MethodName) jdk_29_method_66_code 4 (some .long) :: ws) ({ frames := 0, cells := 0, slots := 0, locals := 0 } : Room)) (fun a U => a = #[(.long p0), (.long p1)] ∧ Z.Warmed39 U.vm ∧ U.heap = h0) (fun _ _ _ _ _ => True) (fun _ U o U' => ∃ v L, o = .returned v ∧ QJmax p0 p1 h0 n0 v U'.heap L ∧ FrameEnd U o U' L ({ frames := 0, cells := 0, slots := 0, locals := 0 } : Room).cells ({ frames := 0, cells := 0, slots := 0, locals := 0 } : Room).slots) := by
  refine MetFree.of_bodySF (Jvm.Free.JP.mathPlain rfl (by decide +kernel)) hisR ?_
  intro p e s m args below meth c s₁ Bd hml0 hP hK
  obtain ⟨hargs, hZ, hh⟩ := hP
  have hx := Bd.exec
  have hby := Bd.bytes
  have hml : c.maxLocals = 4 := hml0
  have hown : s.vm.findClass "java/lang/Math" = some m.cls := findClass_of_methodNamed Bd.named
  have hnm := (name_of_methodNamed Bd.named Bd.method).1
  have hlock : meth.locks = false := Bd.notSynchronized
  have hret0 := Bd.returns
  have X0 : Stand p l e ({ frames := 0, cells := 0, slots := 0, locals := 0 } : Room) s m args below meth c s₁ [] 0 0 := Stand.of_body Bd
  have e0 : s₁.heap = h0 := by rw [← hh, Bd.state]; rfl
  have N0 := Fr.nil n0
  have pre0 : ∀ t, Steps p.tables e below (s₁.setTop (mkF m 0 #[.val (.long p0), .second, .val (.long p1), .second] [])) t → Steps p.tables e below (s₁.setTop (entryFrame m args 4)) t := fun t k => castTop (by rw [hargs]; exact own_ef_rmJmax m p0 p1) k
  clear Bd
  by_cases hc : p0 < p1
  · skip
    obtain ⟨fs, hr, hrun, hended, hW, hsame⟩ := X0.leave (v := some (.long p1)) (fun h => by rw [hret0] at h; cases h)
    refine ⟨_, _, pre0 _ ?_, hrun, hended, _, _, rfl, ?_, ⟨_, rfl⟩, hW, hsame.mono (by decide) (by decide)⟩
    · show Steps p.tables e below (s₁.setTop (mkF m 0 #[.val (.long p0), .second, .val (.long p1), .second] [])) _
      refine XS.lloadN X0.here hx rfl (hb hby d10_0) rfl ?_
      show Steps p.tables e below (s₁.setTop (mkF m 1 #[.val (.long p0), .second, .val (.long p1), .second] [(.long p0)])) _
      refine XS.lloadN X0.here hx rfl (hb hby d10_1) rfl ?_
      show Steps p.tables e below (s₁.setTop (mkF m 2 #[.val (.long p0), .second, .val (.long p1), .second] [(.long p1), (.long p0)])) _
      refine XS.lcmp X0.here hx rfl (hb hby d10_2) rfl ?_
      show Steps p.tables e below (s₁.setTop (mkF m 3 #[.val (.long p0), .second, .val (.long p1), .second] [(.int (lcmpW p0 p1))])) _
      refine XS.ifYes X0.here hx rfl (pc0 := 3) (pc' := 10) rfl (hb hby d10_3) rfl ((if0 _ _).trans (tlt ((lw_lt _ _).mpr hc)).1) (by decide) (by decide) ?_
      show Steps p.tables e below (s₁.setTop (mkF m 10 #[.val (.long p0), .second, .val (.long p1), .second] [])) _
      refine XS.lloadN X0.here hx rfl (hb hby d10_10) rfl ?_
      show Steps p.tables e below (s₁.setTop (mkF m 11 #[.val (.long p0), .second, .val (.long p1), .second] [(.long p1)])) _
      exact retJ X0 hx hret0 (hb hby d10_11) hr
    · show QJmax p0 p1 h0 n0 _ s₁.heap _
      rw [e0]
      exact ⟨by rw [if_pos hc], N0, rfl⟩
  · skip
    obtain ⟨fs, hr, hrun, hended, hW, hsame⟩ := X0.leave (v := some (.long p0)) (fun h => by rw [hret0] at h; cases h)
    refine ⟨_, _, pre0 _ ?_, hrun, hended, _, _, rfl, ?_, ⟨_, rfl⟩, hW, hsame.mono (by decide) (by decide)⟩
    · show Steps p.tables e below (s₁.setTop (mkF m 0 #[.val (.long p0), .second, .val (.long p1), .second] [])) _
      refine XS.lloadN X0.here hx rfl (hb hby d10_0) rfl ?_
      show Steps p.tables e below (s₁.setTop (mkF m 1 #[.val (.long p0), .second, .val (.long p1), .second] [(.long p0)])) _
      refine XS.lloadN X0.here hx rfl (hb hby d10_1) rfl ?_
      show Steps p.tables e below (s₁.setTop (mkF m 2 #[.val (.long p0), .second, .val (.long p1), .second] [(.long p1), (.long p0)])) _
      refine XS.lcmp X0.here hx rfl (hb hby d10_2) rfl ?_
      show Steps p.tables e below (s₁.setTop (mkF m 3 #[.val (.long p0), .second, .val (.long p1), .second] [(.int (lcmpW p0 p1))])) _
      refine XS.ifNo X0.here hx rfl (hb hby d10_3) rfl ((if0 _ _).trans (flt (mt (lw_lt _ _).mp hc)).1) ?_
      show Steps p.tables e below (s₁.setTop (mkF m 6 #[.val (.long p0), .second, .val (.long p1), .second] [])) _
      refine XS.lloadN X0.here hx rfl (hb hby d10_6) rfl ?_
      show Steps p.tables e below (s₁.setTop (mkF m 7 #[.val (.long p0), .second, .val (.long p1), .second] [(.long p0)])) _
      refine XS.goto X0.here hx rfl (pc0 := 7) (pc' := 11) rfl (hb hby d10_7) (by decide) (by decide) ?_
      show Steps p.tables e below (s₁.setTop (mkF m 11 #[.val (.long p0), .second, .val (.long p1), .second] [(.long p0)])) _
      exact retJ X0 hx hret0 (hb hby d10_11) hr
    · show QJmax p0 p1 h0 n0 _ s₁.heap _
      rw [e0]
      exact ⟨by rw [if_neg hc], N0, rfl⟩
theorem d11_0 : decode prog_10_method_3_code 0 = .ok (.aload_n 0, 1) := by decide +kernel
theorem d11_1 : decode prog_10_method_3_code 1 = .ok (.getfield 21, 3) := by decide +kernel
theorem d11_4 : decode prog_10_method_3_code 4 = .ok (.lreturn, 1) := by decide +kernel
def QrmCo (w : Int64) (h0 : Heap) (n0 : Nat) (v : Option Value) (h : Heap) (L : List Loc) : Prop := v = some (.long w) ∧ Fr n0 L ∧ h = h0
theorem own_pn_rmCo : plainName "com/example/resplice/resplice/LatencyHistogram" = true := by first | (simp [plainName, overriddenIn]; done) | decide +kernel
theorem own_ef_rmCo (m : MethodId) (a1 : Addr) : entryFrame m #[(.ref a1)] 1 = (mkF m 0 #[.val (.ref a1)] []) := by first | (simp [entryFrame, mkF, argsToLocals, Value.category]; done) | rfl
set_option maxRecDepth 65536 in
set_option maxHeartbeats 40000000 in
theorem rmCo (l : Launch) (Z : State) (a0 : Array Value) (hw : ∀ d ∈ tables_1, d.before a0 Z = true) (ws : List Jvm.Cond) (a1 : Addr) (w : Int64) (h0 : Heap) (n0 : Nat) (Z0 : n0 ≤ h0.size) (F : Fld Z h0 a1 "com/example/resplice/resplice/LatencyHistogram" "total" "J" (.long w)) :
    MetFree l (⟨"com/example/resplice/resplice/LatencyHistogram", "count", "()J"⟩ : MethodName) (head1 (Jvm.Cond.code (⟨"com/example/resplice/resplice/LatencyHistogram", "count", "()J"⟩ : MethodName) prog_10_method_3_code 1 (some .long) :: ws) ({ frames := 0, cells := 0, slots := 0, locals := 0 } : Room)) (fun a U => a = #[(.ref a1)] ∧ Z.Warmed39 U.vm ∧ U.heap = h0) (fun _ _ _ _ _ => True) (fun _ U o U' => ∃ v L, o = .returned v ∧ QrmCo w h0 n0 v U'.heap L ∧ FrameEnd U o U' L ({ frames := 0, cells := 0, slots := 0, locals := 0 } : Room).cells ({ frames := 0, cells := 0, slots := 0, locals := 0 } : Room).slots) := by
  refine MetFree.of_bodySF (plainFor_of_name own_pn_rmCo) hisR ?_
  intro p e s m args below meth c s₁ Bd hml0 hP hK
  obtain ⟨hargs, hZ, hh⟩ := hP
  have hx := Bd.exec
  have hby := Bd.bytes
  have hml : c.maxLocals = 1 := hml0
  have hown : s.vm.findClass "com/example/resplice/resplice/LatencyHistogram" = some m.cls := findClass_of_methodNamed Bd.named
  have hnm := (name_of_methodNamed Bd.named Bd.method).1
  have hlock : meth.locks = false := Bd.notSynchronized
  have hret0 := Bd.returns
  have X0 : Stand p l e ({ frames := 0, cells := 0, slots := 0, locals := 0 } : Room) s m args below meth c s₁ [] 0 0 := Stand.of_body Bd
  have e0 : s₁.heap = h0 := by rw [← hh, Bd.state]; rfl
  have N0 := Fr.nil n0
  have pre0 : ∀ t, Steps p.tables e below (s₁.setTop (mkF m 0 #[.val (.ref a1)] [])) t → Steps p.tables e below (s₁.setTop (entryFrame m args 1)) t := fun t k => castTop (by rw [hargs]; exact own_ef_rmCo m a1) k
  clear Bd
  obtain ⟨T28, X28, e28, st28⟩ := getF X0 hx hZ hown (host := "") (Or.inl (hw _ (List.mem_of_getElem? (i := 36) rfl))) Via.refl e0 F (g := (mkF m 1 #[.val (.ref a1)] [(.ref a1)])) rfl rfl (hb hby d11_1)
  obtain ⟨fs, hr, hrun, hended, hW, hsame⟩ := X28.leave (v := some (.long w)) (fun h => by rw [hret0] at h; cases h)
  refine ⟨_, _, pre0 _ ?_, hrun, hended, _, _, rfl, ?_, ⟨_, rfl⟩, hW, hsame.mono (by decide) (by decide)⟩
  · show Steps p.tables e below (s₁.setTop (mkF m 0 #[.val (.ref a1)] [])) _
    refine XS.aloadN X0.here hx rfl (hb hby d11_0) rfl rfl ?_
    show Steps p.tables e below (s₁.setTop (mkF m 1 #[.val (.ref a1)] [(.ref a1)])) _
    refine st28 _ ?_
    show Steps p.tables e below (T28.setTop (mkF m 4 #[.val (.ref a1)] [(.long w)])) _
    exact retJ X28 hx hret0 (hb hby d11_4) hr
  · show QrmCo w h0 n0 _ T28.heap _
    rw [e28]
    exact ⟨rfl, N0, rfl⟩
theorem d2_0 : decode prog_10_method_1_code 0 = .ok (.aload_n 0, 1) := by decide +kernel
theorem d2_1 : decode prog_10_method_1_code 1 = .ok (.invokespecial 3, 3) := by decide +kernel
theorem d2_4 : decode prog_10_method_1_code 4 = .ok (.aload_n 0, 1) := by decide +kernel
theorem d2_5 : decode prog_10_method_1_code 5 = .ok (.ldc2_w 11, 3) := by decide +kernel
theorem d2_8 : decode prog_10_method_1_code 8 = .ok (.invokestatic 13, 3) := by decide +kernel
theorem d2_11 : decode prog_10_method_1_code 11 = .ok (.iconst 1, 1) := by decide +kernel
theorem d2_12 : decode prog_10_method_1_code 12 = .ok (.iadd, 1) := by decide +kernel
theorem d2_13 : decode prog_10_method_1_code 13 = .ok (.newarray .long, 2) := by decide +kernel
theorem d2_15 : decode prog_10_method_1_code 15 = .ok (.putfield 17, 3) := by decide +kernel
theorem d2_18 : decode prog_10_method_1_code 18 = .ok (.return_, 1) := by decide +kernel
def QI (Z : State) (a1 : Addr) (h0 : Heap) (n0 : Nat) (v : Option Value) (h : Heap) (L : List Loc) : Prop := v = none ∧ Fr n0 L ∧ Keep h0 h [a1] ∧ ∃ c : Addr, h0.size ≤ c ∧ own_H Z h a1 c (fun _ => 0) 0
theorem own_pn_rmI : plainName "com/example/resplice/resplice/LatencyHistogram" = true := by first | (simp [plainName, overriddenIn]; done) | decide +kernel
theorem own_ef_rmI (m : MethodId) (a1 : Addr) : entryFrame m #[(.ref a1)] 1 = (mkF m 0 #[.val (.ref a1)] []) := by first | (simp [entryFrame, mkF, argsToLocals, Value.category]; done) | rfl
set_option maxRecDepth 65536 in
set_option maxHeartbeats 40000000 in
theorem rmI (l : Launch) (Z : State) (a0 : Array Value) (hw : ∀ d ∈ tables_1, d.before a0 Z = true) (ws : List Jvm.Cond) (a1 : Addr) (h0 : Heap) (n0 : Nat) (Z0 : n0 ≤ h0.size) (ge1 : n0 ≤ a1) (Ex : Exa Z h0 a1 "com/example/resplice/resplice/LatencyHistogram") (F0 : Fld Z h0 a1 "com/example/resplice/resplice/LatencyHistogram" "counts" "[J" .null) (F1 : Fld Z h0 a1 "com/example/resplice/resplice/LatencyHistogram" "total" "J" (.long (0 : Int64))) :
    MetFree l (⟨"com/example/resplice/resplice/LatencyHistogram", "<init>", "()V"⟩ : MethodName) (head1 (Jvm.Cond.code (⟨"com/example/resplice/resplice/LatencyHistogram", "<init>", "()V"⟩ : MethodName) prog_10_method_1_code 1 none :: ws) ({ frames := 3, cells := 1, slots := 7296, locals := 80 } : Room)) (fun a U => a = #[(.ref a1)] ∧ Z.Warmed39 U.vm ∧ U.heap = h0) (fun _ _ _ _ _ => True) (fun _ U o U' => ∃ v L, o = .returned v ∧ QI Z a1 h0 n0 v U'.heap L ∧ FrameEnd U o U' L ({ frames := 3, cells := 1, slots := 7296, locals := 80 } : Room).cells ({ frames := 3, cells := 1, slots := 7296, locals := 80 } : Room).slots) := by
  refine MetFree.of_bodySF (plainFor_of_name own_pn_rmI) hisR ?_
  intro p e s m args below meth c s₁ Bd hml0 hP hK
  obtain ⟨hargs, hZ, hh⟩ := hP
  have hx := Bd.exec
  have hby := Bd.bytes
  have hml : c.maxLocals = 1 := hml0
  have hown : s.vm.findClass "com/example/resplice/resplice/LatencyHistogram" = some m.cls := findClass_of_methodNamed Bd.named
  have hnm := (name_of_methodNamed Bd.named Bd.method).1
  have hlock : meth.locks = false := Bd.notSynchronized
  have hret0 := Bd.returns
  have X0 : Stand p l e ({ frames := 3, cells := 1, slots := 7296, locals := 80 } : Room) s m args below meth c s₁ [] 0 0 := Stand.of_body Bd
  have e0 : s₁.heap = h0 := by rw [← hh, Bd.state]; rfl
  have N0 := Fr.nil n0
  have pre0 : ∀ t, Steps p.tables e below (s₁.setTop (mkF m 0 #[.val (.ref a1)] [])) t → Steps p.tables e below (s₁.setTop (entryFrame m args 1)) t := fun t k => castTop (by rw [hargs]; exact own_ef_rmI m a1) k
  clear Bd
  obtain ⟨T29, X29, e29, st29⟩ := initO X0 hx hZ hown (hw _ (List.mem_of_getElem? (i := 11) rfl)) (hw _ (List.mem_of_getElem? (i := 12) rfl)) (hw _ (List.mem_of_getElem? (i := 13) rfl)) e0 (g := (mkF m 1 #[.val (.ref a1)] [(.ref a1)])) rfl (by rw [hml]; rfl) rfl (hb hby d2_1) (by decide) (W := 0) (by show 2 * 0 + _ ≤ _; exact Nat.le_of_eq rfl) (by decide)
  obtain ⟨v30, vmx30, ⟨T30, L30, k30, n30⟩, -, X30, ⟨Lc30, hQ30, l30, y30, z30⟩, st30⟩ := Jvm.LawKit.callS X29 hx (y := (⟨"com/example/resplice/resplice/LatencyHistogram", "bucket", "(J)I"⟩ : MethodName)) hown (mvT hZ (hw _ (List.mem_of_getElem? (i := 15) rfl))) (mvT hZ (hw _ (List.mem_of_getElem? (i := 16) rfl))) (mvT hZ (hw _ (List.mem_of_getElem? (i := 7) rfl))) (mvT hZ (hw _ (List.mem_of_getElem? (i := 17) rfl))) (by decide) (backOf (W := 1) (rmB l Z a0 hw [] (9223372036854775807 : Int64) h0 n0 Z0 (by decide)) hZ (hw _ (List.mem_of_getElem? (i := 17) rfl)) (hw _ (List.mem_of_getElem? (i := 7) rfl)) (by decide) (by decide)) (g := (mkF m 8 #[.val (.ref a1)] [(.long (9223372036854775807 : Int64)), (.ref a1)])) rfl (by rw [hml]; rfl) (argsL := [(.long (9223372036854775807 : Int64))]) (rest := [(.ref a1)]) (lenOf own_pd3 rfl) rfl (by show 2 * 0 + _ ≤ _; exact Nat.le_of_eq rfl) (hb hby d2_8) (fun _ _ => ⟨rfl, e29, (by decide : 0 + 0 ≤ _), (by decide : 0 + 0 ≤ _)⟩)
  dsimp only [Pt.U, Pt.locs, Pt.cells, Pt.slots] at X30 l30 y30 z30 st30 hQ30
  subst l30 y30 z30
  obtain ⟨r30, rfl, hr30, Nq30, eh30⟩ := hQ30
  have N30 := Fr.app N0 Nq30
  have hsz : (r30 + (1 : Int32)).toInt = 7296 := by
    have e : own_bk (9223372036854775807 : Int64).toInt.toNat = 7295 := by decide +kernel
    rw [e] at hr30
    have c := c_iadd r30 1
    have e1 : (1 : Int32).toInt = 1 := rfl
    have r := rng32 (r30 + 1)
    omega
  have hng : ¬ (r30 + (1 : Int32)) < 0 := by rw [Int32.lt_iff_toInt_lt, hsz]; decide
  obtain ⟨T31, h31, k31, X31, e31, E31, A31, st31⟩ := newP X30 hx hZ (hw _ (List.mem_of_getElem? (i := 28) rfl)) eh30 (g := (mkF m 13 #[.val (.ref a1)] [(.int (r30 + (1 : Int32))), (.ref a1)])) rfl (hb hby d2_13) rfl hng (cap := 7296) (Nat.le_of_eq (own_ix (n := 7296) hsz)) (by decide) (by decide) (by decide)
  obtain ⟨b31, g31⟩ : ∃ z, z = h0.size := ⟨_, rfl⟩
  rw [← g31] at A31 st31
  have ge_b31 : n0 ≤ b31 := Nat.le_trans Z0 (Nat.le_of_eq g31.symm)
  have sz_b31 : h0.size ≤ b31 := Nat.le_trans (Keep.refl h0 [a1]).1 (Nat.le_of_eq g31.symm)
  have Z32 : n0 ≤ h31.size := Nat.le_trans Z0 E31.1
  have K33 : Keep h0 h31 [a1] := (Keep.refl h0 [a1]).ext E31
  have V31 : Arv Z h31 b31 k31 .long (r30 + (1 : Int32)) [] (.long (0 : Int64)) := Arv.new A31 hng
  have f34 := (F0.ext E31)
  have f35 := (Ex.ext E31)
  obtain ⟨T36, h36, X36, e36, W36, st36⟩ := putF X31 hx hZ hown (host := "") (Or.inl (hw _ (List.mem_of_getElem? (i := 29) rfl))) Via.refl e31 f34 f35 (Or.inr ⟨(hw _ (List.mem_of_getElem? (i := 30) rfl)), rfl, hnm⟩) (hw _ (List.mem_of_getElem? (i := 6) rfl)) (ty := (.array .long)) (by decide) rfl rfl (g := (mkF m 15 #[.val (.ref a1)] [(.ref b31), (.ref a1)])) rfl rfl (hb hby d2_15)
  have Z37 : n0 ≤ h36.size := Nat.le_trans Z32 (Keep.of_wr W36).1
  have K38 : Keep h0 h36 [a1] := K33.wr W36 (Or.inl (List.mem_of_getElem? (i := 0) rfl))
  have N36 := Fr.snoc X36 N30 ge1
  have f39 := f34.same W36
  have f40 := (f35.wr W36)
  have f41 := ((F1.ext E31).other W36 (Or.inr (slot_ne (Or.inl (hw _ (List.mem_of_getElem? (i := 37) rfl))) (Or.inr (hw _ (List.mem_of_getElem? (i := 30) rfl))) (by decide) (t := .long) (t' := (.array .long)) (by decide) (by decide))))
  have f42 := (V31.other W36 (Ne.symm (Nat.ne_of_lt (Nat.lt_of_lt_of_le Ex.lt (Nat.le_of_eq g31.symm)))))
  obtain ⟨fs, hr, hrun, hended, hW, hsame⟩ := X36.leave (v := none) (fun _ => rfl)
  refine ⟨_, _, pre0 _ ?_, hrun, hended, _, _, rfl, ?_, ⟨_, rfl⟩, hW, hsame.mono (by decide) (by decide)⟩
  · show Steps p.tables e below (s₁.setTop (mkF m 0 #[.val (.ref a1)] [])) _
    refine XS.aloadN X0.here hx rfl (hb hby d2_0) rfl rfl ?_
    show Steps p.tables e below (s₁.setTop (mkF m 1 #[.val (.ref a1)] [(.ref a1)])) _
    refine st29 _ ?_
    show Steps p.tables e below (T29.setTop (mkF m 4 #[.val (.ref a1)] [])) _
    refine XS.aloadN X29.here hx rfl (hb hby d2_4) rfl rfl ?_
    show Steps p.tables e below (T29.setTop (mkF m 5 #[.val (.ref a1)] [(.ref a1)])) _
    refine X29.ldc2Long hx hown (mvT hZ (hw _ (List.mem_of_getElem? (i := 14) rfl))) (g := (mkF m 5 #[.val (.ref a1)] [(.ref a1)])) rfl (hb hby d2_5) _ ?_
    show Steps p.tables e below (T29.setTop (mkF m 8 #[.val (.ref a1)] [(.long (9223372036854775807 : Int64)), (.ref a1)])) _
    refine st30 _ ?_
    show Steps p.tables e below (T30.setTop (mkF m 11 #[.val (.ref a1)] [(.int r30), (.ref a1)])) _
    refine XS.iconst X30.here hx rfl (hb hby d2_11) ?_
    show Steps p.tables e below (T30.setTop (mkF m 12 #[.val (.ref a1)] [(.int (1 : Int32)), (.int r30), (.ref a1)])) _
    refine XS.iadd X30.here hx rfl (hb hby d2_12) rfl ?_
    show Steps p.tables e below (T30.setTop (mkF m 13 #[.val (.ref a1)] [(.int (r30 + (1 : Int32))), (.ref a1)])) _
    refine st31 _ ?_
    show Steps p.tables e below (T31.setTop (mkF m 15 #[.val (.ref a1)] [(.ref b31), (.ref a1)])) _
    refine st36 _ ?_
    show Steps p.tables e below (T36.setTop (mkF m 18 #[.val (.ref a1)] [])) _
    exact X36.returnOut hx hret0 (hb hby d2_18) hr
  · show QI Z a1 h0 n0 _ T36.heap _
    rw [e36]
    exact ⟨rfl, N36, K38, b31, sz_b31, f40, f39, f41, (Nat.ne_of_lt (Nat.lt_of_lt_of_le Ex.lt (Nat.le_of_eq g31.symm))), own_C0 f42 hsz⟩
theorem d7_0 : decode prog_10_method_2_code 0 = .ok (.aload_n 0, 1) := by decide +kernel
theorem d7_1 : decode prog_10_method_2_code 1 = .ok (.getfield 17, 3) := by decide +kernel
theorem d7_4 : decode prog_10_method_2_code 4 = .ok (.lload_n 1, 1) := by decide +kernel
theorem d7_5 : decode prog_10_method_2_code 5 = .ok (.invokestatic 13, 3) := by decide +kernel
theorem d7_8 : decode prog_10_method_2_code 8 = .ok (.dup2, 1) := by decide +kernel
theorem d7_9 : decode prog_10_method_2_code 9 = .ok (.laload, 1) := by decide +kernel
theorem d7_10 : decode prog_10_method_2_code 10 = .ok (.lconst 1, 1) := by decide +kernel
theorem d7_11 : decode prog_10_method_2_code 11 = .ok (.ladd, 1) := by decide +kernel
theorem d7_12 : decode prog_10_method_2_code 12 = .ok (.lastore, 1) := by decide +kernel
theorem d7_13 : decode prog_10_method_2_code 13 = .ok (.aload_n 0, 1) := by decide +kernel
theorem d7_14 : decode prog_10_method_2_code 14 = .ok (.dup, 1) := by decide +kernel
theorem d7_15 : decode prog_10_method_2_code 15 = .ok (.getfield 21, 3) := by decide +kernel
theorem d7_18 : decode prog_10_method_2_code 18 = .ok (.lconst 1, 1) := by decide +kernel
theorem d7_19 : decode prog_10_method_2_code 19 = .ok (.ladd, 1) := by decide +kernel
theorem d7_20 : decode prog_10_method_2_code 20 = .ok (.putfield 21, 3) := by decide +kernel
theorem d7_23 : decode prog_10_method_2_code 23 = .ok (.return_, 1) := by decide +kernel
def QR (Z : State) (a1 c1 : Addr) (f : Nat → Nat) (t : Int64) (h0 : Heap) (n0 : Nat) (v : Option Value) (h : Heap) (L : List Loc) : Prop := v = none ∧ Fr n0 L ∧ Keep h0 h [a1, c1] ∧ own_H Z h a1 c1 f t
theorem own_pn_rmR : plainName "com/example/resplice/resplice/LatencyHistogram" = true := by first | (simp [plainName, overriddenIn]; done) | decide +kernel
theorem own_ef_rmR (m : MethodId) (a1 : Addr) (q1 : Int64) : entryFrame m #[(.ref a1), (.long q1)] 3 = (mkF m 0 #[.val (.ref a1), .val (.long q1), .second] []) := by first | (simp [entryFrame, mkF, argsToLocals, Value.category]; done) | rfl
set_option maxRecDepth 65536 in
set_option maxHeartbeats 40000000 in
theorem rmR (l : Launch) (Z : State) (a0 : Array Value) (hw : ∀ d ∈ tables_1, d.before a0 Z = true) (ws : List Jvm.Cond) (a1 : Addr) (c1 : Addr) (f : Nat → Nat) (t : Int64) (q1 : Int64) (h0 : Heap) (n0 : Nat) (Z0 : n0 ≤ h0.size) (ge1 : n0 ≤ a1) (ge2 : n0 ≤ c1) (hpos : 0 ≤ q1.toInt) (HH : own_H Z h0 a1 c1 f t) :
    MetFree l (⟨"com/example/resplice/resplice/LatencyHistogram", "record", "(J)V"⟩ : MethodName) (head1 (Jvm.Cond.code (⟨"com/example/resplice/resplice/LatencyHistogram", "record", "(J)V"⟩ : MethodName) prog_10_method_2_code 3 none :: ws) ({ frames := 3, cells := 0, slots := 0, locals := 80 } : Room)) (fun a U => a = #[(.ref a1), (.long q1)] ∧ Z.Warmed39 U.vm ∧ U.heap = h0) (fun _ _ _ _ _ => True) (fun _ U o U' => ∃ v L, o = .returned v ∧ QR Z a1 c1 (own_up1 f (own_bk q1.toInt.toNat)) (t + (1 : Int64)) h0 n0 v U'.heap L ∧ FrameEnd U o U' L ({ frames := 3, cells := 0, slots := 0, locals := 80 } : Room).cells ({ frames := 3, cells := 0, slots := 0, locals := 80 } : Room).slots) := by
  refine MetFree.of_bodySF (plainFor_of_name own_pn_rmR) hisR ?_
  intro p e s m args below meth c s₁ Bd hml0 hP hK
  obtain ⟨hargs, hZ, hh⟩ := hP
  have hx := Bd.exec
  have hby := Bd.bytes
  have hml : c.maxLocals = 3 := hml0
  have hown : s.vm.findClass "com/example/resplice/resplice/LatencyHistogram" = some m.cls := findClass_of_methodNamed Bd.named
  have hnm := (name_of_methodNamed Bd.named Bd.method).1
  have hlock : meth.locks = false := Bd.notSynchronized
  have hret0 := Bd.returns
  have X0 : Stand p l e ({ frames := 3, cells := 0, slots := 0, locals := 80 } : Room) s m args below meth c s₁ [] 0 0 := Stand.of_body Bd
  have e0 : s₁.heap = h0 := by rw [← hh, Bd.state]; rfl
  have N0 := Fr.nil n0
  have pre0 : ∀ t, Steps p.tables e below (s₁.setTop (mkF m 0 #[.val (.ref a1), .val (.long q1), .second] [])) t → Steps p.tables e below (s₁.setTop (entryFrame m args 3)) t := fun t k => castTop (by rw [hargs]; exact own_ef_rmR m a1 q1) k
  clear Bd
  obtain ⟨Ex, F0, F1, hne, cell, Ar, Sz, Gt⟩ := HH
  obtain ⟨T43, X43, e43, st43⟩ := getF X0 hx hZ hown (host := "") (Or.inl (hw _ (List.mem_of_getElem? (i := 29) rfl))) Via.refl e0 F0 (g := (mkF m 1 #[.val (.ref a1), .val (.long q1), .second] [(.ref a1)])) rfl rfl (hb hby d7_1)
  obtain ⟨v44, vmx44, ⟨T44, L44, k44, n44⟩, -, X44, ⟨Lc44, hQ44, l44, y44, z44⟩, st44⟩ := Jvm.LawKit.callS X43 hx (y := (⟨"com/example/resplice/resplice/LatencyHistogram", "bucket", "(J)I"⟩ : MethodName)) hown (mvT hZ (hw _ (List.mem_of_getElem? (i := 15) rfl))) (mvT hZ (hw _ (List.mem_of_getElem? (i := 16) rfl))) (mvT hZ (hw _ (List.mem_of_getElem? (i := 7) rfl))) (mvT hZ (hw _ (List.mem_of_getElem? (i := 17) rfl))) (by decide) (backOf (W := 1) (rmB l Z a0 hw [] q1 h0 n0 Z0 hpos) hZ (hw _ (List.mem_of_getElem? (i := 17) rfl)) (hw _ (List.mem_of_getElem? (i := 7) rfl)) (by decide) (by decide)) (g := (mkF m 5 #[.val (.ref a1), .val (.long q1), .second] [(.long q1), (.ref c1)])) rfl (by rw [hml]; rfl) (argsL := [(.long q1)]) (rest := [(.ref c1)]) (lenOf own_pd3 rfl) rfl (by show 2 * 0 + _ ≤ _; exact Nat.le_of_eq rfl) (hb hby d7_5) (fun _ _ => ⟨rfl, e43, (by decide : 0 + 0 ≤ _), (by decide : 0 + 0 ≤ _)⟩)
  dsimp only [Pt.U, Pt.locs, Pt.cells, Pt.slots] at X44 l44 y44 z44 st44 hQ44
  subst l44 y44 z44
  obtain ⟨r44, rfl, hr44, Nq44, eh44⟩ := hQ44
  have N44 := Fr.app N0 Nq44
  have hlt : own_bk q1.toInt.toNat < 7296 := own_bk_lt (by have := rng64 q1; omega)
  have hin := own_inb (cell := cell) hr44 hlt Sz
  have hat : cell.slots[r44.toNatClampNeg]? = some (.long (Int64.ofNat (f (own_bk q1.toInt.toNat)))) := by rw [own_ix hr44]; exact Gt _ hlt
  obtain ⟨T45, h45, X45, e45, W45, st45⟩ := stJ X44 hx hZ eh44 Ar (j := r44) hin (g := (mkF m 12 #[.val (.ref a1), .val (.long q1), .second] [(.long ((Int64.ofNat (f (own_bk q1.toInt.toNat))) + (1 : Int64))), (.int r44), (.ref c1)])) rfl rfl (hb hby d7_12)
  have Z46 : n0 ≤ h45.size := Nat.le_trans Z0 (Keep.of_wr W45).1
  have K47 : Keep h0 h45 [a1, c1] := (Keep.refl h0 [a1, c1]).wr W45 (Or.inl (List.mem_of_getElem? (i := 1) rfl))
  have N45 := Fr.snoc X45 N44 ge2
  have CC := own_Cset Ar Sz Gt hr44 hlt W45
  have f48 := (F1.other W45 (Or.inl hne))
  obtain ⟨T49, X49, e49, st49⟩ := getF X45 hx hZ hown (host := "") (Or.inl (hw _ (List.mem_of_getElem? (i := 36) rfl))) Via.refl e45 f48 (g := (mkF m 15 #[.val (.ref a1), .val (.long q1), .second] [(.ref a1), (.ref a1)])) rfl rfl (hb hby d7_15)
  have f50 := (Ex.wr W45)
  obtain ⟨T51, h51, X51, e51, W51, st51⟩ := putF X49 hx hZ hown (host := "") (Or.inl (hw _ (List.mem_of_getElem? (i := 36) rfl))) Via.refl e49 f48 f50 (Or.inl (hw _ (List.mem_of_getElem? (i := 37) rfl))) (hw _ (List.mem_of_getElem? (i := 6) rfl)) (ty := .long) (by decide) rfl rfl (g := (mkF m 20 #[.val (.ref a1), .val (.long q1), .second] [(.long (t + (1 : Int64))), (.ref a1)])) rfl rfl (hb hby d7_20)
  have Z52 : n0 ≤ h51.size := Nat.le_trans Z46 (Keep.of_wr W51).1
  have K53 : Keep h0 h51 [a1, c1] := K47.wr W51 (Or.inl (List.mem_of_getElem? (i := 0) rfl))
  have N51 := Fr.snoc X51 N45 ge1
  have f54 := f48.same W51
  have CC2 : own_C Z h51 c1 (own_up1 f (own_bk q1.toInt.toNat)) := by
    obtain ⟨cc, A2, S2, G2⟩ := CC
    exact ⟨cc, Arr.other W51 A2 (Ne.symm hne), S2, G2⟩
  have f55 := (f50.wr W51)
  have f56 := ((F0.other W45 (Or.inl hne)).other W51 (Or.inr (slot_ne (Or.inr (hw _ (List.mem_of_getElem? (i := 30) rfl))) (Or.inl (hw _ (List.mem_of_getElem? (i := 37) rfl))) (by decide) (t := (.array .long)) (t' := .long) (by decide) (by decide))))
  obtain ⟨fs, hr, hrun, hended, hW, hsame⟩ := X51.leave (v := none) (fun _ => rfl)
  refine ⟨_, _, pre0 _ ?_, hrun, hended, _, _, rfl, ?_, ⟨_, rfl⟩, hW, hsame.mono (by decide) (by decide)⟩
  · show Steps p.tables e below (s₁.setTop (mkF m 0 #[.val (.ref a1), .val (.long q1), .second] [])) _
    refine XS.aloadN X0.here hx rfl (hb hby d7_0) rfl rfl ?_
    show Steps p.tables e below (s₁.setTop (mkF m 1 #[.val (.ref a1), .val (.long q1), .second] [(.ref a1)])) _
    refine st43 _ ?_
    show Steps p.tables e below (T43.setTop (mkF m 4 #[.val (.ref a1), .val (.long q1), .second] [(.ref c1)])) _
    refine XS.lloadN X43.here hx rfl (hb hby d7_4) rfl ?_
    show Steps p.tables e below (T43.setTop (mkF m 5 #[.val (.ref a1), .val (.long q1), .second] [(.long q1), (.ref c1)])) _
    refine st44 _ ?_
    show Steps p.tables e below (T44.setTop (mkF m 8 #[.val (.ref a1), .val (.long q1), .second] [(.int r44), (.ref c1)])) _
    jvm_step X44.here [X44.here.top, hx, (hb hby d7_8), Value.category]
    show Steps p.tables e below (T44.setTop (mkF m 9 #[.val (.ref a1), .val (.long q1), .second] [(.int r44), (.ref c1), (.int r44), (.ref c1)])) _
    refine X44.laload hx (j := r44) (v := (.long (Int64.ofNat (f (own_bk q1.toInt.toNat))))) (by rw [eh44]; exact Ar.1) (State.isArrayOf_alike hZ.alike Ar.2.1) Ar.2.2 hin hat (g := (mkF m 9 #[.val (.ref a1), .val (.long q1), .second] [(.int r44), (.ref c1), (.int r44), (.ref c1)])) rfl rfl (hb hby d7_9) _ ?_
    show Steps p.tables e below (T44.setTop (mkF m 10 #[.val (.ref a1), .val (.long q1), .second] [(.long (Int64.ofNat (f (own_bk q1.toInt.toNat)))), (.int r44), (.ref c1)])) _
    refine XS.lconst X44.here hx rfl (hb hby d7_10) ?_
    show Steps p.tables e below (T44.setTop (mkF m 11 #[.val (.ref a1), .val (.long q1), .second] [(.long (1 : Int64)), (.long (Int64.ofNat (f (own_bk q1.toInt.toNat)))), (.int r44), (.ref c1)])) _
    refine XS.ladd X44.here hx rfl (hb hby d7_11) rfl ?_
    show Steps p.tables e below (T44.setTop (mkF m 12 #[.val (.ref a1), .val (.long q1), .second] [(.long ((Int64.ofNat (f (own_bk q1.toInt.toNat))) + (1 : Int64))), (.int r44), (.ref c1)])) _
    refine st45 _ ?_
    show Steps p.tables e below (T45.setTop (mkF m 13 #[.val (.ref a1), .val (.long q1), .second] [])) _
    refine XS.aloadN X45.here hx rfl (hb hby d7_13) rfl rfl ?_
    show Steps p.tables e below (T45.setTop (mkF m 14 #[.val (.ref a1), .val (.long q1), .second] [(.ref a1)])) _
    refine XS.dup X45.here hx rfl (hb hby d7_14) rfl rfl ?_
    show Steps p.tables e below (T45.setTop (mkF m 15 #[.val (.ref a1), .val (.long q1), .second] [(.ref a1), (.ref a1)])) _
    refine st49 _ ?_
    show Steps p.tables e below (T49.setTop (mkF m 18 #[.val (.ref a1), .val (.long q1), .second] [(.long t), (.ref a1)])) _
    refine XS.lconst X49.here hx rfl (hb hby d7_18) ?_
    show Steps p.tables e below (T49.setTop (mkF m 19 #[.val (.ref a1), .val (.long q1), .second] [(.long (1 : Int64)), (.long t), (.ref a1)])) _
    refine XS.ladd X49.here hx rfl (hb hby d7_19) rfl ?_
    show Steps p.tables e below (T49.setTop (mkF m 20 #[.val (.ref a1), .val (.long q1), .second] [(.long (t + (1 : Int64))), (.ref a1)])) _
    refine st51 _ ?_
    show Steps p.tables e below (T51.setTop (mkF m 23 #[.val (.ref a1), .val (.long q1), .second] [])) _
    exact X51.returnOut hx hret0 (hb hby d7_23) hr
  · show QR Z a1 c1 (own_up1 f (own_bk q1.toInt.toNat)) (t + (1 : Int64)) h0 n0 _ T51.heap _
    rw [e51]
    exact ⟨rfl, N51, K53, f55, f56, f54, hne, CC2⟩
def QP (j : Nat) (h0 : Heap) (n0 : Nat) (v : Option Value) (h : Heap) (L : List Loc) : Prop := ∃ r : Int64, v = some (.long r) ∧ r.toInt = own_md j ∧ Fr n0 L ∧ h = h0
theorem d12_0 : decode prog_10_method_4_code 0 = .ok (.dload_n 1, 1) := by decide +kernel
theorem d12_1 : decode prog_10_method_4_code 1 = .ok (.aload_n 0, 1) := by decide +kernel
theorem d12_2 : decode prog_10_method_4_code 2 = .ok (.getfield 21, 3) := by decide +kernel
theorem d12_5 : decode prog_10_method_4_code 5 = .ok (.l2d, 1) := by decide +kernel
theorem d12_6 : decode prog_10_method_4_code 6 = .ok (.dmul, 1) := by decide +kernel
theorem d12_7 : decode prog_10_method_4_code 7 = .ok (.ldc2_w 25, 3) := by decide +kernel
theorem d12_10 : decode prog_10_method_4_code 10 = .ok (.ddiv, 1) := by decide +kernel
theorem d12_11 : decode prog_10_method_4_code 11 = .ok (.invokestatic 27, 3) := by decide +kernel
theorem d12_14 : decode prog_10_method_4_code 14 = .ok (.d2l, 1) := by decide +kernel
theorem d12_15 : decode prog_10_method_4_code 15 = .ok (.lstore_n 3, 1) := by decide +kernel
theorem d12_16 : decode prog_10_method_4_code 16 = .ok (.lconst 0, 1) := by decide +kernel
theorem d12_17 : decode prog_10_method_4_code 17 = .ok (.lstore 5, 2) := by decide +kernel
theorem d12_19 : decode prog_10_method_4_code 19 = .ok (.iconst 0, 1) := by decide +kernel
theorem d12_20 : decode prog_10_method_4_code 20 = .ok (.istore 7, 2) := by decide +kernel
theorem d12_22 : decode prog_10_method_4_code 22 = .ok (.lload 5, 2) := by decide +kernel
theorem d12_24 : decode prog_10_method_4_code 24 = .ok (.aload_n 0, 1) := by decide +kernel
theorem d12_25 : decode prog_10_method_4_code 25 = .ok (.getfield 17, 3) := by decide +kernel
theorem d12_28 : decode prog_10_method_4_code 28 = .ok (.iload 7, 2) := by decide +kernel
theorem d12_30 : decode prog_10_method_4_code 30 = .ok (.laload, 1) := by decide +kernel
theorem d12_31 : decode prog_10_method_4_code 31 = .ok (.ladd, 1) := by decide +kernel
theorem d12_32 : decode prog_10_method_4_code 32 = .ok (.lstore 5, 2) := by decide +kernel
theorem d12_34 : decode prog_10_method_4_code 34 = .ok (.lload 5, 2) := by decide +kernel
theorem d12_36 : decode prog_10_method_4_code 36 = .ok (.lload_n 3, 1) := by decide +kernel
theorem d12_37 : decode prog_10_method_4_code 37 = .ok (.lcmp, 1) := by decide +kernel
theorem d12_38 : decode prog_10_method_4_code 38 = .ok (.ifCond .lt 9, 3) := by decide +kernel
theorem d12_41 : decode prog_10_method_4_code 41 = .ok (.iload 7, 2) := by decide +kernel
theorem d12_43 : decode prog_10_method_4_code 43 = .ok (.invokestatic 33, 3) := by decide +kernel
theorem d12_46 : decode prog_10_method_4_code 46 = .ok (.lreturn, 1) := by decide +kernel
theorem d12_47 : decode prog_10_method_4_code 47 = .ok (.iinc 7 1, 3) := by decide +kernel
theorem d12_50 : decode prog_10_method_4_code 50 = .ok (.goto (-28), 3) := by decide +kernel
theorem own_pn_rmP1 : plainName "com/example/resplice/resplice/LatencyHistogram" = true := by first | (simp [plainName, overriddenIn]; done) | decide +kernel
theorem own_ef_rmP1 (m : MethodId) (a1 : Addr) : entryFrame m #[(.ref a1), (.double (4629137466983448576 : UInt64))] 8 = (mkF m 0 #[.val (.ref a1), .val (.double (4629137466983448576 : UInt64)), .second, .unset, .unset, .unset, .unset, .unset] []) := by first | (simp [entryFrame, mkF, argsToLocals, Value.category]; done) | rfl
set_option maxRecDepth 65536 in
set_option maxHeartbeats 40000000 in
theorem rmP1 (l : Launch) (Z : State) (a0 : Array Value) (hw : ∀ d ∈ tables_1, d.before a0 Z = true) (ws : List Jvm.Cond) (a1 : Addr) (c1 : Addr) (f : Nat → Nat) (j : Nat) (h0 : Heap) (n0 : Nat) (Z0 : n0 ≤ h0.size) (HH : own_H Z h0 a1 c1 f (3 : Int64)) (hS3 : ∀ i, own_S f i ≤ 3) (hj : j < 7296) (hrk : own_rank f 1 j) (O7 : Sta Z Z.heap "java/lang/StrictMath" "$assertionsDisabled" "Z" (.int (1 : Int32))) (X00 : Old Z n0 h0) :
    MetFree l (⟨"com/example/resplice/resplice/LatencyHistogram", "percentile", "(D)J"⟩ : MethodName) (head1 (Jvm.Cond.code (⟨"com/example/resplice/resplice/LatencyHistogram", "percentile", "(D)J"⟩ : MethodName) prog_10_method_4_code 8 (some .long) :: ws) ({ frames := 7, cells := 0, slots := 0, locals := 170 } : Room)) (fun a U => a = #[(.ref a1), (.double (4629137466983448576 : UInt64))] ∧ Z.Warmed39 U.vm ∧ U.heap = h0) (fun _ _ _ _ _ => True) (fun _ U o U' => ∃ v L, o = .returned v ∧ QP j h0 n0 v U'.heap L ∧ FrameEnd U o U' L ({ frames := 7, cells := 0, slots := 0, locals := 170 } : Room).cells ({ frames := 7, cells := 0, slots := 0, locals := 170 } : Room).slots) := by
  refine MetFree.of_bodySF (plainFor_of_name own_pn_rmP1) hisR ?_
  intro p e s m args below meth c s₁ Bd hml0 hP hK
  obtain ⟨hargs, hZ, hh⟩ := hP
  have hx := Bd.exec
  have hby := Bd.bytes
  have hml : c.maxLocals = 8 := hml0
  have hown : s.vm.findClass "com/example/resplice/resplice/LatencyHistogram" = some m.cls := findClass_of_methodNamed Bd.named
  have hnm := (name_of_methodNamed Bd.named Bd.method).1
  have hlock : meth.locks = false := Bd.notSynchronized
  have hret0 := Bd.returns
  have X0 : Stand p l e ({ frames := 7, cells := 0, slots := 0, locals := 170 } : Room) s m args below meth c s₁ [] 0 0 := Stand.of_body Bd
  have e0 : s₁.heap = h0 := by rw [← hh, Bd.state]; rfl
  have N0 := Fr.nil n0
  have pre0 : ∀ t, Steps p.tables e below (s₁.setTop (mkF m 0 #[.val (.ref a1), .val (.double (4629137466983448576 : UInt64)), .second, .unset, .unset, .unset, .unset, .unset] [])) t → Steps p.tables e below (s₁.setTop (entryFrame m args 8)) t := fun t k => castTop (by rw [hargs]; exact own_ef_rmP1 m a1) k
  clear Bd
  obtain ⟨Ex, F0, F1, hne, cell, Ar, Sz, Gt⟩ := HH
  obtain ⟨T57, X57, e57, st57⟩ := getF X0 hx hZ hown (host := "") (Or.inl (hw _ (List.mem_of_getElem? (i := 36) rfl))) Via.refl e0 F1 (g := (mkF m 2 #[.val (.ref a1), .val (.double (4629137466983448576 : UInt64)), .second, .unset, .unset, .unset, .unset, .unset] [(.ref a1), (.double (4629137466983448576 : UInt64))])) rfl rfl (hb hby d12_2)
  obtain ⟨v58, vmx58, ⟨T58, L58, k58, n58⟩, -, X58, ⟨Lc58, hQ58, l58, y58, z58⟩, st58⟩ := Jvm.LawKit.callS X57 hx (y := (⟨"java/lang/Math", "ceil", "(D)D"⟩ : MethodName)) hown (mvT hZ (hw _ (List.mem_of_getElem? (i := 62) rfl))) (mvT hZ (hw _ (List.mem_of_getElem? (i := 63) rfl))) (mvT hZ (hw _ (List.mem_of_getElem? (i := 44) rfl))) (mvT hZ (hw _ (List.mem_of_getElem? (i := 64) rfl))) (by decide) (own_ceilB (W := 0) (k := 3) (w := 140) (n0 := n0) (hp := h0) (b := (4606281698874543309 : UInt64)) (r := (4607182418800017408 : UInt64)) hx hZ (hw _ (List.mem_of_getElem? (i := 64) rfl)) (hw _ (List.mem_of_getElem? (i := 68) rfl)) (hw _ (List.mem_of_getElem? (i := 67) rfl)) (by decide +kernel) (fun mk meth cM a1 a2 a3 a4 a5 a6 => own_sub_ce1 hw hZ X57.admits hx (O7.ext X00.2) mk meth cM a1 a2 a3 a4 a5 a6) (plainFor_of_name (by first | (simp [plainName, overriddenIn]; done) | decide +kernel)) (by decide) (by decide)) (g := (mkF m 11 #[.val (.ref a1), .val (.double (4629137466983448576 : UInt64)), .second, .unset, .unset, .unset, .unset, .unset] [(.double (4606281698874543309 : UInt64))])) rfl (by rw [hml]; rfl) (argsL := [(.double (4606281698874543309 : UInt64))]) (rest := []) (lenOf own_pd4 rfl) rfl (by show 2 * 0 + _ ≤ _; exact Nat.le_of_eq rfl) (hb hby d12_11) (fun _ _ => ⟨rfl, e57, (by decide : 0 + 0 ≤ _), (by decide : 0 + 0 ≤ _)⟩)
  dsimp only [Pt.U, Pt.locs, Pt.cells, Pt.slots] at X58 l58 y58 z58 st58 hQ58
  subst l58 y58 z58
  obtain ⟨rfl, Nq58, eh58⟩ := hQ58
  have N58 := Fr.app N0 Nq58
  have loop : ∀ (d : Nat) (i : Nat) (Tq : State) (lc : List Loc), i + d = j → Stand p l e ({ frames := 7, cells := 0, slots := 0, locals := 170 } : Room) s m args below meth c Tq lc 0 0 → Tq.heap = h0 → ∃ Tz, Stand p l e ({ frames := 7, cells := 0, slots := 0, locals := 170 } : Room) s m args below meth c Tz lc 0 0 ∧ Tz.heap = h0 ∧ ∀ target, Steps p.tables e below (Tz.setTop (mkF m 41 #[.val (.ref a1), .val (.double (4629137466983448576 : UInt64)), .second, .val (.long (1 : Int64)), .second, .val (.long (Int64.ofNat (own_S f (j + 1)))), .second, .val (.int (Int32.ofNat j))] [])) target → Steps p.tables e below (Tq.setTop (mkF m 22 #[.val (.ref a1), .val (.double (4629137466983448576 : UInt64)), .second, .val (.long (1 : Int64)), .second, .val (.long (Int64.ofNat (own_S f i))), .second, .val (.int (Int32.ofNat i))] [])) target := by
    intro d
    induction d with
    | zero =>
      intro i Tq lc hi Xq eq
      have hi2 : i < 7296 := by omega
      have hin := own_inb (cell := cell) (own_ofI (n := i) (by omega)) hi2 Sz
      have hat : cell.slots[(Int32.ofNat i).toNatClampNeg]? = some (.long (Int64.ofNat (f i))) := by rw [own_ix (own_ofI (n := i) (by omega))]; exact Gt _ hi2
      have eS : Int64.ofNat (own_S f i) + Int64.ofNat (f i) = Int64.ofNat (own_S f (i + 1)) := (Int64.ofNat_add _ _).symm
      obtain ⟨T59, X59, e59, st59⟩ := getF Xq hx hZ hown (host := "") (Or.inl (hw _ (List.mem_of_getElem? (i := 29) rfl))) Via.refl eq F0 (g := (mkF m 25 #[.val (.ref a1), .val (.double (4629137466983448576 : UInt64)), .second, .val (.long (1 : Int64)), .second, .val (.long (Int64.ofNat (own_S f i))), .second, .val (.int (Int32.ofNat i))] [(.ref a1), (.long (Int64.ofNat (own_S f i)))])) rfl rfl (hb hby d12_25)
      have eJ := own_ofJ (hS3 (i + 1))
      have eR : (1 : Int64).toInt = 1 := rfl
      obtain rfl : i = j := by omega
      refine ⟨T59, X59, e59, fun target hk => ?_⟩
      show Steps p.tables e below (Tq.setTop (mkF m 22 #[.val (.ref a1), .val (.double (4629137466983448576 : UInt64)), .second, .val (.long (1 : Int64)), .second, .val (.long (Int64.ofNat (own_S f i))), .second, .val (.int (Int32.ofNat i))] [])) _
      refine XS.lload Xq.here hx rfl (hb hby d12_22) rfl ?_
      show Steps p.tables e below (Tq.setTop (mkF m 24 #[.val (.ref a1), .val (.double (4629137466983448576 : UInt64)), .second, .val (.long (1 : Int64)), .second, .val (.long (Int64.ofNat (own_S f i))), .second, .val (.int (Int32.ofNat i))] [(.long (Int64.ofNat (own_S f i)))])) _
      refine XS.aloadN Xq.here hx rfl (hb hby d12_24) rfl rfl ?_
      show Steps p.tables e below (Tq.setTop (mkF m 25 #[.val (.ref a1), .val (.double (4629137466983448576 : UInt64)), .second, .val (.long (1 : Int64)), .second, .val (.long (Int64.ofNat (own_S f i))), .second, .val (.int (Int32.ofNat i))] [(.ref a1), (.long (Int64.ofNat (own_S f i)))])) _
      refine st59 _ ?_
      show Steps p.tables e below (T59.setTop (mkF m 28 #[.val (.ref a1), .val (.double (4629137466983448576 : UInt64)), .second, .val (.long (1 : Int64)), .second, .val (.long (Int64.ofNat (own_S f i))), .second, .val (.int (Int32.ofNat i))] [(.ref c1), (.long (Int64.ofNat (own_S f i)))])) _
      refine XS.iload X59.here hx rfl (hb hby d12_28) rfl ?_
      show Steps p.tables e below (T59.setTop (mkF m 30 #[.val (.ref a1), .val (.double (4629137466983448576 : UInt64)), .second, .val (.long (1 : Int64)), .second, .val (.long (Int64.ofNat (own_S f i))), .second, .val (.int (Int32.ofNat i))] [(.int (Int32.ofNat i)), (.ref c1), (.long (Int64.ofNat (own_S f i)))])) _
      refine X59.laload hx (j := (Int32.ofNat i)) (v := (.long (Int64.ofNat (f i)))) (by rw [e59]; exact Ar.1) (State.isArrayOf_alike hZ.alike Ar.2.1) Ar.2.2 hin hat (g := (mkF m 30 #[.val (.ref a1), .val (.double (4629137466983448576 : UInt64)), .second, .val (.long (1 : Int64)), .second, .val (.long (Int64.ofNat (own_S f i))), .second, .val (.int (Int32.ofNat i))] [(.int (Int32.ofNat i)), (.ref c1), (.long (Int64.ofNat (own_S f i)))])) rfl rfl (hb hby d12_30) _ ?_
      show Steps p.tables e below (T59.setTop (mkF m 31 #[.val (.ref a1), .val (.double (4629137466983448576 : UInt64)), .second, .val (.long (1 : Int64)), .second, .val (.long (Int64.ofNat (own_S f i))), .second, .val (.int (Int32.ofNat i))] [(.long (Int64.ofNat (f i))), (.long (Int64.ofNat (own_S f i)))])) _
      refine XS.ladd X59.here hx rfl (hb hby d12_31) rfl ?_
      show Steps p.tables e below (T59.setTop (mkF m 32 #[.val (.ref a1), .val (.double (4629137466983448576 : UInt64)), .second, .val (.long (1 : Int64)), .second, .val (.long (Int64.ofNat (own_S f i))), .second, .val (.int (Int32.ofNat i))] [(.long ((Int64.ofNat (own_S f i)) + (Int64.ofNat (f i))))])) _
      rw [eS]
      show Steps p.tables e below (T59.setTop (mkF m 32 #[.val (.ref a1), .val (.double (4629137466983448576 : UInt64)), .second, .val (.long (1 : Int64)), .second, .val (.long (Int64.ofNat (own_S f i))), .second, .val (.int (Int32.ofNat i))] [(.long (Int64.ofNat (own_S f (i + 1))))])) _
      refine XS.lstore X59.here hx rfl (hb hby d12_32) rfl (l' := #[.val (.ref a1), .val (.double (4629137466983448576 : UInt64)), .second, .val (.long (1 : Int64)), .second, .val (.long (Int64.ofNat (own_S f (i + 1)))), .second, .val (.int (Int32.ofNat i))]) rfl ?_
      show Steps p.tables e below (T59.setTop (mkF m 34 #[.val (.ref a1), .val (.double (4629137466983448576 : UInt64)), .second, .val (.long (1 : Int64)), .second, .val (.long (Int64.ofNat (own_S f (i + 1)))), .second, .val (.int (Int32.ofNat i))] [])) _
      refine XS.lload X59.here hx rfl (hb hby d12_34) rfl ?_
      show Steps p.tables e below (T59.setTop (mkF m 36 #[.val (.ref a1), .val (.double (4629137466983448576 : UInt64)), .second, .val (.long (1 : Int64)), .second, .val (.long (Int64.ofNat (own_S f (i + 1)))), .second, .val (.int (Int32.ofNat i))] [(.long (Int64.ofNat (own_S f (i + 1))))])) _
      refine XS.lloadN X59.here hx rfl (hb hby d12_36) rfl ?_
      show Steps p.tables e below (T59.setTop (mkF m 37 #[.val (.ref a1), .val (.double (4629137466983448576 : UInt64)), .second, .val (.long (1 : Int64)), .second, .val (.long (Int64.ofNat (own_S f (i + 1)))), .second, .val (.int (Int32.ofNat i))] [(.long (1 : Int64)), (.long (Int64.ofNat (own_S f (i + 1))))])) _
      refine XS.lcmp X59.here hx rfl (hb hby d12_37) rfl ?_
      show Steps p.tables e below (T59.setTop (mkF m 38 #[.val (.ref a1), .val (.double (4629137466983448576 : UInt64)), .second, .val (.long (1 : Int64)), .second, .val (.long (Int64.ofNat (own_S f (i + 1)))), .second, .val (.int (Int32.ofNat i))] [(.int (lcmpW (Int64.ofNat (own_S f (i + 1))) (1 : Int64)))])) _
      refine XS.ifNo X59.here hx rfl (hb hby d12_38) rfl ((if0 _ _).trans (flt (mt (lw_lt _ _).mp (fun q => by rw [Int64.lt_iff_toInt_lt, eJ, eR] at q; have := hrk.1; omega))).1) ?_
      exact hk
    | succ d ih =>
      intro i Tq lc hi Xq eq
      have hi2 : i < 7296 := by omega
      have hin := own_inb (cell := cell) (own_ofI (n := i) (by omega)) hi2 Sz
      have hat : cell.slots[(Int32.ofNat i).toNatClampNeg]? = some (.long (Int64.ofNat (f i))) := by rw [own_ix (own_ofI (n := i) (by omega))]; exact Gt _ hi2
      have eS : Int64.ofNat (own_S f i) + Int64.ofNat (f i) = Int64.ofNat (own_S f (i + 1)) := (Int64.ofNat_add _ _).symm
      obtain ⟨T60, X60, e60, st60⟩ := getF Xq hx hZ hown (host := "") (Or.inl (hw _ (List.mem_of_getElem? (i := 29) rfl))) Via.refl eq F0 (g := (mkF m 25 #[.val (.ref a1), .val (.double (4629137466983448576 : UInt64)), .second, .val (.long (1 : Int64)), .second, .val (.long (Int64.ofNat (own_S f i))), .second, .val (.int (Int32.ofNat i))] [(.ref a1), (.long (Int64.ofNat (own_S f i)))])) rfl rfl (hb hby d12_25)
      have eJ := own_ofJ (hS3 (i + 1))
      have eR : (1 : Int64).toInt = 1 := rfl
      obtain ⟨Tz, Xz, ez, stz⟩ := ih (i + 1) _ _ (by omega) X60 e60
      refine ⟨Tz, Xz, ez, fun target hk => ?_⟩
      show Steps p.tables e below (Tq.setTop (mkF m 22 #[.val (.ref a1), .val (.double (4629137466983448576 : UInt64)), .second, .val (.long (1 : Int64)), .second, .val (.long (Int64.ofNat (own_S f i))), .second, .val (.int (Int32.ofNat i))] [])) _
      refine XS.lload Xq.here hx rfl (hb hby d12_22) rfl ?_
      show Steps p.tables e below (Tq.setTop (mkF m 24 #[.val (.ref a1), .val (.double (4629137466983448576 : UInt64)), .second, .val (.long (1 : Int64)), .second, .val (.long (Int64.ofNat (own_S f i))), .second, .val (.int (Int32.ofNat i))] [(.long (Int64.ofNat (own_S f i)))])) _
      refine XS.aloadN Xq.here hx rfl (hb hby d12_24) rfl rfl ?_
      show Steps p.tables e below (Tq.setTop (mkF m 25 #[.val (.ref a1), .val (.double (4629137466983448576 : UInt64)), .second, .val (.long (1 : Int64)), .second, .val (.long (Int64.ofNat (own_S f i))), .second, .val (.int (Int32.ofNat i))] [(.ref a1), (.long (Int64.ofNat (own_S f i)))])) _
      refine st60 _ ?_
      show Steps p.tables e below (T60.setTop (mkF m 28 #[.val (.ref a1), .val (.double (4629137466983448576 : UInt64)), .second, .val (.long (1 : Int64)), .second, .val (.long (Int64.ofNat (own_S f i))), .second, .val (.int (Int32.ofNat i))] [(.ref c1), (.long (Int64.ofNat (own_S f i)))])) _
      refine XS.iload X60.here hx rfl (hb hby d12_28) rfl ?_
      show Steps p.tables e below (T60.setTop (mkF m 30 #[.val (.ref a1), .val (.double (4629137466983448576 : UInt64)), .second, .val (.long (1 : Int64)), .second, .val (.long (Int64.ofNat (own_S f i))), .second, .val (.int (Int32.ofNat i))] [(.int (Int32.ofNat i)), (.ref c1), (.long (Int64.ofNat (own_S f i)))])) _
      refine X60.laload hx (j := (Int32.ofNat i)) (v := (.long (Int64.ofNat (f i)))) (by rw [e60]; exact Ar.1) (State.isArrayOf_alike hZ.alike Ar.2.1) Ar.2.2 hin hat (g := (mkF m 30 #[.val (.ref a1), .val (.double (4629137466983448576 : UInt64)), .second, .val (.long (1 : Int64)), .second, .val (.long (Int64.ofNat (own_S f i))), .second, .val (.int (Int32.ofNat i))] [(.int (Int32.ofNat i)), (.ref c1), (.long (Int64.ofNat (own_S f i)))])) rfl rfl (hb hby d12_30) _ ?_
      show Steps p.tables e below (T60.setTop (mkF m 31 #[.val (.ref a1), .val (.double (4629137466983448576 : UInt64)), .second, .val (.long (1 : Int64)), .second, .val (.long (Int64.ofNat (own_S f i))), .second, .val (.int (Int32.ofNat i))] [(.long (Int64.ofNat (f i))), (.long (Int64.ofNat (own_S f i)))])) _
      refine XS.ladd X60.here hx rfl (hb hby d12_31) rfl ?_
      show Steps p.tables e below (T60.setTop (mkF m 32 #[.val (.ref a1), .val (.double (4629137466983448576 : UInt64)), .second, .val (.long (1 : Int64)), .second, .val (.long (Int64.ofNat (own_S f i))), .second, .val (.int (Int32.ofNat i))] [(.long ((Int64.ofNat (own_S f i)) + (Int64.ofNat (f i))))])) _
      rw [eS]
      show Steps p.tables e below (T60.setTop (mkF m 32 #[.val (.ref a1), .val (.double (4629137466983448576 : UInt64)), .second, .val (.long (1 : Int64)), .second, .val (.long (Int64.ofNat (own_S f i))), .second, .val (.int (Int32.ofNat i))] [(.long (Int64.ofNat (own_S f (i + 1))))])) _
      refine XS.lstore X60.here hx rfl (hb hby d12_32) rfl (l' := #[.val (.ref a1), .val (.double (4629137466983448576 : UInt64)), .second, .val (.long (1 : Int64)), .second, .val (.long (Int64.ofNat (own_S f (i + 1)))), .second, .val (.int (Int32.ofNat i))]) rfl ?_
      show Steps p.tables e below (T60.setTop (mkF m 34 #[.val (.ref a1), .val (.double (4629137466983448576 : UInt64)), .second, .val (.long (1 : Int64)), .second, .val (.long (Int64.ofNat (own_S f (i + 1)))), .second, .val (.int (Int32.ofNat i))] [])) _
      refine XS.lload X60.here hx rfl (hb hby d12_34) rfl ?_
      show Steps p.tables e below (T60.setTop (mkF m 36 #[.val (.ref a1), .val (.double (4629137466983448576 : UInt64)), .second, .val (.long (1 : Int64)), .second, .val (.long (Int64.ofNat (own_S f (i + 1)))), .second, .val (.int (Int32.ofNat i))] [(.long (Int64.ofNat (own_S f (i + 1))))])) _
      refine XS.lloadN X60.here hx rfl (hb hby d12_36) rfl ?_
      show Steps p.tables e below (T60.setTop (mkF m 37 #[.val (.ref a1), .val (.double (4629137466983448576 : UInt64)), .second, .val (.long (1 : Int64)), .second, .val (.long (Int64.ofNat (own_S f (i + 1)))), .second, .val (.int (Int32.ofNat i))] [(.long (1 : Int64)), (.long (Int64.ofNat (own_S f (i + 1))))])) _
      refine XS.lcmp X60.here hx rfl (hb hby d12_37) rfl ?_
      show Steps p.tables e below (T60.setTop (mkF m 38 #[.val (.ref a1), .val (.double (4629137466983448576 : UInt64)), .second, .val (.long (1 : Int64)), .second, .val (.long (Int64.ofNat (own_S f (i + 1)))), .second, .val (.int (Int32.ofNat i))] [(.int (lcmpW (Int64.ofNat (own_S f (i + 1))) (1 : Int64)))])) _
      refine XS.ifYes X60.here hx rfl (pc0 := 38) (pc' := 47) rfl (hb hby d12_38) rfl ((if0 _ _).trans (tlt ((lw_lt _ _).mpr (by rw [Int64.lt_iff_toInt_lt, eJ, eR]; have := hrk.2 i (by omega); omega))).1) (by decide) (by decide) ?_
      show Steps p.tables e below (T60.setTop (mkF m 47 #[.val (.ref a1), .val (.double (4629137466983448576 : UInt64)), .second, .val (.long (1 : Int64)), .second, .val (.long (Int64.ofNat (own_S f (i + 1)))), .second, .val (.int (Int32.ofNat i))] [])) _
      refine XS.iinc X60.here hx rfl (hb hby d12_47) rfl (l' := #[.val (.ref a1), .val (.double (4629137466983448576 : UInt64)), .second, .val (.long (1 : Int64)), .second, .val (.long (Int64.ofNat (own_S f (i + 1)))), .second, .val (.int ((Int32.ofNat i) + (1 : Int32)))]) rfl ?_
      show Steps p.tables e below (T60.setTop (mkF m 50 #[.val (.ref a1), .val (.double (4629137466983448576 : UInt64)), .second, .val (.long (1 : Int64)), .second, .val (.long (Int64.ofNat (own_S f (i + 1)))), .second, .val (.int ((Int32.ofNat i) + (1 : Int32)))] [])) _
      refine XS.goto X60.here hx rfl (pc0 := 50) (pc' := 22) rfl (hb hby d12_50) (by decide) (by decide) ?_
      show Steps p.tables e below (T60.setTop (mkF m 22 #[.val (.ref a1), .val (.double (4629137466983448576 : UInt64)), .second, .val (.long (1 : Int64)), .second, .val (.long (Int64.ofNat (own_S f (i + 1)))), .second, .val (.int ((Int32.ofNat i) + (1 : Int32)))] [])) _
      rw [show Int32.ofNat i + (1 : Int32) = Int32.ofNat (i + 1) from (Int32.ofNat_add i 1).symm]
      exact stz target hk
  obtain ⟨Tz, Xz, ez, stz⟩ := loop j 0 _ _ (Nat.zero_add j) X58 eh58
  have ej := own_ofI (n := j) (by omega)
  obtain ⟨v61, vmx61, ⟨T61, L61, k61, n61⟩, -, X61, ⟨Lc61, hQ61, l61, y61, z61⟩, st61⟩ := Jvm.LawKit.callS Xz hx (y := (⟨"com/example/resplice/resplice/LatencyHistogram", "middle", "(I)J"⟩ : MethodName)) hown (mvT hZ (hw _ (List.mem_of_getElem? (i := 82) rfl))) (mvT hZ (hw _ (List.mem_of_getElem? (i := 83) rfl))) (mvT hZ (hw _ (List.mem_of_getElem? (i := 7) rfl))) (mvT hZ (hw _ (List.mem_of_getElem? (i := 84) rfl))) (by decide) (backOf (W := 0) (rmM l Z a0 hw [] (Int32.ofNat j) h0 n0 Z0 (by rw [ej]; omega) (by rw [ej]; omega)) hZ (hw _ (List.mem_of_getElem? (i := 84) rfl)) (hw _ (List.mem_of_getElem? (i := 7) rfl)) (by decide) (by decide)) (g := (mkF m 43 #[.val (.ref a1), .val (.double (4629137466983448576 : UInt64)), .second, .val (.long (1 : Int64)), .second, .val (.long (Int64.ofNat (own_S f (j + 1)))), .second, .val (.int (Int32.ofNat j))] [(.int (Int32.ofNat j))])) rfl (by rw [hml]; rfl) (argsL := [(.int (Int32.ofNat j))]) (rest := []) (lenOf own_pd5 rfl) rfl (by show 2 * 0 + _ ≤ _; exact Nat.le_of_eq rfl) (hb hby d12_43) (fun _ _ => ⟨rfl, ez, (by decide : 0 + 0 ≤ _), (by decide : 0 + 0 ≤ _)⟩)
  dsimp only [Pt.U, Pt.locs, Pt.cells, Pt.slots] at X61 l61 y61 z61 st61 hQ61
  subst l61 y61 z61
  obtain ⟨r61, rfl, hr61, Nq61, eh61⟩ := hQ61
  have N61 := Fr.app N58 Nq61
  obtain ⟨fs, hr, hrun, hended, hW, hsame⟩ := X61.leave (v := some (.long r61)) (fun h => by rw [hret0] at h; cases h)
  refine ⟨_, _, pre0 _ ?_, hrun, hended, _, _, rfl, ?_, ⟨_, rfl⟩, hW, hsame.mono (by decide) (by decide)⟩
  · show Steps p.tables e below (s₁.setTop (mkF m 0 #[.val (.ref a1), .val (.double (4629137466983448576 : UInt64)), .second, .unset, .unset, .unset, .unset, .unset] [])) _
    refine XS.dloadN X0.here hx rfl (hb hby d12_0) rfl ?_
    show Steps p.tables e below (s₁.setTop (mkF m 1 #[.val (.ref a1), .val (.double (4629137466983448576 : UInt64)), .second, .unset, .unset, .unset, .unset, .unset] [(.double (4629137466983448576 : UInt64))])) _
    refine XS.aloadN X0.here hx rfl (hb hby d12_1) rfl rfl ?_
    show Steps p.tables e below (s₁.setTop (mkF m 2 #[.val (.ref a1), .val (.double (4629137466983448576 : UInt64)), .second, .unset, .unset, .unset, .unset, .unset] [(.ref a1), (.double (4629137466983448576 : UInt64))])) _
    refine st57 _ ?_
    show Steps p.tables e below (T57.setTop (mkF m 5 #[.val (.ref a1), .val (.double (4629137466983448576 : UInt64)), .second, .unset, .unset, .unset, .unset, .unset] [(.long (3 : Int64)), (.double (4629137466983448576 : UInt64))])) _
    refine XS.l2dS X57.here hx rfl (v := (4613937818241073152 : UInt64)) (hb hby d12_5) rfl (by decide +kernel) ?_
    show Steps p.tables e below (T57.setTop (mkF m 6 #[.val (.ref a1), .val (.double (4629137466983448576 : UInt64)), .second, .unset, .unset, .unset, .unset, .unset] [(.double (4613937818241073152 : UInt64)), (.double (4629137466983448576 : UInt64))])) _
    refine XS.dmulS X57.here hx rfl (v := (4636033603912859648 : UInt64)) (hb hby d12_6) rfl (show FP.dmul (4629137466983448576 : UInt64) (4613937818241073152 : UInt64) &&& 0x7fffffffffffffff ≤ 0x7ff0000000000000 by decide +kernel) (by decide +kernel) ?_
    show Steps p.tables e below (T57.setTop (mkF m 7 #[.val (.ref a1), .val (.double (4629137466983448576 : UInt64)), .second, .unset, .unset, .unset, .unset, .unset] [(.double (4636033603912859648 : UInt64))])) _
    refine X57.ldc2DoubleC hx hown (mvT hZ (hw _ (List.mem_of_getElem? (i := 61) rfl))) (g := (mkF m 7 #[.val (.ref a1), .val (.double (4629137466983448576 : UInt64)), .second, .unset, .unset, .unset, .unset, .unset] [(.double (4636033603912859648 : UInt64))])) rfl (hb hby d12_7) _ ?_
    show Steps p.tables e below (T57.setTop (mkF m 10 #[.val (.ref a1), .val (.double (4629137466983448576 : UInt64)), .second, .unset, .unset, .unset, .unset, .unset] [(.double (4636737291354636288 : UInt64)), (.double (4636033603912859648 : UInt64))])) _
    refine XS.ddivS X57.here hx rfl (v := (4606281698874543309 : UInt64)) (hb hby d12_10) rfl (show FP.ddiv (4636033603912859648 : UInt64) (4636737291354636288 : UInt64) &&& 0x7fffffffffffffff ≤ 0x7ff0000000000000 by decide +kernel) (by decide +kernel) ?_
    show Steps p.tables e below (T57.setTop (mkF m 11 #[.val (.ref a1), .val (.double (4629137466983448576 : UInt64)), .second, .unset, .unset, .unset, .unset, .unset] [(.double (4606281698874543309 : UInt64))])) _
    refine st58 _ ?_
    show Steps p.tables e below (T58.setTop (mkF m 14 #[.val (.ref a1), .val (.double (4629137466983448576 : UInt64)), .second, .unset, .unset, .unset, .unset, .unset] [(.double (4607182418800017408 : UInt64))])) _
    refine XS.d2lS X58.here hx rfl (v := (1 : Int64)) (hb hby d12_14) rfl (by decide +kernel) ?_
    show Steps p.tables e below (T58.setTop (mkF m 15 #[.val (.ref a1), .val (.double (4629137466983448576 : UInt64)), .second, .unset, .unset, .unset, .unset, .unset] [(.long (1 : Int64))])) _
    refine XS.lstoreN X58.here hx rfl (hb hby d12_15) rfl (l' := #[.val (.ref a1), .val (.double (4629137466983448576 : UInt64)), .second, .val (.long (1 : Int64)), .second, .unset, .unset, .unset]) rfl ?_
    show Steps p.tables e below (T58.setTop (mkF m 16 #[.val (.ref a1), .val (.double (4629137466983448576 : UInt64)), .second, .val (.long (1 : Int64)), .second, .unset, .unset, .unset] [])) _
    refine XS.lconst X58.here hx rfl (hb hby d12_16) ?_
    show Steps p.tables e below (T58.setTop (mkF m 17 #[.val (.ref a1), .val (.double (4629137466983448576 : UInt64)), .second, .val (.long (1 : Int64)), .second, .unset, .unset, .unset] [(.long (0 : Int64))])) _
    refine XS.lstore X58.here hx rfl (hb hby d12_17) rfl (l' := #[.val (.ref a1), .val (.double (4629137466983448576 : UInt64)), .second, .val (.long (1 : Int64)), .second, .val (.long (0 : Int64)), .second, .unset]) rfl ?_
    show Steps p.tables e below (T58.setTop (mkF m 19 #[.val (.ref a1), .val (.double (4629137466983448576 : UInt64)), .second, .val (.long (1 : Int64)), .second, .val (.long (0 : Int64)), .second, .unset] [])) _
    refine XS.iconst X58.here hx rfl (hb hby d12_19) ?_
    show Steps p.tables e below (T58.setTop (mkF m 20 #[.val (.ref a1), .val (.double (4629137466983448576 : UInt64)), .second, .val (.long (1 : Int64)), .second, .val (.long (0 : Int64)), .second, .unset] [(.int (0 : Int32))])) _
    refine XS.istore X58.here hx rfl (hb hby d12_20) rfl (l' := #[.val (.ref a1), .val (.double (4629137466983448576 : UInt64)), .second, .val (.long (1 : Int64)), .second, .val (.long (0 : Int64)), .second, .val (.int (0 : Int32))]) rfl ?_
    show Steps p.tables e below (T58.setTop (mkF m 22 #[.val (.ref a1), .val (.double (4629137466983448576 : UInt64)), .second, .val (.long (1 : Int64)), .second, .val (.long (0 : Int64)), .second, .val (.int (0 : Int32))] [])) _
    refine stz _ ?_
    show Steps p.tables e below (Tz.setTop (mkF m 41 #[.val (.ref a1), .val (.double (4629137466983448576 : UInt64)), .second, .val (.long (1 : Int64)), .second, .val (.long (Int64.ofNat (own_S f (j + 1)))), .second, .val (.int (Int32.ofNat j))] [])) _
    refine XS.iload Xz.here hx rfl (hb hby d12_41) rfl ?_
    show Steps p.tables e below (Tz.setTop (mkF m 43 #[.val (.ref a1), .val (.double (4629137466983448576 : UInt64)), .second, .val (.long (1 : Int64)), .second, .val (.long (Int64.ofNat (own_S f (j + 1)))), .second, .val (.int (Int32.ofNat j))] [(.int (Int32.ofNat j))])) _
    refine st61 _ ?_
    show Steps p.tables e below (T61.setTop (mkF m 46 #[.val (.ref a1), .val (.double (4629137466983448576 : UInt64)), .second, .val (.long (1 : Int64)), .second, .val (.long (Int64.ofNat (own_S f (j + 1)))), .second, .val (.int (Int32.ofNat j))] [(.long r61)])) _
    exact retJ X61 hx hret0 (hb hby d12_46) hr
  · show QP j h0 n0 _ T61.heap _
    rw [eh61]
    exact ⟨_, rfl, by rw [hr61, ej]; rfl, N61, rfl⟩
theorem own_pn_rmP2 : plainName "com/example/resplice/resplice/LatencyHistogram" = true := by first | (simp [plainName, overriddenIn]; done) | decide +kernel
theorem own_ef_rmP2 (m : MethodId) (a1 : Addr) : entryFrame m #[(.ref a1), (.double (4633641066610819072 : UInt64))] 8 = (mkF m 0 #[.val (.ref a1), .val (.double (4633641066610819072 : UInt64)), .second, .unset, .unset, .unset, .unset, .unset] []) := by first | (simp [entryFrame, mkF, argsToLocals, Value.category]; done) | rfl
set_option maxRecDepth 65536 in
set_option maxHeartbeats 40000000 in
theorem rmP2 (l : Launch) (Z : State) (a0 : Array Value) (hw : ∀ d ∈ tables_1, d.before a0 Z = true) (ws : List Jvm.Cond) (a1 : Addr) (c1 : Addr) (f : Nat → Nat) (j : Nat) (h0 : Heap) (n0 : Nat) (Z0 : n0 ≤ h0.size) (HH : own_H Z h0 a1 c1 f (3 : Int64)) (hS3 : ∀ i, own_S f i ≤ 3) (hj : j < 7296) (hrk : own_rank f 2 j) (O7 : Sta Z Z.heap "java/lang/StrictMath" "$assertionsDisabled" "Z" (.int (1 : Int32))) (X00 : Old Z n0 h0) :
    MetFree l (⟨"com/example/resplice/resplice/LatencyHistogram", "percentile", "(D)J"⟩ : MethodName) (head1 (Jvm.Cond.code (⟨"com/example/resplice/resplice/LatencyHistogram", "percentile", "(D)J"⟩ : MethodName) prog_10_method_4_code 8 (some .long) :: ws) ({ frames := 7, cells := 0, slots := 0, locals := 170 } : Room)) (fun a U => a = #[(.ref a1), (.double (4633641066610819072 : UInt64))] ∧ Z.Warmed39 U.vm ∧ U.heap = h0) (fun _ _ _ _ _ => True) (fun _ U o U' => ∃ v L, o = .returned v ∧ QP j h0 n0 v U'.heap L ∧ FrameEnd U o U' L ({ frames := 7, cells := 0, slots := 0, locals := 170 } : Room).cells ({ frames := 7, cells := 0, slots := 0, locals := 170 } : Room).slots) := by
  refine MetFree.of_bodySF (plainFor_of_name own_pn_rmP2) hisR ?_
  intro p e s m args below meth c s₁ Bd hml0 hP hK
  obtain ⟨hargs, hZ, hh⟩ := hP
  have hx := Bd.exec
  have hby := Bd.bytes
  have hml : c.maxLocals = 8 := hml0
  have hown : s.vm.findClass "com/example/resplice/resplice/LatencyHistogram" = some m.cls := findClass_of_methodNamed Bd.named
  have hnm := (name_of_methodNamed Bd.named Bd.method).1
  have hlock : meth.locks = false := Bd.notSynchronized
  have hret0 := Bd.returns
  have X0 : Stand p l e ({ frames := 7, cells := 0, slots := 0, locals := 170 } : Room) s m args below meth c s₁ [] 0 0 := Stand.of_body Bd
  have e0 : s₁.heap = h0 := by rw [← hh, Bd.state]; rfl
  have N0 := Fr.nil n0
  have pre0 : ∀ t, Steps p.tables e below (s₁.setTop (mkF m 0 #[.val (.ref a1), .val (.double (4633641066610819072 : UInt64)), .second, .unset, .unset, .unset, .unset, .unset] [])) t → Steps p.tables e below (s₁.setTop (entryFrame m args 8)) t := fun t k => castTop (by rw [hargs]; exact own_ef_rmP2 m a1) k
  clear Bd
  obtain ⟨Ex, F0, F1, hne, cell, Ar, Sz, Gt⟩ := HH
  obtain ⟨T62, X62, e62, st62⟩ := getF X0 hx hZ hown (host := "") (Or.inl (hw _ (List.mem_of_getElem? (i := 36) rfl))) Via.refl e0 F1 (g := (mkF m 2 #[.val (.ref a1), .val (.double (4633641066610819072 : UInt64)), .second, .unset, .unset, .unset, .unset, .unset] [(.ref a1), (.double (4633641066610819072 : UInt64))])) rfl rfl (hb hby d12_2)
  obtain ⟨v63, vmx63, ⟨T63, L63, k63, n63⟩, -, X63, ⟨Lc63, hQ63, l63, y63, z63⟩, st63⟩ := Jvm.LawKit.callS X62 hx (y := (⟨"java/lang/Math", "ceil", "(D)D"⟩ : MethodName)) hown (mvT hZ (hw _ (List.mem_of_getElem? (i := 62) rfl))) (mvT hZ (hw _ (List.mem_of_getElem? (i := 63) rfl))) (mvT hZ (hw _ (List.mem_of_getElem? (i := 44) rfl))) (mvT hZ (hw _ (List.mem_of_getElem? (i := 64) rfl))) (by decide) (own_ceilB (W := 0) (k := 3) (w := 140) (n0 := n0) (hp := h0) (b := (4610785298501913805 : UInt64)) (r := (4611686018427387904 : UInt64)) hx hZ (hw _ (List.mem_of_getElem? (i := 64) rfl)) (hw _ (List.mem_of_getElem? (i := 68) rfl)) (hw _ (List.mem_of_getElem? (i := 67) rfl)) (by decide +kernel) (fun mk meth cM a1 a2 a3 a4 a5 a6 => own_sub_ce2 hw hZ X62.admits hx (O7.ext X00.2) mk meth cM a1 a2 a3 a4 a5 a6) (plainFor_of_name (by first | (simp [plainName, overriddenIn]; done) | decide +kernel)) (by decide) (by decide)) (g := (mkF m 11 #[.val (.ref a1), .val (.double (4633641066610819072 : UInt64)), .second, .unset, .unset, .unset, .unset, .unset] [(.double (4610785298501913805 : UInt64))])) rfl (by rw [hml]; rfl) (argsL := [(.double (4610785298501913805 : UInt64))]) (rest := []) (lenOf own_pd4 rfl) rfl (by show 2 * 0 + _ ≤ _; exact Nat.le_of_eq rfl) (hb hby d12_11) (fun _ _ => ⟨rfl, e62, (by decide : 0 + 0 ≤ _), (by decide : 0 + 0 ≤ _)⟩)
  dsimp only [Pt.U, Pt.locs, Pt.cells, Pt.slots] at X63 l63 y63 z63 st63 hQ63
  subst l63 y63 z63
  obtain ⟨rfl, Nq63, eh63⟩ := hQ63
  have N63 := Fr.app N0 Nq63
  have loop : ∀ (d : Nat) (i : Nat) (Tq : State) (lc : List Loc), i + d = j → Stand p l e ({ frames := 7, cells := 0, slots := 0, locals := 170 } : Room) s m args below meth c Tq lc 0 0 → Tq.heap = h0 → ∃ Tz, Stand p l e ({ frames := 7, cells := 0, slots := 0, locals := 170 } : Room) s m args below meth c Tz lc 0 0 ∧ Tz.heap = h0 ∧ ∀ target, Steps p.tables e below (Tz.setTop (mkF m 41 #[.val (.ref a1), .val (.double (4633641066610819072 : UInt64)), .second, .val (.long (2 : Int64)), .second, .val (.long (Int64.ofNat (own_S f (j + 1)))), .second, .val (.int (Int32.ofNat j))] [])) target → Steps p.tables e below (Tq.setTop (mkF m 22 #[.val (.ref a1), .val (.double (4633641066610819072 : UInt64)), .second, .val (.long (2 : Int64)), .second, .val (.long (Int64.ofNat (own_S f i))), .second, .val (.int (Int32.ofNat i))] [])) target := by
    intro d
    induction d with
    | zero =>
      intro i Tq lc hi Xq eq
      have hi2 : i < 7296 := by omega
      have hin := own_inb (cell := cell) (own_ofI (n := i) (by omega)) hi2 Sz
      have hat : cell.slots[(Int32.ofNat i).toNatClampNeg]? = some (.long (Int64.ofNat (f i))) := by rw [own_ix (own_ofI (n := i) (by omega))]; exact Gt _ hi2
      have eS : Int64.ofNat (own_S f i) + Int64.ofNat (f i) = Int64.ofNat (own_S f (i + 1)) := (Int64.ofNat_add _ _).symm
      obtain ⟨T64, X64, e64, st64⟩ := getF Xq hx hZ hown (host := "") (Or.inl (hw _ (List.mem_of_getElem? (i := 29) rfl))) Via.refl eq F0 (g := (mkF m 25 #[.val (.ref a1), .val (.double (4633641066610819072 : UInt64)), .second, .val (.long (2 : Int64)), .second, .val (.long (Int64.ofNat (own_S f i))), .second, .val (.int (Int32.ofNat i))] [(.ref a1), (.long (Int64.ofNat (own_S f i)))])) rfl rfl (hb hby d12_25)
      have eJ := own_ofJ (hS3 (i + 1))
      have eR : (2 : Int64).toInt = 2 := rfl
      obtain rfl : i = j := by omega
      refine ⟨T64, X64, e64, fun target hk => ?_⟩
      show Steps p.tables e below (Tq.setTop (mkF m 22 #[.val (.ref a1), .val (.double (4633641066610819072 : UInt64)), .second, .val (.long (2 : Int64)), .second, .val (.long (Int64.ofNat (own_S f i))), .second, .val (.int (Int32.ofNat i))] [])) _
      refine XS.lload Xq.here hx rfl (hb hby d12_22) rfl ?_
      show Steps p.tables e below (Tq.setTop (mkF m 24 #[.val (.ref a1), .val (.double (4633641066610819072 : UInt64)), .second, .val (.long (2 : Int64)), .second, .val (.long (Int64.ofNat (own_S f i))), .second, .val (.int (Int32.ofNat i))] [(.long (Int64.ofNat (own_S f i)))])) _
      refine XS.aloadN Xq.here hx rfl (hb hby d12_24) rfl rfl ?_
      show Steps p.tables e below (Tq.setTop (mkF m 25 #[.val (.ref a1), .val (.double (4633641066610819072 : UInt64)), .second, .val (.long (2 : Int64)), .second, .val (.long (Int64.ofNat (own_S f i))), .second, .val (.int (Int32.ofNat i))] [(.ref a1), (.long (Int64.ofNat (own_S f i)))])) _
      refine st64 _ ?_
      show Steps p.tables e below (T64.setTop (mkF m 28 #[.val (.ref a1), .val (.double (4633641066610819072 : UInt64)), .second, .val (.long (2 : Int64)), .second, .val (.long (Int64.ofNat (own_S f i))), .second, .val (.int (Int32.ofNat i))] [(.ref c1), (.long (Int64.ofNat (own_S f i)))])) _
      refine XS.iload X64.here hx rfl (hb hby d12_28) rfl ?_
      show Steps p.tables e below (T64.setTop (mkF m 30 #[.val (.ref a1), .val (.double (4633641066610819072 : UInt64)), .second, .val (.long (2 : Int64)), .second, .val (.long (Int64.ofNat (own_S f i))), .second, .val (.int (Int32.ofNat i))] [(.int (Int32.ofNat i)), (.ref c1), (.long (Int64.ofNat (own_S f i)))])) _
      refine X64.laload hx (j := (Int32.ofNat i)) (v := (.long (Int64.ofNat (f i)))) (by rw [e64]; exact Ar.1) (State.isArrayOf_alike hZ.alike Ar.2.1) Ar.2.2 hin hat (g := (mkF m 30 #[.val (.ref a1), .val (.double (4633641066610819072 : UInt64)), .second, .val (.long (2 : Int64)), .second, .val (.long (Int64.ofNat (own_S f i))), .second, .val (.int (Int32.ofNat i))] [(.int (Int32.ofNat i)), (.ref c1), (.long (Int64.ofNat (own_S f i)))])) rfl rfl (hb hby d12_30) _ ?_
      show Steps p.tables e below (T64.setTop (mkF m 31 #[.val (.ref a1), .val (.double (4633641066610819072 : UInt64)), .second, .val (.long (2 : Int64)), .second, .val (.long (Int64.ofNat (own_S f i))), .second, .val (.int (Int32.ofNat i))] [(.long (Int64.ofNat (f i))), (.long (Int64.ofNat (own_S f i)))])) _
      refine XS.ladd X64.here hx rfl (hb hby d12_31) rfl ?_
      show Steps p.tables e below (T64.setTop (mkF m 32 #[.val (.ref a1), .val (.double (4633641066610819072 : UInt64)), .second, .val (.long (2 : Int64)), .second, .val (.long (Int64.ofNat (own_S f i))), .second, .val (.int (Int32.ofNat i))] [(.long ((Int64.ofNat (own_S f i)) + (Int64.ofNat (f i))))])) _
      rw [eS]
      show Steps p.tables e below (T64.setTop (mkF m 32 #[.val (.ref a1), .val (.double (4633641066610819072 : UInt64)), .second, .val (.long (2 : Int64)), .second, .val (.long (Int64.ofNat (own_S f i))), .second, .val (.int (Int32.ofNat i))] [(.long (Int64.ofNat (own_S f (i + 1))))])) _
      refine XS.lstore X64.here hx rfl (hb hby d12_32) rfl (l' := #[.val (.ref a1), .val (.double (4633641066610819072 : UInt64)), .second, .val (.long (2 : Int64)), .second, .val (.long (Int64.ofNat (own_S f (i + 1)))), .second, .val (.int (Int32.ofNat i))]) rfl ?_
      show Steps p.tables e below (T64.setTop (mkF m 34 #[.val (.ref a1), .val (.double (4633641066610819072 : UInt64)), .second, .val (.long (2 : Int64)), .second, .val (.long (Int64.ofNat (own_S f (i + 1)))), .second, .val (.int (Int32.ofNat i))] [])) _
      refine XS.lload X64.here hx rfl (hb hby d12_34) rfl ?_
      show Steps p.tables e below (T64.setTop (mkF m 36 #[.val (.ref a1), .val (.double (4633641066610819072 : UInt64)), .second, .val (.long (2 : Int64)), .second, .val (.long (Int64.ofNat (own_S f (i + 1)))), .second, .val (.int (Int32.ofNat i))] [(.long (Int64.ofNat (own_S f (i + 1))))])) _
      refine XS.lloadN X64.here hx rfl (hb hby d12_36) rfl ?_
      show Steps p.tables e below (T64.setTop (mkF m 37 #[.val (.ref a1), .val (.double (4633641066610819072 : UInt64)), .second, .val (.long (2 : Int64)), .second, .val (.long (Int64.ofNat (own_S f (i + 1)))), .second, .val (.int (Int32.ofNat i))] [(.long (2 : Int64)), (.long (Int64.ofNat (own_S f (i + 1))))])) _
      refine XS.lcmp X64.here hx rfl (hb hby d12_37) rfl ?_
      show Steps p.tables e below (T64.setTop (mkF m 38 #[.val (.ref a1), .val (.double (4633641066610819072 : UInt64)), .second, .val (.long (2 : Int64)), .second, .val (.long (Int64.ofNat (own_S f (i + 1)))), .second, .val (.int (Int32.ofNat i))] [(.int (lcmpW (Int64.ofNat (own_S f (i + 1))) (2 : Int64)))])) _
      refine XS.ifNo X64.here hx rfl (hb hby d12_38) rfl ((if0 _ _).trans (flt (mt (lw_lt _ _).mp (fun q => by rw [Int64.lt_iff_toInt_lt, eJ, eR] at q; have := hrk.1; omega))).1) ?_
      exact hk
    | succ d ih =>
      intro i Tq lc hi Xq eq
      have hi2 : i < 7296 := by omega
      have hin := own_inb (cell := cell) (own_ofI (n := i) (by omega)) hi2 Sz
      have hat : cell.slots[(Int32.ofNat i).toNatClampNeg]? = some (.long (Int64.ofNat (f i))) := by rw [own_ix (own_ofI (n := i) (by omega))]; exact Gt _ hi2
      have eS : Int64.ofNat (own_S f i) + Int64.ofNat (f i) = Int64.ofNat (own_S f (i + 1)) := (Int64.ofNat_add _ _).symm
      obtain ⟨T65, X65, e65, st65⟩ := getF Xq hx hZ hown (host := "") (Or.inl (hw _ (List.mem_of_getElem? (i := 29) rfl))) Via.refl eq F0 (g := (mkF m 25 #[.val (.ref a1), .val (.double (4633641066610819072 : UInt64)), .second, .val (.long (2 : Int64)), .second, .val (.long (Int64.ofNat (own_S f i))), .second, .val (.int (Int32.ofNat i))] [(.ref a1), (.long (Int64.ofNat (own_S f i)))])) rfl rfl (hb hby d12_25)
      have eJ := own_ofJ (hS3 (i + 1))
      have eR : (2 : Int64).toInt = 2 := rfl
      obtain ⟨Tz, Xz, ez, stz⟩ := ih (i + 1) _ _ (by omega) X65 e65
      refine ⟨Tz, Xz, ez, fun target hk => ?_⟩
      show Steps p.tables e below (Tq.setTop (mkF m 22 #[.val (.ref a1), .val (.double (4633641066610819072 : UInt64)), .second, .val (.long (2 : Int64)), .second, .val (.long (Int64.ofNat (own_S f i))), .second, .val (.int (Int32.ofNat i))] [])) _
      refine XS.lload Xq.here hx rfl (hb hby d12_22) rfl ?_
      show Steps p.tables e below (Tq.setTop (mkF m 24 #[.val (.ref a1), .val (.double (4633641066610819072 : UInt64)), .second, .val (.long (2 : Int64)), .second, .val (.long (Int64.ofNat (own_S f i))), .second, .val (.int (Int32.ofNat i))] [(.long (Int64.ofNat (own_S f i)))])) _
      refine XS.aloadN Xq.here hx rfl (hb hby d12_24) rfl rfl ?_
      show Steps p.tables e below (Tq.setTop (mkF m 25 #[.val (.ref a1), .val (.double (4633641066610819072 : UInt64)), .second, .val (.long (2 : Int64)), .second, .val (.long (Int64.ofNat (own_S f i))), .second, .val (.int (Int32.ofNat i))] [(.ref a1), (.long (Int64.ofNat (own_S f i)))])) _
      refine st65 _ ?_
      show Steps p.tables e below (T65.setTop (mkF m 28 #[.val (.ref a1), .val (.double (4633641066610819072 : UInt64)), .second, .val (.long (2 : Int64)), .second, .val (.long (Int64.ofNat (own_S f i))), .second, .val (.int (Int32.ofNat i))] [(.ref c1), (.long (Int64.ofNat (own_S f i)))])) _
      refine XS.iload X65.here hx rfl (hb hby d12_28) rfl ?_
      show Steps p.tables e below (T65.setTop (mkF m 30 #[.val (.ref a1), .val (.double (4633641066610819072 : UInt64)), .second, .val (.long (2 : Int64)), .second, .val (.long (Int64.ofNat (own_S f i))), .second, .val (.int (Int32.ofNat i))] [(.int (Int32.ofNat i)), (.ref c1), (.long (Int64.ofNat (own_S f i)))])) _
      refine X65.laload hx (j := (Int32.ofNat i)) (v := (.long (Int64.ofNat (f i)))) (by rw [e65]; exact Ar.1) (State.isArrayOf_alike hZ.alike Ar.2.1) Ar.2.2 hin hat (g := (mkF m 30 #[.val (.ref a1), .val (.double (4633641066610819072 : UInt64)), .second, .val (.long (2 : Int64)), .second, .val (.long (Int64.ofNat (own_S f i))), .second, .val (.int (Int32.ofNat i))] [(.int (Int32.ofNat i)), (.ref c1), (.long (Int64.ofNat (own_S f i)))])) rfl rfl (hb hby d12_30) _ ?_
      show Steps p.tables e below (T65.setTop (mkF m 31 #[.val (.ref a1), .val (.double (4633641066610819072 : UInt64)), .second, .val (.long (2 : Int64)), .second, .val (.long (Int64.ofNat (own_S f i))), .second, .val (.int (Int32.ofNat i))] [(.long (Int64.ofNat (f i))), (.long (Int64.ofNat (own_S f i)))])) _
      refine XS.ladd X65.here hx rfl (hb hby d12_31) rfl ?_
      show Steps p.tables e below (T65.setTop (mkF m 32 #[.val (.ref a1), .val (.double (4633641066610819072 : UInt64)), .second, .val (.long (2 : Int64)), .second, .val (.long (Int64.ofNat (own_S f i))), .second, .val (.int (Int32.ofNat i))] [(.long ((Int64.ofNat (own_S f i)) + (Int64.ofNat (f i))))])) _
      rw [eS]
      show Steps p.tables e below (T65.setTop (mkF m 32 #[.val (.ref a1), .val (.double (4633641066610819072 : UInt64)), .second, .val (.long (2 : Int64)), .second, .val (.long (Int64.ofNat (own_S f i))), .second, .val (.int (Int32.ofNat i))] [(.long (Int64.ofNat (own_S f (i + 1))))])) _
      refine XS.lstore X65.here hx rfl (hb hby d12_32) rfl (l' := #[.val (.ref a1), .val (.double (4633641066610819072 : UInt64)), .second, .val (.long (2 : Int64)), .second, .val (.long (Int64.ofNat (own_S f (i + 1)))), .second, .val (.int (Int32.ofNat i))]) rfl ?_
      show Steps p.tables e below (T65.setTop (mkF m 34 #[.val (.ref a1), .val (.double (4633641066610819072 : UInt64)), .second, .val (.long (2 : Int64)), .second, .val (.long (Int64.ofNat (own_S f (i + 1)))), .second, .val (.int (Int32.ofNat i))] [])) _
      refine XS.lload X65.here hx rfl (hb hby d12_34) rfl ?_
      show Steps p.tables e below (T65.setTop (mkF m 36 #[.val (.ref a1), .val (.double (4633641066610819072 : UInt64)), .second, .val (.long (2 : Int64)), .second, .val (.long (Int64.ofNat (own_S f (i + 1)))), .second, .val (.int (Int32.ofNat i))] [(.long (Int64.ofNat (own_S f (i + 1))))])) _
      refine XS.lloadN X65.here hx rfl (hb hby d12_36) rfl ?_
      show Steps p.tables e below (T65.setTop (mkF m 37 #[.val (.ref a1), .val (.double (4633641066610819072 : UInt64)), .second, .val (.long (2 : Int64)), .second, .val (.long (Int64.ofNat (own_S f (i + 1)))), .second, .val (.int (Int32.ofNat i))] [(.long (2 : Int64)), (.long (Int64.ofNat (own_S f (i + 1))))])) _
      refine XS.lcmp X65.here hx rfl (hb hby d12_37) rfl ?_
      show Steps p.tables e below (T65.setTop (mkF m 38 #[.val (.ref a1), .val (.double (4633641066610819072 : UInt64)), .second, .val (.long (2 : Int64)), .second, .val (.long (Int64.ofNat (own_S f (i + 1)))), .second, .val (.int (Int32.ofNat i))] [(.int (lcmpW (Int64.ofNat (own_S f (i + 1))) (2 : Int64)))])) _
      refine XS.ifYes X65.here hx rfl (pc0 := 38) (pc' := 47) rfl (hb hby d12_38) rfl ((if0 _ _).trans (tlt ((lw_lt _ _).mpr (by rw [Int64.lt_iff_toInt_lt, eJ, eR]; have := hrk.2 i (by omega); omega))).1) (by decide) (by decide) ?_
      show Steps p.tables e below (T65.setTop (mkF m 47 #[.val (.ref a1), .val (.double (4633641066610819072 : UInt64)), .second, .val (.long (2 : Int64)), .second, .val (.long (Int64.ofNat (own_S f (i + 1)))), .second, .val (.int (Int32.ofNat i))] [])) _
      refine XS.iinc X65.here hx rfl (hb hby d12_47) rfl (l' := #[.val (.ref a1), .val (.double (4633641066610819072 : UInt64)), .second, .val (.long (2 : Int64)), .second, .val (.long (Int64.ofNat (own_S f (i + 1)))), .second, .val (.int ((Int32.ofNat i) + (1 : Int32)))]) rfl ?_
      show Steps p.tables e below (T65.setTop (mkF m 50 #[.val (.ref a1), .val (.double (4633641066610819072 : UInt64)), .second, .val (.long (2 : Int64)), .second, .val (.long (Int64.ofNat (own_S f (i + 1)))), .second, .val (.int ((Int32.ofNat i) + (1 : Int32)))] [])) _
      refine XS.goto X65.here hx rfl (pc0 := 50) (pc' := 22) rfl (hb hby d12_50) (by decide) (by decide) ?_
      show Steps p.tables e below (T65.setTop (mkF m 22 #[.val (.ref a1), .val (.double (4633641066610819072 : UInt64)), .second, .val (.long (2 : Int64)), .second, .val (.long (Int64.ofNat (own_S f (i + 1)))), .second, .val (.int ((Int32.ofNat i) + (1 : Int32)))] [])) _
      rw [show Int32.ofNat i + (1 : Int32) = Int32.ofNat (i + 1) from (Int32.ofNat_add i 1).symm]
      exact stz target hk
  obtain ⟨Tz, Xz, ez, stz⟩ := loop j 0 _ _ (Nat.zero_add j) X63 eh63
  have ej := own_ofI (n := j) (by omega)
  obtain ⟨v66, vmx66, ⟨T66, L66, k66, n66⟩, -, X66, ⟨Lc66, hQ66, l66, y66, z66⟩, st66⟩ := Jvm.LawKit.callS Xz hx (y := (⟨"com/example/resplice/resplice/LatencyHistogram", "middle", "(I)J"⟩ : MethodName)) hown (mvT hZ (hw _ (List.mem_of_getElem? (i := 82) rfl))) (mvT hZ (hw _ (List.mem_of_getElem? (i := 83) rfl))) (mvT hZ (hw _ (List.mem_of_getElem? (i := 7) rfl))) (mvT hZ (hw _ (List.mem_of_getElem? (i := 84) rfl))) (by decide) (backOf (W := 0) (rmM l Z a0 hw [] (Int32.ofNat j) h0 n0 Z0 (by rw [ej]; omega) (by rw [ej]; omega)) hZ (hw _ (List.mem_of_getElem? (i := 84) rfl)) (hw _ (List.mem_of_getElem? (i := 7) rfl)) (by decide) (by decide)) (g := (mkF m 43 #[.val (.ref a1), .val (.double (4633641066610819072 : UInt64)), .second, .val (.long (2 : Int64)), .second, .val (.long (Int64.ofNat (own_S f (j + 1)))), .second, .val (.int (Int32.ofNat j))] [(.int (Int32.ofNat j))])) rfl (by rw [hml]; rfl) (argsL := [(.int (Int32.ofNat j))]) (rest := []) (lenOf own_pd5 rfl) rfl (by show 2 * 0 + _ ≤ _; exact Nat.le_of_eq rfl) (hb hby d12_43) (fun _ _ => ⟨rfl, ez, (by decide : 0 + 0 ≤ _), (by decide : 0 + 0 ≤ _)⟩)
  dsimp only [Pt.U, Pt.locs, Pt.cells, Pt.slots] at X66 l66 y66 z66 st66 hQ66
  subst l66 y66 z66
  obtain ⟨r66, rfl, hr66, Nq66, eh66⟩ := hQ66
  have N66 := Fr.app N63 Nq66
  obtain ⟨fs, hr, hrun, hended, hW, hsame⟩ := X66.leave (v := some (.long r66)) (fun h => by rw [hret0] at h; cases h)
  refine ⟨_, _, pre0 _ ?_, hrun, hended, _, _, rfl, ?_, ⟨_, rfl⟩, hW, hsame.mono (by decide) (by decide)⟩
  · show Steps p.tables e below (s₁.setTop (mkF m 0 #[.val (.ref a1), .val (.double (4633641066610819072 : UInt64)), .second, .unset, .unset, .unset, .unset, .unset] [])) _
    refine XS.dloadN X0.here hx rfl (hb hby d12_0) rfl ?_
    show Steps p.tables e below (s₁.setTop (mkF m 1 #[.val (.ref a1), .val (.double (4633641066610819072 : UInt64)), .second, .unset, .unset, .unset, .unset, .unset] [(.double (4633641066610819072 : UInt64))])) _
    refine XS.aloadN X0.here hx rfl (hb hby d12_1) rfl rfl ?_
    show Steps p.tables e below (s₁.setTop (mkF m 2 #[.val (.ref a1), .val (.double (4633641066610819072 : UInt64)), .second, .unset, .unset, .unset, .unset, .unset] [(.ref a1), (.double (4633641066610819072 : UInt64))])) _
    refine st62 _ ?_
    show Steps p.tables e below (T62.setTop (mkF m 5 #[.val (.ref a1), .val (.double (4633641066610819072 : UInt64)), .second, .unset, .unset, .unset, .unset, .unset] [(.long (3 : Int64)), (.double (4633641066610819072 : UInt64))])) _
    refine XS.l2dS X62.here hx rfl (v := (4613937818241073152 : UInt64)) (hb hby d12_5) rfl (by decide +kernel) ?_
    show Steps p.tables e below (T62.setTop (mkF m 6 #[.val (.ref a1), .val (.double (4633641066610819072 : UInt64)), .second, .unset, .unset, .unset, .unset, .unset] [(.double (4613937818241073152 : UInt64)), (.double (4633641066610819072 : UInt64))])) _
    refine XS.dmulS X62.here hx rfl (v := (4640537203540230144 : UInt64)) (hb hby d12_6) rfl (show FP.dmul (4633641066610819072 : UInt64) (4613937818241073152 : UInt64) &&& 0x7fffffffffffffff ≤ 0x7ff0000000000000 by decide +kernel) (by decide +kernel) ?_
    show Steps p.tables e below (T62.setTop (mkF m 7 #[.val (.ref a1), .val (.double (4633641066610819072 : UInt64)), .second, .unset, .unset, .unset, .unset, .unset] [(.double (4640537203540230144 : UInt64))])) _
    refine X62.ldc2DoubleC hx hown (mvT hZ (hw _ (List.mem_of_getElem? (i := 61) rfl))) (g := (mkF m 7 #[.val (.ref a1), .val (.double (4633641066610819072 : UInt64)), .second, .unset, .unset, .unset, .unset, .unset] [(.double (4640537203540230144 : UInt64))])) rfl (hb hby d12_7) _ ?_
    show Steps p.tables e below (T62.setTop (mkF m 10 #[.val (.ref a1), .val (.double (4633641066610819072 : UInt64)), .second, .unset, .unset, .unset, .unset, .unset] [(.double (4636737291354636288 : UInt64)), (.double (4640537203540230144 : UInt64))])) _
    refine XS.ddivS X62.here hx rfl (v := (4610785298501913805 : UInt64)) (hb hby d12_10) rfl (show FP.ddiv (4640537203540230144 : UInt64) (4636737291354636288 : UInt64) &&& 0x7fffffffffffffff ≤ 0x7ff0000000000000 by decide +kernel) (by decide +kernel) ?_
    show Steps p.tables e below (T62.setTop (mkF m 11 #[.val (.ref a1), .val (.double (4633641066610819072 : UInt64)), .second, .unset, .unset, .unset, .unset, .unset] [(.double (4610785298501913805 : UInt64))])) _
    refine st63 _ ?_
    show Steps p.tables e below (T63.setTop (mkF m 14 #[.val (.ref a1), .val (.double (4633641066610819072 : UInt64)), .second, .unset, .unset, .unset, .unset, .unset] [(.double (4611686018427387904 : UInt64))])) _
    refine XS.d2lS X63.here hx rfl (v := (2 : Int64)) (hb hby d12_14) rfl (by decide +kernel) ?_
    show Steps p.tables e below (T63.setTop (mkF m 15 #[.val (.ref a1), .val (.double (4633641066610819072 : UInt64)), .second, .unset, .unset, .unset, .unset, .unset] [(.long (2 : Int64))])) _
    refine XS.lstoreN X63.here hx rfl (hb hby d12_15) rfl (l' := #[.val (.ref a1), .val (.double (4633641066610819072 : UInt64)), .second, .val (.long (2 : Int64)), .second, .unset, .unset, .unset]) rfl ?_
    show Steps p.tables e below (T63.setTop (mkF m 16 #[.val (.ref a1), .val (.double (4633641066610819072 : UInt64)), .second, .val (.long (2 : Int64)), .second, .unset, .unset, .unset] [])) _
    refine XS.lconst X63.here hx rfl (hb hby d12_16) ?_
    show Steps p.tables e below (T63.setTop (mkF m 17 #[.val (.ref a1), .val (.double (4633641066610819072 : UInt64)), .second, .val (.long (2 : Int64)), .second, .unset, .unset, .unset] [(.long (0 : Int64))])) _
    refine XS.lstore X63.here hx rfl (hb hby d12_17) rfl (l' := #[.val (.ref a1), .val (.double (4633641066610819072 : UInt64)), .second, .val (.long (2 : Int64)), .second, .val (.long (0 : Int64)), .second, .unset]) rfl ?_
    show Steps p.tables e below (T63.setTop (mkF m 19 #[.val (.ref a1), .val (.double (4633641066610819072 : UInt64)), .second, .val (.long (2 : Int64)), .second, .val (.long (0 : Int64)), .second, .unset] [])) _
    refine XS.iconst X63.here hx rfl (hb hby d12_19) ?_
    show Steps p.tables e below (T63.setTop (mkF m 20 #[.val (.ref a1), .val (.double (4633641066610819072 : UInt64)), .second, .val (.long (2 : Int64)), .second, .val (.long (0 : Int64)), .second, .unset] [(.int (0 : Int32))])) _
    refine XS.istore X63.here hx rfl (hb hby d12_20) rfl (l' := #[.val (.ref a1), .val (.double (4633641066610819072 : UInt64)), .second, .val (.long (2 : Int64)), .second, .val (.long (0 : Int64)), .second, .val (.int (0 : Int32))]) rfl ?_
    show Steps p.tables e below (T63.setTop (mkF m 22 #[.val (.ref a1), .val (.double (4633641066610819072 : UInt64)), .second, .val (.long (2 : Int64)), .second, .val (.long (0 : Int64)), .second, .val (.int (0 : Int32))] [])) _
    refine stz _ ?_
    show Steps p.tables e below (Tz.setTop (mkF m 41 #[.val (.ref a1), .val (.double (4633641066610819072 : UInt64)), .second, .val (.long (2 : Int64)), .second, .val (.long (Int64.ofNat (own_S f (j + 1)))), .second, .val (.int (Int32.ofNat j))] [])) _
    refine XS.iload Xz.here hx rfl (hb hby d12_41) rfl ?_
    show Steps p.tables e below (Tz.setTop (mkF m 43 #[.val (.ref a1), .val (.double (4633641066610819072 : UInt64)), .second, .val (.long (2 : Int64)), .second, .val (.long (Int64.ofNat (own_S f (j + 1)))), .second, .val (.int (Int32.ofNat j))] [(.int (Int32.ofNat j))])) _
    refine st66 _ ?_
    show Steps p.tables e below (T66.setTop (mkF m 46 #[.val (.ref a1), .val (.double (4633641066610819072 : UInt64)), .second, .val (.long (2 : Int64)), .second, .val (.long (Int64.ofNat (own_S f (j + 1)))), .second, .val (.int (Int32.ofNat j))] [(.long r66)])) _
    exact retJ X66 hx hret0 (hb hby d12_46) hr
  · show QP j h0 n0 _ T66.heap _
    rw [eh66]
    exact ⟨_, rfl, by rw [hr66, ej]; rfl, N66, rfl⟩
theorem own_pn_rmP3 : plainName "com/example/resplice/resplice/LatencyHistogram" = true := by first | (simp [plainName, overriddenIn]; done) | decide +kernel
theorem own_ef_rmP3 (m : MethodId) (a1 : Addr) : entryFrame m #[(.ref a1), (.double (4636737291354636288 : UInt64))] 8 = (mkF m 0 #[.val (.ref a1), .val (.double (4636737291354636288 : UInt64)), .second, .unset, .unset, .unset, .unset, .unset] []) := by first | (simp [entryFrame, mkF, argsToLocals, Value.category]; done) | rfl
set_option maxRecDepth 65536 in
set_option maxHeartbeats 40000000 in
theorem rmP3 (l : Launch) (Z : State) (a0 : Array Value) (hw : ∀ d ∈ tables_1, d.before a0 Z = true) (ws : List Jvm.Cond) (a1 : Addr) (c1 : Addr) (f : Nat → Nat) (j : Nat) (h0 : Heap) (n0 : Nat) (Z0 : n0 ≤ h0.size) (HH : own_H Z h0 a1 c1 f (3 : Int64)) (hS3 : ∀ i, own_S f i ≤ 3) (hj : j < 7296) (hrk : own_rank f 3 j) (O7 : Sta Z Z.heap "java/lang/StrictMath" "$assertionsDisabled" "Z" (.int (1 : Int32))) (X00 : Old Z n0 h0) :
    MetFree l (⟨"com/example/resplice/resplice/LatencyHistogram", "percentile", "(D)J"⟩ : MethodName) (head1 (Jvm.Cond.code (⟨"com/example/resplice/resplice/LatencyHistogram", "percentile", "(D)J"⟩ : MethodName) prog_10_method_4_code 8 (some .long) :: ws) ({ frames := 7, cells := 0, slots := 0, locals := 170 } : Room)) (fun a U => a = #[(.ref a1), (.double (4636737291354636288 : UInt64))] ∧ Z.Warmed39 U.vm ∧ U.heap = h0) (fun _ _ _ _ _ => True) (fun _ U o U' => ∃ v L, o = .returned v ∧ QP j h0 n0 v U'.heap L ∧ FrameEnd U o U' L ({ frames := 7, cells := 0, slots := 0, locals := 170 } : Room).cells ({ frames := 7, cells := 0, slots := 0, locals := 170 } : Room).slots) := by
  refine MetFree.of_bodySF (plainFor_of_name own_pn_rmP3) hisR ?_
  intro p e s m args below meth c s₁ Bd hml0 hP hK
  obtain ⟨hargs, hZ, hh⟩ := hP
  have hx := Bd.exec
  have hby := Bd.bytes
  have hml : c.maxLocals = 8 := hml0
  have hown : s.vm.findClass "com/example/resplice/resplice/LatencyHistogram" = some m.cls := findClass_of_methodNamed Bd.named
  have hnm := (name_of_methodNamed Bd.named Bd.method).1
  have hlock : meth.locks = false := Bd.notSynchronized
  have hret0 := Bd.returns
  have X0 : Stand p l e ({ frames := 7, cells := 0, slots := 0, locals := 170 } : Room) s m args below meth c s₁ [] 0 0 := Stand.of_body Bd
  have e0 : s₁.heap = h0 := by rw [← hh, Bd.state]; rfl
  have N0 := Fr.nil n0
  have pre0 : ∀ t, Steps p.tables e below (s₁.setTop (mkF m 0 #[.val (.ref a1), .val (.double (4636737291354636288 : UInt64)), .second, .unset, .unset, .unset, .unset, .unset] [])) t → Steps p.tables e below (s₁.setTop (entryFrame m args 8)) t := fun t k => castTop (by rw [hargs]; exact own_ef_rmP3 m a1) k
  clear Bd
  obtain ⟨Ex, F0, F1, hne, cell, Ar, Sz, Gt⟩ := HH
  obtain ⟨T67, X67, e67, st67⟩ := getF X0 hx hZ hown (host := "") (Or.inl (hw _ (List.mem_of_getElem? (i := 36) rfl))) Via.refl e0 F1 (g := (mkF m 2 #[.val (.ref a1), .val (.double (4636737291354636288 : UInt64)), .second, .unset, .unset, .unset, .unset, .unset] [(.ref a1), (.double (4636737291354636288 : UInt64))])) rfl rfl (hb hby d12_2)
  obtain ⟨v68, vmx68, ⟨T68, L68, k68, n68⟩, -, X68, ⟨Lc68, hQ68, l68, y68, z68⟩, st68⟩ := Jvm.LawKit.callS X67 hx (y := (⟨"java/lang/Math", "ceil", "(D)D"⟩ : MethodName)) hown (mvT hZ (hw _ (List.mem_of_getElem? (i := 62) rfl))) (mvT hZ (hw _ (List.mem_of_getElem? (i := 63) rfl))) (mvT hZ (hw _ (List.mem_of_getElem? (i := 44) rfl))) (mvT hZ (hw _ (List.mem_of_getElem? (i := 64) rfl))) (by decide) (own_ceilB (W := 0) (k := 3) (w := 140) (n0 := n0) (hp := h0) (b := (4613937818241073152 : UInt64)) (r := (4613937818241073152 : UInt64)) hx hZ (hw _ (List.mem_of_getElem? (i := 64) rfl)) (hw _ (List.mem_of_getElem? (i := 68) rfl)) (hw _ (List.mem_of_getElem? (i := 67) rfl)) (by decide +kernel) (fun mk meth cM a1 a2 a3 a4 a5 a6 => own_sub_ce3 hw hZ X67.admits hx (O7.ext X00.2) mk meth cM a1 a2 a3 a4 a5 a6) (plainFor_of_name (by first | (simp [plainName, overriddenIn]; done) | decide +kernel)) (by decide) (by decide)) (g := (mkF m 11 #[.val (.ref a1), .val (.double (4636737291354636288 : UInt64)), .second, .unset, .unset, .unset, .unset, .unset] [(.double (4613937818241073152 : UInt64))])) rfl (by rw [hml]; rfl) (argsL := [(.double (4613937818241073152 : UInt64))]) (rest := []) (lenOf own_pd4 rfl) rfl (by show 2 * 0 + _ ≤ _; exact Nat.le_of_eq rfl) (hb hby d12_11) (fun _ _ => ⟨rfl, e67, (by decide : 0 + 0 ≤ _), (by decide : 0 + 0 ≤ _)⟩)
  dsimp only [Pt.U, Pt.locs, Pt.cells, Pt.slots] at X68 l68 y68 z68 st68 hQ68
  subst l68 y68 z68
  obtain ⟨rfl, Nq68, eh68⟩ := hQ68
  have N68 := Fr.app N0 Nq68
  have loop : ∀ (d : Nat) (i : Nat) (Tq : State) (lc : List Loc), i + d = j → Stand p l e ({ frames := 7, cells := 0, slots := 0, locals := 170 } : Room) s m args below meth c Tq lc 0 0 → Tq.heap = h0 → ∃ Tz, Stand p l e ({ frames := 7, cells := 0, slots := 0, locals := 170 } : Room) s m args below meth c Tz lc 0 0 ∧ Tz.heap = h0 ∧ ∀ target, Steps p.tables e below (Tz.setTop (mkF m 41 #[.val (.ref a1), .val (.double (4636737291354636288 : UInt64)), .second, .val (.long (3 : Int64)), .second, .val (.long (Int64.ofNat (own_S f (j + 1)))), .second, .val (.int (Int32.ofNat j))] [])) target → Steps p.tables e below (Tq.setTop (mkF m 22 #[.val (.ref a1), .val (.double (4636737291354636288 : UInt64)), .second, .val (.long (3 : Int64)), .second, .val (.long (Int64.ofNat (own_S f i))), .second, .val (.int (Int32.ofNat i))] [])) target := by
    intro d
    induction d with
    | zero =>
      intro i Tq lc hi Xq eq
      have hi2 : i < 7296 := by omega
      have hin := own_inb (cell := cell) (own_ofI (n := i) (by omega)) hi2 Sz
      have hat : cell.slots[(Int32.ofNat i).toNatClampNeg]? = some (.long (Int64.ofNat (f i))) := by rw [own_ix (own_ofI (n := i) (by omega))]; exact Gt _ hi2
      have eS : Int64.ofNat (own_S f i) + Int64.ofNat (f i) = Int64.ofNat (own_S f (i + 1)) := (Int64.ofNat_add _ _).symm
      obtain ⟨T69, X69, e69, st69⟩ := getF Xq hx hZ hown (host := "") (Or.inl (hw _ (List.mem_of_getElem? (i := 29) rfl))) Via.refl eq F0 (g := (mkF m 25 #[.val (.ref a1), .val (.double (4636737291354636288 : UInt64)), .second, .val (.long (3 : Int64)), .second, .val (.long (Int64.ofNat (own_S f i))), .second, .val (.int (Int32.ofNat i))] [(.ref a1), (.long (Int64.ofNat (own_S f i)))])) rfl rfl (hb hby d12_25)
      have eJ := own_ofJ (hS3 (i + 1))
      have eR : (3 : Int64).toInt = 3 := rfl
      obtain rfl : i = j := by omega
      refine ⟨T69, X69, e69, fun target hk => ?_⟩
      show Steps p.tables e below (Tq.setTop (mkF m 22 #[.val (.ref a1), .val (.double (4636737291354636288 : UInt64)), .second, .val (.long (3 : Int64)), .second, .val (.long (Int64.ofNat (own_S f i))), .second, .val (.int (Int32.ofNat i))] [])) _
      refine XS.lload Xq.here hx rfl (hb hby d12_22) rfl ?_
      show Steps p.tables e below (Tq.setTop (mkF m 24 #[.val (.ref a1), .val (.double (4636737291354636288 : UInt64)), .second, .val (.long (3 : Int64)), .second, .val (.long (Int64.ofNat (own_S f i))), .second, .val (.int (Int32.ofNat i))] [(.long (Int64.ofNat (own_S f i)))])) _
      refine XS.aloadN Xq.here hx rfl (hb hby d12_24) rfl rfl ?_
      show Steps p.tables e below (Tq.setTop (mkF m 25 #[.val (.ref a1), .val (.double (4636737291354636288 : UInt64)), .second, .val (.long (3 : Int64)), .second, .val (.long (Int64.ofNat (own_S f i))), .second, .val (.int (Int32.ofNat i))] [(.ref a1), (.long (Int64.ofNat (own_S f i)))])) _
      refine st69 _ ?_
      show Steps p.tables e below (T69.setTop (mkF m 28 #[.val (.ref a1), .val (.double (4636737291354636288 : UInt64)), .second, .val (.long (3 : Int64)), .second, .val (.long (Int64.ofNat (own_S f i))), .second, .val (.int (Int32.ofNat i))] [(.ref c1), (.long (Int64.ofNat (own_S f i)))])) _
      refine XS.iload X69.here hx rfl (hb hby d12_28) rfl ?_
      show Steps p.tables e below (T69.setTop (mkF m 30 #[.val (.ref a1), .val (.double (4636737291354636288 : UInt64)), .second, .val (.long (3 : Int64)), .second, .val (.long (Int64.ofNat (own_S f i))), .second, .val (.int (Int32.ofNat i))] [(.int (Int32.ofNat i)), (.ref c1), (.long (Int64.ofNat (own_S f i)))])) _
      refine X69.laload hx (j := (Int32.ofNat i)) (v := (.long (Int64.ofNat (f i)))) (by rw [e69]; exact Ar.1) (State.isArrayOf_alike hZ.alike Ar.2.1) Ar.2.2 hin hat (g := (mkF m 30 #[.val (.ref a1), .val (.double (4636737291354636288 : UInt64)), .second, .val (.long (3 : Int64)), .second, .val (.long (Int64.ofNat (own_S f i))), .second, .val (.int (Int32.ofNat i))] [(.int (Int32.ofNat i)), (.ref c1), (.long (Int64.ofNat (own_S f i)))])) rfl rfl (hb hby d12_30) _ ?_
      show Steps p.tables e below (T69.setTop (mkF m 31 #[.val (.ref a1), .val (.double (4636737291354636288 : UInt64)), .second, .val (.long (3 : Int64)), .second, .val (.long (Int64.ofNat (own_S f i))), .second, .val (.int (Int32.ofNat i))] [(.long (Int64.ofNat (f i))), (.long (Int64.ofNat (own_S f i)))])) _
      refine XS.ladd X69.here hx rfl (hb hby d12_31) rfl ?_
      show Steps p.tables e below (T69.setTop (mkF m 32 #[.val (.ref a1), .val (.double (4636737291354636288 : UInt64)), .second, .val (.long (3 : Int64)), .second, .val (.long (Int64.ofNat (own_S f i))), .second, .val (.int (Int32.ofNat i))] [(.long ((Int64.ofNat (own_S f i)) + (Int64.ofNat (f i))))])) _
      rw [eS]
      show Steps p.tables e below (T69.setTop (mkF m 32 #[.val (.ref a1), .val (.double (4636737291354636288 : UInt64)), .second, .val (.long (3 : Int64)), .second, .val (.long (Int64.ofNat (own_S f i))), .second, .val (.int (Int32.ofNat i))] [(.long (Int64.ofNat (own_S f (i + 1))))])) _
      refine XS.lstore X69.here hx rfl (hb hby d12_32) rfl (l' := #[.val (.ref a1), .val (.double (4636737291354636288 : UInt64)), .second, .val (.long (3 : Int64)), .second, .val (.long (Int64.ofNat (own_S f (i + 1)))), .second, .val (.int (Int32.ofNat i))]) rfl ?_
      show Steps p.tables e below (T69.setTop (mkF m 34 #[.val (.ref a1), .val (.double (4636737291354636288 : UInt64)), .second, .val (.long (3 : Int64)), .second, .val (.long (Int64.ofNat (own_S f (i + 1)))), .second, .val (.int (Int32.ofNat i))] [])) _
      refine XS.lload X69.here hx rfl (hb hby d12_34) rfl ?_
      show Steps p.tables e below (T69.setTop (mkF m 36 #[.val (.ref a1), .val (.double (4636737291354636288 : UInt64)), .second, .val (.long (3 : Int64)), .second, .val (.long (Int64.ofNat (own_S f (i + 1)))), .second, .val (.int (Int32.ofNat i))] [(.long (Int64.ofNat (own_S f (i + 1))))])) _
      refine XS.lloadN X69.here hx rfl (hb hby d12_36) rfl ?_
      show Steps p.tables e below (T69.setTop (mkF m 37 #[.val (.ref a1), .val (.double (4636737291354636288 : UInt64)), .second, .val (.long (3 : Int64)), .second, .val (.long (Int64.ofNat (own_S f (i + 1)))), .second, .val (.int (Int32.ofNat i))] [(.long (3 : Int64)), (.long (Int64.ofNat (own_S f (i + 1))))])) _
      refine XS.lcmp X69.here hx rfl (hb hby d12_37) rfl ?_
      show Steps p.tables e below (T69.setTop (mkF m 38 #[.val (.ref a1), .val (.double (4636737291354636288 : UInt64)), .second, .val (.long (3 : Int64)), .second, .val (.long (Int64.ofNat (own_S f (i + 1)))), .second, .val (.int (Int32.ofNat i))] [(.int (lcmpW (Int64.ofNat (own_S f (i + 1))) (3 : Int64)))])) _
      refine XS.ifNo X69.here hx rfl (hb hby d12_38) rfl ((if0 _ _).trans (flt (mt (lw_lt _ _).mp (fun q => by rw [Int64.lt_iff_toInt_lt, eJ, eR] at q; have := hrk.1; omega))).1) ?_
      exact hk
    | succ d ih =>
      intro i Tq lc hi Xq eq
      have hi2 : i < 7296 := by omega
      have hin := own_inb (cell := cell) (own_ofI (n := i) (by omega)) hi2 Sz
      have hat : cell.slots[(Int32.ofNat i).toNatClampNeg]? = some (.long (Int64.ofNat (f i))) := by rw [own_ix (own_ofI (n := i) (by omega))]; exact Gt _ hi2
      have eS : Int64.ofNat (own_S f i) + Int64.ofNat (f i) = Int64.ofNat (own_S f (i + 1)) := (Int64.ofNat_add _ _).symm
      obtain ⟨T70, X70, e70, st70⟩ := getF Xq hx hZ hown (host := "") (Or.inl (hw _ (List.mem_of_getElem? (i := 29) rfl))) Via.refl eq F0 (g := (mkF m 25 #[.val (.ref a1), .val (.double (4636737291354636288 : UInt64)), .second, .val (.long (3 : Int64)), .second, .val (.long (Int64.ofNat (own_S f i))), .second, .val (.int (Int32.ofNat i))] [(.ref a1), (.long (Int64.ofNat (own_S f i)))])) rfl rfl (hb hby d12_25)
      have eJ := own_ofJ (hS3 (i + 1))
      have eR : (3 : Int64).toInt = 3 := rfl
      obtain ⟨Tz, Xz, ez, stz⟩ := ih (i + 1) _ _ (by omega) X70 e70
      refine ⟨Tz, Xz, ez, fun target hk => ?_⟩
      show Steps p.tables e below (Tq.setTop (mkF m 22 #[.val (.ref a1), .val (.double (4636737291354636288 : UInt64)), .second, .val (.long (3 : Int64)), .second, .val (.long (Int64.ofNat (own_S f i))), .second, .val (.int (Int32.ofNat i))] [])) _
      refine XS.lload Xq.here hx rfl (hb hby d12_22) rfl ?_
      show Steps p.tables e below (Tq.setTop (mkF m 24 #[.val (.ref a1), .val (.double (4636737291354636288 : UInt64)), .second, .val (.long (3 : Int64)), .second, .val (.long (Int64.ofNat (own_S f i))), .second, .val (.int (Int32.ofNat i))] [(.long (Int64.ofNat (own_S f i)))])) _
      refine XS.aloadN Xq.here hx rfl (hb hby d12_24) rfl rfl ?_
      show Steps p.tables e below (Tq.setTop (mkF m 25 #[.val (.ref a1), .val (.double (4636737291354636288 : UInt64)), .second, .val (.long (3 : Int64)), .second, .val (.long (Int64.ofNat (own_S f i))), .second, .val (.int (Int32.ofNat i))] [(.ref a1), (.long (Int64.ofNat (own_S f i)))])) _
      refine st70 _ ?_
      show Steps p.tables e below (T70.setTop (mkF m 28 #[.val (.ref a1), .val (.double (4636737291354636288 : UInt64)), .second, .val (.long (3 : Int64)), .second, .val (.long (Int64.ofNat (own_S f i))), .second, .val (.int (Int32.ofNat i))] [(.ref c1), (.long (Int64.ofNat (own_S f i)))])) _
      refine XS.iload X70.here hx rfl (hb hby d12_28) rfl ?_
      show Steps p.tables e below (T70.setTop (mkF m 30 #[.val (.ref a1), .val (.double (4636737291354636288 : UInt64)), .second, .val (.long (3 : Int64)), .second, .val (.long (Int64.ofNat (own_S f i))), .second, .val (.int (Int32.ofNat i))] [(.int (Int32.ofNat i)), (.ref c1), (.long (Int64.ofNat (own_S f i)))])) _
      refine X70.laload hx (j := (Int32.ofNat i)) (v := (.long (Int64.ofNat (f i)))) (by rw [e70]; exact Ar.1) (State.isArrayOf_alike hZ.alike Ar.2.1) Ar.2.2 hin hat (g := (mkF m 30 #[.val (.ref a1), .val (.double (4636737291354636288 : UInt64)), .second, .val (.long (3 : Int64)), .second, .val (.long (Int64.ofNat (own_S f i))), .second, .val (.int (Int32.ofNat i))] [(.int (Int32.ofNat i)), (.ref c1), (.long (Int64.ofNat (own_S f i)))])) rfl rfl (hb hby d12_30) _ ?_
      show Steps p.tables e below (T70.setTop (mkF m 31 #[.val (.ref a1), .val (.double (4636737291354636288 : UInt64)), .second, .val (.long (3 : Int64)), .second, .val (.long (Int64.ofNat (own_S f i))), .second, .val (.int (Int32.ofNat i))] [(.long (Int64.ofNat (f i))), (.long (Int64.ofNat (own_S f i)))])) _
      refine XS.ladd X70.here hx rfl (hb hby d12_31) rfl ?_
      show Steps p.tables e below (T70.setTop (mkF m 32 #[.val (.ref a1), .val (.double (4636737291354636288 : UInt64)), .second, .val (.long (3 : Int64)), .second, .val (.long (Int64.ofNat (own_S f i))), .second, .val (.int (Int32.ofNat i))] [(.long ((Int64.ofNat (own_S f i)) + (Int64.ofNat (f i))))])) _
      rw [eS]
      show Steps p.tables e below (T70.setTop (mkF m 32 #[.val (.ref a1), .val (.double (4636737291354636288 : UInt64)), .second, .val (.long (3 : Int64)), .second, .val (.long (Int64.ofNat (own_S f i))), .second, .val (.int (Int32.ofNat i))] [(.long (Int64.ofNat (own_S f (i + 1))))])) _
      refine XS.lstore X70.here hx rfl (hb hby d12_32) rfl (l' := #[.val (.ref a1), .val (.double (4636737291354636288 : UInt64)), .second, .val (.long (3 : Int64)), .second, .val (.long (Int64.ofNat (own_S f (i + 1)))), .second, .val (.int (Int32.ofNat i))]) rfl ?_
      show Steps p.tables e below (T70.setTop (mkF m 34 #[.val (.ref a1), .val (.double (4636737291354636288 : UInt64)), .second, .val (.long (3 : Int64)), .second, .val (.long (Int64.ofNat (own_S f (i + 1)))), .second, .val (.int (Int32.ofNat i))] [])) _
      refine XS.lload X70.here hx rfl (hb hby d12_34) rfl ?_
      show Steps p.tables e below (T70.setTop (mkF m 36 #[.val (.ref a1), .val (.double (4636737291354636288 : UInt64)), .second, .val (.long (3 : Int64)), .second, .val (.long (Int64.ofNat (own_S f (i + 1)))), .second, .val (.int (Int32.ofNat i))] [(.long (Int64.ofNat (own_S f (i + 1))))])) _
      refine XS.lloadN X70.here hx rfl (hb hby d12_36) rfl ?_
      show Steps p.tables e below (T70.setTop (mkF m 37 #[.val (.ref a1), .val (.double (4636737291354636288 : UInt64)), .second, .val (.long (3 : Int64)), .second, .val (.long (Int64.ofNat (own_S f (i + 1)))), .second, .val (.int (Int32.ofNat i))] [(.long (3 : Int64)), (.long (Int64.ofNat (own_S f (i + 1))))])) _
      refine XS.lcmp X70.here hx rfl (hb hby d12_37) rfl ?_
      show Steps p.tables e below (T70.setTop (mkF m 38 #[.val (.ref a1), .val (.double (4636737291354636288 : UInt64)), .second, .val (.long (3 : Int64)), .second, .val (.long (Int64.ofNat (own_S f (i + 1)))), .second, .val (.int (Int32.ofNat i))] [(.int (lcmpW (Int64.ofNat (own_S f (i + 1))) (3 : Int64)))])) _
      refine XS.ifYes X70.here hx rfl (pc0 := 38) (pc' := 47) rfl (hb hby d12_38) rfl ((if0 _ _).trans (tlt ((lw_lt _ _).mpr (by rw [Int64.lt_iff_toInt_lt, eJ, eR]; have := hrk.2 i (by omega); omega))).1) (by decide) (by decide) ?_
      show Steps p.tables e below (T70.setTop (mkF m 47 #[.val (.ref a1), .val (.double (4636737291354636288 : UInt64)), .second, .val (.long (3 : Int64)), .second, .val (.long (Int64.ofNat (own_S f (i + 1)))), .second, .val (.int (Int32.ofNat i))] [])) _
      refine XS.iinc X70.here hx rfl (hb hby d12_47) rfl (l' := #[.val (.ref a1), .val (.double (4636737291354636288 : UInt64)), .second, .val (.long (3 : Int64)), .second, .val (.long (Int64.ofNat (own_S f (i + 1)))), .second, .val (.int ((Int32.ofNat i) + (1 : Int32)))]) rfl ?_
      show Steps p.tables e below (T70.setTop (mkF m 50 #[.val (.ref a1), .val (.double (4636737291354636288 : UInt64)), .second, .val (.long (3 : Int64)), .second, .val (.long (Int64.ofNat (own_S f (i + 1)))), .second, .val (.int ((Int32.ofNat i) + (1 : Int32)))] [])) _
      refine XS.goto X70.here hx rfl (pc0 := 50) (pc' := 22) rfl (hb hby d12_50) (by decide) (by decide) ?_
      show Steps p.tables e below (T70.setTop (mkF m 22 #[.val (.ref a1), .val (.double (4636737291354636288 : UInt64)), .second, .val (.long (3 : Int64)), .second, .val (.long (Int64.ofNat (own_S f (i + 1)))), .second, .val (.int ((Int32.ofNat i) + (1 : Int32)))] [])) _
      rw [show Int32.ofNat i + (1 : Int32) = Int32.ofNat (i + 1) from (Int32.ofNat_add i 1).symm]
      exact stz target hk
  obtain ⟨Tz, Xz, ez, stz⟩ := loop j 0 _ _ (Nat.zero_add j) X68 eh68
  have ej := own_ofI (n := j) (by omega)
  obtain ⟨v71, vmx71, ⟨T71, L71, k71, n71⟩, -, X71, ⟨Lc71, hQ71, l71, y71, z71⟩, st71⟩ := Jvm.LawKit.callS Xz hx (y := (⟨"com/example/resplice/resplice/LatencyHistogram", "middle", "(I)J"⟩ : MethodName)) hown (mvT hZ (hw _ (List.mem_of_getElem? (i := 82) rfl))) (mvT hZ (hw _ (List.mem_of_getElem? (i := 83) rfl))) (mvT hZ (hw _ (List.mem_of_getElem? (i := 7) rfl))) (mvT hZ (hw _ (List.mem_of_getElem? (i := 84) rfl))) (by decide) (backOf (W := 0) (rmM l Z a0 hw [] (Int32.ofNat j) h0 n0 Z0 (by rw [ej]; omega) (by rw [ej]; omega)) hZ (hw _ (List.mem_of_getElem? (i := 84) rfl)) (hw _ (List.mem_of_getElem? (i := 7) rfl)) (by decide) (by decide)) (g := (mkF m 43 #[.val (.ref a1), .val (.double (4636737291354636288 : UInt64)), .second, .val (.long (3 : Int64)), .second, .val (.long (Int64.ofNat (own_S f (j + 1)))), .second, .val (.int (Int32.ofNat j))] [(.int (Int32.ofNat j))])) rfl (by rw [hml]; rfl) (argsL := [(.int (Int32.ofNat j))]) (rest := []) (lenOf own_pd5 rfl) rfl (by show 2 * 0 + _ ≤ _; exact Nat.le_of_eq rfl) (hb hby d12_43) (fun _ _ => ⟨rfl, ez, (by decide : 0 + 0 ≤ _), (by decide : 0 + 0 ≤ _)⟩)
  dsimp only [Pt.U, Pt.locs, Pt.cells, Pt.slots] at X71 l71 y71 z71 st71 hQ71
  subst l71 y71 z71
  obtain ⟨r71, rfl, hr71, Nq71, eh71⟩ := hQ71
  have N71 := Fr.app N68 Nq71
  obtain ⟨fs, hr, hrun, hended, hW, hsame⟩ := X71.leave (v := some (.long r71)) (fun h => by rw [hret0] at h; cases h)
  refine ⟨_, _, pre0 _ ?_, hrun, hended, _, _, rfl, ?_, ⟨_, rfl⟩, hW, hsame.mono (by decide) (by decide)⟩
  · show Steps p.tables e below (s₁.setTop (mkF m 0 #[.val (.ref a1), .val (.double (4636737291354636288 : UInt64)), .second, .unset, .unset, .unset, .unset, .unset] [])) _
    refine XS.dloadN X0.here hx rfl (hb hby d12_0) rfl ?_
    show Steps p.tables e below (s₁.setTop (mkF m 1 #[.val (.ref a1), .val (.double (4636737291354636288 : UInt64)), .second, .unset, .unset, .unset, .unset, .unset] [(.double (4636737291354636288 : UInt64))])) _
    refine XS.aloadN X0.here hx rfl (hb hby d12_1) rfl rfl ?_
    show Steps p.tables e below (s₁.setTop (mkF m 2 #[.val (.ref a1), .val (.double (4636737291354636288 : UInt64)), .second, .unset, .unset, .unset, .unset, .unset] [(.ref a1), (.double (4636737291354636288 : UInt64))])) _
    refine st67 _ ?_
    show Steps p.tables e below (T67.setTop (mkF m 5 #[.val (.ref a1), .val (.double (4636737291354636288 : UInt64)), .second, .unset, .unset, .unset, .unset, .unset] [(.long (3 : Int64)), (.double (4636737291354636288 : UInt64))])) _
    refine XS.l2dS X67.here hx rfl (v := (4613937818241073152 : UInt64)) (hb hby d12_5) rfl (by decide +kernel) ?_
    show Steps p.tables e below (T67.setTop (mkF m 6 #[.val (.ref a1), .val (.double (4636737291354636288 : UInt64)), .second, .unset, .unset, .unset, .unset, .unset] [(.double (4613937818241073152 : UInt64)), (.double (4636737291354636288 : UInt64))])) _
    refine XS.dmulS X67.here hx rfl (v := (4643985272004935680 : UInt64)) (hb hby d12_6) rfl (show FP.dmul (4636737291354636288 : UInt64) (4613937818241073152 : UInt64) &&& 0x7fffffffffffffff ≤ 0x7ff0000000000000 by decide +kernel) (by decide +kernel) ?_
    show Steps p.tables e below (T67.setTop (mkF m 7 #[.val (.ref a1), .val (.double (4636737291354636288 : UInt64)), .second, .unset, .unset, .unset, .unset, .unset] [(.double (4643985272004935680 : UInt64))])) _
    refine X67.ldc2DoubleC hx hown (mvT hZ (hw _ (List.mem_of_getElem? (i := 61) rfl))) (g := (mkF m 7 #[.val (.ref a1), .val (.double (4636737291354636288 : UInt64)), .second, .unset, .unset, .unset, .unset, .unset] [(.double (4643985272004935680 : UInt64))])) rfl (hb hby d12_7) _ ?_
    show Steps p.tables e below (T67.setTop (mkF m 10 #[.val (.ref a1), .val (.double (4636737291354636288 : UInt64)), .second, .unset, .unset, .unset, .unset, .unset] [(.double (4636737291354636288 : UInt64)), (.double (4643985272004935680 : UInt64))])) _
    refine XS.ddivS X67.here hx rfl (v := (4613937818241073152 : UInt64)) (hb hby d12_10) rfl (show FP.ddiv (4643985272004935680 : UInt64) (4636737291354636288 : UInt64) &&& 0x7fffffffffffffff ≤ 0x7ff0000000000000 by decide +kernel) (by decide +kernel) ?_
    show Steps p.tables e below (T67.setTop (mkF m 11 #[.val (.ref a1), .val (.double (4636737291354636288 : UInt64)), .second, .unset, .unset, .unset, .unset, .unset] [(.double (4613937818241073152 : UInt64))])) _
    refine st68 _ ?_
    show Steps p.tables e below (T68.setTop (mkF m 14 #[.val (.ref a1), .val (.double (4636737291354636288 : UInt64)), .second, .unset, .unset, .unset, .unset, .unset] [(.double (4613937818241073152 : UInt64))])) _
    refine XS.d2lS X68.here hx rfl (v := (3 : Int64)) (hb hby d12_14) rfl (by decide +kernel) ?_
    show Steps p.tables e below (T68.setTop (mkF m 15 #[.val (.ref a1), .val (.double (4636737291354636288 : UInt64)), .second, .unset, .unset, .unset, .unset, .unset] [(.long (3 : Int64))])) _
    refine XS.lstoreN X68.here hx rfl (hb hby d12_15) rfl (l' := #[.val (.ref a1), .val (.double (4636737291354636288 : UInt64)), .second, .val (.long (3 : Int64)), .second, .unset, .unset, .unset]) rfl ?_
    show Steps p.tables e below (T68.setTop (mkF m 16 #[.val (.ref a1), .val (.double (4636737291354636288 : UInt64)), .second, .val (.long (3 : Int64)), .second, .unset, .unset, .unset] [])) _
    refine XS.lconst X68.here hx rfl (hb hby d12_16) ?_
    show Steps p.tables e below (T68.setTop (mkF m 17 #[.val (.ref a1), .val (.double (4636737291354636288 : UInt64)), .second, .val (.long (3 : Int64)), .second, .unset, .unset, .unset] [(.long (0 : Int64))])) _
    refine XS.lstore X68.here hx rfl (hb hby d12_17) rfl (l' := #[.val (.ref a1), .val (.double (4636737291354636288 : UInt64)), .second, .val (.long (3 : Int64)), .second, .val (.long (0 : Int64)), .second, .unset]) rfl ?_
    show Steps p.tables e below (T68.setTop (mkF m 19 #[.val (.ref a1), .val (.double (4636737291354636288 : UInt64)), .second, .val (.long (3 : Int64)), .second, .val (.long (0 : Int64)), .second, .unset] [])) _
    refine XS.iconst X68.here hx rfl (hb hby d12_19) ?_
    show Steps p.tables e below (T68.setTop (mkF m 20 #[.val (.ref a1), .val (.double (4636737291354636288 : UInt64)), .second, .val (.long (3 : Int64)), .second, .val (.long (0 : Int64)), .second, .unset] [(.int (0 : Int32))])) _
    refine XS.istore X68.here hx rfl (hb hby d12_20) rfl (l' := #[.val (.ref a1), .val (.double (4636737291354636288 : UInt64)), .second, .val (.long (3 : Int64)), .second, .val (.long (0 : Int64)), .second, .val (.int (0 : Int32))]) rfl ?_
    show Steps p.tables e below (T68.setTop (mkF m 22 #[.val (.ref a1), .val (.double (4636737291354636288 : UInt64)), .second, .val (.long (3 : Int64)), .second, .val (.long (0 : Int64)), .second, .val (.int (0 : Int32))] [])) _
    refine stz _ ?_
    show Steps p.tables e below (Tz.setTop (mkF m 41 #[.val (.ref a1), .val (.double (4636737291354636288 : UInt64)), .second, .val (.long (3 : Int64)), .second, .val (.long (Int64.ofNat (own_S f (j + 1)))), .second, .val (.int (Int32.ofNat j))] [])) _
    refine XS.iload Xz.here hx rfl (hb hby d12_41) rfl ?_
    show Steps p.tables e below (Tz.setTop (mkF m 43 #[.val (.ref a1), .val (.double (4636737291354636288 : UInt64)), .second, .val (.long (3 : Int64)), .second, .val (.long (Int64.ofNat (own_S f (j + 1)))), .second, .val (.int (Int32.ofNat j))] [(.int (Int32.ofNat j))])) _
    refine st71 _ ?_
    show Steps p.tables e below (T71.setTop (mkF m 46 #[.val (.ref a1), .val (.double (4636737291354636288 : UInt64)), .second, .val (.long (3 : Int64)), .second, .val (.long (Int64.ofNat (own_S f (j + 1)))), .second, .val (.int (Int32.ofNat j))] [(.long r71)])) _
    exact retJ X71 hx hret0 (hb hby d12_46) hr
  · show QP j h0 n0 _ T71.heap _
    rw [eh71]
    exact ⟨_, rfl, by rw [hr71, ej]; rfl, N71, rfl⟩
def Q0 (n0 : Nat) (v : Option Value) (h : Heap) (L : List Loc) : Prop := v = some (.int 1) ∧ Fr n0 L
theorem own_pn_rm0 : plainName "com/example/resplice/resplice/LatencyHistogramRecordPinLaw" = true := by first | (simp [plainName, overriddenIn]; done) | decide +kernel
theorem own_ef_rm0 (m : MethodId) (p0 : Int64) (p1 : Int64) (p2 : Int64) (p3 : Int32) : entryFrame m #[(.long p0), (.long p1), (.long p2), (.int p3)] maxLocals = (mkF m 0 #[.val (.long p0), .second, .val (.long p1), .second, .val (.long p2), .second, .val (.int p3), .unset, .unset, .unset, .unset, .unset, .unset, .unset, .unset, .unset, .unset, .unset, .unset, .unset, .unset, .unset, .unset, .unset, .unset, .unset, .unset] []) := by first | (simp [entryFrame, mkF, argsToLocals, Value.category, maxLocals]; done) | rfl
set_option maxRecDepth 65536 in
set_option maxHeartbeats 40000000 in
theorem rm0 (l : Launch) (Z : State) (a0 : Array Value) (hw : ∀ d ∈ tables_1, d.before a0 Z = true) (ws : List Jvm.Cond) (p0 : Int64) (p1 : Int64) (p2 : Int64) (p3 : Int32) (h0 : Heap) (n0 : Nat) (Z0 : n0 ≤ h0.size) (O7 : Sta Z Z.heap "java/lang/StrictMath" "$assertionsDisabled" "Z" (.int (1 : Int32))) (X00 : Old Z n0 h0) :
    MetFree l x (head1 (Jvm.Cond.code x code maxLocals ret :: ws) room_1) (fun a U => a = #[(.long p0), (.long p1), (.long p2), (.int p3)] ∧ Z.Warmed39 U.vm ∧ U.heap = h0) (fun _ _ _ _ _ => True) (fun _ U o U' => ∃ v L, o = .returned v ∧ Q0 n0 v U'.heap L ∧ FrameEnd U o U' L 16 14720) := by
  refine MetFree.of_bodySF (plainFor_of_name own_pn_rm0) hisR ?_
  intro p e s m args below meth c s₁ Bd hml0 hP hK
  obtain ⟨hargs, hZ, hh⟩ := hP
  have hx := Bd.exec
  have hby := Bd.bytes
  have hml : c.maxLocals = 27 := hml0
  have hown : s.vm.findClass "com/example/resplice/resplice/LatencyHistogramRecordPinLaw" = some m.cls := findClass_of_methodNamed Bd.named
  have hnm := (name_of_methodNamed Bd.named Bd.method).1
  have hlock : meth.locks = false := Bd.notSynchronized
  have hret0 := Bd.returns
  have X0 : Stand p l e room_1 s m args below meth c s₁ [] 0 0 := Stand.of_body Bd
  have e0 : s₁.heap = h0 := by rw [← hh, Bd.state]; rfl
  have N0 := Fr.nil n0
  have pre0 : ∀ t, Steps p.tables e below (s₁.setTop (mkF m 0 #[.val (.long p0), .second, .val (.long p1), .second, .val (.long p2), .second, .val (.int p3), .unset, .unset, .unset, .unset, .unset, .unset, .unset, .unset, .unset, .unset, .unset, .unset, .unset, .unset, .unset, .unset, .unset, .unset, .unset, .unset] [])) t → Steps p.tables e below (s₁.setTop (entryFrame m args maxLocals)) t := fun t k => castTop (by rw [hargs]; exact own_ef_rm0 m p0 p1 p2 p3) k
  clear Bd
  obtain ⟨v72, vmx72, ⟨T72, L72, k72, n72⟩, -, X72, ⟨Lc72, hQ72, l72, y72, z72⟩, st72⟩ := Jvm.LawKit.callS X0 hx (y := (⟨"com/example/resplice/resplice/LatencyHistogramRecordPinLaw", "val", "(JI)J"⟩ : MethodName)) hown (mvT hZ (hw _ (List.mem_of_getElem? (i := 0) rfl))) (mvT hZ (hw _ (List.mem_of_getElem? (i := 1) rfl))) (mvT hZ (hw _ (List.mem_of_getElem? (i := 2) rfl))) (mvT hZ (hw _ (List.mem_of_getElem? (i := 3) rfl))) (by decide) (backOf (W := 0) (rmV l Z a0 hw [] p0 p3 h0 n0 Z0 ) hZ (hw _ (List.mem_of_getElem? (i := 3) rfl)) (hw _ (List.mem_of_getElem? (i := 2) rfl)) (by decide) (by decide)) (g := (mkF m 3 #[.val (.long p0), .second, .val (.long p1), .second, .val (.long p2), .second, .val (.int p3), .unset, .unset, .unset, .unset, .unset, .unset, .unset, .unset, .unset, .unset, .unset, .unset, .unset, .unset, .unset, .unset, .unset, .unset, .unset, .unset] [(.int p3), (.long p0)])) rfl (by rw [hml]; rfl) (argsL := [(.long p0), (.int p3)]) (rest := []) (lenOf own_pd6 rfl) rfl (by show 2 * 0 + _ ≤ _; exact Nat.le_of_eq rfl) (hb hby at_3) (fun _ _ => ⟨rfl, e0, (by decide : 0 + 0 ≤ _), (by decide : 0 + 0 ≤ _)⟩)
  dsimp only [Pt.U, Pt.locs, Pt.cells, Pt.slots] at X72 l72 y72 z72 st72 hQ72
  subst l72 y72 z72
  obtain ⟨xx, rfl, hxx, Nq72, eh72⟩ := hQ72
  have N72 := Fr.app N0 Nq72
  obtain ⟨v73, vmx73, ⟨T73, L73, k73, n73⟩, -, X73, ⟨Lc73, hQ73, l73, y73, z73⟩, st73⟩ := Jvm.LawKit.callS X72 hx (y := (⟨"com/example/resplice/resplice/LatencyHistogramRecordPinLaw", "val", "(JI)J"⟩ : MethodName)) hown (mvT hZ (hw _ (List.mem_of_getElem? (i := 0) rfl))) (mvT hZ (hw _ (List.mem_of_getElem? (i := 1) rfl))) (mvT hZ (hw _ (List.mem_of_getElem? (i := 2) rfl))) (mvT hZ (hw _ (List.mem_of_getElem? (i := 3) rfl))) (by decide) (backOf (W := 0) (rmV l Z a0 hw [] p1 ((p3.toUInt32 >>> ((6 : Int32) &&& 31).toUInt32).toInt32) h0 n0 Z0 ) hZ (hw _ (List.mem_of_getElem? (i := 3) rfl)) (hw _ (List.mem_of_getElem? (i := 2) rfl)) (by decide) (by decide)) (g := (mkF m 14 #[.val (.long p0), .second, .val (.long p1), .second, .val (.long p2), .second, .val (.int p3), .val (.long xx), .second, .unset, .unset, .unset, .unset, .unset, .unset, .unset, .unset, .unset, .unset, .unset, .unset, .unset, .unset, .unset, .unset, .unset, .unset] [(.int ((p3.toUInt32 >>> ((6 : Int32) &&& 31).toUInt32).toInt32)), (.long p1)])) rfl (by rw [hml]; rfl) (argsL := [(.long p1), (.int ((p3.toUInt32 >>> ((6 : Int32) &&& 31).toUInt32).toInt32))]) (rest := []) (lenOf own_pd6 rfl) rfl (by show 2 * 0 + _ ≤ _; exact Nat.le_of_eq rfl) (hb hby at_14) (fun _ _ => ⟨rfl, eh72, (by decide : 0 + 0 ≤ _), (by decide : 0 + 0 ≤ _)⟩)
  dsimp only [Pt.U, Pt.locs, Pt.cells, Pt.slots] at X73 l73 y73 z73 st73 hQ73
  subst l73 y73 z73
  obtain ⟨yy, rfl, hyy, Nq73, eh73⟩ := hQ73
  have N73 := Fr.app N72 Nq73
  obtain ⟨v74, vmx74, ⟨T74, L74, k74, n74⟩, -, X74, ⟨Lc74, hQ74, l74, y74, z74⟩, st74⟩ := Jvm.LawKit.callS X73 hx (y := (⟨"com/example/resplice/resplice/LatencyHistogramRecordPinLaw", "val", "(JI)J"⟩ : MethodName)) hown (mvT hZ (hw _ (List.mem_of_getElem? (i := 0) rfl))) (mvT hZ (hw _ (List.mem_of_getElem? (i := 1) rfl))) (mvT hZ (hw _ (List.mem_of_getElem? (i := 2) rfl))) (mvT hZ (hw _ (List.mem_of_getElem? (i := 3) rfl))) (by decide) (backOf (W := 0) (rmV l Z a0 hw [] p2 ((p3.toUInt32 >>> ((12 : Int32) &&& 31).toUInt32).toInt32) h0 n0 Z0 ) hZ (hw _ (List.mem_of_getElem? (i := 3) rfl)) (hw _ (List.mem_of_getElem? (i := 2) rfl)) (by decide) (by decide)) (g := (mkF m 26 #[.val (.long p0), .second, .val (.long p1), .second, .val (.long p2), .second, .val (.int p3), .val (.long xx), .second, .val (.long yy), .second, .unset, .unset, .unset, .unset, .unset, .unset, .unset, .unset, .unset, .unset, .unset, .unset, .unset, .unset, .unset, .unset] [(.int ((p3.toUInt32 >>> ((12 : Int32) &&& 31).toUInt32).toInt32)), (.long p2)])) rfl (by rw [hml]; rfl) (argsL := [(.long p2), (.int ((p3.toUInt32 >>> ((12 : Int32) &&& 31).toUInt32).toInt32))]) (rest := []) (lenOf own_pd6 rfl) rfl (by show 2 * 0 + _ ≤ _; exact Nat.le_of_eq rfl) (hb hby at_26) (fun _ _ => ⟨rfl, eh73, (by decide : 0 + 0 ≤ _), (by decide : 0 + 0 ≤ _)⟩)
  dsimp only [Pt.U, Pt.locs, Pt.cells, Pt.slots] at X74 l74 y74 z74 st74 hQ74
  subst l74 y74 z74
  obtain ⟨zz, rfl, hzz, Nq74, eh74⟩ := hQ74
  have N74 := Fr.app N73 Nq74
  obtain ⟨T75, h75, X75, e75, E75, A75, D75, -, st75⟩ := newO X74 hx hZ hown (hw _ (List.mem_of_getElem? (i := 5) rfl)) (hw _ (List.mem_of_getElem? (i := 6) rfl)) (hw _ (List.mem_of_getElem? (i := 7) rfl)) eh74 (g := (mkF m 31 #[.val (.long p0), .second, .val (.long p1), .second, .val (.long p2), .second, .val (.int p3), .val (.long xx), .second, .val (.long yy), .second, .val (.long zz), .second, .unset, .unset, .unset, .unset, .unset, .unset, .unset, .unset, .unset, .unset, .unset, .unset, .unset, .unset] [])) rfl (hb hby at_31) (by decide) (by decide)
  obtain ⟨b75, g75⟩ : ∃ z, z = h0.size := ⟨_, rfl⟩
  rw [← g75] at A75 D75 st75
  have ge_b75 : n0 ≤ b75 := Nat.le_trans Z0 (Nat.le_of_eq g75.symm)
  have sz_b75 : h0.size ≤ b75 := Nat.le_trans (Keep.refl h0 []).1 (Nat.le_of_eq g75.symm)
  have Z76 : n0 ≤ h75.size := Nat.le_trans Z0 E75.1
  have K77 : Keep h0 h75 [] := (Keep.refl h0 []).ext E75
  obtain ⟨v78, vmx78, ⟨T78, L78, k78, n78⟩, -, X78, ⟨Lc78, hQ78, l78, y78, z78⟩, st78⟩ := X75.specialBack hx (y := (⟨"com/example/resplice/resplice/LatencyHistogram", "<init>", "()V"⟩ : MethodName)) rfl hown (mvT hZ (hw _ (List.mem_of_getElem? (i := 8) rfl))) (mvT hZ (hw _ (List.mem_of_getElem? (i := 9) rfl))) (mvT hZ (hw _ (List.mem_of_getElem? (i := 10) rfl))) (by decide) (backOf (W := 1) (rmI l Z a0 hw [] b75 h75 n0 Z76 ge_b75 A75 (D75 (Or.inr (hw _ (List.mem_of_getElem? (i := 30) rfl))) (ty := (.array .long)) (by decide)) (D75 (Or.inl (hw _ (List.mem_of_getElem? (i := 37) rfl))) (ty := .long) (by decide))) hZ (hw _ (List.mem_of_getElem? (i := 10) rfl)) (hw _ (List.mem_of_getElem? (i := 7) rfl)) (by decide) (by decide)) (g := (mkF m 35 #[.val (.long p0), .second, .val (.long p1), .second, .val (.long p2), .second, .val (.int p3), .val (.long xx), .second, .val (.long yy), .second, .val (.long zz), .second, .unset, .unset, .unset, .unset, .unset, .unset, .unset, .unset, .unset, .unset, .unset, .unset, .unset, .unset] [(.ref b75), (.ref b75)])) rfl (by rw [hml]; rfl) (Steps.refl _) (a := b75) (argsL := []) (rest := [(.ref b75)]) (lenOf own_pd7 rfl) rfl (by show 2 * 0 + _ ≤ _; exact Nat.le_of_eq rfl) (hb hby at_35) (fun _ _ => ⟨rfl, e75, (by decide : 1 + 1 ≤ _), (by decide : 2 + 7296 ≤ _)⟩)
  dsimp only [Pt.U, Pt.locs, Pt.cells, Pt.slots] at X78 l78 y78 z78 st78 hQ78
  subst l78 y78 z78
  obtain ⟨rfl, Nq78, K78, c1, szc, H0⟩ := hQ78
  have N78 := Fr.app N74 Nq78
  have Z79 : n0 ≤ T78.heap.size := Nat.le_trans Z76 K78.1
  have K80 : Keep h0 T78.heap [] := K77.trans K78 (allS (Or.inr sz_b75) all0)
  have gec : n0 ≤ c1 := Nat.le_trans Z76 szc
  have szc1 := Nat.le_trans K77.1 szc
  obtain ⟨cq81, kq81, q81a, q81b, q81c⟩ := isOf hZ rfl H0.1
  obtain ⟨v81, vmx81, ⟨T81, L81, k81, n81⟩, -, X81, ⟨Lc81, hQ81, l81, y81, z81⟩, st81⟩ := X78.virtualBack hx (y := (⟨"com/example/resplice/resplice/LatencyHistogram", "record", "(J)V"⟩ : MethodName)) (z := (⟨"com/example/resplice/resplice/LatencyHistogram", "record", "(J)V"⟩ : MethodName)) hown (mvT hZ (hw _ (List.mem_of_getElem? (i := 31) rfl))) (mvT hZ (hw _ (List.mem_of_getElem? (i := 32) rfl))) (notFace_of_selects (args := #[]) (mvT hZ (hw _ (List.mem_of_getElem? (i := 34) rfl)))) (mvT hZ (hw _ (List.mem_of_getElem? (i := 34) rfl))) (mvT hZ (hw _ (List.mem_of_getElem? (i := 33) rfl))) (by decide) (backOf (W := 0) (rmR l Z a0 hw [] b75 c1 _ _ xx T78.heap n0 Z79 ge_b75 gec hxx H0) hZ (hw _ (List.mem_of_getElem? (i := 35) rfl)) (hw _ (List.mem_of_getElem? (i := 7) rfl)) (by decide) (by decide)) q81a q81c (g := (mkF m 44 #[.val (.long p0), .second, .val (.long p1), .second, .val (.long p2), .second, .val (.int p3), .val (.long xx), .second, .val (.long yy), .second, .val (.long zz), .second, .val (.ref b75), .unset, .unset, .unset, .unset, .unset, .unset, .unset, .unset, .unset, .unset, .unset, .unset, .unset] [(.long xx), (.ref b75)])) rfl (by rw [hml]; rfl) (Steps.refl _) (argsL := [(.long xx)]) (rest := []) (lenOf own_pd8 rfl) rfl (by show 2 * 0 + _ ≤ _; exact Nat.le_of_eq rfl) (hb hby at_44) (fun _ _ => ⟨rfl, rfl, (by decide : 2 + 0 ≤ _), (by decide : 7298 + 0 ≤ _)⟩)
  dsimp only [Pt.U, Pt.locs, Pt.cells, Pt.slots] at X81 l81 y81 z81 st81 hQ81
  subst l81 y81 z81
  obtain ⟨rfl, Nq81, K81, H1⟩ := hQ81
  have N81 := Fr.app N78 Nq81
  have Z82 : n0 ≤ T81.heap.size := Nat.le_trans Z79 K81.1
  have K83 : Keep h0 T81.heap [] := K80.trans K81 (allS (Or.inr sz_b75) (allS (Or.inr szc1) all0))
  obtain ⟨cq84, kq84, q84a, q84b, q84c⟩ := isOf hZ rfl H1.1
  obtain ⟨v84, vmx84, ⟨T84, L84, k84, n84⟩, -, X84, ⟨Lc84, hQ84, l84, y84, z84⟩, st84⟩ := X81.virtualBack hx (y := (⟨"com/example/resplice/resplice/LatencyHistogram", "record", "(J)V"⟩ : MethodName)) (z := (⟨"com/example/resplice/resplice/LatencyHistogram", "record", "(J)V"⟩ : MethodName)) hown (mvT hZ (hw _ (List.mem_of_getElem? (i := 31) rfl))) (mvT hZ (hw _ (List.mem_of_getElem? (i := 32) rfl))) (notFace_of_selects (args := #[]) (mvT hZ (hw _ (List.mem_of_getElem? (i := 34) rfl)))) (mvT hZ (hw _ (List.mem_of_getElem? (i := 34) rfl))) (mvT hZ (hw _ (List.mem_of_getElem? (i := 33) rfl))) (by decide) (backOf (W := 0) (rmR l Z a0 hw [] b75 c1 _ _ yy T81.heap n0 Z82 ge_b75 gec hyy H1) hZ (hw _ (List.mem_of_getElem? (i := 35) rfl)) (hw _ (List.mem_of_getElem? (i := 7) rfl)) (by decide) (by decide)) q84a q84c (g := (mkF m 51 #[.val (.long p0), .second, .val (.long p1), .second, .val (.long p2), .second, .val (.int p3), .val (.long xx), .second, .val (.long yy), .second, .val (.long zz), .second, .val (.ref b75), .unset, .unset, .unset, .unset, .unset, .unset, .unset, .unset, .unset, .unset, .unset, .unset, .unset] [(.long yy), (.ref b75)])) rfl (by rw [hml]; rfl) (Steps.refl _) (argsL := [(.long yy)]) (rest := []) (lenOf own_pd8 rfl) rfl (by show 2 * 0 + _ ≤ _; exact Nat.le_of_eq rfl) (hb hby at_51) (fun _ _ => ⟨rfl, rfl, (by decide : 2 + 0 ≤ _), (by decide : 7298 + 0 ≤ _)⟩)
  dsimp only [Pt.U, Pt.locs, Pt.cells, Pt.slots] at X84 l84 y84 z84 st84 hQ84
  subst l84 y84 z84
  obtain ⟨rfl, Nq84, K84, H2⟩ := hQ84
  have N84 := Fr.app N81 Nq84
  have Z85 : n0 ≤ T84.heap.size := Nat.le_trans Z82 K84.1
  have K86 : Keep h0 T84.heap [] := K83.trans K84 (allS (Or.inr sz_b75) (allS (Or.inr szc1) all0))
  obtain ⟨cq87, kq87, q87a, q87b, q87c⟩ := isOf hZ rfl H2.1
  obtain ⟨v87, vmx87, ⟨T87, L87, k87, n87⟩, -, X87, ⟨Lc87, hQ87, l87, y87, z87⟩, st87⟩ := X84.virtualBack hx (y := (⟨"com/example/resplice/resplice/LatencyHistogram", "record", "(J)V"⟩ : MethodName)) (z := (⟨"com/example/resplice/resplice/LatencyHistogram", "record", "(J)V"⟩ : MethodName)) hown (mvT hZ (hw _ (List.mem_of_getElem? (i := 31) rfl))) (mvT hZ (hw _ (List.mem_of_getElem? (i := 32) rfl))) (notFace_of_selects (args := #[]) (mvT hZ (hw _ (List.mem_of_getElem? (i := 34) rfl)))) (mvT hZ (hw _ (List.mem_of_getElem? (i := 34) rfl))) (mvT hZ (hw _ (List.mem_of_getElem? (i := 33) rfl))) (by decide) (backOf (W := 0) (rmR l Z a0 hw [] b75 c1 _ _ zz T84.heap n0 Z85 ge_b75 gec hzz H2) hZ (hw _ (List.mem_of_getElem? (i := 35) rfl)) (hw _ (List.mem_of_getElem? (i := 7) rfl)) (by decide) (by decide)) q87a q87c (g := (mkF m 58 #[.val (.long p0), .second, .val (.long p1), .second, .val (.long p2), .second, .val (.int p3), .val (.long xx), .second, .val (.long yy), .second, .val (.long zz), .second, .val (.ref b75), .unset, .unset, .unset, .unset, .unset, .unset, .unset, .unset, .unset, .unset, .unset, .unset, .unset] [(.long zz), (.ref b75)])) rfl (by rw [hml]; rfl) (Steps.refl _) (argsL := [(.long zz)]) (rest := []) (lenOf own_pd8 rfl) rfl (by show 2 * 0 + _ ≤ _; exact Nat.le_of_eq rfl) (hb hby at_58) (fun _ _ => ⟨rfl, rfl, (by decide : 2 + 0 ≤ _), (by decide : 7298 + 0 ≤ _)⟩)
  dsimp only [Pt.U, Pt.locs, Pt.cells, Pt.slots] at X87 l87 y87 z87 st87 hQ87
  subst l87 y87 z87
  obtain ⟨rfl, Nq87, K87, H3⟩ := hQ87
  have N87 := Fr.app N84 Nq87
  have Z88 : n0 ≤ T87.heap.size := Nat.le_trans Z85 K87.1
  have K89 : Keep h0 T87.heap [] := K86.trans K87 (allS (Or.inr sz_b75) (allS (Or.inr szc1) all0))
  obtain ⟨bxx, ebxx⟩ : ∃ n, n = own_bk xx.toInt.toNat := ⟨_, rfl⟩
  have lbxx : bxx < 7296 := by rw [ebxx]; exact own_bk_lt (by have := rng64 xx; omega)
  obtain ⟨byy, ebyy⟩ : ∃ n, n = own_bk yy.toInt.toNat := ⟨_, rfl⟩
  have lbyy : byy < 7296 := by rw [ebyy]; exact own_bk_lt (by have := rng64 yy; omega)
  obtain ⟨bzz, ebzz⟩ : ∃ n, n = own_bk zz.toInt.toNat := ⟨_, rfl⟩
  have lbzz : bzz < 7296 := by rw [ebzz]; exact own_bk_lt (by have := rng64 zz; omega)
  rw [← ebxx, ← ebyy, ← ebzz, show (0 : Int64) + (1 : Int64) + (1 : Int64) + (1 : Int64) = (3 : Int64) by decide] at H3
  have HH : own_H Z T87.heap b75 c1 (own_f3 bxx byy bzz) (3 : Int64) := H3
  obtain ⟨v90, vmx90, ⟨T90, L90, k90, n90⟩, -, X90, ⟨Lc90, hQ90, l90, y90, z90⟩, st90⟩ := Jvm.LawKit.callS X87 hx (y := (⟨"com/example/resplice/resplice/LatencyHistogramRecordPinLaw", "mid", "(J)J"⟩ : MethodName)) hown (mvT hZ (hw _ (List.mem_of_getElem? (i := 38) rfl))) (mvT hZ (hw _ (List.mem_of_getElem? (i := 39) rfl))) (mvT hZ (hw _ (List.mem_of_getElem? (i := 2) rfl))) (mvT hZ (hw _ (List.mem_of_getElem? (i := 40) rfl))) (by decide) (backOf (W := 0) (rmMi l Z a0 hw [] xx T87.heap n0 Z88 hxx) hZ (hw _ (List.mem_of_getElem? (i := 40) rfl)) (hw _ (List.mem_of_getElem? (i := 2) rfl)) (by decide) (by decide)) (g := (mkF m 63 #[.val (.long p0), .second, .val (.long p1), .second, .val (.long p2), .second, .val (.int p3), .val (.long xx), .second, .val (.long yy), .second, .val (.long zz), .second, .val (.ref b75), .unset, .unset, .unset, .unset, .unset, .unset, .unset, .unset, .unset, .unset, .unset, .unset, .unset] [(.long xx)])) rfl (by rw [hml]; rfl) (argsL := [(.long xx)]) (rest := []) (lenOf own_pd9 rfl) rfl (by show 2 * 0 + _ ≤ _; exact Nat.le_of_eq rfl) (hb hby at_63) (fun _ _ => ⟨rfl, rfl, (by decide : 2 + 0 ≤ _), (by decide : 7298 + 0 ≤ _)⟩)
  dsimp only [Pt.U, Pt.locs, Pt.cells, Pt.slots] at X90 l90 y90 z90 st90 hQ90
  subst l90 y90 z90
  obtain ⟨mxx, rfl, hmxx, Nq90, eh90⟩ := hQ90
  have N90 := Fr.app N87 Nq90
  obtain ⟨v91, vmx91, ⟨T91, L91, k91, n91⟩, -, X91, ⟨Lc91, hQ91, l91, y91, z91⟩, st91⟩ := Jvm.LawKit.callS X90 hx (y := (⟨"com/example/resplice/resplice/LatencyHistogramRecordPinLaw", "mid", "(J)J"⟩ : MethodName)) hown (mvT hZ (hw _ (List.mem_of_getElem? (i := 38) rfl))) (mvT hZ (hw _ (List.mem_of_getElem? (i := 39) rfl))) (mvT hZ (hw _ (List.mem_of_getElem? (i := 2) rfl))) (mvT hZ (hw _ (List.mem_of_getElem? (i := 40) rfl))) (by decide) (backOf (W := 0) (rmMi l Z a0 hw [] yy T87.heap n0 Z88 hyy) hZ (hw _ (List.mem_of_getElem? (i := 40) rfl)) (hw _ (List.mem_of_getElem? (i := 2) rfl)) (by decide) (by decide)) (g := (mkF m 70 #[.val (.long p0), .second, .val (.long p1), .second, .val (.long p2), .second, .val (.int p3), .val (.long xx), .second, .val (.long yy), .second, .val (.long zz), .second, .val (.ref b75), .val (.long mxx), .second, .unset, .unset, .unset, .unset, .unset, .unset, .unset, .unset, .unset, .unset, .unset] [(.long yy)])) rfl (by rw [hml]; rfl) (argsL := [(.long yy)]) (rest := []) (lenOf own_pd9 rfl) rfl (by show 2 * 0 + _ ≤ _; exact Nat.le_of_eq rfl) (hb hby at_70) (fun _ _ => ⟨rfl, eh90, (by decide : 2 + 0 ≤ _), (by decide : 7298 + 0 ≤ _)⟩)
  dsimp only [Pt.U, Pt.locs, Pt.cells, Pt.slots] at X91 l91 y91 z91 st91 hQ91
  subst l91 y91 z91
  obtain ⟨myy, rfl, hmyy, Nq91, eh91⟩ := hQ91
  have N91 := Fr.app N90 Nq91
  obtain ⟨v92, vmx92, ⟨T92, L92, k92, n92⟩, -, X92, ⟨Lc92, hQ92, l92, y92, z92⟩, st92⟩ := Jvm.LawKit.callS X91 hx (y := (⟨"com/example/resplice/resplice/LatencyHistogramRecordPinLaw", "mid", "(J)J"⟩ : MethodName)) hown (mvT hZ (hw _ (List.mem_of_getElem? (i := 38) rfl))) (mvT hZ (hw _ (List.mem_of_getElem? (i := 39) rfl))) (mvT hZ (hw _ (List.mem_of_getElem? (i := 2) rfl))) (mvT hZ (hw _ (List.mem_of_getElem? (i := 40) rfl))) (by decide) (backOf (W := 0) (rmMi l Z a0 hw [] zz T87.heap n0 Z88 hzz) hZ (hw _ (List.mem_of_getElem? (i := 40) rfl)) (hw _ (List.mem_of_getElem? (i := 2) rfl)) (by decide) (by decide)) (g := (mkF m 77 #[.val (.long p0), .second, .val (.long p1), .second, .val (.long p2), .second, .val (.int p3), .val (.long xx), .second, .val (.long yy), .second, .val (.long zz), .second, .val (.ref b75), .val (.long mxx), .second, .val (.long myy), .second, .unset, .unset, .unset, .unset, .unset, .unset, .unset, .unset, .unset] [(.long zz)])) rfl (by rw [hml]; rfl) (argsL := [(.long zz)]) (rest := []) (lenOf own_pd9 rfl) rfl (by show 2 * 0 + _ ≤ _; exact Nat.le_of_eq rfl) (hb hby at_77) (fun _ _ => ⟨rfl, eh91, (by decide : 2 + 0 ≤ _), (by decide : 7298 + 0 ≤ _)⟩)
  dsimp only [Pt.U, Pt.locs, Pt.cells, Pt.slots] at X92 l92 y92 z92 st92 hQ92
  subst l92 y92 z92
  obtain ⟨mzz, rfl, hmzz, Nq92, eh92⟩ := hQ92
  have N92 := Fr.app N91 Nq92
  obtain ⟨v93, vmx93, ⟨T93, L93, k93, n93⟩, -, X93, ⟨Lc93, hQ93, l93, y93, z93⟩, st93⟩ := Jvm.LawKit.callS X92 hx (y := (⟨"java/lang/Math", "min", "(JJ)J"⟩ : MethodName)) hown (mvT hZ (hw _ (List.mem_of_getElem? (i := 42) rfl))) (mvT hZ (hw _ (List.mem_of_getElem? (i := 43) rfl))) (mvT hZ (hw _ (List.mem_of_getElem? (i := 44) rfl))) (mvT hZ (hw _ (List.mem_of_getElem? (i := 45) rfl))) (by decide) (backOf (W := 2) (rmJmin l Z a0 hw [] myy mzz T87.heap n0 Z88 ) hZ (hw _ (List.mem_of_getElem? (i := 45) rfl)) (hw _ (List.mem_of_getElem? (i := 44) rfl)) (by decide) (by decide)) (g := (mkF m 88 #[.val (.long p0), .second, .val (.long p1), .second, .val (.long p2), .second, .val (.int p3), .val (.long xx), .second, .val (.long yy), .second, .val (.long zz), .second, .val (.ref b75), .val (.long mxx), .second, .val (.long myy), .second, .val (.long mzz), .second, .unset, .unset, .unset, .unset, .unset, .unset, .unset] [(.long mzz), (.long myy), (.long mxx)])) rfl (by rw [hml]; rfl) (argsL := [(.long myy), (.long mzz)]) (rest := [(.long mxx)]) (lenOf own_pd10 rfl) rfl (by show 2 * 0 + _ ≤ _; exact Nat.le_of_eq rfl) (hb hby at_88) (fun _ _ => ⟨rfl, eh92, (by decide : 2 + 0 ≤ _), (by decide : 7298 + 0 ≤ _)⟩)
  dsimp only [Pt.U, Pt.locs, Pt.cells, Pt.slots] at X93 l93 y93 z93 st93 hQ93
  subst l93 y93 z93
  obtain ⟨rfl, Nq93, eh93⟩ := hQ93
  have N93 := Fr.app N92 Nq93
  obtain ⟨v94, vmx94, ⟨T94, L94, k94, n94⟩, -, X94, ⟨Lc94, hQ94, l94, y94, z94⟩, st94⟩ := Jvm.LawKit.callS X93 hx (y := (⟨"java/lang/Math", "min", "(JJ)J"⟩ : MethodName)) hown (mvT hZ (hw _ (List.mem_of_getElem? (i := 42) rfl))) (mvT hZ (hw _ (List.mem_of_getElem? (i := 43) rfl))) (mvT hZ (hw _ (List.mem_of_getElem? (i := 44) rfl))) (mvT hZ (hw _ (List.mem_of_getElem? (i := 45) rfl))) (by decide) (backOf (W := 0) (rmJmin l Z a0 hw [] mxx (if mzz < myy then mzz else myy) T87.heap n0 Z88 ) hZ (hw _ (List.mem_of_getElem? (i := 45) rfl)) (hw _ (List.mem_of_getElem? (i := 44) rfl)) (by decide) (by decide)) (g := (mkF m 91 #[.val (.long p0), .second, .val (.long p1), .second, .val (.long p2), .second, .val (.int p3), .val (.long xx), .second, .val (.long yy), .second, .val (.long zz), .second, .val (.ref b75), .val (.long mxx), .second, .val (.long myy), .second, .val (.long mzz), .second, .unset, .unset, .unset, .unset, .unset, .unset, .unset] [(.long (if mzz < myy then mzz else myy)), (.long mxx)])) rfl (by rw [hml]; rfl) (argsL := [(.long mxx), (.long (if mzz < myy then mzz else myy))]) (rest := []) (lenOf own_pd10 rfl) rfl (by show 2 * 0 + _ ≤ _; exact Nat.le_of_eq rfl) (hb hby at_91) (fun _ _ => ⟨rfl, eh93, (by decide : 2 + 0 ≤ _), (by decide : 7298 + 0 ≤ _)⟩)
  dsimp only [Pt.U, Pt.locs, Pt.cells, Pt.slots] at X94 l94 y94 z94 st94 hQ94
  subst l94 y94 z94
  obtain ⟨rfl, Nq94, eh94⟩ := hQ94
  have N94 := Fr.app N93 Nq94
  obtain ⟨v95, vmx95, ⟨T95, L95, k95, n95⟩, -, X95, ⟨Lc95, hQ95, l95, y95, z95⟩, st95⟩ := Jvm.LawKit.callS X94 hx (y := (⟨"java/lang/Math", "max", "(JJ)J"⟩ : MethodName)) hown (mvT hZ (hw _ (List.mem_of_getElem? (i := 46) rfl))) (mvT hZ (hw _ (List.mem_of_getElem? (i := 47) rfl))) (mvT hZ (hw _ (List.mem_of_getElem? (i := 44) rfl))) (mvT hZ (hw _ (List.mem_of_getElem? (i := 48) rfl))) (by decide) (backOf (W := 2) (rmJmax l Z a0 hw [] myy mzz T87.heap n0 Z88 ) hZ (hw _ (List.mem_of_getElem? (i := 48) rfl)) (hw _ (List.mem_of_getElem? (i := 44) rfl)) (by decide) (by decide)) (g := (mkF m 102 #[.val (.long p0), .second, .val (.long p1), .second, .val (.long p2), .second, .val (.int p3), .val (.long xx), .second, .val (.long yy), .second, .val (.long zz), .second, .val (.ref b75), .val (.long mxx), .second, .val (.long myy), .second, .val (.long mzz), .second, .val (.long (if (if mzz < myy then mzz else myy) < mxx then (if mzz < myy then mzz else myy) else mxx)), .second, .unset, .unset, .unset, .unset, .unset] [(.long mzz), (.long myy), (.long mxx)])) rfl (by rw [hml]; rfl) (argsL := [(.long myy), (.long mzz)]) (rest := [(.long mxx)]) (lenOf own_pd10 rfl) rfl (by show 2 * 0 + _ ≤ _; exact Nat.le_of_eq rfl) (hb hby at_102) (fun _ _ => ⟨rfl, eh94, (by decide : 2 + 0 ≤ _), (by decide : 7298 + 0 ≤ _)⟩)
  dsimp only [Pt.U, Pt.locs, Pt.cells, Pt.slots] at X95 l95 y95 z95 st95 hQ95
  subst l95 y95 z95
  obtain ⟨rfl, Nq95, eh95⟩ := hQ95
  have N95 := Fr.app N94 Nq95
  obtain ⟨v96, vmx96, ⟨T96, L96, k96, n96⟩, -, X96, ⟨Lc96, hQ96, l96, y96, z96⟩, st96⟩ := Jvm.LawKit.callS X95 hx (y := (⟨"java/lang/Math", "max", "(JJ)J"⟩ : MethodName)) hown (mvT hZ (hw _ (List.mem_of_getElem? (i := 46) rfl))) (mvT hZ (hw _ (List.mem_of_getElem? (i := 47) rfl))) (mvT hZ (hw _ (List.mem_of_getElem? (i := 44) rfl))) (mvT hZ (hw _ (List.mem_of_getElem? (i := 48) rfl))) (by decide) (backOf (W := 0) (rmJmax l Z a0 hw [] mxx (if myy < mzz then mzz else myy) T87.heap n0 Z88 ) hZ (hw _ (List.mem_of_getElem? (i := 48) rfl)) (hw _ (List.mem_of_getElem? (i := 44) rfl)) (by decide) (by decide)) (g := (mkF m 105 #[.val (.long p0), .second, .val (.long p1), .second, .val (.long p2), .second, .val (.int p3), .val (.long xx), .second, .val (.long yy), .second, .val (.long zz), .second, .val (.ref b75), .val (.long mxx), .second, .val (.long myy), .second, .val (.long mzz), .second, .val (.long (if (if mzz < myy then mzz else myy) < mxx then (if mzz < myy then mzz else myy) else mxx)), .second, .unset, .unset, .unset, .unset, .unset] [(.long (if myy < mzz then mzz else myy)), (.long mxx)])) rfl (by rw [hml]; rfl) (argsL := [(.long mxx), (.long (if myy < mzz then mzz else myy))]) (rest := []) (lenOf own_pd10 rfl) rfl (by show 2 * 0 + _ ≤ _; exact Nat.le_of_eq rfl) (hb hby at_105) (fun _ _ => ⟨rfl, eh95, (by decide : 2 + 0 ≤ _), (by decide : 7298 + 0 ≤ _)⟩)
  dsimp only [Pt.U, Pt.locs, Pt.cells, Pt.slots] at X96 l96 y96 z96 st96 hQ96
  subst l96 y96 z96
  obtain ⟨rfl, Nq96, eh96⟩ := hQ96
  have N96 := Fr.app N95 Nq96
  obtain ⟨v97, vmx97, ⟨T97, L97, k97, n97⟩, -, X97, ⟨Lc97, hQ97, l97, y97, z97⟩, st97⟩ := Jvm.LawKit.callS X96 hx (y := (⟨"java/lang/Math", "min", "(JJ)J"⟩ : MethodName)) hown (mvT hZ (hw _ (List.mem_of_getElem? (i := 42) rfl))) (mvT hZ (hw _ (List.mem_of_getElem? (i := 43) rfl))) (mvT hZ (hw _ (List.mem_of_getElem? (i := 44) rfl))) (mvT hZ (hw _ (List.mem_of_getElem? (i := 45) rfl))) (by decide) (backOf (W := 0) (rmJmin l Z a0 hw [] mxx myy T87.heap n0 Z88 ) hZ (hw _ (List.mem_of_getElem? (i := 45) rfl)) (hw _ (List.mem_of_getElem? (i := 44) rfl)) (by decide) (by decide)) (g := (mkF m 114 #[.val (.long p0), .second, .val (.long p1), .second, .val (.long p2), .second, .val (.int p3), .val (.long xx), .second, .val (.long yy), .second, .val (.long zz), .second, .val (.ref b75), .val (.long mxx), .second, .val (.long myy), .second, .val (.long mzz), .second, .val (.long (if (if mzz < myy then mzz else myy) < mxx then (if mzz < myy then mzz else myy) else mxx)), .second, .val (.long (if mxx < (if myy < mzz then mzz else myy) then (if myy < mzz then mzz else myy) else mxx)), .second, .unset, .unset, .unset] [(.long myy), (.long mxx)])) rfl (by rw [hml]; rfl) (argsL := [(.long mxx), (.long myy)]) (rest := []) (lenOf own_pd10 rfl) rfl (by show 2 * 0 + _ ≤ _; exact Nat.le_of_eq rfl) (hb hby at_114) (fun _ _ => ⟨rfl, eh96, (by decide : 2 + 0 ≤ _), (by decide : 7298 + 0 ≤ _)⟩)
  dsimp only [Pt.U, Pt.locs, Pt.cells, Pt.slots] at X97 l97 y97 z97 st97 hQ97
  subst l97 y97 z97
  obtain ⟨rfl, Nq97, eh97⟩ := hQ97
  have N97 := Fr.app N96 Nq97
  obtain ⟨v98, vmx98, ⟨T98, L98, k98, n98⟩, -, X98, ⟨Lc98, hQ98, l98, y98, z98⟩, st98⟩ := Jvm.LawKit.callS X97 hx (y := (⟨"java/lang/Math", "max", "(JJ)J"⟩ : MethodName)) hown (mvT hZ (hw _ (List.mem_of_getElem? (i := 46) rfl))) (mvT hZ (hw _ (List.mem_of_getElem? (i := 47) rfl))) (mvT hZ (hw _ (List.mem_of_getElem? (i := 44) rfl))) (mvT hZ (hw _ (List.mem_of_getElem? (i := 48) rfl))) (by decide) (backOf (W := 2) (rmJmax l Z a0 hw [] mxx myy T87.heap n0 Z88 ) hZ (hw _ (List.mem_of_getElem? (i := 48) rfl)) (hw _ (List.mem_of_getElem? (i := 44) rfl)) (by decide) (by decide)) (g := (mkF m 121 #[.val (.long p0), .second, .val (.long p1), .second, .val (.long p2), .second, .val (.int p3), .val (.long xx), .second, .val (.long yy), .second, .val (.long zz), .second, .val (.ref b75), .val (.long mxx), .second, .val (.long myy), .second, .val (.long mzz), .second, .val (.long (if (if mzz < myy then mzz else myy) < mxx then (if mzz < myy then mzz else myy) else mxx)), .second, .val (.long (if mxx < (if myy < mzz then mzz else myy) then (if myy < mzz then mzz else myy) else mxx)), .second, .unset, .unset, .unset] [(.long myy), (.long mxx), (.long (if myy < mxx then myy else mxx))])) rfl (by rw [hml]; rfl) (argsL := [(.long mxx), (.long myy)]) (rest := [(.long (if myy < mxx then myy else mxx))]) (lenOf own_pd10 rfl) rfl (by show 2 * 0 + _ ≤ _; exact Nat.le_of_eq rfl) (hb hby at_121) (fun _ _ => ⟨rfl, eh97, (by decide : 2 + 0 ≤ _), (by decide : 7298 + 0 ≤ _)⟩)
  dsimp only [Pt.U, Pt.locs, Pt.cells, Pt.slots] at X98 l98 y98 z98 st98 hQ98
  subst l98 y98 z98
  obtain ⟨rfl, Nq98, eh98⟩ := hQ98
  have N98 := Fr.app N97 Nq98
  obtain ⟨v99, vmx99, ⟨T99, L99, k99, n99⟩, -, X99, ⟨Lc99, hQ99, l99, y99, z99⟩, st99⟩ := Jvm.LawKit.callS X98 hx (y := (⟨"java/lang/Math", "min", "(JJ)J"⟩ : MethodName)) hown (mvT hZ (hw _ (List.mem_of_getElem? (i := 42) rfl))) (mvT hZ (hw _ (List.mem_of_getElem? (i := 43) rfl))) (mvT hZ (hw _ (List.mem_of_getElem? (i := 44) rfl))) (mvT hZ (hw _ (List.mem_of_getElem? (i := 45) rfl))) (by decide) (backOf (W := 2) (rmJmin l Z a0 hw [] (if mxx < myy then myy else mxx) mzz T87.heap n0 Z88 ) hZ (hw _ (List.mem_of_getElem? (i := 45) rfl)) (hw _ (List.mem_of_getElem? (i := 44) rfl)) (by decide) (by decide)) (g := (mkF m 126 #[.val (.long p0), .second, .val (.long p1), .second, .val (.long p2), .second, .val (.int p3), .val (.long xx), .second, .val (.long yy), .second, .val (.long zz), .second, .val (.ref b75), .val (.long mxx), .second, .val (.long myy), .second, .val (.long mzz), .second, .val (.long (if (if mzz < myy then mzz else myy) < mxx then (if mzz < myy then mzz else myy) else mxx)), .second, .val (.long (if mxx < (if myy < mzz then mzz else myy) then (if myy < mzz then mzz else myy) else mxx)), .second, .unset, .unset, .unset] [(.long mzz), (.long (if mxx < myy then myy else mxx)), (.long (if myy < mxx then myy else mxx))])) rfl (by rw [hml]; rfl) (argsL := [(.long (if mxx < myy then myy else mxx)), (.long mzz)]) (rest := [(.long (if myy < mxx then myy else mxx))]) (lenOf own_pd10 rfl) rfl (by show 2 * 0 + _ ≤ _; exact Nat.le_of_eq rfl) (hb hby at_126) (fun _ _ => ⟨rfl, eh98, (by decide : 2 + 0 ≤ _), (by decide : 7298 + 0 ≤ _)⟩)
  dsimp only [Pt.U, Pt.locs, Pt.cells, Pt.slots] at X99 l99 y99 z99 st99 hQ99
  subst l99 y99 z99
  obtain ⟨rfl, Nq99, eh99⟩ := hQ99
  have N99 := Fr.app N98 Nq99
  obtain ⟨v100, vmx100, ⟨T100, L100, k100, n100⟩, -, X100, ⟨Lc100, hQ100, l100, y100, z100⟩, st100⟩ := Jvm.LawKit.callS X99 hx (y := (⟨"java/lang/Math", "max", "(JJ)J"⟩ : MethodName)) hown (mvT hZ (hw _ (List.mem_of_getElem? (i := 46) rfl))) (mvT hZ (hw _ (List.mem_of_getElem? (i := 47) rfl))) (mvT hZ (hw _ (List.mem_of_getElem? (i := 44) rfl))) (mvT hZ (hw _ (List.mem_of_getElem? (i := 48) rfl))) (by decide) (backOf (W := 0) (rmJmax l Z a0 hw [] (if myy < mxx then myy else mxx) (if mzz < (if mxx < myy then myy else mxx) then mzz else (if mxx < myy then myy else mxx)) T87.heap n0 Z88 ) hZ (hw _ (List.mem_of_getElem? (i := 48) rfl)) (hw _ (List.mem_of_getElem? (i := 44) rfl)) (by decide) (by decide)) (g := (mkF m 129 #[.val (.long p0), .second, .val (.long p1), .second, .val (.long p2), .second, .val (.int p3), .val (.long xx), .second, .val (.long yy), .second, .val (.long zz), .second, .val (.ref b75), .val (.long mxx), .second, .val (.long myy), .second, .val (.long mzz), .second, .val (.long (if (if mzz < myy then mzz else myy) < mxx then (if mzz < myy then mzz else myy) else mxx)), .second, .val (.long (if mxx < (if myy < mzz then mzz else myy) then (if myy < mzz then mzz else myy) else mxx)), .second, .unset, .unset, .unset] [(.long (if mzz < (if mxx < myy then myy else mxx) then mzz else (if mxx < myy then myy else mxx))), (.long (if myy < mxx then myy else mxx))])) rfl (by rw [hml]; rfl) (argsL := [(.long (if myy < mxx then myy else mxx)), (.long (if mzz < (if mxx < myy then myy else mxx) then mzz else (if mxx < myy then myy else mxx)))]) (rest := []) (lenOf own_pd10 rfl) rfl (by show 2 * 0 + _ ≤ _; exact Nat.le_of_eq rfl) (hb hby at_129) (fun _ _ => ⟨rfl, eh99, (by decide : 2 + 0 ≤ _), (by decide : 7298 + 0 ≤ _)⟩)
  dsimp only [Pt.U, Pt.locs, Pt.cells, Pt.slots] at X100 l100 y100 z100 st100 hQ100
  subst l100 y100 z100
  obtain ⟨rfl, Nq100, eh100⟩ := hQ100
  have N100 := Fr.app N99 Nq100
  obtain ⟨cq101, kq101, q101a, q101b, q101c⟩ := isOf hZ eh100 HH.1
  obtain ⟨v101, vmx101, ⟨T101, L101, k101, n101⟩, -, X101, ⟨Lc101, hQ101, l101, y101, z101⟩, st101⟩ := X100.virtualBack hx (y := (⟨"com/example/resplice/resplice/LatencyHistogram", "count", "()J"⟩ : MethodName)) (z := (⟨"com/example/resplice/resplice/LatencyHistogram", "count", "()J"⟩ : MethodName)) hown (mvT hZ (hw _ (List.mem_of_getElem? (i := 49) rfl))) (mvT hZ (hw _ (List.mem_of_getElem? (i := 50) rfl))) (notFace_of_selects (args := #[]) (mvT hZ (hw _ (List.mem_of_getElem? (i := 52) rfl)))) (mvT hZ (hw _ (List.mem_of_getElem? (i := 52) rfl))) (mvT hZ (hw _ (List.mem_of_getElem? (i := 51) rfl))) (by decide) (backOf (W := 0) (rmCo l Z a0 hw [] b75 (3 : Int64) T87.heap n0 Z88 HH.2.2.1) hZ (hw _ (List.mem_of_getElem? (i := 53) rfl)) (hw _ (List.mem_of_getElem? (i := 7) rfl)) (by decide) (by decide)) q101a q101c (g := (mkF m 136 #[.val (.long p0), .second, .val (.long p1), .second, .val (.long p2), .second, .val (.int p3), .val (.long xx), .second, .val (.long yy), .second, .val (.long zz), .second, .val (.ref b75), .val (.long mxx), .second, .val (.long myy), .second, .val (.long mzz), .second, .val (.long (if (if mzz < myy then mzz else myy) < mxx then (if mzz < myy then mzz else myy) else mxx)), .second, .val (.long (if mxx < (if myy < mzz then mzz else myy) then (if myy < mzz then mzz else myy) else mxx)), .second, .val (.long (if (if myy < mxx then myy else mxx) < (if mzz < (if mxx < myy then myy else mxx) then mzz else (if mxx < myy then myy else mxx)) then (if mzz < (if mxx < myy then myy else mxx) then mzz else (if mxx < myy then myy else mxx)) else (if myy < mxx then myy else mxx))), .second, .unset] [(.ref b75)])) rfl (by rw [hml]; rfl) (Steps.refl _) (argsL := []) (rest := []) (lenOf own_pd11 rfl) rfl (by show 2 * 0 + _ ≤ _; exact Nat.le_of_eq rfl) (hb hby at_136) (fun _ _ => ⟨rfl, eh100, (by decide : 2 + 0 ≤ _), (by decide : 7298 + 0 ≤ _)⟩)
  dsimp only [Pt.U, Pt.locs, Pt.cells, Pt.slots] at X101 l101 y101 z101 st101 hQ101
  subst l101 y101 z101
  obtain ⟨rfl, Nq101, eh101⟩ := hQ101
  have N101 := Fr.app N100 Nq101
  rw [← ebxx] at hmxx
  rw [← ebyy] at hmyy
  rw [← ebzz] at hmzz
  have f102 := (((((X00.ext E75).keep K78 (allS ge_b75 all0)).keep K81 (allS ge_b75 (allS gec all0))).keep K84 (allS ge_b75 (allS gec all0))).keep K87 (allS ge_b75 (allS gec all0)))
  obtain ⟨cq103, kq103, q103a, q103b, q103c⟩ := isOf hZ eh101 HH.1
  obtain ⟨v103, vmx103, ⟨T103, L103, k103, n103⟩, -, X103, ⟨Lc103, hQ103, l103, y103, z103⟩, st103⟩ := X101.virtualBack hx (y := (⟨"com/example/resplice/resplice/LatencyHistogram", "percentile", "(D)J"⟩ : MethodName)) (z := (⟨"com/example/resplice/resplice/LatencyHistogram", "percentile", "(D)J"⟩ : MethodName)) hown (mvT hZ (hw _ (List.mem_of_getElem? (i := 56) rfl))) (mvT hZ (hw _ (List.mem_of_getElem? (i := 57) rfl))) (notFace_of_selects (args := #[]) (mvT hZ (hw _ (List.mem_of_getElem? (i := 59) rfl)))) (mvT hZ (hw _ (List.mem_of_getElem? (i := 59) rfl))) (mvT hZ (hw _ (List.mem_of_getElem? (i := 58) rfl))) (by decide) (backOf (W := 0) (rmP1 l Z a0 hw [] b75 c1 _ (own_lo bxx byy bzz) T87.heap n0 Z88 HH (own_S3le bxx byy bzz) (by unfold own_lo; omega) (own_rank1 bxx byy bzz) O7 f102) hZ (hw _ (List.mem_of_getElem? (i := 60) rfl)) (hw _ (List.mem_of_getElem? (i := 7) rfl)) (by decide) (by decide)) q103a q103c (g := (mkF m 163 #[.val (.long p0), .second, .val (.long p1), .second, .val (.long p2), .second, .val (.int p3), .val (.long xx), .second, .val (.long yy), .second, .val (.long zz), .second, .val (.ref b75), .val (.long mxx), .second, .val (.long myy), .second, .val (.long mzz), .second, .val (.long (if (if mzz < myy then mzz else myy) < mxx then (if mzz < myy then mzz else myy) else mxx)), .second, .val (.long (if mxx < (if myy < mzz then mzz else myy) then (if myy < mzz then mzz else myy) else mxx)), .second, .val (.long (if (if myy < mxx then myy else mxx) < (if mzz < (if mxx < myy then myy else mxx) then mzz else (if mxx < myy then myy else mxx)) then (if mzz < (if mxx < myy then myy else mxx) then mzz else (if mxx < myy then myy else mxx)) else (if myy < mxx then myy else mxx))), .second, .val (.int (1 : Int32))] [(.double (4629137466983448576 : UInt64)), (.ref b75)])) rfl (by rw [hml]; rfl) (Steps.refl _) (argsL := [(.double (4629137466983448576 : UInt64))]) (rest := []) (lenOf own_pd12 rfl) rfl (by show 2 * 0 + _ ≤ _; exact Nat.le_of_eq rfl) (hb hby at_163) (fun _ _ => ⟨rfl, eh101, (by decide : 2 + 0 ≤ _), (by decide : 7298 + 0 ≤ _)⟩)
  dsimp only [Pt.U, Pt.locs, Pt.cells, Pt.slots] at X103 l103 y103 z103 st103 hQ103
  subst l103 y103 z103
  obtain ⟨r103, rfl, hr103, Nq103, eh103⟩ := hQ103
  have N103 := Fr.app N101 Nq103
  have hq1 : r103 = (if (if mzz < myy then mzz else myy) < mxx then (if mzz < myy then mzz else myy) else mxx) := by
    apply Int64.toInt_inj.mp
    rw [hr103]
    unfold own_lo
    rw [own_md_min, own_md_min, own_minI, own_minI, hmxx, hmyy, hmzz]
    omega
  obtain ⟨cq104, kq104, q104a, q104b, q104c⟩ := isOf hZ eh103 HH.1
  obtain ⟨v104, vmx104, ⟨T104, L104, k104, n104⟩, -, X104, ⟨Lc104, hQ104, l104, y104, z104⟩, st104⟩ := X103.virtualBack hx (y := (⟨"com/example/resplice/resplice/LatencyHistogram", "percentile", "(D)J"⟩ : MethodName)) (z := (⟨"com/example/resplice/resplice/LatencyHistogram", "percentile", "(D)J"⟩ : MethodName)) hown (mvT hZ (hw _ (List.mem_of_getElem? (i := 56) rfl))) (mvT hZ (hw _ (List.mem_of_getElem? (i := 57) rfl))) (notFace_of_selects (args := #[]) (mvT hZ (hw _ (List.mem_of_getElem? (i := 59) rfl)))) (mvT hZ (hw _ (List.mem_of_getElem? (i := 59) rfl))) (mvT hZ (hw _ (List.mem_of_getElem? (i := 58) rfl))) (by decide) (backOf (W := 0) (rmP2 l Z a0 hw [] b75 c1 _ (own_me bxx byy bzz) T87.heap n0 Z88 HH (own_S3le bxx byy bzz) (by unfold own_me; omega) (own_rank2 bxx byy bzz) O7 f102) hZ (hw _ (List.mem_of_getElem? (i := 60) rfl)) (hw _ (List.mem_of_getElem? (i := 7) rfl)) (by decide) (by decide)) q104a q104c (g := (mkF m 189 #[.val (.long p0), .second, .val (.long p1), .second, .val (.long p2), .second, .val (.int p3), .val (.long xx), .second, .val (.long yy), .second, .val (.long zz), .second, .val (.ref b75), .val (.long mxx), .second, .val (.long myy), .second, .val (.long mzz), .second, .val (.long (if (if mzz < myy then mzz else myy) < mxx then (if mzz < myy then mzz else myy) else mxx)), .second, .val (.long (if mxx < (if myy < mzz then mzz else myy) then (if myy < mzz then mzz else myy) else mxx)), .second, .val (.long (if (if myy < mxx then myy else mxx) < (if mzz < (if mxx < myy then myy else mxx) then mzz else (if mxx < myy then myy else mxx)) then (if mzz < (if mxx < myy then myy else mxx) then mzz else (if mxx < myy then myy else mxx)) else (if myy < mxx then myy else mxx))), .second, .val (.int (1 : Int32))] [(.double (4633641066610819072 : UInt64)), (.ref b75)])) rfl (by rw [hml]; rfl) (Steps.refl _) (argsL := [(.double (4633641066610819072 : UInt64))]) (rest := []) (lenOf own_pd12 rfl) rfl (by show 2 * 0 + _ ≤ _; exact Nat.le_of_eq rfl) (hb hby at_189) (fun _ _ => ⟨rfl, eh103, (by decide : 2 + 0 ≤ _), (by decide : 7298 + 0 ≤ _)⟩)
  dsimp only [Pt.U, Pt.locs, Pt.cells, Pt.slots] at X104 l104 y104 z104 st104 hQ104
  subst l104 y104 z104
  obtain ⟨r104, rfl, hr104, Nq104, eh104⟩ := hQ104
  have N104 := Fr.app N103 Nq104
  have hq2 : r104 = (if (if myy < mxx then myy else mxx) < (if mzz < (if mxx < myy then myy else mxx) then mzz else (if mxx < myy then myy else mxx)) then (if mzz < (if mxx < myy then myy else mxx) then mzz else (if mxx < myy then myy else mxx)) else (if myy < mxx then myy else mxx)) := by
    apply Int64.toInt_inj.mp
    rw [hr104]
    unfold own_me
    rw [own_md_max, own_md_min, own_md_min, own_md_max, own_maxI, own_minI, own_minI, own_maxI, hmxx, hmyy, hmzz]
    omega
  obtain ⟨cq105, kq105, q105a, q105b, q105c⟩ := isOf hZ eh104 HH.1
  obtain ⟨v105, vmx105, ⟨T105, L105, k105, n105⟩, -, X105, ⟨Lc105, hQ105, l105, y105, z105⟩, st105⟩ := X104.virtualBack hx (y := (⟨"com/example/resplice/resplice/LatencyHistogram", "percentile", "(D)J"⟩ : MethodName)) (z := (⟨"com/example/resplice/resplice/LatencyHistogram", "percentile", "(D)J"⟩ : MethodName)) hown (mvT hZ (hw _ (List.mem_of_getElem? (i := 56) rfl))) (mvT hZ (hw _ (List.mem_of_getElem? (i := 57) rfl))) (notFace_of_selects (args := #[]) (mvT hZ (hw _ (List.mem_of_getElem? (i := 59) rfl)))) (mvT hZ (hw _ (List.mem_of_getElem? (i := 59) rfl))) (mvT hZ (hw _ (List.mem_of_getElem? (i := 58) rfl))) (by decide) (backOf (W := 0) (rmP3 l Z a0 hw [] b75 c1 _ (own_hi bxx byy bzz) T87.heap n0 Z88 HH (own_S3le bxx byy bzz) (by unfold own_hi; omega) (own_rank3 bxx byy bzz) O7 f102) hZ (hw _ (List.mem_of_getElem? (i := 60) rfl)) (hw _ (List.mem_of_getElem? (i := 7) rfl)) (by decide) (by decide)) q105a q105c (g := (mkF m 215 #[.val (.long p0), .second, .val (.long p1), .second, .val (.long p2), .second, .val (.int p3), .val (.long xx), .second, .val (.long yy), .second, .val (.long zz), .second, .val (.ref b75), .val (.long mxx), .second, .val (.long myy), .second, .val (.long mzz), .second, .val (.long (if (if mzz < myy then mzz else myy) < mxx then (if mzz < myy then mzz else myy) else mxx)), .second, .val (.long (if mxx < (if myy < mzz then mzz else myy) then (if myy < mzz then mzz else myy) else mxx)), .second, .val (.long (if (if myy < mxx then myy else mxx) < (if mzz < (if mxx < myy then myy else mxx) then mzz else (if mxx < myy then myy else mxx)) then (if mzz < (if mxx < myy then myy else mxx) then mzz else (if mxx < myy then myy else mxx)) else (if myy < mxx then myy else mxx))), .second, .val (.int (1 : Int32))] [(.double (4636737291354636288 : UInt64)), (.ref b75)])) rfl (by rw [hml]; rfl) (Steps.refl _) (argsL := [(.double (4636737291354636288 : UInt64))]) (rest := []) (lenOf own_pd12 rfl) rfl (by show 2 * 0 + _ ≤ _; exact Nat.le_of_eq rfl) (hb hby at_215) (fun _ _ => ⟨rfl, eh104, (by decide : 2 + 0 ≤ _), (by decide : 7298 + 0 ≤ _)⟩)
  dsimp only [Pt.U, Pt.locs, Pt.cells, Pt.slots] at X105 l105 y105 z105 st105 hQ105
  subst l105 y105 z105
  obtain ⟨r105, rfl, hr105, Nq105, eh105⟩ := hQ105
  have N105 := Fr.app N104 Nq105
  have hq3 : r105 = (if mxx < (if myy < mzz then mzz else myy) then (if myy < mzz then mzz else myy) else mxx) := by
    apply Int64.toInt_inj.mp
    rw [hr105]
    unfold own_hi
    rw [own_md_max, own_md_max, own_maxI, own_maxI, hmxx, hmyy, hmzz]
    omega
  obtain ⟨fs, hr, hrun, hended, hW, hsame⟩ := X105.leave (v := some (.int (1 : Int32))) (fun h => by rw [hret0] at h; cases h)
  refine ⟨_, _, pre0 _ ?_, hrun, hended, _, _, rfl, ?_, ⟨_, rfl⟩, hW, hsame.mono (by decide) (by decide)⟩
  · show Steps p.tables e below (s₁.setTop (mkF m 0 #[.val (.long p0), .second, .val (.long p1), .second, .val (.long p2), .second, .val (.int p3), .unset, .unset, .unset, .unset, .unset, .unset, .unset, .unset, .unset, .unset, .unset, .unset, .unset, .unset, .unset, .unset, .unset, .unset, .unset, .unset] [])) _
    refine XS.lloadN X0.here hx rfl (hb hby at_0) rfl ?_
    show Steps p.tables e below (s₁.setTop (mkF m 1 #[.val (.long p0), .second, .val (.long p1), .second, .val (.long p2), .second, .val (.int p3), .unset, .unset, .unset, .unset, .unset, .unset, .unset, .unset, .unset, .unset, .unset, .unset, .unset, .unset, .unset, .unset, .unset, .unset, .unset, .unset] [(.long p0)])) _
    refine XS.iload X0.here hx rfl (hb hby at_1) rfl ?_
    show Steps p.tables e below (s₁.setTop (mkF m 3 #[.val (.long p0), .second, .val (.long p1), .second, .val (.long p2), .second, .val (.int p3), .unset, .unset, .unset, .unset, .unset, .unset, .unset, .unset, .unset, .unset, .unset, .unset, .unset, .unset, .unset, .unset, .unset, .unset, .unset, .unset] [(.int p3), (.long p0)])) _
    refine st72 _ ?_
    show Steps p.tables e below (T72.setTop (mkF m 6 #[.val (.long p0), .second, .val (.long p1), .second, .val (.long p2), .second, .val (.int p3), .unset, .unset, .unset, .unset, .unset, .unset, .unset, .unset, .unset, .unset, .unset, .unset, .unset, .unset, .unset, .unset, .unset, .unset, .unset, .unset] [(.long xx)])) _
    refine XS.lstore X72.here hx rfl (hb hby at_6) rfl (l' := #[.val (.long p0), .second, .val (.long p1), .second, .val (.long p2), .second, .val (.int p3), .val (.long xx), .second, .unset, .unset, .unset, .unset, .unset, .unset, .unset, .unset, .unset, .unset, .unset, .unset, .unset, .unset, .unset, .unset, .unset, .unset]) rfl ?_
    show Steps p.tables e below (T72.setTop (mkF m 8 #[.val (.long p0), .second, .val (.long p1), .second, .val (.long p2), .second, .val (.int p3), .val (.long xx), .second, .unset, .unset, .unset, .unset, .unset, .unset, .unset, .unset, .unset, .unset, .unset, .unset, .unset, .unset, .unset, .unset, .unset, .unset] [])) _
    refine XS.lloadN X72.here hx rfl (hb hby at_8) rfl ?_
    show Steps p.tables e below (T72.setTop (mkF m 9 #[.val (.long p0), .second, .val (.long p1), .second, .val (.long p2), .second, .val (.int p3), .val (.long xx), .second, .unset, .unset, .unset, .unset, .unset, .unset, .unset, .unset, .unset, .unset, .unset, .unset, .unset, .unset, .unset, .unset, .unset, .unset] [(.long p1)])) _
    refine XS.iload X72.here hx rfl (hb hby at_9) rfl ?_
    show Steps p.tables e below (T72.setTop (mkF m 11 #[.val (.long p0), .second, .val (.long p1), .second, .val (.long p2), .second, .val (.int p3), .val (.long xx), .second, .unset, .unset, .unset, .unset, .unset, .unset, .unset, .unset, .unset, .unset, .unset, .unset, .unset, .unset, .unset, .unset, .unset, .unset] [(.int p3), (.long p1)])) _
    refine XS.bipush X72.here hx rfl (hb hby at_11) ?_
    show Steps p.tables e below (T72.setTop (mkF m 13 #[.val (.long p0), .second, .val (.long p1), .second, .val (.long p2), .second, .val (.int p3), .val (.long xx), .second, .unset, .unset, .unset, .unset, .unset, .unset, .unset, .unset, .unset, .unset, .unset, .unset, .unset, .unset, .unset, .unset, .unset, .unset] [(.int (6 : Int32)), (.int p3), (.long p1)])) _
    refine XS.iushr X72.here hx rfl (hb hby at_13) rfl ?_
    show Steps p.tables e below (T72.setTop (mkF m 14 #[.val (.long p0), .second, .val (.long p1), .second, .val (.long p2), .second, .val (.int p3), .val (.long xx), .second, .unset, .unset, .unset, .unset, .unset, .unset, .unset, .unset, .unset, .unset, .unset, .unset, .unset, .unset, .unset, .unset, .unset, .unset] [(.int ((p3.toUInt32 >>> ((6 : Int32) &&& 31).toUInt32).toInt32)), (.long p1)])) _
    refine st73 _ ?_
    show Steps p.tables e below (T73.setTop (mkF m 17 #[.val (.long p0), .second, .val (.long p1), .second, .val (.long p2), .second, .val (.int p3), .val (.long xx), .second, .unset, .unset, .unset, .unset, .unset, .unset, .unset, .unset, .unset, .unset, .unset, .unset, .unset, .unset, .unset, .unset, .unset, .unset] [(.long yy)])) _
    refine XS.lstore X73.here hx rfl (hb hby at_17) rfl (l' := #[.val (.long p0), .second, .val (.long p1), .second, .val (.long p2), .second, .val (.int p3), .val (.long xx), .second, .val (.long yy), .second, .unset, .unset, .unset, .unset, .unset, .unset, .unset, .unset, .unset, .unset, .unset, .unset, .unset, .unset, .unset, .unset]) rfl ?_
    show Steps p.tables e below (T73.setTop (mkF m 19 #[.val (.long p0), .second, .val (.long p1), .second, .val (.long p2), .second, .val (.int p3), .val (.long xx), .second, .val (.long yy), .second, .unset, .unset, .unset, .unset, .unset, .unset, .unset, .unset, .unset, .unset, .unset, .unset, .unset, .unset, .unset, .unset] [])) _
    refine XS.lload X73.here hx rfl (hb hby at_19) rfl ?_
    show Steps p.tables e below (T73.setTop (mkF m 21 #[.val (.long p0), .second, .val (.long p1), .second, .val (.long p2), .second, .val (.int p3), .val (.long xx), .second, .val (.long yy), .second, .unset, .unset, .unset, .unset, .unset, .unset, .unset, .unset, .unset, .unset, .unset, .unset, .unset, .unset, .unset, .unset] [(.long p2)])) _
    refine XS.iload X73.here hx rfl (hb hby at_21) rfl ?_
    show Steps p.tables e below (T73.setTop (mkF m 23 #[.val (.long p0), .second, .val (.long p1), .second, .val (.long p2), .second, .val (.int p3), .val (.long xx), .second, .val (.long yy), .second, .unset, .unset, .unset, .unset, .unset, .unset, .unset, .unset, .unset, .unset, .unset, .unset, .unset, .unset, .unset, .unset] [(.int p3), (.long p2)])) _
    refine XS.bipush X73.here hx rfl (hb hby at_23) ?_
    show Steps p.tables e below (T73.setTop (mkF m 25 #[.val (.long p0), .second, .val (.long p1), .second, .val (.long p2), .second, .val (.int p3), .val (.long xx), .second, .val (.long yy), .second, .unset, .unset, .unset, .unset, .unset, .unset, .unset, .unset, .unset, .unset, .unset, .unset, .unset, .unset, .unset, .unset] [(.int (12 : Int32)), (.int p3), (.long p2)])) _
    refine XS.iushr X73.here hx rfl (hb hby at_25) rfl ?_
    show Steps p.tables e below (T73.setTop (mkF m 26 #[.val (.long p0), .second, .val (.long p1), .second, .val (.long p2), .second, .val (.int p3), .val (.long xx), .second, .val (.long yy), .second, .unset, .unset, .unset, .unset, .unset, .unset, .unset, .unset, .unset, .unset, .unset, .unset, .unset, .unset, .unset, .unset] [(.int ((p3.toUInt32 >>> ((12 : Int32) &&& 31).toUInt32).toInt32)), (.long p2)])) _
    refine st74 _ ?_
    show Steps p.tables e below (T74.setTop (mkF m 29 #[.val (.long p0), .second, .val (.long p1), .second, .val (.long p2), .second, .val (.int p3), .val (.long xx), .second, .val (.long yy), .second, .unset, .unset, .unset, .unset, .unset, .unset, .unset, .unset, .unset, .unset, .unset, .unset, .unset, .unset, .unset, .unset] [(.long zz)])) _
    refine XS.lstore X74.here hx rfl (hb hby at_29) rfl (l' := #[.val (.long p0), .second, .val (.long p1), .second, .val (.long p2), .second, .val (.int p3), .val (.long xx), .second, .val (.long yy), .second, .val (.long zz), .second, .unset, .unset, .unset, .unset, .unset, .unset, .unset, .unset, .unset, .unset, .unset, .unset, .unset, .unset]) rfl ?_
    show Steps p.tables e below (T74.setTop (mkF m 31 #[.val (.long p0), .second, .val (.long p1), .second, .val (.long p2), .second, .val (.int p3), .val (.long xx), .second, .val (.long yy), .second, .val (.long zz), .second, .unset, .unset, .unset, .unset, .unset, .unset, .unset, .unset, .unset, .unset, .unset, .unset, .unset, .unset] [])) _
    refine st75 _ ?_
    show Steps p.tables e below (T75.setTop (mkF m 34 #[.val (.long p0), .second, .val (.long p1), .second, .val (.long p2), .second, .val (.int p3), .val (.long xx), .second, .val (.long yy), .second, .val (.long zz), .second, .unset, .unset, .unset, .unset, .unset, .unset, .unset, .unset, .unset, .unset, .unset, .unset, .unset, .unset] [(.ref b75)])) _
    refine XS.dup X75.here hx rfl (hb hby at_34) rfl rfl ?_
    show Steps p.tables e below (T75.setTop (mkF m 35 #[.val (.long p0), .second, .val (.long p1), .second, .val (.long p2), .second, .val (.int p3), .val (.long xx), .second, .val (.long yy), .second, .val (.long zz), .second, .unset, .unset, .unset, .unset, .unset, .unset, .unset, .unset, .unset, .unset, .unset, .unset, .unset, .unset] [(.ref b75), (.ref b75)])) _
    refine st78.trans ?_
    show Steps p.tables e below (T78.setTop (mkF m 38 #[.val (.long p0), .second, .val (.long p1), .second, .val (.long p2), .second, .val (.int p3), .val (.long xx), .second, .val (.long yy), .second, .val (.long zz), .second, .unset, .unset, .unset, .unset, .unset, .unset, .unset, .unset, .unset, .unset, .unset, .unset, .unset, .unset] [(.ref b75)])) _
    refine XS.astore X78.here hx rfl (hb hby at_38) rfl rfl (l' := #[.val (.long p0), .second, .val (.long p1), .second, .val (.long p2), .second, .val (.int p3), .val (.long xx), .second, .val (.long yy), .second, .val (.long zz), .second, .val (.ref b75), .unset, .unset, .unset, .unset, .unset, .unset, .unset, .unset, .unset, .unset, .unset, .unset, .unset]) rfl ?_
    show Steps p.tables e below (T78.setTop (mkF m 40 #[.val (.long p0), .second, .val (.long p1), .second, .val (.long p2), .second, .val (.int p3), .val (.long xx), .second, .val (.long yy), .second, .val (.long zz), .second, .val (.ref b75), .unset, .unset, .unset, .unset, .unset, .unset, .unset, .unset, .unset, .unset, .unset, .unset, .unset] [])) _
    refine XS.aload X78.here hx rfl (hb hby at_40) rfl rfl ?_
    show Steps p.tables e below (T78.setTop (mkF m 42 #[.val (.long p0), .second, .val (.long p1), .second, .val (.long p2), .second, .val (.int p3), .val (.long xx), .second, .val (.long yy), .second, .val (.long zz), .second, .val (.ref b75), .unset, .unset, .unset, .unset, .unset, .unset, .unset, .unset, .unset, .unset, .unset, .unset, .unset] [(.ref b75)])) _
    refine XS.lload X78.here hx rfl (hb hby at_42) rfl ?_
    show Steps p.tables e below (T78.setTop (mkF m 44 #[.val (.long p0), .second, .val (.long p1), .second, .val (.long p2), .second, .val (.int p3), .val (.long xx), .second, .val (.long yy), .second, .val (.long zz), .second, .val (.ref b75), .unset, .unset, .unset, .unset, .unset, .unset, .unset, .unset, .unset, .unset, .unset, .unset, .unset] [(.long xx), (.ref b75)])) _
    refine st81.trans ?_
    show Steps p.tables e below (T81.setTop (mkF m 47 #[.val (.long p0), .second, .val (.long p1), .second, .val (.long p2), .second, .val (.int p3), .val (.long xx), .second, .val (.long yy), .second, .val (.long zz), .second, .val (.ref b75), .unset, .unset, .unset, .unset, .unset, .unset, .unset, .unset, .unset, .unset, .unset, .unset, .unset] [])) _
    refine XS.aload X81.here hx rfl (hb hby at_47) rfl rfl ?_
    show Steps p.tables e below (T81.setTop (mkF m 49 #[.val (.long p0), .second, .val (.long p1), .second, .val (.long p2), .second, .val (.int p3), .val (.long xx), .second, .val (.long yy), .second, .val (.long zz), .second, .val (.ref b75), .unset, .unset, .unset, .unset, .unset, .unset, .unset, .unset, .unset, .unset, .unset, .unset, .unset] [(.ref b75)])) _
    refine XS.lload X81.here hx rfl (hb hby at_49) rfl ?_
    show Steps p.tables e below (T81.setTop (mkF m 51 #[.val (.long p0), .second, .val (.long p1), .second, .val (.long p2), .second, .val (.int p3), .val (.long xx), .second, .val (.long yy), .second, .val (.long zz), .second, .val (.ref b75), .unset, .unset, .unset, .unset, .unset, .unset, .unset, .unset, .unset, .unset, .unset, .unset, .unset] [(.long yy), (.ref b75)])) _
    refine st84.trans ?_
    show Steps p.tables e below (T84.setTop (mkF m 54 #[.val (.long p0), .second, .val (.long p1), .second, .val (.long p2), .second, .val (.int p3), .val (.long xx), .second, .val (.long yy), .second, .val (.long zz), .second, .val (.ref b75), .unset, .unset, .unset, .unset, .unset, .unset, .unset, .unset, .unset, .unset, .unset, .unset, .unset] [])) _
    refine XS.aload X84.here hx rfl (hb hby at_54) rfl rfl ?_
    show Steps p.tables e below (T84.setTop (mkF m 56 #[.val (.long p0), .second, .val (.long p1), .second, .val (.long p2), .second, .val (.int p3), .val (.long xx), .second, .val (.long yy), .second, .val (.long zz), .second, .val (.ref b75), .unset, .unset, .unset, .unset, .unset, .unset, .unset, .unset, .unset, .unset, .unset, .unset, .unset] [(.ref b75)])) _
    refine XS.lload X84.here hx rfl (hb hby at_56) rfl ?_
    show Steps p.tables e below (T84.setTop (mkF m 58 #[.val (.long p0), .second, .val (.long p1), .second, .val (.long p2), .second, .val (.int p3), .val (.long xx), .second, .val (.long yy), .second, .val (.long zz), .second, .val (.ref b75), .unset, .unset, .unset, .unset, .unset, .unset, .unset, .unset, .unset, .unset, .unset, .unset, .unset] [(.long zz), (.ref b75)])) _
    refine st87.trans ?_
    show Steps p.tables e below (T87.setTop (mkF m 61 #[.val (.long p0), .second, .val (.long p1), .second, .val (.long p2), .second, .val (.int p3), .val (.long xx), .second, .val (.long yy), .second, .val (.long zz), .second, .val (.ref b75), .unset, .unset, .unset, .unset, .unset, .unset, .unset, .unset, .unset, .unset, .unset, .unset, .unset] [])) _
    refine XS.lload X87.here hx rfl (hb hby at_61) rfl ?_
    show Steps p.tables e below (T87.setTop (mkF m 63 #[.val (.long p0), .second, .val (.long p1), .second, .val (.long p2), .second, .val (.int p3), .val (.long xx), .second, .val (.long yy), .second, .val (.long zz), .second, .val (.ref b75), .unset, .unset, .unset, .unset, .unset, .unset, .unset, .unset, .unset, .unset, .unset, .unset, .unset] [(.long xx)])) _
    refine st90 _ ?_
    show Steps p.tables e below (T90.setTop (mkF m 66 #[.val (.long p0), .second, .val (.long p1), .second, .val (.long p2), .second, .val (.int p3), .val (.long xx), .second, .val (.long yy), .second, .val (.long zz), .second, .val (.ref b75), .unset, .unset, .unset, .unset, .unset, .unset, .unset, .unset, .unset, .unset, .unset, .unset, .unset] [(.long mxx)])) _
    refine XS.lstore X90.here hx rfl (hb hby at_66) rfl (l' := #[.val (.long p0), .second, .val (.long p1), .second, .val (.long p2), .second, .val (.int p3), .val (.long xx), .second, .val (.long yy), .second, .val (.long zz), .second, .val (.ref b75), .val (.long mxx), .second, .unset, .unset, .unset, .unset, .unset, .unset, .unset, .unset, .unset, .unset, .unset]) rfl ?_
    show Steps p.tables e below (T90.setTop (mkF m 68 #[.val (.long p0), .second, .val (.long p1), .second, .val (.long p2), .second, .val (.int p3), .val (.long xx), .second, .val (.long yy), .second, .val (.long zz), .second, .val (.ref b75), .val (.long mxx), .second, .unset, .unset, .unset, .unset, .unset, .unset, .unset, .unset, .unset, .unset, .unset] [])) _
    refine XS.lload X90.here hx rfl (hb hby at_68) rfl ?_
    show Steps p.tables e below (T90.setTop (mkF m 70 #[.val (.long p0), .second, .val (.long p1), .second, .val (.long p2), .second, .val (.int p3), .val (.long xx), .second, .val (.long yy), .second, .val (.long zz), .second, .val (.ref b75), .val (.long mxx), .second, .unset, .unset, .unset, .unset, .unset, .unset, .unset, .unset, .unset, .unset, .unset] [(.long yy)])) _
    refine st91 _ ?_
    show Steps p.tables e below (T91.setTop (mkF m 73 #[.val (.long p0), .second, .val (.long p1), .second, .val (.long p2), .second, .val (.int p3), .val (.long xx), .second, .val (.long yy), .second, .val (.long zz), .second, .val (.ref b75), .val (.long mxx), .second, .unset, .unset, .unset, .unset, .unset, .unset, .unset, .unset, .unset, .unset, .unset] [(.long myy)])) _
    refine XS.lstore X91.here hx rfl (hb hby at_73) rfl (l' := #[.val (.long p0), .second, .val (.long p1), .second, .val (.long p2), .second, .val (.int p3), .val (.long xx), .second, .val (.long yy), .second, .val (.long zz), .second, .val (.ref b75), .val (.long mxx), .second, .val (.long myy), .second, .unset, .unset, .unset, .unset, .unset, .unset, .unset, .unset, .unset]) rfl ?_
    show Steps p.tables e below (T91.setTop (mkF m 75 #[.val (.long p0), .second, .val (.long p1), .second, .val (.long p2), .second, .val (.int p3), .val (.long xx), .second, .val (.long yy), .second, .val (.long zz), .second, .val (.ref b75), .val (.long mxx), .second, .val (.long myy), .second, .unset, .unset, .unset, .unset, .unset, .unset, .unset, .unset, .unset] [])) _
    refine XS.lload X91.here hx rfl (hb hby at_75) rfl ?_
    show Steps p.tables e below (T91.setTop (mkF m 77 #[.val (.long p0), .second, .val (.long p1), .second, .val (.long p2), .second, .val (.int p3), .val (.long xx), .second, .val (.long yy), .second, .val (.long zz), .second, .val (.ref b75), .val (.long mxx), .second, .val (.long myy), .second, .unset, .unset, .unset, .unset, .unset, .unset, .unset, .unset, .unset] [(.long zz)])) _
    refine st92 _ ?_
    show Steps p.tables e below (T92.setTop (mkF m 80 #[.val (.long p0), .second, .val (.long p1), .second, .val (.long p2), .second, .val (.int p3), .val (.long xx), .second, .val (.long yy), .second, .val (.long zz), .second, .val (.ref b75), .val (.long mxx), .second, .val (.long myy), .second, .unset, .unset, .unset, .unset, .unset, .unset, .unset, .unset, .unset] [(.long mzz)])) _
    refine XS.lstore X92.here hx rfl (hb hby at_80) rfl (l' := #[.val (.long p0), .second, .val (.long p1), .second, .val (.long p2), .second, .val (.int p3), .val (.long xx), .second, .val (.long yy), .second, .val (.long zz), .second, .val (.ref b75), .val (.long mxx), .second, .val (.long myy), .second, .val (.long mzz), .second, .unset, .unset, .unset, .unset, .unset, .unset, .unset]) rfl ?_
    show Steps p.tables e below (T92.setTop (mkF m 82 #[.val (.long p0), .second, .val (.long p1), .second, .val (.long p2), .second, .val (.int p3), .val (.long xx), .second, .val (.long yy), .second, .val (.long zz), .second, .val (.ref b75), .val (.long mxx), .second, .val (.long myy), .second, .val (.long mzz), .second, .unset, .unset, .unset, .unset, .unset, .unset, .unset] [])) _
    refine XS.lload X92.here hx rfl (hb hby at_82) rfl ?_
    show Steps p.tables e below (T92.setTop (mkF m 84 #[.val (.long p0), .second, .val (.long p1), .second, .val (.long p2), .second, .val (.int p3), .val (.long xx), .second, .val (.long yy), .second, .val (.long zz), .second, .val (.ref b75), .val (.long mxx), .second, .val (.long myy), .second, .val (.long mzz), .second, .unset, .unset, .unset, .unset, .unset, .unset, .unset] [(.long mxx)])) _
    refine XS.lload X92.here hx rfl (hb hby at_84) rfl ?_
    show Steps p.tables e below (T92.setTop (mkF m 86 #[.val (.long p0), .second, .val (.long p1), .second, .val (.long p2), .second, .val (.int p3), .val (.long xx), .second, .val (.long yy), .second, .val (.long zz), .second, .val (.ref b75), .val (.long mxx), .second, .val (.long myy), .second, .val (.long mzz), .second, .unset, .unset, .unset, .unset, .unset, .unset, .unset] [(.long myy), (.long mxx)])) _
    refine XS.lload X92.here hx rfl (hb hby at_86) rfl ?_
    show Steps p.tables e below (T92.setTop (mkF m 88 #[.val (.long p0), .second, .val (.long p1), .second, .val (.long p2), .second, .val (.int p3), .val (.long xx), .second, .val (.long yy), .second, .val (.long zz), .second, .val (.ref b75), .val (.long mxx), .second, .val (.long myy), .second, .val (.long mzz), .second, .unset, .unset, .unset, .unset, .unset, .unset, .unset] [(.long mzz), (.long myy), (.long mxx)])) _
    refine st93 _ ?_
    show Steps p.tables e below (T93.setTop (mkF m 91 #[.val (.long p0), .second, .val (.long p1), .second, .val (.long p2), .second, .val (.int p3), .val (.long xx), .second, .val (.long yy), .second, .val (.long zz), .second, .val (.ref b75), .val (.long mxx), .second, .val (.long myy), .second, .val (.long mzz), .second, .unset, .unset, .unset, .unset, .unset, .unset, .unset] [(.long (if mzz < myy then mzz else myy)), (.long mxx)])) _
    refine st94 _ ?_
    show Steps p.tables e below (T94.setTop (mkF m 94 #[.val (.long p0), .second, .val (.long p1), .second, .val (.long p2), .second, .val (.int p3), .val (.long xx), .second, .val (.long yy), .second, .val (.long zz), .second, .val (.ref b75), .val (.long mxx), .second, .val (.long myy), .second, .val (.long mzz), .second, .unset, .unset, .unset, .unset, .unset, .unset, .unset] [(.long (if (if mzz < myy then mzz else myy) < mxx then (if mzz < myy then mzz else myy) else mxx))])) _
    refine XS.lstore X94.here hx rfl (hb hby at_94) rfl (l' := #[.val (.long p0), .second, .val (.long p1), .second, .val (.long p2), .second, .val (.int p3), .val (.long xx), .second, .val (.long yy), .second, .val (.long zz), .second, .val (.ref b75), .val (.long mxx), .second, .val (.long myy), .second, .val (.long mzz), .second, .val (.long (if (if mzz < myy then mzz else myy) < mxx then (if mzz < myy then mzz else myy) else mxx)), .second, .unset, .unset, .unset, .unset, .unset]) rfl ?_
    show Steps p.tables e below (T94.setTop (mkF m 96 #[.val (.long p0), .second, .val (.long p1), .second, .val (.long p2), .second, .val (.int p3), .val (.long xx), .second, .val (.long yy), .second, .val (.long zz), .second, .val (.ref b75), .val (.long mxx), .second, .val (.long myy), .second, .val (.long mzz), .second, .val (.long (if (if mzz < myy then mzz else myy) < mxx then (if mzz < myy then mzz else myy) else mxx)), .second, .unset, .unset, .unset, .unset, .unset] [])) _
    refine XS.lload X94.here hx rfl (hb hby at_96) rfl ?_
    show Steps p.tables e below (T94.setTop (mkF m 98 #[.val (.long p0), .second, .val (.long p1), .second, .val (.long p2), .second, .val (.int p3), .val (.long xx), .second, .val (.long yy), .second, .val (.long zz), .second, .val (.ref b75), .val (.long mxx), .second, .val (.long myy), .second, .val (.long mzz), .second, .val (.long (if (if mzz < myy then mzz else myy) < mxx then (if mzz < myy then mzz else myy) else mxx)), .second, .unset, .unset, .unset, .unset, .unset] [(.long mxx)])) _
    refine XS.lload X94.here hx rfl (hb hby at_98) rfl ?_
    show Steps p.tables e below (T94.setTop (mkF m 100 #[.val (.long p0), .second, .val (.long p1), .second, .val (.long p2), .second, .val (.int p3), .val (.long xx), .second, .val (.long yy), .second, .val (.long zz), .second, .val (.ref b75), .val (.long mxx), .second, .val (.long myy), .second, .val (.long mzz), .second, .val (.long (if (if mzz < myy then mzz else myy) < mxx then (if mzz < myy then mzz else myy) else mxx)), .second, .unset, .unset, .unset, .unset, .unset] [(.long myy), (.long mxx)])) _
    refine XS.lload X94.here hx rfl (hb hby at_100) rfl ?_
    show Steps p.tables e below (T94.setTop (mkF m 102 #[.val (.long p0), .second, .val (.long p1), .second, .val (.long p2), .second, .val (.int p3), .val (.long xx), .second, .val (.long yy), .second, .val (.long zz), .second, .val (.ref b75), .val (.long mxx), .second, .val (.long myy), .second, .val (.long mzz), .second, .val (.long (if (if mzz < myy then mzz else myy) < mxx then (if mzz < myy then mzz else myy) else mxx)), .second, .unset, .unset, .unset, .unset, .unset] [(.long mzz), (.long myy), (.long mxx)])) _
    refine st95 _ ?_
    show Steps p.tables e below (T95.setTop (mkF m 105 #[.val (.long p0), .second, .val (.long p1), .second, .val (.long p2), .second, .val (.int p3), .val (.long xx), .second, .val (.long yy), .second, .val (.long zz), .second, .val (.ref b75), .val (.long mxx), .second, .val (.long myy), .second, .val (.long mzz), .second, .val (.long (if (if mzz < myy then mzz else myy) < mxx then (if mzz < myy then mzz else myy) else mxx)), .second, .unset, .unset, .unset, .unset, .unset] [(.long (if myy < mzz then mzz else myy)), (.long mxx)])) _
    refine st96 _ ?_
    show Steps p.tables e below (T96.setTop (mkF m 108 #[.val (.long p0), .second, .val (.long p1), .second, .val (.long p2), .second, .val (.int p3), .val (.long xx), .second, .val (.long yy), .second, .val (.long zz), .second, .val (.ref b75), .val (.long mxx), .second, .val (.long myy), .second, .val (.long mzz), .second, .val (.long (if (if mzz < myy then mzz else myy) < mxx then (if mzz < myy then mzz else myy) else mxx)), .second, .unset, .unset, .unset, .unset, .unset] [(.long (if mxx < (if myy < mzz then mzz else myy) then (if myy < mzz then mzz else myy) else mxx))])) _
    refine XS.lstore X96.here hx rfl (hb hby at_108) rfl (l' := #[.val (.long p0), .second, .val (.long p1), .second, .val (.long p2), .second, .val (.int p3), .val (.long xx), .second, .val (.long yy), .second, .val (.long zz), .second, .val (.ref b75), .val (.long mxx), .second, .val (.long myy), .second, .val (.long mzz), .second, .val (.long (if (if mzz < myy then mzz else myy) < mxx then (if mzz < myy then mzz else myy) else mxx)), .second, .val (.long (if mxx < (if myy < mzz then mzz else myy) then (if myy < mzz then mzz else myy) else mxx)), .second, .unset, .unset, .unset]) rfl ?_
    show Steps p.tables e below (T96.setTop (mkF m 110 #[.val (.long p0), .second, .val (.long p1), .second, .val (.long p2), .second, .val (.int p3), .val (.long xx), .second, .val (.long yy), .second, .val (.long zz), .second, .val (.ref b75), .val (.long mxx), .second, .val (.long myy), .second, .val (.long mzz), .second, .val (.long (if (if mzz < myy then mzz else myy) < mxx then (if mzz < myy then mzz else myy) else mxx)), .second, .val (.long (if mxx < (if myy < mzz then mzz else myy) then (if myy < mzz then mzz else myy) else mxx)), .second, .unset, .unset, .unset] [])) _
    refine XS.lload X96.here hx rfl (hb hby at_110) rfl ?_
    show Steps p.tables e below (T96.setTop (mkF m 112 #[.val (.long p0), .second, .val (.long p1), .second, .val (.long p2), .second, .val (.int p3), .val (.long xx), .second, .val (.long yy), .second, .val (.long zz), .second, .val (.ref b75), .val (.long mxx), .second, .val (.long myy), .second, .val (.long mzz), .second, .val (.long (if (if mzz < myy then mzz else myy) < mxx then (if mzz < myy then mzz else myy) else mxx)), .second, .val (.long (if mxx < (if myy < mzz then mzz else myy) then (if myy < mzz then mzz else myy) else mxx)), .second, .unset, .unset, .unset] [(.long mxx)])) _
    refine XS.lload X96.here hx rfl (hb hby at_112) rfl ?_
    show Steps p.tables e below (T96.setTop (mkF m 114 #[.val (.long p0), .second, .val (.long p1), .second, .val (.long p2), .second, .val (.int p3), .val (.long xx), .second, .val (.long yy), .second, .val (.long zz), .second, .val (.ref b75), .val (.long mxx), .second, .val (.long myy), .second, .val (.long mzz), .second, .val (.long (if (if mzz < myy then mzz else myy) < mxx then (if mzz < myy then mzz else myy) else mxx)), .second, .val (.long (if mxx < (if myy < mzz then mzz else myy) then (if myy < mzz then mzz else myy) else mxx)), .second, .unset, .unset, .unset] [(.long myy), (.long mxx)])) _
    refine st97 _ ?_
    show Steps p.tables e below (T97.setTop (mkF m 117 #[.val (.long p0), .second, .val (.long p1), .second, .val (.long p2), .second, .val (.int p3), .val (.long xx), .second, .val (.long yy), .second, .val (.long zz), .second, .val (.ref b75), .val (.long mxx), .second, .val (.long myy), .second, .val (.long mzz), .second, .val (.long (if (if mzz < myy then mzz else myy) < mxx then (if mzz < myy then mzz else myy) else mxx)), .second, .val (.long (if mxx < (if myy < mzz then mzz else myy) then (if myy < mzz then mzz else myy) else mxx)), .second, .unset, .unset, .unset] [(.long (if myy < mxx then myy else mxx))])) _
    refine XS.lload X97.here hx rfl (hb hby at_117) rfl ?_
    show Steps p.tables e below (T97.setTop (mkF m 119 #[.val (.long p0), .second, .val (.long p1), .second, .val (.long p2), .second, .val (.int p3), .val (.long xx), .second, .val (.long yy), .second, .val (.long zz), .second, .val (.ref b75), .val (.long mxx), .second, .val (.long myy), .second, .val (.long mzz), .second, .val (.long (if (if mzz < myy then mzz else myy) < mxx then (if mzz < myy then mzz else myy) else mxx)), .second, .val (.long (if mxx < (if myy < mzz then mzz else myy) then (if myy < mzz then mzz else myy) else mxx)), .second, .unset, .unset, .unset] [(.long mxx), (.long (if myy < mxx then myy else mxx))])) _
    refine XS.lload X97.here hx rfl (hb hby at_119) rfl ?_
    show Steps p.tables e below (T97.setTop (mkF m 121 #[.val (.long p0), .second, .val (.long p1), .second, .val (.long p2), .second, .val (.int p3), .val (.long xx), .second, .val (.long yy), .second, .val (.long zz), .second, .val (.ref b75), .val (.long mxx), .second, .val (.long myy), .second, .val (.long mzz), .second, .val (.long (if (if mzz < myy then mzz else myy) < mxx then (if mzz < myy then mzz else myy) else mxx)), .second, .val (.long (if mxx < (if myy < mzz then mzz else myy) then (if myy < mzz then mzz else myy) else mxx)), .second, .unset, .unset, .unset] [(.long myy), (.long mxx), (.long (if myy < mxx then myy else mxx))])) _
    refine st98 _ ?_
    show Steps p.tables e below (T98.setTop (mkF m 124 #[.val (.long p0), .second, .val (.long p1), .second, .val (.long p2), .second, .val (.int p3), .val (.long xx), .second, .val (.long yy), .second, .val (.long zz), .second, .val (.ref b75), .val (.long mxx), .second, .val (.long myy), .second, .val (.long mzz), .second, .val (.long (if (if mzz < myy then mzz else myy) < mxx then (if mzz < myy then mzz else myy) else mxx)), .second, .val (.long (if mxx < (if myy < mzz then mzz else myy) then (if myy < mzz then mzz else myy) else mxx)), .second, .unset, .unset, .unset] [(.long (if mxx < myy then myy else mxx)), (.long (if myy < mxx then myy else mxx))])) _
    refine XS.lload X98.here hx rfl (hb hby at_124) rfl ?_
    show Steps p.tables e below (T98.setTop (mkF m 126 #[.val (.long p0), .second, .val (.long p1), .second, .val (.long p2), .second, .val (.int p3), .val (.long xx), .second, .val (.long yy), .second, .val (.long zz), .second, .val (.ref b75), .val (.long mxx), .second, .val (.long myy), .second, .val (.long mzz), .second, .val (.long (if (if mzz < myy then mzz else myy) < mxx then (if mzz < myy then mzz else myy) else mxx)), .second, .val (.long (if mxx < (if myy < mzz then mzz else myy) then (if myy < mzz then mzz else myy) else mxx)), .second, .unset, .unset, .unset] [(.long mzz), (.long (if mxx < myy then myy else mxx)), (.long (if myy < mxx then myy else mxx))])) _
    refine st99 _ ?_
    show Steps p.tables e below (T99.setTop (mkF m 129 #[.val (.long p0), .second, .val (.long p1), .second, .val (.long p2), .second, .val (.int p3), .val (.long xx), .second, .val (.long yy), .second, .val (.long zz), .second, .val (.ref b75), .val (.long mxx), .second, .val (.long myy), .second, .val (.long mzz), .second, .val (.long (if (if mzz < myy then mzz else myy) < mxx then (if mzz < myy then mzz else myy) else mxx)), .second, .val (.long (if mxx < (if myy < mzz then mzz else myy) then (if myy < mzz then mzz else myy) else mxx)), .second, .unset, .unset, .unset] [(.long (if mzz < (if mxx < myy then myy else mxx) then mzz else (if mxx < myy then myy else mxx))), (.long (if myy < mxx then myy else mxx))])) _
    refine st100 _ ?_
    show Steps p.tables e below (T100.setTop (mkF m 132 #[.val (.long p0), .second, .val (.long p1), .second, .val (.long p2), .second, .val (.int p3), .val (.long xx), .second, .val (.long yy), .second, .val (.long zz), .second, .val (.ref b75), .val (.long mxx), .second, .val (.long myy), .second, .val (.long mzz), .second, .val (.long (if (if mzz < myy then mzz else myy) < mxx then (if mzz < myy then mzz else myy) else mxx)), .second, .val (.long (if mxx < (if myy < mzz then mzz else myy) then (if myy < mzz then mzz else myy) else mxx)), .second, .unset, .unset, .unset] [(.long (if (if myy < mxx then myy else mxx) < (if mzz < (if mxx < myy then myy else mxx) then mzz else (if mxx < myy then myy else mxx)) then (if mzz < (if mxx < myy then myy else mxx) then mzz else (if mxx < myy then myy else mxx)) else (if myy < mxx then myy else mxx)))])) _
    refine XS.lstore X100.here hx rfl (hb hby at_132) rfl (l' := #[.val (.long p0), .second, .val (.long p1), .second, .val (.long p2), .second, .val (.int p3), .val (.long xx), .second, .val (.long yy), .second, .val (.long zz), .second, .val (.ref b75), .val (.long mxx), .second, .val (.long myy), .second, .val (.long mzz), .second, .val (.long (if (if mzz < myy then mzz else myy) < mxx then (if mzz < myy then mzz else myy) else mxx)), .second, .val (.long (if mxx < (if myy < mzz then mzz else myy) then (if myy < mzz then mzz else myy) else mxx)), .second, .val (.long (if (if myy < mxx then myy else mxx) < (if mzz < (if mxx < myy then myy else mxx) then mzz else (if mxx < myy then myy else mxx)) then (if mzz < (if mxx < myy then myy else mxx) then mzz else (if mxx < myy then myy else mxx)) else (if myy < mxx then myy else mxx))), .second, .unset]) rfl ?_
    show Steps p.tables e below (T100.setTop (mkF m 134 #[.val (.long p0), .second, .val (.long p1), .second, .val (.long p2), .second, .val (.int p3), .val (.long xx), .second, .val (.long yy), .second, .val (.long zz), .second, .val (.ref b75), .val (.long mxx), .second, .val (.long myy), .second, .val (.long mzz), .second, .val (.long (if (if mzz < myy then mzz else myy) < mxx then (if mzz < myy then mzz else myy) else mxx)), .second, .val (.long (if mxx < (if myy < mzz then mzz else myy) then (if myy < mzz then mzz else myy) else mxx)), .second, .val (.long (if (if myy < mxx then myy else mxx) < (if mzz < (if mxx < myy then myy else mxx) then mzz else (if mxx < myy then myy else mxx)) then (if mzz < (if mxx < myy then myy else mxx) then mzz else (if mxx < myy then myy else mxx)) else (if myy < mxx then myy else mxx))), .second, .unset] [])) _
    refine XS.aload X100.here hx rfl (hb hby at_134) rfl rfl ?_
    show Steps p.tables e below (T100.setTop (mkF m 136 #[.val (.long p0), .second, .val (.long p1), .second, .val (.long p2), .second, .val (.int p3), .val (.long xx), .second, .val (.long yy), .second, .val (.long zz), .second, .val (.ref b75), .val (.long mxx), .second, .val (.long myy), .second, .val (.long mzz), .second, .val (.long (if (if mzz < myy then mzz else myy) < mxx then (if mzz < myy then mzz else myy) else mxx)), .second, .val (.long (if mxx < (if myy < mzz then mzz else myy) then (if myy < mzz then mzz else myy) else mxx)), .second, .val (.long (if (if myy < mxx then myy else mxx) < (if mzz < (if mxx < myy then myy else mxx) then mzz else (if mxx < myy then myy else mxx)) then (if mzz < (if mxx < myy then myy else mxx) then mzz else (if mxx < myy then myy else mxx)) else (if myy < mxx then myy else mxx))), .second, .unset] [(.ref b75)])) _
    refine st101.trans ?_
    show Steps p.tables e below (T101.setTop (mkF m 139 #[.val (.long p0), .second, .val (.long p1), .second, .val (.long p2), .second, .val (.int p3), .val (.long xx), .second, .val (.long yy), .second, .val (.long zz), .second, .val (.ref b75), .val (.long mxx), .second, .val (.long myy), .second, .val (.long mzz), .second, .val (.long (if (if mzz < myy then mzz else myy) < mxx then (if mzz < myy then mzz else myy) else mxx)), .second, .val (.long (if mxx < (if myy < mzz then mzz else myy) then (if myy < mzz then mzz else myy) else mxx)), .second, .val (.long (if (if myy < mxx then myy else mxx) < (if mzz < (if mxx < myy then myy else mxx) then mzz else (if mxx < myy then myy else mxx)) then (if mzz < (if mxx < myy then myy else mxx) then mzz else (if mxx < myy then myy else mxx)) else (if myy < mxx then myy else mxx))), .second, .unset] [(.long (3 : Int64))])) _
    refine X101.ldc2Long hx hown (mvT hZ (hw _ (List.mem_of_getElem? (i := 54) rfl))) (g := (mkF m 139 #[.val (.long p0), .second, .val (.long p1), .second, .val (.long p2), .second, .val (.int p3), .val (.long xx), .second, .val (.long yy), .second, .val (.long zz), .second, .val (.ref b75), .val (.long mxx), .second, .val (.long myy), .second, .val (.long mzz), .second, .val (.long (if (if mzz < myy then mzz else myy) < mxx then (if mzz < myy then mzz else myy) else mxx)), .second, .val (.long (if mxx < (if myy < mzz then mzz else myy) then (if myy < mzz then mzz else myy) else mxx)), .second, .val (.long (if (if myy < mxx then myy else mxx) < (if mzz < (if mxx < myy then myy else mxx) then mzz else (if mxx < myy then myy else mxx)) then (if mzz < (if mxx < myy then myy else mxx) then mzz else (if mxx < myy then myy else mxx)) else (if myy < mxx then myy else mxx))), .second, .unset] [(.long (3 : Int64))])) rfl (hb hby at_139) _ ?_
    show Steps p.tables e below (T101.setTop (mkF m 142 #[.val (.long p0), .second, .val (.long p1), .second, .val (.long p2), .second, .val (.int p3), .val (.long xx), .second, .val (.long yy), .second, .val (.long zz), .second, .val (.ref b75), .val (.long mxx), .second, .val (.long myy), .second, .val (.long mzz), .second, .val (.long (if (if mzz < myy then mzz else myy) < mxx then (if mzz < myy then mzz else myy) else mxx)), .second, .val (.long (if mxx < (if myy < mzz then mzz else myy) then (if myy < mzz then mzz else myy) else mxx)), .second, .val (.long (if (if myy < mxx then myy else mxx) < (if mzz < (if mxx < myy then myy else mxx) then mzz else (if mxx < myy then myy else mxx)) then (if mzz < (if mxx < myy then myy else mxx) then mzz else (if mxx < myy then myy else mxx)) else (if myy < mxx then myy else mxx))), .second, .unset] [(.long (3 : Int64)), (.long (3 : Int64))])) _
    refine XS.lcmp X101.here hx rfl (hb hby at_142) rfl ?_
    show Steps p.tables e below (T101.setTop (mkF m 143 #[.val (.long p0), .second, .val (.long p1), .second, .val (.long p2), .second, .val (.int p3), .val (.long xx), .second, .val (.long yy), .second, .val (.long zz), .second, .val (.ref b75), .val (.long mxx), .second, .val (.long myy), .second, .val (.long mzz), .second, .val (.long (if (if mzz < myy then mzz else myy) < mxx then (if mzz < myy then mzz else myy) else mxx)), .second, .val (.long (if mxx < (if myy < mzz then mzz else myy) then (if myy < mzz then mzz else myy) else mxx)), .second, .val (.long (if (if myy < mxx then myy else mxx) < (if mzz < (if mxx < myy then myy else mxx) then mzz else (if mxx < myy then myy else mxx)) then (if mzz < (if mxx < myy then myy else mxx) then mzz else (if mxx < myy then myy else mxx)) else (if myy < mxx then myy else mxx))), .second, .unset] [(.int (lcmpW (3 : Int64) (3 : Int64)))])) _
    refine XS.ifNo X101.here hx rfl (hb hby at_143) rfl ((if0 _ _).trans (teq (by decide)).2) ?_
    show Steps p.tables e below (T101.setTop (mkF m 146 #[.val (.long p0), .second, .val (.long p1), .second, .val (.long p2), .second, .val (.int p3), .val (.long xx), .second, .val (.long yy), .second, .val (.long zz), .second, .val (.ref b75), .val (.long mxx), .second, .val (.long myy), .second, .val (.long mzz), .second, .val (.long (if (if mzz < myy then mzz else myy) < mxx then (if mzz < myy then mzz else myy) else mxx)), .second, .val (.long (if mxx < (if myy < mzz then mzz else myy) then (if myy < mzz then mzz else myy) else mxx)), .second, .val (.long (if (if myy < mxx then myy else mxx) < (if mzz < (if mxx < myy then myy else mxx) then mzz else (if mxx < myy then myy else mxx)) then (if mzz < (if mxx < myy then myy else mxx) then mzz else (if mxx < myy then myy else mxx)) else (if myy < mxx then myy else mxx))), .second, .unset] [])) _
    refine XS.iconst X101.here hx rfl (hb hby at_146) ?_
    show Steps p.tables e below (T101.setTop (mkF m 147 #[.val (.long p0), .second, .val (.long p1), .second, .val (.long p2), .second, .val (.int p3), .val (.long xx), .second, .val (.long yy), .second, .val (.long zz), .second, .val (.ref b75), .val (.long mxx), .second, .val (.long myy), .second, .val (.long mzz), .second, .val (.long (if (if mzz < myy then mzz else myy) < mxx then (if mzz < myy then mzz else myy) else mxx)), .second, .val (.long (if mxx < (if myy < mzz then mzz else myy) then (if myy < mzz then mzz else myy) else mxx)), .second, .val (.long (if (if myy < mxx then myy else mxx) < (if mzz < (if mxx < myy then myy else mxx) then mzz else (if mxx < myy then myy else mxx)) then (if mzz < (if mxx < myy then myy else mxx) then mzz else (if mxx < myy then myy else mxx)) else (if myy < mxx then myy else mxx))), .second, .unset] [(.int (1 : Int32))])) _
    refine XS.goto X101.here hx rfl (pc0 := 147) (pc' := 151) rfl (hb hby at_147) (by decide) (by decide) ?_
    show Steps p.tables e below (T101.setTop (mkF m 151 #[.val (.long p0), .second, .val (.long p1), .second, .val (.long p2), .second, .val (.int p3), .val (.long xx), .second, .val (.long yy), .second, .val (.long zz), .second, .val (.ref b75), .val (.long mxx), .second, .val (.long myy), .second, .val (.long mzz), .second, .val (.long (if (if mzz < myy then mzz else myy) < mxx then (if mzz < myy then mzz else myy) else mxx)), .second, .val (.long (if mxx < (if myy < mzz then mzz else myy) then (if myy < mzz then mzz else myy) else mxx)), .second, .val (.long (if (if myy < mxx then myy else mxx) < (if mzz < (if mxx < myy then myy else mxx) then mzz else (if mxx < myy then myy else mxx)) then (if mzz < (if mxx < myy then myy else mxx) then mzz else (if mxx < myy then myy else mxx)) else (if myy < mxx then myy else mxx))), .second, .unset] [(.int (1 : Int32))])) _
    refine XS.istore X101.here hx rfl (hb hby at_151) rfl (l' := #[.val (.long p0), .second, .val (.long p1), .second, .val (.long p2), .second, .val (.int p3), .val (.long xx), .second, .val (.long yy), .second, .val (.long zz), .second, .val (.ref b75), .val (.long mxx), .second, .val (.long myy), .second, .val (.long mzz), .second, .val (.long (if (if mzz < myy then mzz else myy) < mxx then (if mzz < myy then mzz else myy) else mxx)), .second, .val (.long (if mxx < (if myy < mzz then mzz else myy) then (if myy < mzz then mzz else myy) else mxx)), .second, .val (.long (if (if myy < mxx then myy else mxx) < (if mzz < (if mxx < myy then myy else mxx) then mzz else (if mxx < myy then myy else mxx)) then (if mzz < (if mxx < myy then myy else mxx) then mzz else (if mxx < myy then myy else mxx)) else (if myy < mxx then myy else mxx))), .second, .val (.int (1 : Int32))]) rfl ?_
    show Steps p.tables e below (T101.setTop (mkF m 153 #[.val (.long p0), .second, .val (.long p1), .second, .val (.long p2), .second, .val (.int p3), .val (.long xx), .second, .val (.long yy), .second, .val (.long zz), .second, .val (.ref b75), .val (.long mxx), .second, .val (.long myy), .second, .val (.long mzz), .second, .val (.long (if (if mzz < myy then mzz else myy) < mxx then (if mzz < myy then mzz else myy) else mxx)), .second, .val (.long (if mxx < (if myy < mzz then mzz else myy) then (if myy < mzz then mzz else myy) else mxx)), .second, .val (.long (if (if myy < mxx then myy else mxx) < (if mzz < (if mxx < myy then myy else mxx) then mzz else (if mxx < myy then myy else mxx)) then (if mzz < (if mxx < myy then myy else mxx) then mzz else (if mxx < myy then myy else mxx)) else (if myy < mxx then myy else mxx))), .second, .val (.int (1 : Int32))] [])) _
    refine XS.iload X101.here hx rfl (hb hby at_153) rfl ?_
    show Steps p.tables e below (T101.setTop (mkF m 155 #[.val (.long p0), .second, .val (.long p1), .second, .val (.long p2), .second, .val (.int p3), .val (.long xx), .second, .val (.long yy), .second, .val (.long zz), .second, .val (.ref b75), .val (.long mxx), .second, .val (.long myy), .second, .val (.long mzz), .second, .val (.long (if (if mzz < myy then mzz else myy) < mxx then (if mzz < myy then mzz else myy) else mxx)), .second, .val (.long (if mxx < (if myy < mzz then mzz else myy) then (if myy < mzz then mzz else myy) else mxx)), .second, .val (.long (if (if myy < mxx then myy else mxx) < (if mzz < (if mxx < myy then myy else mxx) then mzz else (if mxx < myy then myy else mxx)) then (if mzz < (if mxx < myy then myy else mxx) then mzz else (if mxx < myy then myy else mxx)) else (if myy < mxx then myy else mxx))), .second, .val (.int (1 : Int32))] [(.int (1 : Int32))])) _
    refine XS.ifNo X101.here hx rfl (hb hby at_155) rfl ((if0 _ _).trans (feq (by decide)).1) ?_
    show Steps p.tables e below (T101.setTop (mkF m 158 #[.val (.long p0), .second, .val (.long p1), .second, .val (.long p2), .second, .val (.int p3), .val (.long xx), .second, .val (.long yy), .second, .val (.long zz), .second, .val (.ref b75), .val (.long mxx), .second, .val (.long myy), .second, .val (.long mzz), .second, .val (.long (if (if mzz < myy then mzz else myy) < mxx then (if mzz < myy then mzz else myy) else mxx)), .second, .val (.long (if mxx < (if myy < mzz then mzz else myy) then (if myy < mzz then mzz else myy) else mxx)), .second, .val (.long (if (if myy < mxx then myy else mxx) < (if mzz < (if mxx < myy then myy else mxx) then mzz else (if mxx < myy then myy else mxx)) then (if mzz < (if mxx < myy then myy else mxx) then mzz else (if mxx < myy then myy else mxx)) else (if myy < mxx then myy else mxx))), .second, .val (.int (1 : Int32))] [])) _
    refine XS.aload X101.here hx rfl (hb hby at_158) rfl rfl ?_
    show Steps p.tables e below (T101.setTop (mkF m 160 #[.val (.long p0), .second, .val (.long p1), .second, .val (.long p2), .second, .val (.int p3), .val (.long xx), .second, .val (.long yy), .second, .val (.long zz), .second, .val (.ref b75), .val (.long mxx), .second, .val (.long myy), .second, .val (.long mzz), .second, .val (.long (if (if mzz < myy then mzz else myy) < mxx then (if mzz < myy then mzz else myy) else mxx)), .second, .val (.long (if mxx < (if myy < mzz then mzz else myy) then (if myy < mzz then mzz else myy) else mxx)), .second, .val (.long (if (if myy < mxx then myy else mxx) < (if mzz < (if mxx < myy then myy else mxx) then mzz else (if mxx < myy then myy else mxx)) then (if mzz < (if mxx < myy then myy else mxx) then mzz else (if mxx < myy then myy else mxx)) else (if myy < mxx then myy else mxx))), .second, .val (.int (1 : Int32))] [(.ref b75)])) _
    refine X101.ldc2DoubleC hx hown (mvT hZ (hw _ (List.mem_of_getElem? (i := 55) rfl))) (g := (mkF m 160 #[.val (.long p0), .second, .val (.long p1), .second, .val (.long p2), .second, .val (.int p3), .val (.long xx), .second, .val (.long yy), .second, .val (.long zz), .second, .val (.ref b75), .val (.long mxx), .second, .val (.long myy), .second, .val (.long mzz), .second, .val (.long (if (if mzz < myy then mzz else myy) < mxx then (if mzz < myy then mzz else myy) else mxx)), .second, .val (.long (if mxx < (if myy < mzz then mzz else myy) then (if myy < mzz then mzz else myy) else mxx)), .second, .val (.long (if (if myy < mxx then myy else mxx) < (if mzz < (if mxx < myy then myy else mxx) then mzz else (if mxx < myy then myy else mxx)) then (if mzz < (if mxx < myy then myy else mxx) then mzz else (if mxx < myy then myy else mxx)) else (if myy < mxx then myy else mxx))), .second, .val (.int (1 : Int32))] [(.ref b75)])) rfl (hb hby at_160) _ ?_
    show Steps p.tables e below (T101.setTop (mkF m 163 #[.val (.long p0), .second, .val (.long p1), .second, .val (.long p2), .second, .val (.int p3), .val (.long xx), .second, .val (.long yy), .second, .val (.long zz), .second, .val (.ref b75), .val (.long mxx), .second, .val (.long myy), .second, .val (.long mzz), .second, .val (.long (if (if mzz < myy then mzz else myy) < mxx then (if mzz < myy then mzz else myy) else mxx)), .second, .val (.long (if mxx < (if myy < mzz then mzz else myy) then (if myy < mzz then mzz else myy) else mxx)), .second, .val (.long (if (if myy < mxx then myy else mxx) < (if mzz < (if mxx < myy then myy else mxx) then mzz else (if mxx < myy then myy else mxx)) then (if mzz < (if mxx < myy then myy else mxx) then mzz else (if mxx < myy then myy else mxx)) else (if myy < mxx then myy else mxx))), .second, .val (.int (1 : Int32))] [(.double (4629137466983448576 : UInt64)), (.ref b75)])) _
    refine st103.trans ?_
    show Steps p.tables e below (T103.setTop (mkF m 166 #[.val (.long p0), .second, .val (.long p1), .second, .val (.long p2), .second, .val (.int p3), .val (.long xx), .second, .val (.long yy), .second, .val (.long zz), .second, .val (.ref b75), .val (.long mxx), .second, .val (.long myy), .second, .val (.long mzz), .second, .val (.long (if (if mzz < myy then mzz else myy) < mxx then (if mzz < myy then mzz else myy) else mxx)), .second, .val (.long (if mxx < (if myy < mzz then mzz else myy) then (if myy < mzz then mzz else myy) else mxx)), .second, .val (.long (if (if myy < mxx then myy else mxx) < (if mzz < (if mxx < myy then myy else mxx) then mzz else (if mxx < myy then myy else mxx)) then (if mzz < (if mxx < myy then myy else mxx) then mzz else (if mxx < myy then myy else mxx)) else (if myy < mxx then myy else mxx))), .second, .val (.int (1 : Int32))] [(.long r103)])) _
    refine XS.lload X103.here hx rfl (hb hby at_166) rfl ?_
    show Steps p.tables e below (T103.setTop (mkF m 168 #[.val (.long p0), .second, .val (.long p1), .second, .val (.long p2), .second, .val (.int p3), .val (.long xx), .second, .val (.long yy), .second, .val (.long zz), .second, .val (.ref b75), .val (.long mxx), .second, .val (.long myy), .second, .val (.long mzz), .second, .val (.long (if (if mzz < myy then mzz else myy) < mxx then (if mzz < myy then mzz else myy) else mxx)), .second, .val (.long (if mxx < (if myy < mzz then mzz else myy) then (if myy < mzz then mzz else myy) else mxx)), .second, .val (.long (if (if myy < mxx then myy else mxx) < (if mzz < (if mxx < myy then myy else mxx) then mzz else (if mxx < myy then myy else mxx)) then (if mzz < (if mxx < myy then myy else mxx) then mzz else (if mxx < myy then myy else mxx)) else (if myy < mxx then myy else mxx))), .second, .val (.int (1 : Int32))] [(.long (if (if mzz < myy then mzz else myy) < mxx then (if mzz < myy then mzz else myy) else mxx)), (.long r103)])) _
    refine XS.lcmp X103.here hx rfl (hb hby at_168) rfl ?_
    show Steps p.tables e below (T103.setTop (mkF m 169 #[.val (.long p0), .second, .val (.long p1), .second, .val (.long p2), .second, .val (.int p3), .val (.long xx), .second, .val (.long yy), .second, .val (.long zz), .second, .val (.ref b75), .val (.long mxx), .second, .val (.long myy), .second, .val (.long mzz), .second, .val (.long (if (if mzz < myy then mzz else myy) < mxx then (if mzz < myy then mzz else myy) else mxx)), .second, .val (.long (if mxx < (if myy < mzz then mzz else myy) then (if myy < mzz then mzz else myy) else mxx)), .second, .val (.long (if (if myy < mxx then myy else mxx) < (if mzz < (if mxx < myy then myy else mxx) then mzz else (if mxx < myy then myy else mxx)) then (if mzz < (if mxx < myy then myy else mxx) then mzz else (if mxx < myy then myy else mxx)) else (if myy < mxx then myy else mxx))), .second, .val (.int (1 : Int32))] [(.int (lcmpW r103 (if (if mzz < myy then mzz else myy) < mxx then (if mzz < myy then mzz else myy) else mxx)))])) _
    refine XS.ifNo X103.here hx rfl (hb hby at_169) rfl ((if0 _ _).trans (teq ((lw_eq _ _).mpr hq1)).2) ?_
    show Steps p.tables e below (T103.setTop (mkF m 172 #[.val (.long p0), .second, .val (.long p1), .second, .val (.long p2), .second, .val (.int p3), .val (.long xx), .second, .val (.long yy), .second, .val (.long zz), .second, .val (.ref b75), .val (.long mxx), .second, .val (.long myy), .second, .val (.long mzz), .second, .val (.long (if (if mzz < myy then mzz else myy) < mxx then (if mzz < myy then mzz else myy) else mxx)), .second, .val (.long (if mxx < (if myy < mzz then mzz else myy) then (if myy < mzz then mzz else myy) else mxx)), .second, .val (.long (if (if myy < mxx then myy else mxx) < (if mzz < (if mxx < myy then myy else mxx) then mzz else (if mxx < myy then myy else mxx)) then (if mzz < (if mxx < myy then myy else mxx) then mzz else (if mxx < myy then myy else mxx)) else (if myy < mxx then myy else mxx))), .second, .val (.int (1 : Int32))] [])) _
    refine XS.iconst X103.here hx rfl (hb hby at_172) ?_
    show Steps p.tables e below (T103.setTop (mkF m 173 #[.val (.long p0), .second, .val (.long p1), .second, .val (.long p2), .second, .val (.int p3), .val (.long xx), .second, .val (.long yy), .second, .val (.long zz), .second, .val (.ref b75), .val (.long mxx), .second, .val (.long myy), .second, .val (.long mzz), .second, .val (.long (if (if mzz < myy then mzz else myy) < mxx then (if mzz < myy then mzz else myy) else mxx)), .second, .val (.long (if mxx < (if myy < mzz then mzz else myy) then (if myy < mzz then mzz else myy) else mxx)), .second, .val (.long (if (if myy < mxx then myy else mxx) < (if mzz < (if mxx < myy then myy else mxx) then mzz else (if mxx < myy then myy else mxx)) then (if mzz < (if mxx < myy then myy else mxx) then mzz else (if mxx < myy then myy else mxx)) else (if myy < mxx then myy else mxx))), .second, .val (.int (1 : Int32))] [(.int (1 : Int32))])) _
    refine XS.goto X103.here hx rfl (pc0 := 173) (pc' := 177) rfl (hb hby at_173) (by decide) (by decide) ?_
    show Steps p.tables e below (T103.setTop (mkF m 177 #[.val (.long p0), .second, .val (.long p1), .second, .val (.long p2), .second, .val (.int p3), .val (.long xx), .second, .val (.long yy), .second, .val (.long zz), .second, .val (.ref b75), .val (.long mxx), .second, .val (.long myy), .second, .val (.long mzz), .second, .val (.long (if (if mzz < myy then mzz else myy) < mxx then (if mzz < myy then mzz else myy) else mxx)), .second, .val (.long (if mxx < (if myy < mzz then mzz else myy) then (if myy < mzz then mzz else myy) else mxx)), .second, .val (.long (if (if myy < mxx then myy else mxx) < (if mzz < (if mxx < myy then myy else mxx) then mzz else (if mxx < myy then myy else mxx)) then (if mzz < (if mxx < myy then myy else mxx) then mzz else (if mxx < myy then myy else mxx)) else (if myy < mxx then myy else mxx))), .second, .val (.int (1 : Int32))] [(.int (1 : Int32))])) _
    refine XS.istore X103.here hx rfl (hb hby at_177) rfl (l' := #[.val (.long p0), .second, .val (.long p1), .second, .val (.long p2), .second, .val (.int p3), .val (.long xx), .second, .val (.long yy), .second, .val (.long zz), .second, .val (.ref b75), .val (.long mxx), .second, .val (.long myy), .second, .val (.long mzz), .second, .val (.long (if (if mzz < myy then mzz else myy) < mxx then (if mzz < myy then mzz else myy) else mxx)), .second, .val (.long (if mxx < (if myy < mzz then mzz else myy) then (if myy < mzz then mzz else myy) else mxx)), .second, .val (.long (if (if myy < mxx then myy else mxx) < (if mzz < (if mxx < myy then myy else mxx) then mzz else (if mxx < myy then myy else mxx)) then (if mzz < (if mxx < myy then myy else mxx) then mzz else (if mxx < myy then myy else mxx)) else (if myy < mxx then myy else mxx))), .second, .val (.int (1 : Int32))]) rfl ?_
    show Steps p.tables e below (T103.setTop (mkF m 179 #[.val (.long p0), .second, .val (.long p1), .second, .val (.long p2), .second, .val (.int p3), .val (.long xx), .second, .val (.long yy), .second, .val (.long zz), .second, .val (.ref b75), .val (.long mxx), .second, .val (.long myy), .second, .val (.long mzz), .second, .val (.long (if (if mzz < myy then mzz else myy) < mxx then (if mzz < myy then mzz else myy) else mxx)), .second, .val (.long (if mxx < (if myy < mzz then mzz else myy) then (if myy < mzz then mzz else myy) else mxx)), .second, .val (.long (if (if myy < mxx then myy else mxx) < (if mzz < (if mxx < myy then myy else mxx) then mzz else (if mxx < myy then myy else mxx)) then (if mzz < (if mxx < myy then myy else mxx) then mzz else (if mxx < myy then myy else mxx)) else (if myy < mxx then myy else mxx))), .second, .val (.int (1 : Int32))] [])) _
    refine XS.iload X103.here hx rfl (hb hby at_179) rfl ?_
    show Steps p.tables e below (T103.setTop (mkF m 181 #[.val (.long p0), .second, .val (.long p1), .second, .val (.long p2), .second, .val (.int p3), .val (.long xx), .second, .val (.long yy), .second, .val (.long zz), .second, .val (.ref b75), .val (.long mxx), .second, .val (.long myy), .second, .val (.long mzz), .second, .val (.long (if (if mzz < myy then mzz else myy) < mxx then (if mzz < myy then mzz else myy) else mxx)), .second, .val (.long (if mxx < (if myy < mzz then mzz else myy) then (if myy < mzz then mzz else myy) else mxx)), .second, .val (.long (if (if myy < mxx then myy else mxx) < (if mzz < (if mxx < myy then myy else mxx) then mzz else (if mxx < myy then myy else mxx)) then (if mzz < (if mxx < myy then myy else mxx) then mzz else (if mxx < myy then myy else mxx)) else (if myy < mxx then myy else mxx))), .second, .val (.int (1 : Int32))] [(.int (1 : Int32))])) _
    refine XS.ifNo X103.here hx rfl (hb hby at_181) rfl ((if0 _ _).trans (feq (by decide)).1) ?_
    show Steps p.tables e below (T103.setTop (mkF m 184 #[.val (.long p0), .second, .val (.long p1), .second, .val (.long p2), .second, .val (.int p3), .val (.long xx), .second, .val (.long yy), .second, .val (.long zz), .second, .val (.ref b75), .val (.long mxx), .second, .val (.long myy), .second, .val (.long mzz), .second, .val (.long (if (if mzz < myy then mzz else myy) < mxx then (if mzz < myy then mzz else myy) else mxx)), .second, .val (.long (if mxx < (if myy < mzz then mzz else myy) then (if myy < mzz then mzz else myy) else mxx)), .second, .val (.long (if (if myy < mxx then myy else mxx) < (if mzz < (if mxx < myy then myy else mxx) then mzz else (if mxx < myy then myy else mxx)) then (if mzz < (if mxx < myy then myy else mxx) then mzz else (if mxx < myy then myy else mxx)) else (if myy < mxx then myy else mxx))), .second, .val (.int (1 : Int32))] [])) _
    refine XS.aload X103.here hx rfl (hb hby at_184) rfl rfl ?_
    show Steps p.tables e below (T103.setTop (mkF m 186 #[.val (.long p0), .second, .val (.long p1), .second, .val (.long p2), .second, .val (.int p3), .val (.long xx), .second, .val (.long yy), .second, .val (.long zz), .second, .val (.ref b75), .val (.long mxx), .second, .val (.long myy), .second, .val (.long mzz), .second, .val (.long (if (if mzz < myy then mzz else myy) < mxx then (if mzz < myy then mzz else myy) else mxx)), .second, .val (.long (if mxx < (if myy < mzz then mzz else myy) then (if myy < mzz then mzz else myy) else mxx)), .second, .val (.long (if (if myy < mxx then myy else mxx) < (if mzz < (if mxx < myy then myy else mxx) then mzz else (if mxx < myy then myy else mxx)) then (if mzz < (if mxx < myy then myy else mxx) then mzz else (if mxx < myy then myy else mxx)) else (if myy < mxx then myy else mxx))), .second, .val (.int (1 : Int32))] [(.ref b75)])) _
    refine X103.ldc2DoubleC hx hown (mvT hZ (hw _ (List.mem_of_getElem? (i := 85) rfl))) (g := (mkF m 186 #[.val (.long p0), .second, .val (.long p1), .second, .val (.long p2), .second, .val (.int p3), .val (.long xx), .second, .val (.long yy), .second, .val (.long zz), .second, .val (.ref b75), .val (.long mxx), .second, .val (.long myy), .second, .val (.long mzz), .second, .val (.long (if (if mzz < myy then mzz else myy) < mxx then (if mzz < myy then mzz else myy) else mxx)), .second, .val (.long (if mxx < (if myy < mzz then mzz else myy) then (if myy < mzz then mzz else myy) else mxx)), .second, .val (.long (if (if myy < mxx then myy else mxx) < (if mzz < (if mxx < myy then myy else mxx) then mzz else (if mxx < myy then myy else mxx)) then (if mzz < (if mxx < myy then myy else mxx) then mzz else (if mxx < myy then myy else mxx)) else (if myy < mxx then myy else mxx))), .second, .val (.int (1 : Int32))] [(.ref b75)])) rfl (hb hby at_186) _ ?_
    show Steps p.tables e below (T103.setTop (mkF m 189 #[.val (.long p0), .second, .val (.long p1), .second, .val (.long p2), .second, .val (.int p3), .val (.long xx), .second, .val (.long yy), .second, .val (.long zz), .second, .val (.ref b75), .val (.long mxx), .second, .val (.long myy), .second, .val (.long mzz), .second, .val (.long (if (if mzz < myy then mzz else myy) < mxx then (if mzz < myy then mzz else myy) else mxx)), .second, .val (.long (if mxx < (if myy < mzz then mzz else myy) then (if myy < mzz then mzz else myy) else mxx)), .second, .val (.long (if (if myy < mxx then myy else mxx) < (if mzz < (if mxx < myy then myy else mxx) then mzz else (if mxx < myy then myy else mxx)) then (if mzz < (if mxx < myy then myy else mxx) then mzz else (if mxx < myy then myy else mxx)) else (if myy < mxx then myy else mxx))), .second, .val (.int (1 : Int32))] [(.double (4633641066610819072 : UInt64)), (.ref b75)])) _
    refine st104.trans ?_
    show Steps p.tables e below (T104.setTop (mkF m 192 #[.val (.long p0), .second, .val (.long p1), .second, .val (.long p2), .second, .val (.int p3), .val (.long xx), .second, .val (.long yy), .second, .val (.long zz), .second, .val (.ref b75), .val (.long mxx), .second, .val (.long myy), .second, .val (.long mzz), .second, .val (.long (if (if mzz < myy then mzz else myy) < mxx then (if mzz < myy then mzz else myy) else mxx)), .second, .val (.long (if mxx < (if myy < mzz then mzz else myy) then (if myy < mzz then mzz else myy) else mxx)), .second, .val (.long (if (if myy < mxx then myy else mxx) < (if mzz < (if mxx < myy then myy else mxx) then mzz else (if mxx < myy then myy else mxx)) then (if mzz < (if mxx < myy then myy else mxx) then mzz else (if mxx < myy then myy else mxx)) else (if myy < mxx then myy else mxx))), .second, .val (.int (1 : Int32))] [(.long r104)])) _
    refine XS.lload X104.here hx rfl (hb hby at_192) rfl ?_
    show Steps p.tables e below (T104.setTop (mkF m 194 #[.val (.long p0), .second, .val (.long p1), .second, .val (.long p2), .second, .val (.int p3), .val (.long xx), .second, .val (.long yy), .second, .val (.long zz), .second, .val (.ref b75), .val (.long mxx), .second, .val (.long myy), .second, .val (.long mzz), .second, .val (.long (if (if mzz < myy then mzz else myy) < mxx then (if mzz < myy then mzz else myy) else mxx)), .second, .val (.long (if mxx < (if myy < mzz then mzz else myy) then (if myy < mzz then mzz else myy) else mxx)), .second, .val (.long (if (if myy < mxx then myy else mxx) < (if mzz < (if mxx < myy then myy else mxx) then mzz else (if mxx < myy then myy else mxx)) then (if mzz < (if mxx < myy then myy else mxx) then mzz else (if mxx < myy then myy else mxx)) else (if myy < mxx then myy else mxx))), .second, .val (.int (1 : Int32))] [(.long (if (if myy < mxx then myy else mxx) < (if mzz < (if mxx < myy then myy else mxx) then mzz else (if mxx < myy then myy else mxx)) then (if mzz < (if mxx < myy then myy else mxx) then mzz else (if mxx < myy then myy else mxx)) else (if myy < mxx then myy else mxx))), (.long r104)])) _
    refine XS.lcmp X104.here hx rfl (hb hby at_194) rfl ?_
    show Steps p.tables e below (T104.setTop (mkF m 195 #[.val (.long p0), .second, .val (.long p1), .second, .val (.long p2), .second, .val (.int p3), .val (.long xx), .second, .val (.long yy), .second, .val (.long zz), .second, .val (.ref b75), .val (.long mxx), .second, .val (.long myy), .second, .val (.long mzz), .second, .val (.long (if (if mzz < myy then mzz else myy) < mxx then (if mzz < myy then mzz else myy) else mxx)), .second, .val (.long (if mxx < (if myy < mzz then mzz else myy) then (if myy < mzz then mzz else myy) else mxx)), .second, .val (.long (if (if myy < mxx then myy else mxx) < (if mzz < (if mxx < myy then myy else mxx) then mzz else (if mxx < myy then myy else mxx)) then (if mzz < (if mxx < myy then myy else mxx) then mzz else (if mxx < myy then myy else mxx)) else (if myy < mxx then myy else mxx))), .second, .val (.int (1 : Int32))] [(.int (lcmpW r104 (if (if myy < mxx then myy else mxx) < (if mzz < (if mxx < myy then myy else mxx) then mzz else (if mxx < myy then myy else mxx)) then (if mzz < (if mxx < myy then myy else mxx) then mzz else (if mxx < myy then myy else mxx)) else (if myy < mxx then myy else mxx))))])) _
    refine XS.ifNo X104.here hx rfl (hb hby at_195) rfl ((if0 _ _).trans (teq ((lw_eq _ _).mpr hq2)).2) ?_
    show Steps p.tables e below (T104.setTop (mkF m 198 #[.val (.long p0), .second, .val (.long p1), .second, .val (.long p2), .second, .val (.int p3), .val (.long xx), .second, .val (.long yy), .second, .val (.long zz), .second, .val (.ref b75), .val (.long mxx), .second, .val (.long myy), .second, .val (.long mzz), .second, .val (.long (if (if mzz < myy then mzz else myy) < mxx then (if mzz < myy then mzz else myy) else mxx)), .second, .val (.long (if mxx < (if myy < mzz then mzz else myy) then (if myy < mzz then mzz else myy) else mxx)), .second, .val (.long (if (if myy < mxx then myy else mxx) < (if mzz < (if mxx < myy then myy else mxx) then mzz else (if mxx < myy then myy else mxx)) then (if mzz < (if mxx < myy then myy else mxx) then mzz else (if mxx < myy then myy else mxx)) else (if myy < mxx then myy else mxx))), .second, .val (.int (1 : Int32))] [])) _
    refine XS.iconst X104.here hx rfl (hb hby at_198) ?_
    show Steps p.tables e below (T104.setTop (mkF m 199 #[.val (.long p0), .second, .val (.long p1), .second, .val (.long p2), .second, .val (.int p3), .val (.long xx), .second, .val (.long yy), .second, .val (.long zz), .second, .val (.ref b75), .val (.long mxx), .second, .val (.long myy), .second, .val (.long mzz), .second, .val (.long (if (if mzz < myy then mzz else myy) < mxx then (if mzz < myy then mzz else myy) else mxx)), .second, .val (.long (if mxx < (if myy < mzz then mzz else myy) then (if myy < mzz then mzz else myy) else mxx)), .second, .val (.long (if (if myy < mxx then myy else mxx) < (if mzz < (if mxx < myy then myy else mxx) then mzz else (if mxx < myy then myy else mxx)) then (if mzz < (if mxx < myy then myy else mxx) then mzz else (if mxx < myy then myy else mxx)) else (if myy < mxx then myy else mxx))), .second, .val (.int (1 : Int32))] [(.int (1 : Int32))])) _
    refine XS.goto X104.here hx rfl (pc0 := 199) (pc' := 203) rfl (hb hby at_199) (by decide) (by decide) ?_
    show Steps p.tables e below (T104.setTop (mkF m 203 #[.val (.long p0), .second, .val (.long p1), .second, .val (.long p2), .second, .val (.int p3), .val (.long xx), .second, .val (.long yy), .second, .val (.long zz), .second, .val (.ref b75), .val (.long mxx), .second, .val (.long myy), .second, .val (.long mzz), .second, .val (.long (if (if mzz < myy then mzz else myy) < mxx then (if mzz < myy then mzz else myy) else mxx)), .second, .val (.long (if mxx < (if myy < mzz then mzz else myy) then (if myy < mzz then mzz else myy) else mxx)), .second, .val (.long (if (if myy < mxx then myy else mxx) < (if mzz < (if mxx < myy then myy else mxx) then mzz else (if mxx < myy then myy else mxx)) then (if mzz < (if mxx < myy then myy else mxx) then mzz else (if mxx < myy then myy else mxx)) else (if myy < mxx then myy else mxx))), .second, .val (.int (1 : Int32))] [(.int (1 : Int32))])) _
    refine XS.istore X104.here hx rfl (hb hby at_203) rfl (l' := #[.val (.long p0), .second, .val (.long p1), .second, .val (.long p2), .second, .val (.int p3), .val (.long xx), .second, .val (.long yy), .second, .val (.long zz), .second, .val (.ref b75), .val (.long mxx), .second, .val (.long myy), .second, .val (.long mzz), .second, .val (.long (if (if mzz < myy then mzz else myy) < mxx then (if mzz < myy then mzz else myy) else mxx)), .second, .val (.long (if mxx < (if myy < mzz then mzz else myy) then (if myy < mzz then mzz else myy) else mxx)), .second, .val (.long (if (if myy < mxx then myy else mxx) < (if mzz < (if mxx < myy then myy else mxx) then mzz else (if mxx < myy then myy else mxx)) then (if mzz < (if mxx < myy then myy else mxx) then mzz else (if mxx < myy then myy else mxx)) else (if myy < mxx then myy else mxx))), .second, .val (.int (1 : Int32))]) rfl ?_
    show Steps p.tables e below (T104.setTop (mkF m 205 #[.val (.long p0), .second, .val (.long p1), .second, .val (.long p2), .second, .val (.int p3), .val (.long xx), .second, .val (.long yy), .second, .val (.long zz), .second, .val (.ref b75), .val (.long mxx), .second, .val (.long myy), .second, .val (.long mzz), .second, .val (.long (if (if mzz < myy then mzz else myy) < mxx then (if mzz < myy then mzz else myy) else mxx)), .second, .val (.long (if mxx < (if myy < mzz then mzz else myy) then (if myy < mzz then mzz else myy) else mxx)), .second, .val (.long (if (if myy < mxx then myy else mxx) < (if mzz < (if mxx < myy then myy else mxx) then mzz else (if mxx < myy then myy else mxx)) then (if mzz < (if mxx < myy then myy else mxx) then mzz else (if mxx < myy then myy else mxx)) else (if myy < mxx then myy else mxx))), .second, .val (.int (1 : Int32))] [])) _
    refine XS.iload X104.here hx rfl (hb hby at_205) rfl ?_
    show Steps p.tables e below (T104.setTop (mkF m 207 #[.val (.long p0), .second, .val (.long p1), .second, .val (.long p2), .second, .val (.int p3), .val (.long xx), .second, .val (.long yy), .second, .val (.long zz), .second, .val (.ref b75), .val (.long mxx), .second, .val (.long myy), .second, .val (.long mzz), .second, .val (.long (if (if mzz < myy then mzz else myy) < mxx then (if mzz < myy then mzz else myy) else mxx)), .second, .val (.long (if mxx < (if myy < mzz then mzz else myy) then (if myy < mzz then mzz else myy) else mxx)), .second, .val (.long (if (if myy < mxx then myy else mxx) < (if mzz < (if mxx < myy then myy else mxx) then mzz else (if mxx < myy then myy else mxx)) then (if mzz < (if mxx < myy then myy else mxx) then mzz else (if mxx < myy then myy else mxx)) else (if myy < mxx then myy else mxx))), .second, .val (.int (1 : Int32))] [(.int (1 : Int32))])) _
    refine XS.ifNo X104.here hx rfl (hb hby at_207) rfl ((if0 _ _).trans (feq (by decide)).1) ?_
    show Steps p.tables e below (T104.setTop (mkF m 210 #[.val (.long p0), .second, .val (.long p1), .second, .val (.long p2), .second, .val (.int p3), .val (.long xx), .second, .val (.long yy), .second, .val (.long zz), .second, .val (.ref b75), .val (.long mxx), .second, .val (.long myy), .second, .val (.long mzz), .second, .val (.long (if (if mzz < myy then mzz else myy) < mxx then (if mzz < myy then mzz else myy) else mxx)), .second, .val (.long (if mxx < (if myy < mzz then mzz else myy) then (if myy < mzz then mzz else myy) else mxx)), .second, .val (.long (if (if myy < mxx then myy else mxx) < (if mzz < (if mxx < myy then myy else mxx) then mzz else (if mxx < myy then myy else mxx)) then (if mzz < (if mxx < myy then myy else mxx) then mzz else (if mxx < myy then myy else mxx)) else (if myy < mxx then myy else mxx))), .second, .val (.int (1 : Int32))] [])) _
    refine XS.aload X104.here hx rfl (hb hby at_210) rfl rfl ?_
    show Steps p.tables e below (T104.setTop (mkF m 212 #[.val (.long p0), .second, .val (.long p1), .second, .val (.long p2), .second, .val (.int p3), .val (.long xx), .second, .val (.long yy), .second, .val (.long zz), .second, .val (.ref b75), .val (.long mxx), .second, .val (.long myy), .second, .val (.long mzz), .second, .val (.long (if (if mzz < myy then mzz else myy) < mxx then (if mzz < myy then mzz else myy) else mxx)), .second, .val (.long (if mxx < (if myy < mzz then mzz else myy) then (if myy < mzz then mzz else myy) else mxx)), .second, .val (.long (if (if myy < mxx then myy else mxx) < (if mzz < (if mxx < myy then myy else mxx) then mzz else (if mxx < myy then myy else mxx)) then (if mzz < (if mxx < myy then myy else mxx) then mzz else (if mxx < myy then myy else mxx)) else (if myy < mxx then myy else mxx))), .second, .val (.int (1 : Int32))] [(.ref b75)])) _
    refine X104.ldc2DoubleC hx hown (mvT hZ (hw _ (List.mem_of_getElem? (i := 93) rfl))) (g := (mkF m 212 #[.val (.long p0), .second, .val (.long p1), .second, .val (.long p2), .second, .val (.int p3), .val (.long xx), .second, .val (.long yy), .second, .val (.long zz), .second, .val (.ref b75), .val (.long mxx), .second, .val (.long myy), .second, .val (.long mzz), .second, .val (.long (if (if mzz < myy then mzz else myy) < mxx then (if mzz < myy then mzz else myy) else mxx)), .second, .val (.long (if mxx < (if myy < mzz then mzz else myy) then (if myy < mzz then mzz else myy) else mxx)), .second, .val (.long (if (if myy < mxx then myy else mxx) < (if mzz < (if mxx < myy then myy else mxx) then mzz else (if mxx < myy then myy else mxx)) then (if mzz < (if mxx < myy then myy else mxx) then mzz else (if mxx < myy then myy else mxx)) else (if myy < mxx then myy else mxx))), .second, .val (.int (1 : Int32))] [(.ref b75)])) rfl (hb hby at_212) _ ?_
    show Steps p.tables e below (T104.setTop (mkF m 215 #[.val (.long p0), .second, .val (.long p1), .second, .val (.long p2), .second, .val (.int p3), .val (.long xx), .second, .val (.long yy), .second, .val (.long zz), .second, .val (.ref b75), .val (.long mxx), .second, .val (.long myy), .second, .val (.long mzz), .second, .val (.long (if (if mzz < myy then mzz else myy) < mxx then (if mzz < myy then mzz else myy) else mxx)), .second, .val (.long (if mxx < (if myy < mzz then mzz else myy) then (if myy < mzz then mzz else myy) else mxx)), .second, .val (.long (if (if myy < mxx then myy else mxx) < (if mzz < (if mxx < myy then myy else mxx) then mzz else (if mxx < myy then myy else mxx)) then (if mzz < (if mxx < myy then myy else mxx) then mzz else (if mxx < myy then myy else mxx)) else (if myy < mxx then myy else mxx))), .second, .val (.int (1 : Int32))] [(.double (4636737291354636288 : UInt64)), (.ref b75)])) _
    refine st105.trans ?_
    show Steps p.tables e below (T105.setTop (mkF m 218 #[.val (.long p0), .second, .val (.long p1), .second, .val (.long p2), .second, .val (.int p3), .val (.long xx), .second, .val (.long yy), .second, .val (.long zz), .second, .val (.ref b75), .val (.long mxx), .second, .val (.long myy), .second, .val (.long mzz), .second, .val (.long (if (if mzz < myy then mzz else myy) < mxx then (if mzz < myy then mzz else myy) else mxx)), .second, .val (.long (if mxx < (if myy < mzz then mzz else myy) then (if myy < mzz then mzz else myy) else mxx)), .second, .val (.long (if (if myy < mxx then myy else mxx) < (if mzz < (if mxx < myy then myy else mxx) then mzz else (if mxx < myy then myy else mxx)) then (if mzz < (if mxx < myy then myy else mxx) then mzz else (if mxx < myy then myy else mxx)) else (if myy < mxx then myy else mxx))), .second, .val (.int (1 : Int32))] [(.long r105)])) _
    refine XS.lload X105.here hx rfl (hb hby at_218) rfl ?_
    show Steps p.tables e below (T105.setTop (mkF m 220 #[.val (.long p0), .second, .val (.long p1), .second, .val (.long p2), .second, .val (.int p3), .val (.long xx), .second, .val (.long yy), .second, .val (.long zz), .second, .val (.ref b75), .val (.long mxx), .second, .val (.long myy), .second, .val (.long mzz), .second, .val (.long (if (if mzz < myy then mzz else myy) < mxx then (if mzz < myy then mzz else myy) else mxx)), .second, .val (.long (if mxx < (if myy < mzz then mzz else myy) then (if myy < mzz then mzz else myy) else mxx)), .second, .val (.long (if (if myy < mxx then myy else mxx) < (if mzz < (if mxx < myy then myy else mxx) then mzz else (if mxx < myy then myy else mxx)) then (if mzz < (if mxx < myy then myy else mxx) then mzz else (if mxx < myy then myy else mxx)) else (if myy < mxx then myy else mxx))), .second, .val (.int (1 : Int32))] [(.long (if mxx < (if myy < mzz then mzz else myy) then (if myy < mzz then mzz else myy) else mxx)), (.long r105)])) _
    refine XS.lcmp X105.here hx rfl (hb hby at_220) rfl ?_
    show Steps p.tables e below (T105.setTop (mkF m 221 #[.val (.long p0), .second, .val (.long p1), .second, .val (.long p2), .second, .val (.int p3), .val (.long xx), .second, .val (.long yy), .second, .val (.long zz), .second, .val (.ref b75), .val (.long mxx), .second, .val (.long myy), .second, .val (.long mzz), .second, .val (.long (if (if mzz < myy then mzz else myy) < mxx then (if mzz < myy then mzz else myy) else mxx)), .second, .val (.long (if mxx < (if myy < mzz then mzz else myy) then (if myy < mzz then mzz else myy) else mxx)), .second, .val (.long (if (if myy < mxx then myy else mxx) < (if mzz < (if mxx < myy then myy else mxx) then mzz else (if mxx < myy then myy else mxx)) then (if mzz < (if mxx < myy then myy else mxx) then mzz else (if mxx < myy then myy else mxx)) else (if myy < mxx then myy else mxx))), .second, .val (.int (1 : Int32))] [(.int (lcmpW r105 (if mxx < (if myy < mzz then mzz else myy) then (if myy < mzz then mzz else myy) else mxx)))])) _
    refine XS.ifNo X105.here hx rfl (hb hby at_221) rfl ((if0 _ _).trans (teq ((lw_eq _ _).mpr hq3)).2) ?_
    show Steps p.tables e below (T105.setTop (mkF m 224 #[.val (.long p0), .second, .val (.long p1), .second, .val (.long p2), .second, .val (.int p3), .val (.long xx), .second, .val (.long yy), .second, .val (.long zz), .second, .val (.ref b75), .val (.long mxx), .second, .val (.long myy), .second, .val (.long mzz), .second, .val (.long (if (if mzz < myy then mzz else myy) < mxx then (if mzz < myy then mzz else myy) else mxx)), .second, .val (.long (if mxx < (if myy < mzz then mzz else myy) then (if myy < mzz then mzz else myy) else mxx)), .second, .val (.long (if (if myy < mxx then myy else mxx) < (if mzz < (if mxx < myy then myy else mxx) then mzz else (if mxx < myy then myy else mxx)) then (if mzz < (if mxx < myy then myy else mxx) then mzz else (if mxx < myy then myy else mxx)) else (if myy < mxx then myy else mxx))), .second, .val (.int (1 : Int32))] [])) _
    refine XS.iconst X105.here hx rfl (hb hby at_224) ?_
    show Steps p.tables e below (T105.setTop (mkF m 225 #[.val (.long p0), .second, .val (.long p1), .second, .val (.long p2), .second, .val (.int p3), .val (.long xx), .second, .val (.long yy), .second, .val (.long zz), .second, .val (.ref b75), .val (.long mxx), .second, .val (.long myy), .second, .val (.long mzz), .second, .val (.long (if (if mzz < myy then mzz else myy) < mxx then (if mzz < myy then mzz else myy) else mxx)), .second, .val (.long (if mxx < (if myy < mzz then mzz else myy) then (if myy < mzz then mzz else myy) else mxx)), .second, .val (.long (if (if myy < mxx then myy else mxx) < (if mzz < (if mxx < myy then myy else mxx) then mzz else (if mxx < myy then myy else mxx)) then (if mzz < (if mxx < myy then myy else mxx) then mzz else (if mxx < myy then myy else mxx)) else (if myy < mxx then myy else mxx))), .second, .val (.int (1 : Int32))] [(.int (1 : Int32))])) _
    refine XS.goto X105.here hx rfl (pc0 := 225) (pc' := 229) rfl (hb hby at_225) (by decide) (by decide) ?_
    show Steps p.tables e below (T105.setTop (mkF m 229 #[.val (.long p0), .second, .val (.long p1), .second, .val (.long p2), .second, .val (.int p3), .val (.long xx), .second, .val (.long yy), .second, .val (.long zz), .second, .val (.ref b75), .val (.long mxx), .second, .val (.long myy), .second, .val (.long mzz), .second, .val (.long (if (if mzz < myy then mzz else myy) < mxx then (if mzz < myy then mzz else myy) else mxx)), .second, .val (.long (if mxx < (if myy < mzz then mzz else myy) then (if myy < mzz then mzz else myy) else mxx)), .second, .val (.long (if (if myy < mxx then myy else mxx) < (if mzz < (if mxx < myy then myy else mxx) then mzz else (if mxx < myy then myy else mxx)) then (if mzz < (if mxx < myy then myy else mxx) then mzz else (if mxx < myy then myy else mxx)) else (if myy < mxx then myy else mxx))), .second, .val (.int (1 : Int32))] [(.int (1 : Int32))])) _
    refine XS.istore X105.here hx rfl (hb hby at_229) rfl (l' := #[.val (.long p0), .second, .val (.long p1), .second, .val (.long p2), .second, .val (.int p3), .val (.long xx), .second, .val (.long yy), .second, .val (.long zz), .second, .val (.ref b75), .val (.long mxx), .second, .val (.long myy), .second, .val (.long mzz), .second, .val (.long (if (if mzz < myy then mzz else myy) < mxx then (if mzz < myy then mzz else myy) else mxx)), .second, .val (.long (if mxx < (if myy < mzz then mzz else myy) then (if myy < mzz then mzz else myy) else mxx)), .second, .val (.long (if (if myy < mxx then myy else mxx) < (if mzz < (if mxx < myy then myy else mxx) then mzz else (if mxx < myy then myy else mxx)) then (if mzz < (if mxx < myy then myy else mxx) then mzz else (if mxx < myy then myy else mxx)) else (if myy < mxx then myy else mxx))), .second, .val (.int (1 : Int32))]) rfl ?_
    show Steps p.tables e below (T105.setTop (mkF m 231 #[.val (.long p0), .second, .val (.long p1), .second, .val (.long p2), .second, .val (.int p3), .val (.long xx), .second, .val (.long yy), .second, .val (.long zz), .second, .val (.ref b75), .val (.long mxx), .second, .val (.long myy), .second, .val (.long mzz), .second, .val (.long (if (if mzz < myy then mzz else myy) < mxx then (if mzz < myy then mzz else myy) else mxx)), .second, .val (.long (if mxx < (if myy < mzz then mzz else myy) then (if myy < mzz then mzz else myy) else mxx)), .second, .val (.long (if (if myy < mxx then myy else mxx) < (if mzz < (if mxx < myy then myy else mxx) then mzz else (if mxx < myy then myy else mxx)) then (if mzz < (if mxx < myy then myy else mxx) then mzz else (if mxx < myy then myy else mxx)) else (if myy < mxx then myy else mxx))), .second, .val (.int (1 : Int32))] [])) _
    refine XS.iload X105.here hx rfl (hb hby at_231) rfl ?_
    show Steps p.tables e below (T105.setTop (mkF m 233 #[.val (.long p0), .second, .val (.long p1), .second, .val (.long p2), .second, .val (.int p3), .val (.long xx), .second, .val (.long yy), .second, .val (.long zz), .second, .val (.ref b75), .val (.long mxx), .second, .val (.long myy), .second, .val (.long mzz), .second, .val (.long (if (if mzz < myy then mzz else myy) < mxx then (if mzz < myy then mzz else myy) else mxx)), .second, .val (.long (if mxx < (if myy < mzz then mzz else myy) then (if myy < mzz then mzz else myy) else mxx)), .second, .val (.long (if (if myy < mxx then myy else mxx) < (if mzz < (if mxx < myy then myy else mxx) then mzz else (if mxx < myy then myy else mxx)) then (if mzz < (if mxx < myy then myy else mxx) then mzz else (if mxx < myy then myy else mxx)) else (if myy < mxx then myy else mxx))), .second, .val (.int (1 : Int32))] [(.int (1 : Int32))])) _
    exact retN X105 hx (t := .boolean) hret0 (by simp) (hb hby at_233) hr
  · show Q0 n0 _ T105.heap _
    rw [eh105]
    exact ⟨rfl, N105⟩
set_option maxRecDepth 65536 in
set_option maxHeartbeats 40000000 in
theorem comes_1 {Post : Tables → Env → Array Value → State → Outcome → State → Prop} (hpost : ∀ tb e args s v u, (limb_1_1.after args s (.returned v) u = true ∧ limb_1_2.after args s (.returned v) u = true ∧ True) → FrameEnd s (.returned v) u (Jvm.fieldLocs frame_1_writes args s ++ Jvm.arrayLocs frame_1_arrays args s ++ Jvm.staticLocs frame_1_statics s) 16 14720 → Post tb e args s (.returned v) u) :
    ArmFor flags0 classFile x code maxLocals ret World_1 tables_1 room_1 Calls_1 rest_1 Pre_1 Post := by
  intro l hfl _ _ p e ha hc hk s m args below hf hA hF happ hP
  obtain ⟨hcalls, hrest, hpre⟩ := hP
  obtain ⟨-, -, -, hnamed, -, -, -, hat⟩ := (Spec.applies_iff hf).mp happ
  obtain ⟨hg, hn⟩ := and_e (Cond.before_iff.mp (show (Jvm.Cond.and given_1 narrow_1).before args s = true from hpre))
  obtain ⟨g0, r0⟩ := and_e hg
  obtain ⟨g1, r1⟩ := and_e r0
  obtain ⟨g2, r2⟩ := and_e r1
  obtain ⟨g3, r3⟩ := and_e r2
  obtain ⟨w0, w1, w2, w3, rfl⟩ : ∃ w0 w1 w2 w3 : Value, args = #[w0, w1, w2, w3] := by
    have hs : args.size = 4 := by simpa [Cond.value, given_1] using g0
    obtain ⟨L⟩ := args
    match L, hs with
    | [w0, w1, w2, w3], _ => exact ⟨w0, w1, w2, w3, rfl⟩
  have hw := fun d (hd : d ∈ tables_1) => atoms_spec (ws := Jvm.Cond.code x code maxLocals ret :: tables_1) hat d (List.mem_cons_of_mem _ hd)
  have hfit : Fit s := fun {y c} hc i hi => by
    obtain ⟨ha, rfl⟩ := Array.getElem?_eq_some_iff.mp hc
    have q := List.all_eq_true.mp ((Array.all_eq_true_iff_forall_mem.mp hF) _ (Array.getElem_mem ha)) i (List.mem_range.mpr hi)
    simpa [Array.getElem?_eq_getElem hi] using q
  obtain ⟨hsets, hown0⟩ := atoms_of _ (rest_1_c_eq ▸ (show rest_1_c.before _ s = true from hrest))
  have hr0 := Cond.before_iff.mp hown0
  obtain ⟨i0, ei0⟩ := isL_v g1
  obtain rfl : w0 = (.long i0) := Option.some.inj ei0
  obtain ⟨i1, ei1⟩ := isL_v g2
  obtain rfl : w1 = (.long i1) := Option.some.inj ei1
  obtain ⟨i2, ei2⟩ := isL_v g3
  obtain rfl : w2 = (.long i2) := Option.some.inj ei2
  obtain ⟨i3, ei3⟩ := is_v r3
  obtain rfl : w3 = (.int i3) := Option.some.inj ei3
  have O7 : Sta s s.heap "java/lang/StrictMath" "$assertionsDisabled" "Z" (.int (1 : Int32)) := Sta.start (eqv_i (Term.int_eval 1) (Cond.before_iff.mp (hsets _ (List.mem_of_getElem? (i := 2) rfl)))) (Or.inl (hsets _ (List.mem_of_getElem? (i := 1) rfl)))
  obtain ⟨n, o, h1, h2, h3, _, L, rfl, ⟨rfl, N⟩, hq⟩ := rm0 l s _ hw tables_1 i0 i1 i2 i3 s.heap s.heap.size (Nat.le_refl _) O7 (Old.start s) p e ha hc hk s m _ below hf ((Spec.applies_iff_loose hf).mp happ).1 ⟨rfl, State.Warmed39.refl s, rfl⟩ trivial
  refine ⟨n, _, h1, h2, h3, hpost _ _ _ _ _ _ ⟨Cond.after_iff.mpr rfl, Cond.after_iff.mpr (eq_i res_at (Term.int_eval (1)) rfl), trivial⟩ ⟨hq.1, hq.2.1, (hq.2.2.sift fun y hy => Or.inr (N y hy)).mono (by decide) (by decide)⟩⟩
theorem main_1_1 : Claimed_1_1 := comes_1 fun _ _ _ _ _ _ h hF => ⟨h.1, hF⟩
theorem main_1_2 : Claimed_1_2 := comes_1 fun _ _ _ _ _ _ h hF => ⟨h.2.1, hF⟩
end Jvm.Pilot.@@N@@
namespace Jvm.Pilot.@@N@@
open Jvm Jvm.ClassFile Sem Op Lib Jvm.Free Jvm.Stand Jvm.Pilot.@@N@@.Jvm.D
/-! MADE BY PROGRAM (witnessworld.py) out of the Statement's table words and the real class files: 20 classes; the members and pool entries that the words name. The judged class is class 1, her method 3. -/
namespace start1
open Jvm.ClassFile
def u (s : String) : CpInfo := .utf8 (stringToUtf16 s)
/-- a pool by its gaps: so many unusable entries, then the entry; so many at the end -/
def gap : Nat → List CpInfo → List CpInfo
  | 0, r => r
  | n + 1, r => .unusable :: gap n r
def poolList (es : List (Nat × CpInfo)) (last : Nat) : List CpInfo := es.foldr (fun e r => gap e.1 (e.2 :: r)) (gap last [])
def pool (es : List (Nat × CpInfo)) (last : Nat) : Array CpInfo := ⟨poolList es last⟩
def fileOf (pool : Array CpInfo) (this : Nat) (attrs : Array Attribute := #[]) (ms : Array MethodInfo := #[]) (fl : Nat := 33) (sup : Nat := 0) (ifs : Array Nat := #[]) (fds : Array FieldInfo := #[]) : ClassFile where
  minorVersion := 0
  majorVersion := 65
  constantPool := pool
  accessFlags := fl
  thisClass := this
  superClass := sup
  interfaces := ifs
  fields := fds
  methods := ms
  attributes := attrs
def plain (name : String) (sup : Option ClassId) : Class where
  name := name
  kind := .ordinary
  loader := none
  accessFlags := 33
  super := sup
  interfaces := #[]
  cf := none
  fields := #[]
  methods := #[]
  instanceTypes := #[]
  staticTypes := #[]
  resolved := #[]
  callSites := []
  init := .initialized
  statics := none
  mirror := none

def pool0 : Array CpInfo := pool [(5, u "<init>"), (0, u "()V"), (1, .class_ 10), (1, u "java/lang/Object")] 113

def k0c0 : Code := { maxStack := 0, maxLocals := 1, code := object_method_1_code, exceptionTable := #[], attributes := #[] }
def k0m0 : Method := { name := "<init>", desc := "()V", sig := { parameters := [], returnType := none }, accessFlags := 1, code := some k0c0 }
/-- java/lang/Object -/
def k0 : Class := { plain "java/lang/Object" none with
  accessFlags := 33
  interfaces := #[]
  cf := some (fileOf pool0 8 #[] #[{ accessFlags := 1, nameIndex := 5, descriptorIndex := 6, attributes := #[] }] 33 0 #[] #[])
  fields := #[]
  methods := #[k0m0]
  instanceTypes := #[]
  staticTypes := #[]
  resolved := Array.replicate 124 none
  statics := none }

def pool1 : Array CpInfo := pool [(2, .class_ 4), (0, .nameAndType 5 6), (0, u "java/lang/Object"), (0, u "<init>"), (0, u "()V"), (2, .long 9223372036854775807), (1, .long 256), (1, .methodref 14 15), (0, .class_ 16), (0, .nameAndType 17 18), (0, u "com/example/resplice/resplice/LatencyHistogramRecordPinLaw"), (0, u "val"), (0, u "(JI)J"), (0, .class_ 20), (0, u "com/example/resplice/resplice/LatencyHistogram"), (0, .methodref 19 3), (0, .methodref 19 23), (0, .nameAndType 24 25), (0, u "record"), (0, u "(J)V"), (0, .methodref 14 27), (0, .nameAndType 28 29), (0, u "mid"), (0, u "(J)J"), (0, .methodref 31 32), (0, .class_ 33), (0, .nameAndType 34 35), (0, u "java/lang/Math"), (0, u "min"), (0, u "(JJ)J"), (0, .methodref 31 37), (0, .nameAndType 38 35), (0, u "max"), (0, .methodref 19 40), (0, .nameAndType 41 42), (0, u "count"), (0, u "()J"), (0, .long 3), (1, .double 4629137466983448576), (1, .methodref 19 48), (0, .nameAndType 49 50), (0, u "percentile"), (0, u "(D)J"), (0, .double 4633641066610819072), (1, .double 4636737291354636288), (4, u "law"), (0, u "(JJJI)Z")] 2

def k1m0 : Method := { name := "<init>", desc := "()V", sig := { parameters := [], returnType := none }, accessFlags := 1, code := none }
def k1c1 : Code := { maxStack := 4, maxLocals := 3, code := method_2_code, exceptionTable := #[], attributes := #[] }
def k1m1 : Method := { name := "val", desc := "(JI)J", sig := { parameters := [.long, .int], returnType := some .long }, accessFlags := 10, code := some k1c1 }
def k1c2 : Code := { maxStack := 5, maxLocals := 8, code := method_3_code, exceptionTable := #[], attributes := #[] }
def k1m2 : Method := { name := "mid", desc := "(J)J", sig := { parameters := [.long], returnType := some .long }, accessFlags := 10, code := some k1c2 }
def k1c3 : Code := { maxStack := 6, maxLocals := 27, code := code, exceptionTable := #[], attributes := #[] }
def k1m3 : Method := { name := "law", desc := "(JJJI)Z", sig := { parameters := [.long, .long, .long, .int], returnType := some .boolean }, accessFlags := 9, code := some k1c3 }
/-- com/example/resplice/resplice/LatencyHistogramRecordPinLaw -/
def k1 : Class := { plain "com/example/resplice/resplice/LatencyHistogramRecordPinLaw" (some 0) with
  accessFlags := 49
  interfaces := #[]
  cf := some (fileOf pool1 14 #[] #[{ accessFlags := 1, nameIndex := 5, descriptorIndex := 6, attributes := #[] }, { accessFlags := 10, nameIndex := 17, descriptorIndex := 18, attributes := #[] }, { accessFlags := 10, nameIndex := 28, descriptorIndex := 29, attributes := #[] }, { accessFlags := 9, nameIndex := 58, descriptorIndex := 59, attributes := #[] }] 49 2 #[] #[])
  fields := #[]
  methods := #[k1m0, k1m1, k1m2, k1m3]
  instanceTypes := #[]
  staticTypes := #[]
  resolved := Array.replicate 62 none
  statics := none }

def pool2 : Array CpInfo := pool [(1, .class_ 2), (0, u "com/example/resplice/resplice/LatencyHistogram"), (0, .methodref 4 5), (0, .class_ 6), (0, .nameAndType 7 8), (0, u "java/lang/Object"), (0, u "<init>"), (0, u "()V"), (0, .class_ 10), (0, u "java/lang/Long"), (0, .long 9223372036854775807), (1, .methodref 1 14), (0, .nameAndType 15 16), (0, u "bucket"), (0, u "(J)I"), (0, .fieldref 1 18), (0, .nameAndType 19 20), (0, u "counts"), (0, u "[J"), (0, .fieldref 1 22), (0, .nameAndType 23 24), (0, u "total"), (0, u "J"), (0, .double 4636737291354636288), (1, .methodref 28 29), (0, .class_ 30), (0, .nameAndType 31 32), (0, u "java/lang/Math"), (0, u "ceil"), (0, u "(D)D"), (0, .methodref 1 34), (0, .nameAndType 35 36), (0, u "middle"), (0, u "(I)J"), (0, .long 256), (1, .methodref 9 40), (0, .nameAndType 41 16), (0, u "numberOfLeadingZeros"), (0, .long 2), (1, u "KEPT_BITS"), (0, u "I"), (2, u "BUCKETS_PER_POWER"), (1, u "EXACT"), (3, u "record"), (0, u "(J)V"), (0, u "count"), (0, u "()J"), (0, u "percentile"), (0, u "(D)J")] 3

def k2c0 : Code := { maxStack := 3, maxLocals := 1, code := prog_10_method_1_code, exceptionTable := #[], attributes := #[] }
def k2m0 : Method := { name := "<init>", desc := "()V", sig := { parameters := [], returnType := none }, accessFlags := 0, code := some k2c0 }
def k2c1 : Code := { maxStack := 6, maxLocals := 3, code := prog_10_method_2_code, exceptionTable := #[], attributes := #[] }
def k2m1 : Method := { name := "record", desc := "(J)V", sig := { parameters := [.long], returnType := none }, accessFlags := 0, code := some k2c1 }
def k2c2 : Code := { maxStack := 2, maxLocals := 1, code := prog_10_method_3_code, exceptionTable := #[], attributes := #[] }
def k2m2 : Method := { name := "count", desc := "()J", sig := { parameters := [], returnType := some .long }, accessFlags := 0, code := some k2c2 }
def k2c3 : Code := { maxStack := 4, maxLocals := 8, code := prog_10_method_4_code, exceptionTable := #[], attributes := #[] }
def k2m3 : Method := { name := "percentile", desc := "(D)J", sig := { parameters := [.double], returnType := some .long }, accessFlags := 0, code := some k2c3 }
def k2c4 : Code := { maxStack := 4, maxLocals := 3, code := prog_10_method_5_code, exceptionTable := #[], attributes := #[] }
def k2m4 : Method := { name := "bucket", desc := "(J)I", sig := { parameters := [.long], returnType := some .int }, accessFlags := 10, code := some k2c4 }
def k2c5 : Code := { maxStack := 6, maxLocals := 4, code := prog_10_method_6_code, exceptionTable := #[], attributes := #[] }
def k2m5 : Method := { name := "middle", desc := "(I)J", sig := { parameters := [.int], returnType := some .long }, accessFlags := 10, code := some k2c5 }
/-- com/example/resplice/resplice/LatencyHistogram -/
def k2 : Class := { plain "com/example/resplice/resplice/LatencyHistogram" (some 0) with
  accessFlags := 48
  interfaces := #[]
  cf := some (fileOf pool2 1 #[] #[{ accessFlags := 0, nameIndex := 7, descriptorIndex := 8, attributes := #[] }, { accessFlags := 0, nameIndex := 54, descriptorIndex := 55, attributes := #[] }, { accessFlags := 0, nameIndex := 56, descriptorIndex := 57, attributes := #[] }, { accessFlags := 0, nameIndex := 58, descriptorIndex := 59, attributes := #[] }, { accessFlags := 10, nameIndex := 15, descriptorIndex := 16, attributes := #[] }, { accessFlags := 10, nameIndex := 35, descriptorIndex := 36, attributes := #[] }] 48 4 #[] #[{ accessFlags := 26, nameIndex := 44, descriptorIndex := 45, attributes := #[] }, { accessFlags := 26, nameIndex := 48, descriptorIndex := 45, attributes := #[] }, { accessFlags := 26, nameIndex := 50, descriptorIndex := 45, attributes := #[] }, { accessFlags := 18, nameIndex := 19, descriptorIndex := 20, attributes := #[] }, { accessFlags := 2, nameIndex := 23, descriptorIndex := 24, attributes := #[] }])
  fields := #[{ name := "KEPT_BITS", type := .int, accessFlags := 26, slot := 0, constantValue := 0 }, { name := "BUCKETS_PER_POWER", type := .int, accessFlags := 26, slot := 1, constantValue := 0 }, { name := "EXACT", type := .int, accessFlags := 26, slot := 2, constantValue := 0 }, { name := "counts", type := (.array .long), accessFlags := 18, slot := 0, constantValue := 0 }, { name := "total", type := .long, accessFlags := 2, slot := 1, constantValue := 0 }]
  methods := #[k2m0, k2m1, k2m2, k2m3, k2m4, k2m5]
  instanceTypes := #[(.array .long), .long]
  staticTypes := #[.int, .int, .int]
  resolved := Array.replicate 63 none
  statics := none }

def pool3 : Array CpInfo := pool [(1, .class_ 2), (0, u "java/io/Serializable"), (0, .class_ 4), (0, u "java/lang/Object")] 2

/-- java/io/Serializable -/
def k3 : Class := { plain "java/io/Serializable" (some 0) with
  accessFlags := 1537
  interfaces := #[]
  cf := some (fileOf pool3 1 #[] #[] 1537 3 #[] #[])
  fields := #[]
  methods := #[]
  instanceTypes := #[]
  staticTypes := #[]
  resolved := Array.replicate 7 none
  statics := none }

def pool4 : Array CpInfo := pool [(2, .class_ 4), (1, u "java/lang/Object"), (0, u "<init>"), (0, u "()V"), (1, .class_ 10), (1, u "java/lang/Number"), (2, .class_ 14), (0, u "java/io/Serializable"), (0, u "serialVersionUID"), (0, u "J")] 20

def k4m0 : Method := { name := "<init>", desc := "()V", sig := { parameters := [], returnType := none }, accessFlags := 1, code := none }
/-- java/lang/Number -/
def k4 : Class := { plain "java/lang/Number" (some 0) with
  accessFlags := 1057
  interfaces := #[3]
  cf := some (fileOf pool4 8 #[] #[{ accessFlags := 1, nameIndex := 5, descriptorIndex := 6, attributes := #[] }] 1057 2 #[13] #[{ accessFlags := 26, nameIndex := 15, descriptorIndex := 16, attributes := #[] }])
  fields := #[{ name := "serialVersionUID", type := .long, accessFlags := 26, slot := 0, constantValue := 0 }]
  methods := #[k4m0]
  instanceTypes := #[]
  staticTypes := #[.long]
  resolved := Array.replicate 37 none
  statics := none }

def pool5 : Array CpInfo := pool [(1, .class_ 2), (0, u "java/lang/Comparable"), (0, .class_ 4), (0, u "java/lang/Object")] 7

/-- java/lang/Comparable -/
def k5 : Class := { plain "java/lang/Comparable" (some 0) with
  accessFlags := 1537
  interfaces := #[]
  cf := some (fileOf pool5 1 #[] #[] 1537 3 #[] #[])
  fields := #[]
  methods := #[]
  instanceTypes := #[]
  staticTypes := #[]
  resolved := Array.replicate 12 none
  statics := none }

def pool6 : Array CpInfo := pool [(1, .class_ 2), (0, u "java/lang/constant/Constable"), (0, .class_ 4), (0, u "java/lang/Object")] 6

/-- java/lang/constant/Constable -/
def k6 : Class := { plain "java/lang/constant/Constable" (some 0) with
  accessFlags := 1537
  interfaces := #[]
  cf := some (fileOf pool6 1 #[] #[] 1537 3 #[] #[])
  fields := #[]
  methods := #[]
  instanceTypes := #[]
  staticTypes := #[]
  resolved := Array.replicate 11 none
  statics := none }

def pool7 : Array CpInfo := pool [(1, .class_ 2), (0, u "java/lang/constant/ConstantDesc"), (0, .class_ 4), (0, u "java/lang/Object")] 32

/-- java/lang/constant/ConstantDesc -/
def k7 : Class := { plain "java/lang/constant/ConstantDesc" (some 0) with
  accessFlags := 1537
  interfaces := #[]
  cf := some (fileOf pool7 1 #[] #[] 1537 3 #[] #[])
  fields := #[]
  methods := #[]
  instanceTypes := #[]
  staticTypes := #[]
  resolved := Array.replicate 37 none
  statics := none }

def pool8 : Array CpInfo := pool [(1, .class_ 2), (0, u "java/lang/Long"), (15, .class_ 20), (1, u "java/lang/Integer"), (79, u "numberOfLeadingZeros"), (0, u "(J)I"), (133, .class_ 237), (1, u "java/lang/Long$LongCache"), (33, .class_ 272), (0, u "java/lang/Number"), (2, u "value"), (0, u "J"), (31, .methodref 18 309), (0, .nameAndType 100 310), (0, u "(I)I"), (50, u "TYPE"), (0, u "Ljava/lang/Class;"), (0, .class_ 364), (0, u "java/lang/Comparable"), (0, .class_ 366), (0, u "java/lang/constant/Constable"), (0, .class_ 368), (0, u "java/lang/constant/ConstantDesc"), (0, u "MIN_VALUE"), (1, u "MAX_VALUE"), (4, u "SIZE"), (0, u "I"), (1, u "BYTES"), (1, u "serialVersionUID")] 142

def k8c0 : Code := { maxStack := 3, maxLocals := 3, code := jdk_35_method_48_code, exceptionTable := #[], attributes := #[] }
def k8m0 : Method := { name := "numberOfLeadingZeros", desc := "(J)I", sig := { parameters := [.long], returnType := some .int }, accessFlags := 9, code := some k8c0 }
/-- java/lang/Long -/
def k8 : Class := { plain "java/lang/Long" (some 4) with
  accessFlags := 49
  interfaces := #[5, 6, 7]
  cf := some (fileOf pool8 1 #[.nestMembers #[235]] #[{ accessFlags := 9, nameIndex := 100, descriptorIndex := 101, attributes := #[] }] 49 271 #[363, 365, 367] #[{ accessFlags := 25, nameIndex := 369, descriptorIndex := 276, attributes := #[] }, { accessFlags := 25, nameIndex := 371, descriptorIndex := 276, attributes := #[] }, { accessFlags := 25, nameIndex := 361, descriptorIndex := 362, attributes := #[] }, { accessFlags := 18, nameIndex := 275, descriptorIndex := 276, attributes := #[] }, { accessFlags := 25, nameIndex := 376, descriptorIndex := 377, attributes := #[] }, { accessFlags := 25, nameIndex := 379, descriptorIndex := 377, attributes := #[] }, { accessFlags := 26, nameIndex := 381, descriptorIndex := 276, attributes := #[] }])
  fields := #[{ name := "MIN_VALUE", type := .long, accessFlags := 25, slot := 0, constantValue := 0 }, { name := "MAX_VALUE", type := .long, accessFlags := 25, slot := 1, constantValue := 0 }, { name := "TYPE", type := (.object "java/lang/Class"), accessFlags := 25, slot := 2, constantValue := 0 }, { name := "value", type := .long, accessFlags := 18, slot := 0, constantValue := 0 }, { name := "SIZE", type := .int, accessFlags := 25, slot := 3, constantValue := 0 }, { name := "BYTES", type := .int, accessFlags := 25, slot := 4, constantValue := 0 }, { name := "serialVersionUID", type := .long, accessFlags := 26, slot := 5, constantValue := 0 }]
  methods := #[k8m0]
  instanceTypes := #[.long]
  staticTypes := #[.long, .long, (.object "java/lang/Class"), .int, .int, .long]
  resolved := Array.replicate 524 none
  statics := none }

def pool9 : Array CpInfo := pool [(1, .class_ 2), (0, u "java/lang/Integer"), (16, u "digits"), (0, u "[C"), (32, u "numberOfLeadingZeros"), (0, u "(I)I"), (30, u "DigitOnes"), (0, u "[B"), (2, u "DigitTens"), (99, .class_ 190), (0, u "java/lang/Integer$IntegerCache"), (3, u "I"), (8, .class_ 204), (0, u "java/lang/Number"), (2, u "value"), (56, .integer 65536), (37, u "TYPE"), (0, u "Ljava/lang/Class;"), (0, .class_ 305), (0, u "java/lang/Comparable"), (0, .class_ 307), (0, u "java/lang/constant/Constable"), (0, .class_ 309), (0, u "java/lang/constant/ConstantDesc"), (0, u "MIN_VALUE"), (1, u "MAX_VALUE"), (3, u "SIZE"), (1, u "BYTES"), (1, u "serialVersionUID"), (0, u "J")] 131

def k9c0 : Code := { maxStack := 3, maxLocals := 2, code := jdk_33_method_47_code, exceptionTable := #[], attributes := #[] }
def k9m0 : Method := { name := "numberOfLeadingZeros", desc := "(I)I", sig := { parameters := [.int], returnType := some .int }, accessFlags := 9, code := some k9c0 }
/-- java/lang/Integer -/
def k9 : Class := { plain "java/lang/Integer" (some 4) with
  accessFlags := 49
  interfaces := #[5, 6, 7]
  cf := some (fileOf pool9 1 #[.nestMembers #[189]] #[{ accessFlags := 9, nameIndex := 53, descriptorIndex := 54, attributes := #[] }] 49 203 #[304, 306, 308] #[{ accessFlags := 25, nameIndex := 310, descriptorIndex := 194, attributes := #[] }, { accessFlags := 25, nameIndex := 312, descriptorIndex := 194, attributes := #[] }, { accessFlags := 25, nameIndex := 302, descriptorIndex := 303, attributes := #[] }, { accessFlags := 24, nameIndex := 19, descriptorIndex := 20, attributes := #[] }, { accessFlags := 24, nameIndex := 89, descriptorIndex := 86, attributes := #[] }, { accessFlags := 24, nameIndex := 85, descriptorIndex := 86, attributes := #[] }, { accessFlags := 18, nameIndex := 207, descriptorIndex := 194, attributes := #[] }, { accessFlags := 25, nameIndex := 316, descriptorIndex := 194, attributes := #[] }, { accessFlags := 25, nameIndex := 318, descriptorIndex := 194, attributes := #[] }, { accessFlags := 26, nameIndex := 320, descriptorIndex := 321, attributes := #[] }])
  fields := #[{ name := "MIN_VALUE", type := .int, accessFlags := 25, slot := 0, constantValue := 0 }, { name := "MAX_VALUE", type := .int, accessFlags := 25, slot := 1, constantValue := 0 }, { name := "TYPE", type := (.object "java/lang/Class"), accessFlags := 25, slot := 2, constantValue := 0 }, { name := "digits", type := (.array .char), accessFlags := 24, slot := 3, constantValue := 0 }, { name := "DigitTens", type := (.array .byte), accessFlags := 24, slot := 4, constantValue := 0 }, { name := "DigitOnes", type := (.array .byte), accessFlags := 24, slot := 5, constantValue := 0 }, { name := "value", type := .int, accessFlags := 18, slot := 0, constantValue := 0 }, { name := "SIZE", type := .int, accessFlags := 25, slot := 6, constantValue := 0 }, { name := "BYTES", type := .int, accessFlags := 25, slot := 7, constantValue := 0 }, { name := "serialVersionUID", type := .long, accessFlags := 26, slot := 8, constantValue := 0 }]
  methods := #[k9m0]
  instanceTypes := #[.int]
  staticTypes := #[.int, .int, (.object "java/lang/Class"), (.array .char), (.array .byte), (.array .byte), .int, .int, .long]
  resolved := Array.replicate 453 none
  statics := none }

def pool10 : Array CpInfo := pool [(1, .class_ 2), (0, u "java/lang/Math"), (1, .class_ 6), (1, u "java/lang/Object"), (0, u "<init>"), (0, u "()V"), (1, .class_ 12), (1, u "java/lang/StrictMath"), (1, u "(D)D"), (38, .methodref 10 54), (0, .nameAndType 55 14), (0, u "ceil"), (23, .methodref 80 81), (0, .class_ 82), (0, .nameAndType 83 84), (0, u "java/lang/Double"), (0, u "doubleToRawLongBits"), (0, u "(D)J"), (2, .long 9218868437227405312), (10, .class_ 100), (1, u "java/lang/Math$RandomNumberGeneratorHolder"), (20, u "(JJ)J"), (50, u "negativeZeroFloatBits"), (0, u "J"), (2, u "negativeZeroDoubleBits"), (21, u "max"), (2, u "min"), (43, u "$assertionsDisabled"), (0, u "Z"), (33, u "getExponent"), (0, u "(D)I"), (40, .long 1023), (15, u "twoToTheDoubleScaleDown"), (0, u "D"), (4, u "twoToTheDoubleScaleUp"), (9, u "E"), (3, u "PI"), (2, u "TAU"), (2, u "DEGREES_TO_RADIANS"), (0, u "RADIANS_TO_DEGREES")] 94

def k10m0 : Method := { name := "<init>", desc := "()V", sig := { parameters := [], returnType := none }, accessFlags := 2, code := none }
def k10c1 : Code := { maxStack := 2, maxLocals := 2, code := jdk_29_method_16_code, exceptionTable := #[], attributes := #[] }
def k10m1 : Method := { name := "ceil", desc := "(D)D", sig := { parameters := [.double], returnType := some .double }, accessFlags := 9, code := some k10c1 }
def k10c2 : Code := { maxStack := 4, maxLocals := 4, code := jdk_29_method_66_code, exceptionTable := #[], attributes := #[] }
def k10m2 : Method := { name := "max", desc := "(JJ)J", sig := { parameters := [.long, .long], returnType := some .long }, accessFlags := 9, code := some k10c2 }
def k10c3 : Code := { maxStack := 4, maxLocals := 4, code := jdk_29_method_70_code, exceptionTable := #[], attributes := #[] }
def k10m3 : Method := { name := "min", desc := "(JJ)J", sig := { parameters := [.long, .long], returnType := some .long }, accessFlags := 9, code := some k10c3 }
def k10c4 : Code := { maxStack := 4, maxLocals := 2, code := jdk_29_method_92_code, exceptionTable := #[], attributes := #[] }
def k10m4 : Method := { name := "getExponent", desc := "(D)I", sig := { parameters := [.double], returnType := some .int }, accessFlags := 9, code := some k10c4 }
/-- java/lang/Math -/
def k10 : Class := { plain "java/lang/Math" (some 0) with
  accessFlags := 49
  interfaces := #[]
  cf := some (fileOf pool10 1 #[.nestMembers #[98]] #[{ accessFlags := 2, nameIndex := 7, descriptorIndex := 8, attributes := #[] }, { accessFlags := 9, nameIndex := 55, descriptorIndex := 14, attributes := #[] }, { accessFlags := 9, nameIndex := 198, descriptorIndex := 121, attributes := #[] }, { accessFlags := 9, nameIndex := 201, descriptorIndex := 121, attributes := #[] }, { accessFlags := 9, nameIndex := 280, descriptorIndex := 281, attributes := #[] }] 49 4 #[] #[{ accessFlags := 25, nameIndex := 354, descriptorIndex := 339, attributes := #[] }, { accessFlags := 25, nameIndex := 358, descriptorIndex := 339, attributes := #[] }, { accessFlags := 25, nameIndex := 361, descriptorIndex := 339, attributes := #[] }, { accessFlags := 26, nameIndex := 364, descriptorIndex := 339, attributes := #[] }, { accessFlags := 26, nameIndex := 365, descriptorIndex := 339, attributes := #[] }, { accessFlags := 26, nameIndex := 172, descriptorIndex := 173, attributes := #[] }, { accessFlags := 26, nameIndex := 176, descriptorIndex := 173, attributes := #[] }, { accessFlags := 8, nameIndex := 344, descriptorIndex := 339, attributes := #[] }, { accessFlags := 8, nameIndex := 338, descriptorIndex := 339, attributes := #[] }, { accessFlags := 4120, nameIndex := 245, descriptorIndex := 246, attributes := #[] }])
  fields := #[{ name := "E", type := .double, accessFlags := 25, slot := 0, constantValue := 0 }, { name := "PI", type := .double, accessFlags := 25, slot := 1, constantValue := 0 }, { name := "TAU", type := .double, accessFlags := 25, slot := 2, constantValue := 0 }, { name := "DEGREES_TO_RADIANS", type := .double, accessFlags := 26, slot := 3, constantValue := 0 }, { name := "RADIANS_TO_DEGREES", type := .double, accessFlags := 26, slot := 4, constantValue := 0 }, { name := "negativeZeroFloatBits", type := .long, accessFlags := 26, slot := 5, constantValue := 0 }, { name := "negativeZeroDoubleBits", type := .long, accessFlags := 26, slot := 6, constantValue := 0 }, { name := "twoToTheDoubleScaleUp", type := .double, accessFlags := 8, slot := 7, constantValue := 0 }, { name := "twoToTheDoubleScaleDown", type := .double, accessFlags := 8, slot := 8, constantValue := 0 }, { name := "$assertionsDisabled", type := .boolean, accessFlags := 4120, slot := 9, constantValue := 0 }]
  methods := #[k10m0, k10m1, k10m2, k10m3, k10m4]
  instanceTypes := #[]
  staticTypes := #[.double, .double, .double, .double, .double, .long, .long, .double, .double, .boolean]
  resolved := Array.replicate 460 none
  statics := none }

def pool11 : Array CpInfo := pool [(1, .class_ 2), (0, u "java/lang/StrictMath"), (1, .class_ 6), (1, u "java/lang/Object"), (0, u "<init>"), (0, u "()V"), (5, u "(D)D"), (16, .class_ 33), (1, u "java/lang/Math"), (24, .double 9223372036854775808), (1, .methodref 1 61), (0, .nameAndType 62 63), (0, u "floorOrCeil"), (0, u "(DDDD)D"), (2, .methodref 31 67), (0, .nameAndType 68 69), (0, u "getExponent"), (0, u "(D)I"), (0, .fieldref 1 71), (0, .nameAndType 72 73), (0, u "$assertionsDisabled"), (0, u "Z"), (3, .methodref 78 79), (0, .class_ 80), (0, .nameAndType 81 82), (0, u "java/lang/Double"), (0, u "doubleToRawLongBits"), (0, u "(D)J"), (2, .long 4503599627370495), (1, .long 18446744073709551615), (1, .methodref 78 90), (0, .nameAndType 91 92), (0, u "longBitsToDouble"), (0, u "(J)D"), (21, .class_ 116), (1, u "java/lang/StrictMath$RandomNumberGeneratorHolder"), (222, u "E"), (0, u "D"), (3, u "PI"), (2, u "TAU"), (26, u "ceil")] 61

def k11m0 : Method := { name := "<init>", desc := "()V", sig := { parameters := [], returnType := none }, accessFlags := 2, code := none }
def k11c1 : Code := { maxStack := 8, maxLocals := 2, code := jdk_128_method_16_code, exceptionTable := #[], attributes := #[] }
def k11m1 : Method := { name := "ceil", desc := "(D)D", sig := { parameters := [.double], returnType := some .double }, accessFlags := 9, code := some k11c1 }
def k11c2 : Code := { maxStack := 6, maxLocals := 15, code := jdk_128_method_18_code, exceptionTable := #[], attributes := #[] }
def k11m2 : Method := { name := "floorOrCeil", desc := "(DDDD)D", sig := { parameters := [.double, .double, .double, .double], returnType := some .double }, accessFlags := 10, code := some k11c2 }
/-- java/lang/StrictMath -/
def k11 : Class := { plain "java/lang/StrictMath" (some 0) with
  accessFlags := 49
  interfaces := #[]
  cf := some (fileOf pool11 1 #[.nestMembers #[114]] #[{ accessFlags := 2, nameIndex := 7, descriptorIndex := 8, attributes := #[] }, { accessFlags := 9, nameIndex := 374, descriptorIndex := 14, attributes := #[] }, { accessFlags := 10, nameIndex := 62, descriptorIndex := 63, attributes := #[] }] 49 4 #[] #[{ accessFlags := 25, nameIndex := 339, descriptorIndex := 340, attributes := #[] }, { accessFlags := 25, nameIndex := 344, descriptorIndex := 340, attributes := #[] }, { accessFlags := 25, nameIndex := 347, descriptorIndex := 340, attributes := #[] }, { accessFlags := 4120, nameIndex := 72, descriptorIndex := 73, attributes := #[] }])
  fields := #[{ name := "E", type := .double, accessFlags := 25, slot := 0, constantValue := 0 }, { name := "PI", type := .double, accessFlags := 25, slot := 1, constantValue := 0 }, { name := "TAU", type := .double, accessFlags := 25, slot := 2, constantValue := 0 }, { name := "$assertionsDisabled", type := .boolean, accessFlags := 4120, slot := 3, constantValue := 0 }]
  methods := #[k11m0, k11m1, k11m2]
  instanceTypes := #[]
  staticTypes := #[.double, .double, .double, .boolean]
  resolved := Array.replicate 436 none
  statics := some 0 }

def pool12 : Array CpInfo := pool [(1, .class_ 2), (0, u "java/lang/Double"), (46, u "(D)J"), (64, .class_ 116), (1, u "java/lang/Number"), (3, u "value"), (0, u "D"), (14, u "doubleToRawLongBits"), (36, u "TYPE"), (0, u "Ljava/lang/Class;"), (0, .class_ 176), (0, u "java/lang/Comparable"), (0, .class_ 178), (0, u "java/lang/constant/Constable"), (0, .class_ 180), (0, u "java/lang/constant/ConstantDesc"), (0, u "POSITIVE_INFINITY"), (3, u "NEGATIVE_INFINITY"), (2, u "NaN"), (2, u "MAX_VALUE"), (0, u "MIN_NORMAL"), (0, u "MIN_VALUE"), (2, u "SIZE"), (0, u "I"), (1, u "PRECISION"), (1, u "MAX_EXPONENT"), (1, u "MIN_EXPONENT"), (1, u "BYTES"), (3, u "serialVersionUID"), (0, u "J"), (48, u "longBitsToDouble"), (0, u "(J)D")] 29

def k12m0 : Method := { name := "doubleToRawLongBits", desc := "(D)J", sig := { parameters := [.double], returnType := some .long }, accessFlags := 265, code := none }
def k12m1 : Method := { name := "longBitsToDouble", desc := "(J)D", sig := { parameters := [.long], returnType := some .double }, accessFlags := 265, code := none }
/-- java/lang/Double -/
def k12 : Class := { plain "java/lang/Double" (some 4) with
  accessFlags := 49
  interfaces := #[5, 6, 7]
  cf := some (fileOf pool12 1 #[] #[{ accessFlags := 265, nameIndex := 136, descriptorIndex := 49, attributes := #[] }, { accessFlags := 265, nameIndex := 259, descriptorIndex := 260, attributes := #[] }] 49 114 #[175, 177, 179] #[{ accessFlags := 25, nameIndex := 181, descriptorIndex := 121, attributes := #[] }, { accessFlags := 25, nameIndex := 185, descriptorIndex := 121, attributes := #[] }, { accessFlags := 25, nameIndex := 188, descriptorIndex := 121, attributes := #[] }, { accessFlags := 25, nameIndex := 191, descriptorIndex := 121, attributes := #[] }, { accessFlags := 25, nameIndex := 192, descriptorIndex := 121, attributes := #[] }, { accessFlags := 25, nameIndex := 193, descriptorIndex := 121, attributes := #[] }, { accessFlags := 25, nameIndex := 196, descriptorIndex := 197, attributes := #[] }, { accessFlags := 25, nameIndex := 199, descriptorIndex := 197, attributes := #[] }, { accessFlags := 25, nameIndex := 201, descriptorIndex := 197, attributes := #[] }, { accessFlags := 25, nameIndex := 203, descriptorIndex := 197, attributes := #[] }, { accessFlags := 25, nameIndex := 205, descriptorIndex := 197, attributes := #[] }, { accessFlags := 25, nameIndex := 173, descriptorIndex := 174, attributes := #[] }, { accessFlags := 18, nameIndex := 120, descriptorIndex := 121, attributes := #[] }, { accessFlags := 26, nameIndex := 209, descriptorIndex := 210, attributes := #[] }])
  fields := #[{ name := "POSITIVE_INFINITY", type := .double, accessFlags := 25, slot := 0, constantValue := 0 }, { name := "NEGATIVE_INFINITY", type := .double, accessFlags := 25, slot := 1, constantValue := 0 }, { name := "NaN", type := .double, accessFlags := 25, slot := 2, constantValue := 0 }, { name := "MAX_VALUE", type := .double, accessFlags := 25, slot := 3, constantValue := 0 }, { name := "MIN_NORMAL", type := .double, accessFlags := 25, slot := 4, constantValue := 0 }, { name := "MIN_VALUE", type := .double, accessFlags := 25, slot := 5, constantValue := 0 }, { name := "SIZE", type := .int, accessFlags := 25, slot := 6, constantValue := 0 }, { name := "PRECISION", type := .int, accessFlags := 25, slot := 7, constantValue := 0 }, { name := "MAX_EXPONENT", type := .int, accessFlags := 25, slot := 8, constantValue := 0 }, { name := "MIN_EXPONENT", type := .int, accessFlags := 25, slot := 9, constantValue := 0 }, { name := "BYTES", type := .int, accessFlags := 25, slot := 10, constantValue := 0 }, { name := "TYPE", type := (.object "java/lang/Class"), accessFlags := 25, slot := 11, constantValue := 0 }, { name := "value", type := .double, accessFlags := 18, slot := 0, constantValue := 0 }, { name := "serialVersionUID", type := .long, accessFlags := 26, slot := 12, constantValue := 0 }]
  methods := #[k12m0, k12m1]
  instanceTypes := #[.double]
  staticTypes := #[.double, .double, .double, .double, .double, .double, .int, .int, .int, .int, .int, (.object "java/lang/Class"), .long]
  resolved := Array.replicate 290 none
  statics := none }

def pool13 : Array CpInfo := pool [(1, u "java/lang/Cloneable"), (0, .class_ 1), (0, u "java/lang/Object"), (0, .class_ 3)] 3

/-- java/lang/Cloneable -/
def k13 : Class := { plain "java/lang/Cloneable" (some 0) with
  accessFlags := 1537
  interfaces := #[]
  cf := some (fileOf pool13 2 #[] #[] 1537 4 #[] #[])
  fields := #[]
  methods := #[]
  instanceTypes := #[]
  staticTypes := #[]
  resolved := Array.replicate 8 none
  statics := none }

/-- the primitive byte -/
def k14 : Class := { plain "byte" none with kind := .primitive 'B', accessFlags := 0x411 }
/-- [B -/
def k15 : Class := { plain "[B" (some 0) with kind := .array 14 .byte, interfaces := #[13, 3], accessFlags := 1041 }

/-- the primitive int -/
def k16 : Class := { plain "int" none with kind := .primitive 'I', accessFlags := 0x411 }
/-- [I -/
def k17 : Class := { plain "[I" (some 0) with kind := .array 16 .int, interfaces := #[13, 3], accessFlags := 1041 }

/-- the primitive long -/
def k18 : Class := { plain "long" none with kind := .primitive 'J', accessFlags := 0x411 }
/-- [J -/
def k19 : Class := { plain "[J" (some 0) with kind := .array 18 .long, interfaces := #[13, 3], accessFlags := 1041 }

def heap : Heap := #[{ cls := 11, slots := #[.double 0, .double 0, .double 0, .int 1], vm := .statics 11 }]
def classes : Array Class := #[k0, k1, k2, k3, k4, k5, k6, k7, k8, k9, k10, k11, k12, k13, k14, k15, k16, k17, k18, k19]
def interned : List (Array UInt16 × Addr) := []
def slotsUsed : Nat := 4
def theMethod : MethodId := ⟨1, 3⟩
def args0 : Array Value := #[.long 5, .long 300, .long 70000, .int 5]
def aboutOver (below : List Frame) : State where
  vm := { classes := classes, interned := interned.toArray }
  heap := heap
  slotsUsed := slotsUsed
  threads := #[{ frames := .invoking theMethod args0 :: below }]
def below0 : List Frame := [.native { method := ⟨0, 0⟩, args := #[] }]
def about1 : State := aboutOver below0
def p0 : Program := .bare "" "" ""
def e0 : Env := launch0.env 0 0 0
theorem w_frames : about1.frames = Frame.invoking theMethod args0 :: below0 := rfl
set_option maxRecDepth 65536 in
theorem w_args : argsFit about1.vm theMethod args0 = true := by decide +kernel
set_option maxRecDepth 65536 in
theorem w_heap : heapFits about1 = true := by decide +kernel
set_option maxRecDepth 65536 in
theorem w_runnable : about1.curStatus? = some .runnable := by decide +kernel
set_option maxRecDepth 65536 in
theorem w_alone : about1.alone = true := by decide +kernel
set_option maxRecDepth 65536 in
theorem w_named : about1.methodNamed? x = some theMethod := by decide +kernel
set_option maxRecDepth 65536 in
theorem w_hears : about1.hears theMethod below0 = true := by decide +kernel
set_option maxRecDepth 65536 in
theorem w_ripe : about1.ripe theMethod args0 below0 = true := by decide +kernel
theorem w_running : about1.status = .running := rfl
set_option maxRecDepth 65536 in
theorem w_room : about1.hasRoom e0.platform room_1 = true :=
  launch0.hasRoom_least _ room_1 (by decide +kernel) (by decide +kernel) (by decide +kernel) (by decide +kernel) (by decide +kernel) (by decide +kernel)
theorem allAtoms_all (ts : List Jvm.Cond) (a : Array Jvm.Value) (st : Jvm.State) : (allAtoms ts).before a st = ts.all (fun c => c.before a st) := by
  induction ts with
  | nil => rfl
  | cons c t ih =>
    show (Jvm.Cond.and c (allAtoms t)).before a st = _
    rw [Jvm.Cond.before_and, ih, List.all_cons]
def words1 : List Jvm.Cond := Jvm.Cond.code x code maxLocals ret :: tables_1
/-- a 'code' word, met by the world's own term for the bytes: nothing is compared byte by byte -/
theorem code_word {y : MethodName} {bytes : ByteArray} {mx : Nat} {rt : Option FieldType} {a : Array Value} {s : State} {m : MethodId} {meth : Method} {c : Code} (h1 : s.methodNamed? y = some m) (h2 : s.vm.method? m = some meth) (h3 : meth.code = some c) (h4 : c.code = bytes)
    (h5 : (c.maxLocals == mx && c.exceptionTable.isEmpty && decide (c.maxStack ≤ mostOperands) && decide (meth.sig.returnType = rt) && !meth.locks && decide (parseMethodDescriptor y.desc = some meth.sig)) = true) : (Jvm.Cond.code y bytes mx rt).before a s = true := by
  simp only [Bool.and_eq_true, beq_iff_eq, Bool.not_eq_true', decide_eq_true_eq] at h5
  obtain ⟨⟨⟨⟨⟨g1, g2⟩, g3⟩, g4⟩, g5⟩, g6⟩ := h5
  simp [Cond.before, Cond.holds, Cond.value, h1, h2, h3, h4, g1, g2, g3, g4, g5, g6]
def isCode : Jvm.Cond → Bool
  | .code _ _ _ _ => true
  | _ => false
theorem all_split {L : List Jvm.Cond} {P : Jvm.Cond → Bool} (h1 : L.all (fun c => isCode c || P c) = true) (h2 : ∀ c ∈ L.filter isCode, P c = true) : L.all P = true := by
  refine List.all_eq_true.mpr fun c hc => ?_
  have h := List.all_eq_true.mp h1 c hc
  rcases Bool.eq_false_or_eq_true (isCode c) with hi | hi
  · exact h2 c (List.mem_filter.mpr ⟨hc, hi⟩)
  · simpa [hi] using h
set_option maxRecDepth 65536 in
theorem w_c0 : (Jvm.Cond.code x code maxLocals ret).before args0 about1 = true := code_word (m := ⟨1, 3⟩) (meth := k1m3) (c := k1c3) (by decide +kernel) rfl rfl rfl (by decide +kernel)
set_option maxRecDepth 65536 in
theorem w_c1 : (Jvm.Cond.code ({ cls := "com/example/resplice/resplice/LatencyHistogramRecordPinLaw", name := "val", desc := "(JI)J" } : Jvm.MethodName) method_2_code (3 : Nat) (Option.some Jvm.ClassFile.FieldType.long)).before args0 about1 = true := code_word (m := ⟨1, 1⟩) (meth := k1m1) (c := k1c1) (by decide +kernel) rfl rfl rfl (by decide +kernel)
set_option maxRecDepth 65536 in
theorem w_c2 : (Jvm.Cond.code ({ cls := "com/example/resplice/resplice/LatencyHistogram", name := "<init>", desc := "()V" } : Jvm.MethodName) prog_10_method_1_code (1 : Nat) (Option.none : Option Jvm.ClassFile.FieldType)).before args0 about1 = true := code_word (m := ⟨2, 0⟩) (meth := k2m0) (c := k2c0) (by decide +kernel) rfl rfl rfl (by decide +kernel)
set_option maxRecDepth 65536 in
theorem w_c3 : (Jvm.Cond.code ({ cls := "java/lang/Object", name := "<init>", desc := "()V" } : Jvm.MethodName) object_method_1_code (1 : Nat) (Option.none : Option Jvm.ClassFile.FieldType)).before args0 about1 = true := code_word (m := ⟨0, 0⟩) (meth := k0m0) (c := k0c0) (by decide +kernel) rfl rfl rfl (by decide +kernel)
set_option maxRecDepth 65536 in
theorem w_c4 : (Jvm.Cond.code ({ cls := "com/example/resplice/resplice/LatencyHistogram", name := "bucket", desc := "(J)I" } : Jvm.MethodName) prog_10_method_5_code (3 : Nat) (Option.some Jvm.ClassFile.FieldType.int)).before args0 about1 = true := code_word (m := ⟨2, 4⟩) (meth := k2m4) (c := k2c4) (by decide +kernel) rfl rfl rfl (by decide +kernel)
set_option maxRecDepth 65536 in
theorem w_c5 : (Jvm.Cond.code ({ cls := "java/lang/Long", name := "numberOfLeadingZeros", desc := "(J)I" } : Jvm.MethodName) jdk_35_method_48_code (3 : Nat) (Option.some Jvm.ClassFile.FieldType.int)).before args0 about1 = true := code_word (m := ⟨8, 0⟩) (meth := k8m0) (c := k8c0) (by decide +kernel) rfl rfl rfl (by decide +kernel)
set_option maxRecDepth 65536 in
theorem w_c6 : (Jvm.Cond.code ({ cls := "java/lang/Integer", name := "numberOfLeadingZeros", desc := "(I)I" } : Jvm.MethodName) jdk_33_method_47_code (2 : Nat) (Option.some Jvm.ClassFile.FieldType.int)).before args0 about1 = true := code_word (m := ⟨9, 0⟩) (meth := k9m0) (c := k9c0) (by decide +kernel) rfl rfl rfl (by decide +kernel)
set_option maxRecDepth 65536 in
theorem w_c7 : (Jvm.Cond.code ({ cls := "com/example/resplice/resplice/LatencyHistogram", name := "record", desc := "(J)V" } : Jvm.MethodName) prog_10_method_2_code (3 : Nat) (Option.none : Option Jvm.ClassFile.FieldType)).before args0 about1 = true := code_word (m := ⟨2, 1⟩) (meth := k2m1) (c := k2c1) (by decide +kernel) rfl rfl rfl (by decide +kernel)
set_option maxRecDepth 65536 in
theorem w_c8 : (Jvm.Cond.code ({ cls := "com/example/resplice/resplice/LatencyHistogramRecordPinLaw", name := "mid", desc := "(J)J" } : Jvm.MethodName) method_3_code (8 : Nat) (Option.some Jvm.ClassFile.FieldType.long)).before args0 about1 = true := code_word (m := ⟨1, 2⟩) (meth := k1m2) (c := k1c2) (by decide +kernel) rfl rfl rfl (by decide +kernel)
set_option maxRecDepth 65536 in
theorem w_c9 : (Jvm.Cond.code ({ cls := "java/lang/Math", name := "min", desc := "(JJ)J" } : Jvm.MethodName) jdk_29_method_70_code (4 : Nat) (Option.some Jvm.ClassFile.FieldType.long)).before args0 about1 = true := code_word (m := ⟨10, 3⟩) (meth := k10m3) (c := k10c3) (by decide +kernel) rfl rfl rfl (by decide +kernel)
set_option maxRecDepth 65536 in
theorem w_c10 : (Jvm.Cond.code ({ cls := "java/lang/Math", name := "max", desc := "(JJ)J" } : Jvm.MethodName) jdk_29_method_66_code (4 : Nat) (Option.some Jvm.ClassFile.FieldType.long)).before args0 about1 = true := code_word (m := ⟨10, 2⟩) (meth := k10m2) (c := k10c2) (by decide +kernel) rfl rfl rfl (by decide +kernel)
set_option maxRecDepth 65536 in
theorem w_c11 : (Jvm.Cond.code ({ cls := "com/example/resplice/resplice/LatencyHistogram", name := "count", desc := "()J" } : Jvm.MethodName) prog_10_method_3_code (1 : Nat) (Option.some Jvm.ClassFile.FieldType.long)).before args0 about1 = true := code_word (m := ⟨2, 2⟩) (meth := k2m2) (c := k2c2) (by decide +kernel) rfl rfl rfl (by decide +kernel)
set_option maxRecDepth 65536 in
theorem w_c12 : (Jvm.Cond.code ({ cls := "com/example/resplice/resplice/LatencyHistogram", name := "percentile", desc := "(D)J" } : Jvm.MethodName) prog_10_method_4_code (8 : Nat) (Option.some Jvm.ClassFile.FieldType.long)).before args0 about1 = true := code_word (m := ⟨2, 3⟩) (meth := k2m3) (c := k2c3) (by decide +kernel) rfl rfl rfl (by decide +kernel)
set_option maxRecDepth 65536 in
theorem w_c13 : (Jvm.Cond.code ({ cls := "java/lang/Math", name := "ceil", desc := "(D)D" } : Jvm.MethodName) jdk_29_method_16_code (2 : Nat) (Option.some Jvm.ClassFile.FieldType.double)).before args0 about1 = true := code_word (m := ⟨10, 1⟩) (meth := k10m1) (c := k10c1) (by decide +kernel) rfl rfl rfl (by decide +kernel)
set_option maxRecDepth 65536 in
theorem w_c14 : (Jvm.Cond.code ({ cls := "java/lang/StrictMath", name := "ceil", desc := "(D)D" } : Jvm.MethodName) jdk_128_method_16_code (2 : Nat) (Option.some Jvm.ClassFile.FieldType.double)).before args0 about1 = true := code_word (m := ⟨11, 1⟩) (meth := k11m1) (c := k11c1) (by decide +kernel) rfl rfl rfl (by decide +kernel)
set_option maxRecDepth 65536 in
theorem w_c15 : (Jvm.Cond.code ({ cls := "java/lang/StrictMath", name := "floorOrCeil", desc := "(DDDD)D" } : Jvm.MethodName) jdk_128_method_18_code (15 : Nat) (Option.some Jvm.ClassFile.FieldType.double)).before args0 about1 = true := code_word (m := ⟨11, 2⟩) (meth := k11m2) (c := k11c2) (by decide +kernel) rfl rfl rfl (by decide +kernel)
set_option maxRecDepth 65536 in
theorem w_c16 : (Jvm.Cond.code ({ cls := "java/lang/Math", name := "getExponent", desc := "(D)I" } : Jvm.MethodName) jdk_29_method_92_code (2 : Nat) (Option.some Jvm.ClassFile.FieldType.int)).before args0 about1 = true := code_word (m := ⟨10, 4⟩) (meth := k10m4) (c := k10c4) (by decide +kernel) rfl rfl rfl (by decide +kernel)
set_option maxRecDepth 65536 in
theorem w_c17 : (Jvm.Cond.code ({ cls := "com/example/resplice/resplice/LatencyHistogram", name := "middle", desc := "(I)J" } : Jvm.MethodName) prog_10_method_6_code (4 : Nat) (Option.some Jvm.ClassFile.FieldType.long)).before args0 about1 = true := code_word (m := ⟨2, 5⟩) (meth := k2m5) (c := k2c5) (by decide +kernel) rfl rfl rfl (by decide +kernel)
def codes1 : List Jvm.Cond := [Jvm.Cond.code x code maxLocals ret, Jvm.Cond.code ({ cls := "com/example/resplice/resplice/LatencyHistogramRecordPinLaw", name := "val", desc := "(JI)J" } : Jvm.MethodName) method_2_code (3 : Nat) (Option.some Jvm.ClassFile.FieldType.long), Jvm.Cond.code ({ cls := "com/example/resplice/resplice/LatencyHistogram", name := "<init>", desc := "()V" } : Jvm.MethodName) prog_10_method_1_code (1 : Nat) (Option.none : Option Jvm.ClassFile.FieldType), Jvm.Cond.code ({ cls := "java/lang/Object", name := "<init>", desc := "()V" } : Jvm.MethodName) object_method_1_code (1 : Nat) (Option.none : Option Jvm.ClassFile.FieldType), Jvm.Cond.code ({ cls := "com/example/resplice/resplice/LatencyHistogram", name := "bucket", desc := "(J)I" } : Jvm.MethodName) prog_10_method_5_code (3 : Nat) (Option.some Jvm.ClassFile.FieldType.int), Jvm.Cond.code ({ cls := "java/lang/Long", name := "numberOfLeadingZeros", desc := "(J)I" } : Jvm.MethodName) jdk_35_method_48_code (3 : Nat) (Option.some Jvm.ClassFile.FieldType.int), Jvm.Cond.code ({ cls := "java/lang/Integer", name := "numberOfLeadingZeros", desc := "(I)I" } : Jvm.MethodName) jdk_33_method_47_code (2 : Nat) (Option.some Jvm.ClassFile.FieldType.int), Jvm.Cond.code ({ cls := "com/example/resplice/resplice/LatencyHistogram", name := "record", desc := "(J)V" } : Jvm.MethodName) prog_10_method_2_code (3 : Nat) (Option.none : Option Jvm.ClassFile.FieldType), Jvm.Cond.code ({ cls := "com/example/resplice/resplice/LatencyHistogramRecordPinLaw", name := "mid", desc := "(J)J" } : Jvm.MethodName) method_3_code (8 : Nat) (Option.some Jvm.ClassFile.FieldType.long), Jvm.Cond.code ({ cls := "java/lang/Math", name := "min", desc := "(JJ)J" } : Jvm.MethodName) jdk_29_method_70_code (4 : Nat) (Option.some Jvm.ClassFile.FieldType.long), Jvm.Cond.code ({ cls := "java/lang/Math", name := "max", desc := "(JJ)J" } : Jvm.MethodName) jdk_29_method_66_code (4 : Nat) (Option.some Jvm.ClassFile.FieldType.long), Jvm.Cond.code ({ cls := "com/example/resplice/resplice/LatencyHistogram", name := "count", desc := "()J" } : Jvm.MethodName) prog_10_method_3_code (1 : Nat) (Option.some Jvm.ClassFile.FieldType.long), Jvm.Cond.code ({ cls := "com/example/resplice/resplice/LatencyHistogram", name := "percentile", desc := "(D)J" } : Jvm.MethodName) prog_10_method_4_code (8 : Nat) (Option.some Jvm.ClassFile.FieldType.long), Jvm.Cond.code ({ cls := "java/lang/Math", name := "ceil", desc := "(D)D" } : Jvm.MethodName) jdk_29_method_16_code (2 : Nat) (Option.some Jvm.ClassFile.FieldType.double), Jvm.Cond.code ({ cls := "java/lang/StrictMath", name := "ceil", desc := "(D)D" } : Jvm.MethodName) jdk_128_method_16_code (2 : Nat) (Option.some Jvm.ClassFile.FieldType.double), Jvm.Cond.code ({ cls := "java/lang/StrictMath", name := "floorOrCeil", desc := "(DDDD)D" } : Jvm.MethodName) jdk_128_method_18_code (15 : Nat) (Option.some Jvm.ClassFile.FieldType.double), Jvm.Cond.code ({ cls := "java/lang/Math", name := "getExponent", desc := "(D)I" } : Jvm.MethodName) jdk_29_method_92_code (2 : Nat) (Option.some Jvm.ClassFile.FieldType.int), Jvm.Cond.code ({ cls := "com/example/resplice/resplice/LatencyHistogram", name := "middle", desc := "(I)J" } : Jvm.MethodName) prog_10_method_6_code (4 : Nat) (Option.some Jvm.ClassFile.FieldType.long)]
set_option maxRecDepth 65536 in
theorem codes_eq : words1.filter isCode = codes1 := rfl
theorem w_codes : ∀ c ∈ words1.filter isCode, c.before args0 about1 = true := by
  rw [codes_eq]
  intro c hc
  simp only [codes1, List.mem_cons, List.not_mem_nil, or_false] at hc
  rcases hc with rfl | rfl | rfl | rfl | rfl | rfl | rfl | rfl | rfl | rfl | rfl | rfl | rfl | rfl | rfl | rfl | rfl | rfl
  · exact w_c0
  · exact w_c1
  · exact w_c2
  · exact w_c3
  · exact w_c4
  · exact w_c5
  · exact w_c6
  · exact w_c7
  · exact w_c8
  · exact w_c9
  · exact w_c10
  · exact w_c11
  · exact w_c12
  · exact w_c13
  · exact w_c14
  · exact w_c15
  · exact w_c16
  · exact w_c17
set_option maxRecDepth 65536 in
theorem w_t1 : (words1.take 24).all (fun c => isCode c || c.before args0 about1) = true := by decide +kernel
set_option maxRecDepth 65536 in
theorem w_t2 : ((words1.drop 24).take 24).all (fun c => isCode c || c.before args0 about1) = true := by decide +kernel
set_option maxRecDepth 65536 in
theorem w_t3 : (((words1.drop 24).drop 24).take 24).all (fun c => isCode c || c.before args0 about1) = true := by decide +kernel
set_option maxRecDepth 65536 in
theorem w_t4 : (((words1.drop 24).drop 24).drop 24).all (fun c => isCode c || c.before args0 about1) = true := by decide +kernel
theorem w_tables : (allAtoms (Jvm.Cond.code x code maxLocals ret :: tables_1)).before args0 about1 = true := by
  rw [allAtoms_all]
  show words1.all (fun c => c.before args0 about1) = true
  refine all_split ?_ w_codes
  rw [← List.take_append_drop 24 words1, List.all_append, w_t1, ← List.take_append_drop 24 (words1.drop 24), List.all_append, w_t2, ← List.take_append_drop 24 ((words1.drop 24).drop 24), List.all_append, w_t3, w_t4]
  rfl
set_option maxRecDepth 65536 in
theorem w_rest : rest_1_c.before args0 about1 = true := by decide +kernel
set_option maxRecDepth 65536 in
theorem w_case : (Jvm.Cond.and given_1 narrow_1).before args0 about1 = true := by decide +kernel
theorem w_applies : (headSpec (Jvm.Cond.code x code maxLocals ret :: tables_1) room_1).applies x e0.platform about1 = true :=
  (Spec.applies_iff w_frames).mpr ⟨w_running, w_runnable, w_alone, w_named, w_hears, w_ripe, w_room, w_tables⟩
theorem atStart : AtStart classFile x code maxLocals ret World_1 tables_1 room_1 Calls_1 rest_1 Pre_1 launch0 p0 e0 about1 theMethod args0 below0 :=
  ⟨lists_1, trivial, launch0.admits_env _ _ _, launch0.least_env, fairChoices_fair.cas, fairChoices_fair.clock, w_frames, w_args, w_heap, w_applies, trivial, w_rest, w_case⟩
end start1
theorem witness_1 : WitnessClaimed_1 := ⟨start1.p0, start1.e0, start1.about1, start1.theMethod, start1.args0, start1.below0, start1.atStart⟩
end Jvm.Pilot.@@N@@
