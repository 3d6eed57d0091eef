import JvmDerived
import JvmDerived.Pilot.@@N@@Statement
import JvmDerived.Pilot.@@N@@Code
set_option linter.unusedVariables false
set_option linter.unusedSimpArgs false
namespace Jvm.RoadKit
open Sem ClassFile Op Lib Jvm.Stand Jvm.Free Jvm.LawKit
section New
variable {p : Program} {l : Launch} {e : Env} {R : Room} {s : State} {m : MethodId} {args : Array Value} {below : List Frame} {meth : Method} {c : Code} {T : State} {locs : List Loc} {cells slots : Nat}
theorem retI (X : Stand p l e R s m args below meth c T locs cells slots) (hx : p.tables.exec = Jvm.exec) {pc : Nat} {Ls : Array Slot} {z : Int32} {rest : List Value} (hret : meth.sig.returnType = some .int) (hd : decode c.code pc = .ok (.ireturn, 1)) {fs : List Frame}
    (hl : ∀ (f : JFrame) (acts : List Action), f.method = m → f.locked = none → f.entered = [] → (doReturn e (T.setTop f) acts (some (.int z))).1 = T.setFrames fs) : Steps p.tables e below (T.setTop (mkF m pc Ls (.int z :: rest))) (T.setFrames fs) := by
  have hm' : T.vm.method? m = some meth := X.method'
  have hn : narrow .int (.int z) = .int z := rfl
  show Steps p.tables e below (T.setTop { method := m, pc := pc, locals := Ls, stack := _ :: rest, locked := none }) _
  jvm_step X.here [X.here.top, hx, hd, hm', hret, hn]
  first | (intro acts; rw [hl _ acts rfl rfl rfl]) | rw [hl _ _ rfl rfl rfl]
  exact Steps.refl _
theorem retJ (X : Stand p l e R s m args below meth c T locs cells slots) (hx : p.tables.exec = Jvm.exec) {pc : Nat} {Ls : Array Slot} {z : Int64} {rest : List Value} (hret : meth.sig.returnType = some .long) (hd : decode c.code pc = .ok (.lreturn, 1)) {fs : List Frame}
    (hl : ∀ (f : JFrame) (acts : List Action), f.method = m → f.locked = none → f.entered = [] → (doReturn e (T.setTop f) acts (some (.long z))).1 = T.setFrames fs) : Steps p.tables e below (T.setTop (mkF m pc Ls (.long z :: rest))) (T.setFrames fs) := by
  have hm' : T.vm.method? m = some meth := X.method'
  have hn : narrow .long (.long z) = .long z := rfl
  show Steps p.tables e below (T.setTop { method := m, pc := pc, locals := Ls, stack := _ :: rest, locked := none }) _
  jvm_step X.here [X.here.top, hx, hd, hm', hret, hn]
  first | (intro acts; rw [hl _ acts rfl rfl rfl]) | rw [hl _ _ rfl rfl rfl]
  exact Steps.refl _
theorem retD (X : Stand p l e R s m args below meth c T locs cells slots) (hx : p.tables.exec = Jvm.exec) {pc : Nat} {Ls : Array Slot} {z : UInt64} {rest : List Value} (hret : meth.sig.returnType = some .double) (hd : decode c.code pc = .ok (.dreturn, 1)) {fs : List Frame}
    (hl : ∀ (f : JFrame) (acts : List Action), f.method = m → f.locked = none → f.entered = [] → (doReturn e (T.setTop f) acts (some (.double z))).1 = T.setFrames fs) : Steps p.tables e below (T.setTop (mkF m pc Ls (.double z :: rest))) (T.setFrames fs) := by
  have hm' : T.vm.method? m = some meth := X.method'
  have hn : narrow .double (.double z) = .double z := rfl
  show Steps p.tables e below (T.setTop { method := m, pc := pc, locals := Ls, stack := _ :: rest, locked := none }) _
  jvm_step X.here [X.here.top, hx, hd, hm', hret, hn]
  first | (intro acts; rw [hl _ acts rfl rfl rfl]) | rw [hl _ _ rfl rfl rfl]
  exact Steps.refl _
theorem retR (X : Stand p l e R s m args below meth c T locs cells slots) (hx : p.tables.exec = Jvm.exec) {pc : Nat} {Ls : Array Slot} {w : Value} {t : FieldType} {rest : List Value} (hret : meth.sig.returnType = some t) (hn : narrow t w = w) (ht : t.isReference = true) (hw : w.isRef = true) (hd : decode c.code pc = .ok (.areturn, 1)) {fs : List Frame}
    (hl : ∀ (f : JFrame) (acts : List Action), f.method = m → f.locked = none → f.entered = [] → (doReturn e (T.setTop f) acts (some w)).1 = T.setFrames fs) : Steps p.tables e below (T.setTop (mkF m pc Ls (w :: rest))) (T.setFrames fs) := by
  have hm' : T.vm.method? m = some meth := X.method'
  show Steps p.tables e below (T.setTop { method := m, pc := pc, locals := Ls, stack := _ :: rest, locked := none }) _
  jvm_step X.here [X.here.top, hx, hd, hm', hret, hn, hw]
  try (refine ⟨ht, ?_⟩)
  first | (intro acts; rw [hl _ acts rfl rfl rfl]) | rw [hl _ _ rfl rfl rfl]
  exact Steps.refl _
theorem own_up (X : Stand p l e R s m args below meth c T locs cells slots) {k n : Nat} (h1 : cells ≤ k) (h2 : slots ≤ n) : Stand p l e R s m args below meth c T locs k n :=
  ⟨X.admits, X.cas, X.clock, X.frames, X.room, X.hears, X.method, X.code, X.here, X.tail, X.warmed, X.limits, X.bytes, X.same.mono h1 h2⟩
theorem own_ext {h h' : Heap} (K : Keep h h' []) : Ext h h' := ⟨K.1, fun a c q => K.2.1 a c q nin0⟩
theorem own_narR {v : Value} {ty : FieldType} (h : v.isRef = true) (ht : ty.isReference = true) : narrow ty v = v := by
  rcases ref_cases h with rfl | ⟨a, rfl⟩ <;> cases ty <;> first | rfl | (simp [FieldType.isReference] at ht)
theorem own_fitR {v : Value} {ty : FieldType} (h : v.isRef = true) (ht : ty.isReference = true) : fits ty v = true := by
  rcases ref_cases h with rfl | ⟨a, rfl⟩ <;> cases ty <;> first | rfl | (simp [FieldType.isReference] at ht)
theorem own_wmono {s t : State} {o : Outcome} {L : List Loc} {k n k' n' : Nat} (h : ReturnedEndW s o t L k n) (hk : k ≤ k') (hn : n ≤ n') : ReturnedEndW s o t L k' n' := ⟨h.1, h.2.1, h.2.2.1, h.2.2.2.mono hk hn⟩
theorem own_chr {Z s T : State} {EL : List (String × Nat)} {h0 H : Heap} (hh : s.heap = h0) (e : T.heap = H) (c : CHr Z EL s.vm h0 T.vm H) : CHr Z EL s.vm s.heap T.vm T.heap := by subst hh e; exact c
theorem own_nb0 : nar .boolean 0 = 0 := by decide
theorem own_nb1 : nar .boolean 1 = 1 := by decide
end New
end Jvm.RoadKit
/- laws to paste: Road.backV (cut by pick.py; bodies as the Statement names them) -/
namespace Jvm.Pilot.@@N@@
namespace StrChars
open Jvm Sem ClassFile Op Lib Jvm.Stand Jvm.Free.XT Jvm.Free.ALB Jvm.Free.JM Jvm.Free
open Jvm.Lib.Cold (StaticIs)
/-- a char array whose places are chars -/
def Ch (a : Addr) (A : Cell) (U : State) : Prop := Arr .char a A U ∧ Typed .char A
theorem Ch.mv {a : Addr} {A : Cell} {U U' : State} (h : Ch a A U) (hal : U.vm.Alike U'.vm) (hh : U'.heap = U.heap) : Ch a A U' := ⟨h.1.mv hal hh, h.2⟩
theorem Ch.keep {a : Addr} {A : Cell} {U U' : State} (h : Ch a A U) (hal : U.vm.Alike U'.vm) (hk : U'.heap[a]? = some A) : Ch a A U' := ⟨h.1.keep hal hk, h.2⟩
/-- what place i of a char[]'s cell holds -/
def cv (A : Cell) (i : Nat) : Int32 := match A.slots[i]? with | some (.int x) => x | _ => 0
theorem Ch.get {a : Addr} {A : Cell} {U : State} (h : Ch a A U) {i : Nat} (hi : i < A.slots.size) : A.slots[i]? = some (.int (cv A i)) := by
  have e := Array.getElem?_eq_getElem hi
  have f := h.2 i _ e
  unfold cv; rw [e]
  generalize A.slots[i] = v at f
  cases v <;> simp [fits] at f ⊢
/-- the byte that i2b leaves of a char -/
def lo8 (x : Int32) : Int32 := x.toInt8.toInt32
theorem fits_lo8 (y : Int32) : fits .byte (.int (lo8 y)) = true := by
  have h1 := y.toInt8.le_toInt
  have h2 := y.toInt8.toInt_lt
  simp only [lo8, fits, Bool.and_eq_true, decide_eq_true_eq, Int32.le_iff_toInt_le, Int8.toInt_toInt32, show (-128 : Int32).toInt = -128 from by decide, show (127 : Int32).toInt = 127 from by decide]
  omega
/-- A' is A but that each place j of lo .. hi - 1 holds f j -/
def Laid (A A' : Cell) (lo hi : Nat) (f : Nat → Value) : Prop := A'.cls = A.cls ∧ A'.vm = A.vm ∧ A'.slots.size = A.slots.size ∧ ∀ i, A'.slots[i]? = if lo ≤ i ∧ i < hi then some (f i) else A.slots[i]?
theorem Laid.zero (A : Cell) (lo : Nat) (f : Nat → Value) : Laid A A lo (lo + 0) f := ⟨rfl, rfl, rfl, fun i => by rw [if_neg (by omega)]⟩
theorem Laid.step {A Ak : Cell} {lo k : Nat} {f : Nat → Value} {v : Value} (h : Laid A Ak lo k f) (hlo : lo ≤ k) (hk : k < Ak.slots.size) (hv : v = f k) : Laid A (Ak.setSlot k v) lo (k + 1) f := by
  refine ⟨h.1, h.2.1, by simpa [Cell.setSlot] using h.2.2.1, fun i => ?_⟩
  by_cases e : k = i
  · subst e; rw [Cell.slots_setSlot_self v hk, if_pos (by omega), hv]
  · rw [Cell.slots_setSlot_ne v e, h.2.2.2 i]
    by_cases q : lo ≤ i ∧ i < k
    · rw [if_pos q, if_pos (by omega)]
    · rw [if_neg q, if_neg (by omega)]
def U16 : String := "java/lang/StringUTF16"
namespace Cmp5
def yN : MethodName := ⟨"java/lang/StringUTF16", "compress", "([CI[BII)I"⟩
abbrev yB : ByteArray := jdk_52_method_21_code
theorem d0 : decode yB 0 = .ok (.iconst 0, 1) := by decide +kernel
theorem d1 : decode yB 1 = .ok (.istore 5, 2) := by decide +kernel
theorem d3 : decode yB 3 = .ok (.iload 5, 2) := by decide +kernel
theorem d5 : decode yB 5 = .ok (.iload 4, 2) := by decide +kernel
theorem d7 : decode yB 7 = .ok (.if_icmp (.ge) 37, 3) := by decide +kernel
theorem d10 : decode yB 10 = .ok (.aload_n 0, 1) := by decide +kernel
theorem d11 : decode yB 11 = .ok (.iload_n 1, 1) := by decide +kernel
theorem d12 : decode yB 12 = .ok (.caload, 1) := by decide +kernel
theorem d13 : decode yB 13 = .ok (.istore 6, 2) := by decide +kernel
theorem d15 : decode yB 15 = .ok (.iload 6, 2) := by decide +kernel
theorem d17 : decode yB 17 = .ok (.sipush 255, 3) := by decide +kernel
theorem d20 : decode yB 20 = .ok (.if_icmp (.le) 6, 3) := by decide +kernel
theorem d26 : decode yB 26 = .ok (.aload_n 2, 1) := by decide +kernel
theorem d27 : decode yB 27 = .ok (.iload_n 3, 1) := by decide +kernel
theorem d28 : decode yB 28 = .ok (.iload 6, 2) := by decide +kernel
theorem d30 : decode yB 30 = .ok (.i2b, 1) := by decide +kernel
theorem d31 : decode yB 31 = .ok (.bastore, 1) := by decide +kernel
theorem d32 : decode yB 32 = .ok (.iinc 1 1, 3) := by decide +kernel
theorem d35 : decode yB 35 = .ok (.iinc 3 1, 3) := by decide +kernel
theorem d38 : decode yB 38 = .ok (.iinc 5 1, 3) := by decide +kernel
theorem d41 : decode yB 41 = .ok (.goto (-38), 3) := by decide +kernel
theorem d44 : decode yB 44 = .ok (.iload 4, 2) := by decide +kernel
theorem d46 : decode yB 46 = .ok (.ireturn, 1) := by decide +kernel
def site : List Cond := []
def tab : Cond := tabOf yN yB 7 (some .int) site
def P (b : Addr) (A : Cell) (d : Addr) (B : Cell) (o q len : Nat) (args : Array Value) (s : State) : Prop := args = #[.ref b, .int (Int32.ofNat o), .ref d, .int (Int32.ofNat q), .int (Int32.ofNat len)] ∧ Ch b A s ∧ Arr .byte d B s ∧ b ≠ d ∧ o + len ≤ A.slots.size ∧ q + len ≤ B.slots.size ∧ ∀ i, i < len → ¬ 255 < cv A (o + i)
def E (b : Addr) (A : Cell) (d : Addr) (B : Cell) (o q len : Nat) (r : Option Value) (s u : State) : Prop := r = some (.int (Int32.ofNat len)) ∧ ∃ B', Put d B' s u ∧ Laid B B' q (q + len) (fun j => Value.int (lo8 (cv A (o + (j - q)))))
/-- no char of the range above 255: len; the places written hold each char's low byte -/
theorem law (l : Launch) (b : Addr) (A : Cell) (d : Addr) (B : Cell) (o q len : Nat) : Law l yN 5 5 0 0 yB 7 (some .int) site (P b A d B o q len) (E b A d B o q len) (copyLocs d q len) 0 0 := by
  refine Law.of_walk (plainFor_of_name (by decide +kernel)) (by decide +kernel) (by decide +kernel) (by decide) (fun _ _ h => by rw [h.1]; rfl) (fun _ U U' hal hh h => ⟨h.1, h.2.1.mv hal hh, h.2.2.1.mv hal hh, h.2.2.2⟩) (fun r U U' V V' h1 hal h2 h => ⟨h.1, h.2.elim fun B' q => ⟨B', q.1.mv h1 h2, q.2⟩⟩) ?_
  intro p e s m args below meth c s₁ X0 hexec hbytes hml hret hlk hnm hown hh0 W hP
  obtain ⟨rfl, hA, hB, hne, l1, l2, hp⟩ := hP
  have c1 : Steps p.tables e below (s₁.setTop (entryFrame m #[.ref b, .int (Int32.ofNat o), .ref d, .int (Int32.ofNat q), .int (Int32.ofNat len)] 7)) (s₁.setTop (mkF m 0 #[.val (.ref b), .val (.int (Int32.ofNat o)), .val (.ref d), .val (.int (Int32.ofNat q)), .val (.int (Int32.ofNat len)), .unset, .unset] [])) := entry rfl
  have hA0 := hA.1.mv X0.warmed.alike hh0
  have hB0 := hB.mv X0.warmed.alike hh0
  have a31 := hA.1.2.2.2
  have c2 : Steps p.tables e below (s₁.setTop (entryFrame m #[.ref b, .int (Int32.ofNat o), .ref d, .int (Int32.ofNat q), .int (Int32.ofNat len)] 7)) (s₁.setTop (mkF m 3 #[.val (.ref b), .val (.int (Int32.ofNat o)), .val (.ref d), .val (.int (Int32.ofNat q)), .val (.int (Int32.ofNat len)), .val (.int 0), .unset] [])) := c1.trans (by
    refine iconstV X0.here hexec rfl 0 (hb hbytes d0) (by decide) ?_
    refine XS.istore X0.here hexec rfl (hb hbytes d1) rfl rfl ?_
    exact Steps.refl _)
  have loop : ∀ (r i : Nat), i + r = len → ∀ (z : Slot), (z = .unset ∨ ∃ w, z = .val w ∧ w.category = 1) → ∀ (Tl : State) (Bk : Cell), Stand p l e { frames := 0, locals := 0, cells := 0, slots := 0 } s m #[.ref b, .int (Int32.ofNat o), .ref d, .int (Int32.ofNat q), .int (Int32.ofNat len)] below meth c Tl ([] ++ copyLocs d q i) 0 0 → Put d Bk s₁ Tl → Laid B Bk q (q + i) (fun j => Value.int (lo8 (cv A (o + (j - q))))) →
      Steps p.tables e below (s₁.setTop (entryFrame m #[.ref b, .int (Int32.ofNat o), .ref d, .int (Int32.ofNat q), .int (Int32.ofNat len)] 7)) (Tl.setTop (mkF m 3 #[.val (.ref b), .val (.int (Int32.ofNat (o + i))), .val (.ref d), .val (.int (Int32.ofNat (q + i))), .val (.int (Int32.ofNat len)), .val (.int (Int32.ofNat i)), z] [])) → ∃ (T' : State) (B' : Cell) (z' : Slot), Stand p l e { frames := 0, locals := 0, cells := 0, slots := 0 } s m #[.ref b, .int (Int32.ofNat o), .ref d, .int (Int32.ofNat q), .int (Int32.ofNat len)] below meth c T' ([] ++ copyLocs d q len) 0 0 ∧ Put d B' s₁ T' ∧ Laid B B' q (q + len) (fun j => Value.int (lo8 (cv A (o + (j - q))))) ∧
      Steps p.tables e below (s₁.setTop (entryFrame m #[.ref b, .int (Int32.ofNat o), .ref d, .int (Int32.ofNat q), .int (Int32.ofNat len)] 7)) (T'.setTop (mkF m 3 #[.val (.ref b), .val (.int (Int32.ofNat (o + len))), .val (.ref d), .val (.int (Int32.ofNat (q + len))), .val (.int (Int32.ofNat len)), .val (.int (Int32.ofNat len)), z'] [])) := by
    intro r
    induction r with
    | zero =>
      intro i hi z hz Tl Bk Xl pl fl cl
      have hil : i = len := by omega
      rw [hil] at Xl fl cl
      exact ⟨Tl, Bk, z, Xl, pl, fl, cl⟩
    | succ r ih =>
      intro i hi z hz Tl Bk Xl pl fl cl
      have all := X0.warmed.alike.symm.trans Xl.warmed.alike
      have hAl := hA0.keep all (pl.other hne hA0.1)
      have hBk := hB0.like all pl.1 fl.1 fl.2.1 fl.2.2.1
      have hlt : q + i < Bk.slots.size := by rw [fl.2.2.1]; omega
      have c3 : Steps p.tables e below (s₁.setTop (entryFrame m #[.ref b, .int (Int32.ofNat o), .ref d, .int (Int32.ofNat q), .int (Int32.ofNat len)] 7)) (Tl.setTop (mkF m 12 #[.val (.ref b), .val (.int (Int32.ofNat (o + i))), .val (.ref d), .val (.int (Int32.ofNat (q + i))), .val (.int (Int32.ofNat len)), .val (.int (Int32.ofNat i)), z] [.int (Int32.ofNat (o + i)), .ref b])) := cl.trans (by
        refine XS.iload Xl.here hexec rfl (hb hbytes d3) rfl ?_
        refine XS.iload Xl.here hexec rfl (hb hbytes d5) rfl ?_
        refine XS.icmpNo Xl.here hexec rfl (hb hbytes d7) rfl (ii_ge_f (lt32 (by omega) (by omega))) ?_
        refine XS.aloadN Xl.here hexec rfl (hb hbytes d10) rfl rfl ?_
        refine XS.iloadN Xl.here hexec rfl (hb hbytes d11) rfl ?_
        exact Steps.refl _)
      have c4 : Steps p.tables e below (s₁.setTop (entryFrame m #[.ref b, .int (Int32.ofNat o), .ref d, .int (Int32.ofNat q), .int (Int32.ofNat len)] 7)) (Tl.setTop (mkF m 13 #[.val (.ref b), .val (.int (Int32.ofNat (o + i))), .val (.ref d), .val (.int (Int32.ofNat (q + i))), .val (.int (Int32.ofNat len)), .val (.int (Int32.ofNat i)), z] [.int (cv A (o + i))])) := c3.trans (by
        refine Xl.aget hexec hAl rfl (hA.get (i := o + i) (by omega)) rfl rfl (hb hbytes d12) ?_
        exact Steps.refl _)
      have c5 : Steps p.tables e below (s₁.setTop (entryFrame m #[.ref b, .int (Int32.ofNat o), .ref d, .int (Int32.ofNat q), .int (Int32.ofNat len)] 7)) (Tl.setTop (mkF m 15 #[.val (.ref b), .val (.int (Int32.ofNat (o + i))), .val (.ref d), .val (.int (Int32.ofNat (q + i))), .val (.int (Int32.ofNat len)), .val (.int (Int32.ofNat i)), .val (.int (cv A (o + i)))] [])) := c4.trans (by
        refine XS.istoreS Xl.here hexec rfl (hb hbytes d13) rfl rfl hz ?_
        exact Steps.refl _)
      have c6 : Steps p.tables e below (s₁.setTop (entryFrame m #[.ref b, .int (Int32.ofNat o), .ref d, .int (Int32.ofNat q), .int (Int32.ofNat len)] 7)) (Tl.setTop (mkF m 31 #[.val (.ref b), .val (.int (Int32.ofNat (o + i))), .val (.ref d), .val (.int (Int32.ofNat (q + i))), .val (.int (Int32.ofNat len)), .val (.int (Int32.ofNat i)), .val (.int (cv A (o + i)))] [.int (lo8 (cv A (o + i))), .int (Int32.ofNat (q + i)), .ref d])) := c5.trans (by
        refine XS.iload Xl.here hexec rfl (hb hbytes d15) rfl ?_
        refine sipushV Xl.here hexec rfl 255 (hb hbytes d17) (by decide) ?_
        refine XS.icmpYes Xl.here hexec rfl (pc0 := 20) rfl (hb hbytes d20) rfl (ii_le_t (hp i (by omega))) (by decide) rfl ?_
        refine XS.aloadN Xl.here hexec rfl (hb hbytes d26) rfl rfl ?_
        refine XS.iloadN Xl.here hexec rfl (hb hbytes d27) rfl ?_
        refine XS.iload Xl.here hexec rfl (hb hbytes d28) rfl ?_
        refine i2b Xl.here hexec rfl (hb hbytes d30) rfl ?_
        exact Steps.refl _)
      obtain ⟨T7, X7, p7, st7⟩ := Xl.aput hexec hBk rfl hlt rfl (fits_lo8 (cv A (o + i))) (g := (mkF m 31 #[.val (.ref b), .val (.int (Int32.ofNat (o + i))), .val (.ref d), .val (.int (Int32.ofNat (q + i))), .val (.int (Int32.ofNat len)), .val (.int (Int32.ofNat i)), .val (.int (cv A (o + i)))] [.int (lo8 (cv A (o + i))), .int (Int32.ofNat (q + i)), .ref d])) rfl (rest := []) rfl (hb hbytes d31)
      have c8 : Steps p.tables e below (s₁.setTop (entryFrame m #[.ref b, .int (Int32.ofNat o), .ref d, .int (Int32.ofNat q), .int (Int32.ofNat len)] 7)) (T7.setTop (mkF m 32 #[.val (.ref b), .val (.int (Int32.ofNat (o + i))), .val (.ref d), .val (.int (Int32.ofNat (q + i))), .val (.int (Int32.ofNat len)), .val (.int (Int32.ofNat i)), .val (.int (cv A (o + i)))] [])) := c6.trans (st7 _ (Steps.refl _))
      have c9 : Steps p.tables e below (s₁.setTop (entryFrame m #[.ref b, .int (Int32.ofNat o), .ref d, .int (Int32.ofNat q), .int (Int32.ofNat len)] 7)) (T7.setTop (mkF m 3 #[.val (.ref b), .val (.int (Int32.ofNat (o + i) + 1)), .val (.ref d), .val (.int (Int32.ofNat (q + i) + 1)), .val (.int (Int32.ofNat len)), .val (.int (Int32.ofNat i + 1)), .val (.int (cv A (o + i)))] [])) := c8.trans (by
        refine iincV X7.here hexec rfl 1 (hb hbytes d32) (by decide) rfl rfl ?_
        refine iincV X7.here hexec rfl 1 (hb hbytes d35) (by decide) rfl rfl ?_
        refine iincV X7.here hexec rfl 1 (hb hbytes d38) (by decide) rfl rfl ?_
        refine XS.goto X7.here hexec rfl (pc0 := 41) rfl (hb hbytes d41) (by decide) rfl ?_
        exact Steps.refl _)
      have c10 : Steps p.tables e below (s₁.setTop (entryFrame m #[.ref b, .int (Int32.ofNat o), .ref d, .int (Int32.ofNat q), .int (Int32.ofNat len)] 7)) (T7.setTop (mkF m 3 #[.val (.ref b), .val (.int (Int32.ofNat (o + (i + 1)))), .val (.ref d), .val (.int (Int32.ofNat (q + (i + 1)))), .val (.int (Int32.ofNat len)), .val (.int (Int32.ofNat (i + 1))), .val (.int (cv A (o + i)))] [])) := by
        have := c9
        rw [succ32, succ32, succ32] at this
        exact this
      exact ih (i + 1) (by omega) _ (Or.inr ⟨_, rfl, rfl⟩) T7 _ (by rw [copyLocs_step, ← List.append_assoc]; exact X7) (pl.trans p7) (fl.step (by omega) hlt (by simp)) c10
  obtain ⟨T9, B9, z9, X9, p9, f9, g9⟩ := loop len 0 (by omega) .unset (Or.inl rfl) s₁ B (by simpa [copyLocs] using X0) ⟨hB0.1, fun _ _ => rfl, rfl⟩ (Laid.zero _ _ _) c2
  have c11 : Steps p.tables e below (s₁.setTop (entryFrame m #[.ref b, .int (Int32.ofNat o), .ref d, .int (Int32.ofNat q), .int (Int32.ofNat len)] 7)) (T9.setTop (mkF m 46 #[.val (.ref b), .val (.int (Int32.ofNat (o + len))), .val (.ref d), .val (.int (Int32.ofNat (q + len))), .val (.int (Int32.ofNat len)), .val (.int (Int32.ofNat len)), z9] [.int (Int32.ofNat len)])) := g9.trans (by
    refine XS.iload X9.here hexec rfl (hb hbytes d3) rfl ?_
    refine XS.iload X9.here hexec rfl (hb hbytes d5) rfl ?_
    refine XS.icmpYes X9.here hexec rfl (pc0 := 7) rfl (hb hbytes d7) rfl (ii_ge_t (nlt32 (by omega) (Nat.le_refl _))) (by decide) rfl ?_
    refine XS.iload X9.here hexec rfl (hb hbytes d44) rfl ?_
    exact Steps.refl _)
  exact ⟨T9, some (.int (Int32.ofNat len)), _, _, _, X9, by simp, rfl, rfl, (fun h => by cases h), ⟨rfl, B9, p9.from hh0, f9⟩, fun fs hl => c11.trans (X9.ireturnOut hexec hret rfl (Or.inl rfl) (hb hbytes d46) hl)⟩
end Cmp5
namespace Cmp3
def yN : MethodName := ⟨"java/lang/StringUTF16", "compress", "([CII)[B"⟩
abbrev yB : ByteArray := jdk_52_method_16_code
theorem d0 : decode yB 0 = .ok (.iload_n 2, 1) := by decide +kernel
theorem d1 : decode yB 1 = .ok (.newarray .byte, 2) := by decide +kernel
theorem d3 : decode yB 3 = .ok (.astore_n 3, 1) := by decide +kernel
theorem d4 : decode yB 4 = .ok (.aload_n 0, 1) := by decide +kernel
theorem d5 : decode yB 5 = .ok (.iload_n 1, 1) := by decide +kernel
theorem d6 : decode yB 6 = .ok (.aload_n 3, 1) := by decide +kernel
theorem d7 : decode yB 7 = .ok (.iconst 0, 1) := by decide +kernel
theorem d8 : decode yB 8 = .ok (.iload_n 2, 1) := by decide +kernel
theorem d9 : decode yB 9 = .ok (.invokestatic 115, 3) := by decide +kernel
theorem d12 : decode yB 12 = .ok (.istore 4, 2) := by decide +kernel
theorem d14 : decode yB 14 = .ok (.iload 4, 2) := by decide +kernel
theorem d16 : decode yB 16 = .ok (.iload_n 2, 1) := by decide +kernel
theorem d17 : decode yB 17 = .ok (.if_icmp (.eq) 40, 3) := by decide +kernel
theorem d57 : decode yB 57 = .ok (.aload_n 3, 1) := by decide +kernel
theorem d58 : decode yB 58 = .ok (.areturn, 1) := by decide +kernel
def site : List Cond := [.arrayClass .byte, Cmp5.tab] ++ staticW U16 115 Cmp5.yN
def tab : Cond := tabOf yN yB 6 (some (.array .byte)) site
def P (b : Addr) (A : Cell) (o len : Nat) (args : Array Value) (s : State) : Prop := args = #[.ref b, .int (Int32.ofNat o), .int (Int32.ofNat len)] ∧ Ch b A s ∧ o + len ≤ A.slots.size ∧ len ≤ 536870912 ∧ ∀ i, i < len → ¬ 255 < cv A (o + i)
def E (b : Addr) (A : Cell) (o len : Nat) (r : Option Value) (s u : State) : Prop := NewArr .byte "[B" len (fun j => .int (lo8 (cv A (o + j)))) r s u ∧ u.heap.size = s.heap.size + 1
/-- no char of the range above 255: a new byte[] of their low bytes -/
theorem law (l : Launch) (b : Addr) (A : Cell) (o len : Nat) : Law l yN 3 3 1 18 yB 6 (some (.array .byte)) site (P b A o len) (E b A o len) [] 1 len := by
  refine Law.of_walk (plainFor_of_name (by decide +kernel)) (by decide +kernel) (by decide +kernel) (by decide) (fun _ _ h => by rw [h.1]; rfl) (fun _ U U' hal hh h => ⟨h.1, h.2.1.mv hal hh, h.2.2⟩) (fun r U U' V V' h1 hal h2 h => ⟨NewArr.mv r U U' V V' h1 hal h2 h.1, by rw [h1, h2]; exact h.2⟩) ?_
  intro p e s m args below meth c s₁ X0 hexec hbytes hml hret hlk hnm hown hh0 W hP
  obtain ⟨rfl, hA, l1, l2, hp⟩ := hP
  have a31 := hA.1.2.2.2
  have c1 : Steps p.tables e below (s₁.setTop (entryFrame m #[.ref b, .int (Int32.ofNat o), .int (Int32.ofNat len)] 6)) (s₁.setTop (mkF m 0 #[.val (.ref b), .val (.int (Int32.ofNat o)), .val (.int (Int32.ofNat len)), .unset, .unset, .unset] [])) := entry rfl
  have c2 : Steps p.tables e below (s₁.setTop (entryFrame m #[.ref b, .int (Int32.ofNat o), .int (Int32.ofNat len)] 6)) (s₁.setTop (mkF m 1 #[.val (.ref b), .val (.int (Int32.ofNat o)), .val (.int (Int32.ofNat len)), .unset, .unset, .unset] [.int (Int32.ofNat len)])) := c1.trans (by
    refine XS.iloadN X0.here hexec rfl (hb hbytes d0) rfl ?_
    exact Steps.refl _)
  obtain ⟨T3, B3, X3, ba3, bs3, bv3, bh3, bf3, st3⟩ := X0.anew hexec (atype := .byte) (wk W (.arrayClass .byte)) rfl (by show len * 1 ≤ _; omega) (by omega) (g := (mkF m 1 #[.val (.ref b), .val (.int (Int32.ofNat o)), .val (.int (Int32.ofNat len)), .unset, .unset, .unset] [.int (Int32.ofNat len)])) rfl (hb hbytes d1) (rest := []) rfl (Nat.le_refl _) (by show 0 + len ≤ len; omega)
  rw [hh0] at ba3 st3
  have kp3 : XT.Kept s T3 := (XT.Kept.of_eq hh0).push bh3
  have hA3 := hA.keep X3.warmed.alike (kp3 _ _ hA.1.1)
  have hne : b ≠ s.heap.size := hA.1.ne
  have c4 : Steps p.tables e below (s₁.setTop (entryFrame m #[.ref b, .int (Int32.ofNat o), .int (Int32.ofNat len)] 6)) (T3.setTop (mkF m 3 #[.val (.ref b), .val (.int (Int32.ofNat o)), .val (.int (Int32.ofNat len)), .unset, .unset, .unset] [.ref s.heap.size])) := c2.trans (st3 _ (Steps.refl _))
  have c5 : Steps p.tables e below (s₁.setTop (entryFrame m #[.ref b, .int (Int32.ofNat o), .int (Int32.ofNat len)] 6)) (T3.setTop (mkF m 9 #[.val (.ref b), .val (.int (Int32.ofNat o)), .val (.int (Int32.ofNat len)), .val (.ref s.heap.size), .unset, .unset] [.int (Int32.ofNat len), .int 0, .ref s.heap.size, .int (Int32.ofNat o), .ref b])) := c4.trans (by
    refine XS.astoreN X3.here hexec rfl (hb hbytes d3) rfl rfl rfl ?_
    refine XS.aloadN X3.here hexec rfl (hb hbytes d4) rfl rfl ?_
    refine XS.iloadN X3.here hexec rfl (hb hbytes d5) rfl ?_
    refine XS.aloadN X3.here hexec rfl (hb hbytes d6) rfl rfl ?_
    refine iconstV X3.here hexec rfl 0 (hb hbytes d7) (by decide) ?_
    refine XS.iloadN X3.here hexec rfl (hb hbytes d8) rfl ?_
    exact Steps.refl _)
  obtain ⟨v6, T6, X6, E6, g6⟩ := X3.callS hexec (Cmp5.law l b A s.heap.size B3 o 0 len) hown (wks W (staticW U16 115 Cmp5.yN)) (wk W Cmp5.tab) (W := 0) (Nat.le_of_ble_eq_true rfl) (Nat.le_of_ble_eq_true rfl) (Nat.le_refl _) (by show 0 + len + 0 ≤ len; omega) (g := (mkF m 9 #[.val (.ref b), .val (.int (Int32.ofNat o)), .val (.int (Int32.ofNat len)), .val (.ref s.heap.size), .unset, .unset] [.int (Int32.ofNat len), .int (Int32.ofNat 0), .ref s.heap.size, .int (Int32.ofNat o), .ref b])) rfl (by rw [hml]; rfl) c5 (argsL := [.ref b, .int (Int32.ofNat o), .ref s.heap.size, .int (Int32.ofNat 0), .int (Int32.ofNat len)]) (rest := []) rfl rfl (by show 2 * 0 + 0 ≤ _; decide) (hb hbytes d9) (⟨rfl, hA3, ba3, hne, l1, by rw [bs3]; simp, hp⟩)
  obtain ⟨rfl, B6, p6, f6⟩ := E6
  have c7 : Steps p.tables e below (s₁.setTop (entryFrame m #[.ref b, .int (Int32.ofNat o), .int (Int32.ofNat len)] 6)) (T6.setTop (mkF m 12 #[.val (.ref b), .val (.int (Int32.ofNat o)), .val (.int (Int32.ofNat len)), .val (.ref s.heap.size), .unset, .unset] [.int (Int32.ofNat len)])) := g6
  have c8 : Steps p.tables e below (s₁.setTop (entryFrame m #[.ref b, .int (Int32.ofNat o), .int (Int32.ofNat len)] 6)) (T6.setTop (mkF m 58 #[.val (.ref b), .val (.int (Int32.ofNat o)), .val (.int (Int32.ofNat len)), .val (.ref s.heap.size), .val (.int (Int32.ofNat len)), .unset] [.ref s.heap.size])) := c7.trans (by
    refine XS.istore X6.here hexec rfl (hb hbytes d12) rfl rfl ?_
    refine XS.iload X6.here hexec rfl (hb hbytes d14) rfl ?_
    refine XS.iloadN X6.here hexec rfl (hb hbytes d16) rfl ?_
    refine XS.icmpYes X6.here hexec rfl (pc0 := 17) rfl (hb hbytes d17) rfl (ii_eq_t rfl) (by decide) rfl ?_
    refine XS.aloadN X6.here hexec rfl (hb hbytes d57) rfl rfl ?_
    exact Steps.refl _)
  have X8 := X6.wide (L' := []) (cells' := 1) (slots' := len) (fun x hx hlt => by
    simp only [List.nil_append, copyLocs, List.mem_map, List.mem_range] at hx
    obtain ⟨i, -, rfl⟩ := hx
    exact absurd hlt (Nat.lt_irrefl _)) (Nat.le_refl _) (by omega)
  exact ⟨T6, some (.ref s.heap.size), _, _, _, X8, rfl, rfl, rfl, (fun h => by cases h), ⟨⟨rfl, B6, ba3.like (X3.warmed.alike.symm.trans X6.warmed.alike) p6.1 f6.1 f6.2.1 f6.2.2.1, f6.2.1.trans bv3, by rw [X6.warmed.alike.findClass, f6.1]; exact bf3, by rw [f6.2.2.1, bs3]; simp, fun j hj => by rw [f6.2.2.2 j, if_pos (by omega)]; rfl, kp3.put p6 (Nat.le_refl _)⟩, by rw [p6.2.2, bh3, hh0]; simp⟩, fun fs hl => c8.trans (X8.areturnOut hexec rfl hret rfl (hb hbytes d58) hl)⟩
end Cmp3
namespace CodL
def yN : MethodName := ⟨"java/lang/StringUTF16", "coderFromArrayLen", "([BI)B"⟩
abbrev yB : ByteArray := jdk_52_method_15_code
theorem d0 : decode yB 0 = .ok (.iload_n 1, 1) := by decide +kernel
theorem d1 : decode yB 1 = .ok (.aload_n 0, 1) := by decide +kernel
theorem d2 : decode yB 2 = .ok (.arraylength, 1) := by decide +kernel
theorem d3 : decode yB 3 = .ok (.isub, 1) := by decide +kernel
theorem d4 : decode yB 4 = .ok (.bipush 31, 2) := by decide +kernel
theorem d6 : decode yB 6 = .ok (.iushr, 1) := by decide +kernel
theorem d7 : decode yB 7 = .ok (.i2b, 1) := by decide +kernel
theorem d8 : decode yB 8 = .ok (.ireturn, 1) := by decide +kernel
def site : List Cond := []
def tab : Cond := tabOf yN yB 2 (some .byte) site
def P (d : Addr) (B : Cell) (args : Array Value) (s : State) : Prop := args = #[.ref d, .int (Int32.ofNat B.slots.size)] ∧ Arr .byte d B s
def E (r : Option Value) (s u : State) : Prop := XT.PureE (some (.int 0)) r s u
/-- an array as long as the number of chars: LATIN1 -/
theorem law (l : Launch) (d : Addr) (B : Cell) : Law l yN 2 2 0 0 yB 2 (some .byte) site (P d B) E [] 0 0 := by
  refine Law.of_walk (plainFor_of_name (by decide +kernel)) (by decide +kernel) (by decide +kernel) (by decide) (fun _ _ h => by rw [h.1]; rfl) (fun _ U U' hal hh h => ⟨h.1, h.2.mv hal hh⟩) (fun r U U' V V' h1 hal h2 h => XT.PureE.mv r U U' V V' h1 hal h2 h) ?_
  intro p e s m args below meth c s₁ X0 hexec hbytes hml hret hlk hnm hown hh0 W hP
  obtain ⟨rfl, hB⟩ := hP
  have hB0 := hB.mv X0.warmed.alike hh0
  have c1 : Steps p.tables e below (s₁.setTop (entryFrame m #[.ref d, .int (Int32.ofNat B.slots.size)] 2)) (s₁.setTop (mkF m 0 #[.val (.ref d), .val (.int (Int32.ofNat B.slots.size))] [])) := entry rfl
  have c2 : Steps p.tables e below (s₁.setTop (entryFrame m #[.ref d, .int (Int32.ofNat B.slots.size)] 2)) (s₁.setTop (mkF m 2 #[.val (.ref d), .val (.int (Int32.ofNat B.slots.size))] [.ref d, .int (Int32.ofNat B.slots.size)])) := c1.trans (by
    refine XS.iloadN X0.here hexec rfl (hb hbytes d0) rfl ?_
    refine XS.aloadN X0.here hexec rfl (hb hbytes d1) rfl rfl ?_
    exact Steps.refl _)
  have c3 : Steps p.tables e below (s₁.setTop (entryFrame m #[.ref d, .int (Int32.ofNat B.slots.size)] 2)) (s₁.setTop (mkF m 8 #[.val (.ref d), .val (.int (Int32.ofNat B.slots.size))] [.int (lo8 (ushr (Int32.ofNat B.slots.size - Int32.ofNat B.slots.size) 31))])) := c2.trans (by
    refine X0.alen hexec hB0 rfl rfl (hb hbytes d2) ?_
    refine XS.isub X0.here hexec rfl (hb hbytes d3) rfl ?_
    refine bipushV X0.here hexec rfl 31 (hb hbytes d4) (by decide) ?_
    refine iushr X0.here hexec rfl (hb hbytes d6) rfl ?_
    refine i2b X0.here hexec rfl (hb hbytes d7) rfl ?_
    exact Steps.refl _)
  have e0 : lo8 (ushr (Int32.ofNat B.slots.size - Int32.ofNat B.slots.size) 31) = 0 := by rw [Int32.sub_self]; decide
  rw [e0] at c3
  exact ⟨s₁, some (.int 0), _, _, _, X0, rfl, rfl, rfl, (fun h => by cases h), ⟨rfl, hh0⟩, fun fs hl => c3.trans (X0.ireturnOut hexec hret rfl (Or.inr (Or.inr (Or.inl rfl))) (hb hbytes d8) hl)⟩
end CodL
/-- the String at a is Latin-1 over a new byte[] (the heap's one new cell): the low bytes of the len chars of A from o on; every cell but a is kept -/
def Got (a : Addr) (D : Cell) (fV fC : Field) (A : Cell) (o len : Nat) (r : Option Value) (s u : State) : Prop := r = none ∧ ∃ D' V : Cell, Blank "java/lang/String" a D' u ∧ Same D D' [fV.slot, fC.slot] ∧ D'.slots[fV.slot]? = some (.ref s.heap.size) ∧ D'.slots[fC.slot]? = some (.int 0) ∧ Arr .byte s.heap.size V u ∧ V.vm = .none ∧ u.vm.findClass "[B" = some V.cls ∧ V.slots.size = len ∧ (∀ j, j < len → V.slots[j]? = some (.int (lo8 (cv A (o + j))))) ∧ (∀ (y : Addr) (c : Cell), y ≠ a → s.heap[y]? = some c → u.heap[y]? = some c) ∧ u.heap.size = s.heap.size + 1
theorem Got.mv {a : Addr} {D A : Cell} {fV fC : Field} {o len : Nat} : ∀ r (U U' V V' : State), U'.heap = U.heap → V.vm.Alike V'.vm → V'.heap = V.heap → Got a D fV fC A o len r U V → Got a D fV fC A o len r U' V' :=
  fun r U U' V V' h1 hal h2 ⟨e0, D', X, a1, a2, a3, a4, a5, a6, a7, a8, a9, a10, a11⟩ => ⟨e0, D', X, a1.mv hal h2, a2, by rw [h1]; exact a3, a4, by rw [h1]; exact a5.mv hal h2, a6, by rw [hal.findClass]; exact a7, a8, a9, by rw [h1, h2]; exact a10, by rw [h1, h2]; exact a11⟩
namespace New4
def yN : MethodName := ⟨"java/lang/String", "<init>", "([CIILjava/lang/Void;)V"⟩
abbrev yB : ByteArray := jdk_42_method_149_code
theorem d0 : decode yB 0 = .ok (.aload_n 0, 1) := by decide +kernel
theorem d1 : decode yB 1 = .ok (.invokespecial 1, 3) := by decide +kernel
theorem d4 : decode yB 4 = .ok (.iload_n 3, 1) := by decide +kernel
theorem d5 : decode yB 5 = .ok (.ifCond (.ne) 22, 3) := by decide +kernel
theorem d27 : decode yB 27 = .ok (.getstatic 38, 3) := by decide +kernel
theorem d30 : decode yB 30 = .ok (.ifCond (.eq) 28, 3) := by decide +kernel
theorem d33 : decode yB 33 = .ok (.aload_n 1, 1) := by decide +kernel
theorem d34 : decode yB 34 = .ok (.iload_n 2, 1) := by decide +kernel
theorem d35 : decode yB 35 = .ok (.iload_n 3, 1) := by decide +kernel
theorem d36 : decode yB 36 = .ok (.invokestatic 177, 3) := by decide +kernel
theorem d39 : decode yB 39 = .ok (.astore 5, 2) := by decide +kernel
theorem d41 : decode yB 41 = .ok (.aload_n 0, 1) := by decide +kernel
theorem d42 : decode yB 42 = .ok (.aload 5, 2) := by decide +kernel
theorem d44 : decode yB 44 = .ok (.iload_n 3, 1) := by decide +kernel
theorem d45 : decode yB 45 = .ok (.invokestatic 47, 3) := by decide +kernel
theorem d48 : decode yB 48 = .ok (.putfield 15, 3) := by decide +kernel
theorem d51 : decode yB 51 = .ok (.aload_n 0, 1) := by decide +kernel
theorem d52 : decode yB 52 = .ok (.aload 5, 2) := by decide +kernel
theorem d54 : decode yB 54 = .ok (.putfield 9, 3) := by decide +kernel
theorem d57 : decode yB 57 = .ok (.return_, 1) := by decide +kernel
def site : List Cond := [.fieldLink "java/lang/String" 38 "java/lang/String" "COMPACT_STRINGS" "Z", Cmp3.tab, CodL.tab, .laysFinal "java/lang/String" "java/lang/String" "value" "[B", .fieldLink "java/lang/String" 9 "java/lang/String" "value" "[B", .laysFinal "java/lang/String" "java/lang/String" "coder" "B", .fieldLink "java/lang/String" 15 "java/lang/String" "coder" "B"] ++ objW "java/lang/String" 1 ++ staticW "java/lang/String" 177 Cmp3.yN ++ staticW "java/lang/String" 47 CodL.yN
def tab : Cond := tabOf yN yB 6 none site
def P (a : Addr) (D : Cell) (fV fC : Field) (b : Addr) (A : Cell) (z : Int32) (o len : Nat) (args : Array Value) (s : State) : Prop := args = #[.ref a, .ref b, .int (Int32.ofNat o), .int (Int32.ofNat len), .null] ∧ Blank "java/lang/String" a D s ∧ Found "java/lang/String" "value" "[B" fV s ∧ Found "java/lang/String" "coder" "B" fC s ∧ Ch b A s ∧ StaticIs s "java/lang/String" "COMPACT_STRINGS" "Z" (.int z) ∧ ¬ z = 0 ∧ 0 < len ∧ o + len ≤ A.slots.size ∧ len ≤ 536870912 ∧ ∀ i, i < len → ¬ 255 < cv A (o + i)
def E (a : Addr) (D : Cell) (fV fC : Field) (A : Cell) (o len : Nat) (r : Option Value) (s u : State) : Prop := Got a D fV fC A o len r s u
/-- len > 0, no char of the range above 255: a Latin-1 String of their low bytes -/
theorem law (l : Launch) (a : Addr) (D : Cell) (fV fC : Field) (b : Addr) (A : Cell) (z : Int32) (o len : Nat) : Law l yN 5 4 2 35 yB 6 none site (P a D fV fC b A z o len) (E a D fV fC A o len) [⟨a, fC.slot⟩, ⟨a, fV.slot⟩] 1 len := by
  refine Law.of_walk (plainFor_of_name (by decide +kernel)) (by decide +kernel) (by decide +kernel) (by decide) (fun _ _ h => by rw [h.1]; rfl) (fun _ U U' hal hh h => ⟨h.1, h.2.1.mv hal hh, h.2.2.1.al hal, h.2.2.2.1.al hal, h.2.2.2.2.1.mv hal hh, h.2.2.2.2.2.1.there hal hh, h.2.2.2.2.2.2⟩) (fun r U U' V V' h1 hal h2 h => Got.mv r U U' V V' h1 hal h2 h) ?_
  intro p e s m args below meth c s₁ X0 hexec hbytes hml hret hlk hnm hown hh0 W hP
  obtain ⟨rfl, hB, f1, f2, hA, s1, hz, l0, l1, l2, hp⟩ := hP
  have a31 := hA.1.2.2.2
  have c1 : Steps p.tables e below (s₁.setTop (entryFrame m #[.ref a, .ref b, .int (Int32.ofNat o), .int (Int32.ofNat len), .null] 6)) (s₁.setTop (mkF m 0 #[.val (.ref a), .val (.ref b), .val (.int (Int32.ofNat o)), .val (.int (Int32.ofNat len)), .val .null, .unset] [])) := entry rfl
  have c2 : Steps p.tables e below (s₁.setTop (entryFrame m #[.ref a, .ref b, .int (Int32.ofNat o), .int (Int32.ofNat len), .null] 6)) (s₁.setTop (mkF m 1 #[.val (.ref a), .val (.ref b), .val (.int (Int32.ofNat o)), .val (.int (Int32.ofNat len)), .val .null, .unset] [.ref a])) := c1.trans (by
    refine XS.aloadN X0.here hexec rfl (hb hbytes d0) rfl rfl ?_
    exact Steps.refl _)
  obtain ⟨T3, X3, q3, st3⟩ := X0.oinit hexec hown (wks W (objW "java/lang/String" 1)) (g := (mkF m 1 #[.val (.ref a), .val (.ref b), .val (.int (Int32.ofNat o)), .val (.int (Int32.ofNat len)), .val .null, .unset] [.ref a])) rfl (by rw [hml]; rfl) (rest := []) rfl (hb hbytes d1) (W := 0) (by show 2 * 0 + 0 ≤ _; decide) (Nat.le_of_ble_eq_true rfl) (Nat.le_of_ble_eq_true rfl)
  have hh3 := q3.trans hh0
  have c4 : Steps p.tables e below (s₁.setTop (entryFrame m #[.ref a, .ref b, .int (Int32.ofNat o), .int (Int32.ofNat len), .null] 6)) (T3.setTop (mkF m 27 #[.val (.ref a), .val (.ref b), .val (.int (Int32.ofNat o)), .val (.int (Int32.ofNat len)), .val .null, .unset] [])) := (c2.trans (st3 _ (Steps.refl _))).trans (by
    refine XS.iloadN X3.here hexec rfl (hb hbytes d4) rfl ?_
    refine XS.ifYes X3.here hexec rfl (pc0 := 5) rfl (hb hbytes d5) rfl (i0_ne_t (nz32 (by omega) l0)) (by decide) rfl ?_
    exact Steps.refl _)
  obtain ⟨T5, X5, q5, st5⟩ := X3.sget hexec hown (wk W (.fieldLink "java/lang/String" 38 "java/lang/String" "COMPACT_STRINGS" "Z")) s1 (fun _ _ h => by rw [hh3]; exact h) (g := (mkF m 27 #[.val (.ref a), .val (.ref b), .val (.int (Int32.ofNat o)), .val (.int (Int32.ofNat len)), .val .null, .unset] [])) rfl (hb hbytes d27)
  have hh5 := q5.trans hh3
  have c6 : Steps p.tables e below (s₁.setTop (entryFrame m #[.ref a, .ref b, .int (Int32.ofNat o), .int (Int32.ofNat len), .null] 6)) (T5.setTop (mkF m 30 #[.val (.ref a), .val (.ref b), .val (.int (Int32.ofNat o)), .val (.int (Int32.ofNat len)), .val .null, .unset] [.int z])) := c4.trans (st5 _ (Steps.refl _))
  have c7 : Steps p.tables e below (s₁.setTop (entryFrame m #[.ref a, .ref b, .int (Int32.ofNat o), .int (Int32.ofNat len), .null] 6)) (T5.setTop (mkF m 36 #[.val (.ref a), .val (.ref b), .val (.int (Int32.ofNat o)), .val (.int (Int32.ofNat len)), .val .null, .unset] [.int (Int32.ofNat len), .int (Int32.ofNat o), .ref b])) := c6.trans (by
    refine XS.ifNo X5.here hexec rfl (hb hbytes d30) rfl (i0_eq_f hz) ?_
    refine XS.aloadN X5.here hexec rfl (hb hbytes d33) rfl rfl ?_
    refine XS.iloadN X5.here hexec rfl (hb hbytes d34) rfl ?_
    refine XS.iloadN X5.here hexec rfl (hb hbytes d35) rfl ?_
    exact Steps.refl _)
  obtain ⟨v8, T8, X8, E8, g8⟩ := X5.callS hexec (Cmp3.law l b A o len) hown (wks W (staticW "java/lang/String" 177 Cmp3.yN)) (wk W Cmp3.tab) (W := 0) (Nat.le_of_ble_eq_true rfl) (Nat.le_of_ble_eq_true rfl) (Nat.le_refl _) (by show 0 + len ≤ len; omega) (g := (mkF m 36 #[.val (.ref a), .val (.ref b), .val (.int (Int32.ofNat o)), .val (.int (Int32.ofNat len)), .val .null, .unset] [.int (Int32.ofNat len), .int (Int32.ofNat o), .ref b])) rfl (by rw [hml]; rfl) c7 (argsL := [.ref b, .int (Int32.ofNat o), .int (Int32.ofNat len)]) (rest := []) rfl rfl (by show 2 * 0 + 0 ≤ _; decide) (hb hbytes d36) (⟨rfl, hA.mv X5.warmed.alike hh5, l1, l2, hp⟩)
  obtain ⟨e8, z8⟩ := E8
  obtain ⟨rfl, N, n1, n2, n3, n4, n5, n6⟩ := NewArr.mv _ T5 s _ _ hh5.symm (Vm.Alike.refl _) rfl e8
  rw [hh5] at z8
  have hB1 := hB.keep X8.warmed.alike (n6 _ _ hB.1)
  have hne : s.heap.size ≠ a := (Nat.ne_of_lt (Array.getElem?_eq_some_iff.mp hB.1).1).symm
  have c9 : Steps p.tables e below (s₁.setTop (entryFrame m #[.ref a, .ref b, .int (Int32.ofNat o), .int (Int32.ofNat len), .null] 6)) (T8.setTop (mkF m 39 #[.val (.ref a), .val (.ref b), .val (.int (Int32.ofNat o)), .val (.int (Int32.ofNat len)), .val .null, .unset] [.ref s.heap.size])) := g8
  have c10 : Steps p.tables e below (s₁.setTop (entryFrame m #[.ref a, .ref b, .int (Int32.ofNat o), .int (Int32.ofNat len), .null] 6)) (T8.setTop (mkF m 45 #[.val (.ref a), .val (.ref b), .val (.int (Int32.ofNat o)), .val (.int (Int32.ofNat len)), .val .null, .val (.ref s.heap.size)] [.int (Int32.ofNat N.slots.size), .ref s.heap.size, .ref a])) := by
    have hc : Steps p.tables e below (s₁.setTop (entryFrame m #[.ref a, .ref b, .int (Int32.ofNat o), .int (Int32.ofNat len), .null] 6)) (T8.setTop (mkF m 45 #[.val (.ref a), .val (.ref b), .val (.int (Int32.ofNat o)), .val (.int (Int32.ofNat len)), .val .null, .val (.ref s.heap.size)] [.int (Int32.ofNat len), .ref s.heap.size, .ref a])) := c9.trans (by
      refine XS.astore X8.here hexec rfl (hb hbytes d39) rfl rfl rfl ?_
      refine XS.aloadN X8.here hexec rfl (hb hbytes d41) rfl rfl ?_
      refine XS.aload X8.here hexec rfl (hb hbytes d42) rfl rfl ?_
      refine XS.iloadN X8.here hexec rfl (hb hbytes d44) rfl ?_
      exact Steps.refl _)
    rw [n4]; exact hc
  obtain ⟨v11, T11, X11, E11, g11⟩ := X8.callS hexec (CodL.law l s.heap.size N) hown (wks W (staticW "java/lang/String" 47 CodL.yN)) (wk W CodL.tab) (W := 1) (Nat.le_of_ble_eq_true rfl) (Nat.le_of_ble_eq_true rfl) (Nat.le_refl _) (by show 0 + len + 0 ≤ len; omega) (g := (mkF m 45 #[.val (.ref a), .val (.ref b), .val (.int (Int32.ofNat o)), .val (.int (Int32.ofNat len)), .val .null, .val (.ref s.heap.size)] [.int (Int32.ofNat N.slots.size), .ref s.heap.size, .ref a])) rfl (by rw [hml]; rfl) c10 (argsL := [.ref s.heap.size, .int (Int32.ofNat N.slots.size)]) (rest := [.ref a]) rfl rfl (by show 2 * 0 + (1 + 0) ≤ _; decide) (hb hbytes d45) (⟨rfl, n1⟩)
  obtain ⟨rfl, q11⟩ := E11
  have hB11 := hB1.mv (X8.warmed.alike.symm.trans X11.warmed.alike) q11
  have c12 : Steps p.tables e below (s₁.setTop (entryFrame m #[.ref a, .ref b, .int (Int32.ofNat o), .int (Int32.ofNat len), .null] 6)) (T11.setTop (mkF m 48 #[.val (.ref a), .val (.ref b), .val (.int (Int32.ofNat o)), .val (.int (Int32.ofNat len)), .val .null, .val (.ref s.heap.size)] [.int 0, .ref a])) := g11
  obtain ⟨T13, X13, p13, bl13, sl13, st13⟩ := X11.finit hexec hown (wk W (.fieldLink "java/lang/String" 15 "java/lang/String" "coder" "B")) (Or.inr ⟨_, (wk W (.laysFinal "java/lang/String" "java/lang/String" "coder" "B"))⟩) (Or.inl ⟨rfl, hnm⟩) f2 (Or.inl rfl) hB11 (t := .byte) (by decide +kernel) rfl (g := (mkF m 48 #[.val (.ref a), .val (.ref b), .val (.int (Int32.ofNat o)), .val (.int (Int32.ofNat len)), .val .null, .val (.ref s.heap.size)] [.int 0, .ref a])) rfl (rest := []) rfl (hb hbytes d48)
  have c14 : Steps p.tables e below (s₁.setTop (entryFrame m #[.ref a, .ref b, .int (Int32.ofNat o), .int (Int32.ofNat len), .null] 6)) (T13.setTop (mkF m 54 #[.val (.ref a), .val (.ref b), .val (.int (Int32.ofNat o)), .val (.int (Int32.ofNat len)), .val .null, .val (.ref s.heap.size)] [.ref s.heap.size, .ref a])) := (c12.trans (st13 _ (Steps.refl _))).trans (by
    refine XS.aloadN X13.here hexec rfl (hb hbytes d51) rfl rfl ?_
    refine XS.aload X13.here hexec rfl (hb hbytes d52) rfl rfl ?_
    exact Steps.refl _)
  obtain ⟨T15, X15, p15, bl15, sl15, st15⟩ := X13.finit hexec hown (wk W (.fieldLink "java/lang/String" 9 "java/lang/String" "value" "[B")) (Or.inr ⟨_, (wk W (.laysFinal "java/lang/String" "java/lang/String" "value" "[B"))⟩) (Or.inl ⟨rfl, hnm⟩) f1 (Or.inl rfl) bl13 (t := (.array .byte)) (by decide +kernel) rfl (g := (mkF m 54 #[.val (.ref a), .val (.ref b), .val (.int (Int32.ofNat o)), .val (.int (Int32.ofNat len)), .val .null, .val (.ref s.heap.size)] [.ref s.heap.size, .ref a])) rfl (rest := []) rfl (hb hbytes d54)
  have c16 : Steps p.tables e below (s₁.setTop (entryFrame m #[.ref a, .ref b, .int (Int32.ofNat o), .int (Int32.ofNat len), .null] 6)) (T15.setTop (mkF m 57 #[.val (.ref a), .val (.ref b), .val (.int (Int32.ofNat o)), .val (.int (Int32.ofNat len)), .val .null, .val (.ref s.heap.size)] [])) := c14.trans (st15 _ (Steps.refl _))
  have ap := apart (Or.inr ⟨_, (wk W (.laysFinal "java/lang/String" "java/lang/String" "value" "[B"))⟩) (Or.inr ⟨_, (wk W (.laysFinal "java/lang/String" "java/lang/String" "coder" "B"))⟩) f1 f2 (t₁ := .array .byte) (t₂ := .byte) (by decide +kernel) (by decide +kernel) (by decide)
  have al := X8.warmed.alike.symm.trans X15.warmed.alike
  have n7 : T11.heap[s.heap.size]? = some N := by rw [q11]; exact n1.1
  exact ⟨T15, none, _, _, _, X15, by simp, rfl, by omega, (fun _ => rfl), ⟨rfl, _, N, bl15, ((Same.refl D _).set _ (by simp)).set _ (by simp), sl15, (Cell.slots_setSlot_ne _ ap).trans sl13, n1.keep al (p15.other hne (p13.other hne n7)), n2, by rw [al.findClass]; exact n3, n4, n5, fun y c h1 h2 => p15.other h1 (p13.other h1 (by rw [q11]; exact n6 y c h2)), by rw [p15.2.2, p13.2.2, q11]; exact z8⟩, fun fs hl => c16.trans (X15.returnOut hexec hret (hb hbytes d57) hl)⟩
end New4
namespace New1
def yN : MethodName := ⟨"java/lang/String", "<init>", "([C)V"⟩
abbrev yB : ByteArray := jdk_42_method_3_code
theorem d0 : decode yB 0 = .ok (.aload_n 0, 1) := by decide +kernel
theorem d1 : decode yB 1 = .ok (.aload_n 1, 1) := by decide +kernel
theorem d2 : decode yB 2 = .ok (.iconst 0, 1) := by decide +kernel
theorem d3 : decode yB 3 = .ok (.aload_n 1, 1) := by decide +kernel
theorem d4 : decode yB 4 = .ok (.arraylength, 1) := by decide +kernel
theorem d5 : decode yB 5 = .ok (.aconst_null, 1) := by decide +kernel
theorem d6 : decode yB 6 = .ok (.invokespecial 27, 3) := by decide +kernel
theorem d9 : decode yB 9 = .ok (.return_, 1) := by decide +kernel
def site : List Cond := [New4.tab] ++ initW "java/lang/String" 27 New4.yN
def tab : Cond := tabOf yN yB 2 none site
def P (a : Addr) (D : Cell) (fV fC : Field) (b : Addr) (A : Cell) (z : Int32) (args : Array Value) (s : State) : Prop := args = #[.ref a, .ref b] ∧ Blank "java/lang/String" a D s ∧ Found "java/lang/String" "value" "[B" fV s ∧ Found "java/lang/String" "coder" "B" fC s ∧ Ch b A s ∧ StaticIs s "java/lang/String" "COMPACT_STRINGS" "Z" (.int z) ∧ ¬ z = 0 ∧ 0 < A.slots.size ∧ A.slots.size ≤ 536870912 ∧ ∀ i, i < A.slots.size → ¬ 255 < cv A i
def E (a : Addr) (D : Cell) (fV fC : Field) (A : Cell) (r : Option Value) (s u : State) : Prop := Got a D fV fC A 0 A.slots.size r s u
/-- new String(chars), not empty, no char above 255: a Latin-1 String of their low bytes -/
theorem law (l : Launch) (a : Addr) (D : Cell) (fV fC : Field) (b : Addr) (A : Cell) (z : Int32) : Law l yN 2 1 3 52 yB 2 none site (P a D fV fC b A z) (E a D fV fC A) [⟨a, fC.slot⟩, ⟨a, fV.slot⟩] 1 A.slots.size := by
  refine Law.of_walk (plainFor_of_name (by decide +kernel)) (by decide +kernel) (by decide +kernel) (by decide) (fun _ _ h => by rw [h.1]; rfl) (fun _ U U' hal hh h => ⟨h.1, h.2.1.mv hal hh, h.2.2.1.al hal, h.2.2.2.1.al hal, h.2.2.2.2.1.mv hal hh, h.2.2.2.2.2.1.there hal hh, h.2.2.2.2.2.2⟩) (fun r U U' V V' h1 hal h2 h => Got.mv r U U' V V' h1 hal h2 h) ?_
  intro p e s m args below meth c s₁ X0 hexec hbytes hml hret hlk hnm hown hh0 W hP
  obtain ⟨rfl, hB, f1, f2, hA, s1, hz, l0, l2, hp⟩ := hP
  have c1 : Steps p.tables e below (s₁.setTop (entryFrame m #[.ref a, .ref b] 2)) (s₁.setTop (mkF m 0 #[.val (.ref a), .val (.ref b)] [])) := entry rfl
  have c2 : Steps p.tables e below (s₁.setTop (entryFrame m #[.ref a, .ref b] 2)) (s₁.setTop (mkF m 6 #[.val (.ref a), .val (.ref b)] [.null, .int (Int32.ofNat A.slots.size), .int 0, .ref b, .ref a])) := c1.trans (by
    refine XS.aloadN X0.here hexec rfl (hb hbytes d0) rfl rfl ?_
    refine XS.aloadN X0.here hexec rfl (hb hbytes d1) rfl rfl ?_
    refine iconstV X0.here hexec rfl 0 (hb hbytes d2) (by decide) ?_
    refine XS.aloadN X0.here hexec rfl (hb hbytes d3) rfl rfl ?_
    refine X0.alen hexec (hA.1.mv X0.warmed.alike hh0) rfl rfl (hb hbytes d4) ?_
    refine XS.aconstNull X0.here hexec rfl (hb hbytes d5) ?_
    exact Steps.refl _)
  obtain ⟨v3, T3, X3, E3, g3⟩ := X0.callN hexec (New4.law l a D fV fC b A z 0 A.slots.size) rfl hown (wks W (initW "java/lang/String" 27 New4.yN)) (W New4.tab (by simp only [site, List.mem_cons, List.mem_append, true_or, or_true])) (W := 0) (Nat.le_of_ble_eq_true rfl) (Nat.le_of_ble_eq_true rfl) (Nat.le_refl _) (by show 0 + A.slots.size ≤ A.slots.size; omega) (g := (mkF m 6 #[.val (.ref a), .val (.ref b)] [.null, .int (Int32.ofNat A.slots.size), .int (Int32.ofNat 0), .ref b, .ref a])) rfl (by rw [hml]; rfl) c2 (argsL := [.ref b, .int (Int32.ofNat 0), .int (Int32.ofNat A.slots.size), .null]) (rest := []) rfl rfl (by show 2 * 0 + 0 ≤ _; decide) (hb hbytes d6) (⟨rfl, hB.mv X0.warmed.alike hh0, f1.al X0.warmed.alike, f2.al X0.warmed.alike, hA.mv X0.warmed.alike hh0, s1.there X0.warmed.alike hh0, hz, l0, by omega, l2, fun i hi => by rw [Nat.zero_add]; exact hp i hi⟩)
  have e0 := Got.mv _ s₁ s _ _ hh0.symm (Vm.Alike.refl _) rfl E3
  obtain rfl := e0.1
  have c4 : Steps p.tables e below (s₁.setTop (entryFrame m #[.ref a, .ref b] 2)) (T3.setTop (mkF m 9 #[.val (.ref a), .val (.ref b)] [])) := g3
  exact ⟨T3, none, _, _, _, X3, by simp, rfl, by omega, (fun _ => rfl), e0, fun fs hl => c4.trans (X3.returnOut hexec hret (hb hbytes d9) hl)⟩
theorem pays {l : Launch} {R : Room} {p : Program} {e : Env} {below : List Frame} {s : State} {sargs : Array Value} {len W : Nat} (a : Addr) (D : Cell) (fV fC : Field) (b : Addr) (A : Cell) (z : Int32) (htab : tab.before sargs s = true) (hfr : 4 ≤ R.frames) (hlo : W + 65 ≤ R.locals) :
    Back l R p e below s sargs yN len W (fun A₁ a₁ => A₁.cells + 1 ≤ R.cells ∧ A₁.slots + A.slots.size ≤ R.slots ∧ P a D fV fC b A z a₁ A₁.U) (fun A₁ _ v₁ B₁ => E a D fV fC A v₁ A₁.U B₁.U ∧ B₁.locs = A₁.locs ++ [⟨a, fC.slot⟩, ⟨a, fV.slot⟩] ∧ B₁.cells = A₁.cells + 1 ∧ B₁.slots = A₁.slots + A.slots.size) :=
  (law l a D fV fC b A z).pays htab hfr (by omega)
end New1
end StrChars
namespace StrChars.Road
open Jvm Sem ClassFile Op Lib Jvm.Stand Jvm.Free Jvm.Free.XT
open Jvm.Lib.Cold (StaticIs)
abbrev ST : String := "java/lang/String"
/-- every table word that New1's law asks, flat -/
abbrev words : List Jvm.Cond := [.code New1.yN New1.yB 2 none, .initialized ST, .methodLink ST 27 New4.yN, .instanceMethod New4.yN,
  .code New4.yN New4.yB 6 none, .fieldLink ST 38 ST "COMPACT_STRINGS" "Z", .laysFinal ST ST "value" "[B", .fieldLink ST 9 ST "value" "[B", .laysFinal ST ST "coder" "B", .fieldLink ST 15 ST "coder" "B",
  .methodLink ST 1 Lib.objectInit, .instanceMethod Lib.objectInit, .code Lib.objectInit ⟨#[0xb1]⟩ 1 none, .methodLink ST 177 Cmp3.yN, .static Cmp3.yN, .methodLink ST 47 CodL.yN, .static CodL.yN,
  .code Cmp3.yN Cmp3.yB 6 (some (.array .byte)), .initialized U16, .arrayClass .byte, .methodLink U16 115 Cmp5.yN, .static Cmp5.yN, .code Cmp5.yN Cmp5.yB 7 (some .int), .code CodL.yN CodL.yB 2 (some .byte)]
theorem tab_of {a : Array Value} {s : State} (h : ∀ w ∈ words, w.before a s = true) : New1.tab.before a s = true := by
  have h5 : Cmp5.tab.before a s = true := unparts (wk h (.code Cmp5.yN Cmp5.yB 7 (some .int))) (wks h (.initialized Cmp5.yN.cls :: Cmp5.site))
  have hc : CodL.tab.before a s = true := unparts (wk h (.code CodL.yN CodL.yB 2 (some .byte))) (wks h (.initialized CodL.yN.cls :: CodL.site))
  have q5 : ∀ w ∈ Cmp5.tab :: words, w.before a s = true := fun w hw => (List.mem_cons.mp hw).elim (fun e => e ▸ h5) (h w)
  have h3 : Cmp3.tab.before a s = true := unparts (wk q5 (.code Cmp3.yN Cmp3.yB 6 (some (.array .byte)))) (wks q5 (.initialized Cmp3.yN.cls :: Cmp3.site))
  have q3 : ∀ w ∈ Cmp3.tab :: CodL.tab :: words, w.before a s = true := fun w hw => (List.mem_cons.mp hw).elim (fun e => e ▸ h3) fun hw => (List.mem_cons.mp hw).elim (fun e => e ▸ hc) (h w)
  have h4 : New4.tab.before a s = true := unparts (wk q3 (.code New4.yN New4.yB 6 none)) (wks q3 (.initialized New4.yN.cls :: New4.site))
  have q4 : ∀ w ∈ New4.tab :: words, w.before a s = true := fun w hw => (List.mem_cons.mp hw).elim (fun e => e ▸ h4) (h w)
  exact unparts (wk q4 (.code New1.yN New1.yB 2 none)) (wks q4 (.initialized New1.yN.cls :: New1.site))
/-- the words ride from the start Z to the walk's own state -/
theorem moved {Z s : State} {a0 args : Array Value} (hZ : Z.Warmed39 s.vm) (hw : ∀ d ∈ words, d.before a0 Z = true) : ∀ d ∈ words, d.before args s = true := fun d hd => by
  have q := hw d hd
  have t : ∀ d ∈ words, d = .arrayClass .byte ∨ (d.onTables && d.keepsFace) = true := by decide +kernel
  rcases t d hd with rfl | t
  · exact RoadKit.mvA hZ q
  · exact RoadKit.mv hZ q t
/-- WHAT COMES BACK, over the tables of the start Z: h the heap at the call, h' behind it -/
def Q (Z : State) (x : Addr) (A : Cell) (h : Heap) (v : Option Value) (h' : Heap) (L : List Loc) : Prop := v = none ∧ (∀ y ∈ L, y.base = x) ∧ RoadKit.Keep h h' [x] ∧ h'.size = h.size + 1 ∧ RoadKit.Exa Z h' x ST ∧ RoadKit.Fld Z h' x ST "value" "[B" (.ref h.size) ∧ RoadKit.Fld Z h' x ST "coder" "B" (.int 0) ∧
  (∃ V : Cell, RoadKit.Arr Z h' h.size V .byte ∧ V.vm = .none ∧ Z.vm.findClass "[B" = some V.cls ∧ V.slots.size = A.slots.size ∧ ∀ j, j < A.slots.size → V.slots[j]? = some (.int (lo8 (cv A j)))) ∧
  ∀ (O n d : String) (w : Value), RoadKit.Fld Z h x O n d w → RoadKit.slotOf Z O n d ≠ RoadKit.slotOf Z ST "value" "[B" → RoadKit.slotOf Z O n d ≠ RoadKit.slotOf Z ST "coder" "B" → RoadKit.Fld Z h' x O n d w
/-- **new String(chars) AT A CALL, IN THE ROAD'S FORM**: for specialBack behind newO: x the fresh String, b the char[] with the cell A -/
theorem back {p : Program} {l : Launch} {e : Env} {R : Room} {s : State} {args : Array Value} {below : List Frame} {len W : Nat} {Z : State} {a0 : Array Value} {h : Heap} (hZ : Z.Warmed39 s.vm) (hw : ∀ d ∈ words, d.before a0 Z = true) {kI : Nat} (wi : (Jvm.Cond.instantiable ST kI).before a0 Z = true)
    {x b : Addr} {A : Cell} {z : Int32} {v0 c0 : Value} (E : RoadKit.Exa Z h x ST) (V : RoadKit.Fld Z h x ST "value" "[B" v0) (C : RoadKit.Fld Z h x ST "coder" "B" c0) (K : RoadKit.Arr Z h b A .char) (hty : Typed .char A) (S : RoadKit.Sta Z h ST "COMPACT_STRINGS" "Z" (.int z)) (hz : ¬ z = 0)
    (l0 : 0 < A.slots.size) (l2 : A.slots.size ≤ 536870912) (hp : ∀ i, i < A.slots.size → ¬ 255 < cv A i) (hfr : 4 ≤ R.frames) (hlo : W + 65 ≤ R.locals) :
    Back l R p e below s args New1.yN len W (fun P a => a = #[.ref x, .ref b] ∧ P.U.heap = h ∧ P.cells + 1 ≤ R.cells ∧ P.slots + A.slots.size ≤ R.slots)
      (fun P _ v B => ∃ L, Q Z x A h v B.U.heap L ∧ B.locs = P.locs ++ L ∧ B.cells = P.cells + 1 ∧ B.slots = P.slots + A.slots.size) := by
  intro m meth c P g ig mk a X hg hsize hdg hW hn hp'
  obtain ⟨rfl, rfl, r1, r2⟩ := hp'
  have al : Z.vm.Alike P.U.vm := hZ.alike.trans X.warmed.alike
  obtain ⟨D, cfV, kV, iV, fV, hD, gV, stV, knV, obV, asV, slV⟩ := id V
  obtain ⟨D', cfC, kC, iC, fC, hD', gC, stC, -, -, asC, slC⟩ := id C
  cases hD.symm.trans hD'
  obtain ⟨D2, kD, e1, e2, e3, e4, e5⟩ := id E
  cases hD.symm.trans e1
  obtain ⟨c2, k2, i1, i2, i3, -⟩ := Cond.instantiable_spec wi
  cases e2.symm.trans i1
  cases e3.symm.trans i2
  obtain ⟨kU, u1, u2⟩ := al.2.2 _ _ e3
  have hB : Blank ST x D P.U := ⟨hD, ⟨knV, fun q hq => by rw [hq] at obV; cases obV⟩, by rw [al.findClass]; exact e2, kU, u1, by rw [u2]; exact i3, by rw [u2]; exact e5 i3⟩
  have F1 : Found ST "value" "[B" fV P.U := ⟨SBG.found_only al ⟨cfV, kV, iV, gV⟩, stV⟩
  have F2 : Found ST "coder" "B" fC P.U := ⟨SBG.found_only al ⟨cfC, kC, iC, gC⟩, stC⟩
  have hA : Ch b A P.U := ⟨⟨K.1, State.isArrayOf_alike al K.2.1, K.2.2, by omega⟩, hty⟩
  have hS : StaticIs P.U ST "COMPACT_STRINGS" "Z" (.int z) := by
    obtain ⟨cfS, iS, kS, fS, st, cS, t1, t2, t3, t4, t5, t6, t7⟩ := S
    exact StaticIs.there (s := { Z with heap := P.U.heap }) ⟨cfS, iS, kS, fS, st, cS, t1, t2, t3, t4, t5, (fun q => by rw [q] at t6; cases t6), t7⟩ al rfl
  obtain ⟨v, B, X', ⟨⟨hv, E', V', q1, q2, q3, q4, q5, q6, q7, q8, q9, q10, q11⟩, hl, hc, hs⟩, st⟩ := New1.pays x D fV fC b A z (tab_of (moved hZ hw)) hfr hlo m meth c P g ig mk _ X hg hsize hdg hW hn ⟨r1, r2, rfl, hB, F1, F2, hA, hS, hz, l0, l2, hp⟩
  have al' : Z.vm.Alike B.U.vm := hZ.alike.trans X'.warmed.alike
  have hsz : E'.slots.size = D.slots.size := by
    obtain ⟨-, -, -, kB, w1, w2, w3⟩ := q1
    obtain ⟨kB', y1, y2⟩ := al'.2.2 _ _ e3
    rw [q2.2.1] at w1
    cases w1.symm.trans y1
    rw [w3, e5 i3, y2]
  refine ⟨v, B, X', ⟨_, ⟨hv, ?_, ⟨by omega, fun y cy hy hn' => q10 y cy (by simpa using hn') hy, fun y cy hy => ?_⟩, q11, ⟨E', _, q1.1, by rw [q2.2.1]; exact e2, by rw [q2.2.1]; exact e3, by rw [q2.1]; exact obV, fun _ => by rw [hsz]; exact e5 i3⟩,
    ⟨E', cfV, kV, iV, fV, q1.1, gV, stV, by rw [q2.1]; exact knV, by rw [q2.1]; exact obV, by rw [q2.2.1]; exact asV, q3⟩, ⟨E', cfC, kC, iC, fC, q1.1, gC, stC, by rw [q2.1]; exact knV, by rw [q2.1]; exact obV, by rw [q2.2.1]; exact asC, q4⟩,
    ⟨V', ⟨q5.1, State.isArrayOf_alike al'.symm q5.2.1, q5.2.2.1⟩, q6, by rw [← al'.findClass]; exact q7, q8, fun j hj => by have := q9 j hj; rwa [Nat.zero_add] at this⟩, fun O n d w F n1 n2 => ?_⟩, hl, hc, hs⟩, st⟩
  · intro y hy
    simp only [List.mem_cons, List.not_mem_nil, or_false] at hy
    rcases hy with rfl | rfl <;> rfl
  · by_cases q : y = x
    · subst q
      cases hD.symm.trans hy
      exact ⟨E', q1.1, q2.2.1, q2.1, hsz⟩
    · exact ⟨cy, q10 y cy q hy, rfl, rfl, rfl⟩
  · obtain ⟨D3, cf, k, i, f, g1, g2, g3, g4, g5, g6, g7⟩ := F
    cases hD.symm.trans g1
    simp only [RoadKit.slotOf, g2, gV, gC, Option.map_some, Option.getD_some] at n1 n2
    exact ⟨E', cf, k, i, f, q1.1, g2, g3, by rw [q2.1]; exact g4, by rw [q2.1]; exact g5, by rw [q2.2.1]; exact g6, by rw [q2.2.2 f.slot (by simp [n1, n2])]; exact g7⟩
end StrChars.Road
namespace StrChars.Road
open Jvm Sem ClassFile Op Lib Jvm.Stand Jvm.Free Jvm.Free.XT
/-- WHAT COMES BACK, the byte[] as a list of values -/
def QA (Z : State) (x : Addr) (zn : Int32) (cs : List Int32) (h : Heap) (v : Option Value) (h' : Heap) (L : List Loc) : Prop := v = none ∧ (∀ y ∈ L, y.base = x) ∧ RoadKit.Keep h h' [x] ∧ h'.size = h.size + 1 ∧ RoadKit.Exa Z h' x ST ∧ RoadKit.Fld Z h' x ST "value" "[B" (.ref h.size) ∧ RoadKit.Fld Z h' x ST "coder" "B" (.int 0) ∧
  (∃ kb, Z.vm.findClass "[B" = some kb ∧ RoadKit.Arv Z h' h.size kb .byte zn (cs.map fun c => .int (lo8 c)) (.int 0)) ∧
  ∀ (O n d : String) (w : Value), RoadKit.Fld Z h x O n d w → RoadKit.slotOf Z O n d ≠ RoadKit.slotOf Z ST "value" "[B" → RoadKit.slotOf Z O n d ≠ RoadKit.slotOf Z ST "coder" "B" → RoadKit.Fld Z h' x O n d w
/-- **new String(chars) AT A CALL, THE ARRAYS AS LISTS**: the char[] at b holds cs, not empty, no char above 255 -/
theorem backArv {p : Program} {l : Launch} {e : Env} {R : Room} {s : State} {args : Array Value} {below : List Frame} {len W : Nat} {Z : State} {a0 : Array Value} {h : Heap} (hZ : Z.Warmed39 s.vm) (hw : ∀ d ∈ words, d.before a0 Z = true) {kI : Nat} (wi : (Jvm.Cond.instantiable ST kI).before a0 Z = true)
    {x b : Addr} {k : ClassId} {zn z : Int32} {cs : List Int32} {dv v0 c0 : Value} (E : RoadKit.Exa Z h x ST) (V : RoadKit.Fld Z h x ST "value" "[B" v0) (C : RoadKit.Fld Z h x ST "coder" "B" c0) (K : RoadKit.Arv Z h b k .char zn (cs.map Value.int) dv) (S : RoadKit.Sta Z h ST "COMPACT_STRINGS" "Z" (.int z)) (hz : ¬ z = 0)
    (hlen : zn.toNatClampNeg = cs.length) (h0 : 0 < cs.length) (hbig : cs.length ≤ 536870912) (hall : ∀ c ∈ cs, ¬ 255 < c) (hfr : 4 ≤ R.frames) (hlo : W + 65 ≤ R.locals) :
    Back l R p e below s args New1.yN len W (fun P a => a = #[.ref x, .ref b] ∧ P.U.heap = h ∧ P.cells + 1 ≤ R.cells ∧ P.slots + cs.length ≤ R.slots)
      (fun P _ v B => ∃ L, QA Z x zn cs h v B.U.heap L ∧ B.locs = P.locs ++ L ∧ B.cells = P.cells + 1 ∧ B.slots = P.slots + cs.length) := by
  obtain ⟨A, K1, K2, K3, K4, K5, K6⟩ := K
  have e : A.slots.size = cs.length := K3.trans hlen
  have hat : ∀ (i : Nat) (hi : i < cs.length), A.slots[i]? = some (.int cs[i]) := fun i hi => by rw [K5 i (by omega)]; simp [List.getD_eq_getElem?_getD, hi]
  have hcv : ∀ (i : Nat) (hi : i < cs.length), cv A i = cs[i] := fun i hi => by unfold cv; rw [hat i hi]
  have hty : Typed .char A := fun i v hv => by
    have hi : i < A.slots.size := (Array.getElem?_eq_some_iff.mp hv).1
    have q := K5 i hi
    rw [hv] at q
    rw [Option.some.inj q]
    exact K6 i hi
  refine Back.mono (back hZ hw wi E V C K1 hty S hz (by omega) (by omega) (fun i hi => by rw [hcv i (by omega)]; exact hall _ (List.getElem_mem _)) hfr hlo) (fun P a hp => ⟨hp.1, hp.2.1, hp.2.2.1, by rw [e]; exact hp.2.2.2⟩) (fun P a v B hp hq => ?_)
  obtain ⟨L, ⟨q1, q2, q3, q4, q5, q6, q7, ⟨V', v1, v2, v3, v4, v5⟩, q9⟩, hl, hc, hs⟩ := hq
  refine ⟨L, ⟨q1, q2, q3, q4, q5, q6, q7, ⟨V'.cls, v3, V', v1, rfl, by rw [v4, e, hlen], K4, fun i hi => ?_, fun i hi => ?_⟩, q9⟩, hl, hc, by rw [hs, e]⟩
  · have hi' : i < cs.length := by omega
    rw [v5 i (by omega), hcv i hi']; simp [List.getD_eq_getElem?_getD, hi']
  · have hi' : i < cs.length := by omega
    simp only [List.getD_eq_getElem?_getD, List.getElem?_map, List.getElem?_eq_getElem hi', Option.map_some, Option.getD_some]
    exact fits_lo8 _
end StrChars.Road
namespace StrChars.Road
open Jvm Sem ClassFile Op Lib Jvm.Stand Jvm.Free Jvm.Free.XT
/-- WHAT COMES BACK, in the writer's own shape -/
def QV (Z : State) (x : Addr) (N : Int32) (bs : List Int32) (h : Heap) (n0 : Nat) (v : Option Value) (h' : Heap) (L : List Loc) : Prop := v = none ∧ RoadKit.Fr n0 L ∧ RoadKit.Keep h h' [x] ∧ RoadKit.Exa Z h' x ST ∧ RoadKit.Fld Z h' x ST "coder" "B" (.int 0) ∧
  ∃ (t : Addr) (kb : ClassId), n0 ≤ t ∧ h.size ≤ t ∧ ¬ t = x ∧ RoadKit.Fld Z h' x ST "value" "[B" (.ref t) ∧ RoadKit.Arv Z h' t kb .byte N (bs.map Value.int) (.int 0)
/-- **new String(chars) AT A CALL, FOR THE WRITER**: a char[] of n known ints, each 0 to 255 -/
theorem backV {p : Program} {l : Launch} {e : Env} {R : Room} {s : State} {args : Array Value} {below : List Frame} {len W : Nat} {Z : State} {a0 : Array Value} {h : Heap} (hZ : Z.Warmed39 s.vm) (hw : ∀ d ∈ words, d.before a0 Z = true) {kI : Nat} (wi : (Jvm.Cond.instantiable ST kI).before a0 Z = true)
    {x b : Addr} {kC : ClassId} {cs bs : List Int32} {d v0 c0 : Value} {z N : Int32} {n n0 : Nat} (hx0 : n0 ≤ x) (hh0 : n0 ≤ h.size) (E : RoadKit.Exa Z h x ST) (V : RoadKit.Fld Z h x ST "value" "[B" v0) (C : RoadKit.Fld Z h x ST "coder" "B" c0) (K : RoadKit.Arv Z h b kC .char N (cs.map Value.int) d) (S : RoadKit.Sta Z h ST "COMPACT_STRINGS" "Z" (.int z)) (hz : ¬ z = 0)
    (hn : cs.length = n) (hN : N = Int32.ofNat n) (l0 : 0 < n) (l2 : n ≤ 4000) (hp : ∀ c ∈ cs, ¬ c < 0 ∧ ¬ (255 : Int32) < c) (hb : bs = cs.map (fun c => c.toInt8.toInt32)) (hfr : 4 ≤ R.frames) (hlo : W + 65 ≤ R.locals) :
    Back l R p e below s args (⟨"java/lang/String", "<init>", "([C)V"⟩ : MethodName) len W (fun P a => a = #[.ref x, .ref b] ∧ P.U.heap = h ∧ P.cells + 1 ≤ R.cells ∧ P.slots + n ≤ R.slots)
      (fun P _ v B => ∃ L, QV Z x N bs h n0 v B.U.heap L ∧ B.locs = P.locs ++ L ∧ B.cells = P.cells + 1 ∧ B.slots = P.slots + n) := by
  subst hn hN hb
  refine Back.mono (backArv hZ hw wi E V C K S hz (n32 (by omega)) l0 (by omega) (fun c hc => (hp c hc).2) hfr hlo) (fun P a hp => hp) (fun P a v B hp hq => ?_)
  obtain ⟨L, ⟨q1, q2, q3, q4, q5, q6, q7, ⟨kb, v1, v2⟩, q9⟩, hl, hc, hs⟩ := hq
  exact ⟨L, ⟨q1, fun y hy => by rw [q2 y hy]; exact hx0, q3, q5, q7, h.size, kb, hh0, Nat.le_refl _, Nat.ne_of_gt E.lt, q6, by rw [List.map_map]; exact v2⟩, hl, hc, hs⟩
end StrChars.Road
end Jvm.Pilot.@@N@@
namespace Jvm.Pilot.@@N@@
open Jvm Jvm.ClassFile Sem Op Lib Jvm.Free Jvm.Stand Jvm.LawKit Jvm.RoadKit Bundle Jvm.Pilot.@@N@@.Jvm.D
theorem and255_chars (x : Int32) : ¬ nar .char ((x &&& (255 : Int32)).toUInt32.toUInt16.toUInt32.toInt32) < 0 ∧ ¬ (255 : Int32) < nar .char ((x &&& (255 : Int32)).toUInt32.toUInt16.toUInt32.toInt32) := by
  have t : ∀ k : Fin 256, ¬ nar .char ((Int32.ofNat k.val).toUInt32.toUInt16.toUInt32.toInt32) < 0 ∧ ¬ (255 : Int32) < nar .char ((Int32.ofNat k.val).toUInt32.toUInt16.toUInt32.toInt32) := by decide +kernel
  have h : (x &&& 255).toBitVec.toNat < 256 := by
    simp only [Int32.toBitVec_and, BitVec.toNat_and]
    exact Nat.lt_succ_of_le Nat.and_le_right
  have e : (x &&& 255) = Int32.ofNat (x &&& 255).toBitVec.toNat := by
    apply Int32.toBitVec_inj.mp
    show _ = BitVec.ofNat 32 _
    rw [BitVec.ofNat_toNat]; simp
  rw [e]
  exact t ⟨_, h⟩
theorem up (cs : List Int32) (h : ∀ c ∈ cs, ¬ c < 0 ∧ ¬ (255 : Int32) < c) : ∀ c ∈ cs, ¬ c < 0 ∧ ¬ (65535 : Int32) < c := fun c hc => ⟨(h c hc).1, fun q => (h c hc).2 (by rw [Int32.lt_iff_toInt_lt] at q ⊢; have e1 : (65535 : Int32).toInt = 65535 := rfl; have e2 : (255 : Int32).toInt = 255 := rfl; omega)⟩
def own_Str (Z : State) (h : Heap) (x : Addr) (cs : List Int32) : Prop := (∀ c ∈ cs, ¬ c < 0 ∧ ¬ (255 : Int32) < c) ∧ cs.length ≤ 4000 ∧ Exa Z h x "java/lang/String" ∧ Fld Z h x "java/lang/String" "coder" "B" (.int 0) ∧ ∃ (t : Addr) (kb : ClassId), Fld Z h x "java/lang/String" "value" "[B" (.ref t) ∧ Arv Z h t kb .byte (Int32.ofNat cs.length) ((cs.map fun c => c.toInt8.toInt32).map Value.int) (.int 0)
theorem own_Str.ext {Z : State} {h h' : Heap} {x : Addr} {cs : List Int32} (E : Ext h h') (S : own_Str Z h x cs) : own_Str Z h' x cs := by
  obtain ⟨h1, h2, h3, h4, t, kb, h5, h6⟩ := S
  exact ⟨h1, h2, h3.ext E, h4.ext E, t, kb, h5.ext E, h6.ext E⟩
theorem own_narc {c : Int32} (h : ¬ c < 0 ∧ ¬ (255 : Int32) < c) : nar .char c = c := by
  have e : c = Int32.ofNat c.toInt.toNat := by
    apply Int32.toInt_inj.mp
    rw [Int32.toInt_ofNat_of_lt]
    · have := h.1; rw [Int32.lt_iff_toInt_lt] at this; have e0 : (0 : Int32).toInt = 0 := rfl; omega
    · have := h.2; rw [Int32.lt_iff_toInt_lt] at this; have e0 : (255 : Int32).toInt = 255 := rfl; omega
  have hk : c.toInt.toNat < 256 := by
    have := h.2; rw [Int32.lt_iff_toInt_lt] at this; have e0 : (255 : Int32).toInt = 255 := rfl; omega
  have t : ∀ k : Fin 256, nar .char (Int32.ofNat k.val) = Int32.ofNat k.val := by decide +kernel
  rw [e]; exact t ⟨_, hk⟩
theorem own_no {Z : State} {a0 : Array Value} {C S K : String} {n : Nat} (w : (Jvm.Cond.superclass C S).before a0 Z = true) (wo : (Jvm.Cond.noSuperclass S).before a0 Z = true) (wi : (Jvm.Cond.instantiable K n).before a0 Z = true) (hn : C ≠ K) (ho : S ≠ K) : ∃ c t, Z.vm.findClass C = some c ∧ Z.vm.findClass K = some t ∧ Z.vm.assignable c t = false := by
  obtain ⟨c2, k2, i1, i2, i3, i4, -⟩ := Cond.instantiable_spec wi
  obtain ⟨c, h0⟩ := found_sup w
  obtain ⟨p, k, kp, h1, h2, h3, h4, h5, -, h7⟩ := Cond.superclass_spec h0 w
  obtain ⟨co, ko, o1, o2, o3, -, -⟩ := Cond.noSuperclass_spec wo
  cases h1.symm.trans o1
  have ne := ids_ne h0 i1 hn
  have ne2 := ids_ne o1 i1 ho
  have hif : k2.isInterface = false := by simp at i4; exact i4.1
  refine ⟨c, c2, h0, i1, ?_⟩
  show Z.vm.assignableAux (255 + 1) c c2 = false
  have q : ∀ fuel, Z.vm.isSubclassAux fuel c c2 = false := by
    intro fuel
    cases fuel with
    | zero => rfl
    | succ f =>
      cases f with
      | zero => simp [Vm.isSubclassAux, ne, h2, h4]
      | succ g => simp [Vm.isSubclassAux, ne, ne2, h2, h4, o2, o3]
  simp [Vm.assignableAux, ne, h2, i2, h5, i3, hif, Vm.isSubclass, q]
theorem own_pd0 : parseMethodDescriptor "([CIILjava/lang/Void;)V" = some ⟨[(.array .char), .int, .int, (.object "java/lang/Void")], none⟩ := by decide +kernel
theorem own_pd1 : parseMethodDescriptor "()V" = some ⟨[], none⟩ := by decide +kernel
theorem own_pd2 : parseMethodDescriptor "(Ljava/lang/String;Ljava/lang/String;ZLjava/lang/String;Ljava/lang/String;)V" = some ⟨[(.object "java/lang/String"), (.object "java/lang/String"), .boolean, (.object "java/lang/String"), (.object "java/lang/String")], none⟩ := by decide +kernel
theorem own_pd3 : parseMethodDescriptor "([C)V" = some ⟨[(.array .char)], none⟩ := by decide +kernel
theorem own_pd4 : parseMethodDescriptor "()Z" = some ⟨[], some .boolean⟩ := by decide +kernel
theorem own_pd5 : parseMethodDescriptor "(Ljava/lang/String;Ljava/lang/String;)Lcom/example/sealwright/sealwright/cli/Option;" = some ⟨[(.object "java/lang/String"), (.object "java/lang/String")], some (.object "com/example/sealwright/sealwright/cli/Option")⟩ := by decide +kernel
theorem own_pd6 : parseMethodDescriptor "(Ljava/lang/String;Ljava/lang/String;Ljava/lang/String;)Lcom/example/sealwright/sealwright/cli/Option;" = some ⟨[(.object "java/lang/String"), (.object "java/lang/String"), (.object "java/lang/String")], some (.object "com/example/sealwright/sealwright/cli/Option")⟩ := by decide +kernel
theorem own_pd7 : parseMethodDescriptor "(Ljava/lang/String;Ljava/lang/String;Ljava/lang/String;Ljava/lang/String;)Lcom/example/sealwright/sealwright/cli/Option;" = some ⟨[(.object "java/lang/String"), (.object "java/lang/String"), (.object "java/lang/String"), (.object "java/lang/String")], some (.object "com/example/sealwright/sealwright/cli/Option")⟩ := by decide +kernel
abbrev EL : List (String × Nat) := consts_1
theorem own_EL {Z : State} {a0 : Array Value} (hw : ∀ d ∈ tables_1, d.before a0 Z = true) : EW Z a0 EL := (EW.cons (text := "") (hw _ (List.mem_of_getElem? (i := 68) rfl)) (by decide) EW.nil)
theorem own_wS {Z : State} {a0 : Array Value} (hw : ∀ d ∈ tables_1, d.before a0 Z = true) : ∀ d ∈ Bundle.stringAtoms, d.before a0 Z = true := fun d hd => hw d ((by decide +kernel : ∀ d ∈ Bundle.stringAtoms, d ∈ tables_1) d hd)
theorem own_mem68 : (("java/lang/String", 7) : String × Nat) ∈ EL := List.mem_of_getElem? (i := 0) rfl
theorem own_safeNull {Z : State} {a0 : Array Value} {EL : List (String × Nat)} {vm : Vm} {h : Heap} {x : Addr} (hal : Z.vm.Alike vm) (E : Exa Z h x "java/lang/String") (F : Fld Z h x "java/lang/String" "value" "[B" .null) : Safe Z EL vm h x := fun B => by
  obtain ⟨cell, cf, k, i, f, f1, f2, -, -, -, -, f7⟩ := F
  obtain ⟨p, -, u, a, -, q, -, G, rfl | rfl⟩ := B
  · cases (show h[q.sa]? = some q.sC from G.ha).symm.trans f1
    obtain ⟨cS, ⟨⟨-, -, -, ⟨c1, k1, i1, g1, -⟩, -, -, -, v1, -⟩, -⟩, -⟩ := G
    obtain ⟨k3, e3⟩ := ff_back (U := Wst Z vm h) hal g1
    have e4 := e3.symm.trans f2
    simp only [Option.some.injEq, Prod.mk.injEq] at e4
    rw [e4.2.2.2, f7] at v1
    cases v1
  · obtain ⟨cell', k', e1, e2, e3, -, -⟩ := E
    cases (show h[q.sd]? = some q.SA from G.hd).symm.trans e1
    obtain ⟨cS, -, -, g, -⟩ := G
    have g' : vm.findClass "[B" = some q.SA.cls := g
    rw [hal.findClass] at g'
    exact ids_ne g' e2 (by decide) rfl
theorem d2_0 : decode jdk_42_method_149_code 0 = .ok (.aload_n 0, 1) := by decide +kernel
theorem d2_1 : decode jdk_42_method_149_code 1 = .ok (.invokespecial 1, 3) := by decide +kernel
theorem d2_4 : decode jdk_42_method_149_code 4 = .ok (.iload_n 3, 1) := by decide +kernel
theorem d2_5 : decode jdk_42_method_149_code 5 = .ok (.ifCond .ne 22, 3) := by decide +kernel
theorem d2_8 : decode jdk_42_method_149_code 8 = .ok (.aload_n 0, 1) := by decide +kernel
theorem d2_9 : decode jdk_42_method_149_code 9 = .ok (.ldc 7, 2) := by decide +kernel
theorem d2_11 : decode jdk_42_method_149_code 11 = .ok (.getfield 9, 3) := by decide +kernel
theorem d2_14 : decode jdk_42_method_149_code 14 = .ok (.putfield 9, 3) := by decide +kernel
theorem d2_17 : decode jdk_42_method_149_code 17 = .ok (.aload_n 0, 1) := by decide +kernel
theorem d2_18 : decode jdk_42_method_149_code 18 = .ok (.ldc 7, 2) := by decide +kernel
theorem d2_20 : decode jdk_42_method_149_code 20 = .ok (.getfield 15, 3) := by decide +kernel
theorem d2_23 : decode jdk_42_method_149_code 23 = .ok (.putfield 15, 3) := by decide +kernel
theorem d2_26 : decode jdk_42_method_149_code 26 = .ok (.return_, 1) := by decide +kernel
theorem own_nbyte0 : nar .byte (0 : Int32) = 0 := by decide
def QE (Z : State) (x : Addr) (h0 : Heap) (n0 : Nat) (v : Option Value) (h : Heap) (L : List Loc) : Prop := v = none ∧ Fr n0 L ∧ Keep h0 h [x] ∧ own_Str Z h x []
theorem own_pn_rmE2 : plainName "java/lang/String" = true := by first | (simp [plainName, overriddenIn]; done) | decide +kernel
theorem own_ef_rmE2 (m : MethodId) (x : Addr) (b : Addr) : entryFrame m #[(.ref x), (.ref b), (.int (0 : Int32)), (.int (0 : Int32)), .null] 6 = (mkF m 0 #[.val (.ref x), .val (.ref b), .val (.int (0 : Int32)), .val (.int (0 : Int32)), .val .null, .unset] []) := by first | (simp [entryFrame, mkF, argsToLocals, Value.category]; done) | rfl
set_option maxRecDepth 65536 in
set_option maxHeartbeats 40000000 in
theorem rmE2 (l : Launch) (Z : State) (a0 : Array Value) (hw : ∀ d ∈ tables_1, d.before a0 Z = true) (ws : List Jvm.Cond) (x : Addr) (b : Addr) (h0 : Heap) (n0 : Nat) (Z0 : n0 ≤ h0.size) (E1 : Exa Z h0 x "java/lang/String") (F1 : Fld Z h0 x "java/lang/String" "value" "[B" .null) (F2 : Fld Z h0 x "java/lang/String" "coder" "B" (.int (0 : Int32))) (ge1 : n0 ≤ x) :
    MetFree l (⟨"java/lang/String", "<init>", "([CIILjava/lang/Void;)V"⟩ : MethodName) (head1 (Jvm.Cond.code (⟨"java/lang/String", "<init>", "([CIILjava/lang/Void;)V"⟩ : MethodName) jdk_42_method_149_code 6 none :: ws) ({ frames := 1, cells := 4, slots := 8, locals := 12 } : Room)) (fun a U => a = #[(.ref x), (.ref b), (.int (0 : Int32)), (.int (0 : Int32)), .null] ∧ Z.Warmed39 U.vm ∧ U.heap = h0 ∧ CHv Z EL U.vm h0) (fun _ _ _ _ _ => True) (fun _ U o U' => ∃ v L, o = .returned v ∧ QE Z x h0 n0 v U'.heap L ∧ CHr Z EL U.vm U.heap U'.vm U'.heap ∧ ReturnedEndW U o U' L ({ frames := 1, cells := 4, slots := 8, locals := 12 } : Room).cells ({ frames := 1, cells := 4, slots := 8, locals := 12 } : Room).slots) := by
  refine MetFree.of_bodySF (plainFor_of_name own_pn_rmE2) hisR ?_
  intro p e s m args below meth c s₁ Bd hml0 hP hK
  obtain ⟨hargs, hZ, hh, hC0⟩ := hP
  have hx := Bd.exec
  have hby := Bd.bytes
  have hml : c.maxLocals = 6 := hml0
  have hown : s.vm.findClass "java/lang/String" = some m.cls := findClass_of_methodNamed Bd.named
  have hnm := (name_of_methodNamed Bd.named Bd.method).1
  have hlock : meth.locks = false := Bd.notSynchronized
  have hret0 := Bd.returns
  have hZ : Z.Warmed39 (s.setVm s.vm).vm := hZ
  have hown : (s.setVm s.vm).vm.findClass "java/lang/String" = some m.cls := hown
  have hEL := own_EL hw
  have hwS := own_wS hw
  have C0 := CHr.refl hC0
  have X0 : Stand p l e ({ frames := 1, cells := 4, slots := 8, locals := 12 } : Room) (s.setVm s.vm) m args below meth c s₁ [] 0 0 := Stand.of_body Bd
  have e0 : s₁.heap = h0 := by rw [← hh, Bd.state]; rfl
  have N0 := Fr.nil n0
  have pre0 : ∀ t, Steps p.tables e below (s₁.setTop (mkF m 0 #[.val (.ref x), .val (.ref b), .val (.int (0 : Int32)), .val (.int (0 : Int32)), .val .null, .unset] [])) t → Steps p.tables e below (s₁.setTop (entryFrame m args 6)) t := fun t k => castTop (by rw [hargs]; exact own_ef_rmE2 m x b) k
  have hS0 := (State.WarmedH.refl s).since 0
  clear Bd
  obtain ⟨T1, X1, e1, st1⟩ := initO X0 hx hZ hown (hw _ (List.mem_of_getElem? (i := 11) rfl)) (hw _ (List.mem_of_getElem? (i := 12) rfl)) (hw _ (List.mem_of_getElem? (i := 13) rfl)) e0 (g := (mkF m 1 #[.val (.ref x), .val (.ref b), .val (.int (0 : Int32)), .val (.int (0 : Int32)), .val .null, .unset] [(.ref x)])) rfl (by rw [hml]; rfl) rfl (hb hby d2_1) (by decide) (W := 0) (by show 2 * 0 + _ ≤ _; exact Nat.le_of_eq rfl) (by decide)
  obtain ⟨a2, T2, h2, k12, b2, kl2, X2, e2, E2, hS2, hkk2, hZ2, hown2, fe2, fc2, fv2, fa2, la2, lb2, CR2, hL2, hne2, st2⟩ := ldcCH (s := s) (vm0 := s.vm) X1 hx hZ hown (hw _ (List.mem_of_getElem? (i := 68) rfl)) hwS e1 hS0 (Nat.zero_le _) hEL (own_mem68) C0.1 (vs := ([] : List Value)) (z := (0 : Int32)) ⟨by decide, by decide⟩ (by decide) rfl (g := (mkF m 9 #[.val (.ref x), .val (.ref b), .val (.int (0 : Int32)), .val (.int (0 : Int32)), .val .null, .unset] [(.ref x)])) rfl (hb hby d2_9) (n := 0) (by decide) (by decide) (by decide) (by decide)
  have Z3 : n0 ≤ h2.size := Nat.le_trans Z0 E2.1
  have K4 : Keep h0 h2 [x] := (Keep.refl h0 [x]).ext E2
  have C5 := (C0.trans CR2)
  have sx2 := (CR2.safe E1.lt (own_safeNull (a0 := a0) hZ.alike E1 F1))
  obtain ⟨T6, X6, e6, st6⟩ := getF X2 hx hZ2 hown2 (host := "") (Or.inl (hw _ (List.mem_of_getElem? (i := 28) rfl))) Via.refl e2 fv2 (g := (mkF m 11 #[.val (.ref x), .val (.ref b), .val (.int (0 : Int32)), .val (.int (0 : Int32)), .val .null, .unset] [(.ref a2), (.ref x)])) rfl rfl (hb hby d2_11)
  have f7 := (F1.ext E2)
  have f8 := (E1.ext E2)
  obtain ⟨T9, h9, X9, e9, W9, st9⟩ := putF X6 hx hZ2 hown2 (host := "") (Or.inl (hw _ (List.mem_of_getElem? (i := 28) rfl))) Via.refl e6 f7 f8 (Or.inr ⟨(hw _ (List.mem_of_getElem? (i := 29) rfl)), rfl, hnm⟩) (hw _ (List.mem_of_getElem? (i := 2) rfl)) (ty := (.array .byte)) (by decide) rfl rfl (g := (mkF m 14 #[.val (.ref x), .val (.ref b), .val (.int (0 : Int32)), .val (.int (0 : Int32)), .val .null, .unset] [(.ref b2), (.ref x)])) rfl rfl (hb hby d2_14)
  have Z10 : n0 ≤ h9.size := Nat.le_trans Z3 (Keep.of_wr W9).1
  have hk11 := Nat.le_trans hkk2 ((Keep.of_wr W9).1 : _ ≤ h9.size)
  have K12 : Keep h0 h9 [x] := K4.wr W9 (Or.inl (List.mem_of_getElem? (i := 0) rfl))
  have N9 := Fr.snoc X9 N0 ge1
  have C13 := (C5.trans (CHr.wr W9 sx2 C5.1))
  have f14 := f7.same W9
  obtain ⟨a15, T15, h15, k115, b15, kl15, X15, e15, E15, hS15, hkk15, hZ15, hown15, fe15, fc15, fv15, fa15, la15, lb15, CR15, hL15, hne15, st15⟩ := ldcCH (s := s) (vm0 := T2.vm) X9 hx hZ2 hown2 (hw _ (List.mem_of_getElem? (i := 68) rfl)) hwS e9 hS2 hk11 hEL (own_mem68) C13.1 (vs := ([] : List Value)) (z := (0 : Int32)) ⟨by decide, by decide⟩ (by decide) rfl (g := (mkF m 18 #[.val (.ref x), .val (.ref b), .val (.int (0 : Int32)), .val (.int (0 : Int32)), .val .null, .unset] [(.ref x)])) rfl (hb hby d2_18) (n := 0) (by decide) (by decide) (by decide) (by decide)
  have Z16 : n0 ≤ h15.size := Nat.le_trans Z10 E15.1
  have K17 : Keep h0 h15 [x] := K12.ext E15
  have C18 := (C13.trans CR15)
  obtain ⟨T19, X19, e19, st19⟩ := getF X15 hx hZ15 hown15 (host := "") (Or.inl (hw _ (List.mem_of_getElem? (i := 26) rfl))) Via.refl e15 fc15 (g := (mkF m 20 #[.val (.ref x), .val (.ref b), .val (.int (0 : Int32)), .val (.int (0 : Int32)), .val .null, .unset] [(.ref a15), (.ref x)])) rfl rfl (hb hby d2_20)
  have f20 := (((F2.ext E2).other W9 (Or.inr (slot_ne (Or.inr (hw _ (List.mem_of_getElem? (i := 27) rfl))) (Or.inr (hw _ (List.mem_of_getElem? (i := 29) rfl))) (by decide) (t := .byte) (t' := (.array .byte)) (by decide) (by decide)))).ext E15)
  have f21 := ((f8.wr W9).ext E15)
  have hn22 : narrow .byte (.int (0 : Int32)) = .int (nar .byte (0 : Int32)) := rfl
  obtain ⟨T22, h22, X22, e22, W22, st22⟩ := putFN X19 hx hZ15 hown15 (hw _ (List.mem_of_getElem? (i := 26) rfl)) Via.refl e19 f20 f21 (Or.inr ⟨(hw _ (List.mem_of_getElem? (i := 27) rfl)), rfl, hnm⟩) (hw _ (List.mem_of_getElem? (i := 2) rfl)) (ty := .byte) (v' := (.int (nar .byte (0 : Int32)))) (by decide) rfl (fits_nar_byte _) (g := (mkF m 23 #[.val (.ref x), .val (.ref b), .val (.int (0 : Int32)), .val (.int (0 : Int32)), .val .null, .unset] [(.int (0 : Int32)), (.ref x)])) rfl rfl (hb hby d2_23)
  have Z23 : n0 ≤ h22.size := Nat.le_trans Z16 (Keep.of_wr W22).1
  have hk24 := Nat.le_trans hkk15 ((Keep.of_wr W22).1 : _ ≤ h22.size)
  have K25 : Keep h0 h22 [x] := K17.wr W22 (Or.inl (List.mem_of_getElem? (i := 0) rfl))
  have N22 := Fr.snoc X22 N9 ge1
  have C26 := (C18.trans (CHr.wr W22 (CR15.safe (f8.wr W9).lt (Safe.wr W9 sx2 C5.1 sx2)) C18.1))
  have f27 := f20.same W22
  have f28 := (((fa2.other W9 (Ne.symm (hne2 x sx2).2)).ext E15).other W22 (Ne.symm (hne2 x sx2).2))
  have f29 := (f21.wr W22)
  have f30 := ((f14.ext E15).other W22 (Or.inr (slot_ne (Or.inr (hw _ (List.mem_of_getElem? (i := 29) rfl))) (Or.inr (hw _ (List.mem_of_getElem? (i := 27) rfl))) (by decide) (t := (.array .byte)) (t' := .byte) (by decide) (by decide))))
  obtain ⟨fs, hr, hrun, hended, hW⟩ := Stand.leaveW (s := s) (vm₁ := T15.vm) X22 hS15 (by rw [e22]; exact hk24) (v := none) (fun _ => rfl)
  refine ⟨_, _, pre0 _ ?_, hrun, hended, _, _, rfl, ?_, own_chr (T := T22) hh e22 (C26.trans (CHv.at (s := s) (vm0 := T15.vm) X22 hZ15 hEL C26.1)), own_wmono hW (by decide) (by decide)⟩
  · show Steps p.tables e below (s₁.setTop (mkF m 0 #[.val (.ref x), .val (.ref b), .val (.int (0 : Int32)), .val (.int (0 : Int32)), .val .null, .unset] [])) _
    refine XS.aloadN X0.here hx rfl (hb hby d2_0) rfl rfl ?_
    show Steps p.tables e below (s₁.setTop (mkF m 1 #[.val (.ref x), .val (.ref b), .val (.int (0 : Int32)), .val (.int (0 : Int32)), .val .null, .unset] [(.ref x)])) _
    refine st1 _ ?_
    show Steps p.tables e below (T1.setTop (mkF m 4 #[.val (.ref x), .val (.ref b), .val (.int (0 : Int32)), .val (.int (0 : Int32)), .val .null, .unset] [])) _
    refine XS.iloadN X1.here hx rfl (hb hby d2_4) rfl ?_
    show Steps p.tables e below (T1.setTop (mkF m 5 #[.val (.ref x), .val (.ref b), .val (.int (0 : Int32)), .val (.int (0 : Int32)), .val .null, .unset] [(.int (0 : Int32))])) _
    refine XS.ifNo X1.here hx rfl (hb hby d2_5) rfl ((if0 _ _).trans (teq rfl).2) ?_
    show Steps p.tables e below (T1.setTop (mkF m 8 #[.val (.ref x), .val (.ref b), .val (.int (0 : Int32)), .val (.int (0 : Int32)), .val .null, .unset] [])) _
    refine XS.aloadN X1.here hx rfl (hb hby d2_8) rfl rfl ?_
    show Steps p.tables e below (T1.setTop (mkF m 9 #[.val (.ref x), .val (.ref b), .val (.int (0 : Int32)), .val (.int (0 : Int32)), .val .null, .unset] [(.ref x)])) _
    refine st2 _ ?_
    show Steps p.tables e below (T2.setTop (mkF m 11 #[.val (.ref x), .val (.ref b), .val (.int (0 : Int32)), .val (.int (0 : Int32)), .val .null, .unset] [(.ref a2), (.ref x)])) _
    refine st6 _ ?_
    show Steps p.tables e below (T6.setTop (mkF m 14 #[.val (.ref x), .val (.ref b), .val (.int (0 : Int32)), .val (.int (0 : Int32)), .val .null, .unset] [(.ref b2), (.ref x)])) _
    refine st9 _ ?_
    show Steps p.tables e below (T9.setTop (mkF m 17 #[.val (.ref x), .val (.ref b), .val (.int (0 : Int32)), .val (.int (0 : Int32)), .val .null, .unset] [])) _
    refine XS.aloadN X9.here hx rfl (hb hby d2_17) rfl rfl ?_
    show Steps p.tables e below (T9.setTop (mkF m 18 #[.val (.ref x), .val (.ref b), .val (.int (0 : Int32)), .val (.int (0 : Int32)), .val .null, .unset] [(.ref x)])) _
    refine st15 _ ?_
    show Steps p.tables e below (T15.setTop (mkF m 20 #[.val (.ref x), .val (.ref b), .val (.int (0 : Int32)), .val (.int (0 : Int32)), .val .null, .unset] [(.ref a15), (.ref x)])) _
    refine st19 _ ?_
    show Steps p.tables e below (T19.setTop (mkF m 23 #[.val (.ref x), .val (.ref b), .val (.int (0 : Int32)), .val (.int (0 : Int32)), .val .null, .unset] [(.int (0 : Int32)), (.ref x)])) _
    refine st22 _ ?_
    show Steps p.tables e below (T22.setTop (mkF m 26 #[.val (.ref x), .val (.ref b), .val (.int (0 : Int32)), .val (.int (0 : Int32)), .val .null, .unset] [])) _
    exact X22.returnOut hx hret0 (hb hby d2_26) hr
  · show QE Z x h0 n0 _ T22.heap _
    rw [e22]
    exact ⟨rfl, N22, K25, by decide, by decide, f29, own_nbyte0 ▸ f27, b2, kl2, f30, f28⟩
theorem d1_0 : decode jdk_42_method_3_code 0 = .ok (.aload_n 0, 1) := by decide +kernel
theorem d1_1 : decode jdk_42_method_3_code 1 = .ok (.aload_n 1, 1) := by decide +kernel
theorem d1_2 : decode jdk_42_method_3_code 2 = .ok (.iconst 0, 1) := by decide +kernel
theorem d1_3 : decode jdk_42_method_3_code 3 = .ok (.aload_n 1, 1) := by decide +kernel
theorem d1_4 : decode jdk_42_method_3_code 4 = .ok (.arraylength, 1) := by decide +kernel
theorem d1_5 : decode jdk_42_method_3_code 5 = .ok (.aconst_null, 1) := by decide +kernel
theorem d1_6 : decode jdk_42_method_3_code 6 = .ok (.invokespecial 27, 3) := by decide +kernel
theorem d1_9 : decode jdk_42_method_3_code 9 = .ok (.return_, 1) := by decide +kernel
theorem own_pn_rmE1 : plainName "java/lang/String" = true := by first | (simp [plainName, overriddenIn]; done) | decide +kernel
theorem own_ef_rmE1 (m : MethodId) (x : Addr) (b : Addr) : entryFrame m #[(.ref x), (.ref b)] 2 = (mkF m 0 #[.val (.ref x), .val (.ref b)] []) := by first | (simp [entryFrame, mkF, argsToLocals, Value.category]; done) | rfl
set_option maxRecDepth 65536 in
set_option maxHeartbeats 40000000 in
theorem rmE1 (l : Launch) (Z : State) (a0 : Array Value) (hw : ∀ d ∈ tables_1, d.before a0 Z = true) (ws : List Jvm.Cond) (x : Addr) (b : Addr) (kb : ClassId) (h0 : Heap) (n0 : Nat) (Z0 : n0 ≤ h0.size) (E1 : Exa Z h0 x "java/lang/String") (F1 : Fld Z h0 x "java/lang/String" "value" "[B" .null) (F2 : Fld Z h0 x "java/lang/String" "coder" "B" (.int (0 : Int32))) (ge1 : n0 ≤ x) (VB : Arv Z h0 b kb .char (0 : Int32) [] (.int (0 : Int32))) :
    MetFree l (⟨"java/lang/String", "<init>", "([C)V"⟩ : MethodName) (head1 (Jvm.Cond.code (⟨"java/lang/String", "<init>", "([C)V"⟩ : MethodName) jdk_42_method_3_code 2 none :: ws) ({ frames := 2, cells := 4, slots := 8, locals := 29 } : Room)) (fun a U => a = #[(.ref x), (.ref b)] ∧ Z.Warmed39 U.vm ∧ U.heap = h0 ∧ CHv Z EL U.vm h0) (fun _ _ _ _ _ => True) (fun _ U o U' => ∃ v L, o = .returned v ∧ QE Z x h0 n0 v U'.heap L ∧ CHr Z EL U.vm U.heap U'.vm U'.heap ∧ ReturnedEndW U o U' L ({ frames := 2, cells := 4, slots := 8, locals := 29 } : Room).cells ({ frames := 2, cells := 4, slots := 8, locals := 29 } : Room).slots) := by
  refine MetFree.of_bodySF (plainFor_of_name own_pn_rmE1) hisR ?_
  intro p e s m args below meth c s₁ Bd hml0 hP hK
  obtain ⟨hargs, hZ, hh, hC0⟩ := hP
  have hx := Bd.exec
  have hby := Bd.bytes
  have hml : c.maxLocals = 2 := hml0
  have hown : s.vm.findClass "java/lang/String" = some m.cls := findClass_of_methodNamed Bd.named
  have hnm := (name_of_methodNamed Bd.named Bd.method).1
  have hlock : meth.locks = false := Bd.notSynchronized
  have hret0 := Bd.returns
  have hZ : Z.Warmed39 (s.setVm s.vm).vm := hZ
  have hown : (s.setVm s.vm).vm.findClass "java/lang/String" = some m.cls := hown
  have hEL := own_EL hw
  have hwS := own_wS hw
  have C0 := CHr.refl hC0
  have X0 : Stand p l e ({ frames := 2, cells := 4, slots := 8, locals := 29 } : Room) (s.setVm s.vm) m args below meth c s₁ [] 0 0 := Stand.of_body Bd
  have e0 : s₁.heap = h0 := by rw [← hh, Bd.state]; rfl
  have N0 := Fr.nil n0
  have pre0 : ∀ t, Steps p.tables e below (s₁.setTop (mkF m 0 #[.val (.ref x), .val (.ref b)] [])) t → Steps p.tables e below (s₁.setTop (entryFrame m args 2)) t := fun t k => castTop (by rw [hargs]; exact own_ef_rmE1 m x b) k
  have hS0 := (State.WarmedH.refl s).since 0
  clear Bd
  obtain ⟨cl31, Ar31, -, S31, M31, -, -⟩ := id VB
  obtain ⟨v32, vmx32, ⟨T32, L32, k32, n32⟩, -, Xq32, hSq32, hgr32, ⟨Lc32, hQ32, l32, y32, z32, CR32⟩, st32⟩ := X0.specialBackS hx (y := (⟨"java/lang/String", "<init>", "([CIILjava/lang/Void;)V"⟩ : MethodName)) rfl hown (mvT hZ (hw _ (List.mem_of_getElem? (i := 7) rfl))) (mvT hZ (hw _ (List.mem_of_getElem? (i := 8) rfl))) (mvT hZ (hw _ (List.mem_of_getElem? (i := 10) rfl))) (by decide) (backOfSH (s := s) (vm0 := s.vm) (W := 0) (rmE2 l Z a0 hw [] x b h0 n0 Z0 E1 F1 F2 ge1) hZ (hw _ (List.mem_of_getElem? (i := 10) rfl)) (hw _ (List.mem_of_getElem? (i := 3) rfl)) (by decide) (by decide) hEL C0.1) (g := (mkF m 6 #[.val (.ref x), .val (.ref b)] [.null, (.int (0 : Int32)), (.int (0 : Int32)), (.ref b), (.ref x)])) rfl (by rw [hml]; rfl) (Steps.refl _) (a := x) (argsL := [(.ref b), (.int (0 : Int32)), (.int (0 : Int32)), .null]) (rest := []) (lenOf own_pd0 rfl) rfl (by show 2 * 0 + _ ≤ _; exact Nat.le_of_eq rfl) (hb hby d1_6) (fun _ _ => ⟨rfl, e0, (by decide : 0 + 4 ≤ _), (by decide : 0 + 8 ≤ _)⟩)
  dsimp only [Pt.U, Pt.locs, Pt.cells, Pt.slots] at Xq32 hSq32 hgr32 l32 y32 z32 st32 hQ32 CR32
  subst l32 y32 z32
  obtain ⟨X32, hS32, hZ32, hown32⟩ := rebS (s := s) (vm0 := s.vm) hS0 (by rw [e0]; exact (Nat.zero_le _)) Xq32 hSq32 hgr32 hZ hown
  obtain ⟨rfl, Nq32, K32, S32⟩ := hQ32
  have N32 := Fr.app N0 Nq32
  have Z33 : n0 ≤ T32.heap.size := Nat.le_trans Z0 K32.1
  have K34 : Keep h0 T32.heap [x] := (Keep.refl h0 [x]).trans K32 (allS (Or.inl (List.mem_of_getElem? (i := 0) rfl)) all0)
  have C35 := (C0.trans CR32)
  obtain ⟨fs, hr, hrun, hended, hW⟩ := Stand.leaveW (s := s) (vm₁ := T32.vm) X32 hS32 (by rw [show T32.heap = _ from rfl]; exact (Nat.le_refl _)) (v := none) (fun _ => rfl)
  refine ⟨_, _, pre0 _ ?_, hrun, hended, _, _, rfl, ?_, own_chr (T := T32) hh rfl (C35.trans (CHv.at (s := s) (vm0 := T32.vm) X32 hZ32 hEL C35.1)), own_wmono hW (by decide) (by decide)⟩
  · show Steps p.tables e below (s₁.setTop (mkF m 0 #[.val (.ref x), .val (.ref b)] [])) _
    refine XS.aloadN X0.here hx rfl (hb hby d1_0) rfl rfl ?_
    show Steps p.tables e below (s₁.setTop (mkF m 1 #[.val (.ref x), .val (.ref b)] [(.ref x)])) _
    refine XS.aloadN X0.here hx rfl (hb hby d1_1) rfl rfl ?_
    show Steps p.tables e below (s₁.setTop (mkF m 2 #[.val (.ref x), .val (.ref b)] [(.ref b), (.ref x)])) _
    refine XS.iconst X0.here hx rfl (hb hby d1_2) ?_
    show Steps p.tables e below (s₁.setTop (mkF m 3 #[.val (.ref x), .val (.ref b)] [(.int (0 : Int32)), (.ref b), (.ref x)])) _
    refine XS.aloadN X0.here hx rfl (hb hby d1_3) rfl rfl ?_
    show Steps p.tables e below (s₁.setTop (mkF m 4 #[.val (.ref x), .val (.ref b)] [(.ref b), (.int (0 : Int32)), (.ref b), (.ref x)])) _
    refine X0.arraylength hx (by rw [e0]; exact Ar31.1) (State.isArrayOf_alike hZ.alike Ar31.2.1) (g := (mkF m 4 #[.val (.ref x), .val (.ref b)] [(.ref b), (.int (0 : Int32)), (.ref b), (.ref x)])) rfl rfl (hb hby d1_4) _ ?_
    rw [len_of S31 M31]
    show Steps p.tables e below (s₁.setTop (mkF m 5 #[.val (.ref x), .val (.ref b)] [(.int (0 : Int32)), (.int (0 : Int32)), (.ref b), (.ref x)])) _
    refine XS.aconstNull X0.here hx rfl (hb hby d1_5) ?_
    show Steps p.tables e below (s₁.setTop (mkF m 6 #[.val (.ref x), .val (.ref b)] [.null, (.int (0 : Int32)), (.int (0 : Int32)), (.ref b), (.ref x)])) _
    refine st32.trans ?_
    show Steps p.tables e below (T32.setTop (mkF m 9 #[.val (.ref x), .val (.ref b)] [])) _
    exact X32.returnOut hx hret0 (hb hby d1_9) hr
  · show QE Z x h0 n0 _ T32.heap _
    exact ⟨rfl, N32, K34, S32⟩
theorem d8_0 : decode jdk_30_method_1_code 0 = .ok (.aload_n 0, 1) := by decide +kernel
theorem d8_1 : decode jdk_30_method_1_code 1 = .ok (.invokespecial 1, 3) := by decide +kernel
theorem d8_4 : decode jdk_30_method_1_code 4 = .ok (.return_, 1) := by decide +kernel
def Qrm8 (h0 : Heap) (n0 : Nat) (v : Option Value) (h : Heap) (L : List Loc) : Prop := v = none ∧ Fr n0 L ∧ h = h0
theorem own_pn_rm8 : plainName "java/lang/Record" = true := by first | (simp [plainName, overriddenIn]; done) | decide +kernel
theorem own_ef_rm8 (m : MethodId) (a1 : Addr) : entryFrame m #[(.ref a1)] 1 = (mkF m 0 #[.val (.ref a1)] []) := by first | (simp [entryFrame, mkF, argsToLocals, Value.category]; done) | rfl
set_option maxRecDepth 65536 in
set_option maxHeartbeats 40000000 in
theorem rm8 (l : Launch) (Z : State) (a0 : Array Value) (hw : ∀ d ∈ tables_1, d.before a0 Z = true) (ws : List Jvm.Cond) (a1 : Addr) (h0 : Heap) (n0 : Nat) (Z0 : n0 ≤ h0.size) :
    MetFree l (⟨"java/lang/Record", "<init>", "()V"⟩ : MethodName) (head1 (Jvm.Cond.code (⟨"java/lang/Record", "<init>", "()V"⟩ : MethodName) jdk_30_method_1_code 1 none :: ws) ({ frames := 1, cells := 0, slots := 0, locals := 12 } : Room)) (fun a U => a = #[(.ref a1)] ∧ Z.Warmed39 U.vm ∧ U.heap = h0) (fun _ _ _ _ _ => True) (fun _ U o U' => ∃ v L, o = .returned v ∧ Qrm8 h0 n0 v U'.heap L ∧ FrameEnd U o U' L ({ frames := 1, cells := 0, slots := 0, locals := 12 } : Room).cells ({ frames := 1, cells := 0, slots := 0, locals := 12 } : Room).slots) := by
  refine MetFree.of_bodySF (plainFor_of_name own_pn_rm8) hisR ?_
  intro p e s m args below meth c s₁ Bd hml0 hP hK
  obtain ⟨hargs, hZ, hh⟩ := hP
  have hx := Bd.exec
  have hby := Bd.bytes
  have hml : c.maxLocals = 1 := hml0
  have hown : s.vm.findClass "java/lang/Record" = some m.cls := findClass_of_methodNamed Bd.named
  have hnm := (name_of_methodNamed Bd.named Bd.method).1
  have hlock : meth.locks = false := Bd.notSynchronized
  have hret0 := Bd.returns
  have X0 : Stand p l e ({ frames := 1, cells := 0, slots := 0, locals := 12 } : Room) s m args below meth c s₁ [] 0 0 := Stand.of_body Bd
  have e0 : s₁.heap = h0 := by rw [← hh, Bd.state]; rfl
  have N0 := Fr.nil n0
  have pre0 : ∀ t, Steps p.tables e below (s₁.setTop (mkF m 0 #[.val (.ref a1)] [])) t → Steps p.tables e below (s₁.setTop (entryFrame m args 1)) t := fun t k => castTop (by rw [hargs]; exact own_ef_rm8 m a1) k
  clear Bd
  obtain ⟨T36, X36, e36, st36⟩ := initO X0 hx hZ hown (hw _ (List.mem_of_getElem? (i := 41) rfl)) (hw _ (List.mem_of_getElem? (i := 12) rfl)) (hw _ (List.mem_of_getElem? (i := 13) rfl)) e0 (g := (mkF m 1 #[.val (.ref a1)] [(.ref a1)])) rfl (by rw [hml]; rfl) rfl (hb hby d8_1) (by decide) (W := 0) (by show 2 * 0 + _ ≤ _; exact Nat.le_of_eq rfl) (by decide)
  obtain ⟨fs, hr, hrun, hended, hW, hsame⟩ := X36.leave (v := none) (fun _ => rfl)
  refine ⟨_, _, pre0 _ ?_, hrun, hended, _, _, rfl, ?_, ⟨_, rfl⟩, hW, hsame.mono (by decide) (by decide)⟩
  · show Steps p.tables e below (s₁.setTop (mkF m 0 #[.val (.ref a1)] [])) _
    refine XS.aloadN X0.here hx rfl (hb hby d8_0) rfl rfl ?_
    show Steps p.tables e below (s₁.setTop (mkF m 1 #[.val (.ref a1)] [(.ref a1)])) _
    refine st36 _ ?_
    show Steps p.tables e below (T36.setTop (mkF m 4 #[.val (.ref a1)] [])) _
    exact X36.returnOut hx hret0 (hb hby d8_4) hr
  · show Qrm8 h0 n0 _ T36.heap _
    rw [e36]
    exact ⟨rfl, N0, rfl⟩
def Fs (Z : State) (h : Heap) (a : Addr) (x1 : Value) (x2 : Value) (x3 : Value) (x4 : Value) (x5 : Value) : Prop := Exa Z h a "com/example/sealwright/sealwright/cli/Option" ∧ Fld Z h a "com/example/sealwright/sealwright/cli/Option" "name" "Ljava/lang/String;" x1 ∧ Fld Z h a "com/example/sealwright/sealwright/cli/Option" "value" "Ljava/lang/String;" x2 ∧ Fld Z h a "com/example/sealwright/sealwright/cli/Option" "required" "Z" x3 ∧ Fld Z h a "com/example/sealwright/sealwright/cli/Option" "fallback" "Ljava/lang/String;" x4 ∧ Fld Z h a "com/example/sealwright/sealwright/cli/Option" "description" "Ljava/lang/String;" x5
theorem d7_0 : decode prog_5_method_1_code 0 = .ok (.aload_n 0, 1) := by decide +kernel
theorem d7_1 : decode prog_5_method_1_code 1 = .ok (.invokespecial 1, 3) := by decide +kernel
theorem d7_4 : decode prog_5_method_1_code 4 = .ok (.aload_n 0, 1) := by decide +kernel
theorem d7_5 : decode prog_5_method_1_code 5 = .ok (.aload_n 1, 1) := by decide +kernel
theorem d7_6 : decode prog_5_method_1_code 6 = .ok (.putfield 7, 3) := by decide +kernel
theorem d7_9 : decode prog_5_method_1_code 9 = .ok (.aload_n 0, 1) := by decide +kernel
theorem d7_10 : decode prog_5_method_1_code 10 = .ok (.aload_n 2, 1) := by decide +kernel
theorem d7_11 : decode prog_5_method_1_code 11 = .ok (.putfield 13, 3) := by decide +kernel
theorem d7_14 : decode prog_5_method_1_code 14 = .ok (.aload_n 0, 1) := by decide +kernel
theorem d7_15 : decode prog_5_method_1_code 15 = .ok (.iload_n 3, 1) := by decide +kernel
theorem d7_16 : decode prog_5_method_1_code 16 = .ok (.putfield 16, 3) := by decide +kernel
theorem d7_19 : decode prog_5_method_1_code 19 = .ok (.aload_n 0, 1) := by decide +kernel
theorem d7_20 : decode prog_5_method_1_code 20 = .ok (.aload 4, 2) := by decide +kernel
theorem d7_22 : decode prog_5_method_1_code 22 = .ok (.putfield 20, 3) := by decide +kernel
theorem d7_25 : decode prog_5_method_1_code 25 = .ok (.aload_n 0, 1) := by decide +kernel
theorem d7_26 : decode prog_5_method_1_code 26 = .ok (.aload 5, 2) := by decide +kernel
theorem d7_28 : decode prog_5_method_1_code 28 = .ok (.putfield 23, 3) := by decide +kernel
theorem d7_31 : decode prog_5_method_1_code 31 = .ok (.return_, 1) := by decide +kernel
def Qrm7 (Z : State) (a1 : Addr) (p0 : Value) (p1 : Value) (p2 : Int32) (p3 : Value) (p4 : Value) (h0 : Heap) (n0 : Nat) (v : Option Value) (h : Heap) (L : List Loc) : Prop := v = none ∧ Fr n0 L ∧ Keep h0 h [a1] ∧ Fs Z h a1 p0 p1 (.int (nar .boolean p2)) p3 p4
theorem own_pn_rm7 : plainName "com/example/sealwright/sealwright/cli/Option" = true := by first | (simp [plainName, overriddenIn]; done) | decide +kernel
theorem own_ef_rm7 (m : MethodId) (a1 : Addr) (p0 : Value) (p1 : Value) (p2 : Int32) (p3 : Value) (p4 : Value) (h_p0 : p0.isRef = true)  (h_p1 : p1.isRef = true)  (h_p3 : p3.isRef = true)  (h_p4 : p4.isRef = true) : entryFrame m #[(.ref a1), p0, p1, (.int p2), p3, p4] 6 = (mkF m 0 #[.val (.ref a1), .val p0, .val p1, .val (.int p2), .val p3, .val p4] []) := by rcases ref_cases h_p0 with rfl | ⟨_, rfl⟩ <;> rcases ref_cases h_p1 with rfl | ⟨_, rfl⟩ <;> rcases ref_cases h_p3 with rfl | ⟨_, rfl⟩ <;> rcases ref_cases h_p4 with rfl | ⟨_, rfl⟩ <;> first | (simp [entryFrame, mkF, argsToLocals, Value.category]; done) | rfl
set_option maxRecDepth 65536 in
set_option maxHeartbeats 40000000 in
theorem rm7 (l : Launch) (Z : State) (a0 : Array Value) (hw : ∀ d ∈ tables_1, d.before a0 Z = true) (ws : List Jvm.Cond) (a1 : Addr) (p0 : Value) (p1 : Value) (p2 : Int32) (p3 : Value) (p4 : Value) (u0 : Value) (u1 : Value) (u2 : Value) (u3 : Value) (u4 : Value) (h0 : Heap) (n0 : Nat) (Z0 : n0 ≤ h0.size) (hr0 : p0.isRef = true) (hr1 : p1.isRef = true) (hr3 : p3.isRef = true) (hr4 : p4.isRef = true) (ge1 : n0 ≤ a1) (F : Fs Z h0 a1 u0 u1 u2 u3 u4) :
    MetFree l (⟨"com/example/sealwright/sealwright/cli/Option", "<init>", "(Ljava/lang/String;Ljava/lang/String;ZLjava/lang/String;Ljava/lang/String;)V"⟩ : MethodName) (head1 (Jvm.Cond.code (⟨"com/example/sealwright/sealwright/cli/Option", "<init>", "(Ljava/lang/String;Ljava/lang/String;ZLjava/lang/String;Ljava/lang/String;)V"⟩ : MethodName) prog_5_method_1_code 6 none :: ws) ({ frames := 2, cells := 0, slots := 0, locals := 24 } : Room)) (fun a U => a = #[(.ref a1), p0, p1, (.int p2), p3, p4] ∧ Z.Warmed39 U.vm ∧ U.heap = h0) (fun _ _ _ _ _ => True) (fun _ U o U' => ∃ v L, o = .returned v ∧ Qrm7 Z a1 p0 p1 p2 p3 p4 h0 n0 v U'.heap L ∧ FrameEnd U o U' L ({ frames := 2, cells := 0, slots := 0, locals := 24 } : Room).cells ({ frames := 2, cells := 0, slots := 0, locals := 24 } : Room).slots) := by
  refine MetFree.of_bodySF (plainFor_of_name own_pn_rm7) hisR ?_
  intro p e s m args below meth c s₁ Bd hml0 hP hK
  obtain ⟨hargs, hZ, hh⟩ := hP
  have hx := Bd.exec
  have hby := Bd.bytes
  have hml : c.maxLocals = 6 := hml0
  have hown : s.vm.findClass "com/example/sealwright/sealwright/cli/Option" = some m.cls := findClass_of_methodNamed Bd.named
  have hnm := (name_of_methodNamed Bd.named Bd.method).1
  have hlock : meth.locks = false := Bd.notSynchronized
  have hret0 := Bd.returns
  have X0 : Stand p l e ({ frames := 2, cells := 0, slots := 0, locals := 24 } : Room) s m args below meth c s₁ [] 0 0 := Stand.of_body Bd
  have e0 : s₁.heap = h0 := by rw [← hh, Bd.state]; rfl
  have N0 := Fr.nil n0
  have pre0 : ∀ t, Steps p.tables e below (s₁.setTop (mkF m 0 #[.val (.ref a1), .val p0, .val p1, .val (.int p2), .val p3, .val p4] [])) t → Steps p.tables e below (s₁.setTop (entryFrame m args 6)) t := fun t k => castTop (by rw [hargs]; exact own_ef_rm7 m a1 p0 p1 p2 p3 p4 hr0 hr1 hr3 hr4) k
  clear Bd
  obtain ⟨Ex, F0, F1, F2, F3, F4⟩ := F
  obtain ⟨v37, vmx37, ⟨T37, L37, k37, n37⟩, -, X37, ⟨Lc37, hQ37, l37, y37, z37⟩, st37⟩ := X0.specialBack hx (y := (⟨"java/lang/Record", "<init>", "()V"⟩ : MethodName)) rfl hown (mvT hZ (hw _ (List.mem_of_getElem? (i := 36) rfl))) (mvT hZ (hw _ (List.mem_of_getElem? (i := 37) rfl))) (mvT hZ (hw _ (List.mem_of_getElem? (i := 40) rfl))) (by decide) (backOf (W := 0) (rm8 l Z a0 hw [] a1 h0 n0 Z0) hZ (hw _ (List.mem_of_getElem? (i := 40) rfl)) (hw _ (List.mem_of_getElem? (i := 39) rfl)) (by decide) (by decide)) (g := (mkF m 1 #[.val (.ref a1), .val p0, .val p1, .val (.int p2), .val p3, .val p4] [(.ref a1)])) rfl (by rw [hml]; rfl) (Steps.refl _) (a := a1) (argsL := []) (rest := []) (lenOf own_pd1 rfl) rfl (by show 2 * 0 + _ ≤ _; exact Nat.le_of_eq rfl) (hb hby d7_1) (fun _ _ => ⟨rfl, e0, (by decide : 0 + 0 ≤ _), (by decide : 0 + 0 ≤ _)⟩)
  dsimp only [Pt.U, Pt.locs, Pt.cells, Pt.slots] at X37 l37 y37 z37 st37 hQ37
  subst l37 y37 z37
  obtain ⟨rfl, Nq37, eh37⟩ := hQ37
  have N37 := Fr.app N0 Nq37
  obtain ⟨T38, h38, X38, e38, W38, st38⟩ := putF X37 hx hZ hown (host := "") (Or.inl (hw _ (List.mem_of_getElem? (i := 42) rfl))) Via.refl eh37 F0 Ex (Or.inr ⟨(hw _ (List.mem_of_getElem? (i := 43) rfl)), rfl, hnm⟩) (hw _ (List.mem_of_getElem? (i := 31) rfl)) (ty := (.object "java/lang/String")) (by decide) (own_narR hr0 (by decide)) (own_fitR hr0 (by decide)) (g := (mkF m 6 #[.val (.ref a1), .val p0, .val p1, .val (.int p2), .val p3, .val p4] [p0, (.ref a1)])) rfl rfl (hb hby d7_6)
  have Z39 : n0 ≤ h38.size := Nat.le_trans Z0 (Keep.of_wr W38).1
  have K40 : Keep h0 h38 [a1] := (Keep.refl h0 [a1]).wr W38 (Or.inl (List.mem_of_getElem? (i := 0) rfl))
  have N38 := Fr.snoc X38 N37 ge1
  have f41 := F0.same W38
  have f42 := (F1.other W38 (Or.inr (slot_ne (Or.inr (hw _ (List.mem_of_getElem? (i := 45) rfl))) (Or.inr (hw _ (List.mem_of_getElem? (i := 43) rfl))) (by decide) (t := (.object "java/lang/String")) (t' := (.object "java/lang/String")) (by decide) (by decide))))
  have f43 := (Ex.wr W38)
  obtain ⟨T44, h44, X44, e44, W44, st44⟩ := putF X38 hx hZ hown (host := "") (Or.inl (hw _ (List.mem_of_getElem? (i := 44) rfl))) Via.refl e38 f42 f43 (Or.inr ⟨(hw _ (List.mem_of_getElem? (i := 45) rfl)), rfl, hnm⟩) (hw _ (List.mem_of_getElem? (i := 31) rfl)) (ty := (.object "java/lang/String")) (by decide) (own_narR hr1 (by decide)) (own_fitR hr1 (by decide)) (g := (mkF m 11 #[.val (.ref a1), .val p0, .val p1, .val (.int p2), .val p3, .val p4] [p1, (.ref a1)])) rfl rfl (hb hby d7_11)
  have Z45 : n0 ≤ h44.size := Nat.le_trans Z39 (Keep.of_wr W44).1
  have K46 : Keep h0 h44 [a1] := K40.wr W44 (Or.inl (List.mem_of_getElem? (i := 0) rfl))
  have N44 := Fr.snoc X44 N38 ge1
  have f47 := f42.same W44
  have f48 := ((F2.other W38 (Or.inr (slot_ne (Or.inr (hw _ (List.mem_of_getElem? (i := 47) rfl))) (Or.inr (hw _ (List.mem_of_getElem? (i := 43) rfl))) (by decide) (t := .boolean) (t' := (.object "java/lang/String")) (by decide) (by decide)))).other W44 (Or.inr (slot_ne (Or.inr (hw _ (List.mem_of_getElem? (i := 47) rfl))) (Or.inr (hw _ (List.mem_of_getElem? (i := 45) rfl))) (by decide) (t := .boolean) (t' := (.object "java/lang/String")) (by decide) (by decide))))
  have f49 := (f43.wr W44)
  obtain ⟨T50, h50, X50, e50, W50, st50⟩ := putFN X44 hx hZ hown (hw _ (List.mem_of_getElem? (i := 46) rfl)) Via.refl e44 f48 f49 (Or.inr ⟨(hw _ (List.mem_of_getElem? (i := 47) rfl)), rfl, hnm⟩) (hw _ (List.mem_of_getElem? (i := 31) rfl)) (ty := .boolean) (v' := (.int (nar .boolean p2))) (by decide) rfl (fits_nar_bool _) (g := (mkF m 16 #[.val (.ref a1), .val p0, .val p1, .val (.int p2), .val p3, .val p4] [(.int p2), (.ref a1)])) rfl rfl (hb hby d7_16)
  have Z51 : n0 ≤ h50.size := Nat.le_trans Z45 (Keep.of_wr W50).1
  have K52 : Keep h0 h50 [a1] := K46.wr W50 (Or.inl (List.mem_of_getElem? (i := 0) rfl))
  have N50 := Fr.snoc X50 N44 ge1
  have f53 := f48.same W50
  have f54 := (((F3.other W38 (Or.inr (slot_ne (Or.inr (hw _ (List.mem_of_getElem? (i := 49) rfl))) (Or.inr (hw _ (List.mem_of_getElem? (i := 43) rfl))) (by decide) (t := (.object "java/lang/String")) (t' := (.object "java/lang/String")) (by decide) (by decide)))).other W44 (Or.inr (slot_ne (Or.inr (hw _ (List.mem_of_getElem? (i := 49) rfl))) (Or.inr (hw _ (List.mem_of_getElem? (i := 45) rfl))) (by decide) (t := (.object "java/lang/String")) (t' := (.object "java/lang/String")) (by decide) (by decide)))).other W50 (Or.inr (slot_ne (Or.inr (hw _ (List.mem_of_getElem? (i := 49) rfl))) (Or.inr (hw _ (List.mem_of_getElem? (i := 47) rfl))) (by decide) (t := (.object "java/lang/String")) (t' := .boolean) (by decide) (by decide))))
  have f55 := (f49.wr W50)
  obtain ⟨T56, h56, X56, e56, W56, st56⟩ := putF X50 hx hZ hown (host := "") (Or.inl (hw _ (List.mem_of_getElem? (i := 48) rfl))) Via.refl e50 f54 f55 (Or.inr ⟨(hw _ (List.mem_of_getElem? (i := 49) rfl)), rfl, hnm⟩) (hw _ (List.mem_of_getElem? (i := 31) rfl)) (ty := (.object "java/lang/String")) (by decide) (own_narR hr3 (by decide)) (own_fitR hr3 (by decide)) (g := (mkF m 22 #[.val (.ref a1), .val p0, .val p1, .val (.int p2), .val p3, .val p4] [p3, (.ref a1)])) rfl rfl (hb hby d7_22)
  have Z57 : n0 ≤ h56.size := Nat.le_trans Z51 (Keep.of_wr W56).1
  have K58 : Keep h0 h56 [a1] := K52.wr W56 (Or.inl (List.mem_of_getElem? (i := 0) rfl))
  have N56 := Fr.snoc X56 N50 ge1
  have f59 := f54.same W56
  have f60 := ((((F4.other W38 (Or.inr (slot_ne (Or.inr (hw _ (List.mem_of_getElem? (i := 51) rfl))) (Or.inr (hw _ (List.mem_of_getElem? (i := 43) rfl))) (by decide) (t := (.object "java/lang/String")) (t' := (.object "java/lang/String")) (by decide) (by decide)))).other W44 (Or.inr (slot_ne (Or.inr (hw _ (List.mem_of_getElem? (i := 51) rfl))) (Or.inr (hw _ (List.mem_of_getElem? (i := 45) rfl))) (by decide) (t := (.object "java/lang/String")) (t' := (.object "java/lang/String")) (by decide) (by decide)))).other W50 (Or.inr (slot_ne (Or.inr (hw _ (List.mem_of_getElem? (i := 51) rfl))) (Or.inr (hw _ (List.mem_of_getElem? (i := 47) rfl))) (by decide) (t := (.object "java/lang/String")) (t' := .boolean) (by decide) (by decide)))).other W56 (Or.inr (slot_ne (Or.inr (hw _ (List.mem_of_getElem? (i := 51) rfl))) (Or.inr (hw _ (List.mem_of_getElem? (i := 49) rfl))) (by decide) (t := (.object "java/lang/String")) (t' := (.object "java/lang/String")) (by decide) (by decide))))
  have f61 := (f55.wr W56)
  obtain ⟨T62, h62, X62, e62, W62, st62⟩ := putF X56 hx hZ hown (host := "") (Or.inl (hw _ (List.mem_of_getElem? (i := 50) rfl))) Via.refl e56 f60 f61 (Or.inr ⟨(hw _ (List.mem_of_getElem? (i := 51) rfl)), rfl, hnm⟩) (hw _ (List.mem_of_getElem? (i := 31) rfl)) (ty := (.object "java/lang/String")) (by decide) (own_narR hr4 (by decide)) (own_fitR hr4 (by decide)) (g := (mkF m 28 #[.val (.ref a1), .val p0, .val p1, .val (.int p2), .val p3, .val p4] [p4, (.ref a1)])) rfl rfl (hb hby d7_28)
  have Z63 : n0 ≤ h62.size := Nat.le_trans Z57 (Keep.of_wr W62).1
  have K64 : Keep h0 h62 [a1] := K58.wr W62 (Or.inl (List.mem_of_getElem? (i := 0) rfl))
  have N62 := Fr.snoc X62 N56 ge1
  have f65 := f60.same W62
  have f66 := (f61.wr W62)
  have f67 := ((((f41.other W44 (Or.inr (slot_ne (Or.inr (hw _ (List.mem_of_getElem? (i := 43) rfl))) (Or.inr (hw _ (List.mem_of_getElem? (i := 45) rfl))) (by decide) (t := (.object "java/lang/String")) (t' := (.object "java/lang/String")) (by decide) (by decide)))).other W50 (Or.inr (slot_ne (Or.inr (hw _ (List.mem_of_getElem? (i := 43) rfl))) (Or.inr (hw _ (List.mem_of_getElem? (i := 47) rfl))) (by decide) (t := (.object "java/lang/String")) (t' := .boolean) (by decide) (by decide)))).other W56 (Or.inr (slot_ne (Or.inr (hw _ (List.mem_of_getElem? (i := 43) rfl))) (Or.inr (hw _ (List.mem_of_getElem? (i := 49) rfl))) (by decide) (t := (.object "java/lang/String")) (t' := (.object "java/lang/String")) (by decide) (by decide)))).other W62 (Or.inr (slot_ne (Or.inr (hw _ (List.mem_of_getElem? (i := 43) rfl))) (Or.inr (hw _ (List.mem_of_getElem? (i := 51) rfl))) (by decide) (t := (.object "java/lang/String")) (t' := (.object "java/lang/String")) (by decide) (by decide))))
  have f68 := (((f47.other W50 (Or.inr (slot_ne (Or.inr (hw _ (List.mem_of_getElem? (i := 45) rfl))) (Or.inr (hw _ (List.mem_of_getElem? (i := 47) rfl))) (by decide) (t := (.object "java/lang/String")) (t' := .boolean) (by decide) (by decide)))).other W56 (Or.inr (slot_ne (Or.inr (hw _ (List.mem_of_getElem? (i := 45) rfl))) (Or.inr (hw _ (List.mem_of_getElem? (i := 49) rfl))) (by decide) (t := (.object "java/lang/String")) (t' := (.object "java/lang/String")) (by decide) (by decide)))).other W62 (Or.inr (slot_ne (Or.inr (hw _ (List.mem_of_getElem? (i := 45) rfl))) (Or.inr (hw _ (List.mem_of_getElem? (i := 51) rfl))) (by decide) (t := (.object "java/lang/String")) (t' := (.object "java/lang/String")) (by decide) (by decide))))
  have f69 := ((f53.other W56 (Or.inr (slot_ne (Or.inr (hw _ (List.mem_of_getElem? (i := 47) rfl))) (Or.inr (hw _ (List.mem_of_getElem? (i := 49) rfl))) (by decide) (t := .boolean) (t' := (.object "java/lang/String")) (by decide) (by decide)))).other W62 (Or.inr (slot_ne (Or.inr (hw _ (List.mem_of_getElem? (i := 47) rfl))) (Or.inr (hw _ (List.mem_of_getElem? (i := 51) rfl))) (by decide) (t := .boolean) (t' := (.object "java/lang/String")) (by decide) (by decide))))
  have f70 := (f59.other W62 (Or.inr (slot_ne (Or.inr (hw _ (List.mem_of_getElem? (i := 49) rfl))) (Or.inr (hw _ (List.mem_of_getElem? (i := 51) rfl))) (by decide) (t := (.object "java/lang/String")) (t' := (.object "java/lang/String")) (by decide) (by decide))))
  obtain ⟨fs, hr, hrun, hended, hW, hsame⟩ := X62.leave (v := none) (fun _ => rfl)
  refine ⟨_, _, pre0 _ ?_, hrun, hended, _, _, rfl, ?_, ⟨_, rfl⟩, hW, hsame.mono (by decide) (by decide)⟩
  · show Steps p.tables e below (s₁.setTop (mkF m 0 #[.val (.ref a1), .val p0, .val p1, .val (.int p2), .val p3, .val p4] [])) _
    refine XS.aloadN X0.here hx rfl (hb hby d7_0) rfl rfl ?_
    show Steps p.tables e below (s₁.setTop (mkF m 1 #[.val (.ref a1), .val p0, .val p1, .val (.int p2), .val p3, .val p4] [(.ref a1)])) _
    refine st37.trans ?_
    show Steps p.tables e below (T37.setTop (mkF m 4 #[.val (.ref a1), .val p0, .val p1, .val (.int p2), .val p3, .val p4] [])) _
    refine XS.aloadN X37.here hx rfl (hb hby d7_4) rfl rfl ?_
    show Steps p.tables e below (T37.setTop (mkF m 5 #[.val (.ref a1), .val p0, .val p1, .val (.int p2), .val p3, .val p4] [(.ref a1)])) _
    refine XS.aloadN X37.here hx rfl (hb hby d7_5) rfl hr0 ?_
    show Steps p.tables e below (T37.setTop (mkF m 6 #[.val (.ref a1), .val p0, .val p1, .val (.int p2), .val p3, .val p4] [p0, (.ref a1)])) _
    refine st38 _ ?_
    show Steps p.tables e below (T38.setTop (mkF m 9 #[.val (.ref a1), .val p0, .val p1, .val (.int p2), .val p3, .val p4] [])) _
    refine XS.aloadN X38.here hx rfl (hb hby d7_9) rfl rfl ?_
    show Steps p.tables e below (T38.setTop (mkF m 10 #[.val (.ref a1), .val p0, .val p1, .val (.int p2), .val p3, .val p4] [(.ref a1)])) _
    refine XS.aloadN X38.here hx rfl (hb hby d7_10) rfl hr1 ?_
    show Steps p.tables e below (T38.setTop (mkF m 11 #[.val (.ref a1), .val p0, .val p1, .val (.int p2), .val p3, .val p4] [p1, (.ref a1)])) _
    refine st44 _ ?_
    show Steps p.tables e below (T44.setTop (mkF m 14 #[.val (.ref a1), .val p0, .val p1, .val (.int p2), .val p3, .val p4] [])) _
    refine XS.aloadN X44.here hx rfl (hb hby d7_14) rfl rfl ?_
    show Steps p.tables e below (T44.setTop (mkF m 15 #[.val (.ref a1), .val p0, .val p1, .val (.int p2), .val p3, .val p4] [(.ref a1)])) _
    refine XS.iloadN X44.here hx rfl (hb hby d7_15) rfl ?_
    show Steps p.tables e below (T44.setTop (mkF m 16 #[.val (.ref a1), .val p0, .val p1, .val (.int p2), .val p3, .val p4] [(.int p2), (.ref a1)])) _
    refine st50 _ ?_
    show Steps p.tables e below (T50.setTop (mkF m 19 #[.val (.ref a1), .val p0, .val p1, .val (.int p2), .val p3, .val p4] [])) _
    refine XS.aloadN X50.here hx rfl (hb hby d7_19) rfl rfl ?_
    show Steps p.tables e below (T50.setTop (mkF m 20 #[.val (.ref a1), .val p0, .val p1, .val (.int p2), .val p3, .val p4] [(.ref a1)])) _
    refine XS.aload X50.here hx rfl (hb hby d7_20) rfl hr3 ?_
    show Steps p.tables e below (T50.setTop (mkF m 22 #[.val (.ref a1), .val p0, .val p1, .val (.int p2), .val p3, .val p4] [p3, (.ref a1)])) _
    refine st56 _ ?_
    show Steps p.tables e below (T56.setTop (mkF m 25 #[.val (.ref a1), .val p0, .val p1, .val (.int p2), .val p3, .val p4] [])) _
    refine XS.aloadN X56.here hx rfl (hb hby d7_25) rfl rfl ?_
    show Steps p.tables e below (T56.setTop (mkF m 26 #[.val (.ref a1), .val p0, .val p1, .val (.int p2), .val p3, .val p4] [(.ref a1)])) _
    refine XS.aload X56.here hx rfl (hb hby d7_26) rfl hr4 ?_
    show Steps p.tables e below (T56.setTop (mkF m 28 #[.val (.ref a1), .val p0, .val p1, .val (.int p2), .val p3, .val p4] [p4, (.ref a1)])) _
    refine st62 _ ?_
    show Steps p.tables e below (T62.setTop (mkF m 31 #[.val (.ref a1), .val p0, .val p1, .val (.int p2), .val p3, .val p4] [])) _
    exact X62.returnOut hx hret0 (hb hby d7_31) hr
  · show Qrm7 Z a1 p0 p1 p2 p3 p4 h0 n0 _ T62.heap _
    rw [e62]
    exact ⟨rfl, N62, K64, f66, f67, f68, f69, f70, f65⟩
theorem d10_0 : decode prog_5_method_5_code 0 = .ok (.new 8, 3) := by decide +kernel
theorem d10_3 : decode prog_5_method_5_code 3 = .ok (.dup, 1) := by decide +kernel
theorem d10_4 : decode prog_5_method_5_code 4 = .ok (.aload_n 0, 1) := by decide +kernel
theorem d10_5 : decode prog_5_method_5_code 5 = .ok (.aconst_null, 1) := by decide +kernel
theorem d10_6 : decode prog_5_method_5_code 6 = .ok (.iconst 0, 1) := by decide +kernel
theorem d10_7 : decode prog_5_method_5_code 7 = .ok (.aconst_null, 1) := by decide +kernel
theorem d10_8 : decode prog_5_method_5_code 8 = .ok (.aload_n 1, 1) := by decide +kernel
theorem d10_9 : decode prog_5_method_5_code 9 = .ok (.invokespecial 26, 3) := by decide +kernel
theorem d10_12 : decode prog_5_method_5_code 12 = .ok (.areturn, 1) := by decide +kernel
def Qrm10 (Z : State) (v0 : Value) (v1 : Value) (h0 : Heap) (n0 : Nat) (v : Option Value) (h : Heap) (L : List Loc) : Prop := ∃ b : Addr, v = some (.ref b) ∧ Fr n0 L ∧ Ext h0 h ∧ Fs Z h b v0 .null (.int (nar .boolean 0)) .null v1
theorem own_pn_rm10 : plainName "com/example/sealwright/sealwright/cli/Option" = true := by first | (simp [plainName, overriddenIn]; done) | decide +kernel
theorem own_ef_rm10 (m : MethodId) (v0 : Value) (v1 : Value) (h_v0 : v0.isRef = true)  (h_v1 : v1.isRef = true) : entryFrame m #[v0, v1] 2 = (mkF m 0 #[.val v0, .val v1] []) := by rcases ref_cases h_v0 with rfl | ⟨_, rfl⟩ <;> rcases ref_cases h_v1 with rfl | ⟨_, rfl⟩ <;> first | (simp [entryFrame, mkF, argsToLocals, Value.category]; done) | rfl
set_option maxRecDepth 65536 in
set_option maxHeartbeats 40000000 in
theorem rm10 (l : Launch) (Z : State) (a0 : Array Value) (hw : ∀ d ∈ tables_1, d.before a0 Z = true) (ws : List Jvm.Cond) (v0 : Value) (v1 : Value) (h0 : Heap) (n0 : Nat) (Z0 : n0 ≤ h0.size) (hv0 : v0.isRef = true) (hv1 : v1.isRef = true) :
    MetFree l (⟨"com/example/sealwright/sealwright/cli/Option", "flag", "(Ljava/lang/String;Ljava/lang/String;)Lcom/example/sealwright/sealwright/cli/Option;"⟩ : MethodName) (head1 (Jvm.Cond.code (⟨"com/example/sealwright/sealwright/cli/Option", "flag", "(Ljava/lang/String;Ljava/lang/String;)Lcom/example/sealwright/sealwright/cli/Option;"⟩ : MethodName) prog_5_method_5_code 2 (some (.object "com/example/sealwright/sealwright/cli/Option")) :: ws) ({ frames := 3, cells := 1, slots := 5, locals := 48 } : Room)) (fun a U => a = #[v0, v1] ∧ Z.Warmed39 U.vm ∧ U.heap = h0) (fun _ _ _ _ _ => True) (fun _ U o U' => ∃ v L, o = .returned v ∧ Qrm10 Z v0 v1 h0 n0 v U'.heap L ∧ FrameEnd U o U' L ({ frames := 3, cells := 1, slots := 5, locals := 48 } : Room).cells ({ frames := 3, cells := 1, slots := 5, locals := 48 } : Room).slots) := by
  refine MetFree.of_bodySF (plainFor_of_name own_pn_rm10) hisR ?_
  intro p e s m args below meth c s₁ Bd hml0 hP hK
  obtain ⟨hargs, hZ, hh⟩ := hP
  have hx := Bd.exec
  have hby := Bd.bytes
  have hml : c.maxLocals = 2 := hml0
  have hown : s.vm.findClass "com/example/sealwright/sealwright/cli/Option" = some m.cls := findClass_of_methodNamed Bd.named
  have hnm := (name_of_methodNamed Bd.named Bd.method).1
  have hlock : meth.locks = false := Bd.notSynchronized
  have hret0 := Bd.returns
  have X0 : Stand p l e ({ frames := 3, cells := 1, slots := 5, locals := 48 } : Room) s m args below meth c s₁ [] 0 0 := Stand.of_body Bd
  have e0 : s₁.heap = h0 := by rw [← hh, Bd.state]; rfl
  have N0 := Fr.nil n0
  have pre0 : ∀ t, Steps p.tables e below (s₁.setTop (mkF m 0 #[.val v0, .val v1] [])) t → Steps p.tables e below (s₁.setTop (entryFrame m args 2)) t := fun t k => castTop (by rw [hargs]; exact own_ef_rm10 m v0 v1 hv0 hv1) k
  clear Bd
  obtain ⟨T71, h71, X71, e71, E71, A71, D71, -, st71⟩ := newO X0 hx hZ hown (hw _ (List.mem_of_getElem? (i := 60) rfl)) (hw _ (List.mem_of_getElem? (i := 31) rfl)) (hw _ (List.mem_of_getElem? (i := 32) rfl)) e0 (g := (mkF m 0 #[.val v0, .val v1] [])) rfl (hb hby d10_0) (by decide) (by decide)
  obtain ⟨b71, g71⟩ : ∃ z, z = h0.size := ⟨_, rfl⟩
  rw [← g71] at A71 D71 st71
  have ge_b71 : n0 ≤ b71 := Nat.le_trans Z0 (Nat.le_of_eq g71.symm)
  have sz_b71 : h0.size ≤ b71 := Nat.le_trans (Keep.refl h0 []).1 (Nat.le_of_eq g71.symm)
  have Z72 : n0 ≤ h71.size := Nat.le_trans Z0 E71.1
  have K73 : Keep h0 h71 [] := (Keep.refl h0 []).ext E71
  obtain ⟨v74, vmx74, ⟨T74, L74, k74, n74⟩, -, X74, ⟨Lc74, hQ74, l74, y74, z74⟩, st74⟩ := X71.specialBack hx (y := (⟨"com/example/sealwright/sealwright/cli/Option", "<init>", "(Ljava/lang/String;Ljava/lang/String;ZLjava/lang/String;Ljava/lang/String;)V"⟩ : MethodName)) rfl hown (mvT hZ (hw _ (List.mem_of_getElem? (i := 61) rfl))) (mvT hZ (hw _ (List.mem_of_getElem? (i := 34) rfl))) (mvT hZ (hw _ (List.mem_of_getElem? (i := 35) rfl))) (by decide) (backOf (W := 1) (rm7 l Z a0 hw [] b71 v0 .null 0 .null v1 _ _ _ _ _ h71 n0 Z72 hv0 rfl rfl hv1 ge_b71 ⟨A71, (D71 (Or.inr (hw _ (List.mem_of_getElem? (i := 43) rfl))) (ty := (.object "java/lang/String")) (by decide)), (D71 (Or.inr (hw _ (List.mem_of_getElem? (i := 45) rfl))) (ty := (.object "java/lang/String")) (by decide)), (D71 (Or.inr (hw _ (List.mem_of_getElem? (i := 47) rfl))) (ty := .boolean) (by decide)), (D71 (Or.inr (hw _ (List.mem_of_getElem? (i := 49) rfl))) (ty := (.object "java/lang/String")) (by decide)), (D71 (Or.inr (hw _ (List.mem_of_getElem? (i := 51) rfl))) (ty := (.object "java/lang/String")) (by decide))⟩) hZ (hw _ (List.mem_of_getElem? (i := 35) rfl)) (hw _ (List.mem_of_getElem? (i := 32) rfl)) (by decide) (by decide)) (g := (mkF m 9 #[.val v0, .val v1] [v1, .null, (.int (0 : Int32)), .null, v0, (.ref b71), (.ref b71)])) rfl (by rw [hml]; rfl) (Steps.refl _) (a := b71) (argsL := [v0, .null, (.int (0 : Int32)), .null, v1]) (rest := [(.ref b71)]) (lenOf own_pd2 rfl) rfl (by show 2 * 0 + _ ≤ _; exact Nat.le_of_eq rfl) (hb hby d10_9) (fun _ _ => ⟨rfl, e71, (by decide : 1 + 0 ≤ _), (by decide : 5 + 0 ≤ _)⟩)
  dsimp only [Pt.U, Pt.locs, Pt.cells, Pt.slots] at X74 l74 y74 z74 st74 hQ74
  subst l74 y74 z74
  obtain ⟨rfl, Nq74, K74, F74⟩ := hQ74
  have N74 := Fr.app N0 Nq74
  have Z75 : n0 ≤ T74.heap.size := Nat.le_trans Z72 K74.1
  have K76 : Keep h0 T74.heap [] := K73.trans K74 (allS (Or.inr sz_b71) all0)
  obtain ⟨fs, hr, hrun, hended, hW, hsame⟩ := X74.leave (v := some (.ref b71)) (fun h => by rw [hret0] at h; cases h)
  refine ⟨_, _, pre0 _ ?_, hrun, hended, _, _, rfl, ?_, ⟨_, rfl⟩, hW, hsame.mono (by decide) (by decide)⟩
  · show Steps p.tables e below (s₁.setTop (mkF m 0 #[.val v0, .val v1] [])) _
    refine st71 _ ?_
    show Steps p.tables e below (T71.setTop (mkF m 3 #[.val v0, .val v1] [(.ref b71)])) _
    refine XS.dup X71.here hx rfl (hb hby d10_3) rfl rfl ?_
    show Steps p.tables e below (T71.setTop (mkF m 4 #[.val v0, .val v1] [(.ref b71), (.ref b71)])) _
    refine XS.aloadN X71.here hx rfl (hb hby d10_4) rfl hv0 ?_
    show Steps p.tables e below (T71.setTop (mkF m 5 #[.val v0, .val v1] [v0, (.ref b71), (.ref b71)])) _
    refine XS.aconstNull X71.here hx rfl (hb hby d10_5) ?_
    show Steps p.tables e below (T71.setTop (mkF m 6 #[.val v0, .val v1] [.null, v0, (.ref b71), (.ref b71)])) _
    refine XS.iconst X71.here hx rfl (hb hby d10_6) ?_
    show Steps p.tables e below (T71.setTop (mkF m 7 #[.val v0, .val v1] [(.int (0 : Int32)), .null, v0, (.ref b71), (.ref b71)])) _
    refine XS.aconstNull X71.here hx rfl (hb hby d10_7) ?_
    show Steps p.tables e below (T71.setTop (mkF m 8 #[.val v0, .val v1] [.null, (.int (0 : Int32)), .null, v0, (.ref b71), (.ref b71)])) _
    refine XS.aloadN X71.here hx rfl (hb hby d10_8) rfl hv1 ?_
    show Steps p.tables e below (T71.setTop (mkF m 9 #[.val v0, .val v1] [v1, .null, (.int (0 : Int32)), .null, v0, (.ref b71), (.ref b71)])) _
    refine st74.trans ?_
    show Steps p.tables e below (T74.setTop (mkF m 12 #[.val v0, .val v1] [(.ref b71)])) _
    exact retR X74 hx hret0 rfl rfl rfl (hb hby d10_12) hr
  · show Qrm10 Z v0 v1 h0 n0 _ T74.heap _
    exact ⟨b71, rfl, N74, own_ext K76, F74⟩
theorem d11_0 : decode prog_5_method_2_code 0 = .ok (.new 8, 3) := by decide +kernel
theorem d11_3 : decode prog_5_method_2_code 3 = .ok (.dup, 1) := by decide +kernel
theorem d11_4 : decode prog_5_method_2_code 4 = .ok (.aload_n 0, 1) := by decide +kernel
theorem d11_5 : decode prog_5_method_2_code 5 = .ok (.aload_n 1, 1) := by decide +kernel
theorem d11_6 : decode prog_5_method_2_code 6 = .ok (.iconst 1, 1) := by decide +kernel
theorem d11_7 : decode prog_5_method_2_code 7 = .ok (.aconst_null, 1) := by decide +kernel
theorem d11_8 : decode prog_5_method_2_code 8 = .ok (.aload_n 2, 1) := by decide +kernel
theorem d11_9 : decode prog_5_method_2_code 9 = .ok (.invokespecial 26, 3) := by decide +kernel
theorem d11_12 : decode prog_5_method_2_code 12 = .ok (.areturn, 1) := by decide +kernel
def Qrm11 (Z : State) (v0 : Value) (v1 : Value) (v2 : Value) (h0 : Heap) (n0 : Nat) (v : Option Value) (h : Heap) (L : List Loc) : Prop := ∃ b : Addr, v = some (.ref b) ∧ Fr n0 L ∧ Ext h0 h ∧ Fs Z h b v0 v1 (.int (nar .boolean 1)) .null v2
theorem own_pn_rm11 : plainName "com/example/sealwright/sealwright/cli/Option" = true := by first | (simp [plainName, overriddenIn]; done) | decide +kernel
theorem own_ef_rm11 (m : MethodId) (v0 : Value) (v1 : Value) (v2 : Value) (h_v0 : v0.isRef = true)  (h_v1 : v1.isRef = true)  (h_v2 : v2.isRef = true) : entryFrame m #[v0, v1, v2] 3 = (mkF m 0 #[.val v0, .val v1, .val v2] []) := by rcases ref_cases h_v0 with rfl | ⟨_, rfl⟩ <;> rcases ref_cases h_v1 with rfl | ⟨_, rfl⟩ <;> rcases ref_cases h_v2 with rfl | ⟨_, rfl⟩ <;> first | (simp [entryFrame, mkF, argsToLocals, Value.category]; done) | rfl
set_option maxRecDepth 65536 in
set_option maxHeartbeats 40000000 in
theorem rm11 (l : Launch) (Z : State) (a0 : Array Value) (hw : ∀ d ∈ tables_1, d.before a0 Z = true) (ws : List Jvm.Cond) (v0 : Value) (v1 : Value) (v2 : Value) (h0 : Heap) (n0 : Nat) (Z0 : n0 ≤ h0.size) (hv0 : v0.isRef = true) (hv1 : v1.isRef = true) (hv2 : v2.isRef = true) :
    MetFree l (⟨"com/example/sealwright/sealwright/cli/Option", "required", "(Ljava/lang/String;Ljava/lang/String;Ljava/lang/String;)Lcom/example/sealwright/sealwright/cli/Option;"⟩ : MethodName) (head1 (Jvm.Cond.code (⟨"com/example/sealwright/sealwright/cli/Option", "required", "(Ljava/lang/String;Ljava/lang/String;Ljava/lang/String;)Lcom/example/sealwright/sealwright/cli/Option;"⟩ : MethodName) prog_5_method_2_code 3 (some (.object "com/example/sealwright/sealwright/cli/Option")) :: ws) ({ frames := 3, cells := 1, slots := 5, locals := 48 } : Room)) (fun a U => a = #[v0, v1, v2] ∧ Z.Warmed39 U.vm ∧ U.heap = h0) (fun _ _ _ _ _ => True) (fun _ U o U' => ∃ v L, o = .returned v ∧ Qrm11 Z v0 v1 v2 h0 n0 v U'.heap L ∧ FrameEnd U o U' L ({ frames := 3, cells := 1, slots := 5, locals := 48 } : Room).cells ({ frames := 3, cells := 1, slots := 5, locals := 48 } : Room).slots) := by
  refine MetFree.of_bodySF (plainFor_of_name own_pn_rm11) hisR ?_
  intro p e s m args below meth c s₁ Bd hml0 hP hK
  obtain ⟨hargs, hZ, hh⟩ := hP
  have hx := Bd.exec
  have hby := Bd.bytes
  have hml : c.maxLocals = 3 := hml0
  have hown : s.vm.findClass "com/example/sealwright/sealwright/cli/Option" = some m.cls := findClass_of_methodNamed Bd.named
  have hnm := (name_of_methodNamed Bd.named Bd.method).1
  have hlock : meth.locks = false := Bd.notSynchronized
  have hret0 := Bd.returns
  have X0 : Stand p l e ({ frames := 3, cells := 1, slots := 5, locals := 48 } : Room) s m args below meth c s₁ [] 0 0 := Stand.of_body Bd
  have e0 : s₁.heap = h0 := by rw [← hh, Bd.state]; rfl
  have N0 := Fr.nil n0
  have pre0 : ∀ t, Steps p.tables e below (s₁.setTop (mkF m 0 #[.val v0, .val v1, .val v2] [])) t → Steps p.tables e below (s₁.setTop (entryFrame m args 3)) t := fun t k => castTop (by rw [hargs]; exact own_ef_rm11 m v0 v1 v2 hv0 hv1 hv2) k
  clear Bd
  obtain ⟨T77, h77, X77, e77, E77, A77, D77, -, st77⟩ := newO X0 hx hZ hown (hw _ (List.mem_of_getElem? (i := 60) rfl)) (hw _ (List.mem_of_getElem? (i := 31) rfl)) (hw _ (List.mem_of_getElem? (i := 32) rfl)) e0 (g := (mkF m 0 #[.val v0, .val v1, .val v2] [])) rfl (hb hby d11_0) (by decide) (by decide)
  obtain ⟨b77, g77⟩ : ∃ z, z = h0.size := ⟨_, rfl⟩
  rw [← g77] at A77 D77 st77
  have ge_b77 : n0 ≤ b77 := Nat.le_trans Z0 (Nat.le_of_eq g77.symm)
  have sz_b77 : h0.size ≤ b77 := Nat.le_trans (Keep.refl h0 []).1 (Nat.le_of_eq g77.symm)
  have Z78 : n0 ≤ h77.size := Nat.le_trans Z0 E77.1
  have K79 : Keep h0 h77 [] := (Keep.refl h0 []).ext E77
  obtain ⟨v80, vmx80, ⟨T80, L80, k80, n80⟩, -, X80, ⟨Lc80, hQ80, l80, y80, z80⟩, st80⟩ := X77.specialBack hx (y := (⟨"com/example/sealwright/sealwright/cli/Option", "<init>", "(Ljava/lang/String;Ljava/lang/String;ZLjava/lang/String;Ljava/lang/String;)V"⟩ : MethodName)) rfl hown (mvT hZ (hw _ (List.mem_of_getElem? (i := 61) rfl))) (mvT hZ (hw _ (List.mem_of_getElem? (i := 34) rfl))) (mvT hZ (hw _ (List.mem_of_getElem? (i := 35) rfl))) (by decide) (backOf (W := 1) (rm7 l Z a0 hw [] b77 v0 v1 1 .null v2 _ _ _ _ _ h77 n0 Z78 hv0 hv1 rfl hv2 ge_b77 ⟨A77, (D77 (Or.inr (hw _ (List.mem_of_getElem? (i := 43) rfl))) (ty := (.object "java/lang/String")) (by decide)), (D77 (Or.inr (hw _ (List.mem_of_getElem? (i := 45) rfl))) (ty := (.object "java/lang/String")) (by decide)), (D77 (Or.inr (hw _ (List.mem_of_getElem? (i := 47) rfl))) (ty := .boolean) (by decide)), (D77 (Or.inr (hw _ (List.mem_of_getElem? (i := 49) rfl))) (ty := (.object "java/lang/String")) (by decide)), (D77 (Or.inr (hw _ (List.mem_of_getElem? (i := 51) rfl))) (ty := (.object "java/lang/String")) (by decide))⟩) hZ (hw _ (List.mem_of_getElem? (i := 35) rfl)) (hw _ (List.mem_of_getElem? (i := 32) rfl)) (by decide) (by decide)) (g := (mkF m 9 #[.val v0, .val v1, .val v2] [v2, .null, (.int (1 : Int32)), v1, v0, (.ref b77), (.ref b77)])) rfl (by rw [hml]; rfl) (Steps.refl _) (a := b77) (argsL := [v0, v1, (.int (1 : Int32)), .null, v2]) (rest := [(.ref b77)]) (lenOf own_pd2 rfl) rfl (by show 2 * 0 + _ ≤ _; exact Nat.le_of_eq rfl) (hb hby d11_9) (fun _ _ => ⟨rfl, e77, (by decide : 1 + 0 ≤ _), (by decide : 5 + 0 ≤ _)⟩)
  dsimp only [Pt.U, Pt.locs, Pt.cells, Pt.slots] at X80 l80 y80 z80 st80 hQ80
  subst l80 y80 z80
  obtain ⟨rfl, Nq80, K80, F80⟩ := hQ80
  have N80 := Fr.app N0 Nq80
  have Z81 : n0 ≤ T80.heap.size := Nat.le_trans Z78 K80.1
  have K82 : Keep h0 T80.heap [] := K79.trans K80 (allS (Or.inr sz_b77) all0)
  obtain ⟨fs, hr, hrun, hended, hW, hsame⟩ := X80.leave (v := some (.ref b77)) (fun h => by rw [hret0] at h; cases h)
  refine ⟨_, _, pre0 _ ?_, hrun, hended, _, _, rfl, ?_, ⟨_, rfl⟩, hW, hsame.mono (by decide) (by decide)⟩
  · show Steps p.tables e below (s₁.setTop (mkF m 0 #[.val v0, .val v1, .val v2] [])) _
    refine st77 _ ?_
    show Steps p.tables e below (T77.setTop (mkF m 3 #[.val v0, .val v1, .val v2] [(.ref b77)])) _
    refine XS.dup X77.here hx rfl (hb hby d11_3) rfl rfl ?_
    show Steps p.tables e below (T77.setTop (mkF m 4 #[.val v0, .val v1, .val v2] [(.ref b77), (.ref b77)])) _
    refine XS.aloadN X77.here hx rfl (hb hby d11_4) rfl hv0 ?_
    show Steps p.tables e below (T77.setTop (mkF m 5 #[.val v0, .val v1, .val v2] [v0, (.ref b77), (.ref b77)])) _
    refine XS.aloadN X77.here hx rfl (hb hby d11_5) rfl hv1 ?_
    show Steps p.tables e below (T77.setTop (mkF m 6 #[.val v0, .val v1, .val v2] [v1, v0, (.ref b77), (.ref b77)])) _
    refine XS.iconst X77.here hx rfl (hb hby d11_6) ?_
    show Steps p.tables e below (T77.setTop (mkF m 7 #[.val v0, .val v1, .val v2] [(.int (1 : Int32)), v1, v0, (.ref b77), (.ref b77)])) _
    refine XS.aconstNull X77.here hx rfl (hb hby d11_7) ?_
    show Steps p.tables e below (T77.setTop (mkF m 8 #[.val v0, .val v1, .val v2] [.null, (.int (1 : Int32)), v1, v0, (.ref b77), (.ref b77)])) _
    refine XS.aloadN X77.here hx rfl (hb hby d11_8) rfl hv2 ?_
    show Steps p.tables e below (T77.setTop (mkF m 9 #[.val v0, .val v1, .val v2] [v2, .null, (.int (1 : Int32)), v1, v0, (.ref b77), (.ref b77)])) _
    refine st80.trans ?_
    show Steps p.tables e below (T80.setTop (mkF m 12 #[.val v0, .val v1, .val v2] [(.ref b77)])) _
    exact retR X80 hx hret0 rfl rfl rfl (hb hby d11_12) hr
  · show Qrm11 Z v0 v1 v2 h0 n0 _ T80.heap _
    exact ⟨b77, rfl, N80, own_ext K82, F80⟩
theorem d12_0 : decode prog_5_method_3_code 0 = .ok (.new 8, 3) := by decide +kernel
theorem d12_3 : decode prog_5_method_3_code 3 = .ok (.dup, 1) := by decide +kernel
theorem d12_4 : decode prog_5_method_3_code 4 = .ok (.aload_n 0, 1) := by decide +kernel
theorem d12_5 : decode prog_5_method_3_code 5 = .ok (.aload_n 1, 1) := by decide +kernel
theorem d12_6 : decode prog_5_method_3_code 6 = .ok (.iconst 0, 1) := by decide +kernel
theorem d12_7 : decode prog_5_method_3_code 7 = .ok (.aload_n 2, 1) := by decide +kernel
theorem d12_8 : decode prog_5_method_3_code 8 = .ok (.aload_n 3, 1) := by decide +kernel
theorem d12_9 : decode prog_5_method_3_code 9 = .ok (.invokespecial 26, 3) := by decide +kernel
theorem d12_12 : decode prog_5_method_3_code 12 = .ok (.areturn, 1) := by decide +kernel
def Qrm12 (Z : State) (v0 : Value) (v1 : Value) (v2 : Value) (v3 : Value) (h0 : Heap) (n0 : Nat) (v : Option Value) (h : Heap) (L : List Loc) : Prop := ∃ b : Addr, v = some (.ref b) ∧ Fr n0 L ∧ Ext h0 h ∧ Fs Z h b v0 v1 (.int (nar .boolean 0)) v2 v3
theorem own_pn_rm12 : plainName "com/example/sealwright/sealwright/cli/Option" = true := by first | (simp [plainName, overriddenIn]; done) | decide +kernel
theorem own_ef_rm12 (m : MethodId) (v0 : Value) (v1 : Value) (v2 : Value) (v3 : Value) (h_v0 : v0.isRef = true)  (h_v1 : v1.isRef = true)  (h_v2 : v2.isRef = true)  (h_v3 : v3.isRef = true) : entryFrame m #[v0, v1, v2, v3] 4 = (mkF m 0 #[.val v0, .val v1, .val v2, .val v3] []) := by rcases ref_cases h_v0 with rfl | ⟨_, rfl⟩ <;> rcases ref_cases h_v1 with rfl | ⟨_, rfl⟩ <;> rcases ref_cases h_v2 with rfl | ⟨_, rfl⟩ <;> rcases ref_cases h_v3 with rfl | ⟨_, rfl⟩ <;> first | (simp [entryFrame, mkF, argsToLocals, Value.category]; done) | rfl
set_option maxRecDepth 65536 in
set_option maxHeartbeats 40000000 in
theorem rm12 (l : Launch) (Z : State) (a0 : Array Value) (hw : ∀ d ∈ tables_1, d.before a0 Z = true) (ws : List Jvm.Cond) (v0 : Value) (v1 : Value) (v2 : Value) (v3 : Value) (h0 : Heap) (n0 : Nat) (Z0 : n0 ≤ h0.size) (hv0 : v0.isRef = true) (hv1 : v1.isRef = true) (hv2 : v2.isRef = true) (hv3 : v3.isRef = true) :
    MetFree l (⟨"com/example/sealwright/sealwright/cli/Option", "withDefault", "(Ljava/lang/String;Ljava/lang/String;Ljava/lang/String;Ljava/lang/String;)Lcom/example/sealwright/sealwright/cli/Option;"⟩ : MethodName) (head1 (Jvm.Cond.code (⟨"com/example/sealwright/sealwright/cli/Option", "withDefault", "(Ljava/lang/String;Ljava/lang/String;Ljava/lang/String;Ljava/lang/String;)Lcom/example/sealwright/sealwright/cli/Option;"⟩ : MethodName) prog_5_method_3_code 4 (some (.object "com/example/sealwright/sealwright/cli/Option")) :: ws) ({ frames := 3, cells := 1, slots := 5, locals := 48 } : Room)) (fun a U => a = #[v0, v1, v2, v3] ∧ Z.Warmed39 U.vm ∧ U.heap = h0) (fun _ _ _ _ _ => True) (fun _ U o U' => ∃ v L, o = .returned v ∧ Qrm12 Z v0 v1 v2 v3 h0 n0 v U'.heap L ∧ FrameEnd U o U' L ({ frames := 3, cells := 1, slots := 5, locals := 48 } : Room).cells ({ frames := 3, cells := 1, slots := 5, locals := 48 } : Room).slots) := by
  refine MetFree.of_bodySF (plainFor_of_name own_pn_rm12) hisR ?_
  intro p e s m args below meth c s₁ Bd hml0 hP hK
  obtain ⟨hargs, hZ, hh⟩ := hP
  have hx := Bd.exec
  have hby := Bd.bytes
  have hml : c.maxLocals = 4 := hml0
  have hown : s.vm.findClass "com/example/sealwright/sealwright/cli/Option" = some m.cls := findClass_of_methodNamed Bd.named
  have hnm := (name_of_methodNamed Bd.named Bd.method).1
  have hlock : meth.locks = false := Bd.notSynchronized
  have hret0 := Bd.returns
  have X0 : Stand p l e ({ frames := 3, cells := 1, slots := 5, locals := 48 } : Room) s m args below meth c s₁ [] 0 0 := Stand.of_body Bd
  have e0 : s₁.heap = h0 := by rw [← hh, Bd.state]; rfl
  have N0 := Fr.nil n0
  have pre0 : ∀ t, Steps p.tables e below (s₁.setTop (mkF m 0 #[.val v0, .val v1, .val v2, .val v3] [])) t → Steps p.tables e below (s₁.setTop (entryFrame m args 4)) t := fun t k => castTop (by rw [hargs]; exact own_ef_rm12 m v0 v1 v2 v3 hv0 hv1 hv2 hv3) k
  clear Bd
  obtain ⟨T83, h83, X83, e83, E83, A83, D83, -, st83⟩ := newO X0 hx hZ hown (hw _ (List.mem_of_getElem? (i := 60) rfl)) (hw _ (List.mem_of_getElem? (i := 31) rfl)) (hw _ (List.mem_of_getElem? (i := 32) rfl)) e0 (g := (mkF m 0 #[.val v0, .val v1, .val v2, .val v3] [])) rfl (hb hby d12_0) (by decide) (by decide)
  obtain ⟨b83, g83⟩ : ∃ z, z = h0.size := ⟨_, rfl⟩
  rw [← g83] at A83 D83 st83
  have ge_b83 : n0 ≤ b83 := Nat.le_trans Z0 (Nat.le_of_eq g83.symm)
  have sz_b83 : h0.size ≤ b83 := Nat.le_trans (Keep.refl h0 []).1 (Nat.le_of_eq g83.symm)
  have Z84 : n0 ≤ h83.size := Nat.le_trans Z0 E83.1
  have K85 : Keep h0 h83 [] := (Keep.refl h0 []).ext E83
  obtain ⟨v86, vmx86, ⟨T86, L86, k86, n86⟩, -, X86, ⟨Lc86, hQ86, l86, y86, z86⟩, st86⟩ := X83.specialBack hx (y := (⟨"com/example/sealwright/sealwright/cli/Option", "<init>", "(Ljava/lang/String;Ljava/lang/String;ZLjava/lang/String;Ljava/lang/String;)V"⟩ : MethodName)) rfl hown (mvT hZ (hw _ (List.mem_of_getElem? (i := 61) rfl))) (mvT hZ (hw _ (List.mem_of_getElem? (i := 34) rfl))) (mvT hZ (hw _ (List.mem_of_getElem? (i := 35) rfl))) (by decide) (backOf (W := 1) (rm7 l Z a0 hw [] b83 v0 v1 0 v2 v3 _ _ _ _ _ h83 n0 Z84 hv0 hv1 hv2 hv3 ge_b83 ⟨A83, (D83 (Or.inr (hw _ (List.mem_of_getElem? (i := 43) rfl))) (ty := (.object "java/lang/String")) (by decide)), (D83 (Or.inr (hw _ (List.mem_of_getElem? (i := 45) rfl))) (ty := (.object "java/lang/String")) (by decide)), (D83 (Or.inr (hw _ (List.mem_of_getElem? (i := 47) rfl))) (ty := .boolean) (by decide)), (D83 (Or.inr (hw _ (List.mem_of_getElem? (i := 49) rfl))) (ty := (.object "java/lang/String")) (by decide)), (D83 (Or.inr (hw _ (List.mem_of_getElem? (i := 51) rfl))) (ty := (.object "java/lang/String")) (by decide))⟩) hZ (hw _ (List.mem_of_getElem? (i := 35) rfl)) (hw _ (List.mem_of_getElem? (i := 32) rfl)) (by decide) (by decide)) (g := (mkF m 9 #[.val v0, .val v1, .val v2, .val v3] [v3, v2, (.int (0 : Int32)), v1, v0, (.ref b83), (.ref b83)])) rfl (by rw [hml]; rfl) (Steps.refl _) (a := b83) (argsL := [v0, v1, (.int (0 : Int32)), v2, v3]) (rest := [(.ref b83)]) (lenOf own_pd2 rfl) rfl (by show 2 * 0 + _ ≤ _; exact Nat.le_of_eq rfl) (hb hby d12_9) (fun _ _ => ⟨rfl, e83, (by decide : 1 + 0 ≤ _), (by decide : 5 + 0 ≤ _)⟩)
  dsimp only [Pt.U, Pt.locs, Pt.cells, Pt.slots] at X86 l86 y86 z86 st86 hQ86
  subst l86 y86 z86
  obtain ⟨rfl, Nq86, K86, F86⟩ := hQ86
  have N86 := Fr.app N0 Nq86
  have Z87 : n0 ≤ T86.heap.size := Nat.le_trans Z84 K86.1
  have K88 : Keep h0 T86.heap [] := K85.trans K86 (allS (Or.inr sz_b83) all0)
  obtain ⟨fs, hr, hrun, hended, hW, hsame⟩ := X86.leave (v := some (.ref b83)) (fun h => by rw [hret0] at h; cases h)
  refine ⟨_, _, pre0 _ ?_, hrun, hended, _, _, rfl, ?_, ⟨_, rfl⟩, hW, hsame.mono (by decide) (by decide)⟩
  · show Steps p.tables e below (s₁.setTop (mkF m 0 #[.val v0, .val v1, .val v2, .val v3] [])) _
    refine st83 _ ?_
    show Steps p.tables e below (T83.setTop (mkF m 3 #[.val v0, .val v1, .val v2, .val v3] [(.ref b83)])) _
    refine XS.dup X83.here hx rfl (hb hby d12_3) rfl rfl ?_
    show Steps p.tables e below (T83.setTop (mkF m 4 #[.val v0, .val v1, .val v2, .val v3] [(.ref b83), (.ref b83)])) _
    refine XS.aloadN X83.here hx rfl (hb hby d12_4) rfl hv0 ?_
    show Steps p.tables e below (T83.setTop (mkF m 5 #[.val v0, .val v1, .val v2, .val v3] [v0, (.ref b83), (.ref b83)])) _
    refine XS.aloadN X83.here hx rfl (hb hby d12_5) rfl hv1 ?_
    show Steps p.tables e below (T83.setTop (mkF m 6 #[.val v0, .val v1, .val v2, .val v3] [v1, v0, (.ref b83), (.ref b83)])) _
    refine XS.iconst X83.here hx rfl (hb hby d12_6) ?_
    show Steps p.tables e below (T83.setTop (mkF m 7 #[.val v0, .val v1, .val v2, .val v3] [(.int (0 : Int32)), v1, v0, (.ref b83), (.ref b83)])) _
    refine XS.aloadN X83.here hx rfl (hb hby d12_7) rfl hv2 ?_
    show Steps p.tables e below (T83.setTop (mkF m 8 #[.val v0, .val v1, .val v2, .val v3] [v2, (.int (0 : Int32)), v1, v0, (.ref b83), (.ref b83)])) _
    refine XS.aloadN X83.here hx rfl (hb hby d12_8) rfl hv3 ?_
    show Steps p.tables e below (T83.setTop (mkF m 9 #[.val v0, .val v1, .val v2, .val v3] [v3, v2, (.int (0 : Int32)), v1, v0, (.ref b83), (.ref b83)])) _
    refine st86.trans ?_
    show Steps p.tables e below (T86.setTop (mkF m 12 #[.val v0, .val v1, .val v2, .val v3] [(.ref b83)])) _
    exact retR X86 hx hret0 rfl rfl rfl (hb hby d12_12) hr
  · show Qrm12 Z v0 v1 v2 v3 h0 n0 _ T86.heap _
    exact ⟨b83, rfl, N86, own_ext K88, F86⟩
theorem d9_0 : decode prog_5_method_6_code 0 = .ok (.aload_n 0, 1) := by decide +kernel
theorem d9_1 : decode prog_5_method_6_code 1 = .ok (.getfield 13, 3) := by decide +kernel
theorem d9_4 : decode prog_5_method_6_code 4 = .ok (.ifnonnull 7, 3) := by decide +kernel
theorem d9_7 : decode prog_5_method_6_code 7 = .ok (.iconst 1, 1) := by decide +kernel
theorem d9_8 : decode prog_5_method_6_code 8 = .ok (.goto 4, 3) := by decide +kernel
theorem d9_11 : decode prog_5_method_6_code 11 = .ok (.iconst 0, 1) := by decide +kernel
theorem d9_12 : decode prog_5_method_6_code 12 = .ok (.ireturn, 1) := by decide +kernel
def Q9 (w : Value) (h0 : Heap) (n0 : Nat) (v : Option Value) (h : Heap) (L : List Loc) : Prop := ∃ z : Int32, v = some (.int z) ∧ ((w = .null ∧ z = 1) ∨ (¬ w = .null ∧ z = 0)) ∧ Fr n0 L ∧ h = h0
theorem own_pn_rm9 : plainName "com/example/sealwright/sealwright/cli/Option" = true := by first | (simp [plainName, overriddenIn]; done) | decide +kernel
theorem own_ef_rm9 (m : MethodId) (a1 : Addr) : entryFrame m #[(.ref a1)] 1 = (mkF m 0 #[.val (.ref a1)] []) := by first | (simp [entryFrame, mkF, argsToLocals, Value.category]; done) | rfl
set_option maxRecDepth 65536 in
set_option maxHeartbeats 40000000 in
theorem rm9 (l : Launch) (Z : State) (a0 : Array Value) (hw : ∀ d ∈ tables_1, d.before a0 Z = true) (ws : List Jvm.Cond) (a1 : Addr) (w : Value) (h0 : Heap) (n0 : Nat) (Z0 : n0 ≤ h0.size) (hw0 : w.isRef = true) (F : Fld Z h0 a1 "com/example/sealwright/sealwright/cli/Option" "value" "Ljava/lang/String;" w) :
    MetFree l (⟨"com/example/sealwright/sealwright/cli/Option", "isFlag", "()Z"⟩ : MethodName) (head1 (Jvm.Cond.code (⟨"com/example/sealwright/sealwright/cli/Option", "isFlag", "()Z"⟩ : MethodName) prog_5_method_6_code 1 (some .boolean) :: ws) ({ frames := 0, cells := 0, slots := 0, locals := 0 } : Room)) (fun a U => a = #[(.ref a1)] ∧ Z.Warmed39 U.vm ∧ U.heap = h0) (fun _ _ _ _ _ => True) (fun _ U o U' => ∃ v L, o = .returned v ∧ Q9 w h0 n0 v U'.heap L ∧ FrameEnd U o U' L ({ frames := 0, cells := 0, slots := 0, locals := 0 } : Room).cells ({ frames := 0, cells := 0, slots := 0, locals := 0 } : Room).slots) := by
  refine MetFree.of_bodySF (plainFor_of_name own_pn_rm9) hisR ?_
  intro p e s m args below meth c s₁ Bd hml0 hP hK
  obtain ⟨hargs, hZ, hh⟩ := hP
  have hx := Bd.exec
  have hby := Bd.bytes
  have hml : c.maxLocals = 1 := hml0
  have hown : s.vm.findClass "com/example/sealwright/sealwright/cli/Option" = some m.cls := findClass_of_methodNamed Bd.named
  have hnm := (name_of_methodNamed Bd.named Bd.method).1
  have hlock : meth.locks = false := Bd.notSynchronized
  have hret0 := Bd.returns
  have X0 : Stand p l e ({ frames := 0, cells := 0, slots := 0, locals := 0 } : Room) s m args below meth c s₁ [] 0 0 := Stand.of_body Bd
  have e0 : s₁.heap = h0 := by rw [← hh, Bd.state]; rfl
  have N0 := Fr.nil n0
  have pre0 : ∀ t, Steps p.tables e below (s₁.setTop (mkF m 0 #[.val (.ref a1)] [])) t → Steps p.tables e below (s₁.setTop (entryFrame m args 1)) t := fun t k => castTop (by rw [hargs]; exact own_ef_rm9 m a1) k
  clear Bd
  obtain ⟨T89, X89, e89, st89⟩ := getF X0 hx hZ hown (host := "") (Or.inl (hw _ (List.mem_of_getElem? (i := 44) rfl))) Via.refl e0 F (g := (mkF m 1 #[.val (.ref a1)] [(.ref a1)])) rfl rfl (hb hby d9_1)
  by_cases hc : w = .null
  · skip
    obtain ⟨fs, hr, hrun, hended, hW, hsame⟩ := X89.leave (v := some (.int (1 : Int32))) (fun h => by rw [hret0] at h; cases h)
    refine ⟨_, _, pre0 _ ?_, hrun, hended, _, _, rfl, ?_, ⟨_, rfl⟩, hW, hsame.mono (by decide) (by decide)⟩
    · show Steps p.tables e below (s₁.setTop (mkF m 0 #[.val (.ref a1)] [])) _
      refine XS.aloadN X0.here hx rfl (hb hby d9_0) rfl rfl ?_
      show Steps p.tables e below (s₁.setTop (mkF m 1 #[.val (.ref a1)] [(.ref a1)])) _
      refine st89 _ ?_
      show Steps p.tables e below (T89.setTop (mkF m 4 #[.val (.ref a1)] [w])) _
      refine XT.nonnullNo X89.here hx rfl (hb hby d9_4) rfl hc ?_
      show Steps p.tables e below (T89.setTop (mkF m 7 #[.val (.ref a1)] [])) _
      refine XS.iconst X89.here hx rfl (hb hby d9_7) ?_
      show Steps p.tables e below (T89.setTop (mkF m 8 #[.val (.ref a1)] [(.int (1 : Int32))])) _
      refine XS.goto X89.here hx rfl (pc0 := 8) (pc' := 12) rfl (hb hby d9_8) (by decide) (by decide) ?_
      show Steps p.tables e below (T89.setTop (mkF m 12 #[.val (.ref a1)] [(.int (1 : Int32))])) _
      exact retN X89 hx (t := .boolean) hret0 (by simp) (hb hby d9_12) hr
    · show Q9 w h0 n0 _ T89.heap _
      rw [e89]
      exact ⟨1, rfl, Or.inl ⟨hc, rfl⟩, N0, rfl⟩
  · skip
    obtain ⟨fs, hr, hrun, hended, hW, hsame⟩ := X89.leave (v := some (.int (0 : Int32))) (fun h => by rw [hret0] at h; cases h)
    refine ⟨_, _, pre0 _ ?_, hrun, hended, _, _, rfl, ?_, ⟨_, rfl⟩, hW, hsame.mono (by decide) (by decide)⟩
    · show Steps p.tables e below (s₁.setTop (mkF m 0 #[.val (.ref a1)] [])) _
      refine XS.aloadN X0.here hx rfl (hb hby d9_0) rfl rfl ?_
      show Steps p.tables e below (s₁.setTop (mkF m 1 #[.val (.ref a1)] [(.ref a1)])) _
      refine st89 _ ?_
      show Steps p.tables e below (T89.setTop (mkF m 4 #[.val (.ref a1)] [w])) _
      refine XT.nonnullYes X89.here hx rfl (pc0 := 4) (pc' := 11) rfl (hb hby d9_4) rfl hw0 hc (by decide) (by decide) ?_
      show Steps p.tables e below (T89.setTop (mkF m 11 #[.val (.ref a1)] [])) _
      refine XS.iconst X89.here hx rfl (hb hby d9_11) ?_
      show Steps p.tables e below (T89.setTop (mkF m 12 #[.val (.ref a1)] [(.int (0 : Int32))])) _
      exact retN X89 hx (t := .boolean) hret0 (by simp) (hb hby d9_12) hr
    · show Q9 w h0 n0 _ T89.heap _
      rw [e89]
      exact ⟨0, rfl, Or.inr ⟨hc, rfl⟩, N0, rfl⟩
theorem own_and3 (x : Int32) (h1 : ¬ (x &&& (3 : Int32)) = 1) (h2 : ¬ (x &&& (3 : Int32)) = 2) (h3 : ¬ (x &&& (3 : Int32)) = 3) : (x &&& (3 : Int32)) = 0 := by
  have h0 := c_mask x (3 : Int32) 2 (by decide) (by decide)
  generalize (x &&& (3 : Int32)) = q at *
  have e : q = Int32.ofNat q.toInt.toNat := by
    apply Int32.toInt_inj.mp
    rw [Int32.toInt_ofNat_of_lt (by omega)]
    omega
  have t : ∀ k : Fin 4, ¬ Int32.ofNat k.val = 1 → ¬ Int32.ofNat k.val = 2 → ¬ Int32.ofNat k.val = 3 → Int32.ofNat k.val = 0 := by decide +kernel
  have := t ⟨q.toInt.toNat, by omega⟩
  rw [← e] at this
  exact this h1 h2 h3
def Q0 (n0 : Nat) (v : Option Value) (h : Heap) (L : List Loc) : Prop := v = some (.int 1) ∧ Fr n0 L
theorem own_pn_rm0 : plainName "com/example/sealwright/sealwright/cli/OptionIsFlagPinLaw" = true := by first | (simp [plainName, overriddenIn]; done) | decide +kernel
theorem own_ef_rm0 (m : MethodId) (p0 : Int32) (p1 : Int32) (p2 : Int32) (p3 : Int32) : entryFrame m #[(.int p0), (.int p1), (.int p2), (.int p3)] maxLocals = (mkF m 0 #[.val (.int p0), .val (.int p1), .val (.int p2), .val (.int p3), .unset, .unset, .unset, .unset, .unset, .unset, .unset, .unset, .unset, .unset, .unset, .unset, .unset, .unset, .unset, .unset, .unset, .unset] []) := by first | (simp [entryFrame, mkF, argsToLocals, Value.category, maxLocals]; done) | rfl
set_option maxRecDepth 65536 in
set_option maxHeartbeats 40000000 in
theorem rm0 (l : Launch) (Z : State) (a0 : Array Value) (hw : ∀ d ∈ tables_1, d.before a0 Z = true) (ws : List Jvm.Cond) (p0 : Int32) (p1 : Int32) (p2 : Int32) (p3 : Int32) (G1 : Int32) (h0 : Heap) (n0 : Nat) (Z0 : n0 ≤ h0.size) (O2 : Sta Z Z.heap "java/lang/String" "COMPACT_STRINGS" "Z" (.int G1)) (P5 : ¬ (G1 = (0 : Int32))) (X00 : Old Z n0 h0) :
    MetFree l x (head1 (Jvm.Cond.code x code maxLocals ret :: ws) room_1) (fun a U => a = #[(.int p0), (.int p1), (.int p2), (.int p3)] ∧ Z.Warmed39 U.vm ∧ U.heap = h0 ∧ CHv Z EL U.vm h0) (fun _ _ _ _ _ => True) (fun _ U o U' => ∃ v L, o = .returned v ∧ Q0 n0 v U'.heap L ∧ CHr Z EL U.vm U.heap U'.vm U'.heap ∧ ReturnedEndW U o U' L 56 1216) := by
  refine MetFree.of_bodySF (plainFor_of_name own_pn_rm0) hisR ?_
  intro p e s m args below meth c s₁ Bd hml0 hP hK
  obtain ⟨hargs, hZ, hh, hC0⟩ := hP
  have hx := Bd.exec
  have hby := Bd.bytes
  have hml : c.maxLocals = 22 := hml0
  have hown : s.vm.findClass "com/example/sealwright/sealwright/cli/OptionIsFlagPinLaw" = some m.cls := findClass_of_methodNamed Bd.named
  have hnm := (name_of_methodNamed Bd.named Bd.method).1
  have hlock : meth.locks = false := Bd.notSynchronized
  have hret0 := Bd.returns
  have hZ : Z.Warmed39 (s.setVm s.vm).vm := hZ
  have hown : (s.setVm s.vm).vm.findClass "com/example/sealwright/sealwright/cli/OptionIsFlagPinLaw" = some m.cls := hown
  have hEL := own_EL hw
  have hwS := own_wS hw
  have C0 := CHr.refl hC0
  have X0 : Stand p l e room_1 (s.setVm s.vm) m args below meth c s₁ [] 0 0 := Stand.of_body Bd
  have e0 : s₁.heap = h0 := by rw [← hh, Bd.state]; rfl
  have N0 := Fr.nil n0
  have pre0 : ∀ t, Steps p.tables e below (s₁.setTop (mkF m 0 #[.val (.int p0), .val (.int p1), .val (.int p2), .val (.int p3), .unset, .unset, .unset, .unset, .unset, .unset, .unset, .unset, .unset, .unset, .unset, .unset, .unset, .unset, .unset, .unset, .unset, .unset] [])) t → Steps p.tables e below (s₁.setTop (entryFrame m args maxLocals)) t := fun t k => castTop (by rw [hargs]; exact own_ef_rm0 m p0 p1 p2 p3) k
  have hS0 := (State.WarmedH.refl s).since 0
  clear Bd
  have hws : ∀ d ∈ StrChars.Road.words, d.before a0 Z = true := fun d hd => hw d ((by decide +kernel : ∀ d ∈ StrChars.Road.words, d ∈ tables_1) d hd)
  obtain ⟨T90, h90, lc90, b4, k_b4, X90, e90, E90, N90, V_b4, st90⟩ : ∃ (T90 : State) (h90 : Heap) (lc90 : List Loc) (b4 : Addr) (k_b4 : ClassId), Stand p l e room_1 (s.setVm s.vm) m args below meth c T90 lc90 1 1 ∧ T90.heap = h90 ∧ Ext h0 h90 ∧ Fr n0 lc90 ∧ (Arv Z h90 b4 k_b4 .char (1 : Int32) [(.int (nar .char ((p1 &&& (255 : Int32)).toUInt32.toUInt16.toUInt32.toInt32)))] (.int (0 : Int32))) ∧ ∀ target, Steps p.tables e below (T90.setTop (mkF m 14 #[.val (.int p0), .val (.int p1), .val (.int p2), .val (.int p3), .val (.ref b4), .unset, .unset, .unset, .unset, .unset, .unset, .unset, .unset, .unset, .unset, .unset, .unset, .unset, .unset, .unset, .unset, .unset] [])) target → Steps p.tables e below (s₁.setTop (mkF m 0 #[.val (.int p0), .val (.int p1), .val (.int p2), .val (.int p3), .unset, .unset, .unset, .unset, .unset, .unset, .unset, .unset, .unset, .unset, .unset, .unset, .unset, .unset, .unset, .unset, .unset, .unset] [])) target := by
    obtain ⟨T91, h91, k91, X91, e91, E91, A91, st91⟩ := newP X0 hx hZ (hw _ (List.mem_of_getElem? (i := 0) rfl)) e0 (g := (mkF m 1 #[.val (.int p0), .val (.int p1), .val (.int p2), .val (.int p3), .unset, .unset, .unset, .unset, .unset, .unset, .unset, .unset, .unset, .unset, .unset, .unset, .unset, .unset, .unset, .unset, .unset, .unset] [(.int (1 : Int32))])) rfl (hb hby at_1) rfl (by decide) (cap := 1) (by decide) (by decide) (by decide) (by decide)
    obtain ⟨b91, g91⟩ : ∃ z, z = h0.size := ⟨_, rfl⟩
    rw [← g91] at A91 st91
    have ge_b91 : n0 ≤ b91 := Nat.le_trans Z0 (Nat.le_of_eq g91.symm)
    have sz_b91 : h0.size ≤ b91 := Nat.le_trans (Keep.refl h0 []).1 (Nat.le_of_eq g91.symm)
    have Z92 : n0 ≤ h91.size := Nat.le_trans Z0 E91.1
    have K93 : Keep h0 h91 [] := (Keep.refl h0 []).ext E91
    have V91 : Arv Z h91 b91 k91 .char (1 : Int32) [(.int (0 : Int32))] (.int (0 : Int32)) := (Arv.new A91 (by decide)).pad (pad_rep [] (.int (0 : Int32)) 1)
    obtain ⟨cl94, Ar94, q94, S94, M94, Hs94, G94⟩ := id V91
    obtain ⟨T94, h94, X94, e94, W94, st94⟩ := stC X91 hx hZ e91 Ar94 (j := (0 : Int32)) (inb_of S94 ⟨(by decide), (by decide)⟩) (g := (mkF m 11 #[.val (.int p0), .val (.int p1), .val (.int p2), .val (.int p3), .unset, .unset, .unset, .unset, .unset, .unset, .unset, .unset, .unset, .unset, .unset, .unset, .unset, .unset, .unset, .unset, .unset, .unset] [(.int ((p1 &&& (255 : Int32)).toUInt32.toUInt16.toUInt32.toInt32)), (.int (0 : Int32)), (.ref b91), (.ref b91)])) rfl rfl (hb hby at_11)
    have Z95 : n0 ≤ h94.size := Nat.le_trans Z92 (Keep.of_wr W94).1
    have K96 : Keep h0 h94 [] := K93.wr W94 (Or.inr sz_b91)
    have N94 := Fr.snoc X94 N0 ge_b91
    have V94 : Arv Z h94 b91 k91 .char (1 : Int32) [(.int (nar .char ((p1 &&& (255 : Int32)).toUInt32.toUInt16.toUInt32.toInt32)))] (.int (0 : Int32)) := Arv.set Ar94 q94 S94 M94 Hs94 G94 (fits_nar_char _) W94 0 rfl (Nat.le_of_ble_eq_true rfl)
    refine ⟨T94, _, _, b91, k91, own_up X94 (by decide) (by decide), e94, own_ext K96, N94, V94, fun target hk => ?_⟩
    show Steps p.tables e below (s₁.setTop (mkF m 0 #[.val (.int p0), .val (.int p1), .val (.int p2), .val (.int p3), .unset, .unset, .unset, .unset, .unset, .unset, .unset, .unset, .unset, .unset, .unset, .unset, .unset, .unset, .unset, .unset, .unset, .unset] [])) _
    refine XS.iconst X0.here hx rfl (hb hby at_0) ?_
    show Steps p.tables e below (s₁.setTop (mkF m 1 #[.val (.int p0), .val (.int p1), .val (.int p2), .val (.int p3), .unset, .unset, .unset, .unset, .unset, .unset, .unset, .unset, .unset, .unset, .unset, .unset, .unset, .unset, .unset, .unset, .unset, .unset] [(.int (1 : Int32))])) _
    refine st91 _ ?_
    show Steps p.tables e below (T91.setTop (mkF m 3 #[.val (.int p0), .val (.int p1), .val (.int p2), .val (.int p3), .unset, .unset, .unset, .unset, .unset, .unset, .unset, .unset, .unset, .unset, .unset, .unset, .unset, .unset, .unset, .unset, .unset, .unset] [(.ref b91)])) _
    refine XS.dup X91.here hx rfl (hb hby at_3) rfl rfl ?_
    show Steps p.tables e below (T91.setTop (mkF m 4 #[.val (.int p0), .val (.int p1), .val (.int p2), .val (.int p3), .unset, .unset, .unset, .unset, .unset, .unset, .unset, .unset, .unset, .unset, .unset, .unset, .unset, .unset, .unset, .unset, .unset, .unset] [(.ref b91), (.ref b91)])) _
    refine XS.iconst X91.here hx rfl (hb hby at_4) ?_
    show Steps p.tables e below (T91.setTop (mkF m 5 #[.val (.int p0), .val (.int p1), .val (.int p2), .val (.int p3), .unset, .unset, .unset, .unset, .unset, .unset, .unset, .unset, .unset, .unset, .unset, .unset, .unset, .unset, .unset, .unset, .unset, .unset] [(.int (0 : Int32)), (.ref b91), (.ref b91)])) _
    refine XS.iloadN X91.here hx rfl (hb hby at_5) rfl ?_
    show Steps p.tables e below (T91.setTop (mkF m 6 #[.val (.int p0), .val (.int p1), .val (.int p2), .val (.int p3), .unset, .unset, .unset, .unset, .unset, .unset, .unset, .unset, .unset, .unset, .unset, .unset, .unset, .unset, .unset, .unset, .unset, .unset] [(.int p1), (.int (0 : Int32)), (.ref b91), (.ref b91)])) _
    refine XS.sipush X91.here hx rfl (hb hby at_6) ?_
    show Steps p.tables e below (T91.setTop (mkF m 9 #[.val (.int p0), .val (.int p1), .val (.int p2), .val (.int p3), .unset, .unset, .unset, .unset, .unset, .unset, .unset, .unset, .unset, .unset, .unset, .unset, .unset, .unset, .unset, .unset, .unset, .unset] [(.int (255 : Int32)), (.int p1), (.int (0 : Int32)), (.ref b91), (.ref b91)])) _
    refine XS.iand X91.here hx rfl (hb hby at_9) rfl ?_
    show Steps p.tables e below (T91.setTop (mkF m 10 #[.val (.int p0), .val (.int p1), .val (.int p2), .val (.int p3), .unset, .unset, .unset, .unset, .unset, .unset, .unset, .unset, .unset, .unset, .unset, .unset, .unset, .unset, .unset, .unset, .unset, .unset] [(.int (p1 &&& (255 : Int32))), (.int (0 : Int32)), (.ref b91), (.ref b91)])) _
    refine XS.i2c X91.here hx rfl (hb hby at_10) rfl ?_
    show Steps p.tables e below (T91.setTop (mkF m 11 #[.val (.int p0), .val (.int p1), .val (.int p2), .val (.int p3), .unset, .unset, .unset, .unset, .unset, .unset, .unset, .unset, .unset, .unset, .unset, .unset, .unset, .unset, .unset, .unset, .unset, .unset] [(.int ((p1 &&& (255 : Int32)).toUInt32.toUInt16.toUInt32.toInt32)), (.int (0 : Int32)), (.ref b91), (.ref b91)])) _
    refine st94 _ ?_
    show Steps p.tables e below (T94.setTop (mkF m 12 #[.val (.int p0), .val (.int p1), .val (.int p2), .val (.int p3), .unset, .unset, .unset, .unset, .unset, .unset, .unset, .unset, .unset, .unset, .unset, .unset, .unset, .unset, .unset, .unset, .unset, .unset] [(.ref b91)])) _
    refine XS.astore X94.here hx rfl (hb hby at_12) rfl rfl (l' := #[.val (.int p0), .val (.int p1), .val (.int p2), .val (.int p3), .val (.ref b91), .unset, .unset, .unset, .unset, .unset, .unset, .unset, .unset, .unset, .unset, .unset, .unset, .unset, .unset, .unset, .unset, .unset]) rfl ?_
    exact hk
  have Z97 : n0 ≤ h90.size := Nat.le_trans Z0 E90.1
  have K98 : Keep h0 h90 [] := (Keep.refl h0 []).ext E90
  have C99 := (C0.trans (CHr.ext E90 C0.1))
  have hp_b4 : ∀ c ∈ ([nar .char ((p1 &&& (255 : Int32)).toUInt32.toUInt16.toUInt32.toInt32)] : List Int32), ¬ c < 0 ∧ ¬ (255 : Int32) < c := by
    intro c hc
    simp only [List.mem_cons, List.not_mem_nil, or_false] at hc
    rcases hc with rfl
    · exact and255_chars _
  obtain ⟨T100, h100, lc100, b5, k_b5, X100, e100, E100, N100, V_b5, st100⟩ : ∃ (T100 : State) (h100 : Heap) (lc100 : List Loc) (b5 : Addr) (k_b5 : ClassId), Stand p l e room_1 (s.setVm s.vm) m args below meth c T100 lc100 2 3 ∧ T100.heap = h100 ∧ Ext h90 h100 ∧ Fr n0 lc100 ∧ (Arv Z h100 b5 k_b5 .char (2 : Int32) [(.int (nar .char ((p1 &&& (255 : Int32)).toUInt32.toUInt16.toUInt32.toInt32))), (.int (nar .char ((((p1.toUInt32 >>> ((8 : Int32) &&& 31).toUInt32).toInt32) &&& (255 : Int32)).toUInt32.toUInt16.toUInt32.toInt32)))] (.int (0 : Int32))) ∧ ∀ target, Steps p.tables e below (T100.setTop (mkF m 40 #[.val (.int p0), .val (.int p1), .val (.int p2), .val (.int p3), .val (.ref b4), .val (.ref b5), .unset, .unset, .unset, .unset, .unset, .unset, .unset, .unset, .unset, .unset, .unset, .unset, .unset, .unset, .unset, .unset] [])) target → Steps p.tables e below (T90.setTop (mkF m 14 #[.val (.int p0), .val (.int p1), .val (.int p2), .val (.int p3), .val (.ref b4), .unset, .unset, .unset, .unset, .unset, .unset, .unset, .unset, .unset, .unset, .unset, .unset, .unset, .unset, .unset, .unset, .unset] [])) target := by
    obtain ⟨T101, h101, k101, X101, e101, E101, A101, st101⟩ := newP X90 hx hZ (hw _ (List.mem_of_getElem? (i := 0) rfl)) e90 (g := (mkF m 15 #[.val (.int p0), .val (.int p1), .val (.int p2), .val (.int p3), .val (.ref b4), .unset, .unset, .unset, .unset, .unset, .unset, .unset, .unset, .unset, .unset, .unset, .unset, .unset, .unset, .unset, .unset, .unset] [(.int (2 : Int32))])) rfl (hb hby at_15) rfl (by decide) (cap := 2) (by decide) (by decide) (by decide) (by decide)
    obtain ⟨b101, g101⟩ : ∃ z, z = h90.size := ⟨_, rfl⟩
    rw [← g101] at A101 st101
    have ge_b101 : n0 ≤ b101 := Nat.le_trans Z97 (Nat.le_of_eq g101.symm)
    have sz_b101 : h90.size ≤ b101 := Nat.le_trans (Keep.refl h90 []).1 (Nat.le_of_eq g101.symm)
    have Z102 : n0 ≤ h101.size := Nat.le_trans Z97 E101.1
    have K103 : Keep h90 h101 [] := (Keep.refl h90 []).ext E101
    have V101 : Arv Z h101 b101 k101 .char (2 : Int32) [(.int (0 : Int32)), (.int (0 : Int32))] (.int (0 : Int32)) := (Arv.new A101 (by decide)).pad (pad_rep [] (.int (0 : Int32)) 2)
    obtain ⟨cl104, Ar104, q104, S104, M104, Hs104, G104⟩ := id V101
    obtain ⟨T104, h104, X104, e104, W104, st104⟩ := stC X101 hx hZ e101 Ar104 (j := (0 : Int32)) (inb_of S104 ⟨(by decide), (by decide)⟩) (g := (mkF m 25 #[.val (.int p0), .val (.int p1), .val (.int p2), .val (.int p3), .val (.ref b4), .unset, .unset, .unset, .unset, .unset, .unset, .unset, .unset, .unset, .unset, .unset, .unset, .unset, .unset, .unset, .unset, .unset] [(.int ((p1 &&& (255 : Int32)).toUInt32.toUInt16.toUInt32.toInt32)), (.int (0 : Int32)), (.ref b101), (.ref b101)])) rfl rfl (hb hby at_25)
    have Z105 : n0 ≤ h104.size := Nat.le_trans Z102 (Keep.of_wr W104).1
    have K106 : Keep h90 h104 [] := K103.wr W104 (Or.inr sz_b101)
    have N104 := Fr.snoc X104 N90 ge_b101
    have V104 : Arv Z h104 b101 k101 .char (2 : Int32) [(.int (nar .char ((p1 &&& (255 : Int32)).toUInt32.toUInt16.toUInt32.toInt32))), (.int (0 : Int32))] (.int (0 : Int32)) := Arv.set Ar104 q104 S104 M104 Hs104 G104 (fits_nar_char _) W104 0 rfl (Nat.le_of_ble_eq_true rfl)
    obtain ⟨cl107, Ar107, q107, S107, M107, Hs107, G107⟩ := id V104
    obtain ⟨T107, h107, X107, e107, W107, st107⟩ := stC X104 hx hZ e104 Ar107 (j := (1 : Int32)) (inb_of S107 ⟨(by decide), (by decide)⟩) (g := (mkF m 37 #[.val (.int p0), .val (.int p1), .val (.int p2), .val (.int p3), .val (.ref b4), .unset, .unset, .unset, .unset, .unset, .unset, .unset, .unset, .unset, .unset, .unset, .unset, .unset, .unset, .unset, .unset, .unset] [(.int ((((p1.toUInt32 >>> ((8 : Int32) &&& 31).toUInt32).toInt32) &&& (255 : Int32)).toUInt32.toUInt16.toUInt32.toInt32)), (.int (1 : Int32)), (.ref b101), (.ref b101)])) rfl rfl (hb hby at_37)
    have Z108 : n0 ≤ h107.size := Nat.le_trans Z105 (Keep.of_wr W107).1
    have K109 : Keep h90 h107 [] := K106.wr W107 (Or.inr sz_b101)
    have N107 := Fr.snoc X107 N104 ge_b101
    have V107 : Arv Z h107 b101 k101 .char (2 : Int32) [(.int (nar .char ((p1 &&& (255 : Int32)).toUInt32.toUInt16.toUInt32.toInt32))), (.int (nar .char ((((p1.toUInt32 >>> ((8 : Int32) &&& 31).toUInt32).toInt32) &&& (255 : Int32)).toUInt32.toUInt16.toUInt32.toInt32)))] (.int (0 : Int32)) := Arv.set Ar107 q107 S107 M107 Hs107 G107 (fits_nar_char _) W107 1 rfl (Nat.le_of_ble_eq_true rfl)
    refine ⟨T107, _, _, b101, k101, own_up X107 (by decide) (by decide), e107, own_ext K109, N107, V107, fun target hk => ?_⟩
    show Steps p.tables e below (T90.setTop (mkF m 14 #[.val (.int p0), .val (.int p1), .val (.int p2), .val (.int p3), .val (.ref b4), .unset, .unset, .unset, .unset, .unset, .unset, .unset, .unset, .unset, .unset, .unset, .unset, .unset, .unset, .unset, .unset, .unset] [])) _
    refine XS.iconst X90.here hx rfl (hb hby at_14) ?_
    show Steps p.tables e below (T90.setTop (mkF m 15 #[.val (.int p0), .val (.int p1), .val (.int p2), .val (.int p3), .val (.ref b4), .unset, .unset, .unset, .unset, .unset, .unset, .unset, .unset, .unset, .unset, .unset, .unset, .unset, .unset, .unset, .unset, .unset] [(.int (2 : Int32))])) _
    refine st101 _ ?_
    show Steps p.tables e below (T101.setTop (mkF m 17 #[.val (.int p0), .val (.int p1), .val (.int p2), .val (.int p3), .val (.ref b4), .unset, .unset, .unset, .unset, .unset, .unset, .unset, .unset, .unset, .unset, .unset, .unset, .unset, .unset, .unset, .unset, .unset] [(.ref b101)])) _
    refine XS.dup X101.here hx rfl (hb hby at_17) rfl rfl ?_
    show Steps p.tables e below (T101.setTop (mkF m 18 #[.val (.int p0), .val (.int p1), .val (.int p2), .val (.int p3), .val (.ref b4), .unset, .unset, .unset, .unset, .unset, .unset, .unset, .unset, .unset, .unset, .unset, .unset, .unset, .unset, .unset, .unset, .unset] [(.ref b101), (.ref b101)])) _
    refine XS.iconst X101.here hx rfl (hb hby at_18) ?_
    show Steps p.tables e below (T101.setTop (mkF m 19 #[.val (.int p0), .val (.int p1), .val (.int p2), .val (.int p3), .val (.ref b4), .unset, .unset, .unset, .unset, .unset, .unset, .unset, .unset, .unset, .unset, .unset, .unset, .unset, .unset, .unset, .unset, .unset] [(.int (0 : Int32)), (.ref b101), (.ref b101)])) _
    refine XS.iloadN X101.here hx rfl (hb hby at_19) rfl ?_
    show Steps p.tables e below (T101.setTop (mkF m 20 #[.val (.int p0), .val (.int p1), .val (.int p2), .val (.int p3), .val (.ref b4), .unset, .unset, .unset, .unset, .unset, .unset, .unset, .unset, .unset, .unset, .unset, .unset, .unset, .unset, .unset, .unset, .unset] [(.int p1), (.int (0 : Int32)), (.ref b101), (.ref b101)])) _
    refine XS.sipush X101.here hx rfl (hb hby at_20) ?_
    show Steps p.tables e below (T101.setTop (mkF m 23 #[.val (.int p0), .val (.int p1), .val (.int p2), .val (.int p3), .val (.ref b4), .unset, .unset, .unset, .unset, .unset, .unset, .unset, .unset, .unset, .unset, .unset, .unset, .unset, .unset, .unset, .unset, .unset] [(.int (255 : Int32)), (.int p1), (.int (0 : Int32)), (.ref b101), (.ref b101)])) _
    refine XS.iand X101.here hx rfl (hb hby at_23) rfl ?_
    show Steps p.tables e below (T101.setTop (mkF m 24 #[.val (.int p0), .val (.int p1), .val (.int p2), .val (.int p3), .val (.ref b4), .unset, .unset, .unset, .unset, .unset, .unset, .unset, .unset, .unset, .unset, .unset, .unset, .unset, .unset, .unset, .unset, .unset] [(.int (p1 &&& (255 : Int32))), (.int (0 : Int32)), (.ref b101), (.ref b101)])) _
    refine XS.i2c X101.here hx rfl (hb hby at_24) rfl ?_
    show Steps p.tables e below (T101.setTop (mkF m 25 #[.val (.int p0), .val (.int p1), .val (.int p2), .val (.int p3), .val (.ref b4), .unset, .unset, .unset, .unset, .unset, .unset, .unset, .unset, .unset, .unset, .unset, .unset, .unset, .unset, .unset, .unset, .unset] [(.int ((p1 &&& (255 : Int32)).toUInt32.toUInt16.toUInt32.toInt32)), (.int (0 : Int32)), (.ref b101), (.ref b101)])) _
    refine st104 _ ?_
    show Steps p.tables e below (T104.setTop (mkF m 26 #[.val (.int p0), .val (.int p1), .val (.int p2), .val (.int p3), .val (.ref b4), .unset, .unset, .unset, .unset, .unset, .unset, .unset, .unset, .unset, .unset, .unset, .unset, .unset, .unset, .unset, .unset, .unset] [(.ref b101)])) _
    refine XS.dup X104.here hx rfl (hb hby at_26) rfl rfl ?_
    show Steps p.tables e below (T104.setTop (mkF m 27 #[.val (.int p0), .val (.int p1), .val (.int p2), .val (.int p3), .val (.ref b4), .unset, .unset, .unset, .unset, .unset, .unset, .unset, .unset, .unset, .unset, .unset, .unset, .unset, .unset, .unset, .unset, .unset] [(.ref b101), (.ref b101)])) _
    refine XS.iconst X104.here hx rfl (hb hby at_27) ?_
    show Steps p.tables e below (T104.setTop (mkF m 28 #[.val (.int p0), .val (.int p1), .val (.int p2), .val (.int p3), .val (.ref b4), .unset, .unset, .unset, .unset, .unset, .unset, .unset, .unset, .unset, .unset, .unset, .unset, .unset, .unset, .unset, .unset, .unset] [(.int (1 : Int32)), (.ref b101), (.ref b101)])) _
    refine XS.iloadN X104.here hx rfl (hb hby at_28) rfl ?_
    show Steps p.tables e below (T104.setTop (mkF m 29 #[.val (.int p0), .val (.int p1), .val (.int p2), .val (.int p3), .val (.ref b4), .unset, .unset, .unset, .unset, .unset, .unset, .unset, .unset, .unset, .unset, .unset, .unset, .unset, .unset, .unset, .unset, .unset] [(.int p1), (.int (1 : Int32)), (.ref b101), (.ref b101)])) _
    refine XS.bipush X104.here hx rfl (hb hby at_29) ?_
    show Steps p.tables e below (T104.setTop (mkF m 31 #[.val (.int p0), .val (.int p1), .val (.int p2), .val (.int p3), .val (.ref b4), .unset, .unset, .unset, .unset, .unset, .unset, .unset, .unset, .unset, .unset, .unset, .unset, .unset, .unset, .unset, .unset, .unset] [(.int (8 : Int32)), (.int p1), (.int (1 : Int32)), (.ref b101), (.ref b101)])) _
    refine XS.iushr X104.here hx rfl (hb hby at_31) rfl ?_
    show Steps p.tables e below (T104.setTop (mkF m 32 #[.val (.int p0), .val (.int p1), .val (.int p2), .val (.int p3), .val (.ref b4), .unset, .unset, .unset, .unset, .unset, .unset, .unset, .unset, .unset, .unset, .unset, .unset, .unset, .unset, .unset, .unset, .unset] [(.int ((p1.toUInt32 >>> ((8 : Int32) &&& 31).toUInt32).toInt32)), (.int (1 : Int32)), (.ref b101), (.ref b101)])) _
    refine XS.sipush X104.here hx rfl (hb hby at_32) ?_
    show Steps p.tables e below (T104.setTop (mkF m 35 #[.val (.int p0), .val (.int p1), .val (.int p2), .val (.int p3), .val (.ref b4), .unset, .unset, .unset, .unset, .unset, .unset, .unset, .unset, .unset, .unset, .unset, .unset, .unset, .unset, .unset, .unset, .unset] [(.int (255 : Int32)), (.int ((p1.toUInt32 >>> ((8 : Int32) &&& 31).toUInt32).toInt32)), (.int (1 : Int32)), (.ref b101), (.ref b101)])) _
    refine XS.iand X104.here hx rfl (hb hby at_35) rfl ?_
    show Steps p.tables e below (T104.setTop (mkF m 36 #[.val (.int p0), .val (.int p1), .val (.int p2), .val (.int p3), .val (.ref b4), .unset, .unset, .unset, .unset, .unset, .unset, .unset, .unset, .unset, .unset, .unset, .unset, .unset, .unset, .unset, .unset, .unset] [(.int (((p1.toUInt32 >>> ((8 : Int32) &&& 31).toUInt32).toInt32) &&& (255 : Int32))), (.int (1 : Int32)), (.ref b101), (.ref b101)])) _
    refine XS.i2c X104.here hx rfl (hb hby at_36) rfl ?_
    show Steps p.tables e below (T104.setTop (mkF m 37 #[.val (.int p0), .val (.int p1), .val (.int p2), .val (.int p3), .val (.ref b4), .unset, .unset, .unset, .unset, .unset, .unset, .unset, .unset, .unset, .unset, .unset, .unset, .unset, .unset, .unset, .unset, .unset] [(.int ((((p1.toUInt32 >>> ((8 : Int32) &&& 31).toUInt32).toInt32) &&& (255 : Int32)).toUInt32.toUInt16.toUInt32.toInt32)), (.int (1 : Int32)), (.ref b101), (.ref b101)])) _
    refine st107 _ ?_
    show Steps p.tables e below (T107.setTop (mkF m 38 #[.val (.int p0), .val (.int p1), .val (.int p2), .val (.int p3), .val (.ref b4), .unset, .unset, .unset, .unset, .unset, .unset, .unset, .unset, .unset, .unset, .unset, .unset, .unset, .unset, .unset, .unset, .unset] [(.ref b101)])) _
    refine XS.astore X107.here hx rfl (hb hby at_38) rfl rfl (l' := #[.val (.int p0), .val (.int p1), .val (.int p2), .val (.int p3), .val (.ref b4), .val (.ref b101), .unset, .unset, .unset, .unset, .unset, .unset, .unset, .unset, .unset, .unset, .unset, .unset, .unset, .unset, .unset, .unset]) rfl ?_
    exact hk
  have Z110 : n0 ≤ h100.size := Nat.le_trans Z97 E100.1
  have K111 : Keep h0 h100 [] := K98.ext E100
  have C112 := (C99.trans (CHr.ext E100 C99.1))
  have hp_b5 : ∀ c ∈ ([nar .char ((p1 &&& (255 : Int32)).toUInt32.toUInt16.toUInt32.toInt32), nar .char ((((p1.toUInt32 >>> ((8 : Int32) &&& 31).toUInt32).toInt32) &&& (255 : Int32)).toUInt32.toUInt16.toUInt32.toInt32)] : List Int32), ¬ c < 0 ∧ ¬ (255 : Int32) < c := by
    intro c hc
    simp only [List.mem_cons, List.not_mem_nil, or_false] at hc
    rcases hc with rfl | rfl
    · exact and255_chars _
    · exact and255_chars _
  obtain ⟨T113, h113, lc113, b6, k_b6, X113, e113, E113, N113, V_b6, st113⟩ : ∃ (T113 : State) (h113 : Heap) (lc113 : List Loc) (b6 : Addr) (k_b6 : ClassId), Stand p l e room_1 (s.setVm s.vm) m args below meth c T113 lc113 3 6 ∧ T113.heap = h113 ∧ Ext h100 h113 ∧ Fr n0 lc113 ∧ (Arv Z h113 b6 k_b6 .char (3 : Int32) [(.int (nar .char (45 : Int32))), (.int (nar .char (45 : Int32))), (.int (nar .char ((p2 &&& (255 : Int32)).toUInt32.toUInt16.toUInt32.toInt32)))] (.int (0 : Int32))) ∧ ∀ target, Steps p.tables e below (T113.setTop (mkF m 64 #[.val (.int p0), .val (.int p1), .val (.int p2), .val (.int p3), .val (.ref b4), .val (.ref b5), .val (.ref b6), .unset, .unset, .unset, .unset, .unset, .unset, .unset, .unset, .unset, .unset, .unset, .unset, .unset, .unset, .unset] [])) target → Steps p.tables e below (T100.setTop (mkF m 40 #[.val (.int p0), .val (.int p1), .val (.int p2), .val (.int p3), .val (.ref b4), .val (.ref b5), .unset, .unset, .unset, .unset, .unset, .unset, .unset, .unset, .unset, .unset, .unset, .unset, .unset, .unset, .unset, .unset] [])) target := by
    obtain ⟨T114, h114, k114, X114, e114, E114, A114, st114⟩ := newP X100 hx hZ (hw _ (List.mem_of_getElem? (i := 0) rfl)) e100 (g := (mkF m 41 #[.val (.int p0), .val (.int p1), .val (.int p2), .val (.int p3), .val (.ref b4), .val (.ref b5), .unset, .unset, .unset, .unset, .unset, .unset, .unset, .unset, .unset, .unset, .unset, .unset, .unset, .unset, .unset, .unset] [(.int (3 : Int32))])) rfl (hb hby at_41) rfl (by decide) (cap := 3) (by decide) (by decide) (by decide) (by decide)
    obtain ⟨b114, g114⟩ : ∃ z, z = h100.size := ⟨_, rfl⟩
    rw [← g114] at A114 st114
    have ge_b114 : n0 ≤ b114 := Nat.le_trans Z110 (Nat.le_of_eq g114.symm)
    have sz_b114 : h100.size ≤ b114 := Nat.le_trans (Keep.refl h100 []).1 (Nat.le_of_eq g114.symm)
    have Z115 : n0 ≤ h114.size := Nat.le_trans Z110 E114.1
    have K116 : Keep h100 h114 [] := (Keep.refl h100 []).ext E114
    have V114 : Arv Z h114 b114 k114 .char (3 : Int32) [(.int (0 : Int32)), (.int (0 : Int32)), (.int (0 : Int32))] (.int (0 : Int32)) := (Arv.new A114 (by decide)).pad (pad_rep [] (.int (0 : Int32)) 3)
    obtain ⟨cl117, Ar117, q117, S117, M117, Hs117, G117⟩ := id V114
    obtain ⟨T117, h117, X117, e117, W117, st117⟩ := stC X114 hx hZ e114 Ar117 (j := (0 : Int32)) (inb_of S117 ⟨(by decide), (by decide)⟩) (g := (mkF m 47 #[.val (.int p0), .val (.int p1), .val (.int p2), .val (.int p3), .val (.ref b4), .val (.ref b5), .unset, .unset, .unset, .unset, .unset, .unset, .unset, .unset, .unset, .unset, .unset, .unset, .unset, .unset, .unset, .unset] [(.int (45 : Int32)), (.int (0 : Int32)), (.ref b114), (.ref b114)])) rfl rfl (hb hby at_47)
    have Z118 : n0 ≤ h117.size := Nat.le_trans Z115 (Keep.of_wr W117).1
    have K119 : Keep h100 h117 [] := K116.wr W117 (Or.inr sz_b114)
    have N117 := Fr.snoc X117 N100 ge_b114
    have V117 : Arv Z h117 b114 k114 .char (3 : Int32) [(.int (nar .char (45 : Int32))), (.int (0 : Int32)), (.int (0 : Int32))] (.int (0 : Int32)) := Arv.set Ar117 q117 S117 M117 Hs117 G117 (fits_nar_char _) W117 0 rfl (Nat.le_of_ble_eq_true rfl)
    obtain ⟨cl120, Ar120, q120, S120, M120, Hs120, G120⟩ := id V117
    obtain ⟨T120, h120, X120, e120, W120, st120⟩ := stC X117 hx hZ e117 Ar120 (j := (1 : Int32)) (inb_of S120 ⟨(by decide), (by decide)⟩) (g := (mkF m 52 #[.val (.int p0), .val (.int p1), .val (.int p2), .val (.int p3), .val (.ref b4), .val (.ref b5), .unset, .unset, .unset, .unset, .unset, .unset, .unset, .unset, .unset, .unset, .unset, .unset, .unset, .unset, .unset, .unset] [(.int (45 : Int32)), (.int (1 : Int32)), (.ref b114), (.ref b114)])) rfl rfl (hb hby at_52)
    have Z121 : n0 ≤ h120.size := Nat.le_trans Z118 (Keep.of_wr W120).1
    have K122 : Keep h100 h120 [] := K119.wr W120 (Or.inr sz_b114)
    have N120 := Fr.snoc X120 N117 ge_b114
    have V120 : Arv Z h120 b114 k114 .char (3 : Int32) [(.int (nar .char (45 : Int32))), (.int (nar .char (45 : Int32))), (.int (0 : Int32))] (.int (0 : Int32)) := Arv.set Ar120 q120 S120 M120 Hs120 G120 (fits_nar_char _) W120 1 rfl (Nat.le_of_ble_eq_true rfl)
    obtain ⟨cl123, Ar123, q123, S123, M123, Hs123, G123⟩ := id V120
    obtain ⟨T123, h123, X123, e123, W123, st123⟩ := stC X120 hx hZ e120 Ar123 (j := (2 : Int32)) (inb_of S123 ⟨(by decide), (by decide)⟩) (g := (mkF m 61 #[.val (.int p0), .val (.int p1), .val (.int p2), .val (.int p3), .val (.ref b4), .val (.ref b5), .unset, .unset, .unset, .unset, .unset, .unset, .unset, .unset, .unset, .unset, .unset, .unset, .unset, .unset, .unset, .unset] [(.int ((p2 &&& (255 : Int32)).toUInt32.toUInt16.toUInt32.toInt32)), (.int (2 : Int32)), (.ref b114), (.ref b114)])) rfl rfl (hb hby at_61)
    have Z124 : n0 ≤ h123.size := Nat.le_trans Z121 (Keep.of_wr W123).1
    have K125 : Keep h100 h123 [] := K122.wr W123 (Or.inr sz_b114)
    have N123 := Fr.snoc X123 N120 ge_b114
    have V123 : Arv Z h123 b114 k114 .char (3 : Int32) [(.int (nar .char (45 : Int32))), (.int (nar .char (45 : Int32))), (.int (nar .char ((p2 &&& (255 : Int32)).toUInt32.toUInt16.toUInt32.toInt32)))] (.int (0 : Int32)) := Arv.set Ar123 q123 S123 M123 Hs123 G123 (fits_nar_char _) W123 2 rfl (Nat.le_of_ble_eq_true rfl)
    refine ⟨T123, _, _, b114, k114, own_up X123 (by decide) (by decide), e123, own_ext K125, N123, V123, fun target hk => ?_⟩
    show Steps p.tables e below (T100.setTop (mkF m 40 #[.val (.int p0), .val (.int p1), .val (.int p2), .val (.int p3), .val (.ref b4), .val (.ref b5), .unset, .unset, .unset, .unset, .unset, .unset, .unset, .unset, .unset, .unset, .unset, .unset, .unset, .unset, .unset, .unset] [])) _
    refine XS.iconst X100.here hx rfl (hb hby at_40) ?_
    show Steps p.tables e below (T100.setTop (mkF m 41 #[.val (.int p0), .val (.int p1), .val (.int p2), .val (.int p3), .val (.ref b4), .val (.ref b5), .unset, .unset, .unset, .unset, .unset, .unset, .unset, .unset, .unset, .unset, .unset, .unset, .unset, .unset, .unset, .unset] [(.int (3 : Int32))])) _
    refine st114 _ ?_
    show Steps p.tables e below (T114.setTop (mkF m 43 #[.val (.int p0), .val (.int p1), .val (.int p2), .val (.int p3), .val (.ref b4), .val (.ref b5), .unset, .unset, .unset, .unset, .unset, .unset, .unset, .unset, .unset, .unset, .unset, .unset, .unset, .unset, .unset, .unset] [(.ref b114)])) _
    refine XS.dup X114.here hx rfl (hb hby at_43) rfl rfl ?_
    show Steps p.tables e below (T114.setTop (mkF m 44 #[.val (.int p0), .val (.int p1), .val (.int p2), .val (.int p3), .val (.ref b4), .val (.ref b5), .unset, .unset, .unset, .unset, .unset, .unset, .unset, .unset, .unset, .unset, .unset, .unset, .unset, .unset, .unset, .unset] [(.ref b114), (.ref b114)])) _
    refine XS.iconst X114.here hx rfl (hb hby at_44) ?_
    show Steps p.tables e below (T114.setTop (mkF m 45 #[.val (.int p0), .val (.int p1), .val (.int p2), .val (.int p3), .val (.ref b4), .val (.ref b5), .unset, .unset, .unset, .unset, .unset, .unset, .unset, .unset, .unset, .unset, .unset, .unset, .unset, .unset, .unset, .unset] [(.int (0 : Int32)), (.ref b114), (.ref b114)])) _
    refine XS.bipush X114.here hx rfl (hb hby at_45) ?_
    show Steps p.tables e below (T114.setTop (mkF m 47 #[.val (.int p0), .val (.int p1), .val (.int p2), .val (.int p3), .val (.ref b4), .val (.ref b5), .unset, .unset, .unset, .unset, .unset, .unset, .unset, .unset, .unset, .unset, .unset, .unset, .unset, .unset, .unset, .unset] [(.int (45 : Int32)), (.int (0 : Int32)), (.ref b114), (.ref b114)])) _
    refine st117 _ ?_
    show Steps p.tables e below (T117.setTop (mkF m 48 #[.val (.int p0), .val (.int p1), .val (.int p2), .val (.int p3), .val (.ref b4), .val (.ref b5), .unset, .unset, .unset, .unset, .unset, .unset, .unset, .unset, .unset, .unset, .unset, .unset, .unset, .unset, .unset, .unset] [(.ref b114)])) _
    refine XS.dup X117.here hx rfl (hb hby at_48) rfl rfl ?_
    show Steps p.tables e below (T117.setTop (mkF m 49 #[.val (.int p0), .val (.int p1), .val (.int p2), .val (.int p3), .val (.ref b4), .val (.ref b5), .unset, .unset, .unset, .unset, .unset, .unset, .unset, .unset, .unset, .unset, .unset, .unset, .unset, .unset, .unset, .unset] [(.ref b114), (.ref b114)])) _
    refine XS.iconst X117.here hx rfl (hb hby at_49) ?_
    show Steps p.tables e below (T117.setTop (mkF m 50 #[.val (.int p0), .val (.int p1), .val (.int p2), .val (.int p3), .val (.ref b4), .val (.ref b5), .unset, .unset, .unset, .unset, .unset, .unset, .unset, .unset, .unset, .unset, .unset, .unset, .unset, .unset, .unset, .unset] [(.int (1 : Int32)), (.ref b114), (.ref b114)])) _
    refine XS.bipush X117.here hx rfl (hb hby at_50) ?_
    show Steps p.tables e below (T117.setTop (mkF m 52 #[.val (.int p0), .val (.int p1), .val (.int p2), .val (.int p3), .val (.ref b4), .val (.ref b5), .unset, .unset, .unset, .unset, .unset, .unset, .unset, .unset, .unset, .unset, .unset, .unset, .unset, .unset, .unset, .unset] [(.int (45 : Int32)), (.int (1 : Int32)), (.ref b114), (.ref b114)])) _
    refine st120 _ ?_
    show Steps p.tables e below (T120.setTop (mkF m 53 #[.val (.int p0), .val (.int p1), .val (.int p2), .val (.int p3), .val (.ref b4), .val (.ref b5), .unset, .unset, .unset, .unset, .unset, .unset, .unset, .unset, .unset, .unset, .unset, .unset, .unset, .unset, .unset, .unset] [(.ref b114)])) _
    refine XS.dup X120.here hx rfl (hb hby at_53) rfl rfl ?_
    show Steps p.tables e below (T120.setTop (mkF m 54 #[.val (.int p0), .val (.int p1), .val (.int p2), .val (.int p3), .val (.ref b4), .val (.ref b5), .unset, .unset, .unset, .unset, .unset, .unset, .unset, .unset, .unset, .unset, .unset, .unset, .unset, .unset, .unset, .unset] [(.ref b114), (.ref b114)])) _
    refine XS.iconst X120.here hx rfl (hb hby at_54) ?_
    show Steps p.tables e below (T120.setTop (mkF m 55 #[.val (.int p0), .val (.int p1), .val (.int p2), .val (.int p3), .val (.ref b4), .val (.ref b5), .unset, .unset, .unset, .unset, .unset, .unset, .unset, .unset, .unset, .unset, .unset, .unset, .unset, .unset, .unset, .unset] [(.int (2 : Int32)), (.ref b114), (.ref b114)])) _
    refine XS.iloadN X120.here hx rfl (hb hby at_55) rfl ?_
    show Steps p.tables e below (T120.setTop (mkF m 56 #[.val (.int p0), .val (.int p1), .val (.int p2), .val (.int p3), .val (.ref b4), .val (.ref b5), .unset, .unset, .unset, .unset, .unset, .unset, .unset, .unset, .unset, .unset, .unset, .unset, .unset, .unset, .unset, .unset] [(.int p2), (.int (2 : Int32)), (.ref b114), (.ref b114)])) _
    refine XS.sipush X120.here hx rfl (hb hby at_56) ?_
    show Steps p.tables e below (T120.setTop (mkF m 59 #[.val (.int p0), .val (.int p1), .val (.int p2), .val (.int p3), .val (.ref b4), .val (.ref b5), .unset, .unset, .unset, .unset, .unset, .unset, .unset, .unset, .unset, .unset, .unset, .unset, .unset, .unset, .unset, .unset] [(.int (255 : Int32)), (.int p2), (.int (2 : Int32)), (.ref b114), (.ref b114)])) _
    refine XS.iand X120.here hx rfl (hb hby at_59) rfl ?_
    show Steps p.tables e below (T120.setTop (mkF m 60 #[.val (.int p0), .val (.int p1), .val (.int p2), .val (.int p3), .val (.ref b4), .val (.ref b5), .unset, .unset, .unset, .unset, .unset, .unset, .unset, .unset, .unset, .unset, .unset, .unset, .unset, .unset, .unset, .unset] [(.int (p2 &&& (255 : Int32))), (.int (2 : Int32)), (.ref b114), (.ref b114)])) _
    refine XS.i2c X120.here hx rfl (hb hby at_60) rfl ?_
    show Steps p.tables e below (T120.setTop (mkF m 61 #[.val (.int p0), .val (.int p1), .val (.int p2), .val (.int p3), .val (.ref b4), .val (.ref b5), .unset, .unset, .unset, .unset, .unset, .unset, .unset, .unset, .unset, .unset, .unset, .unset, .unset, .unset, .unset, .unset] [(.int ((p2 &&& (255 : Int32)).toUInt32.toUInt16.toUInt32.toInt32)), (.int (2 : Int32)), (.ref b114), (.ref b114)])) _
    refine st123 _ ?_
    show Steps p.tables e below (T123.setTop (mkF m 62 #[.val (.int p0), .val (.int p1), .val (.int p2), .val (.int p3), .val (.ref b4), .val (.ref b5), .unset, .unset, .unset, .unset, .unset, .unset, .unset, .unset, .unset, .unset, .unset, .unset, .unset, .unset, .unset, .unset] [(.ref b114)])) _
    refine XS.astore X123.here hx rfl (hb hby at_62) rfl rfl (l' := #[.val (.int p0), .val (.int p1), .val (.int p2), .val (.int p3), .val (.ref b4), .val (.ref b5), .val (.ref b114), .unset, .unset, .unset, .unset, .unset, .unset, .unset, .unset, .unset, .unset, .unset, .unset, .unset, .unset, .unset]) rfl ?_
    exact hk
  have Z126 : n0 ≤ h113.size := Nat.le_trans Z110 E113.1
  have K127 : Keep h0 h113 [] := K111.ext E113
  have C128 := (C112.trans (CHr.ext E113 C112.1))
  have hp_b6 : ∀ c ∈ ([nar .char (45 : Int32), nar .char (45 : Int32), nar .char ((p2 &&& (255 : Int32)).toUInt32.toUInt16.toUInt32.toInt32)] : List Int32), ¬ c < 0 ∧ ¬ (255 : Int32) < c := by
    intro c hc
    simp only [List.mem_cons, List.not_mem_nil, or_false] at hc
    rcases hc with rfl | rfl | rfl
    · decide
    · decide
    · exact and255_chars _
  obtain ⟨T129, h129, lc129, b7, k_b7, X129, e129, E129, N129, V_b7, st129⟩ : ∃ (T129 : State) (h129 : Heap) (lc129 : List Loc) (b7 : Addr) (k_b7 : ClassId), Stand p l e room_1 (s.setVm s.vm) m args below meth c T129 lc129 4 7 ∧ T129.heap = h129 ∧ Ext h113 h129 ∧ Fr n0 lc129 ∧ (Arv Z h129 b7 k_b7 .char (1 : Int32) [(.int (nar .char ((p3 &&& (255 : Int32)).toUInt32.toUInt16.toUInt32.toInt32)))] (.int (0 : Int32))) ∧ ∀ target, Steps p.tables e below (T129.setTop (mkF m 78 #[.val (.int p0), .val (.int p1), .val (.int p2), .val (.int p3), .val (.ref b4), .val (.ref b5), .val (.ref b6), .val (.ref b7), .unset, .unset, .unset, .unset, .unset, .unset, .unset, .unset, .unset, .unset, .unset, .unset, .unset, .unset] [])) target → Steps p.tables e below (T113.setTop (mkF m 64 #[.val (.int p0), .val (.int p1), .val (.int p2), .val (.int p3), .val (.ref b4), .val (.ref b5), .val (.ref b6), .unset, .unset, .unset, .unset, .unset, .unset, .unset, .unset, .unset, .unset, .unset, .unset, .unset, .unset, .unset] [])) target := by
    obtain ⟨T130, h130, k130, X130, e130, E130, A130, st130⟩ := newP X113 hx hZ (hw _ (List.mem_of_getElem? (i := 0) rfl)) e113 (g := (mkF m 65 #[.val (.int p0), .val (.int p1), .val (.int p2), .val (.int p3), .val (.ref b4), .val (.ref b5), .val (.ref b6), .unset, .unset, .unset, .unset, .unset, .unset, .unset, .unset, .unset, .unset, .unset, .unset, .unset, .unset, .unset] [(.int (1 : Int32))])) rfl (hb hby at_65) rfl (by decide) (cap := 1) (by decide) (by decide) (by decide) (by decide)
    obtain ⟨b130, g130⟩ : ∃ z, z = h113.size := ⟨_, rfl⟩
    rw [← g130] at A130 st130
    have ge_b130 : n0 ≤ b130 := Nat.le_trans Z126 (Nat.le_of_eq g130.symm)
    have sz_b130 : h113.size ≤ b130 := Nat.le_trans (Keep.refl h113 []).1 (Nat.le_of_eq g130.symm)
    have Z131 : n0 ≤ h130.size := Nat.le_trans Z126 E130.1
    have K132 : Keep h113 h130 [] := (Keep.refl h113 []).ext E130
    have V130 : Arv Z h130 b130 k130 .char (1 : Int32) [(.int (0 : Int32))] (.int (0 : Int32)) := (Arv.new A130 (by decide)).pad (pad_rep [] (.int (0 : Int32)) 1)
    obtain ⟨cl133, Ar133, q133, S133, M133, Hs133, G133⟩ := id V130
    obtain ⟨T133, h133, X133, e133, W133, st133⟩ := stC X130 hx hZ e130 Ar133 (j := (0 : Int32)) (inb_of S133 ⟨(by decide), (by decide)⟩) (g := (mkF m 75 #[.val (.int p0), .val (.int p1), .val (.int p2), .val (.int p3), .val (.ref b4), .val (.ref b5), .val (.ref b6), .unset, .unset, .unset, .unset, .unset, .unset, .unset, .unset, .unset, .unset, .unset, .unset, .unset, .unset, .unset] [(.int ((p3 &&& (255 : Int32)).toUInt32.toUInt16.toUInt32.toInt32)), (.int (0 : Int32)), (.ref b130), (.ref b130)])) rfl rfl (hb hby at_75)
    have Z134 : n0 ≤ h133.size := Nat.le_trans Z131 (Keep.of_wr W133).1
    have K135 : Keep h113 h133 [] := K132.wr W133 (Or.inr sz_b130)
    have N133 := Fr.snoc X133 N113 ge_b130
    have V133 : Arv Z h133 b130 k130 .char (1 : Int32) [(.int (nar .char ((p3 &&& (255 : Int32)).toUInt32.toUInt16.toUInt32.toInt32)))] (.int (0 : Int32)) := Arv.set Ar133 q133 S133 M133 Hs133 G133 (fits_nar_char _) W133 0 rfl (Nat.le_of_ble_eq_true rfl)
    refine ⟨T133, _, _, b130, k130, own_up X133 (by decide) (by decide), e133, own_ext K135, N133, V133, fun target hk => ?_⟩
    show Steps p.tables e below (T113.setTop (mkF m 64 #[.val (.int p0), .val (.int p1), .val (.int p2), .val (.int p3), .val (.ref b4), .val (.ref b5), .val (.ref b6), .unset, .unset, .unset, .unset, .unset, .unset, .unset, .unset, .unset, .unset, .unset, .unset, .unset, .unset, .unset] [])) _
    refine XS.iconst X113.here hx rfl (hb hby at_64) ?_
    show Steps p.tables e below (T113.setTop (mkF m 65 #[.val (.int p0), .val (.int p1), .val (.int p2), .val (.int p3), .val (.ref b4), .val (.ref b5), .val (.ref b6), .unset, .unset, .unset, .unset, .unset, .unset, .unset, .unset, .unset, .unset, .unset, .unset, .unset, .unset, .unset] [(.int (1 : Int32))])) _
    refine st130 _ ?_
    show Steps p.tables e below (T130.setTop (mkF m 67 #[.val (.int p0), .val (.int p1), .val (.int p2), .val (.int p3), .val (.ref b4), .val (.ref b5), .val (.ref b6), .unset, .unset, .unset, .unset, .unset, .unset, .unset, .unset, .unset, .unset, .unset, .unset, .unset, .unset, .unset] [(.ref b130)])) _
    refine XS.dup X130.here hx rfl (hb hby at_67) rfl rfl ?_
    show Steps p.tables e below (T130.setTop (mkF m 68 #[.val (.int p0), .val (.int p1), .val (.int p2), .val (.int p3), .val (.ref b4), .val (.ref b5), .val (.ref b6), .unset, .unset, .unset, .unset, .unset, .unset, .unset, .unset, .unset, .unset, .unset, .unset, .unset, .unset, .unset] [(.ref b130), (.ref b130)])) _
    refine XS.iconst X130.here hx rfl (hb hby at_68) ?_
    show Steps p.tables e below (T130.setTop (mkF m 69 #[.val (.int p0), .val (.int p1), .val (.int p2), .val (.int p3), .val (.ref b4), .val (.ref b5), .val (.ref b6), .unset, .unset, .unset, .unset, .unset, .unset, .unset, .unset, .unset, .unset, .unset, .unset, .unset, .unset, .unset] [(.int (0 : Int32)), (.ref b130), (.ref b130)])) _
    refine XS.iloadN X130.here hx rfl (hb hby at_69) rfl ?_
    show Steps p.tables e below (T130.setTop (mkF m 70 #[.val (.int p0), .val (.int p1), .val (.int p2), .val (.int p3), .val (.ref b4), .val (.ref b5), .val (.ref b6), .unset, .unset, .unset, .unset, .unset, .unset, .unset, .unset, .unset, .unset, .unset, .unset, .unset, .unset, .unset] [(.int p3), (.int (0 : Int32)), (.ref b130), (.ref b130)])) _
    refine XS.sipush X130.here hx rfl (hb hby at_70) ?_
    show Steps p.tables e below (T130.setTop (mkF m 73 #[.val (.int p0), .val (.int p1), .val (.int p2), .val (.int p3), .val (.ref b4), .val (.ref b5), .val (.ref b6), .unset, .unset, .unset, .unset, .unset, .unset, .unset, .unset, .unset, .unset, .unset, .unset, .unset, .unset, .unset] [(.int (255 : Int32)), (.int p3), (.int (0 : Int32)), (.ref b130), (.ref b130)])) _
    refine XS.iand X130.here hx rfl (hb hby at_73) rfl ?_
    show Steps p.tables e below (T130.setTop (mkF m 74 #[.val (.int p0), .val (.int p1), .val (.int p2), .val (.int p3), .val (.ref b4), .val (.ref b5), .val (.ref b6), .unset, .unset, .unset, .unset, .unset, .unset, .unset, .unset, .unset, .unset, .unset, .unset, .unset, .unset, .unset] [(.int (p3 &&& (255 : Int32))), (.int (0 : Int32)), (.ref b130), (.ref b130)])) _
    refine XS.i2c X130.here hx rfl (hb hby at_74) rfl ?_
    show Steps p.tables e below (T130.setTop (mkF m 75 #[.val (.int p0), .val (.int p1), .val (.int p2), .val (.int p3), .val (.ref b4), .val (.ref b5), .val (.ref b6), .unset, .unset, .unset, .unset, .unset, .unset, .unset, .unset, .unset, .unset, .unset, .unset, .unset, .unset, .unset] [(.int ((p3 &&& (255 : Int32)).toUInt32.toUInt16.toUInt32.toInt32)), (.int (0 : Int32)), (.ref b130), (.ref b130)])) _
    refine st133 _ ?_
    show Steps p.tables e below (T133.setTop (mkF m 76 #[.val (.int p0), .val (.int p1), .val (.int p2), .val (.int p3), .val (.ref b4), .val (.ref b5), .val (.ref b6), .unset, .unset, .unset, .unset, .unset, .unset, .unset, .unset, .unset, .unset, .unset, .unset, .unset, .unset, .unset] [(.ref b130)])) _
    refine XS.astore X133.here hx rfl (hb hby at_76) rfl rfl (l' := #[.val (.int p0), .val (.int p1), .val (.int p2), .val (.int p3), .val (.ref b4), .val (.ref b5), .val (.ref b6), .val (.ref b130), .unset, .unset, .unset, .unset, .unset, .unset, .unset, .unset, .unset, .unset, .unset, .unset, .unset, .unset]) rfl ?_
    exact hk
  have Z136 : n0 ≤ h129.size := Nat.le_trans Z126 E129.1
  have K137 : Keep h0 h129 [] := K127.ext E129
  have C138 := (C128.trans (CHr.ext E129 C128.1))
  have hp_b7 : ∀ c ∈ ([nar .char ((p3 &&& (255 : Int32)).toUInt32.toUInt16.toUInt32.toInt32)] : List Int32), ¬ c < 0 ∧ ¬ (255 : Int32) < c := by
    intro c hc
    simp only [List.mem_cons, List.not_mem_nil, or_false] at hc
    rcases hc with rfl
    · exact and255_chars _
  obtain ⟨T139, h139, lc139, b8, k_b8, X139, e139, E139, N139, V_b8, st139⟩ : ∃ (T139 : State) (h139 : Heap) (lc139 : List Loc) (b8 : Addr) (k_b8 : ClassId), Stand p l e room_1 (s.setVm s.vm) m args below meth c T139 lc139 5 8 ∧ T139.heap = h139 ∧ Ext h129 h139 ∧ Fr n0 lc139 ∧ (Arv Z h139 b8 k_b8 .char (1 : Int32) [(.int (nar .char ((((p3.toUInt32 >>> ((8 : Int32) &&& 31).toUInt32).toInt32) &&& (255 : Int32)).toUInt32.toUInt16.toUInt32.toInt32)))] (.int (0 : Int32))) ∧ ∀ target, Steps p.tables e below (T139.setTop (mkF m 95 #[.val (.int p0), .val (.int p1), .val (.int p2), .val (.int p3), .val (.ref b4), .val (.ref b5), .val (.ref b6), .val (.ref b7), .val (.ref b8), .unset, .unset, .unset, .unset, .unset, .unset, .unset, .unset, .unset, .unset, .unset, .unset, .unset] [])) target → Steps p.tables e below (T129.setTop (mkF m 78 #[.val (.int p0), .val (.int p1), .val (.int p2), .val (.int p3), .val (.ref b4), .val (.ref b5), .val (.ref b6), .val (.ref b7), .unset, .unset, .unset, .unset, .unset, .unset, .unset, .unset, .unset, .unset, .unset, .unset, .unset, .unset] [])) target := by
    obtain ⟨T140, h140, k140, X140, e140, E140, A140, st140⟩ := newP X129 hx hZ (hw _ (List.mem_of_getElem? (i := 0) rfl)) e129 (g := (mkF m 79 #[.val (.int p0), .val (.int p1), .val (.int p2), .val (.int p3), .val (.ref b4), .val (.ref b5), .val (.ref b6), .val (.ref b7), .unset, .unset, .unset, .unset, .unset, .unset, .unset, .unset, .unset, .unset, .unset, .unset, .unset, .unset] [(.int (1 : Int32))])) rfl (hb hby at_79) rfl (by decide) (cap := 1) (by decide) (by decide) (by decide) (by decide)
    obtain ⟨b140, g140⟩ : ∃ z, z = h129.size := ⟨_, rfl⟩
    rw [← g140] at A140 st140
    have ge_b140 : n0 ≤ b140 := Nat.le_trans Z136 (Nat.le_of_eq g140.symm)
    have sz_b140 : h129.size ≤ b140 := Nat.le_trans (Keep.refl h129 []).1 (Nat.le_of_eq g140.symm)
    have Z141 : n0 ≤ h140.size := Nat.le_trans Z136 E140.1
    have K142 : Keep h129 h140 [] := (Keep.refl h129 []).ext E140
    have V140 : Arv Z h140 b140 k140 .char (1 : Int32) [(.int (0 : Int32))] (.int (0 : Int32)) := (Arv.new A140 (by decide)).pad (pad_rep [] (.int (0 : Int32)) 1)
    obtain ⟨cl143, Ar143, q143, S143, M143, Hs143, G143⟩ := id V140
    obtain ⟨T143, h143, X143, e143, W143, st143⟩ := stC X140 hx hZ e140 Ar143 (j := (0 : Int32)) (inb_of S143 ⟨(by decide), (by decide)⟩) (g := (mkF m 92 #[.val (.int p0), .val (.int p1), .val (.int p2), .val (.int p3), .val (.ref b4), .val (.ref b5), .val (.ref b6), .val (.ref b7), .unset, .unset, .unset, .unset, .unset, .unset, .unset, .unset, .unset, .unset, .unset, .unset, .unset, .unset] [(.int ((((p3.toUInt32 >>> ((8 : Int32) &&& 31).toUInt32).toInt32) &&& (255 : Int32)).toUInt32.toUInt16.toUInt32.toInt32)), (.int (0 : Int32)), (.ref b140), (.ref b140)])) rfl rfl (hb hby at_92)
    have Z144 : n0 ≤ h143.size := Nat.le_trans Z141 (Keep.of_wr W143).1
    have K145 : Keep h129 h143 [] := K142.wr W143 (Or.inr sz_b140)
    have N143 := Fr.snoc X143 N129 ge_b140
    have V143 : Arv Z h143 b140 k140 .char (1 : Int32) [(.int (nar .char ((((p3.toUInt32 >>> ((8 : Int32) &&& 31).toUInt32).toInt32) &&& (255 : Int32)).toUInt32.toUInt16.toUInt32.toInt32)))] (.int (0 : Int32)) := Arv.set Ar143 q143 S143 M143 Hs143 G143 (fits_nar_char _) W143 0 rfl (Nat.le_of_ble_eq_true rfl)
    refine ⟨T143, _, _, b140, k140, own_up X143 (by decide) (by decide), e143, own_ext K145, N143, V143, fun target hk => ?_⟩
    show Steps p.tables e below (T129.setTop (mkF m 78 #[.val (.int p0), .val (.int p1), .val (.int p2), .val (.int p3), .val (.ref b4), .val (.ref b5), .val (.ref b6), .val (.ref b7), .unset, .unset, .unset, .unset, .unset, .unset, .unset, .unset, .unset, .unset, .unset, .unset, .unset, .unset] [])) _
    refine XS.iconst X129.here hx rfl (hb hby at_78) ?_
    show Steps p.tables e below (T129.setTop (mkF m 79 #[.val (.int p0), .val (.int p1), .val (.int p2), .val (.int p3), .val (.ref b4), .val (.ref b5), .val (.ref b6), .val (.ref b7), .unset, .unset, .unset, .unset, .unset, .unset, .unset, .unset, .unset, .unset, .unset, .unset, .unset, .unset] [(.int (1 : Int32))])) _
    refine st140 _ ?_
    show Steps p.tables e below (T140.setTop (mkF m 81 #[.val (.int p0), .val (.int p1), .val (.int p2), .val (.int p3), .val (.ref b4), .val (.ref b5), .val (.ref b6), .val (.ref b7), .unset, .unset, .unset, .unset, .unset, .unset, .unset, .unset, .unset, .unset, .unset, .unset, .unset, .unset] [(.ref b140)])) _
    refine XS.dup X140.here hx rfl (hb hby at_81) rfl rfl ?_
    show Steps p.tables e below (T140.setTop (mkF m 82 #[.val (.int p0), .val (.int p1), .val (.int p2), .val (.int p3), .val (.ref b4), .val (.ref b5), .val (.ref b6), .val (.ref b7), .unset, .unset, .unset, .unset, .unset, .unset, .unset, .unset, .unset, .unset, .unset, .unset, .unset, .unset] [(.ref b140), (.ref b140)])) _
    refine XS.iconst X140.here hx rfl (hb hby at_82) ?_
    show Steps p.tables e below (T140.setTop (mkF m 83 #[.val (.int p0), .val (.int p1), .val (.int p2), .val (.int p3), .val (.ref b4), .val (.ref b5), .val (.ref b6), .val (.ref b7), .unset, .unset, .unset, .unset, .unset, .unset, .unset, .unset, .unset, .unset, .unset, .unset, .unset, .unset] [(.int (0 : Int32)), (.ref b140), (.ref b140)])) _
    refine XS.iloadN X140.here hx rfl (hb hby at_83) rfl ?_
    show Steps p.tables e below (T140.setTop (mkF m 84 #[.val (.int p0), .val (.int p1), .val (.int p2), .val (.int p3), .val (.ref b4), .val (.ref b5), .val (.ref b6), .val (.ref b7), .unset, .unset, .unset, .unset, .unset, .unset, .unset, .unset, .unset, .unset, .unset, .unset, .unset, .unset] [(.int p3), (.int (0 : Int32)), (.ref b140), (.ref b140)])) _
    refine XS.bipush X140.here hx rfl (hb hby at_84) ?_
    show Steps p.tables e below (T140.setTop (mkF m 86 #[.val (.int p0), .val (.int p1), .val (.int p2), .val (.int p3), .val (.ref b4), .val (.ref b5), .val (.ref b6), .val (.ref b7), .unset, .unset, .unset, .unset, .unset, .unset, .unset, .unset, .unset, .unset, .unset, .unset, .unset, .unset] [(.int (8 : Int32)), (.int p3), (.int (0 : Int32)), (.ref b140), (.ref b140)])) _
    refine XS.iushr X140.here hx rfl (hb hby at_86) rfl ?_
    show Steps p.tables e below (T140.setTop (mkF m 87 #[.val (.int p0), .val (.int p1), .val (.int p2), .val (.int p3), .val (.ref b4), .val (.ref b5), .val (.ref b6), .val (.ref b7), .unset, .unset, .unset, .unset, .unset, .unset, .unset, .unset, .unset, .unset, .unset, .unset, .unset, .unset] [(.int ((p3.toUInt32 >>> ((8 : Int32) &&& 31).toUInt32).toInt32)), (.int (0 : Int32)), (.ref b140), (.ref b140)])) _
    refine XS.sipush X140.here hx rfl (hb hby at_87) ?_
    show Steps p.tables e below (T140.setTop (mkF m 90 #[.val (.int p0), .val (.int p1), .val (.int p2), .val (.int p3), .val (.ref b4), .val (.ref b5), .val (.ref b6), .val (.ref b7), .unset, .unset, .unset, .unset, .unset, .unset, .unset, .unset, .unset, .unset, .unset, .unset, .unset, .unset] [(.int (255 : Int32)), (.int ((p3.toUInt32 >>> ((8 : Int32) &&& 31).toUInt32).toInt32)), (.int (0 : Int32)), (.ref b140), (.ref b140)])) _
    refine XS.iand X140.here hx rfl (hb hby at_90) rfl ?_
    show Steps p.tables e below (T140.setTop (mkF m 91 #[.val (.int p0), .val (.int p1), .val (.int p2), .val (.int p3), .val (.ref b4), .val (.ref b5), .val (.ref b6), .val (.ref b7), .unset, .unset, .unset, .unset, .unset, .unset, .unset, .unset, .unset, .unset, .unset, .unset, .unset, .unset] [(.int (((p3.toUInt32 >>> ((8 : Int32) &&& 31).toUInt32).toInt32) &&& (255 : Int32))), (.int (0 : Int32)), (.ref b140), (.ref b140)])) _
    refine XS.i2c X140.here hx rfl (hb hby at_91) rfl ?_
    show Steps p.tables e below (T140.setTop (mkF m 92 #[.val (.int p0), .val (.int p1), .val (.int p2), .val (.int p3), .val (.ref b4), .val (.ref b5), .val (.ref b6), .val (.ref b7), .unset, .unset, .unset, .unset, .unset, .unset, .unset, .unset, .unset, .unset, .unset, .unset, .unset, .unset] [(.int ((((p3.toUInt32 >>> ((8 : Int32) &&& 31).toUInt32).toInt32) &&& (255 : Int32)).toUInt32.toUInt16.toUInt32.toInt32)), (.int (0 : Int32)), (.ref b140), (.ref b140)])) _
    refine st143 _ ?_
    show Steps p.tables e below (T143.setTop (mkF m 93 #[.val (.int p0), .val (.int p1), .val (.int p2), .val (.int p3), .val (.ref b4), .val (.ref b5), .val (.ref b6), .val (.ref b7), .unset, .unset, .unset, .unset, .unset, .unset, .unset, .unset, .unset, .unset, .unset, .unset, .unset, .unset] [(.ref b140)])) _
    refine XS.astore X143.here hx rfl (hb hby at_93) rfl rfl (l' := #[.val (.int p0), .val (.int p1), .val (.int p2), .val (.int p3), .val (.ref b4), .val (.ref b5), .val (.ref b6), .val (.ref b7), .val (.ref b140), .unset, .unset, .unset, .unset, .unset, .unset, .unset, .unset, .unset, .unset, .unset, .unset, .unset]) rfl ?_
    exact hk
  have Z146 : n0 ≤ h139.size := Nat.le_trans Z136 E139.1
  have K147 : Keep h0 h139 [] := K137.ext E139
  have C148 := (C138.trans (CHr.ext E139 C138.1))
  have hp_b8 : ∀ c ∈ ([nar .char ((((p3.toUInt32 >>> ((8 : Int32) &&& 31).toUInt32).toInt32) &&& (255 : Int32)).toUInt32.toUInt16.toUInt32.toInt32)] : List Int32), ¬ c < 0 ∧ ¬ (255 : Int32) < c := by
    intro c hc
    simp only [List.mem_cons, List.not_mem_nil, or_false] at hc
    rcases hc with rfl
    · exact and255_chars _
  obtain ⟨T149, h149, k149, X149, e149, E149, A149, st149⟩ := newP X139 hx hZ (hw _ (List.mem_of_getElem? (i := 0) rfl)) e139 (g := (mkF m 96 #[.val (.int p0), .val (.int p1), .val (.int p2), .val (.int p3), .val (.ref b4), .val (.ref b5), .val (.ref b6), .val (.ref b7), .val (.ref b8), .unset, .unset, .unset, .unset, .unset, .unset, .unset, .unset, .unset, .unset, .unset, .unset, .unset] [(.int (0 : Int32))])) rfl (hb hby at_96) rfl (by decide) (cap := 0) (by decide) (by decide) (by decide) (by decide)
  obtain ⟨b149, g149⟩ : ∃ z, z = h139.size := ⟨_, rfl⟩
  rw [← g149] at A149 st149
  have ge_b149 : n0 ≤ b149 := Nat.le_trans Z146 (Nat.le_of_eq g149.symm)
  have sz_b149 : h0.size ≤ b149 := Nat.le_trans K147.1 (Nat.le_of_eq g149.symm)
  have Z150 : n0 ≤ h149.size := Nat.le_trans Z146 E149.1
  have K151 : Keep h0 h149 [] := K147.ext E149
  have C152 := (C148.trans (CHr.ext E149 C148.1))
  have V149 : Arv Z h149 b149 k149 .char (0 : Int32) [] (.int (0 : Int32)) := Arv.new A149 (by decide)
  obtain ⟨T153, h153, lc153, s10, t_s10, kb_s10, X153, e153, E153, N153, E_s10, C_s10, W_s10, B_s10, st153⟩ : ∃ (T153 : State) (h153 : Heap) (lc153 : List Loc) (s10 : Addr) (t_s10 : Addr) (kb_s10 : ClassId), Stand p l e room_1 (s.setVm s.vm) m args below meth c T153 lc153 8 15 ∧ T153.heap = h153 ∧ Ext h149 h153 ∧ Fr n0 lc153 ∧ (Exa Z h153 s10 "java/lang/String") ∧ (Fld Z h153 s10 "java/lang/String" "coder" "B" (.int (0 : Int32))) ∧ (Fld Z h153 s10 "java/lang/String" "value" "[B" (.ref t_s10)) ∧ (Arv Z h153 t_s10 kb_s10 .byte (3 : Int32) (((([nar .char (45 : Int32), nar .char (45 : Int32), nar .char ((p2 &&& (255 : Int32)).toUInt32.toUInt16.toUInt32.toInt32)] : List Int32)).map (fun c => c.toInt8.toInt32)).map Value.int) (.int (0 : Int32))) ∧ ∀ target, Steps p.tables e below (T153.setTop (mkF m 111 #[.val (.int p0), .val (.int p1), .val (.int p2), .val (.int p3), .val (.ref b4), .val (.ref b5), .val (.ref b6), .val (.ref b7), .val (.ref b8), .val (.ref b149), .val (.ref s10), .unset, .unset, .unset, .unset, .unset, .unset, .unset, .unset, .unset, .unset, .unset] [])) target → Steps p.tables e below (T149.setTop (mkF m 100 #[.val (.int p0), .val (.int p1), .val (.int p2), .val (.int p3), .val (.ref b4), .val (.ref b5), .val (.ref b6), .val (.ref b7), .val (.ref b8), .val (.ref b149), .unset, .unset, .unset, .unset, .unset, .unset, .unset, .unset, .unset, .unset, .unset, .unset] [])) target := by
    obtain ⟨T154, h154, X154, e154, E154, A154, D154, -, st154⟩ := newO X149 hx hZ hown (hw _ (List.mem_of_getElem? (i := 1) rfl)) (hw _ (List.mem_of_getElem? (i := 2) rfl)) (hw _ (List.mem_of_getElem? (i := 3) rfl)) e149 (g := (mkF m 100 #[.val (.int p0), .val (.int p1), .val (.int p2), .val (.int p3), .val (.ref b4), .val (.ref b5), .val (.ref b6), .val (.ref b7), .val (.ref b8), .val (.ref b149), .unset, .unset, .unset, .unset, .unset, .unset, .unset, .unset, .unset, .unset, .unset, .unset] [])) rfl (hb hby at_100) (by decide) (by decide)
    obtain ⟨b154, g154⟩ : ∃ z, z = h149.size := ⟨_, rfl⟩
    rw [← g154] at A154 D154 st154
    have ge_b154 : n0 ≤ b154 := Nat.le_trans Z150 (Nat.le_of_eq g154.symm)
    have sz_b154 : h149.size ≤ b154 := Nat.le_trans (Keep.refl h149 []).1 (Nat.le_of_eq g154.symm)
    have Z155 : n0 ≤ h154.size := Nat.le_trans Z150 E154.1
    have K156 : Keep h149 h154 [] := (Keep.refl h149 []).ext E154
    have f157 := ((((V_b6.ext E129).ext E139).ext E149).ext E154)
    have f158 := (((((((X00.ext E90).ext E100).ext E113).ext E129).ext E139).ext E149).ext E154)
    obtain ⟨v159, vmx159, ⟨T159, L159, k159, n159⟩, -, X159, ⟨Lc159, hQ159, l159, y159, z159⟩, st159⟩ := X154.specialBack hx (y := (⟨"java/lang/String", "<init>", "([C)V"⟩ : MethodName)) rfl hown (mvT hZ (hw _ (List.mem_of_getElem? (i := 4) rfl))) (mvT hZ (hw _ (List.mem_of_getElem? (i := 5) rfl))) (mvT hZ (hw _ (List.mem_of_getElem? (i := 6) rfl))) (by decide) (StrChars.Road.backV (W := 1) hZ hws (kI := 4) (hw _ (List.mem_of_getElem? (i := 2) rfl)) (cs := ([nar .char (45 : Int32), nar .char (45 : Int32), nar .char ((p2 &&& (255 : Int32)).toUInt32.toUInt16.toUInt32.toInt32)] : List Int32)) (bs := (([nar .char (45 : Int32), nar .char (45 : Int32), nar .char ((p2 &&& (255 : Int32)).toUInt32.toUInt16.toUInt32.toInt32)] : List Int32)).map (fun c => c.toInt8.toInt32)) (n := 3) ge_b154 Z155 A154 (D154 (Or.inr (hw _ (List.mem_of_getElem? (i := 29) rfl))) (ty := (.array .byte)) (by decide)) (D154 (Or.inr (hw _ (List.mem_of_getElem? (i := 27) rfl))) (ty := .byte) (by decide)) f157 (O2.ext f158.2) P5 rfl rfl (by decide) (by decide) hp_b6 rfl (by decide) (by decide)) (g := (mkF m 106 #[.val (.int p0), .val (.int p1), .val (.int p2), .val (.int p3), .val (.ref b4), .val (.ref b5), .val (.ref b6), .val (.ref b7), .val (.ref b8), .val (.ref b149), .unset, .unset, .unset, .unset, .unset, .unset, .unset, .unset, .unset, .unset, .unset, .unset] [(.ref b6), (.ref b154), (.ref b154)])) rfl (by rw [hml]; rfl) (Steps.refl _) (a := b154) (argsL := [(.ref b6)]) (rest := [(.ref b154)]) (lenOf own_pd3 rfl) rfl (by show 2 * 0 + _ ≤ _; exact Nat.le_of_eq rfl) (hb hby at_106) (fun _ _ => ⟨rfl, e154, (by decide : 7 + 1 ≤ _), (by decide : 12 + 3 ≤ _)⟩)
    dsimp only [Pt.U, Pt.locs, Pt.cells, Pt.slots] at X159 l159 y159 z159 st159 hQ159
    subst l159 y159 z159
    obtain ⟨rfl, Nq159, K159, fe159, fc159, t159, kb159, u1159, u2159, u3159, fv159, fa159⟩ := hQ159
    have N159 := Fr.app N139 Nq159
    have Z160 : n0 ≤ T159.heap.size := Nat.le_trans Z155 K159.1
    have K161 : Keep h149 T159.heap [] := K156.trans K159 (allS (Or.inr sz_b154) all0)
    refine ⟨T159, _, _, b154, t159, kb159, own_up X159 (by decide) (by decide), rfl, own_ext K161, N159, fe159, fc159, fv159, fa159, fun target hk => ?_⟩
    show Steps p.tables e below (T149.setTop (mkF m 100 #[.val (.int p0), .val (.int p1), .val (.int p2), .val (.int p3), .val (.ref b4), .val (.ref b5), .val (.ref b6), .val (.ref b7), .val (.ref b8), .val (.ref b149), .unset, .unset, .unset, .unset, .unset, .unset, .unset, .unset, .unset, .unset, .unset, .unset] [])) _
    refine st154 _ ?_
    show Steps p.tables e below (T154.setTop (mkF m 103 #[.val (.int p0), .val (.int p1), .val (.int p2), .val (.int p3), .val (.ref b4), .val (.ref b5), .val (.ref b6), .val (.ref b7), .val (.ref b8), .val (.ref b149), .unset, .unset, .unset, .unset, .unset, .unset, .unset, .unset, .unset, .unset, .unset, .unset] [(.ref b154)])) _
    refine XS.dup X154.here hx rfl (hb hby at_103) rfl rfl ?_
    show Steps p.tables e below (T154.setTop (mkF m 104 #[.val (.int p0), .val (.int p1), .val (.int p2), .val (.int p3), .val (.ref b4), .val (.ref b5), .val (.ref b6), .val (.ref b7), .val (.ref b8), .val (.ref b149), .unset, .unset, .unset, .unset, .unset, .unset, .unset, .unset, .unset, .unset, .unset, .unset] [(.ref b154), (.ref b154)])) _
    refine XS.aload X154.here hx rfl (hb hby at_104) rfl rfl ?_
    show Steps p.tables e below (T154.setTop (mkF m 106 #[.val (.int p0), .val (.int p1), .val (.int p2), .val (.int p3), .val (.ref b4), .val (.ref b5), .val (.ref b6), .val (.ref b7), .val (.ref b8), .val (.ref b149), .unset, .unset, .unset, .unset, .unset, .unset, .unset, .unset, .unset, .unset, .unset, .unset] [(.ref b6), (.ref b154), (.ref b154)])) _
    refine st159.trans ?_
    show Steps p.tables e below (T159.setTop (mkF m 109 #[.val (.int p0), .val (.int p1), .val (.int p2), .val (.int p3), .val (.ref b4), .val (.ref b5), .val (.ref b6), .val (.ref b7), .val (.ref b8), .val (.ref b149), .unset, .unset, .unset, .unset, .unset, .unset, .unset, .unset, .unset, .unset, .unset, .unset] [(.ref b154)])) _
    refine XS.astore X159.here hx rfl (hb hby at_109) rfl rfl (l' := #[.val (.int p0), .val (.int p1), .val (.int p2), .val (.int p3), .val (.ref b4), .val (.ref b5), .val (.ref b6), .val (.ref b7), .val (.ref b8), .val (.ref b149), .val (.ref b154), .unset, .unset, .unset, .unset, .unset, .unset, .unset, .unset, .unset, .unset, .unset]) rfl ?_
    exact hk
  have Z162 : n0 ≤ h153.size := Nat.le_trans Z150 E153.1
  have K163 : Keep h0 h153 [] := K151.ext E153
  have C164 := (C152.trans (CHr.ext E153 C152.1))
  obtain ⟨T165, h165, lc165, vm165, k1165, v12, X165, e165, E165, N165, hS165, hkk165, hZ165, hown165, CR165, hv12, hk12, st165⟩ : ∃ (T165 : State) (h165 : Heap) (lc165 : List Loc) (vm165 : Vm) (k1165 : Nat) (v12 : Value), Stand p l e room_1 (s.setVm vm165) m args below meth c T165 lc165 13 27 ∧ T165.heap = h165 ∧ Ext h153 h165 ∧ Fr n0 lc165 ∧ s.Since vm165 k1165 ∧ k1165 ≤ h165.size ∧ Z.Warmed39 (s.setVm vm165).vm ∧ (s.setVm vm165).vm.findClass "com/example/sealwright/sealwright/cli/OptionIsFlagPinLaw" = some m.cls ∧ CHr Z EL s.vm h153 vm165 h165 ∧ (v12.isRef = true) ∧ ((v12 = .null ∧ (p0 &&& (3 : Int32)) = 0) ∨ (¬ v12 = .null ∧ ¬ (p0 &&& (3 : Int32)) = 0)) ∧ ∀ target, Steps p.tables e below (T165.setTop (mkF m 176 #[.val (.int p0), .val (.int p1), .val (.int p2), .val (.int p3), .val (.ref b4), .val (.ref b5), .val (.ref b6), .val (.ref b7), .val (.ref b8), .val (.ref b149), .val (.ref s10), .val (.int (p0 &&& (3 : Int32))), .val v12, .unset, .unset, .unset, .unset, .unset, .unset, .unset, .unset, .unset] [])) target → Steps p.tables e below (T153.setTop (mkF m 116 #[.val (.int p0), .val (.int p1), .val (.int p2), .val (.int p3), .val (.ref b4), .val (.ref b5), .val (.ref b6), .val (.ref b7), .val (.ref b8), .val (.ref b149), .val (.ref s10), .val (.int (p0 &&& (3 : Int32))), .unset, .unset, .unset, .unset, .unset, .unset, .unset, .unset, .unset, .unset] [])) target := by
    have C166 := CHr.refl C164.1
    by_cases q1 : (p0 &&& (3 : Int32)) = (1 : Int32)
    · skip
      obtain ⟨T167, h167, X167, e167, E167, A167, D167, -, st167⟩ := newO X153 hx hZ hown (hw _ (List.mem_of_getElem? (i := 1) rfl)) (hw _ (List.mem_of_getElem? (i := 2) rfl)) (hw _ (List.mem_of_getElem? (i := 3) rfl)) e153 (g := (mkF m 125 #[.val (.int p0), .val (.int p1), .val (.int p2), .val (.int p3), .val (.ref b4), .val (.ref b5), .val (.ref b6), .val (.ref b7), .val (.ref b8), .val (.ref b149), .val (.ref s10), .val (.int (p0 &&& (3 : Int32))), .val .null, .unset, .unset, .unset, .unset, .unset, .unset, .unset, .unset, .unset] [])) rfl (hb hby at_125) (by decide) (by decide)
      obtain ⟨b167, g167⟩ : ∃ z, z = h153.size := ⟨_, rfl⟩
      rw [← g167] at A167 D167 st167
      have ge_b167 : n0 ≤ b167 := Nat.le_trans Z162 (Nat.le_of_eq g167.symm)
      have sz_b167 : h153.size ≤ b167 := Nat.le_trans (Keep.refl h153 []).1 (Nat.le_of_eq g167.symm)
      have Z168 : n0 ≤ h167.size := Nat.le_trans Z162 E167.1
      have K169 : Keep h153 h167 [] := (Keep.refl h153 []).ext E167
      have C170 := (C166.trans (CHr.ext E167 C166.1))
      have f171 := ((V149.ext E153).ext E167)
      obtain ⟨v172, vmx172, ⟨T172, L172, k172, n172⟩, -, Xq172, hSq172, hgr172, ⟨Lc172, hQ172, l172, y172, z172, CR172⟩, st172⟩ := X167.specialBackS hx (y := (⟨"java/lang/String", "<init>", "([C)V"⟩ : MethodName)) rfl hown (mvT hZ (hw _ (List.mem_of_getElem? (i := 4) rfl))) (mvT hZ (hw _ (List.mem_of_getElem? (i := 5) rfl))) (mvT hZ (hw _ (List.mem_of_getElem? (i := 6) rfl))) (by decide) (backOfSH (s := s) (vm0 := s.vm) (W := 1) (rmE1 l Z a0 hw [] b167 b149 k149 h167 n0 Z168 A167 (D167 (Or.inr (hw _ (List.mem_of_getElem? (i := 29) rfl))) (ty := (.array .byte)) (by decide)) (D167 (Or.inr (hw _ (List.mem_of_getElem? (i := 27) rfl))) (ty := .byte) (by decide)) ge_b167 f171) hZ (hw _ (List.mem_of_getElem? (i := 6) rfl)) (hw _ (List.mem_of_getElem? (i := 3) rfl)) (by decide) (by decide) hEL C170.1) (g := (mkF m 131 #[.val (.int p0), .val (.int p1), .val (.int p2), .val (.int p3), .val (.ref b4), .val (.ref b5), .val (.ref b6), .val (.ref b7), .val (.ref b8), .val (.ref b149), .val (.ref s10), .val (.int (p0 &&& (3 : Int32))), .val .null, .unset, .unset, .unset, .unset, .unset, .unset, .unset, .unset, .unset] [(.ref b149), (.ref b167), (.ref b167)])) rfl (by rw [hml]; rfl) (Steps.refl _) (a := b167) (argsL := [(.ref b149)]) (rest := [(.ref b167)]) (lenOf own_pd3 rfl) rfl (by show 2 * 0 + _ ≤ _; exact Nat.le_of_eq rfl) (hb hby at_131) (fun _ _ => ⟨rfl, e167, (by decide : 9 + 4 ≤ _), (by decide : 19 + 8 ≤ _)⟩)
      dsimp only [Pt.U, Pt.locs, Pt.cells, Pt.slots] at Xq172 hSq172 hgr172 l172 y172 z172 st172 hQ172 CR172
      subst l172 y172 z172
      obtain ⟨X172, hS172, hZ172, hown172⟩ := rebS (s := s) (vm0 := s.vm) hS0 (by rw [e167]; exact (Nat.zero_le _)) Xq172 hSq172 hgr172 hZ hown
      obtain ⟨rfl, Nq172, K172, S172⟩ := hQ172
      have N172 := Fr.app N153 Nq172
      have Z173 : n0 ≤ T172.heap.size := Nat.le_trans Z168 K172.1
      have K174 : Keep h153 T172.heap [] := K169.trans K172 (allS (Or.inr sz_b167) all0)
      have C175 := (C170.trans CR172)
      refine ⟨T172, _, _, T172.vm, _, (.ref b167), own_up X172 (by decide) (by decide), rfl, own_ext K174, N172, hS172, (Nat.le_refl _), hZ172, hown172, C175, rfl, Or.inr ⟨nofun, by rw [q1]; decide⟩, fun target hk => ?_⟩
      show Steps p.tables e below (T153.setTop (mkF m 116 #[.val (.int p0), .val (.int p1), .val (.int p2), .val (.int p3), .val (.ref b4), .val (.ref b5), .val (.ref b6), .val (.ref b7), .val (.ref b8), .val (.ref b149), .val (.ref s10), .val (.int (p0 &&& (3 : Int32))), .unset, .unset, .unset, .unset, .unset, .unset, .unset, .unset, .unset, .unset] [])) _
      refine XS.aconstNull X153.here hx rfl (hb hby at_116) ?_
      show Steps p.tables e below (T153.setTop (mkF m 117 #[.val (.int p0), .val (.int p1), .val (.int p2), .val (.int p3), .val (.ref b4), .val (.ref b5), .val (.ref b6), .val (.ref b7), .val (.ref b8), .val (.ref b149), .val (.ref s10), .val (.int (p0 &&& (3 : Int32))), .unset, .unset, .unset, .unset, .unset, .unset, .unset, .unset, .unset, .unset] [.null])) _
      refine XS.astore X153.here hx rfl (hb hby at_117) rfl rfl (l' := #[.val (.int p0), .val (.int p1), .val (.int p2), .val (.int p3), .val (.ref b4), .val (.ref b5), .val (.ref b6), .val (.ref b7), .val (.ref b8), .val (.ref b149), .val (.ref s10), .val (.int (p0 &&& (3 : Int32))), .val .null, .unset, .unset, .unset, .unset, .unset, .unset, .unset, .unset, .unset]) rfl ?_
      show Steps p.tables e below (T153.setTop (mkF m 119 #[.val (.int p0), .val (.int p1), .val (.int p2), .val (.int p3), .val (.ref b4), .val (.ref b5), .val (.ref b6), .val (.ref b7), .val (.ref b8), .val (.ref b149), .val (.ref s10), .val (.int (p0 &&& (3 : Int32))), .val .null, .unset, .unset, .unset, .unset, .unset, .unset, .unset, .unset, .unset] [])) _
      refine XS.iload X153.here hx rfl (hb hby at_119) rfl ?_
      show Steps p.tables e below (T153.setTop (mkF m 121 #[.val (.int p0), .val (.int p1), .val (.int p2), .val (.int p3), .val (.ref b4), .val (.ref b5), .val (.ref b6), .val (.ref b7), .val (.ref b8), .val (.ref b149), .val (.ref s10), .val (.int (p0 &&& (3 : Int32))), .val .null, .unset, .unset, .unset, .unset, .unset, .unset, .unset, .unset, .unset] [(.int (p0 &&& (3 : Int32)))])) _
      refine XS.iconst X153.here hx rfl (hb hby at_121) ?_
      show Steps p.tables e below (T153.setTop (mkF m 122 #[.val (.int p0), .val (.int p1), .val (.int p2), .val (.int p3), .val (.ref b4), .val (.ref b5), .val (.ref b6), .val (.ref b7), .val (.ref b8), .val (.ref b149), .val (.ref s10), .val (.int (p0 &&& (3 : Int32))), .val .null, .unset, .unset, .unset, .unset, .unset, .unset, .unset, .unset, .unset] [(.int (1 : Int32)), (.int (p0 &&& (3 : Int32)))])) _
      refine XS.icmpNo X153.here hx rfl (hb hby at_122) rfl (teq q1).2 ?_
      show Steps p.tables e below (T153.setTop (mkF m 125 #[.val (.int p0), .val (.int p1), .val (.int p2), .val (.int p3), .val (.ref b4), .val (.ref b5), .val (.ref b6), .val (.ref b7), .val (.ref b8), .val (.ref b149), .val (.ref s10), .val (.int (p0 &&& (3 : Int32))), .val .null, .unset, .unset, .unset, .unset, .unset, .unset, .unset, .unset, .unset] [])) _
      refine st167 _ ?_
      show Steps p.tables e below (T167.setTop (mkF m 128 #[.val (.int p0), .val (.int p1), .val (.int p2), .val (.int p3), .val (.ref b4), .val (.ref b5), .val (.ref b6), .val (.ref b7), .val (.ref b8), .val (.ref b149), .val (.ref s10), .val (.int (p0 &&& (3 : Int32))), .val .null, .unset, .unset, .unset, .unset, .unset, .unset, .unset, .unset, .unset] [(.ref b167)])) _
      refine XS.dup X167.here hx rfl (hb hby at_128) rfl rfl ?_
      show Steps p.tables e below (T167.setTop (mkF m 129 #[.val (.int p0), .val (.int p1), .val (.int p2), .val (.int p3), .val (.ref b4), .val (.ref b5), .val (.ref b6), .val (.ref b7), .val (.ref b8), .val (.ref b149), .val (.ref s10), .val (.int (p0 &&& (3 : Int32))), .val .null, .unset, .unset, .unset, .unset, .unset, .unset, .unset, .unset, .unset] [(.ref b167), (.ref b167)])) _
      refine XS.aload X167.here hx rfl (hb hby at_129) rfl rfl ?_
      show Steps p.tables e below (T167.setTop (mkF m 131 #[.val (.int p0), .val (.int p1), .val (.int p2), .val (.int p3), .val (.ref b4), .val (.ref b5), .val (.ref b6), .val (.ref b7), .val (.ref b8), .val (.ref b149), .val (.ref s10), .val (.int (p0 &&& (3 : Int32))), .val .null, .unset, .unset, .unset, .unset, .unset, .unset, .unset, .unset, .unset] [(.ref b149), (.ref b167), (.ref b167)])) _
      refine st172.trans ?_
      show Steps p.tables e below (T172.setTop (mkF m 134 #[.val (.int p0), .val (.int p1), .val (.int p2), .val (.int p3), .val (.ref b4), .val (.ref b5), .val (.ref b6), .val (.ref b7), .val (.ref b8), .val (.ref b149), .val (.ref s10), .val (.int (p0 &&& (3 : Int32))), .val .null, .unset, .unset, .unset, .unset, .unset, .unset, .unset, .unset, .unset] [(.ref b167)])) _
      refine XS.astore X172.here hx rfl (hb hby at_134) rfl rfl (l' := #[.val (.int p0), .val (.int p1), .val (.int p2), .val (.int p3), .val (.ref b4), .val (.ref b5), .val (.ref b6), .val (.ref b7), .val (.ref b8), .val (.ref b149), .val (.ref s10), .val (.int (p0 &&& (3 : Int32))), .val (.ref b167), .unset, .unset, .unset, .unset, .unset, .unset, .unset, .unset, .unset]) rfl ?_
      show Steps p.tables e below (T172.setTop (mkF m 136 #[.val (.int p0), .val (.int p1), .val (.int p2), .val (.int p3), .val (.ref b4), .val (.ref b5), .val (.ref b6), .val (.ref b7), .val (.ref b8), .val (.ref b149), .val (.ref s10), .val (.int (p0 &&& (3 : Int32))), .val (.ref b167), .unset, .unset, .unset, .unset, .unset, .unset, .unset, .unset, .unset] [])) _
      refine XS.goto X172.here hx rfl (pc0 := 136) (pc' := 176) rfl (hb hby at_136) (by decide) (by decide) ?_
      exact hk
    · skip
      by_cases q2 : (p0 &&& (3 : Int32)) = (2 : Int32)
      · skip
        obtain ⟨T176, h176, X176, e176, E176, A176, D176, -, st176⟩ := newO X153 hx hZ hown (hw _ (List.mem_of_getElem? (i := 1) rfl)) (hw _ (List.mem_of_getElem? (i := 2) rfl)) (hw _ (List.mem_of_getElem? (i := 3) rfl)) e153 (g := (mkF m 145 #[.val (.int p0), .val (.int p1), .val (.int p2), .val (.int p3), .val (.ref b4), .val (.ref b5), .val (.ref b6), .val (.ref b7), .val (.ref b8), .val (.ref b149), .val (.ref s10), .val (.int (p0 &&& (3 : Int32))), .val .null, .unset, .unset, .unset, .unset, .unset, .unset, .unset, .unset, .unset] [])) rfl (hb hby at_145) (by decide) (by decide)
        obtain ⟨b176, g176⟩ : ∃ z, z = h153.size := ⟨_, rfl⟩
        rw [← g176] at A176 D176 st176
        have ge_b176 : n0 ≤ b176 := Nat.le_trans Z162 (Nat.le_of_eq g176.symm)
        have sz_b176 : h153.size ≤ b176 := Nat.le_trans (Keep.refl h153 []).1 (Nat.le_of_eq g176.symm)
        have Z177 : n0 ≤ h176.size := Nat.le_trans Z162 E176.1
        have K178 : Keep h153 h176 [] := (Keep.refl h153 []).ext E176
        have C179 := (C166.trans (CHr.ext E176 C166.1))
        have f180 := (((((((V_b4.ext E100).ext E113).ext E129).ext E139).ext E149).ext E153).ext E176)
        have f181 := ((((((((X00.ext E90).ext E100).ext E113).ext E129).ext E139).ext E149).ext E153).ext E176)
        obtain ⟨v182, vmx182, ⟨T182, L182, k182, n182⟩, -, X182, ⟨Lc182, hQ182, l182, y182, z182⟩, st182⟩ := X176.specialBack hx (y := (⟨"java/lang/String", "<init>", "([C)V"⟩ : MethodName)) rfl hown (mvT hZ (hw _ (List.mem_of_getElem? (i := 4) rfl))) (mvT hZ (hw _ (List.mem_of_getElem? (i := 5) rfl))) (mvT hZ (hw _ (List.mem_of_getElem? (i := 6) rfl))) (by decide) (StrChars.Road.backV (W := 1) hZ hws (kI := 4) (hw _ (List.mem_of_getElem? (i := 2) rfl)) (cs := ([nar .char ((p1 &&& (255 : Int32)).toUInt32.toUInt16.toUInt32.toInt32)] : List Int32)) (bs := (([nar .char ((p1 &&& (255 : Int32)).toUInt32.toUInt16.toUInt32.toInt32)] : List Int32)).map (fun c => c.toInt8.toInt32)) (n := 1) ge_b176 Z177 A176 (D176 (Or.inr (hw _ (List.mem_of_getElem? (i := 29) rfl))) (ty := (.array .byte)) (by decide)) (D176 (Or.inr (hw _ (List.mem_of_getElem? (i := 27) rfl))) (ty := .byte) (by decide)) f180 (O2.ext f181.2) P5 rfl rfl (by decide) (by decide) hp_b4 rfl (by decide) (by decide)) (g := (mkF m 151 #[.val (.int p0), .val (.int p1), .val (.int p2), .val (.int p3), .val (.ref b4), .val (.ref b5), .val (.ref b6), .val (.ref b7), .val (.ref b8), .val (.ref b149), .val (.ref s10), .val (.int (p0 &&& (3 : Int32))), .val .null, .unset, .unset, .unset, .unset, .unset, .unset, .unset, .unset, .unset] [(.ref b4), (.ref b176), (.ref b176)])) rfl (by rw [hml]; rfl) (Steps.refl _) (a := b176) (argsL := [(.ref b4)]) (rest := [(.ref b176)]) (lenOf own_pd3 rfl) rfl (by show 2 * 0 + _ ≤ _; exact Nat.le_of_eq rfl) (hb hby at_151) (fun _ _ => ⟨rfl, e176, (by decide : 9 + 1 ≤ _), (by decide : 19 + 1 ≤ _)⟩)
        dsimp only [Pt.U, Pt.locs, Pt.cells, Pt.slots] at X182 l182 y182 z182 st182 hQ182
        subst l182 y182 z182
        obtain ⟨rfl, Nq182, K182, fe182, fc182, t182, kb182, u1182, u2182, u3182, fv182, fa182⟩ := hQ182
        have N182 := Fr.app N153 Nq182
        have Z183 : n0 ≤ T182.heap.size := Nat.le_trans Z177 K182.1
        have K184 : Keep h153 T182.heap [] := K178.trans K182 (allS (Or.inr sz_b176) all0)
        have C185 := (C179.trans (CHr.keep K182 (allS (Safe.ext E176 C166.1 (Safe.new (Nat.le_of_eq g176.symm))) all0) C179.1))
        refine ⟨T182, _, _, s.vm, _, (.ref b176), own_up X182 (by decide) (by decide), rfl, own_ext K184, N182, hS0, (Nat.zero_le _), hZ, hown, C185, rfl, Or.inr ⟨nofun, by rw [q2]; decide⟩, fun target hk => ?_⟩
        show Steps p.tables e below (T153.setTop (mkF m 116 #[.val (.int p0), .val (.int p1), .val (.int p2), .val (.int p3), .val (.ref b4), .val (.ref b5), .val (.ref b6), .val (.ref b7), .val (.ref b8), .val (.ref b149), .val (.ref s10), .val (.int (p0 &&& (3 : Int32))), .unset, .unset, .unset, .unset, .unset, .unset, .unset, .unset, .unset, .unset] [])) _
        refine XS.aconstNull X153.here hx rfl (hb hby at_116) ?_
        show Steps p.tables e below (T153.setTop (mkF m 117 #[.val (.int p0), .val (.int p1), .val (.int p2), .val (.int p3), .val (.ref b4), .val (.ref b5), .val (.ref b6), .val (.ref b7), .val (.ref b8), .val (.ref b149), .val (.ref s10), .val (.int (p0 &&& (3 : Int32))), .unset, .unset, .unset, .unset, .unset, .unset, .unset, .unset, .unset, .unset] [.null])) _
        refine XS.astore X153.here hx rfl (hb hby at_117) rfl rfl (l' := #[.val (.int p0), .val (.int p1), .val (.int p2), .val (.int p3), .val (.ref b4), .val (.ref b5), .val (.ref b6), .val (.ref b7), .val (.ref b8), .val (.ref b149), .val (.ref s10), .val (.int (p0 &&& (3 : Int32))), .val .null, .unset, .unset, .unset, .unset, .unset, .unset, .unset, .unset, .unset]) rfl ?_
        show Steps p.tables e below (T153.setTop (mkF m 119 #[.val (.int p0), .val (.int p1), .val (.int p2), .val (.int p3), .val (.ref b4), .val (.ref b5), .val (.ref b6), .val (.ref b7), .val (.ref b8), .val (.ref b149), .val (.ref s10), .val (.int (p0 &&& (3 : Int32))), .val .null, .unset, .unset, .unset, .unset, .unset, .unset, .unset, .unset, .unset] [])) _
        refine XS.iload X153.here hx rfl (hb hby at_119) rfl ?_
        show Steps p.tables e below (T153.setTop (mkF m 121 #[.val (.int p0), .val (.int p1), .val (.int p2), .val (.int p3), .val (.ref b4), .val (.ref b5), .val (.ref b6), .val (.ref b7), .val (.ref b8), .val (.ref b149), .val (.ref s10), .val (.int (p0 &&& (3 : Int32))), .val .null, .unset, .unset, .unset, .unset, .unset, .unset, .unset, .unset, .unset] [(.int (p0 &&& (3 : Int32)))])) _
        refine XS.iconst X153.here hx rfl (hb hby at_121) ?_
        show Steps p.tables e below (T153.setTop (mkF m 122 #[.val (.int p0), .val (.int p1), .val (.int p2), .val (.int p3), .val (.ref b4), .val (.ref b5), .val (.ref b6), .val (.ref b7), .val (.ref b8), .val (.ref b149), .val (.ref s10), .val (.int (p0 &&& (3 : Int32))), .val .null, .unset, .unset, .unset, .unset, .unset, .unset, .unset, .unset, .unset] [(.int (1 : Int32)), (.int (p0 &&& (3 : Int32)))])) _
        refine XS.icmpYes X153.here hx rfl (pc0 := 122) (pc' := 139) rfl (hb hby at_122) rfl (feq q1).2 (by decide) (by decide) ?_
        show Steps p.tables e below (T153.setTop (mkF m 139 #[.val (.int p0), .val (.int p1), .val (.int p2), .val (.int p3), .val (.ref b4), .val (.ref b5), .val (.ref b6), .val (.ref b7), .val (.ref b8), .val (.ref b149), .val (.ref s10), .val (.int (p0 &&& (3 : Int32))), .val .null, .unset, .unset, .unset, .unset, .unset, .unset, .unset, .unset, .unset] [])) _
        refine XS.iload X153.here hx rfl (hb hby at_139) rfl ?_
        show Steps p.tables e below (T153.setTop (mkF m 141 #[.val (.int p0), .val (.int p1), .val (.int p2), .val (.int p3), .val (.ref b4), .val (.ref b5), .val (.ref b6), .val (.ref b7), .val (.ref b8), .val (.ref b149), .val (.ref s10), .val (.int (p0 &&& (3 : Int32))), .val .null, .unset, .unset, .unset, .unset, .unset, .unset, .unset, .unset, .unset] [(.int (p0 &&& (3 : Int32)))])) _
        refine XS.iconst X153.here hx rfl (hb hby at_141) ?_
        show Steps p.tables e below (T153.setTop (mkF m 142 #[.val (.int p0), .val (.int p1), .val (.int p2), .val (.int p3), .val (.ref b4), .val (.ref b5), .val (.ref b6), .val (.ref b7), .val (.ref b8), .val (.ref b149), .val (.ref s10), .val (.int (p0 &&& (3 : Int32))), .val .null, .unset, .unset, .unset, .unset, .unset, .unset, .unset, .unset, .unset] [(.int (2 : Int32)), (.int (p0 &&& (3 : Int32)))])) _
        refine XS.icmpNo X153.here hx rfl (hb hby at_142) rfl (teq q2).2 ?_
        show Steps p.tables e below (T153.setTop (mkF m 145 #[.val (.int p0), .val (.int p1), .val (.int p2), .val (.int p3), .val (.ref b4), .val (.ref b5), .val (.ref b6), .val (.ref b7), .val (.ref b8), .val (.ref b149), .val (.ref s10), .val (.int (p0 &&& (3 : Int32))), .val .null, .unset, .unset, .unset, .unset, .unset, .unset, .unset, .unset, .unset] [])) _
        refine st176 _ ?_
        show Steps p.tables e below (T176.setTop (mkF m 148 #[.val (.int p0), .val (.int p1), .val (.int p2), .val (.int p3), .val (.ref b4), .val (.ref b5), .val (.ref b6), .val (.ref b7), .val (.ref b8), .val (.ref b149), .val (.ref s10), .val (.int (p0 &&& (3 : Int32))), .val .null, .unset, .unset, .unset, .unset, .unset, .unset, .unset, .unset, .unset] [(.ref b176)])) _
        refine XS.dup X176.here hx rfl (hb hby at_148) rfl rfl ?_
        show Steps p.tables e below (T176.setTop (mkF m 149 #[.val (.int p0), .val (.int p1), .val (.int p2), .val (.int p3), .val (.ref b4), .val (.ref b5), .val (.ref b6), .val (.ref b7), .val (.ref b8), .val (.ref b149), .val (.ref s10), .val (.int (p0 &&& (3 : Int32))), .val .null, .unset, .unset, .unset, .unset, .unset, .unset, .unset, .unset, .unset] [(.ref b176), (.ref b176)])) _
        refine XS.aload X176.here hx rfl (hb hby at_149) rfl rfl ?_
        show Steps p.tables e below (T176.setTop (mkF m 151 #[.val (.int p0), .val (.int p1), .val (.int p2), .val (.int p3), .val (.ref b4), .val (.ref b5), .val (.ref b6), .val (.ref b7), .val (.ref b8), .val (.ref b149), .val (.ref s10), .val (.int (p0 &&& (3 : Int32))), .val .null, .unset, .unset, .unset, .unset, .unset, .unset, .unset, .unset, .unset] [(.ref b4), (.ref b176), (.ref b176)])) _
        refine st182.trans ?_
        show Steps p.tables e below (T182.setTop (mkF m 154 #[.val (.int p0), .val (.int p1), .val (.int p2), .val (.int p3), .val (.ref b4), .val (.ref b5), .val (.ref b6), .val (.ref b7), .val (.ref b8), .val (.ref b149), .val (.ref s10), .val (.int (p0 &&& (3 : Int32))), .val .null, .unset, .unset, .unset, .unset, .unset, .unset, .unset, .unset, .unset] [(.ref b176)])) _
        refine XS.astore X182.here hx rfl (hb hby at_154) rfl rfl (l' := #[.val (.int p0), .val (.int p1), .val (.int p2), .val (.int p3), .val (.ref b4), .val (.ref b5), .val (.ref b6), .val (.ref b7), .val (.ref b8), .val (.ref b149), .val (.ref s10), .val (.int (p0 &&& (3 : Int32))), .val (.ref b176), .unset, .unset, .unset, .unset, .unset, .unset, .unset, .unset, .unset]) rfl ?_
        show Steps p.tables e below (T182.setTop (mkF m 156 #[.val (.int p0), .val (.int p1), .val (.int p2), .val (.int p3), .val (.ref b4), .val (.ref b5), .val (.ref b6), .val (.ref b7), .val (.ref b8), .val (.ref b149), .val (.ref s10), .val (.int (p0 &&& (3 : Int32))), .val (.ref b176), .unset, .unset, .unset, .unset, .unset, .unset, .unset, .unset, .unset] [])) _
        refine XS.goto X182.here hx rfl (pc0 := 156) (pc' := 176) rfl (hb hby at_156) (by decide) (by decide) ?_
        exact hk
      · skip
        by_cases q3 : (p0 &&& (3 : Int32)) = (3 : Int32)
        · skip
          obtain ⟨T186, h186, X186, e186, E186, A186, D186, -, st186⟩ := newO X153 hx hZ hown (hw _ (List.mem_of_getElem? (i := 1) rfl)) (hw _ (List.mem_of_getElem? (i := 2) rfl)) (hw _ (List.mem_of_getElem? (i := 3) rfl)) e153 (g := (mkF m 165 #[.val (.int p0), .val (.int p1), .val (.int p2), .val (.int p3), .val (.ref b4), .val (.ref b5), .val (.ref b6), .val (.ref b7), .val (.ref b8), .val (.ref b149), .val (.ref s10), .val (.int (p0 &&& (3 : Int32))), .val .null, .unset, .unset, .unset, .unset, .unset, .unset, .unset, .unset, .unset] [])) rfl (hb hby at_165) (by decide) (by decide)
          obtain ⟨b186, g186⟩ : ∃ z, z = h153.size := ⟨_, rfl⟩
          rw [← g186] at A186 D186 st186
          have ge_b186 : n0 ≤ b186 := Nat.le_trans Z162 (Nat.le_of_eq g186.symm)
          have sz_b186 : h153.size ≤ b186 := Nat.le_trans (Keep.refl h153 []).1 (Nat.le_of_eq g186.symm)
          have Z187 : n0 ≤ h186.size := Nat.le_trans Z162 E186.1
          have K188 : Keep h153 h186 [] := (Keep.refl h153 []).ext E186
          have C189 := (C166.trans (CHr.ext E186 C166.1))
          have f190 := ((((((V_b5.ext E113).ext E129).ext E139).ext E149).ext E153).ext E186)
          have f191 := ((((((((X00.ext E90).ext E100).ext E113).ext E129).ext E139).ext E149).ext E153).ext E186)
          obtain ⟨v192, vmx192, ⟨T192, L192, k192, n192⟩, -, X192, ⟨Lc192, hQ192, l192, y192, z192⟩, st192⟩ := X186.specialBack hx (y := (⟨"java/lang/String", "<init>", "([C)V"⟩ : MethodName)) rfl hown (mvT hZ (hw _ (List.mem_of_getElem? (i := 4) rfl))) (mvT hZ (hw _ (List.mem_of_getElem? (i := 5) rfl))) (mvT hZ (hw _ (List.mem_of_getElem? (i := 6) rfl))) (by decide) (StrChars.Road.backV (W := 1) hZ hws (kI := 4) (hw _ (List.mem_of_getElem? (i := 2) rfl)) (cs := ([nar .char ((p1 &&& (255 : Int32)).toUInt32.toUInt16.toUInt32.toInt32), nar .char ((((p1.toUInt32 >>> ((8 : Int32) &&& 31).toUInt32).toInt32) &&& (255 : Int32)).toUInt32.toUInt16.toUInt32.toInt32)] : List Int32)) (bs := (([nar .char ((p1 &&& (255 : Int32)).toUInt32.toUInt16.toUInt32.toInt32), nar .char ((((p1.toUInt32 >>> ((8 : Int32) &&& 31).toUInt32).toInt32) &&& (255 : Int32)).toUInt32.toUInt16.toUInt32.toInt32)] : List Int32)).map (fun c => c.toInt8.toInt32)) (n := 2) ge_b186 Z187 A186 (D186 (Or.inr (hw _ (List.mem_of_getElem? (i := 29) rfl))) (ty := (.array .byte)) (by decide)) (D186 (Or.inr (hw _ (List.mem_of_getElem? (i := 27) rfl))) (ty := .byte) (by decide)) f190 (O2.ext f191.2) P5 rfl rfl (by decide) (by decide) hp_b5 rfl (by decide) (by decide)) (g := (mkF m 171 #[.val (.int p0), .val (.int p1), .val (.int p2), .val (.int p3), .val (.ref b4), .val (.ref b5), .val (.ref b6), .val (.ref b7), .val (.ref b8), .val (.ref b149), .val (.ref s10), .val (.int (p0 &&& (3 : Int32))), .val .null, .unset, .unset, .unset, .unset, .unset, .unset, .unset, .unset, .unset] [(.ref b5), (.ref b186), (.ref b186)])) rfl (by rw [hml]; rfl) (Steps.refl _) (a := b186) (argsL := [(.ref b5)]) (rest := [(.ref b186)]) (lenOf own_pd3 rfl) rfl (by show 2 * 0 + _ ≤ _; exact Nat.le_of_eq rfl) (hb hby at_171) (fun _ _ => ⟨rfl, e186, (by decide : 9 + 1 ≤ _), (by decide : 19 + 2 ≤ _)⟩)
          dsimp only [Pt.U, Pt.locs, Pt.cells, Pt.slots] at X192 l192 y192 z192 st192 hQ192
          subst l192 y192 z192
          obtain ⟨rfl, Nq192, K192, fe192, fc192, t192, kb192, u1192, u2192, u3192, fv192, fa192⟩ := hQ192
          have N192 := Fr.app N153 Nq192
          have Z193 : n0 ≤ T192.heap.size := Nat.le_trans Z187 K192.1
          have K194 : Keep h153 T192.heap [] := K188.trans K192 (allS (Or.inr sz_b186) all0)
          have C195 := (C189.trans (CHr.keep K192 (allS (Safe.ext E186 C166.1 (Safe.new (Nat.le_of_eq g186.symm))) all0) C189.1))
          refine ⟨T192, _, _, s.vm, _, (.ref b186), own_up X192 (by decide) (by decide), rfl, own_ext K194, N192, hS0, (Nat.zero_le _), hZ, hown, C195, rfl, Or.inr ⟨nofun, by rw [q3]; decide⟩, fun target hk => ?_⟩
          show Steps p.tables e below (T153.setTop (mkF m 116 #[.val (.int p0), .val (.int p1), .val (.int p2), .val (.int p3), .val (.ref b4), .val (.ref b5), .val (.ref b6), .val (.ref b7), .val (.ref b8), .val (.ref b149), .val (.ref s10), .val (.int (p0 &&& (3 : Int32))), .unset, .unset, .unset, .unset, .unset, .unset, .unset, .unset, .unset, .unset] [])) _
          refine XS.aconstNull X153.here hx rfl (hb hby at_116) ?_
          show Steps p.tables e below (T153.setTop (mkF m 117 #[.val (.int p0), .val (.int p1), .val (.int p2), .val (.int p3), .val (.ref b4), .val (.ref b5), .val (.ref b6), .val (.ref b7), .val (.ref b8), .val (.ref b149), .val (.ref s10), .val (.int (p0 &&& (3 : Int32))), .unset, .unset, .unset, .unset, .unset, .unset, .unset, .unset, .unset, .unset] [.null])) _
          refine XS.astore X153.here hx rfl (hb hby at_117) rfl rfl (l' := #[.val (.int p0), .val (.int p1), .val (.int p2), .val (.int p3), .val (.ref b4), .val (.ref b5), .val (.ref b6), .val (.ref b7), .val (.ref b8), .val (.ref b149), .val (.ref s10), .val (.int (p0 &&& (3 : Int32))), .val .null, .unset, .unset, .unset, .unset, .unset, .unset, .unset, .unset, .unset]) rfl ?_
          show Steps p.tables e below (T153.setTop (mkF m 119 #[.val (.int p0), .val (.int p1), .val (.int p2), .val (.int p3), .val (.ref b4), .val (.ref b5), .val (.ref b6), .val (.ref b7), .val (.ref b8), .val (.ref b149), .val (.ref s10), .val (.int (p0 &&& (3 : Int32))), .val .null, .unset, .unset, .unset, .unset, .unset, .unset, .unset, .unset, .unset] [])) _
          refine XS.iload X153.here hx rfl (hb hby at_119) rfl ?_
          show Steps p.tables e below (T153.setTop (mkF m 121 #[.val (.int p0), .val (.int p1), .val (.int p2), .val (.int p3), .val (.ref b4), .val (.ref b5), .val (.ref b6), .val (.ref b7), .val (.ref b8), .val (.ref b149), .val (.ref s10), .val (.int (p0 &&& (3 : Int32))), .val .null, .unset, .unset, .unset, .unset, .unset, .unset, .unset, .unset, .unset] [(.int (p0 &&& (3 : Int32)))])) _
          refine XS.iconst X153.here hx rfl (hb hby at_121) ?_
          show Steps p.tables e below (T153.setTop (mkF m 122 #[.val (.int p0), .val (.int p1), .val (.int p2), .val (.int p3), .val (.ref b4), .val (.ref b5), .val (.ref b6), .val (.ref b7), .val (.ref b8), .val (.ref b149), .val (.ref s10), .val (.int (p0 &&& (3 : Int32))), .val .null, .unset, .unset, .unset, .unset, .unset, .unset, .unset, .unset, .unset] [(.int (1 : Int32)), (.int (p0 &&& (3 : Int32)))])) _
          refine XS.icmpYes X153.here hx rfl (pc0 := 122) (pc' := 139) rfl (hb hby at_122) rfl (feq q1).2 (by decide) (by decide) ?_
          show Steps p.tables e below (T153.setTop (mkF m 139 #[.val (.int p0), .val (.int p1), .val (.int p2), .val (.int p3), .val (.ref b4), .val (.ref b5), .val (.ref b6), .val (.ref b7), .val (.ref b8), .val (.ref b149), .val (.ref s10), .val (.int (p0 &&& (3 : Int32))), .val .null, .unset, .unset, .unset, .unset, .unset, .unset, .unset, .unset, .unset] [])) _
          refine XS.iload X153.here hx rfl (hb hby at_139) rfl ?_
          show Steps p.tables e below (T153.setTop (mkF m 141 #[.val (.int p0), .val (.int p1), .val (.int p2), .val (.int p3), .val (.ref b4), .val (.ref b5), .val (.ref b6), .val (.ref b7), .val (.ref b8), .val (.ref b149), .val (.ref s10), .val (.int (p0 &&& (3 : Int32))), .val .null, .unset, .unset, .unset, .unset, .unset, .unset, .unset, .unset, .unset] [(.int (p0 &&& (3 : Int32)))])) _
          refine XS.iconst X153.here hx rfl (hb hby at_141) ?_
          show Steps p.tables e below (T153.setTop (mkF m 142 #[.val (.int p0), .val (.int p1), .val (.int p2), .val (.int p3), .val (.ref b4), .val (.ref b5), .val (.ref b6), .val (.ref b7), .val (.ref b8), .val (.ref b149), .val (.ref s10), .val (.int (p0 &&& (3 : Int32))), .val .null, .unset, .unset, .unset, .unset, .unset, .unset, .unset, .unset, .unset] [(.int (2 : Int32)), (.int (p0 &&& (3 : Int32)))])) _
          refine XS.icmpYes X153.here hx rfl (pc0 := 142) (pc' := 159) rfl (hb hby at_142) rfl (feq q2).2 (by decide) (by decide) ?_
          show Steps p.tables e below (T153.setTop (mkF m 159 #[.val (.int p0), .val (.int p1), .val (.int p2), .val (.int p3), .val (.ref b4), .val (.ref b5), .val (.ref b6), .val (.ref b7), .val (.ref b8), .val (.ref b149), .val (.ref s10), .val (.int (p0 &&& (3 : Int32))), .val .null, .unset, .unset, .unset, .unset, .unset, .unset, .unset, .unset, .unset] [])) _
          refine XS.iload X153.here hx rfl (hb hby at_159) rfl ?_
          show Steps p.tables e below (T153.setTop (mkF m 161 #[.val (.int p0), .val (.int p1), .val (.int p2), .val (.int p3), .val (.ref b4), .val (.ref b5), .val (.ref b6), .val (.ref b7), .val (.ref b8), .val (.ref b149), .val (.ref s10), .val (.int (p0 &&& (3 : Int32))), .val .null, .unset, .unset, .unset, .unset, .unset, .unset, .unset, .unset, .unset] [(.int (p0 &&& (3 : Int32)))])) _
          refine XS.iconst X153.here hx rfl (hb hby at_161) ?_
          show Steps p.tables e below (T153.setTop (mkF m 162 #[.val (.int p0), .val (.int p1), .val (.int p2), .val (.int p3), .val (.ref b4), .val (.ref b5), .val (.ref b6), .val (.ref b7), .val (.ref b8), .val (.ref b149), .val (.ref s10), .val (.int (p0 &&& (3 : Int32))), .val .null, .unset, .unset, .unset, .unset, .unset, .unset, .unset, .unset, .unset] [(.int (3 : Int32)), (.int (p0 &&& (3 : Int32)))])) _
          refine XS.icmpNo X153.here hx rfl (hb hby at_162) rfl (teq q3).2 ?_
          show Steps p.tables e below (T153.setTop (mkF m 165 #[.val (.int p0), .val (.int p1), .val (.int p2), .val (.int p3), .val (.ref b4), .val (.ref b5), .val (.ref b6), .val (.ref b7), .val (.ref b8), .val (.ref b149), .val (.ref s10), .val (.int (p0 &&& (3 : Int32))), .val .null, .unset, .unset, .unset, .unset, .unset, .unset, .unset, .unset, .unset] [])) _
          refine st186 _ ?_
          show Steps p.tables e below (T186.setTop (mkF m 168 #[.val (.int p0), .val (.int p1), .val (.int p2), .val (.int p3), .val (.ref b4), .val (.ref b5), .val (.ref b6), .val (.ref b7), .val (.ref b8), .val (.ref b149), .val (.ref s10), .val (.int (p0 &&& (3 : Int32))), .val .null, .unset, .unset, .unset, .unset, .unset, .unset, .unset, .unset, .unset] [(.ref b186)])) _
          refine XS.dup X186.here hx rfl (hb hby at_168) rfl rfl ?_
          show Steps p.tables e below (T186.setTop (mkF m 169 #[.val (.int p0), .val (.int p1), .val (.int p2), .val (.int p3), .val (.ref b4), .val (.ref b5), .val (.ref b6), .val (.ref b7), .val (.ref b8), .val (.ref b149), .val (.ref s10), .val (.int (p0 &&& (3 : Int32))), .val .null, .unset, .unset, .unset, .unset, .unset, .unset, .unset, .unset, .unset] [(.ref b186), (.ref b186)])) _
          refine XS.aload X186.here hx rfl (hb hby at_169) rfl rfl ?_
          show Steps p.tables e below (T186.setTop (mkF m 171 #[.val (.int p0), .val (.int p1), .val (.int p2), .val (.int p3), .val (.ref b4), .val (.ref b5), .val (.ref b6), .val (.ref b7), .val (.ref b8), .val (.ref b149), .val (.ref s10), .val (.int (p0 &&& (3 : Int32))), .val .null, .unset, .unset, .unset, .unset, .unset, .unset, .unset, .unset, .unset] [(.ref b5), (.ref b186), (.ref b186)])) _
          refine st192.trans ?_
          show Steps p.tables e below (T192.setTop (mkF m 174 #[.val (.int p0), .val (.int p1), .val (.int p2), .val (.int p3), .val (.ref b4), .val (.ref b5), .val (.ref b6), .val (.ref b7), .val (.ref b8), .val (.ref b149), .val (.ref s10), .val (.int (p0 &&& (3 : Int32))), .val .null, .unset, .unset, .unset, .unset, .unset, .unset, .unset, .unset, .unset] [(.ref b186)])) _
          refine XS.astore X192.here hx rfl (hb hby at_174) rfl rfl (l' := #[.val (.int p0), .val (.int p1), .val (.int p2), .val (.int p3), .val (.ref b4), .val (.ref b5), .val (.ref b6), .val (.ref b7), .val (.ref b8), .val (.ref b149), .val (.ref s10), .val (.int (p0 &&& (3 : Int32))), .val (.ref b186), .unset, .unset, .unset, .unset, .unset, .unset, .unset, .unset, .unset]) rfl ?_
          exact hk
        · skip
          refine ⟨T153, _, _, s.vm, _, .null, own_up X153 (by decide) (by decide), e153, own_ext (Keep.refl h153 []), N153, hS0, (Nat.zero_le _), hZ, hown, C166, rfl, Or.inl ⟨rfl, own_and3 _ q1 q2 q3⟩, fun target hk => ?_⟩
          show Steps p.tables e below (T153.setTop (mkF m 116 #[.val (.int p0), .val (.int p1), .val (.int p2), .val (.int p3), .val (.ref b4), .val (.ref b5), .val (.ref b6), .val (.ref b7), .val (.ref b8), .val (.ref b149), .val (.ref s10), .val (.int (p0 &&& (3 : Int32))), .unset, .unset, .unset, .unset, .unset, .unset, .unset, .unset, .unset, .unset] [])) _
          refine XS.aconstNull X153.here hx rfl (hb hby at_116) ?_
          show Steps p.tables e below (T153.setTop (mkF m 117 #[.val (.int p0), .val (.int p1), .val (.int p2), .val (.int p3), .val (.ref b4), .val (.ref b5), .val (.ref b6), .val (.ref b7), .val (.ref b8), .val (.ref b149), .val (.ref s10), .val (.int (p0 &&& (3 : Int32))), .unset, .unset, .unset, .unset, .unset, .unset, .unset, .unset, .unset, .unset] [.null])) _
          refine XS.astore X153.here hx rfl (hb hby at_117) rfl rfl (l' := #[.val (.int p0), .val (.int p1), .val (.int p2), .val (.int p3), .val (.ref b4), .val (.ref b5), .val (.ref b6), .val (.ref b7), .val (.ref b8), .val (.ref b149), .val (.ref s10), .val (.int (p0 &&& (3 : Int32))), .val .null, .unset, .unset, .unset, .unset, .unset, .unset, .unset, .unset, .unset]) rfl ?_
          show Steps p.tables e below (T153.setTop (mkF m 119 #[.val (.int p0), .val (.int p1), .val (.int p2), .val (.int p3), .val (.ref b4), .val (.ref b5), .val (.ref b6), .val (.ref b7), .val (.ref b8), .val (.ref b149), .val (.ref s10), .val (.int (p0 &&& (3 : Int32))), .val .null, .unset, .unset, .unset, .unset, .unset, .unset, .unset, .unset, .unset] [])) _
          refine XS.iload X153.here hx rfl (hb hby at_119) rfl ?_
          show Steps p.tables e below (T153.setTop (mkF m 121 #[.val (.int p0), .val (.int p1), .val (.int p2), .val (.int p3), .val (.ref b4), .val (.ref b5), .val (.ref b6), .val (.ref b7), .val (.ref b8), .val (.ref b149), .val (.ref s10), .val (.int (p0 &&& (3 : Int32))), .val .null, .unset, .unset, .unset, .unset, .unset, .unset, .unset, .unset, .unset] [(.int (p0 &&& (3 : Int32)))])) _
          refine XS.iconst X153.here hx rfl (hb hby at_121) ?_
          show Steps p.tables e below (T153.setTop (mkF m 122 #[.val (.int p0), .val (.int p1), .val (.int p2), .val (.int p3), .val (.ref b4), .val (.ref b5), .val (.ref b6), .val (.ref b7), .val (.ref b8), .val (.ref b149), .val (.ref s10), .val (.int (p0 &&& (3 : Int32))), .val .null, .unset, .unset, .unset, .unset, .unset, .unset, .unset, .unset, .unset] [(.int (1 : Int32)), (.int (p0 &&& (3 : Int32)))])) _
          refine XS.icmpYes X153.here hx rfl (pc0 := 122) (pc' := 139) rfl (hb hby at_122) rfl (feq q1).2 (by decide) (by decide) ?_
          show Steps p.tables e below (T153.setTop (mkF m 139 #[.val (.int p0), .val (.int p1), .val (.int p2), .val (.int p3), .val (.ref b4), .val (.ref b5), .val (.ref b6), .val (.ref b7), .val (.ref b8), .val (.ref b149), .val (.ref s10), .val (.int (p0 &&& (3 : Int32))), .val .null, .unset, .unset, .unset, .unset, .unset, .unset, .unset, .unset, .unset] [])) _
          refine XS.iload X153.here hx rfl (hb hby at_139) rfl ?_
          show Steps p.tables e below (T153.setTop (mkF m 141 #[.val (.int p0), .val (.int p1), .val (.int p2), .val (.int p3), .val (.ref b4), .val (.ref b5), .val (.ref b6), .val (.ref b7), .val (.ref b8), .val (.ref b149), .val (.ref s10), .val (.int (p0 &&& (3 : Int32))), .val .null, .unset, .unset, .unset, .unset, .unset, .unset, .unset, .unset, .unset] [(.int (p0 &&& (3 : Int32)))])) _
          refine XS.iconst X153.here hx rfl (hb hby at_141) ?_
          show Steps p.tables e below (T153.setTop (mkF m 142 #[.val (.int p0), .val (.int p1), .val (.int p2), .val (.int p3), .val (.ref b4), .val (.ref b5), .val (.ref b6), .val (.ref b7), .val (.ref b8), .val (.ref b149), .val (.ref s10), .val (.int (p0 &&& (3 : Int32))), .val .null, .unset, .unset, .unset, .unset, .unset, .unset, .unset, .unset, .unset] [(.int (2 : Int32)), (.int (p0 &&& (3 : Int32)))])) _
          refine XS.icmpYes X153.here hx rfl (pc0 := 142) (pc' := 159) rfl (hb hby at_142) rfl (feq q2).2 (by decide) (by decide) ?_
          show Steps p.tables e below (T153.setTop (mkF m 159 #[.val (.int p0), .val (.int p1), .val (.int p2), .val (.int p3), .val (.ref b4), .val (.ref b5), .val (.ref b6), .val (.ref b7), .val (.ref b8), .val (.ref b149), .val (.ref s10), .val (.int (p0 &&& (3 : Int32))), .val .null, .unset, .unset, .unset, .unset, .unset, .unset, .unset, .unset, .unset] [])) _
          refine XS.iload X153.here hx rfl (hb hby at_159) rfl ?_
          show Steps p.tables e below (T153.setTop (mkF m 161 #[.val (.int p0), .val (.int p1), .val (.int p2), .val (.int p3), .val (.ref b4), .val (.ref b5), .val (.ref b6), .val (.ref b7), .val (.ref b8), .val (.ref b149), .val (.ref s10), .val (.int (p0 &&& (3 : Int32))), .val .null, .unset, .unset, .unset, .unset, .unset, .unset, .unset, .unset, .unset] [(.int (p0 &&& (3 : Int32)))])) _
          refine XS.iconst X153.here hx rfl (hb hby at_161) ?_
          show Steps p.tables e below (T153.setTop (mkF m 162 #[.val (.int p0), .val (.int p1), .val (.int p2), .val (.int p3), .val (.ref b4), .val (.ref b5), .val (.ref b6), .val (.ref b7), .val (.ref b8), .val (.ref b149), .val (.ref s10), .val (.int (p0 &&& (3 : Int32))), .val .null, .unset, .unset, .unset, .unset, .unset, .unset, .unset, .unset, .unset] [(.int (3 : Int32)), (.int (p0 &&& (3 : Int32)))])) _
          refine XS.icmpYes X153.here hx rfl (pc0 := 162) (pc' := 176) rfl (hb hby at_162) rfl (feq q3).2 (by decide) (by decide) ?_
          exact hk
  have Z196 : n0 ≤ h165.size := Nat.le_trans Z162 E165.1
  have K197 : Keep h0 h165 [] := K163.ext E165
  have C198 := (C164.trans CR165)
  obtain ⟨c13, nb13, st199⟩ : ∃ (c13 : Int32), (nar .boolean c13 = c13) ∧ ∀ target, Steps p.tables e below (T165.setTop (mkF m 189 #[.val (.int p0), .val (.int p1), .val (.int p2), .val (.int p3), .val (.ref b4), .val (.ref b5), .val (.ref b6), .val (.ref b7), .val (.ref b8), .val (.ref b149), .val (.ref s10), .val (.int (p0 &&& (3 : Int32))), .val v12, .unset, .unset, .unset, .unset, .unset, .unset, .unset, .unset, .unset] [(.int c13)])) target → Steps p.tables e below (T165.setTop (mkF m 181 #[.val (.int p0), .val (.int p1), .val (.int p2), .val (.int p3), .val (.ref b4), .val (.ref b5), .val (.ref b6), .val (.ref b7), .val (.ref b8), .val (.ref b149), .val (.ref s10), .val (.int (p0 &&& (3 : Int32))), .val v12, .unset, .unset, .unset, .unset, .unset, .unset, .unset, .unset, .unset] [(.int (((p0.toUInt32 >>> ((2 : Int32) &&& 31).toUInt32).toInt32) &&& (1 : Int32)))])) target := by
    by_cases hc : (((p0.toUInt32 >>> ((2 : Int32) &&& 31).toUInt32).toInt32) &&& (1 : Int32)) = (0 : Int32)
    · skip
      refine ⟨0, own_nb0, fun target hk => ?_⟩
      show Steps p.tables e below (T165.setTop (mkF m 181 #[.val (.int p0), .val (.int p1), .val (.int p2), .val (.int p3), .val (.ref b4), .val (.ref b5), .val (.ref b6), .val (.ref b7), .val (.ref b8), .val (.ref b149), .val (.ref s10), .val (.int (p0 &&& (3 : Int32))), .val v12, .unset, .unset, .unset, .unset, .unset, .unset, .unset, .unset, .unset] [(.int (((p0.toUInt32 >>> ((2 : Int32) &&& 31).toUInt32).toInt32) &&& (1 : Int32)))])) _
      refine XS.ifYes X165.here hx rfl (pc0 := 181) (pc' := 188) rfl (hb hby at_181) rfl ((if0 _ _).trans (teq hc).1) (by decide) (by decide) ?_
      show Steps p.tables e below (T165.setTop (mkF m 188 #[.val (.int p0), .val (.int p1), .val (.int p2), .val (.int p3), .val (.ref b4), .val (.ref b5), .val (.ref b6), .val (.ref b7), .val (.ref b8), .val (.ref b149), .val (.ref s10), .val (.int (p0 &&& (3 : Int32))), .val v12, .unset, .unset, .unset, .unset, .unset, .unset, .unset, .unset, .unset] [])) _
      refine XS.iconst X165.here hx rfl (hb hby at_188) ?_
      exact hk
    · skip
      refine ⟨1, own_nb1, fun target hk => ?_⟩
      show Steps p.tables e below (T165.setTop (mkF m 181 #[.val (.int p0), .val (.int p1), .val (.int p2), .val (.int p3), .val (.ref b4), .val (.ref b5), .val (.ref b6), .val (.ref b7), .val (.ref b8), .val (.ref b149), .val (.ref s10), .val (.int (p0 &&& (3 : Int32))), .val v12, .unset, .unset, .unset, .unset, .unset, .unset, .unset, .unset, .unset] [(.int (((p0.toUInt32 >>> ((2 : Int32) &&& 31).toUInt32).toInt32) &&& (1 : Int32)))])) _
      refine XS.ifNo X165.here hx rfl (hb hby at_181) rfl ((if0 _ _).trans (feq hc).1) ?_
      show Steps p.tables e below (T165.setTop (mkF m 184 #[.val (.int p0), .val (.int p1), .val (.int p2), .val (.int p3), .val (.ref b4), .val (.ref b5), .val (.ref b6), .val (.ref b7), .val (.ref b8), .val (.ref b149), .val (.ref s10), .val (.int (p0 &&& (3 : Int32))), .val v12, .unset, .unset, .unset, .unset, .unset, .unset, .unset, .unset, .unset] [])) _
      refine XS.iconst X165.here hx rfl (hb hby at_184) ?_
      show Steps p.tables e below (T165.setTop (mkF m 185 #[.val (.int p0), .val (.int p1), .val (.int p2), .val (.int p3), .val (.ref b4), .val (.ref b5), .val (.ref b6), .val (.ref b7), .val (.ref b8), .val (.ref b149), .val (.ref s10), .val (.int (p0 &&& (3 : Int32))), .val v12, .unset, .unset, .unset, .unset, .unset, .unset, .unset, .unset, .unset] [(.int (1 : Int32))])) _
      refine XS.goto X165.here hx rfl (pc0 := 185) (pc' := 189) rfl (hb hby at_185) (by decide) (by decide) ?_
      exact hk
  obtain ⟨T200, h200, lc200, v14, X200, e200, E200, N200, hv14, st200⟩ : ∃ (T200 : State) (h200 : Heap) (lc200 : List Loc) (v14 : Value), Stand p l e room_1 (s.setVm vm165) m args below meth c T200 lc200 15 32 ∧ T200.heap = h200 ∧ Ext h165 h200 ∧ Fr n0 lc200 ∧ (v14.isRef = true) ∧ ∀ target, Steps p.tables e below (T200.setTop (mkF m 213 #[.val (.int p0), .val (.int p1), .val (.int p2), .val (.int p3), .val (.ref b4), .val (.ref b5), .val (.ref b6), .val (.ref b7), .val (.ref b8), .val (.ref b149), .val (.ref s10), .val (.int (p0 &&& (3 : Int32))), .val v12, .val (.int c13), .val v14, .unset, .unset, .unset, .unset, .unset, .unset, .unset] [])) target → Steps p.tables e below (T165.setTop (mkF m 199 #[.val (.int p0), .val (.int p1), .val (.int p2), .val (.int p3), .val (.ref b4), .val (.ref b5), .val (.ref b6), .val (.ref b7), .val (.ref b8), .val (.ref b149), .val (.ref s10), .val (.int (p0 &&& (3 : Int32))), .val v12, .val (.int c13), .val .null, .unset, .unset, .unset, .unset, .unset, .unset, .unset] [(.int (((p0.toUInt32 >>> ((3 : Int32) &&& 31).toUInt32).toInt32) &&& (1 : Int32)))])) target := by
    by_cases hc : (((p0.toUInt32 >>> ((3 : Int32) &&& 31).toUInt32).toInt32) &&& (1 : Int32)) = (0 : Int32)
    · skip
      refine ⟨T165, _, _, .null, own_up X165 (by decide) (by decide), e165, own_ext (Keep.refl h165 []), N165, rfl, fun target hk => ?_⟩
      show Steps p.tables e below (T165.setTop (mkF m 199 #[.val (.int p0), .val (.int p1), .val (.int p2), .val (.int p3), .val (.ref b4), .val (.ref b5), .val (.ref b6), .val (.ref b7), .val (.ref b8), .val (.ref b149), .val (.ref s10), .val (.int (p0 &&& (3 : Int32))), .val v12, .val (.int c13), .val .null, .unset, .unset, .unset, .unset, .unset, .unset, .unset] [(.int (((p0.toUInt32 >>> ((3 : Int32) &&& 31).toUInt32).toInt32) &&& (1 : Int32)))])) _
      refine XS.ifYes X165.here hx rfl (pc0 := 199) (pc' := 213) rfl (hb hby at_199) rfl ((if0 _ _).trans (teq hc).1) (by decide) (by decide) ?_
      exact hk
    · skip
      obtain ⟨T201, h201, X201, e201, E201, A201, D201, -, st201⟩ := newO X165 hx hZ165 hown165 (hw _ (List.mem_of_getElem? (i := 1) rfl)) (hw _ (List.mem_of_getElem? (i := 2) rfl)) (hw _ (List.mem_of_getElem? (i := 3) rfl)) e165 (g := (mkF m 202 #[.val (.int p0), .val (.int p1), .val (.int p2), .val (.int p3), .val (.ref b4), .val (.ref b5), .val (.ref b6), .val (.ref b7), .val (.ref b8), .val (.ref b149), .val (.ref s10), .val (.int (p0 &&& (3 : Int32))), .val v12, .val (.int c13), .val .null, .unset, .unset, .unset, .unset, .unset, .unset, .unset] [])) rfl (hb hby at_202) (by decide) (by decide)
      obtain ⟨b201, g201⟩ : ∃ z, z = h165.size := ⟨_, rfl⟩
      rw [← g201] at A201 D201 st201
      have ge_b201 : n0 ≤ b201 := Nat.le_trans Z196 (Nat.le_of_eq g201.symm)
      have sz_b201 : h165.size ≤ b201 := Nat.le_trans (Keep.refl h165 []).1 (Nat.le_of_eq g201.symm)
      have Z202 : n0 ≤ h201.size := Nat.le_trans Z196 E201.1
      have hk203 := Nat.le_trans hkk165 (E201.1 : _ ≤ h201.size)
      have K204 : Keep h165 h201 [] := (Keep.refl h165 []).ext E201
      have f205 := (((((V_b7.ext E139).ext E149).ext E153).ext E165).ext E201)
      have f206 := (((((((((X00.ext E90).ext E100).ext E113).ext E129).ext E139).ext E149).ext E153).ext E165).ext E201)
      obtain ⟨v207, vmx207, ⟨T207, L207, k207, n207⟩, -, X207, ⟨Lc207, hQ207, l207, y207, z207⟩, st207⟩ := X201.specialBack hx (y := (⟨"java/lang/String", "<init>", "([C)V"⟩ : MethodName)) rfl hown165 (mvT hZ165 (hw _ (List.mem_of_getElem? (i := 4) rfl))) (mvT hZ165 (hw _ (List.mem_of_getElem? (i := 5) rfl))) (mvT hZ165 (hw _ (List.mem_of_getElem? (i := 6) rfl))) (by decide) (StrChars.Road.backV (W := 1) hZ165 hws (kI := 4) (hw _ (List.mem_of_getElem? (i := 2) rfl)) (cs := ([nar .char ((p3 &&& (255 : Int32)).toUInt32.toUInt16.toUInt32.toInt32)] : List Int32)) (bs := (([nar .char ((p3 &&& (255 : Int32)).toUInt32.toUInt16.toUInt32.toInt32)] : List Int32)).map (fun c => c.toInt8.toInt32)) (n := 1) ge_b201 Z202 A201 (D201 (Or.inr (hw _ (List.mem_of_getElem? (i := 29) rfl))) (ty := (.array .byte)) (by decide)) (D201 (Or.inr (hw _ (List.mem_of_getElem? (i := 27) rfl))) (ty := .byte) (by decide)) f205 (O2.ext f206.2) P5 rfl rfl (by decide) (by decide) hp_b7 rfl (by decide) (by decide)) (g := (mkF m 208 #[.val (.int p0), .val (.int p1), .val (.int p2), .val (.int p3), .val (.ref b4), .val (.ref b5), .val (.ref b6), .val (.ref b7), .val (.ref b8), .val (.ref b149), .val (.ref s10), .val (.int (p0 &&& (3 : Int32))), .val v12, .val (.int c13), .val .null, .unset, .unset, .unset, .unset, .unset, .unset, .unset] [(.ref b7), (.ref b201), (.ref b201)])) rfl (by rw [hml]; rfl) (Steps.refl _) (a := b201) (argsL := [(.ref b7)]) (rest := [(.ref b201)]) (lenOf own_pd3 rfl) rfl (by show 2 * 0 + _ ≤ _; exact Nat.le_of_eq rfl) (hb hby at_208) (fun _ _ => ⟨rfl, e201, (by decide : 14 + 1 ≤ _), (by decide : 31 + 1 ≤ _)⟩)
      dsimp only [Pt.U, Pt.locs, Pt.cells, Pt.slots] at X207 l207 y207 z207 st207 hQ207
      subst l207 y207 z207
      obtain ⟨rfl, Nq207, K207, fe207, fc207, t207, kb207, u1207, u2207, u3207, fv207, fa207⟩ := hQ207
      have N207 := Fr.app N165 Nq207
      have Z208 : n0 ≤ T207.heap.size := Nat.le_trans Z202 K207.1
      have hk209 := Nat.le_trans hk203 (K207.1 : _ ≤ T207.heap.size)
      have K210 : Keep h165 T207.heap [] := K204.trans K207 (allS (Or.inr sz_b201) all0)
      refine ⟨T207, _, _, (.ref b201), own_up X207 (by decide) (by decide), rfl, own_ext K210, N207, rfl, fun target hk => ?_⟩
      show Steps p.tables e below (T165.setTop (mkF m 199 #[.val (.int p0), .val (.int p1), .val (.int p2), .val (.int p3), .val (.ref b4), .val (.ref b5), .val (.ref b6), .val (.ref b7), .val (.ref b8), .val (.ref b149), .val (.ref s10), .val (.int (p0 &&& (3 : Int32))), .val v12, .val (.int c13), .val .null, .unset, .unset, .unset, .unset, .unset, .unset, .unset] [(.int (((p0.toUInt32 >>> ((3 : Int32) &&& 31).toUInt32).toInt32) &&& (1 : Int32)))])) _
      refine XS.ifNo X165.here hx rfl (hb hby at_199) rfl ((if0 _ _).trans (feq hc).1) ?_
      show Steps p.tables e below (T165.setTop (mkF m 202 #[.val (.int p0), .val (.int p1), .val (.int p2), .val (.int p3), .val (.ref b4), .val (.ref b5), .val (.ref b6), .val (.ref b7), .val (.ref b8), .val (.ref b149), .val (.ref s10), .val (.int (p0 &&& (3 : Int32))), .val v12, .val (.int c13), .val .null, .unset, .unset, .unset, .unset, .unset, .unset, .unset] [])) _
      refine st201 _ ?_
      show Steps p.tables e below (T201.setTop (mkF m 205 #[.val (.int p0), .val (.int p1), .val (.int p2), .val (.int p3), .val (.ref b4), .val (.ref b5), .val (.ref b6), .val (.ref b7), .val (.ref b8), .val (.ref b149), .val (.ref s10), .val (.int (p0 &&& (3 : Int32))), .val v12, .val (.int c13), .val .null, .unset, .unset, .unset, .unset, .unset, .unset, .unset] [(.ref b201)])) _
      refine XS.dup X201.here hx rfl (hb hby at_205) rfl rfl ?_
      show Steps p.tables e below (T201.setTop (mkF m 206 #[.val (.int p0), .val (.int p1), .val (.int p2), .val (.int p3), .val (.ref b4), .val (.ref b5), .val (.ref b6), .val (.ref b7), .val (.ref b8), .val (.ref b149), .val (.ref s10), .val (.int (p0 &&& (3 : Int32))), .val v12, .val (.int c13), .val .null, .unset, .unset, .unset, .unset, .unset, .unset, .unset] [(.ref b201), (.ref b201)])) _
      refine XS.aload X201.here hx rfl (hb hby at_206) rfl rfl ?_
      show Steps p.tables e below (T201.setTop (mkF m 208 #[.val (.int p0), .val (.int p1), .val (.int p2), .val (.int p3), .val (.ref b4), .val (.ref b5), .val (.ref b6), .val (.ref b7), .val (.ref b8), .val (.ref b149), .val (.ref s10), .val (.int (p0 &&& (3 : Int32))), .val v12, .val (.int c13), .val .null, .unset, .unset, .unset, .unset, .unset, .unset, .unset] [(.ref b7), (.ref b201), (.ref b201)])) _
      refine st207.trans ?_
      show Steps p.tables e below (T207.setTop (mkF m 211 #[.val (.int p0), .val (.int p1), .val (.int p2), .val (.int p3), .val (.ref b4), .val (.ref b5), .val (.ref b6), .val (.ref b7), .val (.ref b8), .val (.ref b149), .val (.ref s10), .val (.int (p0 &&& (3 : Int32))), .val v12, .val (.int c13), .val .null, .unset, .unset, .unset, .unset, .unset, .unset, .unset] [(.ref b201)])) _
      refine XS.astore X207.here hx rfl (hb hby at_211) rfl rfl (l' := #[.val (.int p0), .val (.int p1), .val (.int p2), .val (.int p3), .val (.ref b4), .val (.ref b5), .val (.ref b6), .val (.ref b7), .val (.ref b8), .val (.ref b149), .val (.ref s10), .val (.int (p0 &&& (3 : Int32))), .val v12, .val (.int c13), .val (.ref b201), .unset, .unset, .unset, .unset, .unset, .unset, .unset]) rfl ?_
      exact hk
  have Z211 : n0 ≤ h200.size := Nat.le_trans Z196 E200.1
  have hk212 := Nat.le_trans hkk165 (E200.1 : _ ≤ h200.size)
  have K213 : Keep h0 h200 [] := K197.ext E200
  have C214 := (C198.trans (CHr.ext E200 C198.1))
  obtain ⟨T215, h215, lc215, v15, X215, e215, E215, N215, hv15, st215⟩ : ∃ (T215 : State) (h215 : Heap) (lc215 : List Loc) (v15 : Value), Stand p l e room_1 (s.setVm vm165) m args below meth c T215 lc215 17 37 ∧ T215.heap = h215 ∧ Ext h200 h215 ∧ Fr n0 lc215 ∧ (v15.isRef = true) ∧ ∀ target, Steps p.tables e below (T215.setTop (mkF m 235 #[.val (.int p0), .val (.int p1), .val (.int p2), .val (.int p3), .val (.ref b4), .val (.ref b5), .val (.ref b6), .val (.ref b7), .val (.ref b8), .val (.ref b149), .val (.ref s10), .val (.int (p0 &&& (3 : Int32))), .val v12, .val (.int c13), .val v14, .val v15, .unset, .unset, .unset, .unset, .unset, .unset] [])) target → Steps p.tables e below (T200.setTop (mkF m 221 #[.val (.int p0), .val (.int p1), .val (.int p2), .val (.int p3), .val (.ref b4), .val (.ref b5), .val (.ref b6), .val (.ref b7), .val (.ref b8), .val (.ref b149), .val (.ref s10), .val (.int (p0 &&& (3 : Int32))), .val v12, .val (.int c13), .val v14, .val .null, .unset, .unset, .unset, .unset, .unset, .unset] [(.int (((p0.toUInt32 >>> ((4 : Int32) &&& 31).toUInt32).toInt32) &&& (1 : Int32)))])) target := by
    by_cases hc : (((p0.toUInt32 >>> ((4 : Int32) &&& 31).toUInt32).toInt32) &&& (1 : Int32)) = (0 : Int32)
    · skip
      refine ⟨T200, _, _, .null, own_up X200 (by decide) (by decide), e200, own_ext (Keep.refl h200 []), N200, rfl, fun target hk => ?_⟩
      show Steps p.tables e below (T200.setTop (mkF m 221 #[.val (.int p0), .val (.int p1), .val (.int p2), .val (.int p3), .val (.ref b4), .val (.ref b5), .val (.ref b6), .val (.ref b7), .val (.ref b8), .val (.ref b149), .val (.ref s10), .val (.int (p0 &&& (3 : Int32))), .val v12, .val (.int c13), .val v14, .val .null, .unset, .unset, .unset, .unset, .unset, .unset] [(.int (((p0.toUInt32 >>> ((4 : Int32) &&& 31).toUInt32).toInt32) &&& (1 : Int32)))])) _
      refine XS.ifYes X200.here hx rfl (pc0 := 221) (pc' := 235) rfl (hb hby at_221) rfl ((if0 _ _).trans (teq hc).1) (by decide) (by decide) ?_
      exact hk
    · skip
      obtain ⟨T216, h216, X216, e216, E216, A216, D216, -, st216⟩ := newO X200 hx hZ165 hown165 (hw _ (List.mem_of_getElem? (i := 1) rfl)) (hw _ (List.mem_of_getElem? (i := 2) rfl)) (hw _ (List.mem_of_getElem? (i := 3) rfl)) e200 (g := (mkF m 224 #[.val (.int p0), .val (.int p1), .val (.int p2), .val (.int p3), .val (.ref b4), .val (.ref b5), .val (.ref b6), .val (.ref b7), .val (.ref b8), .val (.ref b149), .val (.ref s10), .val (.int (p0 &&& (3 : Int32))), .val v12, .val (.int c13), .val v14, .val .null, .unset, .unset, .unset, .unset, .unset, .unset] [])) rfl (hb hby at_224) (by decide) (by decide)
      obtain ⟨b216, g216⟩ : ∃ z, z = h200.size := ⟨_, rfl⟩
      rw [← g216] at A216 D216 st216
      have ge_b216 : n0 ≤ b216 := Nat.le_trans Z211 (Nat.le_of_eq g216.symm)
      have sz_b216 : h200.size ≤ b216 := Nat.le_trans (Keep.refl h200 []).1 (Nat.le_of_eq g216.symm)
      have Z217 : n0 ≤ h216.size := Nat.le_trans Z211 E216.1
      have hk218 := Nat.le_trans hk212 (E216.1 : _ ≤ h216.size)
      have K219 : Keep h200 h216 [] := (Keep.refl h200 []).ext E216
      have f220 := (((((V_b8.ext E149).ext E153).ext E165).ext E200).ext E216)
      have f221 := ((((((((((X00.ext E90).ext E100).ext E113).ext E129).ext E139).ext E149).ext E153).ext E165).ext E200).ext E216)
      obtain ⟨v222, vmx222, ⟨T222, L222, k222, n222⟩, -, X222, ⟨Lc222, hQ222, l222, y222, z222⟩, st222⟩ := X216.specialBack hx (y := (⟨"java/lang/String", "<init>", "([C)V"⟩ : MethodName)) rfl hown165 (mvT hZ165 (hw _ (List.mem_of_getElem? (i := 4) rfl))) (mvT hZ165 (hw _ (List.mem_of_getElem? (i := 5) rfl))) (mvT hZ165 (hw _ (List.mem_of_getElem? (i := 6) rfl))) (by decide) (StrChars.Road.backV (W := 1) hZ165 hws (kI := 4) (hw _ (List.mem_of_getElem? (i := 2) rfl)) (cs := ([nar .char ((((p3.toUInt32 >>> ((8 : Int32) &&& 31).toUInt32).toInt32) &&& (255 : Int32)).toUInt32.toUInt16.toUInt32.toInt32)] : List Int32)) (bs := (([nar .char ((((p3.toUInt32 >>> ((8 : Int32) &&& 31).toUInt32).toInt32) &&& (255 : Int32)).toUInt32.toUInt16.toUInt32.toInt32)] : List Int32)).map (fun c => c.toInt8.toInt32)) (n := 1) ge_b216 Z217 A216 (D216 (Or.inr (hw _ (List.mem_of_getElem? (i := 29) rfl))) (ty := (.array .byte)) (by decide)) (D216 (Or.inr (hw _ (List.mem_of_getElem? (i := 27) rfl))) (ty := .byte) (by decide)) f220 (O2.ext f221.2) P5 rfl rfl (by decide) (by decide) hp_b8 rfl (by decide) (by decide)) (g := (mkF m 230 #[.val (.int p0), .val (.int p1), .val (.int p2), .val (.int p3), .val (.ref b4), .val (.ref b5), .val (.ref b6), .val (.ref b7), .val (.ref b8), .val (.ref b149), .val (.ref s10), .val (.int (p0 &&& (3 : Int32))), .val v12, .val (.int c13), .val v14, .val .null, .unset, .unset, .unset, .unset, .unset, .unset] [(.ref b8), (.ref b216), (.ref b216)])) rfl (by rw [hml]; rfl) (Steps.refl _) (a := b216) (argsL := [(.ref b8)]) (rest := [(.ref b216)]) (lenOf own_pd3 rfl) rfl (by show 2 * 0 + _ ≤ _; exact Nat.le_of_eq rfl) (hb hby at_230) (fun _ _ => ⟨rfl, e216, (by decide : 16 + 1 ≤ _), (by decide : 36 + 1 ≤ _)⟩)
      dsimp only [Pt.U, Pt.locs, Pt.cells, Pt.slots] at X222 l222 y222 z222 st222 hQ222
      subst l222 y222 z222
      obtain ⟨rfl, Nq222, K222, fe222, fc222, t222, kb222, u1222, u2222, u3222, fv222, fa222⟩ := hQ222
      have N222 := Fr.app N200 Nq222
      have Z223 : n0 ≤ T222.heap.size := Nat.le_trans Z217 K222.1
      have hk224 := Nat.le_trans hk218 (K222.1 : _ ≤ T222.heap.size)
      have K225 : Keep h200 T222.heap [] := K219.trans K222 (allS (Or.inr sz_b216) all0)
      refine ⟨T222, _, _, (.ref b216), own_up X222 (by decide) (by decide), rfl, own_ext K225, N222, rfl, fun target hk => ?_⟩
      show Steps p.tables e below (T200.setTop (mkF m 221 #[.val (.int p0), .val (.int p1), .val (.int p2), .val (.int p3), .val (.ref b4), .val (.ref b5), .val (.ref b6), .val (.ref b7), .val (.ref b8), .val (.ref b149), .val (.ref s10), .val (.int (p0 &&& (3 : Int32))), .val v12, .val (.int c13), .val v14, .val .null, .unset, .unset, .unset, .unset, .unset, .unset] [(.int (((p0.toUInt32 >>> ((4 : Int32) &&& 31).toUInt32).toInt32) &&& (1 : Int32)))])) _
      refine XS.ifNo X200.here hx rfl (hb hby at_221) rfl ((if0 _ _).trans (feq hc).1) ?_
      show Steps p.tables e below (T200.setTop (mkF m 224 #[.val (.int p0), .val (.int p1), .val (.int p2), .val (.int p3), .val (.ref b4), .val (.ref b5), .val (.ref b6), .val (.ref b7), .val (.ref b8), .val (.ref b149), .val (.ref s10), .val (.int (p0 &&& (3 : Int32))), .val v12, .val (.int c13), .val v14, .val .null, .unset, .unset, .unset, .unset, .unset, .unset] [])) _
      refine st216 _ ?_
      show Steps p.tables e below (T216.setTop (mkF m 227 #[.val (.int p0), .val (.int p1), .val (.int p2), .val (.int p3), .val (.ref b4), .val (.ref b5), .val (.ref b6), .val (.ref b7), .val (.ref b8), .val (.ref b149), .val (.ref s10), .val (.int (p0 &&& (3 : Int32))), .val v12, .val (.int c13), .val v14, .val .null, .unset, .unset, .unset, .unset, .unset, .unset] [(.ref b216)])) _
      refine XS.dup X216.here hx rfl (hb hby at_227) rfl rfl ?_
      show Steps p.tables e below (T216.setTop (mkF m 228 #[.val (.int p0), .val (.int p1), .val (.int p2), .val (.int p3), .val (.ref b4), .val (.ref b5), .val (.ref b6), .val (.ref b7), .val (.ref b8), .val (.ref b149), .val (.ref s10), .val (.int (p0 &&& (3 : Int32))), .val v12, .val (.int c13), .val v14, .val .null, .unset, .unset, .unset, .unset, .unset, .unset] [(.ref b216), (.ref b216)])) _
      refine XS.aload X216.here hx rfl (hb hby at_228) rfl rfl ?_
      show Steps p.tables e below (T216.setTop (mkF m 230 #[.val (.int p0), .val (.int p1), .val (.int p2), .val (.int p3), .val (.ref b4), .val (.ref b5), .val (.ref b6), .val (.ref b7), .val (.ref b8), .val (.ref b149), .val (.ref s10), .val (.int (p0 &&& (3 : Int32))), .val v12, .val (.int c13), .val v14, .val .null, .unset, .unset, .unset, .unset, .unset, .unset] [(.ref b8), (.ref b216), (.ref b216)])) _
      refine st222.trans ?_
      show Steps p.tables e below (T222.setTop (mkF m 233 #[.val (.int p0), .val (.int p1), .val (.int p2), .val (.int p3), .val (.ref b4), .val (.ref b5), .val (.ref b6), .val (.ref b7), .val (.ref b8), .val (.ref b149), .val (.ref s10), .val (.int (p0 &&& (3 : Int32))), .val v12, .val (.int c13), .val v14, .val .null, .unset, .unset, .unset, .unset, .unset, .unset] [(.ref b216)])) _
      refine XS.astore X222.here hx rfl (hb hby at_233) rfl rfl (l' := #[.val (.int p0), .val (.int p1), .val (.int p2), .val (.int p3), .val (.ref b4), .val (.ref b5), .val (.ref b6), .val (.ref b7), .val (.ref b8), .val (.ref b149), .val (.ref s10), .val (.int (p0 &&& (3 : Int32))), .val v12, .val (.int c13), .val v14, .val (.ref b216), .unset, .unset, .unset, .unset, .unset, .unset]) rfl ?_
      exact hk
  have Z226 : n0 ≤ h215.size := Nat.le_trans Z211 E215.1
  have hk227 := Nat.le_trans hk212 (E215.1 : _ ≤ h215.size)
  have K228 : Keep h0 h215 [] := K213.ext E215
  have C229 := (C214.trans (CHr.ext E215 C214.1))
  obtain ⟨T230, h230, lc230, s16, t_s16, kb_s16, X230, e230, E230, N230, E_s16, C_s16, W_s16, B_s16, st230⟩ : ∃ (T230 : State) (h230 : Heap) (lc230 : List Loc) (s16 : Addr) (t_s16 : Addr) (kb_s16 : ClassId), Stand p l e room_1 (s.setVm vm165) m args below meth c T230 lc230 19 42 ∧ T230.heap = h230 ∧ Ext h215 h230 ∧ Fr n0 lc230 ∧ (Exa Z h230 s16 "java/lang/String") ∧ (Fld Z h230 s16 "java/lang/String" "coder" "B" (.int (0 : Int32))) ∧ (Fld Z h230 s16 "java/lang/String" "value" "[B" (.ref t_s16)) ∧ (Arv Z h230 t_s16 kb_s16 .byte (1 : Int32) (((([nar .char ((p1 &&& (255 : Int32)).toUInt32.toUInt16.toUInt32.toInt32)] : List Int32)).map (fun c => c.toInt8.toInt32)).map Value.int) (.int (0 : Int32))) ∧ ∀ target, Steps p.tables e below (T230.setTop (mkF m 246 #[.val (.int p0), .val (.int p1), .val (.int p2), .val (.int p3), .val (.ref b4), .val (.ref b5), .val (.ref b6), .val (.ref b7), .val (.ref b8), .val (.ref b149), .val (.ref s10), .val (.int (p0 &&& (3 : Int32))), .val v12, .val (.int c13), .val v14, .val v15, .val (.ref s16), .unset, .unset, .unset, .unset, .unset] [])) target → Steps p.tables e below (T215.setTop (mkF m 235 #[.val (.int p0), .val (.int p1), .val (.int p2), .val (.int p3), .val (.ref b4), .val (.ref b5), .val (.ref b6), .val (.ref b7), .val (.ref b8), .val (.ref b149), .val (.ref s10), .val (.int (p0 &&& (3 : Int32))), .val v12, .val (.int c13), .val v14, .val v15, .unset, .unset, .unset, .unset, .unset, .unset] [])) target := by
    obtain ⟨T231, h231, X231, e231, E231, A231, D231, -, st231⟩ := newO X215 hx hZ165 hown165 (hw _ (List.mem_of_getElem? (i := 1) rfl)) (hw _ (List.mem_of_getElem? (i := 2) rfl)) (hw _ (List.mem_of_getElem? (i := 3) rfl)) e215 (g := (mkF m 235 #[.val (.int p0), .val (.int p1), .val (.int p2), .val (.int p3), .val (.ref b4), .val (.ref b5), .val (.ref b6), .val (.ref b7), .val (.ref b8), .val (.ref b149), .val (.ref s10), .val (.int (p0 &&& (3 : Int32))), .val v12, .val (.int c13), .val v14, .val v15, .unset, .unset, .unset, .unset, .unset, .unset] [])) rfl (hb hby at_235) (by decide) (by decide)
    obtain ⟨b231, g231⟩ : ∃ z, z = h215.size := ⟨_, rfl⟩
    rw [← g231] at A231 D231 st231
    have ge_b231 : n0 ≤ b231 := Nat.le_trans Z226 (Nat.le_of_eq g231.symm)
    have sz_b231 : h215.size ≤ b231 := Nat.le_trans (Keep.refl h215 []).1 (Nat.le_of_eq g231.symm)
    have Z232 : n0 ≤ h231.size := Nat.le_trans Z226 E231.1
    have hk233 := Nat.le_trans hk227 (E231.1 : _ ≤ h231.size)
    have K234 : Keep h215 h231 [] := (Keep.refl h215 []).ext E231
    have f235 := ((((((((((V_b4.ext E100).ext E113).ext E129).ext E139).ext E149).ext E153).ext E165).ext E200).ext E215).ext E231)
    have f236 := (((((((((((X00.ext E90).ext E100).ext E113).ext E129).ext E139).ext E149).ext E153).ext E165).ext E200).ext E215).ext E231)
    obtain ⟨v237, vmx237, ⟨T237, L237, k237, n237⟩, -, X237, ⟨Lc237, hQ237, l237, y237, z237⟩, st237⟩ := X231.specialBack hx (y := (⟨"java/lang/String", "<init>", "([C)V"⟩ : MethodName)) rfl hown165 (mvT hZ165 (hw _ (List.mem_of_getElem? (i := 4) rfl))) (mvT hZ165 (hw _ (List.mem_of_getElem? (i := 5) rfl))) (mvT hZ165 (hw _ (List.mem_of_getElem? (i := 6) rfl))) (by decide) (StrChars.Road.backV (W := 1) hZ165 hws (kI := 4) (hw _ (List.mem_of_getElem? (i := 2) rfl)) (cs := ([nar .char ((p1 &&& (255 : Int32)).toUInt32.toUInt16.toUInt32.toInt32)] : List Int32)) (bs := (([nar .char ((p1 &&& (255 : Int32)).toUInt32.toUInt16.toUInt32.toInt32)] : List Int32)).map (fun c => c.toInt8.toInt32)) (n := 1) ge_b231 Z232 A231 (D231 (Or.inr (hw _ (List.mem_of_getElem? (i := 29) rfl))) (ty := (.array .byte)) (by decide)) (D231 (Or.inr (hw _ (List.mem_of_getElem? (i := 27) rfl))) (ty := .byte) (by decide)) f235 (O2.ext f236.2) P5 rfl rfl (by decide) (by decide) hp_b4 rfl (by decide) (by decide)) (g := (mkF m 241 #[.val (.int p0), .val (.int p1), .val (.int p2), .val (.int p3), .val (.ref b4), .val (.ref b5), .val (.ref b6), .val (.ref b7), .val (.ref b8), .val (.ref b149), .val (.ref s10), .val (.int (p0 &&& (3 : Int32))), .val v12, .val (.int c13), .val v14, .val v15, .unset, .unset, .unset, .unset, .unset, .unset] [(.ref b4), (.ref b231), (.ref b231)])) rfl (by rw [hml]; rfl) (Steps.refl _) (a := b231) (argsL := [(.ref b4)]) (rest := [(.ref b231)]) (lenOf own_pd3 rfl) rfl (by show 2 * 0 + _ ≤ _; exact Nat.le_of_eq rfl) (hb hby at_241) (fun _ _ => ⟨rfl, e231, (by decide : 18 + 1 ≤ _), (by decide : 41 + 1 ≤ _)⟩)
    dsimp only [Pt.U, Pt.locs, Pt.cells, Pt.slots] at X237 l237 y237 z237 st237 hQ237
    subst l237 y237 z237
    obtain ⟨rfl, Nq237, K237, fe237, fc237, t237, kb237, u1237, u2237, u3237, fv237, fa237⟩ := hQ237
    have N237 := Fr.app N215 Nq237
    have Z238 : n0 ≤ T237.heap.size := Nat.le_trans Z232 K237.1
    have hk239 := Nat.le_trans hk233 (K237.1 : _ ≤ T237.heap.size)
    have K240 : Keep h215 T237.heap [] := K234.trans K237 (allS (Or.inr sz_b231) all0)
    refine ⟨T237, _, _, b231, t237, kb237, own_up X237 (by decide) (by decide), rfl, own_ext K240, N237, fe237, fc237, fv237, fa237, fun target hk => ?_⟩
    show Steps p.tables e below (T215.setTop (mkF m 235 #[.val (.int p0), .val (.int p1), .val (.int p2), .val (.int p3), .val (.ref b4), .val (.ref b5), .val (.ref b6), .val (.ref b7), .val (.ref b8), .val (.ref b149), .val (.ref s10), .val (.int (p0 &&& (3 : Int32))), .val v12, .val (.int c13), .val v14, .val v15, .unset, .unset, .unset, .unset, .unset, .unset] [])) _
    refine st231 _ ?_
    show Steps p.tables e below (T231.setTop (mkF m 238 #[.val (.int p0), .val (.int p1), .val (.int p2), .val (.int p3), .val (.ref b4), .val (.ref b5), .val (.ref b6), .val (.ref b7), .val (.ref b8), .val (.ref b149), .val (.ref s10), .val (.int (p0 &&& (3 : Int32))), .val v12, .val (.int c13), .val v14, .val v15, .unset, .unset, .unset, .unset, .unset, .unset] [(.ref b231)])) _
    refine XS.dup X231.here hx rfl (hb hby at_238) rfl rfl ?_
    show Steps p.tables e below (T231.setTop (mkF m 239 #[.val (.int p0), .val (.int p1), .val (.int p2), .val (.int p3), .val (.ref b4), .val (.ref b5), .val (.ref b6), .val (.ref b7), .val (.ref b8), .val (.ref b149), .val (.ref s10), .val (.int (p0 &&& (3 : Int32))), .val v12, .val (.int c13), .val v14, .val v15, .unset, .unset, .unset, .unset, .unset, .unset] [(.ref b231), (.ref b231)])) _
    refine XS.aload X231.here hx rfl (hb hby at_239) rfl rfl ?_
    show Steps p.tables e below (T231.setTop (mkF m 241 #[.val (.int p0), .val (.int p1), .val (.int p2), .val (.int p3), .val (.ref b4), .val (.ref b5), .val (.ref b6), .val (.ref b7), .val (.ref b8), .val (.ref b149), .val (.ref s10), .val (.int (p0 &&& (3 : Int32))), .val v12, .val (.int c13), .val v14, .val v15, .unset, .unset, .unset, .unset, .unset, .unset] [(.ref b4), (.ref b231), (.ref b231)])) _
    refine st237.trans ?_
    show Steps p.tables e below (T237.setTop (mkF m 244 #[.val (.int p0), .val (.int p1), .val (.int p2), .val (.int p3), .val (.ref b4), .val (.ref b5), .val (.ref b6), .val (.ref b7), .val (.ref b8), .val (.ref b149), .val (.ref s10), .val (.int (p0 &&& (3 : Int32))), .val v12, .val (.int c13), .val v14, .val v15, .unset, .unset, .unset, .unset, .unset, .unset] [(.ref b231)])) _
    refine XS.astore X237.here hx rfl (hb hby at_244) rfl rfl (l' := #[.val (.int p0), .val (.int p1), .val (.int p2), .val (.int p3), .val (.ref b4), .val (.ref b5), .val (.ref b6), .val (.ref b7), .val (.ref b8), .val (.ref b149), .val (.ref s10), .val (.int (p0 &&& (3 : Int32))), .val v12, .val (.int c13), .val v14, .val v15, .val (.ref b231), .unset, .unset, .unset, .unset, .unset]) rfl ?_
    exact hk
  have Z241 : n0 ≤ h230.size := Nat.le_trans Z226 E230.1
  have hk242 := Nat.le_trans hk227 (E230.1 : _ ≤ h230.size)
  have K243 : Keep h0 h230 [] := K228.ext E230
  have C244 := (C229.trans (CHr.ext E230 C229.1))
  obtain ⟨T245, h245, lc245, b17, X245, e245, E245, N245, F17, st245⟩ : ∃ (T245 : State) (h245 : Heap) (lc245 : List Loc) (b17 : Addr), Stand p l e room_1 (s.setVm vm165) m args below meth c T245 lc245 20 47 ∧ T245.heap = h245 ∧ Ext h230 h245 ∧ Fr n0 lc245 ∧ (Fs Z h245 b17 (.ref s10) v12 (.int c13) v14 v15) ∧ ∀ target, Steps p.tables e below (T245.setTop (mkF m 265 #[.val (.int p0), .val (.int p1), .val (.int p2), .val (.int p3), .val (.ref b4), .val (.ref b5), .val (.ref b6), .val (.ref b7), .val (.ref b8), .val (.ref b149), .val (.ref s10), .val (.int (p0 &&& (3 : Int32))), .val v12, .val (.int c13), .val v14, .val v15, .val (.ref s16), .val (.ref b17), .unset, .unset, .unset, .unset] [])) target → Steps p.tables e below (T230.setTop (mkF m 246 #[.val (.int p0), .val (.int p1), .val (.int p2), .val (.int p3), .val (.ref b4), .val (.ref b5), .val (.ref b6), .val (.ref b7), .val (.ref b8), .val (.ref b149), .val (.ref s10), .val (.int (p0 &&& (3 : Int32))), .val v12, .val (.int c13), .val v14, .val v15, .val (.ref s16), .unset, .unset, .unset, .unset, .unset] [])) target := by
    obtain ⟨T246, h246, X246, e246, E246, A246, D246, -, st246⟩ := newO X230 hx hZ165 hown165 (hw _ (List.mem_of_getElem? (i := 30) rfl)) (hw _ (List.mem_of_getElem? (i := 31) rfl)) (hw _ (List.mem_of_getElem? (i := 32) rfl)) e230 (g := (mkF m 246 #[.val (.int p0), .val (.int p1), .val (.int p2), .val (.int p3), .val (.ref b4), .val (.ref b5), .val (.ref b6), .val (.ref b7), .val (.ref b8), .val (.ref b149), .val (.ref s10), .val (.int (p0 &&& (3 : Int32))), .val v12, .val (.int c13), .val v14, .val v15, .val (.ref s16), .unset, .unset, .unset, .unset, .unset] [])) rfl (hb hby at_246) (by decide) (by decide)
    obtain ⟨b246, g246⟩ : ∃ z, z = h230.size := ⟨_, rfl⟩
    rw [← g246] at A246 D246 st246
    have ge_b246 : n0 ≤ b246 := Nat.le_trans Z241 (Nat.le_of_eq g246.symm)
    have sz_b246 : h230.size ≤ b246 := Nat.le_trans (Keep.refl h230 []).1 (Nat.le_of_eq g246.symm)
    have Z247 : n0 ≤ h246.size := Nat.le_trans Z241 E246.1
    have hk248 := Nat.le_trans hk242 (E246.1 : _ ≤ h246.size)
    have K249 : Keep h230 h246 [] := (Keep.refl h230 []).ext E246
    obtain ⟨v250, vmx250, ⟨T250, L250, k250, n250⟩, -, X250, ⟨Lc250, hQ250, l250, y250, z250⟩, st250⟩ := X246.specialBack hx (y := (⟨"com/example/sealwright/sealwright/cli/Option", "<init>", "(Ljava/lang/String;Ljava/lang/String;ZLjava/lang/String;Ljava/lang/String;)V"⟩ : MethodName)) rfl hown165 (mvT hZ165 (hw _ (List.mem_of_getElem? (i := 33) rfl))) (mvT hZ165 (hw _ (List.mem_of_getElem? (i := 34) rfl))) (mvT hZ165 (hw _ (List.mem_of_getElem? (i := 35) rfl))) (by decide) (backOf (W := 1) (rm7 l Z a0 hw [] b246 (.ref s10) v12 c13 v14 v15 _ _ _ _ _ h246 n0 Z247 rfl hv12 hv14 hv15 ge_b246 ⟨A246, (D246 (Or.inr (hw _ (List.mem_of_getElem? (i := 43) rfl))) (ty := (.object "java/lang/String")) (by decide)), (D246 (Or.inr (hw _ (List.mem_of_getElem? (i := 45) rfl))) (ty := (.object "java/lang/String")) (by decide)), (D246 (Or.inr (hw _ (List.mem_of_getElem? (i := 47) rfl))) (ty := .boolean) (by decide)), (D246 (Or.inr (hw _ (List.mem_of_getElem? (i := 49) rfl))) (ty := (.object "java/lang/String")) (by decide)), (D246 (Or.inr (hw _ (List.mem_of_getElem? (i := 51) rfl))) (ty := (.object "java/lang/String")) (by decide))⟩) hZ165 (hw _ (List.mem_of_getElem? (i := 35) rfl)) (hw _ (List.mem_of_getElem? (i := 32) rfl)) (by decide) (by decide)) (g := (mkF m 260 #[.val (.int p0), .val (.int p1), .val (.int p2), .val (.int p3), .val (.ref b4), .val (.ref b5), .val (.ref b6), .val (.ref b7), .val (.ref b8), .val (.ref b149), .val (.ref s10), .val (.int (p0 &&& (3 : Int32))), .val v12, .val (.int c13), .val v14, .val v15, .val (.ref s16), .unset, .unset, .unset, .unset, .unset] [v15, v14, (.int c13), v12, (.ref s10), (.ref b246), (.ref b246)])) rfl (by rw [hml]; rfl) (Steps.refl _) (a := b246) (argsL := [(.ref s10), v12, (.int c13), v14, v15]) (rest := [(.ref b246)]) (lenOf own_pd2 rfl) rfl (by show 2 * 0 + _ ≤ _; exact Nat.le_of_eq rfl) (hb hby at_260) (fun _ _ => ⟨rfl, e246, (by decide : 20 + 0 ≤ _), (by decide : 47 + 0 ≤ _)⟩)
    dsimp only [Pt.U, Pt.locs, Pt.cells, Pt.slots] at X250 l250 y250 z250 st250 hQ250
    subst l250 y250 z250
    obtain ⟨rfl, Nq250, K250, F250⟩ := hQ250
    have N250 := Fr.app N230 Nq250
    have Z251 : n0 ≤ T250.heap.size := Nat.le_trans Z247 K250.1
    have hk252 := Nat.le_trans hk248 (K250.1 : _ ≤ T250.heap.size)
    have K253 : Keep h230 T250.heap [] := K249.trans K250 (allS (Or.inr sz_b246) all0)
    rw [nb13] at F250
    refine ⟨T250, _, _, b246, own_up X250 (by decide) (by decide), rfl, own_ext K253, N250, F250, fun target hk => ?_⟩
    show Steps p.tables e below (T230.setTop (mkF m 246 #[.val (.int p0), .val (.int p1), .val (.int p2), .val (.int p3), .val (.ref b4), .val (.ref b5), .val (.ref b6), .val (.ref b7), .val (.ref b8), .val (.ref b149), .val (.ref s10), .val (.int (p0 &&& (3 : Int32))), .val v12, .val (.int c13), .val v14, .val v15, .val (.ref s16), .unset, .unset, .unset, .unset, .unset] [])) _
    refine st246 _ ?_
    show Steps p.tables e below (T246.setTop (mkF m 249 #[.val (.int p0), .val (.int p1), .val (.int p2), .val (.int p3), .val (.ref b4), .val (.ref b5), .val (.ref b6), .val (.ref b7), .val (.ref b8), .val (.ref b149), .val (.ref s10), .val (.int (p0 &&& (3 : Int32))), .val v12, .val (.int c13), .val v14, .val v15, .val (.ref s16), .unset, .unset, .unset, .unset, .unset] [(.ref b246)])) _
    refine XS.dup X246.here hx rfl (hb hby at_249) rfl rfl ?_
    show Steps p.tables e below (T246.setTop (mkF m 250 #[.val (.int p0), .val (.int p1), .val (.int p2), .val (.int p3), .val (.ref b4), .val (.ref b5), .val (.ref b6), .val (.ref b7), .val (.ref b8), .val (.ref b149), .val (.ref s10), .val (.int (p0 &&& (3 : Int32))), .val v12, .val (.int c13), .val v14, .val v15, .val (.ref s16), .unset, .unset, .unset, .unset, .unset] [(.ref b246), (.ref b246)])) _
    refine XS.aload X246.here hx rfl (hb hby at_250) rfl rfl ?_
    show Steps p.tables e below (T246.setTop (mkF m 252 #[.val (.int p0), .val (.int p1), .val (.int p2), .val (.int p3), .val (.ref b4), .val (.ref b5), .val (.ref b6), .val (.ref b7), .val (.ref b8), .val (.ref b149), .val (.ref s10), .val (.int (p0 &&& (3 : Int32))), .val v12, .val (.int c13), .val v14, .val v15, .val (.ref s16), .unset, .unset, .unset, .unset, .unset] [(.ref s10), (.ref b246), (.ref b246)])) _
    refine XS.aload X246.here hx rfl (hb hby at_252) rfl hv12 ?_
    show Steps p.tables e below (T246.setTop (mkF m 254 #[.val (.int p0), .val (.int p1), .val (.int p2), .val (.int p3), .val (.ref b4), .val (.ref b5), .val (.ref b6), .val (.ref b7), .val (.ref b8), .val (.ref b149), .val (.ref s10), .val (.int (p0 &&& (3 : Int32))), .val v12, .val (.int c13), .val v14, .val v15, .val (.ref s16), .unset, .unset, .unset, .unset, .unset] [v12, (.ref s10), (.ref b246), (.ref b246)])) _
    refine XS.iload X246.here hx rfl (hb hby at_254) rfl ?_
    show Steps p.tables e below (T246.setTop (mkF m 256 #[.val (.int p0), .val (.int p1), .val (.int p2), .val (.int p3), .val (.ref b4), .val (.ref b5), .val (.ref b6), .val (.ref b7), .val (.ref b8), .val (.ref b149), .val (.ref s10), .val (.int (p0 &&& (3 : Int32))), .val v12, .val (.int c13), .val v14, .val v15, .val (.ref s16), .unset, .unset, .unset, .unset, .unset] [(.int c13), v12, (.ref s10), (.ref b246), (.ref b246)])) _
    refine XS.aload X246.here hx rfl (hb hby at_256) rfl hv14 ?_
    show Steps p.tables e below (T246.setTop (mkF m 258 #[.val (.int p0), .val (.int p1), .val (.int p2), .val (.int p3), .val (.ref b4), .val (.ref b5), .val (.ref b6), .val (.ref b7), .val (.ref b8), .val (.ref b149), .val (.ref s10), .val (.int (p0 &&& (3 : Int32))), .val v12, .val (.int c13), .val v14, .val v15, .val (.ref s16), .unset, .unset, .unset, .unset, .unset] [v14, (.int c13), v12, (.ref s10), (.ref b246), (.ref b246)])) _
    refine XS.aload X246.here hx rfl (hb hby at_258) rfl hv15 ?_
    show Steps p.tables e below (T246.setTop (mkF m 260 #[.val (.int p0), .val (.int p1), .val (.int p2), .val (.int p3), .val (.ref b4), .val (.ref b5), .val (.ref b6), .val (.ref b7), .val (.ref b8), .val (.ref b149), .val (.ref s10), .val (.int (p0 &&& (3 : Int32))), .val v12, .val (.int c13), .val v14, .val v15, .val (.ref s16), .unset, .unset, .unset, .unset, .unset] [v15, v14, (.int c13), v12, (.ref s10), (.ref b246), (.ref b246)])) _
    refine st250.trans ?_
    show Steps p.tables e below (T250.setTop (mkF m 263 #[.val (.int p0), .val (.int p1), .val (.int p2), .val (.int p3), .val (.ref b4), .val (.ref b5), .val (.ref b6), .val (.ref b7), .val (.ref b8), .val (.ref b149), .val (.ref s10), .val (.int (p0 &&& (3 : Int32))), .val v12, .val (.int c13), .val v14, .val v15, .val (.ref s16), .unset, .unset, .unset, .unset, .unset] [(.ref b246)])) _
    refine XS.astore X250.here hx rfl (hb hby at_263) rfl rfl (l' := #[.val (.int p0), .val (.int p1), .val (.int p2), .val (.int p3), .val (.ref b4), .val (.ref b5), .val (.ref b6), .val (.ref b7), .val (.ref b8), .val (.ref b149), .val (.ref s10), .val (.int (p0 &&& (3 : Int32))), .val v12, .val (.int c13), .val v14, .val v15, .val (.ref s16), .val (.ref b246), .unset, .unset, .unset, .unset]) rfl ?_
    exact hk
  have Z254 : n0 ≤ h245.size := Nat.le_trans Z241 E245.1
  have hk255 := Nat.le_trans hk242 (E245.1 : _ ≤ h245.size)
  have K256 : Keep h0 h245 [] := K243.ext E245
  have C257 := (C244.trans (CHr.ext E245 C244.1))
  obtain ⟨T258, h258, lc258, X258, e258, E258, N258, st258⟩ : ∃ (T258 : State) (h258 : Heap) (lc258 : List Loc) , Stand p l e room_1 (s.setVm vm165) m args below meth c T258 lc258 20 47 ∧ T258.heap = h258 ∧ Ext h245 h258 ∧ Fr n0 lc258 ∧ ∀ target, Steps p.tables e below (T258.setTop (mkF m 290 #[.val (.int p0), .val (.int p1), .val (.int p2), .val (.int p3), .val (.ref b4), .val (.ref b5), .val (.ref b6), .val (.ref b7), .val (.ref b8), .val (.ref b149), .val (.ref s10), .val (.int (p0 &&& (3 : Int32))), .val v12, .val (.int c13), .val v14, .val v15, .val (.ref s16), .val (.ref b17), .val (.int (1 : Int32)), .unset, .unset, .unset] [])) target → Steps p.tables e below (T245.setTop (mkF m 265 #[.val (.int p0), .val (.int p1), .val (.int p2), .val (.int p3), .val (.ref b4), .val (.ref b5), .val (.ref b6), .val (.ref b7), .val (.ref b8), .val (.ref b149), .val (.ref s10), .val (.int (p0 &&& (3 : Int32))), .val v12, .val (.int c13), .val v14, .val v15, .val (.ref s16), .val (.ref b17), .unset, .unset, .unset, .unset] [])) target := by
    obtain ⟨cq259, kq259, q259a, q259b, q259c⟩ := isOf hZ165 e245 F17.1
    obtain ⟨v259, vmx259, ⟨T259, L259, k259, n259⟩, -, X259, ⟨Lc259, hQ259, l259, y259, z259⟩, st259⟩ := X245.virtualBack hx (y := (⟨"com/example/sealwright/sealwright/cli/Option", "isFlag", "()Z"⟩ : MethodName)) (z := (⟨"com/example/sealwright/sealwright/cli/Option", "isFlag", "()Z"⟩ : MethodName)) hown165 (mvT hZ165 (hw _ (List.mem_of_getElem? (i := 52) rfl))) (mvT hZ165 (hw _ (List.mem_of_getElem? (i := 53) rfl))) (notFace_of_selects (args := #[]) (mvT hZ165 (hw _ (List.mem_of_getElem? (i := 55) rfl)))) (mvT hZ165 (hw _ (List.mem_of_getElem? (i := 55) rfl))) (mvT hZ165 (hw _ (List.mem_of_getElem? (i := 54) rfl))) (by decide) (backOf (W := 0) (rm9 l Z a0 hw [] b17 v12 h245 n0 Z254 hv12 F17.2.2.1) hZ165 (hw _ (List.mem_of_getElem? (i := 56) rfl)) (hw _ (List.mem_of_getElem? (i := 32) rfl)) (by decide) (by decide)) q259a q259c (g := (mkF m 267 #[.val (.int p0), .val (.int p1), .val (.int p2), .val (.int p3), .val (.ref b4), .val (.ref b5), .val (.ref b6), .val (.ref b7), .val (.ref b8), .val (.ref b149), .val (.ref s10), .val (.int (p0 &&& (3 : Int32))), .val v12, .val (.int c13), .val v14, .val v15, .val (.ref s16), .val (.ref b17), .unset, .unset, .unset, .unset] [(.ref b17)])) rfl (by rw [hml]; rfl) (Steps.refl _) (argsL := []) (rest := []) (lenOf own_pd4 rfl) rfl (by show 2 * 0 + _ ≤ _; exact Nat.le_of_eq rfl) (hb hby at_267) (fun _ _ => ⟨rfl, e245, (by decide : 20 + 0 ≤ _), (by decide : 47 + 0 ≤ _)⟩)
    dsimp only [Pt.U, Pt.locs, Pt.cells, Pt.slots] at X259 l259 y259 z259 st259 hQ259
    subst l259 y259 z259
    obtain ⟨z259, rfl, hz259, Nq259, eh259⟩ := hQ259
    have N259 := Fr.app N245 Nq259
    rcases hk12 with ⟨q1, q2⟩ | ⟨q1, q2⟩
    · skip
      have q3 : z259 = 1 := hz259.elim (fun q => q.2) (fun q => absurd q1 q.1)
      refine ⟨T259, _, _, own_up X259 (by decide) (by decide), eh259, own_ext (Keep.refl h245 []), N259, fun target hk => ?_⟩
      show Steps p.tables e below (T245.setTop (mkF m 265 #[.val (.int p0), .val (.int p1), .val (.int p2), .val (.int p3), .val (.ref b4), .val (.ref b5), .val (.ref b6), .val (.ref b7), .val (.ref b8), .val (.ref b149), .val (.ref s10), .val (.int (p0 &&& (3 : Int32))), .val v12, .val (.int c13), .val v14, .val v15, .val (.ref s16), .val (.ref b17), .unset, .unset, .unset, .unset] [])) _
      refine XS.aload X245.here hx rfl (hb hby at_265) rfl rfl ?_
      show Steps p.tables e below (T245.setTop (mkF m 267 #[.val (.int p0), .val (.int p1), .val (.int p2), .val (.int p3), .val (.ref b4), .val (.ref b5), .val (.ref b6), .val (.ref b7), .val (.ref b8), .val (.ref b149), .val (.ref s10), .val (.int (p0 &&& (3 : Int32))), .val v12, .val (.int c13), .val v14, .val v15, .val (.ref s16), .val (.ref b17), .unset, .unset, .unset, .unset] [(.ref b17)])) _
      refine st259.trans ?_
      show Steps p.tables e below (T259.setTop (mkF m 270 #[.val (.int p0), .val (.int p1), .val (.int p2), .val (.int p3), .val (.ref b4), .val (.ref b5), .val (.ref b6), .val (.ref b7), .val (.ref b8), .val (.ref b149), .val (.ref s10), .val (.int (p0 &&& (3 : Int32))), .val v12, .val (.int c13), .val v14, .val v15, .val (.ref s16), .val (.ref b17), .unset, .unset, .unset, .unset] [(.int z259)])) _
      refine XS.iload X259.here hx rfl (hb hby at_270) rfl ?_
      show Steps p.tables e below (T259.setTop (mkF m 272 #[.val (.int p0), .val (.int p1), .val (.int p2), .val (.int p3), .val (.ref b4), .val (.ref b5), .val (.ref b6), .val (.ref b7), .val (.ref b8), .val (.ref b149), .val (.ref s10), .val (.int (p0 &&& (3 : Int32))), .val v12, .val (.int c13), .val v14, .val v15, .val (.ref s16), .val (.ref b17), .unset, .unset, .unset, .unset] [(.int (p0 &&& (3 : Int32))), (.int z259)])) _
      refine XS.ifNo X259.here hx rfl (hb hby at_272) rfl ((if0 _ _).trans (teq q2).2) ?_
      show Steps p.tables e below (T259.setTop (mkF m 275 #[.val (.int p0), .val (.int p1), .val (.int p2), .val (.int p3), .val (.ref b4), .val (.ref b5), .val (.ref b6), .val (.ref b7), .val (.ref b8), .val (.ref b149), .val (.ref s10), .val (.int (p0 &&& (3 : Int32))), .val v12, .val (.int c13), .val v14, .val v15, .val (.ref s16), .val (.ref b17), .unset, .unset, .unset, .unset] [(.int z259)])) _
      refine XS.iconst X259.here hx rfl (hb hby at_275) ?_
      show Steps p.tables e below (T259.setTop (mkF m 276 #[.val (.int p0), .val (.int p1), .val (.int p2), .val (.int p3), .val (.ref b4), .val (.ref b5), .val (.ref b6), .val (.ref b7), .val (.ref b8), .val (.ref b149), .val (.ref s10), .val (.int (p0 &&& (3 : Int32))), .val v12, .val (.int c13), .val v14, .val v15, .val (.ref s16), .val (.ref b17), .unset, .unset, .unset, .unset] [(.int (1 : Int32)), (.int z259)])) _
      refine XS.goto X259.here hx rfl (pc0 := 276) (pc' := 280) rfl (hb hby at_276) (by decide) (by decide) ?_
      show Steps p.tables e below (T259.setTop (mkF m 280 #[.val (.int p0), .val (.int p1), .val (.int p2), .val (.int p3), .val (.ref b4), .val (.ref b5), .val (.ref b6), .val (.ref b7), .val (.ref b8), .val (.ref b149), .val (.ref s10), .val (.int (p0 &&& (3 : Int32))), .val v12, .val (.int c13), .val v14, .val v15, .val (.ref s16), .val (.ref b17), .unset, .unset, .unset, .unset] [(.int (1 : Int32)), (.int z259)])) _
      refine XS.icmpNo X259.here hx rfl (hb hby at_280) rfl (teq q3).2 ?_
      show Steps p.tables e below (T259.setTop (mkF m 283 #[.val (.int p0), .val (.int p1), .val (.int p2), .val (.int p3), .val (.ref b4), .val (.ref b5), .val (.ref b6), .val (.ref b7), .val (.ref b8), .val (.ref b149), .val (.ref s10), .val (.int (p0 &&& (3 : Int32))), .val v12, .val (.int c13), .val v14, .val v15, .val (.ref s16), .val (.ref b17), .unset, .unset, .unset, .unset] [])) _
      refine XS.iconst X259.here hx rfl (hb hby at_283) ?_
      show Steps p.tables e below (T259.setTop (mkF m 284 #[.val (.int p0), .val (.int p1), .val (.int p2), .val (.int p3), .val (.ref b4), .val (.ref b5), .val (.ref b6), .val (.ref b7), .val (.ref b8), .val (.ref b149), .val (.ref s10), .val (.int (p0 &&& (3 : Int32))), .val v12, .val (.int c13), .val v14, .val v15, .val (.ref s16), .val (.ref b17), .unset, .unset, .unset, .unset] [(.int (1 : Int32))])) _
      refine XS.goto X259.here hx rfl (pc0 := 284) (pc' := 288) rfl (hb hby at_284) (by decide) (by decide) ?_
      show Steps p.tables e below (T259.setTop (mkF m 288 #[.val (.int p0), .val (.int p1), .val (.int p2), .val (.int p3), .val (.ref b4), .val (.ref b5), .val (.ref b6), .val (.ref b7), .val (.ref b8), .val (.ref b149), .val (.ref s10), .val (.int (p0 &&& (3 : Int32))), .val v12, .val (.int c13), .val v14, .val v15, .val (.ref s16), .val (.ref b17), .unset, .unset, .unset, .unset] [(.int (1 : Int32))])) _
      refine XS.istore X259.here hx rfl (hb hby at_288) rfl (l' := #[.val (.int p0), .val (.int p1), .val (.int p2), .val (.int p3), .val (.ref b4), .val (.ref b5), .val (.ref b6), .val (.ref b7), .val (.ref b8), .val (.ref b149), .val (.ref s10), .val (.int (p0 &&& (3 : Int32))), .val v12, .val (.int c13), .val v14, .val v15, .val (.ref s16), .val (.ref b17), .val (.int (1 : Int32)), .unset, .unset, .unset]) rfl ?_
      exact hk
    · skip
      have q3 : z259 = 0 := hz259.elim (fun q => absurd q.1 q1) (fun q => q.2)
      refine ⟨T259, _, _, own_up X259 (by decide) (by decide), eh259, own_ext (Keep.refl h245 []), N259, fun target hk => ?_⟩
      show Steps p.tables e below (T245.setTop (mkF m 265 #[.val (.int p0), .val (.int p1), .val (.int p2), .val (.int p3), .val (.ref b4), .val (.ref b5), .val (.ref b6), .val (.ref b7), .val (.ref b8), .val (.ref b149), .val (.ref s10), .val (.int (p0 &&& (3 : Int32))), .val v12, .val (.int c13), .val v14, .val v15, .val (.ref s16), .val (.ref b17), .unset, .unset, .unset, .unset] [])) _
      refine XS.aload X245.here hx rfl (hb hby at_265) rfl rfl ?_
      show Steps p.tables e below (T245.setTop (mkF m 267 #[.val (.int p0), .val (.int p1), .val (.int p2), .val (.int p3), .val (.ref b4), .val (.ref b5), .val (.ref b6), .val (.ref b7), .val (.ref b8), .val (.ref b149), .val (.ref s10), .val (.int (p0 &&& (3 : Int32))), .val v12, .val (.int c13), .val v14, .val v15, .val (.ref s16), .val (.ref b17), .unset, .unset, .unset, .unset] [(.ref b17)])) _
      refine st259.trans ?_
      show Steps p.tables e below (T259.setTop (mkF m 270 #[.val (.int p0), .val (.int p1), .val (.int p2), .val (.int p3), .val (.ref b4), .val (.ref b5), .val (.ref b6), .val (.ref b7), .val (.ref b8), .val (.ref b149), .val (.ref s10), .val (.int (p0 &&& (3 : Int32))), .val v12, .val (.int c13), .val v14, .val v15, .val (.ref s16), .val (.ref b17), .unset, .unset, .unset, .unset] [(.int z259)])) _
      refine XS.iload X259.here hx rfl (hb hby at_270) rfl ?_
      show Steps p.tables e below (T259.setTop (mkF m 272 #[.val (.int p0), .val (.int p1), .val (.int p2), .val (.int p3), .val (.ref b4), .val (.ref b5), .val (.ref b6), .val (.ref b7), .val (.ref b8), .val (.ref b149), .val (.ref s10), .val (.int (p0 &&& (3 : Int32))), .val v12, .val (.int c13), .val v14, .val v15, .val (.ref s16), .val (.ref b17), .unset, .unset, .unset, .unset] [(.int (p0 &&& (3 : Int32))), (.int z259)])) _
      refine XS.ifYes X259.here hx rfl (pc0 := 272) (pc' := 279) rfl (hb hby at_272) rfl ((if0 _ _).trans (feq q2).2) (by decide) (by decide) ?_
      show Steps p.tables e below (T259.setTop (mkF m 279 #[.val (.int p0), .val (.int p1), .val (.int p2), .val (.int p3), .val (.ref b4), .val (.ref b5), .val (.ref b6), .val (.ref b7), .val (.ref b8), .val (.ref b149), .val (.ref s10), .val (.int (p0 &&& (3 : Int32))), .val v12, .val (.int c13), .val v14, .val v15, .val (.ref s16), .val (.ref b17), .unset, .unset, .unset, .unset] [(.int z259)])) _
      refine XS.iconst X259.here hx rfl (hb hby at_279) ?_
      show Steps p.tables e below (T259.setTop (mkF m 280 #[.val (.int p0), .val (.int p1), .val (.int p2), .val (.int p3), .val (.ref b4), .val (.ref b5), .val (.ref b6), .val (.ref b7), .val (.ref b8), .val (.ref b149), .val (.ref s10), .val (.int (p0 &&& (3 : Int32))), .val v12, .val (.int c13), .val v14, .val v15, .val (.ref s16), .val (.ref b17), .unset, .unset, .unset, .unset] [(.int (0 : Int32)), (.int z259)])) _
      refine XS.icmpNo X259.here hx rfl (hb hby at_280) rfl (teq q3).2 ?_
      show Steps p.tables e below (T259.setTop (mkF m 283 #[.val (.int p0), .val (.int p1), .val (.int p2), .val (.int p3), .val (.ref b4), .val (.ref b5), .val (.ref b6), .val (.ref b7), .val (.ref b8), .val (.ref b149), .val (.ref s10), .val (.int (p0 &&& (3 : Int32))), .val v12, .val (.int c13), .val v14, .val v15, .val (.ref s16), .val (.ref b17), .unset, .unset, .unset, .unset] [])) _
      refine XS.iconst X259.here hx rfl (hb hby at_283) ?_
      show Steps p.tables e below (T259.setTop (mkF m 284 #[.val (.int p0), .val (.int p1), .val (.int p2), .val (.int p3), .val (.ref b4), .val (.ref b5), .val (.ref b6), .val (.ref b7), .val (.ref b8), .val (.ref b149), .val (.ref s10), .val (.int (p0 &&& (3 : Int32))), .val v12, .val (.int c13), .val v14, .val v15, .val (.ref s16), .val (.ref b17), .unset, .unset, .unset, .unset] [(.int (1 : Int32))])) _
      refine XS.goto X259.here hx rfl (pc0 := 284) (pc' := 288) rfl (hb hby at_284) (by decide) (by decide) ?_
      show Steps p.tables e below (T259.setTop (mkF m 288 #[.val (.int p0), .val (.int p1), .val (.int p2), .val (.int p3), .val (.ref b4), .val (.ref b5), .val (.ref b6), .val (.ref b7), .val (.ref b8), .val (.ref b149), .val (.ref s10), .val (.int (p0 &&& (3 : Int32))), .val v12, .val (.int c13), .val v14, .val v15, .val (.ref s16), .val (.ref b17), .unset, .unset, .unset, .unset] [(.int (1 : Int32))])) _
      refine XS.istore X259.here hx rfl (hb hby at_288) rfl (l' := #[.val (.int p0), .val (.int p1), .val (.int p2), .val (.int p3), .val (.ref b4), .val (.ref b5), .val (.ref b6), .val (.ref b7), .val (.ref b8), .val (.ref b149), .val (.ref s10), .val (.int (p0 &&& (3 : Int32))), .val v12, .val (.int c13), .val v14, .val v15, .val (.ref s16), .val (.ref b17), .val (.int (1 : Int32)), .unset, .unset, .unset]) rfl ?_
      exact hk
  have Z260 : n0 ≤ h258.size := Nat.le_trans Z254 E258.1
  have hk261 := Nat.le_trans hk255 (E258.1 : _ ≤ h258.size)
  have K262 : Keep h0 h258 [] := K256.ext E258
  have C263 := (C257.trans (CHr.ext E258 C257.1))
  obtain ⟨v264, vmx264, ⟨T264, L264, k264, n264⟩, -, X264, ⟨Lc264, hQ264, l264, y264, z264⟩, st264⟩ := Jvm.LawKit.callS X258 hx (y := (⟨"com/example/sealwright/sealwright/cli/Option", "flag", "(Ljava/lang/String;Ljava/lang/String;)Lcom/example/sealwright/sealwright/cli/Option;"⟩ : MethodName)) hown165 (mvT hZ165 (hw _ (List.mem_of_getElem? (i := 57) rfl))) (mvT hZ165 (hw _ (List.mem_of_getElem? (i := 58) rfl))) (mvT hZ165 (hw _ (List.mem_of_getElem? (i := 32) rfl))) (mvT hZ165 (hw _ (List.mem_of_getElem? (i := 59) rfl))) (by decide) (backOf (W := 0) (rm10 l Z a0 hw [] (.ref s10) v15 h258 n0 Z260 rfl hv15) hZ165 (hw _ (List.mem_of_getElem? (i := 59) rfl)) (hw _ (List.mem_of_getElem? (i := 32) rfl)) (by decide) (by decide)) (g := (mkF m 294 #[.val (.int p0), .val (.int p1), .val (.int p2), .val (.int p3), .val (.ref b4), .val (.ref b5), .val (.ref b6), .val (.ref b7), .val (.ref b8), .val (.ref b149), .val (.ref s10), .val (.int (p0 &&& (3 : Int32))), .val v12, .val (.int c13), .val v14, .val v15, .val (.ref s16), .val (.ref b17), .val (.int (1 : Int32)), .unset, .unset, .unset] [v15, (.ref s10)])) rfl (by rw [hml]; rfl) (argsL := [(.ref s10), v15]) (rest := []) (lenOf own_pd5 rfl) rfl (by show 2 * 0 + _ ≤ _; exact Nat.le_of_eq rfl) (hb hby at_294) (fun _ _ => ⟨rfl, e258, (by decide : 20 + 1 ≤ _), (by decide : 47 + 5 ≤ _)⟩)
  dsimp only [Pt.U, Pt.locs, Pt.cells, Pt.slots] at X264 l264 y264 z264 st264 hQ264
  subst l264 y264 z264
  obtain ⟨f19, rfl, Nq264, E264, G19⟩ := hQ264
  have N264 := Fr.app N258 Nq264
  have Z265 : n0 ≤ T264.heap.size := Nat.le_trans Z260 E264.1
  have hk266 := Nat.le_trans hk261 (E264.1 : _ ≤ T264.heap.size)
  have K267 : Keep h0 T264.heap [] := K262.ext E264
  have C268 := (C263.trans (CHr.ext E264 C263.1))
  obtain ⟨cq269, kq269, q269a, q269b, q269c⟩ := isOf hZ165 rfl G19.1
  obtain ⟨v269, vmx269, ⟨T269, L269, k269, n269⟩, -, X269, ⟨Lc269, hQ269, l269, y269, z269⟩, st269⟩ := X264.virtualBack hx (y := (⟨"com/example/sealwright/sealwright/cli/Option", "isFlag", "()Z"⟩ : MethodName)) (z := (⟨"com/example/sealwright/sealwright/cli/Option", "isFlag", "()Z"⟩ : MethodName)) hown165 (mvT hZ165 (hw _ (List.mem_of_getElem? (i := 52) rfl))) (mvT hZ165 (hw _ (List.mem_of_getElem? (i := 53) rfl))) (notFace_of_selects (args := #[]) (mvT hZ165 (hw _ (List.mem_of_getElem? (i := 55) rfl)))) (mvT hZ165 (hw _ (List.mem_of_getElem? (i := 55) rfl))) (mvT hZ165 (hw _ (List.mem_of_getElem? (i := 54) rfl))) (by decide) (backOf (W := 0) (rm9 l Z a0 hw [] f19 .null T264.heap n0 Z265 rfl G19.2.2.1) hZ165 (hw _ (List.mem_of_getElem? (i := 56) rfl)) (hw _ (List.mem_of_getElem? (i := 32) rfl)) (by decide) (by decide)) q269a q269c (g := (mkF m 297 #[.val (.int p0), .val (.int p1), .val (.int p2), .val (.int p3), .val (.ref b4), .val (.ref b5), .val (.ref b6), .val (.ref b7), .val (.ref b8), .val (.ref b149), .val (.ref s10), .val (.int (p0 &&& (3 : Int32))), .val v12, .val (.int c13), .val v14, .val v15, .val (.ref s16), .val (.ref b17), .val (.int (1 : Int32)), .unset, .unset, .unset] [(.ref f19)])) rfl (by rw [hml]; rfl) (Steps.refl _) (argsL := []) (rest := []) (lenOf own_pd4 rfl) rfl (by show 2 * 0 + _ ≤ _; exact Nat.le_of_eq rfl) (hb hby at_297) (fun _ _ => ⟨rfl, rfl, (by decide : 21 + 0 ≤ _), (by decide : 52 + 0 ≤ _)⟩)
  dsimp only [Pt.U, Pt.locs, Pt.cells, Pt.slots] at X269 l269 y269 z269 st269 hQ269
  subst l269 y269 z269
  obtain ⟨z269, rfl, hz269, Nq269, eh269⟩ := hQ269
  have N269 := Fr.app N264 Nq269
  obtain rfl : z269 = 1 := hz269.elim (fun q => q.2) (fun q => absurd rfl q.1)
  obtain ⟨v270, vmx270, ⟨T270, L270, k270, n270⟩, -, X270, ⟨Lc270, hQ270, l270, y270, z270⟩, st270⟩ := Jvm.LawKit.callS X269 hx (y := (⟨"com/example/sealwright/sealwright/cli/Option", "required", "(Ljava/lang/String;Ljava/lang/String;Ljava/lang/String;)Lcom/example/sealwright/sealwright/cli/Option;"⟩ : MethodName)) hown165 (mvT hZ165 (hw _ (List.mem_of_getElem? (i := 62) rfl))) (mvT hZ165 (hw _ (List.mem_of_getElem? (i := 63) rfl))) (mvT hZ165 (hw _ (List.mem_of_getElem? (i := 32) rfl))) (mvT hZ165 (hw _ (List.mem_of_getElem? (i := 64) rfl))) (by decide) (backOf (W := 0) (rm11 l Z a0 hw [] (.ref s10) (.ref s16) v15 T264.heap n0 Z265 rfl rfl hv15) hZ165 (hw _ (List.mem_of_getElem? (i := 64) rfl)) (hw _ (List.mem_of_getElem? (i := 32) rfl)) (by decide) (by decide)) (g := (mkF m 308 #[.val (.int p0), .val (.int p1), .val (.int p2), .val (.int p3), .val (.ref b4), .val (.ref b5), .val (.ref b6), .val (.ref b7), .val (.ref b8), .val (.ref b149), .val (.ref s10), .val (.int (p0 &&& (3 : Int32))), .val v12, .val (.int c13), .val v14, .val v15, .val (.ref s16), .val (.ref b17), .val (.int (1 : Int32)), .val (.int (1 : Int32)), .unset, .unset] [v15, (.ref s16), (.ref s10)])) rfl (by rw [hml]; rfl) (argsL := [(.ref s10), (.ref s16), v15]) (rest := []) (lenOf own_pd6 rfl) rfl (by show 2 * 0 + _ ≤ _; exact Nat.le_of_eq rfl) (hb hby at_308) (fun _ _ => ⟨rfl, eh269, (by decide : 21 + 1 ≤ _), (by decide : 52 + 5 ≤ _)⟩)
  dsimp only [Pt.U, Pt.locs, Pt.cells, Pt.slots] at X270 l270 y270 z270 st270 hQ270
  subst l270 y270 z270
  obtain ⟨f20, rfl, Nq270, E270, G20⟩ := hQ270
  have N270 := Fr.app N269 Nq270
  have Z271 : n0 ≤ T270.heap.size := Nat.le_trans Z265 E270.1
  have hk272 := Nat.le_trans hk266 (E270.1 : _ ≤ T270.heap.size)
  have K273 : Keep h0 T270.heap [] := K267.ext E270
  have C274 := (C268.trans (CHr.ext E270 C268.1))
  obtain ⟨cq275, kq275, q275a, q275b, q275c⟩ := isOf hZ165 rfl G20.1
  obtain ⟨v275, vmx275, ⟨T275, L275, k275, n275⟩, -, X275, ⟨Lc275, hQ275, l275, y275, z275⟩, st275⟩ := X270.virtualBack hx (y := (⟨"com/example/sealwright/sealwright/cli/Option", "isFlag", "()Z"⟩ : MethodName)) (z := (⟨"com/example/sealwright/sealwright/cli/Option", "isFlag", "()Z"⟩ : MethodName)) hown165 (mvT hZ165 (hw _ (List.mem_of_getElem? (i := 52) rfl))) (mvT hZ165 (hw _ (List.mem_of_getElem? (i := 53) rfl))) (notFace_of_selects (args := #[]) (mvT hZ165 (hw _ (List.mem_of_getElem? (i := 55) rfl)))) (mvT hZ165 (hw _ (List.mem_of_getElem? (i := 55) rfl))) (mvT hZ165 (hw _ (List.mem_of_getElem? (i := 54) rfl))) (by decide) (backOf (W := 0) (rm9 l Z a0 hw [] f20 (.ref s16) T270.heap n0 Z271 rfl G20.2.2.1) hZ165 (hw _ (List.mem_of_getElem? (i := 56) rfl)) (hw _ (List.mem_of_getElem? (i := 32) rfl)) (by decide) (by decide)) q275a q275c (g := (mkF m 311 #[.val (.int p0), .val (.int p1), .val (.int p2), .val (.int p3), .val (.ref b4), .val (.ref b5), .val (.ref b6), .val (.ref b7), .val (.ref b8), .val (.ref b149), .val (.ref s10), .val (.int (p0 &&& (3 : Int32))), .val v12, .val (.int c13), .val v14, .val v15, .val (.ref s16), .val (.ref b17), .val (.int (1 : Int32)), .val (.int (1 : Int32)), .unset, .unset] [(.ref f20)])) rfl (by rw [hml]; rfl) (Steps.refl _) (argsL := []) (rest := []) (lenOf own_pd4 rfl) rfl (by show 2 * 0 + _ ≤ _; exact Nat.le_of_eq rfl) (hb hby at_311) (fun _ _ => ⟨rfl, rfl, (by decide : 22 + 0 ≤ _), (by decide : 57 + 0 ≤ _)⟩)
  dsimp only [Pt.U, Pt.locs, Pt.cells, Pt.slots] at X275 l275 y275 z275 st275 hQ275
  subst l275 y275 z275
  obtain ⟨z275, rfl, hz275, Nq275, eh275⟩ := hQ275
  have N275 := Fr.app N270 Nq275
  obtain rfl : z275 = 0 := hz275.elim (fun q => nomatch q.1) (fun q => q.2)
  obtain ⟨v276, vmx276, ⟨T276, L276, k276, n276⟩, -, X276, ⟨Lc276, hQ276, l276, y276, z276⟩, st276⟩ := Jvm.LawKit.callS X275 hx (y := (⟨"com/example/sealwright/sealwright/cli/Option", "withDefault", "(Ljava/lang/String;Ljava/lang/String;Ljava/lang/String;Ljava/lang/String;)Lcom/example/sealwright/sealwright/cli/Option;"⟩ : MethodName)) hown165 (mvT hZ165 (hw _ (List.mem_of_getElem? (i := 65) rfl))) (mvT hZ165 (hw _ (List.mem_of_getElem? (i := 66) rfl))) (mvT hZ165 (hw _ (List.mem_of_getElem? (i := 32) rfl))) (mvT hZ165 (hw _ (List.mem_of_getElem? (i := 67) rfl))) (by decide) (backOf (W := 0) (rm12 l Z a0 hw [] (.ref s10) (.ref s16) v14 v15 T270.heap n0 Z271 rfl rfl hv14 hv15) hZ165 (hw _ (List.mem_of_getElem? (i := 67) rfl)) (hw _ (List.mem_of_getElem? (i := 32) rfl)) (by decide) (by decide)) (g := (mkF m 332 #[.val (.int p0), .val (.int p1), .val (.int p2), .val (.int p3), .val (.ref b4), .val (.ref b5), .val (.ref b6), .val (.ref b7), .val (.ref b8), .val (.ref b149), .val (.ref s10), .val (.int (p0 &&& (3 : Int32))), .val v12, .val (.int c13), .val v14, .val v15, .val (.ref s16), .val (.ref b17), .val (.int (1 : Int32)), .val (.int (1 : Int32)), .val (.int (1 : Int32)), .unset] [v15, v14, (.ref s16), (.ref s10)])) rfl (by rw [hml]; rfl) (argsL := [(.ref s10), (.ref s16), v14, v15]) (rest := []) (lenOf own_pd7 rfl) rfl (by show 2 * 0 + _ ≤ _; exact Nat.le_of_eq rfl) (hb hby at_332) (fun _ _ => ⟨rfl, eh275, (by decide : 22 + 1 ≤ _), (by decide : 57 + 5 ≤ _)⟩)
  dsimp only [Pt.U, Pt.locs, Pt.cells, Pt.slots] at X276 l276 y276 z276 st276 hQ276
  subst l276 y276 z276
  obtain ⟨f21, rfl, Nq276, E276, G21⟩ := hQ276
  have N276 := Fr.app N275 Nq276
  have Z277 : n0 ≤ T276.heap.size := Nat.le_trans Z271 E276.1
  have hk278 := Nat.le_trans hk272 (E276.1 : _ ≤ T276.heap.size)
  have K279 : Keep h0 T276.heap [] := K273.ext E276
  have C280 := (C274.trans (CHr.ext E276 C274.1))
  obtain ⟨cq281, kq281, q281a, q281b, q281c⟩ := isOf hZ165 rfl G21.1
  obtain ⟨v281, vmx281, ⟨T281, L281, k281, n281⟩, -, X281, ⟨Lc281, hQ281, l281, y281, z281⟩, st281⟩ := X276.virtualBack hx (y := (⟨"com/example/sealwright/sealwright/cli/Option", "isFlag", "()Z"⟩ : MethodName)) (z := (⟨"com/example/sealwright/sealwright/cli/Option", "isFlag", "()Z"⟩ : MethodName)) hown165 (mvT hZ165 (hw _ (List.mem_of_getElem? (i := 52) rfl))) (mvT hZ165 (hw _ (List.mem_of_getElem? (i := 53) rfl))) (notFace_of_selects (args := #[]) (mvT hZ165 (hw _ (List.mem_of_getElem? (i := 55) rfl)))) (mvT hZ165 (hw _ (List.mem_of_getElem? (i := 55) rfl))) (mvT hZ165 (hw _ (List.mem_of_getElem? (i := 54) rfl))) (by decide) (backOf (W := 0) (rm9 l Z a0 hw [] f21 (.ref s16) T276.heap n0 Z277 rfl G21.2.2.1) hZ165 (hw _ (List.mem_of_getElem? (i := 56) rfl)) (hw _ (List.mem_of_getElem? (i := 32) rfl)) (by decide) (by decide)) q281a q281c (g := (mkF m 335 #[.val (.int p0), .val (.int p1), .val (.int p2), .val (.int p3), .val (.ref b4), .val (.ref b5), .val (.ref b6), .val (.ref b7), .val (.ref b8), .val (.ref b149), .val (.ref s10), .val (.int (p0 &&& (3 : Int32))), .val v12, .val (.int c13), .val v14, .val v15, .val (.ref s16), .val (.ref b17), .val (.int (1 : Int32)), .val (.int (1 : Int32)), .val (.int (1 : Int32)), .unset] [(.ref f21)])) rfl (by rw [hml]; rfl) (Steps.refl _) (argsL := []) (rest := []) (lenOf own_pd4 rfl) rfl (by show 2 * 0 + _ ≤ _; exact Nat.le_of_eq rfl) (hb hby at_335) (fun _ _ => ⟨rfl, rfl, (by decide : 23 + 0 ≤ _), (by decide : 62 + 0 ≤ _)⟩)
  dsimp only [Pt.U, Pt.locs, Pt.cells, Pt.slots] at X281 l281 y281 z281 st281 hQ281
  subst l281 y281 z281
  obtain ⟨z281, rfl, hz281, Nq281, eh281⟩ := hQ281
  have N281 := Fr.app N276 Nq281
  obtain rfl : z281 = 0 := hz281.elim (fun q => nomatch q.1) (fun q => q.2)
  obtain ⟨fs, hr, hrun, hended, hW⟩ := Stand.leaveW (s := s) (vm₁ := vm165) X281 hS165 (by rw [eh281]; exact hk278) (v := some (.int (1 : Int32))) (fun h => by rw [hret0] at h; cases h)
  refine ⟨_, _, pre0 _ ?_, hrun, hended, _, _, rfl, ?_, own_chr (T := T281) hh eh281 (C280.trans (CHv.at (s := s) (vm0 := vm165) X281 hZ165 hEL C280.1)), own_wmono hW (by decide) (by decide)⟩
  · show Steps p.tables e below (s₁.setTop (mkF m 0 #[.val (.int p0), .val (.int p1), .val (.int p2), .val (.int p3), .unset, .unset, .unset, .unset, .unset, .unset, .unset, .unset, .unset, .unset, .unset, .unset, .unset, .unset, .unset, .unset, .unset, .unset] [])) _
    refine st90 _ ?_
    show Steps p.tables e below (T90.setTop (mkF m 14 #[.val (.int p0), .val (.int p1), .val (.int p2), .val (.int p3), .val (.ref b4), .unset, .unset, .unset, .unset, .unset, .unset, .unset, .unset, .unset, .unset, .unset, .unset, .unset, .unset, .unset, .unset, .unset] [])) _
    refine st100 _ ?_
    show Steps p.tables e below (T100.setTop (mkF m 40 #[.val (.int p0), .val (.int p1), .val (.int p2), .val (.int p3), .val (.ref b4), .val (.ref b5), .unset, .unset, .unset, .unset, .unset, .unset, .unset, .unset, .unset, .unset, .unset, .unset, .unset, .unset, .unset, .unset] [])) _
    refine st113 _ ?_
    show Steps p.tables e below (T113.setTop (mkF m 64 #[.val (.int p0), .val (.int p1), .val (.int p2), .val (.int p3), .val (.ref b4), .val (.ref b5), .val (.ref b6), .unset, .unset, .unset, .unset, .unset, .unset, .unset, .unset, .unset, .unset, .unset, .unset, .unset, .unset, .unset] [])) _
    refine st129 _ ?_
    show Steps p.tables e below (T129.setTop (mkF m 78 #[.val (.int p0), .val (.int p1), .val (.int p2), .val (.int p3), .val (.ref b4), .val (.ref b5), .val (.ref b6), .val (.ref b7), .unset, .unset, .unset, .unset, .unset, .unset, .unset, .unset, .unset, .unset, .unset, .unset, .unset, .unset] [])) _
    refine st139 _ ?_
    show Steps p.tables e below (T139.setTop (mkF m 95 #[.val (.int p0), .val (.int p1), .val (.int p2), .val (.int p3), .val (.ref b4), .val (.ref b5), .val (.ref b6), .val (.ref b7), .val (.ref b8), .unset, .unset, .unset, .unset, .unset, .unset, .unset, .unset, .unset, .unset, .unset, .unset, .unset] [])) _
    refine XS.iconst X139.here hx rfl (hb hby at_95) ?_
    show Steps p.tables e below (T139.setTop (mkF m 96 #[.val (.int p0), .val (.int p1), .val (.int p2), .val (.int p3), .val (.ref b4), .val (.ref b5), .val (.ref b6), .val (.ref b7), .val (.ref b8), .unset, .unset, .unset, .unset, .unset, .unset, .unset, .unset, .unset, .unset, .unset, .unset, .unset] [(.int (0 : Int32))])) _
    refine st149 _ ?_
    show Steps p.tables e below (T149.setTop (mkF m 98 #[.val (.int p0), .val (.int p1), .val (.int p2), .val (.int p3), .val (.ref b4), .val (.ref b5), .val (.ref b6), .val (.ref b7), .val (.ref b8), .unset, .unset, .unset, .unset, .unset, .unset, .unset, .unset, .unset, .unset, .unset, .unset, .unset] [(.ref b149)])) _
    refine XS.astore X149.here hx rfl (hb hby at_98) rfl rfl (l' := #[.val (.int p0), .val (.int p1), .val (.int p2), .val (.int p3), .val (.ref b4), .val (.ref b5), .val (.ref b6), .val (.ref b7), .val (.ref b8), .val (.ref b149), .unset, .unset, .unset, .unset, .unset, .unset, .unset, .unset, .unset, .unset, .unset, .unset]) rfl ?_
    show Steps p.tables e below (T149.setTop (mkF m 100 #[.val (.int p0), .val (.int p1), .val (.int p2), .val (.int p3), .val (.ref b4), .val (.ref b5), .val (.ref b6), .val (.ref b7), .val (.ref b8), .val (.ref b149), .unset, .unset, .unset, .unset, .unset, .unset, .unset, .unset, .unset, .unset, .unset, .unset] [])) _
    refine st153 _ ?_
    show Steps p.tables e below (T153.setTop (mkF m 111 #[.val (.int p0), .val (.int p1), .val (.int p2), .val (.int p3), .val (.ref b4), .val (.ref b5), .val (.ref b6), .val (.ref b7), .val (.ref b8), .val (.ref b149), .val (.ref s10), .unset, .unset, .unset, .unset, .unset, .unset, .unset, .unset, .unset, .unset, .unset] [])) _
    refine XS.iloadN X153.here hx rfl (hb hby at_111) rfl ?_
    show Steps p.tables e below (T153.setTop (mkF m 112 #[.val (.int p0), .val (.int p1), .val (.int p2), .val (.int p3), .val (.ref b4), .val (.ref b5), .val (.ref b6), .val (.ref b7), .val (.ref b8), .val (.ref b149), .val (.ref s10), .unset, .unset, .unset, .unset, .unset, .unset, .unset, .unset, .unset, .unset, .unset] [(.int p0)])) _
    refine XS.iconst X153.here hx rfl (hb hby at_112) ?_
    show Steps p.tables e below (T153.setTop (mkF m 113 #[.val (.int p0), .val (.int p1), .val (.int p2), .val (.int p3), .val (.ref b4), .val (.ref b5), .val (.ref b6), .val (.ref b7), .val (.ref b8), .val (.ref b149), .val (.ref s10), .unset, .unset, .unset, .unset, .unset, .unset, .unset, .unset, .unset, .unset, .unset] [(.int (3 : Int32)), (.int p0)])) _
    refine XS.iand X153.here hx rfl (hb hby at_113) rfl ?_
    show Steps p.tables e below (T153.setTop (mkF m 114 #[.val (.int p0), .val (.int p1), .val (.int p2), .val (.int p3), .val (.ref b4), .val (.ref b5), .val (.ref b6), .val (.ref b7), .val (.ref b8), .val (.ref b149), .val (.ref s10), .unset, .unset, .unset, .unset, .unset, .unset, .unset, .unset, .unset, .unset, .unset] [(.int (p0 &&& (3 : Int32)))])) _
    refine XS.istore X153.here hx rfl (hb hby at_114) rfl (l' := #[.val (.int p0), .val (.int p1), .val (.int p2), .val (.int p3), .val (.ref b4), .val (.ref b5), .val (.ref b6), .val (.ref b7), .val (.ref b8), .val (.ref b149), .val (.ref s10), .val (.int (p0 &&& (3 : Int32))), .unset, .unset, .unset, .unset, .unset, .unset, .unset, .unset, .unset, .unset]) rfl ?_
    show Steps p.tables e below (T153.setTop (mkF m 116 #[.val (.int p0), .val (.int p1), .val (.int p2), .val (.int p3), .val (.ref b4), .val (.ref b5), .val (.ref b6), .val (.ref b7), .val (.ref b8), .val (.ref b149), .val (.ref s10), .val (.int (p0 &&& (3 : Int32))), .unset, .unset, .unset, .unset, .unset, .unset, .unset, .unset, .unset, .unset] [])) _
    refine st165 _ ?_
    show Steps p.tables e below (T165.setTop (mkF m 176 #[.val (.int p0), .val (.int p1), .val (.int p2), .val (.int p3), .val (.ref b4), .val (.ref b5), .val (.ref b6), .val (.ref b7), .val (.ref b8), .val (.ref b149), .val (.ref s10), .val (.int (p0 &&& (3 : Int32))), .val v12, .unset, .unset, .unset, .unset, .unset, .unset, .unset, .unset, .unset] [])) _
    refine XS.iloadN X165.here hx rfl (hb hby at_176) rfl ?_
    show Steps p.tables e below (T165.setTop (mkF m 177 #[.val (.int p0), .val (.int p1), .val (.int p2), .val (.int p3), .val (.ref b4), .val (.ref b5), .val (.ref b6), .val (.ref b7), .val (.ref b8), .val (.ref b149), .val (.ref s10), .val (.int (p0 &&& (3 : Int32))), .val v12, .unset, .unset, .unset, .unset, .unset, .unset, .unset, .unset, .unset] [(.int p0)])) _
    refine XS.iconst X165.here hx rfl (hb hby at_177) ?_
    show Steps p.tables e below (T165.setTop (mkF m 178 #[.val (.int p0), .val (.int p1), .val (.int p2), .val (.int p3), .val (.ref b4), .val (.ref b5), .val (.ref b6), .val (.ref b7), .val (.ref b8), .val (.ref b149), .val (.ref s10), .val (.int (p0 &&& (3 : Int32))), .val v12, .unset, .unset, .unset, .unset, .unset, .unset, .unset, .unset, .unset] [(.int (2 : Int32)), (.int p0)])) _
    refine XS.iushr X165.here hx rfl (hb hby at_178) rfl ?_
    show Steps p.tables e below (T165.setTop (mkF m 179 #[.val (.int p0), .val (.int p1), .val (.int p2), .val (.int p3), .val (.ref b4), .val (.ref b5), .val (.ref b6), .val (.ref b7), .val (.ref b8), .val (.ref b149), .val (.ref s10), .val (.int (p0 &&& (3 : Int32))), .val v12, .unset, .unset, .unset, .unset, .unset, .unset, .unset, .unset, .unset] [(.int ((p0.toUInt32 >>> ((2 : Int32) &&& 31).toUInt32).toInt32))])) _
    refine XS.iconst X165.here hx rfl (hb hby at_179) ?_
    show Steps p.tables e below (T165.setTop (mkF m 180 #[.val (.int p0), .val (.int p1), .val (.int p2), .val (.int p3), .val (.ref b4), .val (.ref b5), .val (.ref b6), .val (.ref b7), .val (.ref b8), .val (.ref b149), .val (.ref s10), .val (.int (p0 &&& (3 : Int32))), .val v12, .unset, .unset, .unset, .unset, .unset, .unset, .unset, .unset, .unset] [(.int (1 : Int32)), (.int ((p0.toUInt32 >>> ((2 : Int32) &&& 31).toUInt32).toInt32))])) _
    refine XS.iand X165.here hx rfl (hb hby at_180) rfl ?_
    show Steps p.tables e below (T165.setTop (mkF m 181 #[.val (.int p0), .val (.int p1), .val (.int p2), .val (.int p3), .val (.ref b4), .val (.ref b5), .val (.ref b6), .val (.ref b7), .val (.ref b8), .val (.ref b149), .val (.ref s10), .val (.int (p0 &&& (3 : Int32))), .val v12, .unset, .unset, .unset, .unset, .unset, .unset, .unset, .unset, .unset] [(.int (((p0.toUInt32 >>> ((2 : Int32) &&& 31).toUInt32).toInt32) &&& (1 : Int32)))])) _
    refine st199 _ ?_
    show Steps p.tables e below (T165.setTop (mkF m 189 #[.val (.int p0), .val (.int p1), .val (.int p2), .val (.int p3), .val (.ref b4), .val (.ref b5), .val (.ref b6), .val (.ref b7), .val (.ref b8), .val (.ref b149), .val (.ref s10), .val (.int (p0 &&& (3 : Int32))), .val v12, .unset, .unset, .unset, .unset, .unset, .unset, .unset, .unset, .unset] [(.int c13)])) _
    refine XS.istore X165.here hx rfl (hb hby at_189) rfl (l' := #[.val (.int p0), .val (.int p1), .val (.int p2), .val (.int p3), .val (.ref b4), .val (.ref b5), .val (.ref b6), .val (.ref b7), .val (.ref b8), .val (.ref b149), .val (.ref s10), .val (.int (p0 &&& (3 : Int32))), .val v12, .val (.int c13), .unset, .unset, .unset, .unset, .unset, .unset, .unset, .unset]) rfl ?_
    show Steps p.tables e below (T165.setTop (mkF m 191 #[.val (.int p0), .val (.int p1), .val (.int p2), .val (.int p3), .val (.ref b4), .val (.ref b5), .val (.ref b6), .val (.ref b7), .val (.ref b8), .val (.ref b149), .val (.ref s10), .val (.int (p0 &&& (3 : Int32))), .val v12, .val (.int c13), .unset, .unset, .unset, .unset, .unset, .unset, .unset, .unset] [])) _
    refine XS.aconstNull X165.here hx rfl (hb hby at_191) ?_
    show Steps p.tables e below (T165.setTop (mkF m 192 #[.val (.int p0), .val (.int p1), .val (.int p2), .val (.int p3), .val (.ref b4), .val (.ref b5), .val (.ref b6), .val (.ref b7), .val (.ref b8), .val (.ref b149), .val (.ref s10), .val (.int (p0 &&& (3 : Int32))), .val v12, .val (.int c13), .unset, .unset, .unset, .unset, .unset, .unset, .unset, .unset] [.null])) _
    refine XS.astore X165.here hx rfl (hb hby at_192) rfl rfl (l' := #[.val (.int p0), .val (.int p1), .val (.int p2), .val (.int p3), .val (.ref b4), .val (.ref b5), .val (.ref b6), .val (.ref b7), .val (.ref b8), .val (.ref b149), .val (.ref s10), .val (.int (p0 &&& (3 : Int32))), .val v12, .val (.int c13), .val .null, .unset, .unset, .unset, .unset, .unset, .unset, .unset]) rfl ?_
    show Steps p.tables e below (T165.setTop (mkF m 194 #[.val (.int p0), .val (.int p1), .val (.int p2), .val (.int p3), .val (.ref b4), .val (.ref b5), .val (.ref b6), .val (.ref b7), .val (.ref b8), .val (.ref b149), .val (.ref s10), .val (.int (p0 &&& (3 : Int32))), .val v12, .val (.int c13), .val .null, .unset, .unset, .unset, .unset, .unset, .unset, .unset] [])) _
    refine XS.iloadN X165.here hx rfl (hb hby at_194) rfl ?_
    show Steps p.tables e below (T165.setTop (mkF m 195 #[.val (.int p0), .val (.int p1), .val (.int p2), .val (.int p3), .val (.ref b4), .val (.ref b5), .val (.ref b6), .val (.ref b7), .val (.ref b8), .val (.ref b149), .val (.ref s10), .val (.int (p0 &&& (3 : Int32))), .val v12, .val (.int c13), .val .null, .unset, .unset, .unset, .unset, .unset, .unset, .unset] [(.int p0)])) _
    refine XS.iconst X165.here hx rfl (hb hby at_195) ?_
    show Steps p.tables e below (T165.setTop (mkF m 196 #[.val (.int p0), .val (.int p1), .val (.int p2), .val (.int p3), .val (.ref b4), .val (.ref b5), .val (.ref b6), .val (.ref b7), .val (.ref b8), .val (.ref b149), .val (.ref s10), .val (.int (p0 &&& (3 : Int32))), .val v12, .val (.int c13), .val .null, .unset, .unset, .unset, .unset, .unset, .unset, .unset] [(.int (3 : Int32)), (.int p0)])) _
    refine XS.iushr X165.here hx rfl (hb hby at_196) rfl ?_
    show Steps p.tables e below (T165.setTop (mkF m 197 #[.val (.int p0), .val (.int p1), .val (.int p2), .val (.int p3), .val (.ref b4), .val (.ref b5), .val (.ref b6), .val (.ref b7), .val (.ref b8), .val (.ref b149), .val (.ref s10), .val (.int (p0 &&& (3 : Int32))), .val v12, .val (.int c13), .val .null, .unset, .unset, .unset, .unset, .unset, .unset, .unset] [(.int ((p0.toUInt32 >>> ((3 : Int32) &&& 31).toUInt32).toInt32))])) _
    refine XS.iconst X165.here hx rfl (hb hby at_197) ?_
    show Steps p.tables e below (T165.setTop (mkF m 198 #[.val (.int p0), .val (.int p1), .val (.int p2), .val (.int p3), .val (.ref b4), .val (.ref b5), .val (.ref b6), .val (.ref b7), .val (.ref b8), .val (.ref b149), .val (.ref s10), .val (.int (p0 &&& (3 : Int32))), .val v12, .val (.int c13), .val .null, .unset, .unset, .unset, .unset, .unset, .unset, .unset] [(.int (1 : Int32)), (.int ((p0.toUInt32 >>> ((3 : Int32) &&& 31).toUInt32).toInt32))])) _
    refine XS.iand X165.here hx rfl (hb hby at_198) rfl ?_
    show Steps p.tables e below (T165.setTop (mkF m 199 #[.val (.int p0), .val (.int p1), .val (.int p2), .val (.int p3), .val (.ref b4), .val (.ref b5), .val (.ref b6), .val (.ref b7), .val (.ref b8), .val (.ref b149), .val (.ref s10), .val (.int (p0 &&& (3 : Int32))), .val v12, .val (.int c13), .val .null, .unset, .unset, .unset, .unset, .unset, .unset, .unset] [(.int (((p0.toUInt32 >>> ((3 : Int32) &&& 31).toUInt32).toInt32) &&& (1 : Int32)))])) _
    refine st200 _ ?_
    show Steps p.tables e below (T200.setTop (mkF m 213 #[.val (.int p0), .val (.int p1), .val (.int p2), .val (.int p3), .val (.ref b4), .val (.ref b5), .val (.ref b6), .val (.ref b7), .val (.ref b8), .val (.ref b149), .val (.ref s10), .val (.int (p0 &&& (3 : Int32))), .val v12, .val (.int c13), .val v14, .unset, .unset, .unset, .unset, .unset, .unset, .unset] [])) _
    refine XS.aconstNull X200.here hx rfl (hb hby at_213) ?_
    show Steps p.tables e below (T200.setTop (mkF m 214 #[.val (.int p0), .val (.int p1), .val (.int p2), .val (.int p3), .val (.ref b4), .val (.ref b5), .val (.ref b6), .val (.ref b7), .val (.ref b8), .val (.ref b149), .val (.ref s10), .val (.int (p0 &&& (3 : Int32))), .val v12, .val (.int c13), .val v14, .unset, .unset, .unset, .unset, .unset, .unset, .unset] [.null])) _
    refine XS.astore X200.here hx rfl (hb hby at_214) rfl rfl (l' := #[.val (.int p0), .val (.int p1), .val (.int p2), .val (.int p3), .val (.ref b4), .val (.ref b5), .val (.ref b6), .val (.ref b7), .val (.ref b8), .val (.ref b149), .val (.ref s10), .val (.int (p0 &&& (3 : Int32))), .val v12, .val (.int c13), .val v14, .val .null, .unset, .unset, .unset, .unset, .unset, .unset]) rfl ?_
    show Steps p.tables e below (T200.setTop (mkF m 216 #[.val (.int p0), .val (.int p1), .val (.int p2), .val (.int p3), .val (.ref b4), .val (.ref b5), .val (.ref b6), .val (.ref b7), .val (.ref b8), .val (.ref b149), .val (.ref s10), .val (.int (p0 &&& (3 : Int32))), .val v12, .val (.int c13), .val v14, .val .null, .unset, .unset, .unset, .unset, .unset, .unset] [])) _
    refine XS.iloadN X200.here hx rfl (hb hby at_216) rfl ?_
    show Steps p.tables e below (T200.setTop (mkF m 217 #[.val (.int p0), .val (.int p1), .val (.int p2), .val (.int p3), .val (.ref b4), .val (.ref b5), .val (.ref b6), .val (.ref b7), .val (.ref b8), .val (.ref b149), .val (.ref s10), .val (.int (p0 &&& (3 : Int32))), .val v12, .val (.int c13), .val v14, .val .null, .unset, .unset, .unset, .unset, .unset, .unset] [(.int p0)])) _
    refine XS.iconst X200.here hx rfl (hb hby at_217) ?_
    show Steps p.tables e below (T200.setTop (mkF m 218 #[.val (.int p0), .val (.int p1), .val (.int p2), .val (.int p3), .val (.ref b4), .val (.ref b5), .val (.ref b6), .val (.ref b7), .val (.ref b8), .val (.ref b149), .val (.ref s10), .val (.int (p0 &&& (3 : Int32))), .val v12, .val (.int c13), .val v14, .val .null, .unset, .unset, .unset, .unset, .unset, .unset] [(.int (4 : Int32)), (.int p0)])) _
    refine XS.iushr X200.here hx rfl (hb hby at_218) rfl ?_
    show Steps p.tables e below (T200.setTop (mkF m 219 #[.val (.int p0), .val (.int p1), .val (.int p2), .val (.int p3), .val (.ref b4), .val (.ref b5), .val (.ref b6), .val (.ref b7), .val (.ref b8), .val (.ref b149), .val (.ref s10), .val (.int (p0 &&& (3 : Int32))), .val v12, .val (.int c13), .val v14, .val .null, .unset, .unset, .unset, .unset, .unset, .unset] [(.int ((p0.toUInt32 >>> ((4 : Int32) &&& 31).toUInt32).toInt32))])) _
    refine XS.iconst X200.here hx rfl (hb hby at_219) ?_
    show Steps p.tables e below (T200.setTop (mkF m 220 #[.val (.int p0), .val (.int p1), .val (.int p2), .val (.int p3), .val (.ref b4), .val (.ref b5), .val (.ref b6), .val (.ref b7), .val (.ref b8), .val (.ref b149), .val (.ref s10), .val (.int (p0 &&& (3 : Int32))), .val v12, .val (.int c13), .val v14, .val .null, .unset, .unset, .unset, .unset, .unset, .unset] [(.int (1 : Int32)), (.int ((p0.toUInt32 >>> ((4 : Int32) &&& 31).toUInt32).toInt32))])) _
    refine XS.iand X200.here hx rfl (hb hby at_220) rfl ?_
    show Steps p.tables e below (T200.setTop (mkF m 221 #[.val (.int p0), .val (.int p1), .val (.int p2), .val (.int p3), .val (.ref b4), .val (.ref b5), .val (.ref b6), .val (.ref b7), .val (.ref b8), .val (.ref b149), .val (.ref s10), .val (.int (p0 &&& (3 : Int32))), .val v12, .val (.int c13), .val v14, .val .null, .unset, .unset, .unset, .unset, .unset, .unset] [(.int (((p0.toUInt32 >>> ((4 : Int32) &&& 31).toUInt32).toInt32) &&& (1 : Int32)))])) _
    refine st215 _ ?_
    show Steps p.tables e below (T215.setTop (mkF m 235 #[.val (.int p0), .val (.int p1), .val (.int p2), .val (.int p3), .val (.ref b4), .val (.ref b5), .val (.ref b6), .val (.ref b7), .val (.ref b8), .val (.ref b149), .val (.ref s10), .val (.int (p0 &&& (3 : Int32))), .val v12, .val (.int c13), .val v14, .val v15, .unset, .unset, .unset, .unset, .unset, .unset] [])) _
    refine st230 _ ?_
    show Steps p.tables e below (T230.setTop (mkF m 246 #[.val (.int p0), .val (.int p1), .val (.int p2), .val (.int p3), .val (.ref b4), .val (.ref b5), .val (.ref b6), .val (.ref b7), .val (.ref b8), .val (.ref b149), .val (.ref s10), .val (.int (p0 &&& (3 : Int32))), .val v12, .val (.int c13), .val v14, .val v15, .val (.ref s16), .unset, .unset, .unset, .unset, .unset] [])) _
    refine st245 _ ?_
    show Steps p.tables e below (T245.setTop (mkF m 265 #[.val (.int p0), .val (.int p1), .val (.int p2), .val (.int p3), .val (.ref b4), .val (.ref b5), .val (.ref b6), .val (.ref b7), .val (.ref b8), .val (.ref b149), .val (.ref s10), .val (.int (p0 &&& (3 : Int32))), .val v12, .val (.int c13), .val v14, .val v15, .val (.ref s16), .val (.ref b17), .unset, .unset, .unset, .unset] [])) _
    refine st258 _ ?_
    show Steps p.tables e below (T258.setTop (mkF m 290 #[.val (.int p0), .val (.int p1), .val (.int p2), .val (.int p3), .val (.ref b4), .val (.ref b5), .val (.ref b6), .val (.ref b7), .val (.ref b8), .val (.ref b149), .val (.ref s10), .val (.int (p0 &&& (3 : Int32))), .val v12, .val (.int c13), .val v14, .val v15, .val (.ref s16), .val (.ref b17), .val (.int (1 : Int32)), .unset, .unset, .unset] [])) _
    refine XS.aload X258.here hx rfl (hb hby at_290) rfl rfl ?_
    show Steps p.tables e below (T258.setTop (mkF m 292 #[.val (.int p0), .val (.int p1), .val (.int p2), .val (.int p3), .val (.ref b4), .val (.ref b5), .val (.ref b6), .val (.ref b7), .val (.ref b8), .val (.ref b149), .val (.ref s10), .val (.int (p0 &&& (3 : Int32))), .val v12, .val (.int c13), .val v14, .val v15, .val (.ref s16), .val (.ref b17), .val (.int (1 : Int32)), .unset, .unset, .unset] [(.ref s10)])) _
    refine XS.aload X258.here hx rfl (hb hby at_292) rfl hv15 ?_
    show Steps p.tables e below (T258.setTop (mkF m 294 #[.val (.int p0), .val (.int p1), .val (.int p2), .val (.int p3), .val (.ref b4), .val (.ref b5), .val (.ref b6), .val (.ref b7), .val (.ref b8), .val (.ref b149), .val (.ref s10), .val (.int (p0 &&& (3 : Int32))), .val v12, .val (.int c13), .val v14, .val v15, .val (.ref s16), .val (.ref b17), .val (.int (1 : Int32)), .unset, .unset, .unset] [v15, (.ref s10)])) _
    refine st264 _ ?_
    show Steps p.tables e below (T264.setTop (mkF m 297 #[.val (.int p0), .val (.int p1), .val (.int p2), .val (.int p3), .val (.ref b4), .val (.ref b5), .val (.ref b6), .val (.ref b7), .val (.ref b8), .val (.ref b149), .val (.ref s10), .val (.int (p0 &&& (3 : Int32))), .val v12, .val (.int c13), .val v14, .val v15, .val (.ref s16), .val (.ref b17), .val (.int (1 : Int32)), .unset, .unset, .unset] [(.ref f19)])) _
    refine st269.trans ?_
    show Steps p.tables e below (T269.setTop (mkF m 300 #[.val (.int p0), .val (.int p1), .val (.int p2), .val (.int p3), .val (.ref b4), .val (.ref b5), .val (.ref b6), .val (.ref b7), .val (.ref b8), .val (.ref b149), .val (.ref s10), .val (.int (p0 &&& (3 : Int32))), .val v12, .val (.int c13), .val v14, .val v15, .val (.ref s16), .val (.ref b17), .val (.int (1 : Int32)), .unset, .unset, .unset] [(.int (1 : Int32))])) _
    refine XS.istore X269.here hx rfl (hb hby at_300) rfl (l' := #[.val (.int p0), .val (.int p1), .val (.int p2), .val (.int p3), .val (.ref b4), .val (.ref b5), .val (.ref b6), .val (.ref b7), .val (.ref b8), .val (.ref b149), .val (.ref s10), .val (.int (p0 &&& (3 : Int32))), .val v12, .val (.int c13), .val v14, .val v15, .val (.ref s16), .val (.ref b17), .val (.int (1 : Int32)), .val (.int (1 : Int32)), .unset, .unset]) rfl ?_
    show Steps p.tables e below (T269.setTop (mkF m 302 #[.val (.int p0), .val (.int p1), .val (.int p2), .val (.int p3), .val (.ref b4), .val (.ref b5), .val (.ref b6), .val (.ref b7), .val (.ref b8), .val (.ref b149), .val (.ref s10), .val (.int (p0 &&& (3 : Int32))), .val v12, .val (.int c13), .val v14, .val v15, .val (.ref s16), .val (.ref b17), .val (.int (1 : Int32)), .val (.int (1 : Int32)), .unset, .unset] [])) _
    refine XS.aload X269.here hx rfl (hb hby at_302) rfl rfl ?_
    show Steps p.tables e below (T269.setTop (mkF m 304 #[.val (.int p0), .val (.int p1), .val (.int p2), .val (.int p3), .val (.ref b4), .val (.ref b5), .val (.ref b6), .val (.ref b7), .val (.ref b8), .val (.ref b149), .val (.ref s10), .val (.int (p0 &&& (3 : Int32))), .val v12, .val (.int c13), .val v14, .val v15, .val (.ref s16), .val (.ref b17), .val (.int (1 : Int32)), .val (.int (1 : Int32)), .unset, .unset] [(.ref s10)])) _
    refine XS.aload X269.here hx rfl (hb hby at_304) rfl rfl ?_
    show Steps p.tables e below (T269.setTop (mkF m 306 #[.val (.int p0), .val (.int p1), .val (.int p2), .val (.int p3), .val (.ref b4), .val (.ref b5), .val (.ref b6), .val (.ref b7), .val (.ref b8), .val (.ref b149), .val (.ref s10), .val (.int (p0 &&& (3 : Int32))), .val v12, .val (.int c13), .val v14, .val v15, .val (.ref s16), .val (.ref b17), .val (.int (1 : Int32)), .val (.int (1 : Int32)), .unset, .unset] [(.ref s16), (.ref s10)])) _
    refine XS.aload X269.here hx rfl (hb hby at_306) rfl hv15 ?_
    show Steps p.tables e below (T269.setTop (mkF m 308 #[.val (.int p0), .val (.int p1), .val (.int p2), .val (.int p3), .val (.ref b4), .val (.ref b5), .val (.ref b6), .val (.ref b7), .val (.ref b8), .val (.ref b149), .val (.ref s10), .val (.int (p0 &&& (3 : Int32))), .val v12, .val (.int c13), .val v14, .val v15, .val (.ref s16), .val (.ref b17), .val (.int (1 : Int32)), .val (.int (1 : Int32)), .unset, .unset] [v15, (.ref s16), (.ref s10)])) _
    refine st270 _ ?_
    show Steps p.tables e below (T270.setTop (mkF m 311 #[.val (.int p0), .val (.int p1), .val (.int p2), .val (.int p3), .val (.ref b4), .val (.ref b5), .val (.ref b6), .val (.ref b7), .val (.ref b8), .val (.ref b149), .val (.ref s10), .val (.int (p0 &&& (3 : Int32))), .val v12, .val (.int c13), .val v14, .val v15, .val (.ref s16), .val (.ref b17), .val (.int (1 : Int32)), .val (.int (1 : Int32)), .unset, .unset] [(.ref f20)])) _
    refine st275.trans ?_
    show Steps p.tables e below (T275.setTop (mkF m 314 #[.val (.int p0), .val (.int p1), .val (.int p2), .val (.int p3), .val (.ref b4), .val (.ref b5), .val (.ref b6), .val (.ref b7), .val (.ref b8), .val (.ref b149), .val (.ref s10), .val (.int (p0 &&& (3 : Int32))), .val v12, .val (.int c13), .val v14, .val v15, .val (.ref s16), .val (.ref b17), .val (.int (1 : Int32)), .val (.int (1 : Int32)), .unset, .unset] [(.int (0 : Int32))])) _
    refine XS.ifNo X275.here hx rfl (hb hby at_314) rfl ((if0 _ _).trans (teq rfl).2) ?_
    show Steps p.tables e below (T275.setTop (mkF m 317 #[.val (.int p0), .val (.int p1), .val (.int p2), .val (.int p3), .val (.ref b4), .val (.ref b5), .val (.ref b6), .val (.ref b7), .val (.ref b8), .val (.ref b149), .val (.ref s10), .val (.int (p0 &&& (3 : Int32))), .val v12, .val (.int c13), .val v14, .val v15, .val (.ref s16), .val (.ref b17), .val (.int (1 : Int32)), .val (.int (1 : Int32)), .unset, .unset] [])) _
    refine XS.iconst X275.here hx rfl (hb hby at_317) ?_
    show Steps p.tables e below (T275.setTop (mkF m 318 #[.val (.int p0), .val (.int p1), .val (.int p2), .val (.int p3), .val (.ref b4), .val (.ref b5), .val (.ref b6), .val (.ref b7), .val (.ref b8), .val (.ref b149), .val (.ref s10), .val (.int (p0 &&& (3 : Int32))), .val v12, .val (.int c13), .val v14, .val v15, .val (.ref s16), .val (.ref b17), .val (.int (1 : Int32)), .val (.int (1 : Int32)), .unset, .unset] [(.int (1 : Int32))])) _
    refine XS.goto X275.here hx rfl (pc0 := 318) (pc' := 322) rfl (hb hby at_318) (by decide) (by decide) ?_
    show Steps p.tables e below (T275.setTop (mkF m 322 #[.val (.int p0), .val (.int p1), .val (.int p2), .val (.int p3), .val (.ref b4), .val (.ref b5), .val (.ref b6), .val (.ref b7), .val (.ref b8), .val (.ref b149), .val (.ref s10), .val (.int (p0 &&& (3 : Int32))), .val v12, .val (.int c13), .val v14, .val v15, .val (.ref s16), .val (.ref b17), .val (.int (1 : Int32)), .val (.int (1 : Int32)), .unset, .unset] [(.int (1 : Int32))])) _
    refine XS.istore X275.here hx rfl (hb hby at_322) rfl (l' := #[.val (.int p0), .val (.int p1), .val (.int p2), .val (.int p3), .val (.ref b4), .val (.ref b5), .val (.ref b6), .val (.ref b7), .val (.ref b8), .val (.ref b149), .val (.ref s10), .val (.int (p0 &&& (3 : Int32))), .val v12, .val (.int c13), .val v14, .val v15, .val (.ref s16), .val (.ref b17), .val (.int (1 : Int32)), .val (.int (1 : Int32)), .val (.int (1 : Int32)), .unset]) rfl ?_
    show Steps p.tables e below (T275.setTop (mkF m 324 #[.val (.int p0), .val (.int p1), .val (.int p2), .val (.int p3), .val (.ref b4), .val (.ref b5), .val (.ref b6), .val (.ref b7), .val (.ref b8), .val (.ref b149), .val (.ref s10), .val (.int (p0 &&& (3 : Int32))), .val v12, .val (.int c13), .val v14, .val v15, .val (.ref s16), .val (.ref b17), .val (.int (1 : Int32)), .val (.int (1 : Int32)), .val (.int (1 : Int32)), .unset] [])) _
    refine XS.aload X275.here hx rfl (hb hby at_324) rfl rfl ?_
    show Steps p.tables e below (T275.setTop (mkF m 326 #[.val (.int p0), .val (.int p1), .val (.int p2), .val (.int p3), .val (.ref b4), .val (.ref b5), .val (.ref b6), .val (.ref b7), .val (.ref b8), .val (.ref b149), .val (.ref s10), .val (.int (p0 &&& (3 : Int32))), .val v12, .val (.int c13), .val v14, .val v15, .val (.ref s16), .val (.ref b17), .val (.int (1 : Int32)), .val (.int (1 : Int32)), .val (.int (1 : Int32)), .unset] [(.ref s10)])) _
    refine XS.aload X275.here hx rfl (hb hby at_326) rfl rfl ?_
    show Steps p.tables e below (T275.setTop (mkF m 328 #[.val (.int p0), .val (.int p1), .val (.int p2), .val (.int p3), .val (.ref b4), .val (.ref b5), .val (.ref b6), .val (.ref b7), .val (.ref b8), .val (.ref b149), .val (.ref s10), .val (.int (p0 &&& (3 : Int32))), .val v12, .val (.int c13), .val v14, .val v15, .val (.ref s16), .val (.ref b17), .val (.int (1 : Int32)), .val (.int (1 : Int32)), .val (.int (1 : Int32)), .unset] [(.ref s16), (.ref s10)])) _
    refine XS.aload X275.here hx rfl (hb hby at_328) rfl hv14 ?_
    show Steps p.tables e below (T275.setTop (mkF m 330 #[.val (.int p0), .val (.int p1), .val (.int p2), .val (.int p3), .val (.ref b4), .val (.ref b5), .val (.ref b6), .val (.ref b7), .val (.ref b8), .val (.ref b149), .val (.ref s10), .val (.int (p0 &&& (3 : Int32))), .val v12, .val (.int c13), .val v14, .val v15, .val (.ref s16), .val (.ref b17), .val (.int (1 : Int32)), .val (.int (1 : Int32)), .val (.int (1 : Int32)), .unset] [v14, (.ref s16), (.ref s10)])) _
    refine XS.aload X275.here hx rfl (hb hby at_330) rfl hv15 ?_
    show Steps p.tables e below (T275.setTop (mkF m 332 #[.val (.int p0), .val (.int p1), .val (.int p2), .val (.int p3), .val (.ref b4), .val (.ref b5), .val (.ref b6), .val (.ref b7), .val (.ref b8), .val (.ref b149), .val (.ref s10), .val (.int (p0 &&& (3 : Int32))), .val v12, .val (.int c13), .val v14, .val v15, .val (.ref s16), .val (.ref b17), .val (.int (1 : Int32)), .val (.int (1 : Int32)), .val (.int (1 : Int32)), .unset] [v15, v14, (.ref s16), (.ref s10)])) _
    refine st276 _ ?_
    show Steps p.tables e below (T276.setTop (mkF m 335 #[.val (.int p0), .val (.int p1), .val (.int p2), .val (.int p3), .val (.ref b4), .val (.ref b5), .val (.ref b6), .val (.ref b7), .val (.ref b8), .val (.ref b149), .val (.ref s10), .val (.int (p0 &&& (3 : Int32))), .val v12, .val (.int c13), .val v14, .val v15, .val (.ref s16), .val (.ref b17), .val (.int (1 : Int32)), .val (.int (1 : Int32)), .val (.int (1 : Int32)), .unset] [(.ref f21)])) _
    refine st281.trans ?_
    show Steps p.tables e below (T281.setTop (mkF m 338 #[.val (.int p0), .val (.int p1), .val (.int p2), .val (.int p3), .val (.ref b4), .val (.ref b5), .val (.ref b6), .val (.ref b7), .val (.ref b8), .val (.ref b149), .val (.ref s10), .val (.int (p0 &&& (3 : Int32))), .val v12, .val (.int c13), .val v14, .val v15, .val (.ref s16), .val (.ref b17), .val (.int (1 : Int32)), .val (.int (1 : Int32)), .val (.int (1 : Int32)), .unset] [(.int (0 : Int32))])) _
    refine XS.ifNo X281.here hx rfl (hb hby at_338) rfl ((if0 _ _).trans (teq rfl).2) ?_
    show Steps p.tables e below (T281.setTop (mkF m 341 #[.val (.int p0), .val (.int p1), .val (.int p2), .val (.int p3), .val (.ref b4), .val (.ref b5), .val (.ref b6), .val (.ref b7), .val (.ref b8), .val (.ref b149), .val (.ref s10), .val (.int (p0 &&& (3 : Int32))), .val v12, .val (.int c13), .val v14, .val v15, .val (.ref s16), .val (.ref b17), .val (.int (1 : Int32)), .val (.int (1 : Int32)), .val (.int (1 : Int32)), .unset] [])) _
    refine XS.iconst X281.here hx rfl (hb hby at_341) ?_
    show Steps p.tables e below (T281.setTop (mkF m 342 #[.val (.int p0), .val (.int p1), .val (.int p2), .val (.int p3), .val (.ref b4), .val (.ref b5), .val (.ref b6), .val (.ref b7), .val (.ref b8), .val (.ref b149), .val (.ref s10), .val (.int (p0 &&& (3 : Int32))), .val v12, .val (.int c13), .val v14, .val v15, .val (.ref s16), .val (.ref b17), .val (.int (1 : Int32)), .val (.int (1 : Int32)), .val (.int (1 : Int32)), .unset] [(.int (1 : Int32))])) _
    refine XS.goto X281.here hx rfl (pc0 := 342) (pc' := 346) rfl (hb hby at_342) (by decide) (by decide) ?_
    show Steps p.tables e below (T281.setTop (mkF m 346 #[.val (.int p0), .val (.int p1), .val (.int p2), .val (.int p3), .val (.ref b4), .val (.ref b5), .val (.ref b6), .val (.ref b7), .val (.ref b8), .val (.ref b149), .val (.ref s10), .val (.int (p0 &&& (3 : Int32))), .val v12, .val (.int c13), .val v14, .val v15, .val (.ref s16), .val (.ref b17), .val (.int (1 : Int32)), .val (.int (1 : Int32)), .val (.int (1 : Int32)), .unset] [(.int (1 : Int32))])) _
    refine XS.istore X281.here hx rfl (hb hby at_346) rfl (l' := #[.val (.int p0), .val (.int p1), .val (.int p2), .val (.int p3), .val (.ref b4), .val (.ref b5), .val (.ref b6), .val (.ref b7), .val (.ref b8), .val (.ref b149), .val (.ref s10), .val (.int (p0 &&& (3 : Int32))), .val v12, .val (.int c13), .val v14, .val v15, .val (.ref s16), .val (.ref b17), .val (.int (1 : Int32)), .val (.int (1 : Int32)), .val (.int (1 : Int32)), .val (.int (1 : Int32))]) rfl ?_
    show Steps p.tables e below (T281.setTop (mkF m 348 #[.val (.int p0), .val (.int p1), .val (.int p2), .val (.int p3), .val (.ref b4), .val (.ref b5), .val (.ref b6), .val (.ref b7), .val (.ref b8), .val (.ref b149), .val (.ref s10), .val (.int (p0 &&& (3 : Int32))), .val v12, .val (.int c13), .val v14, .val v15, .val (.ref s16), .val (.ref b17), .val (.int (1 : Int32)), .val (.int (1 : Int32)), .val (.int (1 : Int32)), .val (.int (1 : Int32))] [])) _
    refine XS.iload X281.here hx rfl (hb hby at_348) rfl ?_
    show Steps p.tables e below (T281.setTop (mkF m 350 #[.val (.int p0), .val (.int p1), .val (.int p2), .val (.int p3), .val (.ref b4), .val (.ref b5), .val (.ref b6), .val (.ref b7), .val (.ref b8), .val (.ref b149), .val (.ref s10), .val (.int (p0 &&& (3 : Int32))), .val v12, .val (.int c13), .val v14, .val v15, .val (.ref s16), .val (.ref b17), .val (.int (1 : Int32)), .val (.int (1 : Int32)), .val (.int (1 : Int32)), .val (.int (1 : Int32))] [(.int (1 : Int32))])) _
    refine XS.ifNo X281.here hx rfl (hb hby at_350) rfl ((if0 _ _).trans (feq (by decide)).1) ?_
    show Steps p.tables e below (T281.setTop (mkF m 353 #[.val (.int p0), .val (.int p1), .val (.int p2), .val (.int p3), .val (.ref b4), .val (.ref b5), .val (.ref b6), .val (.ref b7), .val (.ref b8), .val (.ref b149), .val (.ref s10), .val (.int (p0 &&& (3 : Int32))), .val v12, .val (.int c13), .val v14, .val v15, .val (.ref s16), .val (.ref b17), .val (.int (1 : Int32)), .val (.int (1 : Int32)), .val (.int (1 : Int32)), .val (.int (1 : Int32))] [])) _
    refine XS.iload X281.here hx rfl (hb hby at_353) rfl ?_
    show Steps p.tables e below (T281.setTop (mkF m 355 #[.val (.int p0), .val (.int p1), .val (.int p2), .val (.int p3), .val (.ref b4), .val (.ref b5), .val (.ref b6), .val (.ref b7), .val (.ref b8), .val (.ref b149), .val (.ref s10), .val (.int (p0 &&& (3 : Int32))), .val v12, .val (.int c13), .val v14, .val v15, .val (.ref s16), .val (.ref b17), .val (.int (1 : Int32)), .val (.int (1 : Int32)), .val (.int (1 : Int32)), .val (.int (1 : Int32))] [(.int (1 : Int32))])) _
    refine XS.ifNo X281.here hx rfl (hb hby at_355) rfl ((if0 _ _).trans (feq (by decide)).1) ?_
    show Steps p.tables e below (T281.setTop (mkF m 358 #[.val (.int p0), .val (.int p1), .val (.int p2), .val (.int p3), .val (.ref b4), .val (.ref b5), .val (.ref b6), .val (.ref b7), .val (.ref b8), .val (.ref b149), .val (.ref s10), .val (.int (p0 &&& (3 : Int32))), .val v12, .val (.int c13), .val v14, .val v15, .val (.ref s16), .val (.ref b17), .val (.int (1 : Int32)), .val (.int (1 : Int32)), .val (.int (1 : Int32)), .val (.int (1 : Int32))] [])) _
    refine XS.iload X281.here hx rfl (hb hby at_358) rfl ?_
    show Steps p.tables e below (T281.setTop (mkF m 360 #[.val (.int p0), .val (.int p1), .val (.int p2), .val (.int p3), .val (.ref b4), .val (.ref b5), .val (.ref b6), .val (.ref b7), .val (.ref b8), .val (.ref b149), .val (.ref s10), .val (.int (p0 &&& (3 : Int32))), .val v12, .val (.int c13), .val v14, .val v15, .val (.ref s16), .val (.ref b17), .val (.int (1 : Int32)), .val (.int (1 : Int32)), .val (.int (1 : Int32)), .val (.int (1 : Int32))] [(.int (1 : Int32))])) _
    refine XS.ifNo X281.here hx rfl (hb hby at_360) rfl ((if0 _ _).trans (feq (by decide)).1) ?_
    show Steps p.tables e below (T281.setTop (mkF m 363 #[.val (.int p0), .val (.int p1), .val (.int p2), .val (.int p3), .val (.ref b4), .val (.ref b5), .val (.ref b6), .val (.ref b7), .val (.ref b8), .val (.ref b149), .val (.ref s10), .val (.int (p0 &&& (3 : Int32))), .val v12, .val (.int c13), .val v14, .val v15, .val (.ref s16), .val (.ref b17), .val (.int (1 : Int32)), .val (.int (1 : Int32)), .val (.int (1 : Int32)), .val (.int (1 : Int32))] [])) _
    refine XS.iload X281.here hx rfl (hb hby at_363) rfl ?_
    show Steps p.tables e below (T281.setTop (mkF m 365 #[.val (.int p0), .val (.int p1), .val (.int p2), .val (.int p3), .val (.ref b4), .val (.ref b5), .val (.ref b6), .val (.ref b7), .val (.ref b8), .val (.ref b149), .val (.ref s10), .val (.int (p0 &&& (3 : Int32))), .val v12, .val (.int c13), .val v14, .val v15, .val (.ref s16), .val (.ref b17), .val (.int (1 : Int32)), .val (.int (1 : Int32)), .val (.int (1 : Int32)), .val (.int (1 : Int32))] [(.int (1 : Int32))])) _
    refine XS.ifNo X281.here hx rfl (hb hby at_365) rfl ((if0 _ _).trans (feq (by decide)).1) ?_
    show Steps p.tables e below (T281.setTop (mkF m 368 #[.val (.int p0), .val (.int p1), .val (.int p2), .val (.int p3), .val (.ref b4), .val (.ref b5), .val (.ref b6), .val (.ref b7), .val (.ref b8), .val (.ref b149), .val (.ref s10), .val (.int (p0 &&& (3 : Int32))), .val v12, .val (.int c13), .val v14, .val v15, .val (.ref s16), .val (.ref b17), .val (.int (1 : Int32)), .val (.int (1 : Int32)), .val (.int (1 : Int32)), .val (.int (1 : Int32))] [])) _
    refine XS.iconst X281.here hx rfl (hb hby at_368) ?_
    show Steps p.tables e below (T281.setTop (mkF m 369 #[.val (.int p0), .val (.int p1), .val (.int p2), .val (.int p3), .val (.ref b4), .val (.ref b5), .val (.ref b6), .val (.ref b7), .val (.ref b8), .val (.ref b149), .val (.ref s10), .val (.int (p0 &&& (3 : Int32))), .val v12, .val (.int c13), .val v14, .val v15, .val (.ref s16), .val (.ref b17), .val (.int (1 : Int32)), .val (.int (1 : Int32)), .val (.int (1 : Int32)), .val (.int (1 : Int32))] [(.int (1 : Int32))])) _
    refine XS.goto X281.here hx rfl (pc0 := 369) (pc' := 373) rfl (hb hby at_369) (by decide) (by decide) ?_
    show Steps p.tables e below (T281.setTop (mkF m 373 #[.val (.int p0), .val (.int p1), .val (.int p2), .val (.int p3), .val (.ref b4), .val (.ref b5), .val (.ref b6), .val (.ref b7), .val (.ref b8), .val (.ref b149), .val (.ref s10), .val (.int (p0 &&& (3 : Int32))), .val v12, .val (.int c13), .val v14, .val v15, .val (.ref s16), .val (.ref b17), .val (.int (1 : Int32)), .val (.int (1 : Int32)), .val (.int (1 : Int32)), .val (.int (1 : Int32))] [(.int (1 : Int32))])) _
    exact retN X281 hx (t := .boolean) hret0 (by simp) (hb hby at_373) hr
  · show Q0 n0 _ T281.heap _
    rw [eh281]
    exact ⟨rfl, N281⟩
set_option maxRecDepth 65536 in
set_option maxHeartbeats 40000000 in
theorem comes_1 {Post : Tables → Env → Array Value → State → Outcome → State → Prop} (hpost : ∀ tb e args s v u, (limb_1_1.after args s (.returned v) u = true ∧ limb_1_2.after args s (.returned v) u = true ∧ True) → ReturnedEndW s (.returned v) u (Jvm.fieldLocs frame_1_writes args s ++ Jvm.arrayLocs frame_1_arrays args s ++ Jvm.staticLocs frame_1_statics s) 56 1216 → Post tb e args s (.returned v) u) :
    ArmFor flags0 classFile x code maxLocals ret World_1 tables_1 room_1 Calls_1 rest_1 Pre_1 Post := by
  intro l hfl _ _ p e ha hc hk s m args below hf hA hF happ hP
  obtain ⟨hcalls, hrest, hpre⟩ := hP
  obtain ⟨-, -, -, hnamed, -, -, -, hat⟩ := (Spec.applies_iff hf).mp happ
  obtain ⟨hg, hn⟩ := and_e (Cond.before_iff.mp (show (Jvm.Cond.and given_1 narrow_1).before args s = true from hpre))
  obtain ⟨g0, r0⟩ := and_e hg
  obtain ⟨g1, r1⟩ := and_e r0
  obtain ⟨g2, r2⟩ := and_e r1
  obtain ⟨g3, r3⟩ := and_e r2
  obtain ⟨w0, w1, w2, w3, rfl⟩ : ∃ w0 w1 w2 w3 : Value, args = #[w0, w1, w2, w3] := by
    have hs : args.size = 4 := by simpa [Cond.value, given_1] using g0
    obtain ⟨L⟩ := args
    match L, hs with
    | [w0, w1, w2, w3], _ => exact ⟨w0, w1, w2, w3, rfl⟩
  have hw := fun d (hd : d ∈ tables_1) => atoms_spec (ws := Jvm.Cond.code x code maxLocals ret :: tables_1) hat d (List.mem_cons_of_mem _ hd)
  have hfit : Fit s := fun {y c} hc i hi => by
    obtain ⟨ha, rfl⟩ := Array.getElem?_eq_some_iff.mp hc
    have q := List.all_eq_true.mp ((Array.all_eq_true_iff_forall_mem.mp hF) _ (Array.getElem_mem ha)) i (List.mem_range.mpr hi)
    simpa [Array.getElem?_eq_getElem hi] using q
  obtain ⟨hsets, hown0⟩ := atoms_of _ (rest_1_c_eq ▸ (show rest_1_c.before _ s = true from hrest))
  have hr0 := Cond.before_iff.mp hown0
  obtain ⟨i0, ei0⟩ := is_v g1
  obtain rfl : w0 = (.int i0) := Option.some.inj ei0
  obtain ⟨i1, ei1⟩ := is_v g2
  obtain rfl : w1 = (.int i1) := Option.some.inj ei1
  obtain ⟨i2, ei2⟩ := is_v g3
  obtain rfl : w2 = (.int i2) := Option.some.inj ei2
  obtain ⟨i3, ei3⟩ := is_v r3
  obtain rfl : w3 = (.int i3) := Option.some.inj ei3
  have n5 := not_v (Cond.before_iff.mp (hsets _ (List.mem_of_getElem? (i := 2) rfl)))
  obtain ⟨G1, e10⟩ := is_v (Cond.before_iff.mp (hsets _ (List.mem_of_getElem? (i := 1) rfl)))
  have S12 : Sta s s.heap "java/lang/String" "COMPACT_STRINGS" "Z" (.int G1) := Sta.start e10 (Or.inl (hsets _ (List.mem_of_getElem? (i := 0) rfl)))
  have c17 : ¬ (G1 = (0 : Int32)) := gotF (Cond.eq_ints e10 (Term.int_eval (0))) n5
  have hCH : CHv s EL s.vm s.heap := CHv.start (own_EL hw) hcalls.1 (hsets _ (List.mem_of_getElem? (i := 2) rfl)) (hw _ (List.mem_of_getElem? (i := 19) rfl)) (hw _ (List.mem_of_getElem? (i := 2) rfl))
  obtain ⟨n, o, h1, h2, h3, _, L, rfl, ⟨rfl, N⟩, -, hq⟩ := rm0 l s _ hw tables_1 i0 i1 i2 i3 G1 s.heap s.heap.size (Nat.le_refl _) S12 c17 (Old.start s) p e ha hc hk s m _ below hf ((Spec.applies_iff_loose hf).mp happ).1 ⟨rfl, State.Warmed39.refl s, rfl, hCH⟩ trivial
  refine ⟨n, _, h1, h2, h3, hpost _ _ _ _ _ _ ⟨Cond.after_iff.mpr rfl, Cond.after_iff.mpr (eq_i res_at (Term.int_eval (1)) rfl), trivial⟩ ⟨hq.1, hq.2.1, hq.2.2.1, (hq.2.2.2.sift fun y hy => Or.inr (N y hy)).mono (by decide) (by decide)⟩⟩
theorem main_1_1 : Claimed_1_1 := comes_1 fun _ _ _ _ _ _ h hF => ⟨h.1, hF⟩
theorem main_1_2 : Claimed_1_2 := comes_1 fun _ _ _ _ _ _ h hF => ⟨h.2.1, hF⟩
end Jvm.Pilot.@@N@@
namespace Jvm.Pilot.@@N@@
open Jvm Jvm.ClassFile Sem Op Lib Jvm.Free Jvm.Stand Jvm.Pilot.@@N@@.Jvm.D
/-! MADE BY PROGRAM (witnessworld.py) out of the Statement's table words and the real class files: 21 classes; the members and pool entries that the words name. The judged class is class 1, her method 1. -/
namespace start1
open Jvm.ClassFile
def u (s : String) : CpInfo := .utf8 (stringToUtf16 s)
/-- a pool by its gaps: so many unusable entries, then the entry; so many at the end -/
def gap : Nat → List CpInfo → List CpInfo
  | 0, r => r
  | n + 1, r => .unusable :: gap n r
def poolList (es : List (Nat × CpInfo)) (last : Nat) : List CpInfo := es.foldr (fun e r => gap e.1 (e.2 :: r)) (gap last [])
def pool (es : List (Nat × CpInfo)) (last : Nat) : Array CpInfo := ⟨poolList es last⟩
def fileOf (pool : Array CpInfo) (this : Nat) (attrs : Array Attribute := #[]) (ms : Array MethodInfo := #[]) (fl : Nat := 33) (sup : Nat := 0) (ifs : Array Nat := #[]) (fds : Array FieldInfo := #[]) : ClassFile where
  minorVersion := 0
  majorVersion := 65
  constantPool := pool
  accessFlags := fl
  thisClass := this
  superClass := sup
  interfaces := ifs
  fields := fds
  methods := ms
  attributes := attrs
def plain (name : String) (sup : Option ClassId) : Class where
  name := name
  kind := .ordinary
  loader := none
  accessFlags := 33
  super := sup
  interfaces := #[]
  cf := none
  fields := #[]
  methods := #[]
  instanceTypes := #[]
  staticTypes := #[]
  resolved := #[]
  callSites := []
  init := .initialized
  statics := none
  mirror := none

def pool0 : Array CpInfo := pool [(5, u "<init>"), (0, u "()V"), (1, .class_ 10), (1, u "java/lang/Object")] 113

def k0c0 : Code := { maxStack := 0, maxLocals := 1, code := object_method_1_code, exceptionTable := #[], attributes := #[] }
def k0m0 : Method := { name := "<init>", desc := "()V", sig := { parameters := [], returnType := none }, accessFlags := 1, code := some k0c0 }
/-- java/lang/Object -/
def k0 : Class := { plain "java/lang/Object" none with
  accessFlags := 33
  interfaces := #[]
  cf := some (fileOf pool0 8 #[] #[{ accessFlags := 1, nameIndex := 5, descriptorIndex := 6, attributes := #[] }] 33 0 #[] #[])
  fields := #[]
  methods := #[k0m0]
  instanceTypes := #[]
  staticTypes := #[]
  resolved := Array.replicate 124 none
  statics := none }

def pool1 : Array CpInfo := pool [(2, .class_ 4), (1, u "java/lang/Object"), (0, u "<init>"), (0, u "()V"), (0, .class_ 8), (0, u "java/lang/String"), (0, .methodref 7 10), (0, .nameAndType 5 11), (0, u "([C)V"), (0, .class_ 13), (0, u "com/example/sealwright/sealwright/cli/Option"), (0, .methodref 12 15), (0, .nameAndType 5 16), (0, u "(Ljava/lang/String;Ljava/lang/String;ZLjava/lang/String;Ljava/lang/String;)V"), (0, .methodref 12 18), (0, .nameAndType 19 20), (0, u "isFlag"), (0, u "()Z"), (0, .methodref 12 22), (0, .nameAndType 23 24), (0, u "flag"), (0, u "(Ljava/lang/String;Ljava/lang/String;)Lcom/example/sealwright/sealwright/cli/Option;"), (0, .methodref 12 26), (0, .nameAndType 27 28), (0, u "required"), (0, u "(Ljava/lang/String;Ljava/lang/String;Ljava/lang/String;)Lcom/example/sealwright/sealwright/cli/Option;"), (0, .methodref 12 30), (0, .nameAndType 31 32), (0, u "withDefault"), (0, u "(Ljava/lang/String;Ljava/lang/String;Ljava/lang/String;Ljava/lang/String;)Lcom/example/sealwright/sealwright/cli/Option;"), (0, .class_ 34), (0, u "com/example/sealwright/sealwright/cli/OptionIsFlagPinLaw"), (2, u "law"), (0, u "(IIII)Z")] 5

def k1m0 : Method := { name := "<init>", desc := "()V", sig := { parameters := [], returnType := none }, accessFlags := 1, code := none }
def k1c1 : Code := { maxStack := 7, maxLocals := 22, code := code, exceptionTable := #[], attributes := #[] }
def k1m1 : Method := { name := "law", desc := "(IIII)Z", sig := { parameters := [.int, .int, .int, .int], returnType := some .boolean }, accessFlags := 9, code := some k1c1 }
/-- com/example/sealwright/sealwright/cli/OptionIsFlagPinLaw -/
def k1 : Class := { plain "com/example/sealwright/sealwright/cli/OptionIsFlagPinLaw" (some 0) with
  accessFlags := 49
  interfaces := #[]
  cf := some (fileOf pool1 33 #[] #[{ accessFlags := 1, nameIndex := 5, descriptorIndex := 6, attributes := #[] }, { accessFlags := 9, nameIndex := 37, descriptorIndex := 38, attributes := #[] }] 49 2 #[] #[])
  fields := #[]
  methods := #[k1m0, k1m1]
  instanceTypes := #[]
  staticTypes := #[]
  resolved := Array.replicate 44 none
  statics := none }

def pool2 : Array CpInfo := pool [(1, .class_ 2), (0, u "java/io/Serializable"), (0, .class_ 4), (0, u "java/lang/Object")] 2

/-- java/io/Serializable -/
def k2 : Class := { plain "java/io/Serializable" (some 0) with
  accessFlags := 1537
  interfaces := #[]
  cf := some (fileOf pool2 1 #[] #[] 1537 3 #[] #[])
  fields := #[]
  methods := #[]
  instanceTypes := #[]
  staticTypes := #[]
  resolved := Array.replicate 7 none
  statics := none }

def pool3 : Array CpInfo := pool [(1, .class_ 2), (0, u "java/lang/Comparable"), (0, .class_ 4), (0, u "java/lang/Object")] 7

/-- java/lang/Comparable -/
def k3 : Class := { plain "java/lang/Comparable" (some 0) with
  accessFlags := 1537
  interfaces := #[]
  cf := some (fileOf pool3 1 #[] #[] 1537 3 #[] #[])
  fields := #[]
  methods := #[]
  instanceTypes := #[]
  staticTypes := #[]
  resolved := Array.replicate 12 none
  statics := none }

def pool4 : Array CpInfo := pool [(2, .class_ 4), (1, u "java/lang/CharSequence"), (42, .class_ 48), (0, u "java/lang/CharSequence$1CodePointIterator"), (10, .class_ 60), (0, u "java/lang/CharSequence$1CharIterator"), (5, .class_ 67), (0, u "java/lang/Object")] 63

/-- java/lang/CharSequence -/
def k4 : Class := { plain "java/lang/CharSequence" (some 0) with
  accessFlags := 1537
  interfaces := #[]
  cf := some (fileOf pool4 2 #[.nestMembers #[47, 59]] #[] 1537 66 #[] #[])
  fields := #[]
  methods := #[]
  instanceTypes := #[]
  staticTypes := #[]
  resolved := Array.replicate 131 none
  statics := none }

def pool5 : Array CpInfo := pool [(1, .class_ 2), (0, u "java/lang/constant/Constable"), (0, .class_ 4), (0, u "java/lang/Object")] 6

/-- java/lang/constant/Constable -/
def k5 : Class := { plain "java/lang/constant/Constable" (some 0) with
  accessFlags := 1537
  interfaces := #[]
  cf := some (fileOf pool5 1 #[] #[] 1537 3 #[] #[])
  fields := #[]
  methods := #[]
  instanceTypes := #[]
  staticTypes := #[]
  resolved := Array.replicate 11 none
  statics := none }

def pool6 : Array CpInfo := pool [(1, .class_ 2), (0, u "java/lang/constant/ConstantDesc"), (0, .class_ 4), (0, u "java/lang/Object")] 32

/-- java/lang/constant/ConstantDesc -/
def k6 : Class := { plain "java/lang/constant/ConstantDesc" (some 0) with
  accessFlags := 1537
  interfaces := #[]
  cf := some (fileOf pool6 1 #[] #[] 1537 3 #[] #[])
  fields := #[]
  methods := #[]
  instanceTypes := #[]
  staticTypes := #[]
  resolved := Array.replicate 37 none
  statics := none }

def pool7 : Array CpInfo := pool [(1, .methodref 2 3), (0, .class_ 4), (0, .nameAndType 5 6), (0, u "java/lang/Object"), (0, u "<init>"), (0, u "()V"), (0, .string 8), (0, u ""), (0, .fieldref 10 11), (0, .class_ 12), (0, .nameAndType 13 14), (0, u "java/lang/String"), (0, u "value"), (0, u "[B"), (0, .fieldref 10 16), (0, .nameAndType 17 18), (0, u "coder"), (0, u "B"), (2, u "hash"), (0, u "I"), (2, u "hashIsZero"), (0, u "Z"), (0, .methodref 10 28), (0, .nameAndType 5 29), (0, u "([CIILjava/lang/Void;)V"), (8, .fieldref 10 39), (0, .nameAndType 40 26), (0, u "COMPACT_STRINGS"), (1, .class_ 44), (1, u "java/lang/StringUTF16"), (0, u "compress"), (1, .methodref 42 48), (0, .nameAndType 49 50), (0, u "coderFromArrayLen"), (0, u "([BI)B"), (126, .methodref 42 178), (0, .nameAndType 45 179), (0, u "([CII)[B"), (395, .class_ 576), (0, u "java/lang/CharSequence"), (22, u "CASE_INSENSITIVE_ORDER"), (0, u "Ljava/util/Comparator;"), (409, u "([C)V"), (90, u "serialPersistentFields"), (0, u "[Ljava/io/ObjectStreamField;"), (0, .class_ 1104), (0, u "java/lang/String$CaseInsensitiveComparator"), (1, .class_ 1107), (0, u "java/io/Serializable"), (0, .class_ 1109), (0, u "java/lang/Comparable"), (0, .class_ 1111), (0, u "java/lang/constant/Constable"), (0, .class_ 1113), (0, u "java/lang/constant/ConstantDesc"), (2, u "serialVersionUID"), (0, u "J"), (3, u "REPL"), (0, u "C"), (2, u "LATIN1"), (1, u "UTF16")] 323

def k7m0 : Method := { name := "<init>", desc := "()V", sig := { parameters := [], returnType := none }, accessFlags := 1, code := none }
def k7c1 : Code := { maxStack := 5, maxLocals := 2, code := jdk_42_method_3_code, exceptionTable := #[], attributes := #[] }
def k7m1 : Method := { name := "<init>", desc := "([C)V", sig := { parameters := [(.array .char)], returnType := none }, accessFlags := 1, code := some k7c1 }
def k7c2 : Code := { maxStack := 4, maxLocals := 6, code := jdk_42_method_149_code, exceptionTable := #[], attributes := #[] }
def k7m2 : Method := { name := "<init>", desc := "([CIILjava/lang/Void;)V", sig := { parameters := [(.array .char), .int, .int, (.object "java/lang/Void")], returnType := none }, accessFlags := 2, code := some k7c2 }
/-- java/lang/String -/
def k7 : Class := { plain "java/lang/String" (some 0) with
  accessFlags := 49
  interfaces := #[2, 3, 4, 5, 6]
  cf := some (fileOf pool7 10 #[.nestMembers #[1103]] #[{ accessFlags := 1, nameIndex := 5, descriptorIndex := 6, attributes := #[] }, { accessFlags := 1, nameIndex := 5, descriptorIndex := 1010, attributes := #[] }, { accessFlags := 2, nameIndex := 5, descriptorIndex := 29, attributes := #[] }] 49 2 #[1106, 1108, 575, 1110, 1112] #[{ accessFlags := 18, nameIndex := 13, descriptorIndex := 14, attributes := #[] }, { accessFlags := 18, nameIndex := 17, descriptorIndex := 18, attributes := #[] }, { accessFlags := 2, nameIndex := 21, descriptorIndex := 22, attributes := #[] }, { accessFlags := 2, nameIndex := 25, descriptorIndex := 26, attributes := #[] }, { accessFlags := 26, nameIndex := 1116, descriptorIndex := 1117, attributes := #[] }, { accessFlags := 24, nameIndex := 40, descriptorIndex := 26, attributes := #[] }, { accessFlags := 26, nameIndex := 1101, descriptorIndex := 1102, attributes := #[] }, { accessFlags := 26, nameIndex := 1121, descriptorIndex := 1122, attributes := #[] }, { accessFlags := 25, nameIndex := 599, descriptorIndex := 600, attributes := #[] }, { accessFlags := 24, nameIndex := 1125, descriptorIndex := 18, attributes := #[] }, { accessFlags := 24, nameIndex := 1127, descriptorIndex := 18, attributes := #[] }])
  fields := #[{ name := "value", type := (.array .byte), accessFlags := 18, slot := 0, constantValue := 0 }, { name := "coder", type := .byte, accessFlags := 18, slot := 1, constantValue := 0 }, { name := "hash", type := .int, accessFlags := 2, slot := 2, constantValue := 0 }, { name := "hashIsZero", type := .boolean, accessFlags := 2, slot := 3, constantValue := 0 }, { name := "serialVersionUID", type := .long, accessFlags := 26, slot := 0, constantValue := 0 }, { name := "COMPACT_STRINGS", type := .boolean, accessFlags := 24, slot := 1, constantValue := 0 }, { name := "serialPersistentFields", type := (.array (.object "java/io/ObjectStreamField")), accessFlags := 26, slot := 2, constantValue := 0 }, { name := "REPL", type := .char, accessFlags := 26, slot := 3, constantValue := 0 }, { name := "CASE_INSENSITIVE_ORDER", type := (.object "java/util/Comparator"), accessFlags := 25, slot := 4, constantValue := 0 }, { name := "LATIN1", type := .byte, accessFlags := 24, slot := 5, constantValue := 0 }, { name := "UTF16", type := .byte, accessFlags := 24, slot := 6, constantValue := 0 }]
  methods := #[k7m0, k7m1, k7m2]
  instanceTypes := #[(.array .byte), .byte, .int, .boolean]
  staticTypes := #[.long, .boolean, (.array (.object "java/io/ObjectStreamField")), .char, (.object "java/util/Comparator"), .byte, .byte]
  resolved := Array.replicate 1451 none
  statics := some 0 }

def pool8 : Array CpInfo := pool [(6, .class_ 8), (1, u "java/lang/Object"), (0, u "<init>"), (0, u "()V"), (1, .class_ 14), (1, u "java/lang/StringUTF16"), (31, u "$assertionsDisabled"), (0, u "Z"), (13, u "HI_BYTE_SHIFT"), (0, u "I"), (2, u "LO_BYTE_SHIFT"), (49, .methodref 12 116), (0, .nameAndType 117 118), (0, u "compress"), (0, u "([CI[BII)I"), (3, u "([CII)[B"), (138, u "coderFromArrayLen"), (0, u "([BI)B"), (106, .class_ 371), (1, u "java/lang/StringUTF16$LinesSpliterator"), (58, u "MAX_LENGTH"), (196, .class_ 628), (0, u "java/lang/StringUTF16$CodePointsSpliterator"), (0, .class_ 630), (0, u "java/lang/StringUTF16$CharsSpliterator")] 4

def k8m0 : Method := { name := "<init>", desc := "()V", sig := { parameters := [], returnType := none }, accessFlags := 0, code := none }
def k8c1 : Code := { maxStack := 2, maxLocals := 2, code := jdk_52_method_15_code, exceptionTable := #[], attributes := #[] }
def k8m1 : Method := { name := "coderFromArrayLen", desc := "([BI)B", sig := { parameters := [(.array .byte), .int], returnType := some .byte }, accessFlags := 8, code := some k8c1 }
def k8c2 : Code := { maxStack := 5, maxLocals := 6, code := jdk_52_method_16_code, exceptionTable := #[], attributes := #[] }
def k8m2 : Method := { name := "compress", desc := "([CII)[B", sig := { parameters := [(.array .char), .int, .int], returnType := some (.array .byte) }, accessFlags := 9, code := some k8c2 }
def k8c3 : Code := { maxStack := 3, maxLocals := 7, code := jdk_52_method_21_code, exceptionTable := #[], attributes := #[] }
def k8m3 : Method := { name := "compress", desc := "([CI[BII)I", sig := { parameters := [(.array .char), .int, (.array .byte), .int, .int], returnType := some .int }, accessFlags := 9, code := some k8c3 }
/-- java/lang/StringUTF16 -/
def k8 : Class := { plain "java/lang/StringUTF16" (some 0) with
  accessFlags := 48
  interfaces := #[]
  cf := some (fileOf pool8 12 #[.nestMembers #[627, 629, 369]] #[{ accessFlags := 0, nameIndex := 9, descriptorIndex := 10, attributes := #[] }, { accessFlags := 8, nameIndex := 261, descriptorIndex := 262, attributes := #[] }, { accessFlags := 9, nameIndex := 117, descriptorIndex := 122, attributes := #[] }, { accessFlags := 9, nameIndex := 117, descriptorIndex := 118, attributes := #[] }] 48 6 #[] #[{ accessFlags := 26, nameIndex := 61, descriptorIndex := 62, attributes := #[] }, { accessFlags := 26, nameIndex := 65, descriptorIndex := 62, attributes := #[] }, { accessFlags := 24, nameIndex := 430, descriptorIndex := 62, attributes := #[] }, { accessFlags := 4120, nameIndex := 46, descriptorIndex := 47, attributes := #[] }])
  fields := #[{ name := "HI_BYTE_SHIFT", type := .int, accessFlags := 26, slot := 0, constantValue := 0 }, { name := "LO_BYTE_SHIFT", type := .int, accessFlags := 26, slot := 1, constantValue := 0 }, { name := "MAX_LENGTH", type := .int, accessFlags := 24, slot := 2, constantValue := 0 }, { name := "$assertionsDisabled", type := .boolean, accessFlags := 4120, slot := 3, constantValue := 0 }]
  methods := #[k8m0, k8m1, k8m2, k8m3]
  instanceTypes := #[]
  staticTypes := #[.int, .int, .int, .boolean]
  resolved := Array.replicate 635 none
  statics := none }

def pool9 : Array CpInfo := pool [(1, .methodref 2 3), (0, .class_ 4), (0, .nameAndType 5 6), (0, u "java/lang/Object"), (0, u "<init>"), (0, u "()V"), (0, .class_ 8), (0, u "java/lang/Record")] 13

def k9c0 : Code := { maxStack := 1, maxLocals := 1, code := jdk_30_method_1_code, exceptionTable := #[], attributes := #[] }
def k9m0 : Method := { name := "<init>", desc := "()V", sig := { parameters := [], returnType := none }, accessFlags := 4, code := some k9c0 }
/-- java/lang/Record -/
def k9 : Class := { plain "java/lang/Record" (some 0) with
  accessFlags := 1057
  interfaces := #[]
  cf := some (fileOf pool9 7 #[] #[{ accessFlags := 4, nameIndex := 5, descriptorIndex := 6, attributes := #[] }] 1057 2 #[] #[])
  fields := #[]
  methods := #[k9m0]
  instanceTypes := #[]
  staticTypes := #[]
  resolved := Array.replicate 22 none
  statics := none }

def pool10 : Array CpInfo := pool [(1, .methodref 2 3), (0, .class_ 4), (0, .nameAndType 5 6), (0, u "java/lang/Record"), (0, u "<init>"), (0, u "()V"), (0, .fieldref 8 9), (0, .class_ 10), (0, .nameAndType 11 12), (0, u "com/example/sealwright/sealwright/cli/Option"), (0, u "name"), (0, u "Ljava/lang/String;"), (0, .fieldref 8 14), (0, .nameAndType 15 12), (0, u "value"), (0, .fieldref 8 17), (0, .nameAndType 18 19), (0, u "required"), (0, u "Z"), (0, .fieldref 8 21), (0, .nameAndType 22 12), (0, u "fallback"), (0, .fieldref 8 24), (0, .nameAndType 25 12), (0, u "description"), (0, .methodref 8 27), (0, .nameAndType 5 28), (0, u "(Ljava/lang/String;Ljava/lang/String;ZLjava/lang/String;Ljava/lang/String;)V"), (15, u "(Ljava/lang/String;Ljava/lang/String;Ljava/lang/String;)Lcom/example/sealwright/sealwright/cli/Option;"), (0, u "withDefault"), (0, u "(Ljava/lang/String;Ljava/lang/String;Ljava/lang/String;Ljava/lang/String;)Lcom/example/sealwright/sealwright/cli/Option;"), (1, u "flag"), (0, u "(Ljava/lang/String;Ljava/lang/String;)Lcom/example/sealwright/sealwright/cli/Option;"), (0, u "isFlag"), (0, u "()Z")] 28

def k10c0 : Code := { maxStack := 2, maxLocals := 6, code := prog_5_method_1_code, exceptionTable := #[], attributes := #[] }
def k10m0 : Method := { name := "<init>", desc := "(Ljava/lang/String;Ljava/lang/String;ZLjava/lang/String;Ljava/lang/String;)V", sig := { parameters := [(.object "java/lang/String"), (.object "java/lang/String"), .boolean, (.object "java/lang/String"), (.object "java/lang/String")], returnType := none }, accessFlags := 1, code := some k10c0 }
def k10c1 : Code := { maxStack := 7, maxLocals := 3, code := prog_5_method_2_code, exceptionTable := #[], attributes := #[] }
def k10m1 : Method := { name := "required", desc := "(Ljava/lang/String;Ljava/lang/String;Ljava/lang/String;)Lcom/example/sealwright/sealwright/cli/Option;", sig := { parameters := [(.object "java/lang/String"), (.object "java/lang/String"), (.object "java/lang/String")], returnType := some (.object "com/example/sealwright/sealwright/cli/Option") }, accessFlags := 9, code := some k10c1 }
def k10c2 : Code := { maxStack := 7, maxLocals := 4, code := prog_5_method_3_code, exceptionTable := #[], attributes := #[] }
def k10m2 : Method := { name := "withDefault", desc := "(Ljava/lang/String;Ljava/lang/String;Ljava/lang/String;Ljava/lang/String;)Lcom/example/sealwright/sealwright/cli/Option;", sig := { parameters := [(.object "java/lang/String"), (.object "java/lang/String"), (.object "java/lang/String"), (.object "java/lang/String")], returnType := some (.object "com/example/sealwright/sealwright/cli/Option") }, accessFlags := 9, code := some k10c2 }
def k10c3 : Code := { maxStack := 7, maxLocals := 2, code := prog_5_method_5_code, exceptionTable := #[], attributes := #[] }
def k10m3 : Method := { name := "flag", desc := "(Ljava/lang/String;Ljava/lang/String;)Lcom/example/sealwright/sealwright/cli/Option;", sig := { parameters := [(.object "java/lang/String"), (.object "java/lang/String")], returnType := some (.object "com/example/sealwright/sealwright/cli/Option") }, accessFlags := 9, code := some k10c3 }
def k10c4 : Code := { maxStack := 1, maxLocals := 1, code := prog_5_method_6_code, exceptionTable := #[], attributes := #[] }
def k10m4 : Method := { name := "isFlag", desc := "()Z", sig := { parameters := [], returnType := some .boolean }, accessFlags := 1, code := some k10c4 }
/-- com/example/sealwright/sealwright/cli/Option -/
def k10 : Class := { plain "com/example/sealwright/sealwright/cli/Option" (some 9) with
  accessFlags := 49
  interfaces := #[]
  cf := some (fileOf pool10 8 #[] #[{ accessFlags := 1, nameIndex := 5, descriptorIndex := 28, attributes := #[] }, { accessFlags := 9, nameIndex := 18, descriptorIndex := 44, attributes := #[] }, { accessFlags := 9, nameIndex := 45, descriptorIndex := 46, attributes := #[] }, { accessFlags := 9, nameIndex := 48, descriptorIndex := 49, attributes := #[] }, { accessFlags := 1, nameIndex := 50, descriptorIndex := 51, attributes := #[] }] 49 2 #[] #[{ accessFlags := 18, nameIndex := 11, descriptorIndex := 12, attributes := #[] }, { accessFlags := 18, nameIndex := 15, descriptorIndex := 12, attributes := #[] }, { accessFlags := 18, nameIndex := 18, descriptorIndex := 19, attributes := #[] }, { accessFlags := 18, nameIndex := 22, descriptorIndex := 12, attributes := #[] }, { accessFlags := 18, nameIndex := 25, descriptorIndex := 12, attributes := #[] }])
  fields := #[{ name := "name", type := (.object "java/lang/String"), accessFlags := 18, slot := 0, constantValue := 0 }, { name := "value", type := (.object "java/lang/String"), accessFlags := 18, slot := 1, constantValue := 0 }, { name := "required", type := .boolean, accessFlags := 18, slot := 2, constantValue := 0 }, { name := "fallback", type := (.object "java/lang/String"), accessFlags := 18, slot := 3, constantValue := 0 }, { name := "description", type := (.object "java/lang/String"), accessFlags := 18, slot := 4, constantValue := 0 }]
  methods := #[k10m0, k10m1, k10m2, k10m3, k10m4]
  instanceTypes := #[(.object "java/lang/String"), (.object "java/lang/String"), .boolean, (.object "java/lang/String"), (.object "java/lang/String")]
  staticTypes := #[]
  resolved := Array.replicate 80 none
  statics := none }

def pool11 : Array CpInfo := pool [(4, .class_ 6), (1, u "java/lang/Object"), (0, u "<init>"), (0, u "()V"), (5, .class_ 16), (1, u "java/lang/StringLatin1"), (104, u "$assertionsDisabled"), (0, u "Z"), (98, .class_ 223), (1, u "java/lang/StringLatin1$LinesSpliterator"), (166, .class_ 391), (0, u "java/lang/StringLatin1$CharsSpliterator")] 3

def k11m0 : Method := { name := "<init>", desc := "()V", sig := { parameters := [], returnType := none }, accessFlags := 0, code := none }
/-- java/lang/StringLatin1 -/
def k11 : Class := { plain "java/lang/StringLatin1" (some 0) with
  accessFlags := 48
  interfaces := #[]
  cf := some (fileOf pool11 14 #[.nestMembers #[390, 221]] #[{ accessFlags := 0, nameIndex := 7, descriptorIndex := 8, attributes := #[] }] 48 4 #[] #[{ accessFlags := 4120, nameIndex := 121, descriptorIndex := 122, attributes := #[] }])
  fields := #[{ name := "$assertionsDisabled", type := .boolean, accessFlags := 4120, slot := 0, constantValue := 0 }]
  methods := #[k11m0]
  instanceTypes := #[]
  staticTypes := #[.boolean]
  resolved := Array.replicate 395 none
  statics := none }

def pool12 : Array CpInfo := pool [(2, .class_ 4), (1, u "java/lang/Object"), (0, u "<init>"), (0, u "()V"), (17, .class_ 26), (1, u "jdk/internal/util/Preconditions"), (28, .class_ 56), (0, u "jdk/internal/util/Preconditions$4"), (57, .class_ 115), (0, u "jdk/internal/util/Preconditions$1"), (7, u "SIOOBE_FORMATTER"), (0, u "Ljava/util/function/BiFunction;"), (0, .class_ 126), (0, u "jdk/internal/util/Preconditions$2"), (3, u "AIOOBE_FORMATTER"), (0, .class_ 132), (0, u "jdk/internal/util/Preconditions$3"), (3, u "IOOBE_FORMATTER")] 57

def k12m0 : Method := { name := "<init>", desc := "()V", sig := { parameters := [], returnType := none }, accessFlags := 1, code := none }
/-- jdk/internal/util/Preconditions -/
def k12 : Class := { plain "jdk/internal/util/Preconditions" (some 0) with
  accessFlags := 33
  interfaces := #[]
  cf := some (fileOf pool12 24 #[.nestMembers #[55, 131, 125, 114]] #[{ accessFlags := 1, nameIndex := 5, descriptorIndex := 6, attributes := #[] }] 33 2 #[] #[{ accessFlags := 25, nameIndex := 123, descriptorIndex := 124, attributes := #[] }, { accessFlags := 25, nameIndex := 130, descriptorIndex := 124, attributes := #[] }, { accessFlags := 25, nameIndex := 136, descriptorIndex := 124, attributes := #[] }])
  fields := #[{ name := "SIOOBE_FORMATTER", type := (.object "java/util/function/BiFunction"), accessFlags := 25, slot := 0, constantValue := 0 }, { name := "AIOOBE_FORMATTER", type := (.object "java/util/function/BiFunction"), accessFlags := 25, slot := 1, constantValue := 0 }, { name := "IOOBE_FORMATTER", type := (.object "java/util/function/BiFunction"), accessFlags := 25, slot := 2, constantValue := 0 }]
  methods := #[k12m0]
  instanceTypes := #[]
  staticTypes := #[(.object "java/util/function/BiFunction"), (.object "java/util/function/BiFunction"), (.object "java/util/function/BiFunction")]
  resolved := Array.replicate 194 none
  statics := some 1 }

def pool13 : Array CpInfo := pool [(9, u "<init>"), (6, .class_ 18), (1, u "java/lang/Object"), (0, u "()V"), (1, .class_ 23), (1, u "jdk/internal/util/ArraysSupport"), (0, u "LOG2_ARRAY_LONG_INDEX_SCALE"), (0, u "I"), (2, u "U"), (0, u "Ljdk/internal/misc/Unsafe;"), (8, u "BIG_ENDIAN"), (0, u "Z"), (8, u "LOG2_BYTE_BIT_SIZE"), (4, u "LOG2_ARRAY_INT_INDEX_SCALE"), (54, u "JLA"), (0, u "Ljdk/internal/access/JavaLangAccess;"), (11, u "LOG2_ARRAY_BOOLEAN_INDEX_SCALE"), (9, u "LOG2_ARRAY_BYTE_INDEX_SCALE"), (5, u "LOG2_ARRAY_CHAR_INDEX_SCALE"), (5, u "LOG2_ARRAY_SHORT_INDEX_SCALE"), (18, u "LOG2_ARRAY_FLOAT_INDEX_SCALE"), (24, u "LOG2_ARRAY_DOUBLE_INDEX_SCALE"), (89, u "T_BOOLEAN"), (2, u "T_CHAR"), (1, u "T_FLOAT"), (1, u "T_DOUBLE"), (1, u "T_BYTE"), (1, u "T_SHORT"), (1, u "T_INT"), (1, u "T_LONG"), (1, u "SOFT_MAX_ARRAY_LENGTH")] 83

def k13m0 : Method := { name := "<init>", desc := "()V", sig := { parameters := [], returnType := none }, accessFlags := 2, code := none }
/-- jdk/internal/util/ArraysSupport -/
def k13 : Class := { plain "jdk/internal/util/ArraysSupport" (some 0) with
  accessFlags := 33
  interfaces := #[]
  cf := some (fileOf pool13 21 #[] #[{ accessFlags := 2, nameIndex := 9, descriptorIndex := 19, attributes := #[] }] 33 16 #[] #[{ accessFlags := 24, nameIndex := 28, descriptorIndex := 29, attributes := #[] }, { accessFlags := 26, nameIndex := 38, descriptorIndex := 39, attributes := #[] }, { accessFlags := 25, nameIndex := 121, descriptorIndex := 25, attributes := #[] }, { accessFlags := 25, nameIndex := 131, descriptorIndex := 25, attributes := #[] }, { accessFlags := 25, nameIndex := 137, descriptorIndex := 25, attributes := #[] }, { accessFlags := 25, nameIndex := 143, descriptorIndex := 25, attributes := #[] }, { accessFlags := 25, nameIndex := 53, descriptorIndex := 25, attributes := #[] }, { accessFlags := 25, nameIndex := 24, descriptorIndex := 25, attributes := #[] }, { accessFlags := 25, nameIndex := 162, descriptorIndex := 25, attributes := #[] }, { accessFlags := 25, nameIndex := 187, descriptorIndex := 25, attributes := #[] }, { accessFlags := 26, nameIndex := 48, descriptorIndex := 25, attributes := #[] }, { accessFlags := 25, nameIndex := 277, descriptorIndex := 25, attributes := #[] }, { accessFlags := 25, nameIndex := 280, descriptorIndex := 25, attributes := #[] }, { accessFlags := 25, nameIndex := 282, descriptorIndex := 25, attributes := #[] }, { accessFlags := 25, nameIndex := 284, descriptorIndex := 25, attributes := #[] }, { accessFlags := 25, nameIndex := 286, descriptorIndex := 25, attributes := #[] }, { accessFlags := 25, nameIndex := 288, descriptorIndex := 25, attributes := #[] }, { accessFlags := 25, nameIndex := 290, descriptorIndex := 25, attributes := #[] }, { accessFlags := 25, nameIndex := 292, descriptorIndex := 25, attributes := #[] }, { accessFlags := 26, nameIndex := 108, descriptorIndex := 109, attributes := #[] }, { accessFlags := 25, nameIndex := 294, descriptorIndex := 25, attributes := #[] }])
  fields := #[{ name := "U", type := (.object "jdk/internal/misc/Unsafe"), accessFlags := 24, slot := 0, constantValue := 0 }, { name := "BIG_ENDIAN", type := .boolean, accessFlags := 26, slot := 1, constantValue := 0 }, { name := "LOG2_ARRAY_BOOLEAN_INDEX_SCALE", type := .int, accessFlags := 25, slot := 2, constantValue := 0 }, { name := "LOG2_ARRAY_BYTE_INDEX_SCALE", type := .int, accessFlags := 25, slot := 3, constantValue := 0 }, { name := "LOG2_ARRAY_CHAR_INDEX_SCALE", type := .int, accessFlags := 25, slot := 4, constantValue := 0 }, { name := "LOG2_ARRAY_SHORT_INDEX_SCALE", type := .int, accessFlags := 25, slot := 5, constantValue := 0 }, { name := "LOG2_ARRAY_INT_INDEX_SCALE", type := .int, accessFlags := 25, slot := 6, constantValue := 0 }, { name := "LOG2_ARRAY_LONG_INDEX_SCALE", type := .int, accessFlags := 25, slot := 7, constantValue := 0 }, { name := "LOG2_ARRAY_FLOAT_INDEX_SCALE", type := .int, accessFlags := 25, slot := 8, constantValue := 0 }, { name := "LOG2_ARRAY_DOUBLE_INDEX_SCALE", type := .int, accessFlags := 25, slot := 9, constantValue := 0 }, { name := "LOG2_BYTE_BIT_SIZE", type := .int, accessFlags := 26, slot := 10, constantValue := 0 }, { name := "T_BOOLEAN", type := .int, accessFlags := 25, slot := 11, constantValue := 0 }, { name := "T_CHAR", type := .int, accessFlags := 25, slot := 12, constantValue := 0 }, { name := "T_FLOAT", type := .int, accessFlags := 25, slot := 13, constantValue := 0 }, { name := "T_DOUBLE", type := .int, accessFlags := 25, slot := 14, constantValue := 0 }, { name := "T_BYTE", type := .int, accessFlags := 25, slot := 15, constantValue := 0 }, { name := "T_SHORT", type := .int, accessFlags := 25, slot := 16, constantValue := 0 }, { name := "T_INT", type := .int, accessFlags := 25, slot := 17, constantValue := 0 }, { name := "T_LONG", type := .int, accessFlags := 25, slot := 18, constantValue := 0 }, { name := "JLA", type := (.object "jdk/internal/access/JavaLangAccess"), accessFlags := 26, slot := 19, constantValue := 0 }, { name := "SOFT_MAX_ARRAY_LENGTH", type := .int, accessFlags := 25, slot := 20, constantValue := 0 }]
  methods := #[k13m0]
  instanceTypes := #[]
  staticTypes := #[(.object "jdk/internal/misc/Unsafe"), .boolean, .int, .int, .int, .int, .int, .int, .int, .int, .int, .int, .int, .int, .int, .int, .int, .int, .int, (.object "jdk/internal/access/JavaLangAccess"), .int]
  resolved := Array.replicate 378 none
  statics := none }

def pool14 : Array CpInfo := pool [(1, u "java/lang/Cloneable"), (0, .class_ 1), (0, u "java/lang/Object"), (0, .class_ 3)] 3

/-- java/lang/Cloneable -/
def k14 : Class := { plain "java/lang/Cloneable" (some 0) with
  accessFlags := 1537
  interfaces := #[]
  cf := some (fileOf pool14 2 #[] #[] 1537 4 #[] #[])
  fields := #[]
  methods := #[]
  instanceTypes := #[]
  staticTypes := #[]
  resolved := Array.replicate 8 none
  statics := none }

/-- the primitive byte -/
def k15 : Class := { plain "byte" none with kind := .primitive 'B', accessFlags := 0x411 }
/-- [B -/
def k16 : Class := { plain "[B" (some 0) with kind := .array 15 .byte, interfaces := #[14, 2], accessFlags := 1041 }

/-- the primitive char -/
def k17 : Class := { plain "char" none with kind := .primitive 'C', accessFlags := 0x411 }
/-- [C -/
def k18 : Class := { plain "[C" (some 0) with kind := .array 17 .char, interfaces := #[14, 2], accessFlags := 1041 }

/-- the primitive int -/
def k19 : Class := { plain "int" none with kind := .primitive 'I', accessFlags := 0x411 }
/-- [I -/
def k20 : Class := { plain "[I" (some 0) with kind := .array 19 .int, interfaces := #[14, 2], accessFlags := 1041 }

def heap : Heap := #[{ cls := 7, slots := #[.long 0, .int 1, .null, .int 0, .null, .int 0, .int 0], vm := .statics 7 },
  { cls := 12, slots := #[.null, .null, .null], vm := .statics 12 }]
def classes : Array Class := #[k0, k1, k2, k3, k4, k5, k6, k7, k8, k9, k10, k11, k12, k13, k14, k15, k16, k17, k18, k19, k20]
def interned : List (Array UInt16 × Addr) := []
def slotsUsed : Nat := 10
def theMethod : MethodId := ⟨1, 1⟩
def args0 : Array Value := #[.int 5, .int 3, .int 7, .int 9]
def aboutOver (below : List Frame) : State where
  vm := { classes := classes, interned := interned.toArray }
  heap := heap
  slotsUsed := slotsUsed
  threads := #[{ frames := .invoking theMethod args0 :: below }]
def below0 : List Frame := [.native { method := ⟨0, 0⟩, args := #[] }]
def about1 : State := aboutOver below0
def p0 : Program := .bare "" "" ""
def e0 : Env := launch0.env 0 0 0
theorem w_frames : about1.frames = Frame.invoking theMethod args0 :: below0 := rfl
set_option maxRecDepth 65536 in
theorem w_args : argsFit about1.vm theMethod args0 = true := by decide +kernel
set_option maxRecDepth 65536 in
theorem w_heap : heapFits about1 = true := by decide +kernel
set_option maxRecDepth 65536 in
theorem w_runnable : about1.curStatus? = some .runnable := by decide +kernel
set_option maxRecDepth 65536 in
theorem w_alone : about1.alone = true := by decide +kernel
set_option maxRecDepth 65536 in
theorem w_named : about1.methodNamed? x = some theMethod := by decide +kernel
set_option maxRecDepth 65536 in
theorem w_hears : about1.hears theMethod below0 = true := by decide +kernel
set_option maxRecDepth 65536 in
theorem w_ripe : about1.ripe theMethod args0 below0 = true := by decide +kernel
theorem w_running : about1.status = .running := rfl
set_option maxRecDepth 65536 in
theorem w_room : about1.hasRoom e0.platform room_1 = true :=
  launch0.hasRoom_least _ room_1 (by decide +kernel) (by decide +kernel) (by decide +kernel) (by decide +kernel) (by decide +kernel) (by decide +kernel)
theorem allAtoms_all (ts : List Jvm.Cond) (a : Array Jvm.Value) (st : Jvm.State) : (allAtoms ts).before a st = ts.all (fun c => c.before a st) := by
  induction ts with
  | nil => rfl
  | cons c t ih =>
    show (Jvm.Cond.and c (allAtoms t)).before a st = _
    rw [Jvm.Cond.before_and, ih, List.all_cons]
def words1 : List Jvm.Cond := Jvm.Cond.code x code maxLocals ret :: tables_1
/-- a 'code' word, met by the world's own term for the bytes: nothing is compared byte by byte -/
theorem code_word {y : MethodName} {bytes : ByteArray} {mx : Nat} {rt : Option FieldType} {a : Array Value} {s : State} {m : MethodId} {meth : Method} {c : Code} (h1 : s.methodNamed? y = some m) (h2 : s.vm.method? m = some meth) (h3 : meth.code = some c) (h4 : c.code = bytes)
    (h5 : (c.maxLocals == mx && c.exceptionTable.isEmpty && decide (c.maxStack ≤ mostOperands) && decide (meth.sig.returnType = rt) && !meth.locks && decide (parseMethodDescriptor y.desc = some meth.sig)) = true) : (Jvm.Cond.code y bytes mx rt).before a s = true := by
  simp only [Bool.and_eq_true, beq_iff_eq, Bool.not_eq_true', decide_eq_true_eq] at h5
  obtain ⟨⟨⟨⟨⟨g1, g2⟩, g3⟩, g4⟩, g5⟩, g6⟩ := h5
  simp [Cond.before, Cond.holds, Cond.value, h1, h2, h3, h4, g1, g2, g3, g4, g5, g6]
def isCode : Jvm.Cond → Bool
  | .code _ _ _ _ => true
  | _ => false
theorem all_split {L : List Jvm.Cond} {P : Jvm.Cond → Bool} (h1 : L.all (fun c => isCode c || P c) = true) (h2 : ∀ c ∈ L.filter isCode, P c = true) : L.all P = true := by
  refine List.all_eq_true.mpr fun c hc => ?_
  have h := List.all_eq_true.mp h1 c hc
  rcases Bool.eq_false_or_eq_true (isCode c) with hi | hi
  · exact h2 c (List.mem_filter.mpr ⟨hc, hi⟩)
  · simpa [hi] using h
set_option maxRecDepth 65536 in
theorem w_c0 : (Jvm.Cond.code x code maxLocals ret).before args0 about1 = true := code_word (m := ⟨1, 1⟩) (meth := k1m1) (c := k1c1) (by decide +kernel) rfl rfl rfl (by decide +kernel)
set_option maxRecDepth 65536 in
theorem w_c1 : (Jvm.Cond.code ({ cls := "java/lang/String", name := "<init>", desc := "([C)V" } : Jvm.MethodName) jdk_42_method_3_code (2 : Nat) (Option.none : Option Jvm.ClassFile.FieldType)).before args0 about1 = true := code_word (m := ⟨7, 1⟩) (meth := k7m1) (c := k7c1) (by decide +kernel) rfl rfl rfl (by decide +kernel)
set_option maxRecDepth 65536 in
theorem w_c2 : (Jvm.Cond.code ({ cls := "java/lang/String", name := "<init>", desc := "([CIILjava/lang/Void;)V" } : Jvm.MethodName) jdk_42_method_149_code (6 : Nat) (Option.none : Option Jvm.ClassFile.FieldType)).before args0 about1 = true := code_word (m := ⟨7, 2⟩) (meth := k7m2) (c := k7c2) (by decide +kernel) rfl rfl rfl (by decide +kernel)
set_option maxRecDepth 65536 in
theorem w_c3 : (Jvm.Cond.code ({ cls := "java/lang/Object", name := "<init>", desc := "()V" } : Jvm.MethodName) object_method_1_code (1 : Nat) (Option.none : Option Jvm.ClassFile.FieldType)).before args0 about1 = true := code_word (m := ⟨0, 0⟩) (meth := k0m0) (c := k0c0) (by decide +kernel) rfl rfl rfl (by decide +kernel)
set_option maxRecDepth 65536 in
theorem w_c4 : (Jvm.Cond.code ({ cls := "java/lang/StringUTF16", name := "compress", desc := "([CII)[B" } : Jvm.MethodName) jdk_52_method_16_code (6 : Nat) (Option.some (Jvm.ClassFile.FieldType.array Jvm.ClassFile.FieldType.byte))).before args0 about1 = true := code_word (m := ⟨8, 2⟩) (meth := k8m2) (c := k8c2) (by decide +kernel) rfl rfl rfl (by decide +kernel)
set_option maxRecDepth 65536 in
theorem w_c5 : (Jvm.Cond.code ({ cls := "java/lang/StringUTF16", name := "compress", desc := "([CI[BII)I" } : Jvm.MethodName) jdk_52_method_21_code (7 : Nat) (Option.some Jvm.ClassFile.FieldType.int)).before args0 about1 = true := code_word (m := ⟨8, 3⟩) (meth := k8m3) (c := k8c3) (by decide +kernel) rfl rfl rfl (by decide +kernel)
set_option maxRecDepth 65536 in
theorem w_c6 : (Jvm.Cond.code ({ cls := "java/lang/StringUTF16", name := "coderFromArrayLen", desc := "([BI)B" } : Jvm.MethodName) jdk_52_method_15_code (2 : Nat) (Option.some Jvm.ClassFile.FieldType.byte)).before args0 about1 = true := code_word (m := ⟨8, 1⟩) (meth := k8m1) (c := k8c1) (by decide +kernel) rfl rfl rfl (by decide +kernel)
set_option maxRecDepth 65536 in
theorem w_c7 : (Jvm.Cond.code ({ cls := "com/example/sealwright/sealwright/cli/Option", name := "<init>", desc := "(Ljava/lang/String;Ljava/lang/String;ZLjava/lang/String;Ljava/lang/String;)V" } : Jvm.MethodName) prog_5_method_1_code (6 : Nat) (Option.none : Option Jvm.ClassFile.FieldType)).before args0 about1 = true := code_word (m := ⟨10, 0⟩) (meth := k10m0) (c := k10c0) (by decide +kernel) rfl rfl rfl (by decide +kernel)
set_option maxRecDepth 65536 in
theorem w_c8 : (Jvm.Cond.code ({ cls := "java/lang/Record", name := "<init>", desc := "()V" } : Jvm.MethodName) jdk_30_method_1_code (1 : Nat) (Option.none : Option Jvm.ClassFile.FieldType)).before args0 about1 = true := code_word (m := ⟨9, 0⟩) (meth := k9m0) (c := k9c0) (by decide +kernel) rfl rfl rfl (by decide +kernel)
set_option maxRecDepth 65536 in
theorem w_c9 : (Jvm.Cond.code ({ cls := "com/example/sealwright/sealwright/cli/Option", name := "isFlag", desc := "()Z" } : Jvm.MethodName) prog_5_method_6_code (1 : Nat) (Option.some Jvm.ClassFile.FieldType.boolean)).before args0 about1 = true := code_word (m := ⟨10, 4⟩) (meth := k10m4) (c := k10c4) (by decide +kernel) rfl rfl rfl (by decide +kernel)
set_option maxRecDepth 65536 in
theorem w_c10 : (Jvm.Cond.code ({ cls := "com/example/sealwright/sealwright/cli/Option", name := "flag", desc := "(Ljava/lang/String;Ljava/lang/String;)Lcom/example/sealwright/sealwright/cli/Option;" } : Jvm.MethodName) prog_5_method_5_code (2 : Nat) (Option.some (Jvm.ClassFile.FieldType.object "com/example/sealwright/sealwright/cli/Option"))).before args0 about1 = true := code_word (m := ⟨10, 3⟩) (meth := k10m3) (c := k10c3) (by decide +kernel) rfl rfl rfl (by decide +kernel)
set_option maxRecDepth 65536 in
theorem w_c11 : (Jvm.Cond.code ({ cls := "com/example/sealwright/sealwright/cli/Option", name := "required", desc := "(Ljava/lang/String;Ljava/lang/String;Ljava/lang/String;)Lcom/example/sealwright/sealwright/cli/Option;" } : Jvm.MethodName) prog_5_method_2_code (3 : Nat) (Option.some (Jvm.ClassFile.FieldType.object "com/example/sealwright/sealwright/cli/Option"))).before args0 about1 = true := code_word (m := ⟨10, 1⟩) (meth := k10m1) (c := k10c1) (by decide +kernel) rfl rfl rfl (by decide +kernel)
set_option maxRecDepth 65536 in
theorem w_c12 : (Jvm.Cond.code ({ cls := "com/example/sealwright/sealwright/cli/Option", name := "withDefault", desc := "(Ljava/lang/String;Ljava/lang/String;Ljava/lang/String;Ljava/lang/String;)Lcom/example/sealwright/sealwright/cli/Option;" } : Jvm.MethodName) prog_5_method_3_code (4 : Nat) (Option.some (Jvm.ClassFile.FieldType.object "com/example/sealwright/sealwright/cli/Option"))).before args0 about1 = true := code_word (m := ⟨10, 2⟩) (meth := k10m2) (c := k10c2) (by decide +kernel) rfl rfl rfl (by decide +kernel)
def codes1 : List Jvm.Cond := [Jvm.Cond.code x code maxLocals ret, Jvm.Cond.code ({ cls := "java/lang/String", name := "<init>", desc := "([C)V" } : Jvm.MethodName) jdk_42_method_3_code (2 : Nat) (Option.none : Option Jvm.ClassFile.FieldType), Jvm.Cond.code ({ cls := "java/lang/String", name := "<init>", desc := "([CIILjava/lang/Void;)V" } : Jvm.MethodName) jdk_42_method_149_code (6 : Nat) (Option.none : Option Jvm.ClassFile.FieldType), Jvm.Cond.code ({ cls := "java/lang/Object", name := "<init>", desc := "()V" } : Jvm.MethodName) object_method_1_code (1 : Nat) (Option.none : Option Jvm.ClassFile.FieldType), Jvm.Cond.code ({ cls := "java/lang/StringUTF16", name := "compress", desc := "([CII)[B" } : Jvm.MethodName) jdk_52_method_16_code (6 : Nat) (Option.some (Jvm.ClassFile.FieldType.array Jvm.ClassFile.FieldType.byte)), Jvm.Cond.code ({ cls := "java/lang/StringUTF16", name := "compress", desc := "([CI[BII)I" } : Jvm.MethodName) jdk_52_method_21_code (7 : Nat) (Option.some Jvm.ClassFile.FieldType.int), Jvm.Cond.code ({ cls := "java/lang/StringUTF16", name := "coderFromArrayLen", desc := "([BI)B" } : Jvm.MethodName) jdk_52_method_15_code (2 : Nat) (Option.some Jvm.ClassFile.FieldType.byte), Jvm.Cond.code ({ cls := "com/example/sealwright/sealwright/cli/Option", name := "<init>", desc := "(Ljava/lang/String;Ljava/lang/String;ZLjava/lang/String;Ljava/lang/String;)V" } : Jvm.MethodName) prog_5_method_1_code (6 : Nat) (Option.none : Option Jvm.ClassFile.FieldType), Jvm.Cond.code ({ cls := "java/lang/Record", name := "<init>", desc := "()V" } : Jvm.MethodName) jdk_30_method_1_code (1 : Nat) (Option.none : Option Jvm.ClassFile.FieldType), Jvm.Cond.code ({ cls := "com/example/sealwright/sealwright/cli/Option", name := "isFlag", desc := "()Z" } : Jvm.MethodName) prog_5_method_6_code (1 : Nat) (Option.some Jvm.ClassFile.FieldType.boolean), Jvm.Cond.code ({ cls := "com/example/sealwright/sealwright/cli/Option", name := "flag", desc := "(Ljava/lang/String;Ljava/lang/String;)Lcom/example/sealwright/sealwright/cli/Option;" } : Jvm.MethodName) prog_5_method_5_code (2 : Nat) (Option.some (Jvm.ClassFile.FieldType.object "com/example/sealwright/sealwright/cli/Option")), Jvm.Cond.code ({ cls := "com/example/sealwright/sealwright/cli/Option", name := "required", desc := "(Ljava/lang/String;Ljava/lang/String;Ljava/lang/String;)Lcom/example/sealwright/sealwright/cli/Option;" } : Jvm.MethodName) prog_5_method_2_code (3 : Nat) (Option.some (Jvm.ClassFile.FieldType.object "com/example/sealwright/sealwright/cli/Option")), Jvm.Cond.code ({ cls := "com/example/sealwright/sealwright/cli/Option", name := "withDefault", desc := "(Ljava/lang/String;Ljava/lang/String;Ljava/lang/String;Ljava/lang/String;)Lcom/example/sealwright/sealwright/cli/Option;" } : Jvm.MethodName) prog_5_method_3_code (4 : Nat) (Option.some (Jvm.ClassFile.FieldType.object "com/example/sealwright/sealwright/cli/Option"))]
set_option maxRecDepth 65536 in
theorem codes_eq : words1.filter isCode = codes1 := rfl
theorem w_codes : ∀ c ∈ words1.filter isCode, c.before args0 about1 = true := by
  rw [codes_eq]
  intro c hc
  simp only [codes1, List.mem_cons, List.not_mem_nil, or_false] at hc
  rcases hc with rfl | rfl | rfl | rfl | rfl | rfl | rfl | rfl | rfl | rfl | rfl | rfl | rfl
  · exact w_c0
  · exact w_c1
  · exact w_c2
  · exact w_c3
  · exact w_c4
  · exact w_c5
  · exact w_c6
  · exact w_c7
  · exact w_c8
  · exact w_c9
  · exact w_c10
  · exact w_c11
  · exact w_c12
set_option maxRecDepth 65536 in
theorem w_t1 : (words1.take 24).all (fun c => isCode c || c.before args0 about1) = true := by decide +kernel
set_option maxRecDepth 65536 in
theorem w_t2 : ((words1.drop 24).take 24).all (fun c => isCode c || c.before args0 about1) = true := by decide +kernel
set_option maxRecDepth 65536 in
theorem w_t3 : ((words1.drop 24).drop 24).all (fun c => isCode c || c.before args0 about1) = true := by decide +kernel
theorem w_tables : (allAtoms (Jvm.Cond.code x code maxLocals ret :: tables_1)).before args0 about1 = true := by
  rw [allAtoms_all]
  show words1.all (fun c => c.before args0 about1) = true
  refine all_split ?_ w_codes
  rw [← List.take_append_drop 24 words1, List.all_append, w_t1, ← List.take_append_drop 24 (words1.drop 24), List.all_append, w_t2, w_t3]
  rfl
set_option maxRecDepth 65536 in
theorem w_rest : rest_1_c.before args0 about1 = true := by decide +kernel
set_option maxRecDepth 65536 in
theorem w_case : (Jvm.Cond.and given_1 narrow_1).before args0 about1 = true := by decide +kernel
set_option maxRecDepth 65536 in
theorem w_consts : constsHeld consts_1 about1 := Jvm.Lit.constsHeldB_iff.mp (by decide +kernel)
theorem w_applies : (headSpec (Jvm.Cond.code x code maxLocals ret :: tables_1) room_1).applies x e0.platform about1 = true :=
  (Spec.applies_iff w_frames).mpr ⟨w_running, w_runnable, w_alone, w_named, w_hears, w_ripe, w_room, w_tables⟩
theorem atStart : AtStart classFile x code maxLocals ret World_1 tables_1 room_1 Calls_1 rest_1 Pre_1 launch0 p0 e0 about1 theMethod args0 below0 :=
  ⟨lists_1, trivial, launch0.admits_env _ _ _, launch0.least_env, fairChoices_fair.cas, fairChoices_fair.clock, w_frames, w_args, w_heap, w_applies, ⟨w_consts, trivial⟩, w_rest, w_case⟩
end start1
theorem witness_1 : WitnessClaimed_1 := ⟨start1.p0, start1.e0, start1.about1, start1.theMethod, start1.args0, start1.below0, start1.atStart⟩
end Jvm.Pilot.@@N@@
