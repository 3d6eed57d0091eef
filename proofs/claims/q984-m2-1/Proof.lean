import JvmDerived
import JvmDerived.Pilot.@@N@@Statement
import JvmDerived.Pilot.@@N@@Code
set_option linter.unusedVariables false
set_option linter.unusedSimpArgs false
namespace Jvm.RoadKit
open Sem ClassFile Op Lib Jvm.Stand Jvm.Free Jvm.LawKit
section New
variable {p : Program} {l : Launch} {e : Env} {R : Room} {s : State} {m : MethodId} {args : Array Value} {below : List Frame} {meth : Method} {c : Code} {T : State} {locs : List Loc} {cells slots : Nat}
theorem retI (X : Stand p l e R s m args below meth c T locs cells slots) (hx : p.tables.exec = Jvm.exec) {pc : Nat} {Ls : Array Slot} {z : Int32} {rest : List Value} (hret : meth.sig.returnType = some .int) (hd : decode c.code pc = .ok (.ireturn, 1)) {fs : List Frame}
    (hl : ∀ (f : JFrame) (acts : List Action), f.method = m → f.locked = none → f.entered = [] → (doReturn e (T.setTop f) acts (some (.int z))).1 = T.setFrames fs) : Steps p.tables e below (T.setTop (mkF m pc Ls (.int z :: rest))) (T.setFrames fs) := by
  have hm' : T.vm.method? m = some meth := X.method'
  have hn : narrow .int (.int z) = .int z := rfl
  show Steps p.tables e below (T.setTop { method := m, pc := pc, locals := Ls, stack := _ :: rest, locked := none }) _
  jvm_step X.here [X.here.top, hx, hd, hm', hret, hn]
  first | (intro acts; rw [hl _ acts rfl rfl rfl]) | rw [hl _ _ rfl rfl rfl]
  exact Steps.refl _
theorem retJ (X : Stand p l e R s m args below meth c T locs cells slots) (hx : p.tables.exec = Jvm.exec) {pc : Nat} {Ls : Array Slot} {z : Int64} {rest : List Value} (hret : meth.sig.returnType = some .long) (hd : decode c.code pc = .ok (.lreturn, 1)) {fs : List Frame}
    (hl : ∀ (f : JFrame) (acts : List Action), f.method = m → f.locked = none → f.entered = [] → (doReturn e (T.setTop f) acts (some (.long z))).1 = T.setFrames fs) : Steps p.tables e below (T.setTop (mkF m pc Ls (.long z :: rest))) (T.setFrames fs) := by
  have hm' : T.vm.method? m = some meth := X.method'
  have hn : narrow .long (.long z) = .long z := rfl
  show Steps p.tables e below (T.setTop { method := m, pc := pc, locals := Ls, stack := _ :: rest, locked := none }) _
  jvm_step X.here [X.here.top, hx, hd, hm', hret, hn]
  first | (intro acts; rw [hl _ acts rfl rfl rfl]) | rw [hl _ _ rfl rfl rfl]
  exact Steps.refl _
theorem retD (X : Stand p l e R s m args below meth c T locs cells slots) (hx : p.tables.exec = Jvm.exec) {pc : Nat} {Ls : Array Slot} {z : UInt64} {rest : List Value} (hret : meth.sig.returnType = some .double) (hd : decode c.code pc = .ok (.dreturn, 1)) {fs : List Frame}
    (hl : ∀ (f : JFrame) (acts : List Action), f.method = m → f.locked = none → f.entered = [] → (doReturn e (T.setTop f) acts (some (.double z))).1 = T.setFrames fs) : Steps p.tables e below (T.setTop (mkF m pc Ls (.double z :: rest))) (T.setFrames fs) := by
  have hm' : T.vm.method? m = some meth := X.method'
  have hn : narrow .double (.double z) = .double z := rfl
  show Steps p.tables e below (T.setTop { method := m, pc := pc, locals := Ls, stack := _ :: rest, locked := none }) _
  jvm_step X.here [X.here.top, hx, hd, hm', hret, hn]
  first | (intro acts; rw [hl _ acts rfl rfl rfl]) | rw [hl _ _ rfl rfl rfl]
  exact Steps.refl _
theorem retR (X : Stand p l e R s m args below meth c T locs cells slots) (hx : p.tables.exec = Jvm.exec) {pc : Nat} {Ls : Array Slot} {w : Value} {t : FieldType} {rest : List Value} (hret : meth.sig.returnType = some t) (hn : narrow t w = w) (ht : t.isReference = true) (hw : w.isRef = true) (hd : decode c.code pc = .ok (.areturn, 1)) {fs : List Frame}
    (hl : ∀ (f : JFrame) (acts : List Action), f.method = m → f.locked = none → f.entered = [] → (doReturn e (T.setTop f) acts (some w)).1 = T.setFrames fs) : Steps p.tables e below (T.setTop (mkF m pc Ls (w :: rest))) (T.setFrames fs) := by
  have hm' : T.vm.method? m = some meth := X.method'
  show Steps p.tables e below (T.setTop { method := m, pc := pc, locals := Ls, stack := _ :: rest, locked := none }) _
  jvm_step X.here [X.here.top, hx, hd, hm', hret, hn, hw]
  try (refine ⟨ht, ?_⟩)
  first | (intro acts; rw [hl _ acts rfl rfl rfl]) | rw [hl _ _ rfl rfl rfl]
  exact Steps.refl _
theorem own_up (X : Stand p l e R s m args below meth c T locs cells slots) {k n : Nat} (h1 : cells ≤ k) (h2 : slots ≤ n) : Stand p l e R s m args below meth c T locs k n :=
  ⟨X.admits, X.cas, X.clock, X.frames, X.room, X.hears, X.method, X.code, X.here, X.tail, X.warmed, X.limits, X.bytes, X.same.mono h1 h2⟩
theorem own_ext {h h' : Heap} (K : Keep h h' []) : Ext h h' := ⟨K.1, fun a c q => K.2.1 a c q nin0⟩
theorem own_narR {v : Value} {ty : FieldType} (h : v.isRef = true) (ht : ty.isReference = true) : narrow ty v = v := by
  rcases ref_cases h with rfl | ⟨a, rfl⟩ <;> cases ty <;> first | rfl | (simp [FieldType.isReference] at ht)
theorem own_fitR {v : Value} {ty : FieldType} (h : v.isRef = true) (ht : ty.isReference = true) : fits ty v = true := by
  rcases ref_cases h with rfl | ⟨a, rfl⟩ <;> cases ty <;> first | rfl | (simp [FieldType.isReference] at ht)
theorem own_wmono {s t : State} {o : Outcome} {L : List Loc} {k n k' n' : Nat} (h : ReturnedEndW s o t L k n) (hk : k ≤ k') (hn : n ≤ n') : ReturnedEndW s o t L k' n' := ⟨h.1, h.2.1, h.2.2.1, h.2.2.2.mono hk hn⟩
theorem own_chr {Z s T : State} {EL : List (String × Nat)} {h0 H : Heap} (hh : s.heap = h0) (e : T.heap = H) (c : CHr Z EL s.vm h0 T.vm H) : CHr Z EL s.vm s.heap T.vm T.heap := by subst hh e; exact c
theorem own_nb0 : nar .boolean 0 = 0 := by decide
theorem own_nb1 : nar .boolean 1 = 1 := by decide
end New
end Jvm.RoadKit
/- laws to paste: Road.backV, Road.eqW, Road.codOf (cut by pick.py; bodies as the Statement names them) -/
namespace Jvm.Pilot.@@N@@
namespace StrChars
open Jvm Sem ClassFile Op Lib Jvm.Stand Jvm.Free.XT Jvm.Free.ALB Jvm.Free.JM Jvm.Free
open Jvm.Lib.Cold (StaticIs)
/-- a char array whose places are chars -/
def Ch (a : Addr) (A : Cell) (U : State) : Prop := Arr .char a A U ∧ Typed .char A
theorem Ch.mv {a : Addr} {A : Cell} {U U' : State} (h : Ch a A U) (hal : U.vm.Alike U'.vm) (hh : U'.heap = U.heap) : Ch a A U' := ⟨h.1.mv hal hh, h.2⟩
theorem Ch.keep {a : Addr} {A : Cell} {U U' : State} (h : Ch a A U) (hal : U.vm.Alike U'.vm) (hk : U'.heap[a]? = some A) : Ch a A U' := ⟨h.1.keep hal hk, h.2⟩
/-- what place i of a char[]'s cell holds -/
def cv (A : Cell) (i : Nat) : Int32 := match A.slots[i]? with | some (.int x) => x | _ => 0
theorem Ch.get {a : Addr} {A : Cell} {U : State} (h : Ch a A U) {i : Nat} (hi : i < A.slots.size) : A.slots[i]? = some (.int (cv A i)) := by
  have e := Array.getElem?_eq_getElem hi
  have f := h.2 i _ e
  unfold cv; rw [e]
  generalize A.slots[i] = v at f
  cases v <;> simp [fits] at f ⊢
/-- the byte that i2b leaves of a char -/
def lo8 (x : Int32) : Int32 := x.toInt8.toInt32
theorem fits_lo8 (y : Int32) : fits .byte (.int (lo8 y)) = true := by
  have h1 := y.toInt8.le_toInt
  have h2 := y.toInt8.toInt_lt
  simp only [lo8, fits, Bool.and_eq_true, decide_eq_true_eq, Int32.le_iff_toInt_le, Int8.toInt_toInt32, show (-128 : Int32).toInt = -128 from by decide, show (127 : Int32).toInt = 127 from by decide]
  omega
/-- A' is A but that each place j of lo .. hi - 1 holds f j -/
def Laid (A A' : Cell) (lo hi : Nat) (f : Nat → Value) : Prop := A'.cls = A.cls ∧ A'.vm = A.vm ∧ A'.slots.size = A.slots.size ∧ ∀ i, A'.slots[i]? = if lo ≤ i ∧ i < hi then some (f i) else A.slots[i]?
theorem Laid.zero (A : Cell) (lo : Nat) (f : Nat → Value) : Laid A A lo (lo + 0) f := ⟨rfl, rfl, rfl, fun i => by rw [if_neg (by omega)]⟩
theorem Laid.step {A Ak : Cell} {lo k : Nat} {f : Nat → Value} {v : Value} (h : Laid A Ak lo k f) (hlo : lo ≤ k) (hk : k < Ak.slots.size) (hv : v = f k) : Laid A (Ak.setSlot k v) lo (k + 1) f := by
  refine ⟨h.1, h.2.1, by simpa [Cell.setSlot] using h.2.2.1, fun i => ?_⟩
  by_cases e : k = i
  · subst e; rw [Cell.slots_setSlot_self v hk, if_pos (by omega), hv]
  · rw [Cell.slots_setSlot_ne v e, h.2.2.2 i]
    by_cases q : lo ≤ i ∧ i < k
    · rw [if_pos q, if_pos (by omega)]
    · rw [if_neg q, if_neg (by omega)]
def U16 : String := "java/lang/StringUTF16"
namespace Cmp5
def yN : MethodName := ⟨"java/lang/StringUTF16", "compress", "([CI[BII)I"⟩
abbrev yB : ByteArray := jdk_52_method_21_code
theorem d0 : decode yB 0 = .ok (.iconst 0, 1) := by decide +kernel
theorem d1 : decode yB 1 = .ok (.istore 5, 2) := by decide +kernel
theorem d3 : decode yB 3 = .ok (.iload 5, 2) := by decide +kernel
theorem d5 : decode yB 5 = .ok (.iload 4, 2) := by decide +kernel
theorem d7 : decode yB 7 = .ok (.if_icmp (.ge) 37, 3) := by decide +kernel
theorem d10 : decode yB 10 = .ok (.aload_n 0, 1) := by decide +kernel
theorem d11 : decode yB 11 = .ok (.iload_n 1, 1) := by decide +kernel
theorem d12 : decode yB 12 = .ok (.caload, 1) := by decide +kernel
theorem d13 : decode yB 13 = .ok (.istore 6, 2) := by decide +kernel
theorem d15 : decode yB 15 = .ok (.iload 6, 2) := by decide +kernel
theorem d17 : decode yB 17 = .ok (.sipush 255, 3) := by decide +kernel
theorem d20 : decode yB 20 = .ok (.if_icmp (.le) 6, 3) := by decide +kernel
theorem d26 : decode yB 26 = .ok (.aload_n 2, 1) := by decide +kernel
theorem d27 : decode yB 27 = .ok (.iload_n 3, 1) := by decide +kernel
theorem d28 : decode yB 28 = .ok (.iload 6, 2) := by decide +kernel
theorem d30 : decode yB 30 = .ok (.i2b, 1) := by decide +kernel
theorem d31 : decode yB 31 = .ok (.bastore, 1) := by decide +kernel
theorem d32 : decode yB 32 = .ok (.iinc 1 1, 3) := by decide +kernel
theorem d35 : decode yB 35 = .ok (.iinc 3 1, 3) := by decide +kernel
theorem d38 : decode yB 38 = .ok (.iinc 5 1, 3) := by decide +kernel
theorem d41 : decode yB 41 = .ok (.goto (-38), 3) := by decide +kernel
theorem d44 : decode yB 44 = .ok (.iload 4, 2) := by decide +kernel
theorem d46 : decode yB 46 = .ok (.ireturn, 1) := by decide +kernel
def site : List Cond := []
def tab : Cond := tabOf yN yB 7 (some .int) site
def P (b : Addr) (A : Cell) (d : Addr) (B : Cell) (o q len : Nat) (args : Array Value) (s : State) : Prop := args = #[.ref b, .int (Int32.ofNat o), .ref d, .int (Int32.ofNat q), .int (Int32.ofNat len)] ∧ Ch b A s ∧ Arr .byte d B s ∧ b ≠ d ∧ o + len ≤ A.slots.size ∧ q + len ≤ B.slots.size ∧ ∀ i, i < len → ¬ 255 < cv A (o + i)
def E (b : Addr) (A : Cell) (d : Addr) (B : Cell) (o q len : Nat) (r : Option Value) (s u : State) : Prop := r = some (.int (Int32.ofNat len)) ∧ ∃ B', Put d B' s u ∧ Laid B B' q (q + len) (fun j => Value.int (lo8 (cv A (o + (j - q)))))
/-- no char of the range above 255: len; the places written hold each char's low byte -/
theorem law (l : Launch) (b : Addr) (A : Cell) (d : Addr) (B : Cell) (o q len : Nat) : Law l yN 5 5 0 0 yB 7 (some .int) site (P b A d B o q len) (E b A d B o q len) (copyLocs d q len) 0 0 := by
  refine Law.of_walk (plainFor_of_name (by decide +kernel)) (by decide +kernel) (by decide +kernel) (by decide) (fun _ _ h => by rw [h.1]; rfl) (fun _ U U' hal hh h => ⟨h.1, h.2.1.mv hal hh, h.2.2.1.mv hal hh, h.2.2.2⟩) (fun r U U' V V' h1 hal h2 h => ⟨h.1, h.2.elim fun B' q => ⟨B', q.1.mv h1 h2, q.2⟩⟩) ?_
  intro p e s m args below meth c s₁ X0 hexec hbytes hml hret hlk hnm hown hh0 W hP
  obtain ⟨rfl, hA, hB, hne, l1, l2, hp⟩ := hP
  have c1 : Steps p.tables e below (s₁.setTop (entryFrame m #[.ref b, .int (Int32.ofNat o), .ref d, .int (Int32.ofNat q), .int (Int32.ofNat len)] 7)) (s₁.setTop (mkF m 0 #[.val (.ref b), .val (.int (Int32.ofNat o)), .val (.ref d), .val (.int (Int32.ofNat q)), .val (.int (Int32.ofNat len)), .unset, .unset] [])) := entry rfl
  have hA0 := hA.1.mv X0.warmed.alike hh0
  have hB0 := hB.mv X0.warmed.alike hh0
  have a31 := hA.1.2.2.2
  have c2 : Steps p.tables e below (s₁.setTop (entryFrame m #[.ref b, .int (Int32.ofNat o), .ref d, .int (Int32.ofNat q), .int (Int32.ofNat len)] 7)) (s₁.setTop (mkF m 3 #[.val (.ref b), .val (.int (Int32.ofNat o)), .val (.ref d), .val (.int (Int32.ofNat q)), .val (.int (Int32.ofNat len)), .val (.int 0), .unset] [])) := c1.trans (by
    refine iconstV X0.here hexec rfl 0 (hb hbytes d0) (by decide) ?_
    refine XS.istore X0.here hexec rfl (hb hbytes d1) rfl rfl ?_
    exact Steps.refl _)
  have loop : ∀ (r i : Nat), i + r = len → ∀ (z : Slot), (z = .unset ∨ ∃ w, z = .val w ∧ w.category = 1) → ∀ (Tl : State) (Bk : Cell), Stand p l e { frames := 0, locals := 0, cells := 0, slots := 0 } s m #[.ref b, .int (Int32.ofNat o), .ref d, .int (Int32.ofNat q), .int (Int32.ofNat len)] below meth c Tl ([] ++ copyLocs d q i) 0 0 → Put d Bk s₁ Tl → Laid B Bk q (q + i) (fun j => Value.int (lo8 (cv A (o + (j - q))))) →
      Steps p.tables e below (s₁.setTop (entryFrame m #[.ref b, .int (Int32.ofNat o), .ref d, .int (Int32.ofNat q), .int (Int32.ofNat len)] 7)) (Tl.setTop (mkF m 3 #[.val (.ref b), .val (.int (Int32.ofNat (o + i))), .val (.ref d), .val (.int (Int32.ofNat (q + i))), .val (.int (Int32.ofNat len)), .val (.int (Int32.ofNat i)), z] [])) → ∃ (T' : State) (B' : Cell) (z' : Slot), Stand p l e { frames := 0, locals := 0, cells := 0, slots := 0 } s m #[.ref b, .int (Int32.ofNat o), .ref d, .int (Int32.ofNat q), .int (Int32.ofNat len)] below meth c T' ([] ++ copyLocs d q len) 0 0 ∧ Put d B' s₁ T' ∧ Laid B B' q (q + len) (fun j => Value.int (lo8 (cv A (o + (j - q))))) ∧
      Steps p.tables e below (s₁.setTop (entryFrame m #[.ref b, .int (Int32.ofNat o), .ref d, .int (Int32.ofNat q), .int (Int32.ofNat len)] 7)) (T'.setTop (mkF m 3 #[.val (.ref b), .val (.int (Int32.ofNat (o + len))), .val (.ref d), .val (.int (Int32.ofNat (q + len))), .val (.int (Int32.ofNat len)), .val (.int (Int32.ofNat len)), z'] [])) := by
    intro r
    induction r with
    | zero =>
      intro i hi z hz Tl Bk Xl pl fl cl
      have hil : i = len := by omega
      rw [hil] at Xl fl cl
      exact ⟨Tl, Bk, z, Xl, pl, fl, cl⟩
    | succ r ih =>
      intro i hi z hz Tl Bk Xl pl fl cl
      have all := X0.warmed.alike.symm.trans Xl.warmed.alike
      have hAl := hA0.keep all (pl.other hne hA0.1)
      have hBk := hB0.like all pl.1 fl.1 fl.2.1 fl.2.2.1
      have hlt : q + i < Bk.slots.size := by rw [fl.2.2.1]; omega
      have c3 : Steps p.tables e below (s₁.setTop (entryFrame m #[.ref b, .int (Int32.ofNat o), .ref d, .int (Int32.ofNat q), .int (Int32.ofNat len)] 7)) (Tl.setTop (mkF m 12 #[.val (.ref b), .val (.int (Int32.ofNat (o + i))), .val (.ref d), .val (.int (Int32.ofNat (q + i))), .val (.int (Int32.ofNat len)), .val (.int (Int32.ofNat i)), z] [.int (Int32.ofNat (o + i)), .ref b])) := cl.trans (by
        refine XS.iload Xl.here hexec rfl (hb hbytes d3) rfl ?_
        refine XS.iload Xl.here hexec rfl (hb hbytes d5) rfl ?_
        refine XS.icmpNo Xl.here hexec rfl (hb hbytes d7) rfl (ii_ge_f (lt32 (by omega) (by omega))) ?_
        refine XS.aloadN Xl.here hexec rfl (hb hbytes d10) rfl rfl ?_
        refine XS.iloadN Xl.here hexec rfl (hb hbytes d11) rfl ?_
        exact Steps.refl _)
      have c4 : Steps p.tables e below (s₁.setTop (entryFrame m #[.ref b, .int (Int32.ofNat o), .ref d, .int (Int32.ofNat q), .int (Int32.ofNat len)] 7)) (Tl.setTop (mkF m 13 #[.val (.ref b), .val (.int (Int32.ofNat (o + i))), .val (.ref d), .val (.int (Int32.ofNat (q + i))), .val (.int (Int32.ofNat len)), .val (.int (Int32.ofNat i)), z] [.int (cv A (o + i))])) := c3.trans (by
        refine Xl.aget hexec hAl rfl (hA.get (i := o + i) (by omega)) rfl rfl (hb hbytes d12) ?_
        exact Steps.refl _)
      have c5 : Steps p.tables e below (s₁.setTop (entryFrame m #[.ref b, .int (Int32.ofNat o), .ref d, .int (Int32.ofNat q), .int (Int32.ofNat len)] 7)) (Tl.setTop (mkF m 15 #[.val (.ref b), .val (.int (Int32.ofNat (o + i))), .val (.ref d), .val (.int (Int32.ofNat (q + i))), .val (.int (Int32.ofNat len)), .val (.int (Int32.ofNat i)), .val (.int (cv A (o + i)))] [])) := c4.trans (by
        refine XS.istoreS Xl.here hexec rfl (hb hbytes d13) rfl rfl hz ?_
        exact Steps.refl _)
      have c6 : Steps p.tables e below (s₁.setTop (entryFrame m #[.ref b, .int (Int32.ofNat o), .ref d, .int (Int32.ofNat q), .int (Int32.ofNat len)] 7)) (Tl.setTop (mkF m 31 #[.val (.ref b), .val (.int (Int32.ofNat (o + i))), .val (.ref d), .val (.int (Int32.ofNat (q + i))), .val (.int (Int32.ofNat len)), .val (.int (Int32.ofNat i)), .val (.int (cv A (o + i)))] [.int (lo8 (cv A (o + i))), .int (Int32.ofNat (q + i)), .ref d])) := c5.trans (by
        refine XS.iload Xl.here hexec rfl (hb hbytes d15) rfl ?_
        refine sipushV Xl.here hexec rfl 255 (hb hbytes d17) (by decide) ?_
        refine XS.icmpYes Xl.here hexec rfl (pc0 := 20) rfl (hb hbytes d20) rfl (ii_le_t (hp i (by omega))) (by decide) rfl ?_
        refine XS.aloadN Xl.here hexec rfl (hb hbytes d26) rfl rfl ?_
        refine XS.iloadN Xl.here hexec rfl (hb hbytes d27) rfl ?_
        refine XS.iload Xl.here hexec rfl (hb hbytes d28) rfl ?_
        refine i2b Xl.here hexec rfl (hb hbytes d30) rfl ?_
        exact Steps.refl _)
      obtain ⟨T7, X7, p7, st7⟩ := Xl.aput hexec hBk rfl hlt rfl (fits_lo8 (cv A (o + i))) (g := (mkF m 31 #[.val (.ref b), .val (.int (Int32.ofNat (o + i))), .val (.ref d), .val (.int (Int32.ofNat (q + i))), .val (.int (Int32.ofNat len)), .val (.int (Int32.ofNat i)), .val (.int (cv A (o + i)))] [.int (lo8 (cv A (o + i))), .int (Int32.ofNat (q + i)), .ref d])) rfl (rest := []) rfl (hb hbytes d31)
      have c8 : Steps p.tables e below (s₁.setTop (entryFrame m #[.ref b, .int (Int32.ofNat o), .ref d, .int (Int32.ofNat q), .int (Int32.ofNat len)] 7)) (T7.setTop (mkF m 32 #[.val (.ref b), .val (.int (Int32.ofNat (o + i))), .val (.ref d), .val (.int (Int32.ofNat (q + i))), .val (.int (Int32.ofNat len)), .val (.int (Int32.ofNat i)), .val (.int (cv A (o + i)))] [])) := c6.trans (st7 _ (Steps.refl _))
      have c9 : Steps p.tables e below (s₁.setTop (entryFrame m #[.ref b, .int (Int32.ofNat o), .ref d, .int (Int32.ofNat q), .int (Int32.ofNat len)] 7)) (T7.setTop (mkF m 3 #[.val (.ref b), .val (.int (Int32.ofNat (o + i) + 1)), .val (.ref d), .val (.int (Int32.ofNat (q + i) + 1)), .val (.int (Int32.ofNat len)), .val (.int (Int32.ofNat i + 1)), .val (.int (cv A (o + i)))] [])) := c8.trans (by
        refine iincV X7.here hexec rfl 1 (hb hbytes d32) (by decide) rfl rfl ?_
        refine iincV X7.here hexec rfl 1 (hb hbytes d35) (by decide) rfl rfl ?_
        refine iincV X7.here hexec rfl 1 (hb hbytes d38) (by decide) rfl rfl ?_
        refine XS.goto X7.here hexec rfl (pc0 := 41) rfl (hb hbytes d41) (by decide) rfl ?_
        exact Steps.refl _)
      have c10 : Steps p.tables e below (s₁.setTop (entryFrame m #[.ref b, .int (Int32.ofNat o), .ref d, .int (Int32.ofNat q), .int (Int32.ofNat len)] 7)) (T7.setTop (mkF m 3 #[.val (.ref b), .val (.int (Int32.ofNat (o + (i + 1)))), .val (.ref d), .val (.int (Int32.ofNat (q + (i + 1)))), .val (.int (Int32.ofNat len)), .val (.int (Int32.ofNat (i + 1))), .val (.int (cv A (o + i)))] [])) := by
        have := c9
        rw [succ32, succ32, succ32] at this
        exact this
      exact ih (i + 1) (by omega) _ (Or.inr ⟨_, rfl, rfl⟩) T7 _ (by rw [copyLocs_step, ← List.append_assoc]; exact X7) (pl.trans p7) (fl.step (by omega) hlt (by simp)) c10
  obtain ⟨T9, B9, z9, X9, p9, f9, g9⟩ := loop len 0 (by omega) .unset (Or.inl rfl) s₁ B (by simpa [copyLocs] using X0) ⟨hB0.1, fun _ _ => rfl, rfl⟩ (Laid.zero _ _ _) c2
  have c11 : Steps p.tables e below (s₁.setTop (entryFrame m #[.ref b, .int (Int32.ofNat o), .ref d, .int (Int32.ofNat q), .int (Int32.ofNat len)] 7)) (T9.setTop (mkF m 46 #[.val (.ref b), .val (.int (Int32.ofNat (o + len))), .val (.ref d), .val (.int (Int32.ofNat (q + len))), .val (.int (Int32.ofNat len)), .val (.int (Int32.ofNat len)), z9] [.int (Int32.ofNat len)])) := g9.trans (by
    refine XS.iload X9.here hexec rfl (hb hbytes d3) rfl ?_
    refine XS.iload X9.here hexec rfl (hb hbytes d5) rfl ?_
    refine XS.icmpYes X9.here hexec rfl (pc0 := 7) rfl (hb hbytes d7) rfl (ii_ge_t (nlt32 (by omega) (Nat.le_refl _))) (by decide) rfl ?_
    refine XS.iload X9.here hexec rfl (hb hbytes d44) rfl ?_
    exact Steps.refl _)
  exact ⟨T9, some (.int (Int32.ofNat len)), _, _, _, X9, by simp, rfl, rfl, (fun h => by cases h), ⟨rfl, B9, p9.from hh0, f9⟩, fun fs hl => c11.trans (X9.ireturnOut hexec hret rfl (Or.inl rfl) (hb hbytes d46) hl)⟩
end Cmp5
namespace Cmp3
def yN : MethodName := ⟨"java/lang/StringUTF16", "compress", "([CII)[B"⟩
abbrev yB : ByteArray := jdk_52_method_16_code
theorem d0 : decode yB 0 = .ok (.iload_n 2, 1) := by decide +kernel
theorem d1 : decode yB 1 = .ok (.newarray .byte, 2) := by decide +kernel
theorem d3 : decode yB 3 = .ok (.astore_n 3, 1) := by decide +kernel
theorem d4 : decode yB 4 = .ok (.aload_n 0, 1) := by decide +kernel
theorem d5 : decode yB 5 = .ok (.iload_n 1, 1) := by decide +kernel
theorem d6 : decode yB 6 = .ok (.aload_n 3, 1) := by decide +kernel
theorem d7 : decode yB 7 = .ok (.iconst 0, 1) := by decide +kernel
theorem d8 : decode yB 8 = .ok (.iload_n 2, 1) := by decide +kernel
theorem d9 : decode yB 9 = .ok (.invokestatic 115, 3) := by decide +kernel
theorem d12 : decode yB 12 = .ok (.istore 4, 2) := by decide +kernel
theorem d14 : decode yB 14 = .ok (.iload 4, 2) := by decide +kernel
theorem d16 : decode yB 16 = .ok (.iload_n 2, 1) := by decide +kernel
theorem d17 : decode yB 17 = .ok (.if_icmp (.eq) 40, 3) := by decide +kernel
theorem d57 : decode yB 57 = .ok (.aload_n 3, 1) := by decide +kernel
theorem d58 : decode yB 58 = .ok (.areturn, 1) := by decide +kernel
def site : List Cond := [.arrayClass .byte, Cmp5.tab] ++ staticW U16 115 Cmp5.yN
def tab : Cond := tabOf yN yB 6 (some (.array .byte)) site
def P (b : Addr) (A : Cell) (o len : Nat) (args : Array Value) (s : State) : Prop := args = #[.ref b, .int (Int32.ofNat o), .int (Int32.ofNat len)] ∧ Ch b A s ∧ o + len ≤ A.slots.size ∧ len ≤ 536870912 ∧ ∀ i, i < len → ¬ 255 < cv A (o + i)
def E (b : Addr) (A : Cell) (o len : Nat) (r : Option Value) (s u : State) : Prop := NewArr .byte "[B" len (fun j => .int (lo8 (cv A (o + j)))) r s u ∧ u.heap.size = s.heap.size + 1
/-- no char of the range above 255: a new byte[] of their low bytes -/
theorem law (l : Launch) (b : Addr) (A : Cell) (o len : Nat) : Law l yN 3 3 1 18 yB 6 (some (.array .byte)) site (P b A o len) (E b A o len) [] 1 len := by
  refine Law.of_walk (plainFor_of_name (by decide +kernel)) (by decide +kernel) (by decide +kernel) (by decide) (fun _ _ h => by rw [h.1]; rfl) (fun _ U U' hal hh h => ⟨h.1, h.2.1.mv hal hh, h.2.2⟩) (fun r U U' V V' h1 hal h2 h => ⟨NewArr.mv r U U' V V' h1 hal h2 h.1, by rw [h1, h2]; exact h.2⟩) ?_
  intro p e s m args below meth c s₁ X0 hexec hbytes hml hret hlk hnm hown hh0 W hP
  obtain ⟨rfl, hA, l1, l2, hp⟩ := hP
  have a31 := hA.1.2.2.2
  have c1 : Steps p.tables e below (s₁.setTop (entryFrame m #[.ref b, .int (Int32.ofNat o), .int (Int32.ofNat len)] 6)) (s₁.setTop (mkF m 0 #[.val (.ref b), .val (.int (Int32.ofNat o)), .val (.int (Int32.ofNat len)), .unset, .unset, .unset] [])) := entry rfl
  have c2 : Steps p.tables e below (s₁.setTop (entryFrame m #[.ref b, .int (Int32.ofNat o), .int (Int32.ofNat len)] 6)) (s₁.setTop (mkF m 1 #[.val (.ref b), .val (.int (Int32.ofNat o)), .val (.int (Int32.ofNat len)), .unset, .unset, .unset] [.int (Int32.ofNat len)])) := c1.trans (by
    refine XS.iloadN X0.here hexec rfl (hb hbytes d0) rfl ?_
    exact Steps.refl _)
  obtain ⟨T3, B3, X3, ba3, bs3, bv3, bh3, bf3, st3⟩ := X0.anew hexec (atype := .byte) (wk W (.arrayClass .byte)) rfl (by show len * 1 ≤ _; omega) (by omega) (g := (mkF m 1 #[.val (.ref b), .val (.int (Int32.ofNat o)), .val (.int (Int32.ofNat len)), .unset, .unset, .unset] [.int (Int32.ofNat len)])) rfl (hb hbytes d1) (rest := []) rfl (Nat.le_refl _) (by show 0 + len ≤ len; omega)
  rw [hh0] at ba3 st3
  have kp3 : XT.Kept s T3 := (XT.Kept.of_eq hh0).push bh3
  have hA3 := hA.keep X3.warmed.alike (kp3 _ _ hA.1.1)
  have hne : b ≠ s.heap.size := hA.1.ne
  have c4 : Steps p.tables e below (s₁.setTop (entryFrame m #[.ref b, .int (Int32.ofNat o), .int (Int32.ofNat len)] 6)) (T3.setTop (mkF m 3 #[.val (.ref b), .val (.int (Int32.ofNat o)), .val (.int (Int32.ofNat len)), .unset, .unset, .unset] [.ref s.heap.size])) := c2.trans (st3 _ (Steps.refl _))
  have c5 : Steps p.tables e below (s₁.setTop (entryFrame m #[.ref b, .int (Int32.ofNat o), .int (Int32.ofNat len)] 6)) (T3.setTop (mkF m 9 #[.val (.ref b), .val (.int (Int32.ofNat o)), .val (.int (Int32.ofNat len)), .val (.ref s.heap.size), .unset, .unset] [.int (Int32.ofNat len), .int 0, .ref s.heap.size, .int (Int32.ofNat o), .ref b])) := c4.trans (by
    refine XS.astoreN X3.here hexec rfl (hb hbytes d3) rfl rfl rfl ?_
    refine XS.aloadN X3.here hexec rfl (hb hbytes d4) rfl rfl ?_
    refine XS.iloadN X3.here hexec rfl (hb hbytes d5) rfl ?_
    refine XS.aloadN X3.here hexec rfl (hb hbytes d6) rfl rfl ?_
    refine iconstV X3.here hexec rfl 0 (hb hbytes d7) (by decide) ?_
    refine XS.iloadN X3.here hexec rfl (hb hbytes d8) rfl ?_
    exact Steps.refl _)
  obtain ⟨v6, T6, X6, E6, g6⟩ := X3.callS hexec (Cmp5.law l b A s.heap.size B3 o 0 len) hown (wks W (staticW U16 115 Cmp5.yN)) (wk W Cmp5.tab) (W := 0) (Nat.le_of_ble_eq_true rfl) (Nat.le_of_ble_eq_true rfl) (Nat.le_refl _) (by show 0 + len + 0 ≤ len; omega) (g := (mkF m 9 #[.val (.ref b), .val (.int (Int32.ofNat o)), .val (.int (Int32.ofNat len)), .val (.ref s.heap.size), .unset, .unset] [.int (Int32.ofNat len), .int (Int32.ofNat 0), .ref s.heap.size, .int (Int32.ofNat o), .ref b])) rfl (by rw [hml]; rfl) c5 (argsL := [.ref b, .int (Int32.ofNat o), .ref s.heap.size, .int (Int32.ofNat 0), .int (Int32.ofNat len)]) (rest := []) rfl rfl (by show 2 * 0 + 0 ≤ _; decide) (hb hbytes d9) (⟨rfl, hA3, ba3, hne, l1, by rw [bs3]; simp, hp⟩)
  obtain ⟨rfl, B6, p6, f6⟩ := E6
  have c7 : Steps p.tables e below (s₁.setTop (entryFrame m #[.ref b, .int (Int32.ofNat o), .int (Int32.ofNat len)] 6)) (T6.setTop (mkF m 12 #[.val (.ref b), .val (.int (Int32.ofNat o)), .val (.int (Int32.ofNat len)), .val (.ref s.heap.size), .unset, .unset] [.int (Int32.ofNat len)])) := g6
  have c8 : Steps p.tables e below (s₁.setTop (entryFrame m #[.ref b, .int (Int32.ofNat o), .int (Int32.ofNat len)] 6)) (T6.setTop (mkF m 58 #[.val (.ref b), .val (.int (Int32.ofNat o)), .val (.int (Int32.ofNat len)), .val (.ref s.heap.size), .val (.int (Int32.ofNat len)), .unset] [.ref s.heap.size])) := c7.trans (by
    refine XS.istore X6.here hexec rfl (hb hbytes d12) rfl rfl ?_
    refine XS.iload X6.here hexec rfl (hb hbytes d14) rfl ?_
    refine XS.iloadN X6.here hexec rfl (hb hbytes d16) rfl ?_
    refine XS.icmpYes X6.here hexec rfl (pc0 := 17) rfl (hb hbytes d17) rfl (ii_eq_t rfl) (by decide) rfl ?_
    refine XS.aloadN X6.here hexec rfl (hb hbytes d57) rfl rfl ?_
    exact Steps.refl _)
  have X8 := X6.wide (L' := []) (cells' := 1) (slots' := len) (fun x hx hlt => by
    simp only [List.nil_append, copyLocs, List.mem_map, List.mem_range] at hx
    obtain ⟨i, -, rfl⟩ := hx
    exact absurd hlt (Nat.lt_irrefl _)) (Nat.le_refl _) (by omega)
  exact ⟨T6, some (.ref s.heap.size), _, _, _, X8, rfl, rfl, rfl, (fun h => by cases h), ⟨⟨rfl, B6, ba3.like (X3.warmed.alike.symm.trans X6.warmed.alike) p6.1 f6.1 f6.2.1 f6.2.2.1, f6.2.1.trans bv3, by rw [X6.warmed.alike.findClass, f6.1]; exact bf3, by rw [f6.2.2.1, bs3]; simp, fun j hj => by rw [f6.2.2.2 j, if_pos (by omega)]; rfl, kp3.put p6 (Nat.le_refl _)⟩, by rw [p6.2.2, bh3, hh0]; simp⟩, fun fs hl => c8.trans (X8.areturnOut hexec rfl hret rfl (hb hbytes d58) hl)⟩
end Cmp3
namespace CodL
def yN : MethodName := ⟨"java/lang/StringUTF16", "coderFromArrayLen", "([BI)B"⟩
abbrev yB : ByteArray := jdk_52_method_15_code
theorem d0 : decode yB 0 = .ok (.iload_n 1, 1) := by decide +kernel
theorem d1 : decode yB 1 = .ok (.aload_n 0, 1) := by decide +kernel
theorem d2 : decode yB 2 = .ok (.arraylength, 1) := by decide +kernel
theorem d3 : decode yB 3 = .ok (.isub, 1) := by decide +kernel
theorem d4 : decode yB 4 = .ok (.bipush 31, 2) := by decide +kernel
theorem d6 : decode yB 6 = .ok (.iushr, 1) := by decide +kernel
theorem d7 : decode yB 7 = .ok (.i2b, 1) := by decide +kernel
theorem d8 : decode yB 8 = .ok (.ireturn, 1) := by decide +kernel
def site : List Cond := []
def tab : Cond := tabOf yN yB 2 (some .byte) site
def P (d : Addr) (B : Cell) (args : Array Value) (s : State) : Prop := args = #[.ref d, .int (Int32.ofNat B.slots.size)] ∧ Arr .byte d B s
def E (r : Option Value) (s u : State) : Prop := XT.PureE (some (.int 0)) r s u
/-- an array as long as the number of chars: LATIN1 -/
theorem law (l : Launch) (d : Addr) (B : Cell) : Law l yN 2 2 0 0 yB 2 (some .byte) site (P d B) E [] 0 0 := by
  refine Law.of_walk (plainFor_of_name (by decide +kernel)) (by decide +kernel) (by decide +kernel) (by decide) (fun _ _ h => by rw [h.1]; rfl) (fun _ U U' hal hh h => ⟨h.1, h.2.mv hal hh⟩) (fun r U U' V V' h1 hal h2 h => XT.PureE.mv r U U' V V' h1 hal h2 h) ?_
  intro p e s m args below meth c s₁ X0 hexec hbytes hml hret hlk hnm hown hh0 W hP
  obtain ⟨rfl, hB⟩ := hP
  have hB0 := hB.mv X0.warmed.alike hh0
  have c1 : Steps p.tables e below (s₁.setTop (entryFrame m #[.ref d, .int (Int32.ofNat B.slots.size)] 2)) (s₁.setTop (mkF m 0 #[.val (.ref d), .val (.int (Int32.ofNat B.slots.size))] [])) := entry rfl
  have c2 : Steps p.tables e below (s₁.setTop (entryFrame m #[.ref d, .int (Int32.ofNat B.slots.size)] 2)) (s₁.setTop (mkF m 2 #[.val (.ref d), .val (.int (Int32.ofNat B.slots.size))] [.ref d, .int (Int32.ofNat B.slots.size)])) := c1.trans (by
    refine XS.iloadN X0.here hexec rfl (hb hbytes d0) rfl ?_
    refine XS.aloadN X0.here hexec rfl (hb hbytes d1) rfl rfl ?_
    exact Steps.refl _)
  have c3 : Steps p.tables e below (s₁.setTop (entryFrame m #[.ref d, .int (Int32.ofNat B.slots.size)] 2)) (s₁.setTop (mkF m 8 #[.val (.ref d), .val (.int (Int32.ofNat B.slots.size))] [.int (lo8 (ushr (Int32.ofNat B.slots.size - Int32.ofNat B.slots.size) 31))])) := c2.trans (by
    refine X0.alen hexec hB0 rfl rfl (hb hbytes d2) ?_
    refine XS.isub X0.here hexec rfl (hb hbytes d3) rfl ?_
    refine bipushV X0.here hexec rfl 31 (hb hbytes d4) (by decide) ?_
    refine iushr X0.here hexec rfl (hb hbytes d6) rfl ?_
    refine i2b X0.here hexec rfl (hb hbytes d7) rfl ?_
    exact Steps.refl _)
  have e0 : lo8 (ushr (Int32.ofNat B.slots.size - Int32.ofNat B.slots.size) 31) = 0 := by rw [Int32.sub_self]; decide
  rw [e0] at c3
  exact ⟨s₁, some (.int 0), _, _, _, X0, rfl, rfl, rfl, (fun h => by cases h), ⟨rfl, hh0⟩, fun fs hl => c3.trans (X0.ireturnOut hexec hret rfl (Or.inr (Or.inr (Or.inl rfl))) (hb hbytes d8) hl)⟩
end CodL
/-- the String at a is Latin-1 over a new byte[] (the heap's one new cell): the low bytes of the len chars of A from o on; every cell but a is kept -/
def Got (a : Addr) (D : Cell) (fV fC : Field) (A : Cell) (o len : Nat) (r : Option Value) (s u : State) : Prop := r = none ∧ ∃ D' V : Cell, Blank "java/lang/String" a D' u ∧ Same D D' [fV.slot, fC.slot] ∧ D'.slots[fV.slot]? = some (.ref s.heap.size) ∧ D'.slots[fC.slot]? = some (.int 0) ∧ Arr .byte s.heap.size V u ∧ V.vm = .none ∧ u.vm.findClass "[B" = some V.cls ∧ V.slots.size = len ∧ (∀ j, j < len → V.slots[j]? = some (.int (lo8 (cv A (o + j))))) ∧ (∀ (y : Addr) (c : Cell), y ≠ a → s.heap[y]? = some c → u.heap[y]? = some c) ∧ u.heap.size = s.heap.size + 1
theorem Got.mv {a : Addr} {D A : Cell} {fV fC : Field} {o len : Nat} : ∀ r (U U' V V' : State), U'.heap = U.heap → V.vm.Alike V'.vm → V'.heap = V.heap → Got a D fV fC A o len r U V → Got a D fV fC A o len r U' V' :=
  fun r U U' V V' h1 hal h2 ⟨e0, D', X, a1, a2, a3, a4, a5, a6, a7, a8, a9, a10, a11⟩ => ⟨e0, D', X, a1.mv hal h2, a2, by rw [h1]; exact a3, a4, by rw [h1]; exact a5.mv hal h2, a6, by rw [hal.findClass]; exact a7, a8, a9, by rw [h1, h2]; exact a10, by rw [h1, h2]; exact a11⟩
namespace New4
def yN : MethodName := ⟨"java/lang/String", "<init>", "([CIILjava/lang/Void;)V"⟩
abbrev yB : ByteArray := jdk_42_method_149_code
theorem d0 : decode yB 0 = .ok (.aload_n 0, 1) := by decide +kernel
theorem d1 : decode yB 1 = .ok (.invokespecial 1, 3) := by decide +kernel
theorem d4 : decode yB 4 = .ok (.iload_n 3, 1) := by decide +kernel
theorem d5 : decode yB 5 = .ok (.ifCond (.ne) 22, 3) := by decide +kernel
theorem d27 : decode yB 27 = .ok (.getstatic 38, 3) := by decide +kernel
theorem d30 : decode yB 30 = .ok (.ifCond (.eq) 28, 3) := by decide +kernel
theorem d33 : decode yB 33 = .ok (.aload_n 1, 1) := by decide +kernel
theorem d34 : decode yB 34 = .ok (.iload_n 2, 1) := by decide +kernel
theorem d35 : decode yB 35 = .ok (.iload_n 3, 1) := by decide +kernel
theorem d36 : decode yB 36 = .ok (.invokestatic 177, 3) := by decide +kernel
theorem d39 : decode yB 39 = .ok (.astore 5, 2) := by decide +kernel
theorem d41 : decode yB 41 = .ok (.aload_n 0, 1) := by decide +kernel
theorem d42 : decode yB 42 = .ok (.aload 5, 2) := by decide +kernel
theorem d44 : decode yB 44 = .ok (.iload_n 3, 1) := by decide +kernel
theorem d45 : decode yB 45 = .ok (.invokestatic 47, 3) := by decide +kernel
theorem d48 : decode yB 48 = .ok (.putfield 15, 3) := by decide +kernel
theorem d51 : decode yB 51 = .ok (.aload_n 0, 1) := by decide +kernel
theorem d52 : decode yB 52 = .ok (.aload 5, 2) := by decide +kernel
theorem d54 : decode yB 54 = .ok (.putfield 9, 3) := by decide +kernel
theorem d57 : decode yB 57 = .ok (.return_, 1) := by decide +kernel
def site : List Cond := [.fieldLink "java/lang/String" 38 "java/lang/String" "COMPACT_STRINGS" "Z", Cmp3.tab, CodL.tab, .laysFinal "java/lang/String" "java/lang/String" "value" "[B", .fieldLink "java/lang/String" 9 "java/lang/String" "value" "[B", .laysFinal "java/lang/String" "java/lang/String" "coder" "B", .fieldLink "java/lang/String" 15 "java/lang/String" "coder" "B"] ++ objW "java/lang/String" 1 ++ staticW "java/lang/String" 177 Cmp3.yN ++ staticW "java/lang/String" 47 CodL.yN
def tab : Cond := tabOf yN yB 6 none site
def P (a : Addr) (D : Cell) (fV fC : Field) (b : Addr) (A : Cell) (z : Int32) (o len : Nat) (args : Array Value) (s : State) : Prop := args = #[.ref a, .ref b, .int (Int32.ofNat o), .int (Int32.ofNat len), .null] ∧ Blank "java/lang/String" a D s ∧ Found "java/lang/String" "value" "[B" fV s ∧ Found "java/lang/String" "coder" "B" fC s ∧ Ch b A s ∧ StaticIs s "java/lang/String" "COMPACT_STRINGS" "Z" (.int z) ∧ ¬ z = 0 ∧ 0 < len ∧ o + len ≤ A.slots.size ∧ len ≤ 536870912 ∧ ∀ i, i < len → ¬ 255 < cv A (o + i)
def E (a : Addr) (D : Cell) (fV fC : Field) (A : Cell) (o len : Nat) (r : Option Value) (s u : State) : Prop := Got a D fV fC A o len r s u
/-- len > 0, no char of the range above 255: a Latin-1 String of their low bytes -/
theorem law (l : Launch) (a : Addr) (D : Cell) (fV fC : Field) (b : Addr) (A : Cell) (z : Int32) (o len : Nat) : Law l yN 5 4 2 35 yB 6 none site (P a D fV fC b A z o len) (E a D fV fC A o len) [⟨a, fC.slot⟩, ⟨a, fV.slot⟩] 1 len := by
  refine Law.of_walk (plainFor_of_name (by decide +kernel)) (by decide +kernel) (by decide +kernel) (by decide) (fun _ _ h => by rw [h.1]; rfl) (fun _ U U' hal hh h => ⟨h.1, h.2.1.mv hal hh, h.2.2.1.al hal, h.2.2.2.1.al hal, h.2.2.2.2.1.mv hal hh, h.2.2.2.2.2.1.there hal hh, h.2.2.2.2.2.2⟩) (fun r U U' V V' h1 hal h2 h => Got.mv r U U' V V' h1 hal h2 h) ?_
  intro p e s m args below meth c s₁ X0 hexec hbytes hml hret hlk hnm hown hh0 W hP
  obtain ⟨rfl, hB, f1, f2, hA, s1, hz, l0, l1, l2, hp⟩ := hP
  have a31 := hA.1.2.2.2
  have c1 : Steps p.tables e below (s₁.setTop (entryFrame m #[.ref a, .ref b, .int (Int32.ofNat o), .int (Int32.ofNat len), .null] 6)) (s₁.setTop (mkF m 0 #[.val (.ref a), .val (.ref b), .val (.int (Int32.ofNat o)), .val (.int (Int32.ofNat len)), .val .null, .unset] [])) := entry rfl
  have c2 : Steps p.tables e below (s₁.setTop (entryFrame m #[.ref a, .ref b, .int (Int32.ofNat o), .int (Int32.ofNat len), .null] 6)) (s₁.setTop (mkF m 1 #[.val (.ref a), .val (.ref b), .val (.int (Int32.ofNat o)), .val (.int (Int32.ofNat len)), .val .null, .unset] [.ref a])) := c1.trans (by
    refine XS.aloadN X0.here hexec rfl (hb hbytes d0) rfl rfl ?_
    exact Steps.refl _)
  obtain ⟨T3, X3, q3, st3⟩ := X0.oinit hexec hown (wks W (objW "java/lang/String" 1)) (g := (mkF m 1 #[.val (.ref a), .val (.ref b), .val (.int (Int32.ofNat o)), .val (.int (Int32.ofNat len)), .val .null, .unset] [.ref a])) rfl (by rw [hml]; rfl) (rest := []) rfl (hb hbytes d1) (W := 0) (by show 2 * 0 + 0 ≤ _; decide) (Nat.le_of_ble_eq_true rfl) (Nat.le_of_ble_eq_true rfl)
  have hh3 := q3.trans hh0
  have c4 : Steps p.tables e below (s₁.setTop (entryFrame m #[.ref a, .ref b, .int (Int32.ofNat o), .int (Int32.ofNat len), .null] 6)) (T3.setTop (mkF m 27 #[.val (.ref a), .val (.ref b), .val (.int (Int32.ofNat o)), .val (.int (Int32.ofNat len)), .val .null, .unset] [])) := (c2.trans (st3 _ (Steps.refl _))).trans (by
    refine XS.iloadN X3.here hexec rfl (hb hbytes d4) rfl ?_
    refine XS.ifYes X3.here hexec rfl (pc0 := 5) rfl (hb hbytes d5) rfl (i0_ne_t (nz32 (by omega) l0)) (by decide) rfl ?_
    exact Steps.refl _)
  obtain ⟨T5, X5, q5, st5⟩ := X3.sget hexec hown (wk W (.fieldLink "java/lang/String" 38 "java/lang/String" "COMPACT_STRINGS" "Z")) s1 (fun _ _ h => by rw [hh3]; exact h) (g := (mkF m 27 #[.val (.ref a), .val (.ref b), .val (.int (Int32.ofNat o)), .val (.int (Int32.ofNat len)), .val .null, .unset] [])) rfl (hb hbytes d27)
  have hh5 := q5.trans hh3
  have c6 : Steps p.tables e below (s₁.setTop (entryFrame m #[.ref a, .ref b, .int (Int32.ofNat o), .int (Int32.ofNat len), .null] 6)) (T5.setTop (mkF m 30 #[.val (.ref a), .val (.ref b), .val (.int (Int32.ofNat o)), .val (.int (Int32.ofNat len)), .val .null, .unset] [.int z])) := c4.trans (st5 _ (Steps.refl _))
  have c7 : Steps p.tables e below (s₁.setTop (entryFrame m #[.ref a, .ref b, .int (Int32.ofNat o), .int (Int32.ofNat len), .null] 6)) (T5.setTop (mkF m 36 #[.val (.ref a), .val (.ref b), .val (.int (Int32.ofNat o)), .val (.int (Int32.ofNat len)), .val .null, .unset] [.int (Int32.ofNat len), .int (Int32.ofNat o), .ref b])) := c6.trans (by
    refine XS.ifNo X5.here hexec rfl (hb hbytes d30) rfl (i0_eq_f hz) ?_
    refine XS.aloadN X5.here hexec rfl (hb hbytes d33) rfl rfl ?_
    refine XS.iloadN X5.here hexec rfl (hb hbytes d34) rfl ?_
    refine XS.iloadN X5.here hexec rfl (hb hbytes d35) rfl ?_
    exact Steps.refl _)
  obtain ⟨v8, T8, X8, E8, g8⟩ := X5.callS hexec (Cmp3.law l b A o len) hown (wks W (staticW "java/lang/String" 177 Cmp3.yN)) (wk W Cmp3.tab) (W := 0) (Nat.le_of_ble_eq_true rfl) (Nat.le_of_ble_eq_true rfl) (Nat.le_refl _) (by show 0 + len ≤ len; omega) (g := (mkF m 36 #[.val (.ref a), .val (.ref b), .val (.int (Int32.ofNat o)), .val (.int (Int32.ofNat len)), .val .null, .unset] [.int (Int32.ofNat len), .int (Int32.ofNat o), .ref b])) rfl (by rw [hml]; rfl) c7 (argsL := [.ref b, .int (Int32.ofNat o), .int (Int32.ofNat len)]) (rest := []) rfl rfl (by show 2 * 0 + 0 ≤ _; decide) (hb hbytes d36) (⟨rfl, hA.mv X5.warmed.alike hh5, l1, l2, hp⟩)
  obtain ⟨e8, z8⟩ := E8
  obtain ⟨rfl, N, n1, n2, n3, n4, n5, n6⟩ := NewArr.mv _ T5 s _ _ hh5.symm (Vm.Alike.refl _) rfl e8
  rw [hh5] at z8
  have hB1 := hB.keep X8.warmed.alike (n6 _ _ hB.1)
  have hne : s.heap.size ≠ a := (Nat.ne_of_lt (Array.getElem?_eq_some_iff.mp hB.1).1).symm
  have c9 : Steps p.tables e below (s₁.setTop (entryFrame m #[.ref a, .ref b, .int (Int32.ofNat o), .int (Int32.ofNat len), .null] 6)) (T8.setTop (mkF m 39 #[.val (.ref a), .val (.ref b), .val (.int (Int32.ofNat o)), .val (.int (Int32.ofNat len)), .val .null, .unset] [.ref s.heap.size])) := g8
  have c10 : Steps p.tables e below (s₁.setTop (entryFrame m #[.ref a, .ref b, .int (Int32.ofNat o), .int (Int32.ofNat len), .null] 6)) (T8.setTop (mkF m 45 #[.val (.ref a), .val (.ref b), .val (.int (Int32.ofNat o)), .val (.int (Int32.ofNat len)), .val .null, .val (.ref s.heap.size)] [.int (Int32.ofNat N.slots.size), .ref s.heap.size, .ref a])) := by
    have hc : Steps p.tables e below (s₁.setTop (entryFrame m #[.ref a, .ref b, .int (Int32.ofNat o), .int (Int32.ofNat len), .null] 6)) (T8.setTop (mkF m 45 #[.val (.ref a), .val (.ref b), .val (.int (Int32.ofNat o)), .val (.int (Int32.ofNat len)), .val .null, .val (.ref s.heap.size)] [.int (Int32.ofNat len), .ref s.heap.size, .ref a])) := c9.trans (by
      refine XS.astore X8.here hexec rfl (hb hbytes d39) rfl rfl rfl ?_
      refine XS.aloadN X8.here hexec rfl (hb hbytes d41) rfl rfl ?_
      refine XS.aload X8.here hexec rfl (hb hbytes d42) rfl rfl ?_
      refine XS.iloadN X8.here hexec rfl (hb hbytes d44) rfl ?_
      exact Steps.refl _)
    rw [n4]; exact hc
  obtain ⟨v11, T11, X11, E11, g11⟩ := X8.callS hexec (CodL.law l s.heap.size N) hown (wks W (staticW "java/lang/String" 47 CodL.yN)) (wk W CodL.tab) (W := 1) (Nat.le_of_ble_eq_true rfl) (Nat.le_of_ble_eq_true rfl) (Nat.le_refl _) (by show 0 + len + 0 ≤ len; omega) (g := (mkF m 45 #[.val (.ref a), .val (.ref b), .val (.int (Int32.ofNat o)), .val (.int (Int32.ofNat len)), .val .null, .val (.ref s.heap.size)] [.int (Int32.ofNat N.slots.size), .ref s.heap.size, .ref a])) rfl (by rw [hml]; rfl) c10 (argsL := [.ref s.heap.size, .int (Int32.ofNat N.slots.size)]) (rest := [.ref a]) rfl rfl (by show 2 * 0 + (1 + 0) ≤ _; decide) (hb hbytes d45) (⟨rfl, n1⟩)
  obtain ⟨rfl, q11⟩ := E11
  have hB11 := hB1.mv (X8.warmed.alike.symm.trans X11.warmed.alike) q11
  have c12 : Steps p.tables e below (s₁.setTop (entryFrame m #[.ref a, .ref b, .int (Int32.ofNat o), .int (Int32.ofNat len), .null] 6)) (T11.setTop (mkF m 48 #[.val (.ref a), .val (.ref b), .val (.int (Int32.ofNat o)), .val (.int (Int32.ofNat len)), .val .null, .val (.ref s.heap.size)] [.int 0, .ref a])) := g11
  obtain ⟨T13, X13, p13, bl13, sl13, st13⟩ := X11.finit hexec hown (wk W (.fieldLink "java/lang/String" 15 "java/lang/String" "coder" "B")) (Or.inr ⟨_, (wk W (.laysFinal "java/lang/String" "java/lang/String" "coder" "B"))⟩) (Or.inl ⟨rfl, hnm⟩) f2 (Or.inl rfl) hB11 (t := .byte) (by decide +kernel) rfl (g := (mkF m 48 #[.val (.ref a), .val (.ref b), .val (.int (Int32.ofNat o)), .val (.int (Int32.ofNat len)), .val .null, .val (.ref s.heap.size)] [.int 0, .ref a])) rfl (rest := []) rfl (hb hbytes d48)
  have c14 : Steps p.tables e below (s₁.setTop (entryFrame m #[.ref a, .ref b, .int (Int32.ofNat o), .int (Int32.ofNat len), .null] 6)) (T13.setTop (mkF m 54 #[.val (.ref a), .val (.ref b), .val (.int (Int32.ofNat o)), .val (.int (Int32.ofNat len)), .val .null, .val (.ref s.heap.size)] [.ref s.heap.size, .ref a])) := (c12.trans (st13 _ (Steps.refl _))).trans (by
    refine XS.aloadN X13.here hexec rfl (hb hbytes d51) rfl rfl ?_
    refine XS.aload X13.here hexec rfl (hb hbytes d52) rfl rfl ?_
    exact Steps.refl _)
  obtain ⟨T15, X15, p15, bl15, sl15, st15⟩ := X13.finit hexec hown (wk W (.fieldLink "java/lang/String" 9 "java/lang/String" "value" "[B")) (Or.inr ⟨_, (wk W (.laysFinal "java/lang/String" "java/lang/String" "value" "[B"))⟩) (Or.inl ⟨rfl, hnm⟩) f1 (Or.inl rfl) bl13 (t := (.array .byte)) (by decide +kernel) rfl (g := (mkF m 54 #[.val (.ref a), .val (.ref b), .val (.int (Int32.ofNat o)), .val (.int (Int32.ofNat len)), .val .null, .val (.ref s.heap.size)] [.ref s.heap.size, .ref a])) rfl (rest := []) rfl (hb hbytes d54)
  have c16 : Steps p.tables e below (s₁.setTop (entryFrame m #[.ref a, .ref b, .int (Int32.ofNat o), .int (Int32.ofNat len), .null] 6)) (T15.setTop (mkF m 57 #[.val (.ref a), .val (.ref b), .val (.int (Int32.ofNat o)), .val (.int (Int32.ofNat len)), .val .null, .val (.ref s.heap.size)] [])) := c14.trans (st15 _ (Steps.refl _))
  have ap := apart (Or.inr ⟨_, (wk W (.laysFinal "java/lang/String" "java/lang/String" "value" "[B"))⟩) (Or.inr ⟨_, (wk W (.laysFinal "java/lang/String" "java/lang/String" "coder" "B"))⟩) f1 f2 (t₁ := .array .byte) (t₂ := .byte) (by decide +kernel) (by decide +kernel) (by decide)
  have al := X8.warmed.alike.symm.trans X15.warmed.alike
  have n7 : T11.heap[s.heap.size]? = some N := by rw [q11]; exact n1.1
  exact ⟨T15, none, _, _, _, X15, by simp, rfl, by omega, (fun _ => rfl), ⟨rfl, _, N, bl15, ((Same.refl D _).set _ (by simp)).set _ (by simp), sl15, (Cell.slots_setSlot_ne _ ap).trans sl13, n1.keep al (p15.other hne (p13.other hne n7)), n2, by rw [al.findClass]; exact n3, n4, n5, fun y c h1 h2 => p15.other h1 (p13.other h1 (by rw [q11]; exact n6 y c h2)), by rw [p15.2.2, p13.2.2, q11]; exact z8⟩, fun fs hl => c16.trans (X15.returnOut hexec hret (hb hbytes d57) hl)⟩
end New4
namespace New1
def yN : MethodName := ⟨"java/lang/String", "<init>", "([C)V"⟩
abbrev yB : ByteArray := jdk_42_method_3_code
theorem d0 : decode yB 0 = .ok (.aload_n 0, 1) := by decide +kernel
theorem d1 : decode yB 1 = .ok (.aload_n 1, 1) := by decide +kernel
theorem d2 : decode yB 2 = .ok (.iconst 0, 1) := by decide +kernel
theorem d3 : decode yB 3 = .ok (.aload_n 1, 1) := by decide +kernel
theorem d4 : decode yB 4 = .ok (.arraylength, 1) := by decide +kernel
theorem d5 : decode yB 5 = .ok (.aconst_null, 1) := by decide +kernel
theorem d6 : decode yB 6 = .ok (.invokespecial 27, 3) := by decide +kernel
theorem d9 : decode yB 9 = .ok (.return_, 1) := by decide +kernel
def site : List Cond := [New4.tab] ++ initW "java/lang/String" 27 New4.yN
def tab : Cond := tabOf yN yB 2 none site
def P (a : Addr) (D : Cell) (fV fC : Field) (b : Addr) (A : Cell) (z : Int32) (args : Array Value) (s : State) : Prop := args = #[.ref a, .ref b] ∧ Blank "java/lang/String" a D s ∧ Found "java/lang/String" "value" "[B" fV s ∧ Found "java/lang/String" "coder" "B" fC s ∧ Ch b A s ∧ StaticIs s "java/lang/String" "COMPACT_STRINGS" "Z" (.int z) ∧ ¬ z = 0 ∧ 0 < A.slots.size ∧ A.slots.size ≤ 536870912 ∧ ∀ i, i < A.slots.size → ¬ 255 < cv A i
def E (a : Addr) (D : Cell) (fV fC : Field) (A : Cell) (r : Option Value) (s u : State) : Prop := Got a D fV fC A 0 A.slots.size r s u
/-- new String(chars), not empty, no char above 255: a Latin-1 String of their low bytes -/
theorem law (l : Launch) (a : Addr) (D : Cell) (fV fC : Field) (b : Addr) (A : Cell) (z : Int32) : Law l yN 2 1 3 52 yB 2 none site (P a D fV fC b A z) (E a D fV fC A) [⟨a, fC.slot⟩, ⟨a, fV.slot⟩] 1 A.slots.size := by
  refine Law.of_walk (plainFor_of_name (by decide +kernel)) (by decide +kernel) (by decide +kernel) (by decide) (fun _ _ h => by rw [h.1]; rfl) (fun _ U U' hal hh h => ⟨h.1, h.2.1.mv hal hh, h.2.2.1.al hal, h.2.2.2.1.al hal, h.2.2.2.2.1.mv hal hh, h.2.2.2.2.2.1.there hal hh, h.2.2.2.2.2.2⟩) (fun r U U' V V' h1 hal h2 h => Got.mv r U U' V V' h1 hal h2 h) ?_
  intro p e s m args below meth c s₁ X0 hexec hbytes hml hret hlk hnm hown hh0 W hP
  obtain ⟨rfl, hB, f1, f2, hA, s1, hz, l0, l2, hp⟩ := hP
  have c1 : Steps p.tables e below (s₁.setTop (entryFrame m #[.ref a, .ref b] 2)) (s₁.setTop (mkF m 0 #[.val (.ref a), .val (.ref b)] [])) := entry rfl
  have c2 : Steps p.tables e below (s₁.setTop (entryFrame m #[.ref a, .ref b] 2)) (s₁.setTop (mkF m 6 #[.val (.ref a), .val (.ref b)] [.null, .int (Int32.ofNat A.slots.size), .int 0, .ref b, .ref a])) := c1.trans (by
    refine XS.aloadN X0.here hexec rfl (hb hbytes d0) rfl rfl ?_
    refine XS.aloadN X0.here hexec rfl (hb hbytes d1) rfl rfl ?_
    refine iconstV X0.here hexec rfl 0 (hb hbytes d2) (by decide) ?_
    refine XS.aloadN X0.here hexec rfl (hb hbytes d3) rfl rfl ?_
    refine X0.alen hexec (hA.1.mv X0.warmed.alike hh0) rfl rfl (hb hbytes d4) ?_
    refine XS.aconstNull X0.here hexec rfl (hb hbytes d5) ?_
    exact Steps.refl _)
  obtain ⟨v3, T3, X3, E3, g3⟩ := X0.callN hexec (New4.law l a D fV fC b A z 0 A.slots.size) rfl hown (wks W (initW "java/lang/String" 27 New4.yN)) (W New4.tab (by simp only [site, List.mem_cons, List.mem_append, true_or, or_true])) (W := 0) (Nat.le_of_ble_eq_true rfl) (Nat.le_of_ble_eq_true rfl) (Nat.le_refl _) (by show 0 + A.slots.size ≤ A.slots.size; omega) (g := (mkF m 6 #[.val (.ref a), .val (.ref b)] [.null, .int (Int32.ofNat A.slots.size), .int (Int32.ofNat 0), .ref b, .ref a])) rfl (by rw [hml]; rfl) c2 (argsL := [.ref b, .int (Int32.ofNat 0), .int (Int32.ofNat A.slots.size), .null]) (rest := []) rfl rfl (by show 2 * 0 + 0 ≤ _; decide) (hb hbytes d6) (⟨rfl, hB.mv X0.warmed.alike hh0, f1.al X0.warmed.alike, f2.al X0.warmed.alike, hA.mv X0.warmed.alike hh0, s1.there X0.warmed.alike hh0, hz, l0, by omega, l2, fun i hi => by rw [Nat.zero_add]; exact hp i hi⟩)
  have e0 := Got.mv _ s₁ s _ _ hh0.symm (Vm.Alike.refl _) rfl E3
  obtain rfl := e0.1
  have c4 : Steps p.tables e below (s₁.setTop (entryFrame m #[.ref a, .ref b] 2)) (T3.setTop (mkF m 9 #[.val (.ref a), .val (.ref b)] [])) := g3
  exact ⟨T3, none, _, _, _, X3, by simp, rfl, by omega, (fun _ => rfl), e0, fun fs hl => c4.trans (X3.returnOut hexec hret (hb hbytes d9) hl)⟩
theorem pays {l : Launch} {R : Room} {p : Program} {e : Env} {below : List Frame} {s : State} {sargs : Array Value} {len W : Nat} (a : Addr) (D : Cell) (fV fC : Field) (b : Addr) (A : Cell) (z : Int32) (htab : tab.before sargs s = true) (hfr : 4 ≤ R.frames) (hlo : W + 65 ≤ R.locals) :
    Back l R p e below s sargs yN len W (fun A₁ a₁ => A₁.cells + 1 ≤ R.cells ∧ A₁.slots + A.slots.size ≤ R.slots ∧ P a D fV fC b A z a₁ A₁.U) (fun A₁ _ v₁ B₁ => E a D fV fC A v₁ A₁.U B₁.U ∧ B₁.locs = A₁.locs ++ [⟨a, fC.slot⟩, ⟨a, fV.slot⟩] ∧ B₁.cells = A₁.cells + 1 ∧ B₁.slots = A₁.slots + A.slots.size) :=
  (law l a D fV fC b A z).pays htab hfr (by omega)
end New1
/-- the byte, read back as charAt reads it, is the char -/
theorem lo8_mask {x : Int32} (h0 : ¬ x < 0) (h1 : ¬ 255 < x) : lo8 x &&& 255 = x := by
  have t : ∀ k : Fin 256, lo8 (Int32.ofNat k.val) &&& 255 = Int32.ofNat k.val := by decide +kernel
  rw [Int32.lt_iff_toInt_lt] at h0 h1
  have e0 : (0 : Int32).toInt = 0 := rfl
  have e1 : (255 : Int32).toInt = 255 := rfl
  obtain ⟨k, hk⟩ : ∃ k : Nat, x.toInt = k := ⟨x.toInt.toNat, by omega⟩
  have hx : x = Int32.ofNat k := Int32.toInt_inj.mp (by rw [hk, Int32.toInt_ofNat_small (by omega)])
  rw [hx]
  exact t ⟨k, by omega⟩
end StrChars
namespace StrChars.Road
open Jvm Sem ClassFile Op Lib Jvm.Stand Jvm.Free Jvm.Free.XT
open Jvm.Lib.Cold (StaticIs)
abbrev ST : String := "java/lang/String"
/-- every table word that New1's law asks, flat -/
abbrev words : List Jvm.Cond := [.code New1.yN New1.yB 2 none, .initialized ST, .methodLink ST 27 New4.yN, .instanceMethod New4.yN,
  .code New4.yN New4.yB 6 none, .fieldLink ST 38 ST "COMPACT_STRINGS" "Z", .laysFinal ST ST "value" "[B", .fieldLink ST 9 ST "value" "[B", .laysFinal ST ST "coder" "B", .fieldLink ST 15 ST "coder" "B",
  .methodLink ST 1 Lib.objectInit, .instanceMethod Lib.objectInit, .code Lib.objectInit ⟨#[0xb1]⟩ 1 none, .methodLink ST 177 Cmp3.yN, .static Cmp3.yN, .methodLink ST 47 CodL.yN, .static CodL.yN,
  .code Cmp3.yN Cmp3.yB 6 (some (.array .byte)), .initialized U16, .arrayClass .byte, .methodLink U16 115 Cmp5.yN, .static Cmp5.yN, .code Cmp5.yN Cmp5.yB 7 (some .int), .code CodL.yN CodL.yB 2 (some .byte)]
theorem tab_of {a : Array Value} {s : State} (h : ∀ w ∈ words, w.before a s = true) : New1.tab.before a s = true := by
  have h5 : Cmp5.tab.before a s = true := unparts (wk h (.code Cmp5.yN Cmp5.yB 7 (some .int))) (wks h (.initialized Cmp5.yN.cls :: Cmp5.site))
  have hc : CodL.tab.before a s = true := unparts (wk h (.code CodL.yN CodL.yB 2 (some .byte))) (wks h (.initialized CodL.yN.cls :: CodL.site))
  have q5 : ∀ w ∈ Cmp5.tab :: words, w.before a s = true := fun w hw => (List.mem_cons.mp hw).elim (fun e => e ▸ h5) (h w)
  have h3 : Cmp3.tab.before a s = true := unparts (wk q5 (.code Cmp3.yN Cmp3.yB 6 (some (.array .byte)))) (wks q5 (.initialized Cmp3.yN.cls :: Cmp3.site))
  have q3 : ∀ w ∈ Cmp3.tab :: CodL.tab :: words, w.before a s = true := fun w hw => (List.mem_cons.mp hw).elim (fun e => e ▸ h3) fun hw => (List.mem_cons.mp hw).elim (fun e => e ▸ hc) (h w)
  have h4 : New4.tab.before a s = true := unparts (wk q3 (.code New4.yN New4.yB 6 none)) (wks q3 (.initialized New4.yN.cls :: New4.site))
  have q4 : ∀ w ∈ New4.tab :: words, w.before a s = true := fun w hw => (List.mem_cons.mp hw).elim (fun e => e ▸ h4) (h w)
  exact unparts (wk q4 (.code New1.yN New1.yB 2 none)) (wks q4 (.initialized New1.yN.cls :: New1.site))
/-- the words ride from the start Z to the walk's own state -/
theorem moved {Z s : State} {a0 args : Array Value} (hZ : Z.Warmed39 s.vm) (hw : ∀ d ∈ words, d.before a0 Z = true) : ∀ d ∈ words, d.before args s = true := fun d hd => by
  have q := hw d hd
  have t : ∀ d ∈ words, d = .arrayClass .byte ∨ (d.onTables && d.keepsFace) = true := by decide +kernel
  rcases t d hd with rfl | t
  · exact RoadKit.mvA hZ q
  · exact RoadKit.mv hZ q t
/-- WHAT COMES BACK, over the tables of the start Z: h the heap at the call, h' behind it -/
def Q (Z : State) (x : Addr) (A : Cell) (h : Heap) (v : Option Value) (h' : Heap) (L : List Loc) : Prop := v = none ∧ (∀ y ∈ L, y.base = x) ∧ RoadKit.Keep h h' [x] ∧ h'.size = h.size + 1 ∧ RoadKit.Exa Z h' x ST ∧ RoadKit.Fld Z h' x ST "value" "[B" (.ref h.size) ∧ RoadKit.Fld Z h' x ST "coder" "B" (.int 0) ∧
  (∃ V : Cell, RoadKit.Arr Z h' h.size V .byte ∧ V.vm = .none ∧ Z.vm.findClass "[B" = some V.cls ∧ V.slots.size = A.slots.size ∧ ∀ j, j < A.slots.size → V.slots[j]? = some (.int (lo8 (cv A j)))) ∧
  ∀ (O n d : String) (w : Value), RoadKit.Fld Z h x O n d w → RoadKit.slotOf Z O n d ≠ RoadKit.slotOf Z ST "value" "[B" → RoadKit.slotOf Z O n d ≠ RoadKit.slotOf Z ST "coder" "B" → RoadKit.Fld Z h' x O n d w
/-- **new String(chars) AT A CALL, IN THE ROAD'S FORM**: for specialBack behind newO: x the fresh String, b the char[] with the cell A -/
theorem back {p : Program} {l : Launch} {e : Env} {R : Room} {s : State} {args : Array Value} {below : List Frame} {len W : Nat} {Z : State} {a0 : Array Value} {h : Heap} (hZ : Z.Warmed39 s.vm) (hw : ∀ d ∈ words, d.before a0 Z = true) {kI : Nat} (wi : (Jvm.Cond.instantiable ST kI).before a0 Z = true)
    {x b : Addr} {A : Cell} {z : Int32} {v0 c0 : Value} (E : RoadKit.Exa Z h x ST) (V : RoadKit.Fld Z h x ST "value" "[B" v0) (C : RoadKit.Fld Z h x ST "coder" "B" c0) (K : RoadKit.Arr Z h b A .char) (hty : Typed .char A) (S : RoadKit.Sta Z h ST "COMPACT_STRINGS" "Z" (.int z)) (hz : ¬ z = 0)
    (l0 : 0 < A.slots.size) (l2 : A.slots.size ≤ 536870912) (hp : ∀ i, i < A.slots.size → ¬ 255 < cv A i) (hfr : 4 ≤ R.frames) (hlo : W + 65 ≤ R.locals) :
    Back l R p e below s args New1.yN len W (fun P a => a = #[.ref x, .ref b] ∧ P.U.heap = h ∧ P.cells + 1 ≤ R.cells ∧ P.slots + A.slots.size ≤ R.slots)
      (fun P _ v B => ∃ L, Q Z x A h v B.U.heap L ∧ B.locs = P.locs ++ L ∧ B.cells = P.cells + 1 ∧ B.slots = P.slots + A.slots.size) := by
  intro m meth c P g ig mk a X hg hsize hdg hW hn hp'
  obtain ⟨rfl, rfl, r1, r2⟩ := hp'
  have al : Z.vm.Alike P.U.vm := hZ.alike.trans X.warmed.alike
  obtain ⟨D, cfV, kV, iV, fV, hD, gV, stV, knV, obV, asV, slV⟩ := id V
  obtain ⟨D', cfC, kC, iC, fC, hD', gC, stC, -, -, asC, slC⟩ := id C
  cases hD.symm.trans hD'
  obtain ⟨D2, kD, e1, e2, e3, e4, e5⟩ := id E
  cases hD.symm.trans e1
  obtain ⟨c2, k2, i1, i2, i3, -⟩ := Cond.instantiable_spec wi
  cases e2.symm.trans i1
  cases e3.symm.trans i2
  obtain ⟨kU, u1, u2⟩ := al.2.2 _ _ e3
  have hB : Blank ST x D P.U := ⟨hD, ⟨knV, fun q hq => by rw [hq] at obV; cases obV⟩, by rw [al.findClass]; exact e2, kU, u1, by rw [u2]; exact i3, by rw [u2]; exact e5 i3⟩
  have F1 : Found ST "value" "[B" fV P.U := ⟨SBG.found_only al ⟨cfV, kV, iV, gV⟩, stV⟩
  have F2 : Found ST "coder" "B" fC P.U := ⟨SBG.found_only al ⟨cfC, kC, iC, gC⟩, stC⟩
  have hA : Ch b A P.U := ⟨⟨K.1, State.isArrayOf_alike al K.2.1, K.2.2, by omega⟩, hty⟩
  have hS : StaticIs P.U ST "COMPACT_STRINGS" "Z" (.int z) := by
    obtain ⟨cfS, iS, kS, fS, st, cS, t1, t2, t3, t4, t5, t6, t7⟩ := S
    exact StaticIs.there (s := { Z with heap := P.U.heap }) ⟨cfS, iS, kS, fS, st, cS, t1, t2, t3, t4, t5, (fun q => by rw [q] at t6; cases t6), t7⟩ al rfl
  obtain ⟨v, B, X', ⟨⟨hv, E', V', q1, q2, q3, q4, q5, q6, q7, q8, q9, q10, q11⟩, hl, hc, hs⟩, st⟩ := New1.pays x D fV fC b A z (tab_of (moved hZ hw)) hfr hlo m meth c P g ig mk _ X hg hsize hdg hW hn ⟨r1, r2, rfl, hB, F1, F2, hA, hS, hz, l0, l2, hp⟩
  have al' : Z.vm.Alike B.U.vm := hZ.alike.trans X'.warmed.alike
  have hsz : E'.slots.size = D.slots.size := by
    obtain ⟨-, -, -, kB, w1, w2, w3⟩ := q1
    obtain ⟨kB', y1, y2⟩ := al'.2.2 _ _ e3
    rw [q2.2.1] at w1
    cases w1.symm.trans y1
    rw [w3, e5 i3, y2]
  refine ⟨v, B, X', ⟨_, ⟨hv, ?_, ⟨by omega, fun y cy hy hn' => q10 y cy (by simpa using hn') hy, fun y cy hy => ?_⟩, q11, ⟨E', _, q1.1, by rw [q2.2.1]; exact e2, by rw [q2.2.1]; exact e3, by rw [q2.1]; exact obV, fun _ => by rw [hsz]; exact e5 i3⟩,
    ⟨E', cfV, kV, iV, fV, q1.1, gV, stV, by rw [q2.1]; exact knV, by rw [q2.1]; exact obV, by rw [q2.2.1]; exact asV, q3⟩, ⟨E', cfC, kC, iC, fC, q1.1, gC, stC, by rw [q2.1]; exact knV, by rw [q2.1]; exact obV, by rw [q2.2.1]; exact asC, q4⟩,
    ⟨V', ⟨q5.1, State.isArrayOf_alike al'.symm q5.2.1, q5.2.2.1⟩, q6, by rw [← al'.findClass]; exact q7, q8, fun j hj => by have := q9 j hj; rwa [Nat.zero_add] at this⟩, fun O n d w F n1 n2 => ?_⟩, hl, hc, hs⟩, st⟩
  · intro y hy
    simp only [List.mem_cons, List.not_mem_nil, or_false] at hy
    rcases hy with rfl | rfl <;> rfl
  · by_cases q : y = x
    · subst q
      cases hD.symm.trans hy
      exact ⟨E', q1.1, q2.2.1, q2.1, hsz⟩
    · exact ⟨cy, q10 y cy q hy, rfl, rfl, rfl⟩
  · obtain ⟨D3, cf, k, i, f, g1, g2, g3, g4, g5, g6, g7⟩ := F
    cases hD.symm.trans g1
    simp only [RoadKit.slotOf, g2, gV, gC, Option.map_some, Option.getD_some] at n1 n2
    exact ⟨E', cf, k, i, f, q1.1, g2, g3, by rw [q2.1]; exact g4, by rw [q2.1]; exact g5, by rw [q2.2.1]; exact g6, by rw [q2.2.2 f.slot (by simp [n1, n2])]; exact g7⟩
end StrChars.Road
namespace StrChars.Road
open Jvm Sem ClassFile Op Lib Jvm.Stand Jvm.Free Jvm.Free.XT
/-- WHAT COMES BACK, the byte[] as a list of values -/
def QA (Z : State) (x : Addr) (zn : Int32) (cs : List Int32) (h : Heap) (v : Option Value) (h' : Heap) (L : List Loc) : Prop := v = none ∧ (∀ y ∈ L, y.base = x) ∧ RoadKit.Keep h h' [x] ∧ h'.size = h.size + 1 ∧ RoadKit.Exa Z h' x ST ∧ RoadKit.Fld Z h' x ST "value" "[B" (.ref h.size) ∧ RoadKit.Fld Z h' x ST "coder" "B" (.int 0) ∧
  (∃ kb, Z.vm.findClass "[B" = some kb ∧ RoadKit.Arv Z h' h.size kb .byte zn (cs.map fun c => .int (lo8 c)) (.int 0)) ∧
  ∀ (O n d : String) (w : Value), RoadKit.Fld Z h x O n d w → RoadKit.slotOf Z O n d ≠ RoadKit.slotOf Z ST "value" "[B" → RoadKit.slotOf Z O n d ≠ RoadKit.slotOf Z ST "coder" "B" → RoadKit.Fld Z h' x O n d w
/-- **new String(chars) AT A CALL, THE ARRAYS AS LISTS**: the char[] at b holds cs, not empty, no char above 255 -/
theorem backArv {p : Program} {l : Launch} {e : Env} {R : Room} {s : State} {args : Array Value} {below : List Frame} {len W : Nat} {Z : State} {a0 : Array Value} {h : Heap} (hZ : Z.Warmed39 s.vm) (hw : ∀ d ∈ words, d.before a0 Z = true) {kI : Nat} (wi : (Jvm.Cond.instantiable ST kI).before a0 Z = true)
    {x b : Addr} {k : ClassId} {zn z : Int32} {cs : List Int32} {dv v0 c0 : Value} (E : RoadKit.Exa Z h x ST) (V : RoadKit.Fld Z h x ST "value" "[B" v0) (C : RoadKit.Fld Z h x ST "coder" "B" c0) (K : RoadKit.Arv Z h b k .char zn (cs.map Value.int) dv) (S : RoadKit.Sta Z h ST "COMPACT_STRINGS" "Z" (.int z)) (hz : ¬ z = 0)
    (hlen : zn.toNatClampNeg = cs.length) (h0 : 0 < cs.length) (hbig : cs.length ≤ 536870912) (hall : ∀ c ∈ cs, ¬ 255 < c) (hfr : 4 ≤ R.frames) (hlo : W + 65 ≤ R.locals) :
    Back l R p e below s args New1.yN len W (fun P a => a = #[.ref x, .ref b] ∧ P.U.heap = h ∧ P.cells + 1 ≤ R.cells ∧ P.slots + cs.length ≤ R.slots)
      (fun P _ v B => ∃ L, QA Z x zn cs h v B.U.heap L ∧ B.locs = P.locs ++ L ∧ B.cells = P.cells + 1 ∧ B.slots = P.slots + cs.length) := by
  obtain ⟨A, K1, K2, K3, K4, K5, K6⟩ := K
  have e : A.slots.size = cs.length := K3.trans hlen
  have hat : ∀ (i : Nat) (hi : i < cs.length), A.slots[i]? = some (.int cs[i]) := fun i hi => by rw [K5 i (by omega)]; simp [List.getD_eq_getElem?_getD, hi]
  have hcv : ∀ (i : Nat) (hi : i < cs.length), cv A i = cs[i] := fun i hi => by unfold cv; rw [hat i hi]
  have hty : Typed .char A := fun i v hv => by
    have hi : i < A.slots.size := (Array.getElem?_eq_some_iff.mp hv).1
    have q := K5 i hi
    rw [hv] at q
    rw [Option.some.inj q]
    exact K6 i hi
  refine Back.mono (back hZ hw wi E V C K1 hty S hz (by omega) (by omega) (fun i hi => by rw [hcv i (by omega)]; exact hall _ (List.getElem_mem _)) hfr hlo) (fun P a hp => ⟨hp.1, hp.2.1, hp.2.2.1, by rw [e]; exact hp.2.2.2⟩) (fun P a v B hp hq => ?_)
  obtain ⟨L, ⟨q1, q2, q3, q4, q5, q6, q7, ⟨V', v1, v2, v3, v4, v5⟩, q9⟩, hl, hc, hs⟩ := hq
  refine ⟨L, ⟨q1, q2, q3, q4, q5, q6, q7, ⟨V'.cls, v3, V', v1, rfl, by rw [v4, e, hlen], K4, fun i hi => ?_, fun i hi => ?_⟩, q9⟩, hl, hc, by rw [hs, e]⟩
  · have hi' : i < cs.length := by omega
    rw [v5 i (by omega), hcv i hi']; simp [List.getD_eq_getElem?_getD, hi']
  · have hi' : i < cs.length := by omega
    simp only [List.getD_eq_getElem?_getD, List.getElem?_map, List.getElem?_eq_getElem hi', Option.map_some, Option.getD_some]
    exact fits_lo8 _
end StrChars.Road
namespace StrChars.Road
open Jvm Sem ClassFile Op Lib Jvm.Stand Jvm.Free Jvm.Free.XT
/-- WHAT COMES BACK, in the writer's own shape -/
def QV (Z : State) (x : Addr) (N : Int32) (bs : List Int32) (h : Heap) (n0 : Nat) (v : Option Value) (h' : Heap) (L : List Loc) : Prop := v = none ∧ RoadKit.Fr n0 L ∧ RoadKit.Keep h h' [x] ∧ RoadKit.Exa Z h' x ST ∧ RoadKit.Fld Z h' x ST "coder" "B" (.int 0) ∧
  ∃ (t : Addr) (kb : ClassId), n0 ≤ t ∧ h.size ≤ t ∧ ¬ t = x ∧ RoadKit.Fld Z h' x ST "value" "[B" (.ref t) ∧ RoadKit.Arv Z h' t kb .byte N (bs.map Value.int) (.int 0)
/-- **new String(chars) AT A CALL, FOR THE WRITER**: a char[] of n known ints, each 0 to 255 -/
theorem backV {p : Program} {l : Launch} {e : Env} {R : Room} {s : State} {args : Array Value} {below : List Frame} {len W : Nat} {Z : State} {a0 : Array Value} {h : Heap} (hZ : Z.Warmed39 s.vm) (hw : ∀ d ∈ words, d.before a0 Z = true) {kI : Nat} (wi : (Jvm.Cond.instantiable ST kI).before a0 Z = true)
    {x b : Addr} {kC : ClassId} {cs bs : List Int32} {d v0 c0 : Value} {z N : Int32} {n n0 : Nat} (hx0 : n0 ≤ x) (hh0 : n0 ≤ h.size) (E : RoadKit.Exa Z h x ST) (V : RoadKit.Fld Z h x ST "value" "[B" v0) (C : RoadKit.Fld Z h x ST "coder" "B" c0) (K : RoadKit.Arv Z h b kC .char N (cs.map Value.int) d) (S : RoadKit.Sta Z h ST "COMPACT_STRINGS" "Z" (.int z)) (hz : ¬ z = 0)
    (hn : cs.length = n) (hN : N = Int32.ofNat n) (l0 : 0 < n) (l2 : n ≤ 4000) (hp : ∀ c ∈ cs, ¬ c < 0 ∧ ¬ (255 : Int32) < c) (hb : bs = cs.map (fun c => c.toInt8.toInt32)) (hfr : 4 ≤ R.frames) (hlo : W + 65 ≤ R.locals) :
    Back l R p e below s args (⟨"java/lang/String", "<init>", "([C)V"⟩ : MethodName) len W (fun P a => a = #[.ref x, .ref b] ∧ P.U.heap = h ∧ P.cells + 1 ≤ R.cells ∧ P.slots + n ≤ R.slots)
      (fun P _ v B => ∃ L, QV Z x N bs h n0 v B.U.heap L ∧ B.locs = P.locs ++ L ∧ B.cells = P.cells + 1 ∧ B.slots = P.slots + n) := by
  subst hn hN hb
  refine Back.mono (backArv hZ hw wi E V C K S hz (n32 (by omega)) l0 (by omega) (fun c hc => (hp c hc).2) hfr hlo) (fun P a hp => hp) (fun P a v B hp hq => ?_)
  obtain ⟨L, ⟨q1, q2, q3, q4, q5, q6, q7, ⟨kb, v1, v2⟩, q9⟩, hl, hc, hs⟩ := hq
  exact ⟨L, ⟨q1, fun y hy => by rw [q2 y hy]; exact hx0, q3, q5, q7, h.size, kb, hh0, Nat.le_refl _, Nat.ne_of_gt E.lt, q6, by rw [List.map_map]; exact v2⟩, hl, hc, hs⟩
end StrChars.Road
namespace StrChars
open Jvm Sem ClassFile Op Lib Jvm.Stand Jvm.Free.XT Jvm.Free.ALB Jvm.Free.JM Jvm.Free
open Jvm.Lib.Cold (StaticIs)
def hi8 (x : Int32) : Int32 := lo8 (x >>> ((8 : Int32) &&& 31))
/-- what StringUTF16.getChar makes of two bytes -/
def pairCh (u v : Int32) : Int32 := (((u &&& 255) <<< ((0 : Int32) &&& 31)) ||| ((v &&& 255) <<< ((8 : Int32) &&& 31))).toUInt32.toUInt16.toUInt32.toInt32
theorem lo8_and (x : Int32) : (lo8 x &&& 255).toBitVec.toNat = x.toBitVec.toNat % 256 := by
  have h : (lo8 x).toBitVec = (x.toBitVec.signExtend 8).signExtend 32 := by rw [lo8, Int8.toBitVec_toInt32, Int32.toBitVec_toInt8]
  rw [Int32.toBitVec_and, BitVec.toNat_and, h]
  have e : ((x.toBitVec.signExtend 8).signExtend 32).toNat % 256 = x.toBitVec.toNat % 256 := by
    rw [BitVec.toNat_signExtend]
    have hlt := x.toBitVec.isLt
    simp only [BitVec.toNat_setWidth, BitVec.toNat_signExtend]
    split <;> split <;> omega
  rw [← e]
  exact Nat.and_two_pow_sub_one_eq_mod _ 8
theorem pair_says {c : Int32} (h0 : ¬ c < 0) (h1 : ¬ 65535 < c) : pairCh (lo8 c) (hi8 c) = c := by
  rw [Int32.lt_iff_toInt_lt] at h0 h1
  have e0 : (0 : Int32).toInt = 0 := rfl
  have e1 : (65535 : Int32).toInt = 65535 := rfl
  have hc : c.toInt = c.toBitVec.toNat := by
    have := c.toBitVec.isLt
    have e : c.toInt = c.toBitVec.toInt := rfl
    rw [e] at h0 h1
    rw [e]
    rw [BitVec.toInt_eq_toNat_cond] at h0 h1 ⊢
    split at h0 <;> split <;> omega
  have hn : c.toBitVec.toNat < 65536 := by omega
  have a1 := lo8_and c
  have a2 : (hi8 c &&& 255).toBitVec.toNat = c.toBitVec.toNat / 256 := by
    rw [hi8, lo8_and]
    have e : ((8 : Int32) &&& 31) = 8 := by decide
    rw [e, Int32.toBitVec_shiftRight]
    have e2 : ((8 : Int32).toBitVec.smod 32) = 8#32 := by decide
    rw [e2, BitVec.sshiftRight_eq', BitVec.toNat_sshiftRight_of_msb_false (by rw [BitVec.msb_eq_false_iff_two_mul_lt]; omega)]
    show c.toBitVec.toNat >>> 8 % 256 = _
    rw [Nat.shiftRight_eq_div_pow]
    omega
  unfold pairCh
  apply Int32.toBitVec_inj.mp
  apply BitVec.eq_of_toNat_eq
  have f0 : ((0 : Int32) &&& 31) = 0 := by decide
  have f8 : ((8 : Int32) &&& 31) = 8 := by decide
  rw [f0, f8]
  have g : (((lo8 c &&& 255) <<< (0 : Int32)) ||| ((hi8 c &&& 255) <<< (8 : Int32))).toBitVec.toNat = c.toBitVec.toNat := by
    rw [Int32.toBitVec_or, Int32.toBitVec_shiftLeft, Int32.toBitVec_shiftLeft]
    have s0 : ((0 : Int32).toBitVec.smod 32) = 0#32 := by decide
    have s8 : ((8 : Int32).toBitVec.smod 32) = 8#32 := by decide
    rw [s0, s8, BitVec.toNat_or]
    simp only [BitVec.shiftLeft_eq', BitVec.toNat_shiftLeft, a1, a2]
    show (c.toBitVec.toNat % 256) <<< 0 % 2 ^ 32 ||| (c.toBitVec.toNat / 256) <<< 8 % 2 ^ 32 = _
    rw [Nat.shiftLeft_zero, Nat.mod_eq_of_lt (show c.toBitVec.toNat % 256 < 2 ^ 32 by omega), Nat.mod_eq_of_lt (show (c.toBitVec.toNat / 256) <<< 8 < 2 ^ 32 by rw [Nat.shiftLeft_eq]; omega), Nat.or_comm, ← Nat.shiftLeft_add_eq_or_of_lt (by omega), Nat.shiftLeft_eq]
    omega
  show BitVec.toNat (((((lo8 c &&& 255) <<< (0 : Int32)) ||| ((hi8 c &&& 255) <<< (8 : Int32))).toBitVec.setWidth 16).setWidth 32) = _
  rw [BitVec.toNat_setWidth, BitVec.toNat_setWidth, g]
  omega
end StrChars
namespace StrChars
open Jvm Sem ClassFile Op Lib Jvm.Stand Jvm.Free.XT Jvm.Free.ALB Jvm.Free.JM Jvm.Free
open Jvm.Lib.Cold (StaticIs)
/-- the array's cell V codes the n chars f 0 .. f (n - 1) by the coder cd, as the JDK does: coder 1 just where some char is above 255 -/
def Cod (cd : Int32) (n : Nat) (f : Nat → Int32) (V : Cell) : Prop := (cd = 0 ∧ V.slots.size = n ∧ ∀ j, j < n → V.slots[j]? = some (.int (lo8 (f j))) ∧ ¬ 255 < f j) ∨ (cd = 1 ∧ V.slots.size = 2 * n ∧ (∀ j, j < n → V.slots[2 * j]? = some (.int (lo8 (f j))) ∧ V.slots[2 * j + 1]? = some (.int (hi8 (f j)))) ∧ ∃ j, j < n ∧ 255 < f j)
/-- **x is a String of the n chars f 0 .. f (n - 1)**, Latin-1 or UTF-16; its array at t has the cell V -/
def Txt (x t : Addr) (V : Cell) (cd : Int32) (n : Nat) (f : Nat → Int32) (U : State) : Prop := Exact "java/lang/String" x U ∧ Has x "java/lang/String" "value" "[B" (.ref t) U ∧ Has x "java/lang/String" "coder" "B" (.int cd) U ∧ XT.Arr .byte t V U ∧ Cod cd n f V ∧ ∀ j, j < n → ¬ f j < 0 ∧ ¬ 65535 < f j
theorem Txt.mv {x t : Addr} {V : Cell} {cd : Int32} {n : Nat} {f : Nat → Int32} {U U' : State} (h : Txt x t V cd n f U) (hal : U.vm.Alike U'.vm) (hh : U'.heap = U.heap) : Txt x t V cd n f U' := ⟨h.1.mv hal hh, h.2.1.mv hal hh, h.2.2.1.mv hal hh, h.2.2.2.1.mv hal hh, h.2.2.2.2⟩
end StrChars
namespace StrChars.Road
open Jvm Sem ClassFile Op Lib Jvm.Stand Jvm.Free Jvm.Free.XT
open Jvm.Lib.Cold (StaticIs)
theorem consq {a : Array Value} {s : State} {c : Jvm.Cond} {L : List Jvm.Cond} (h0 : c.before a s = true) (h : ∀ w ∈ L, w.before a s = true) : ∀ w ∈ c :: L, w.before a s = true := fun w hw => (List.mem_cons.mp hw).elim (fun e => e ▸ h0) (h w)
/-- the bytes of the chars cs, low before high -/
def wideBytes : List Int32 → List Value
  | [] => []
  | c :: cs => .int (lo8 c) :: .int (hi8 c) :: wideBytes cs
theorem wide_lo (d : Value) : ∀ (cs : List Int32) (j : Nat), j < cs.length → (wideBytes cs).getD (2 * j) d = .int (lo8 (cs.getD j 0))
  | [], j, h => absurd h (Nat.not_lt_zero j)
  | c :: cs, 0, _ => rfl
  | c :: cs, j + 1, h => by
    have q := wide_lo d cs j (by simpa using h)
    rw [show 2 * (j + 1) = 2 * j + 1 + 1 from by omega]
    simpa [wideBytes] using q
theorem wide_hi (d : Value) : ∀ (cs : List Int32) (j : Nat), j < cs.length → (wideBytes cs).getD (2 * j + 1) d = .int (hi8 (cs.getD j 0))
  | [], j, h => absurd h (Nat.not_lt_zero j)
  | c :: cs, 0, _ => rfl
  | c :: cs, j + 1, h => by
    have q := wide_hi d cs j (by simpa using h)
    rw [show 2 * (j + 1) + 1 = 2 * j + 1 + 1 + 1 from by omega]
    simpa [wideBytes] using q
theorem low_at (d : Value) (cs : List Int32) (j : Nat) (h : j < cs.length) : (cs.map fun c => Value.int (lo8 c)).getD j d = .int (lo8 (cs.getD j 0)) := by
  simp [List.getD_eq_getElem?_getD, h]
/-- an array of N2 bytes vs codes the chars cs by the coder cd -/
def CodA (cs : List Int32) (cd N2 : Int32) (vs : List Value) : Prop := (cd = 0 ∧ N2 = Int32.ofNat cs.length ∧ vs = (cs.map fun c => Value.int (lo8 c)) ∧ ∀ c ∈ cs, ¬ 255 < c) ∨ (cd = 1 ∧ N2 = Int32.ofNat (2 * cs.length) ∧ vs = wideBytes cs ∧ ∃ c ∈ cs, 255 < c)
theorem CodA.cod {cs : List Int32} {cd N2 : Int32} {vs : List Value} {V : Cell} (h : CodA cs cd N2 vs) (hn : 2 * cs.length < 2 ^ 31) (hs : V.slots.size = N2.toNatClampNeg) (hv : RoadKit.Has V vs (.int 0)) : Cod cd cs.length (fun j => cs.getD j 0) V := by
  rcases h with ⟨rfl, rfl, rfl, h⟩ | ⟨rfl, rfl, rfl, c, hc, hw⟩
  · rw [n32 (by omega)] at hs
    exact Or.inl ⟨rfl, hs, fun j hj => ⟨by rw [hv j (by omega), low_at _ _ _ hj], by
      have e : cs.getD j 0 = cs[j] := by simp [List.getD_eq_getElem?_getD, hj]
      show ¬ 255 < cs.getD j 0
      rw [e]; exact h _ (List.getElem_mem _)⟩⟩
  · rw [n32 (by omega)] at hs
    obtain ⟨j, hj, rfl⟩ := List.getElem_of_mem hc
    exact Or.inr ⟨rfl, hs, fun j hj => ⟨by rw [hv _ (by omega), wide_lo _ _ _ hj], by rw [hv _ (by omega), wide_hi _ _ _ hj]⟩, j, hj, by
      have e : cs.getD j 0 = cs[j] := by simp [List.getD_eq_getElem?_getD, hj]
      show 255 < cs.getD j 0
      rw [e]; exact hw⟩
/-- an object of exactly java/lang/String, its two fields found: as the laws ask it -/
theorem strObj {Z U : State} {a0 : Array Value} {kI : Nat} (wi : (Jvm.Cond.instantiable ST kI).before a0 Z = true) (al : Z.vm.Alike U.vm) {x : Addr} {v0 c0 : Value} (E : RoadKit.Exa Z U.heap x ST) (V : RoadKit.Fld Z U.heap x ST "value" "[B" v0) (C : RoadKit.Fld Z U.heap x ST "coder" "B" c0) :
    ∃ (D : Cell) (fV fC : Field), Blank ST x D U ∧ Found ST "value" "[B" fV U ∧ Found ST "coder" "B" fC U ∧ D.slots[fV.slot]? = some v0 ∧ D.slots[fC.slot]? = some c0 ∧ RoadKit.slotOf Z ST "value" "[B" = fV.slot ∧ RoadKit.slotOf Z ST "coder" "B" = fC.slot := by
  obtain ⟨D, cfV, kV, iV, fV, hD, gV, stV, knV, obV, asV, slV⟩ := V
  obtain ⟨D', cfC, kC, iC, fC, hD', gC, stC, -, -, asC, slC⟩ := C
  cases hD.symm.trans hD'
  obtain ⟨D2, kD, e1, e2, e3, e4, e5⟩ := E
  cases hD.symm.trans e1
  obtain ⟨c2, k2, i1, i2, i3, -⟩ := Cond.instantiable_spec wi
  cases e2.symm.trans i1
  cases e3.symm.trans i2
  obtain ⟨kU, u1, u2⟩ := al.2.2 _ _ e3
  exact ⟨D, fV, fC, ⟨hD, ⟨knV, fun q hq => by rw [hq] at obV; cases obV⟩, by rw [al.findClass]; exact e2, kU, u1, by rw [u2]; exact i3, by rw [u2]; exact e5 i3⟩, ⟨SBG.found_only al ⟨cfV, kV, iV, gV⟩, stV⟩, ⟨SBG.found_only al ⟨cfC, kC, iC, gC⟩, stC⟩, slV, slC, by simp [RoadKit.slotOf, gV], by simp [RoadKit.slotOf, gC]⟩
theorem sta_is {Z U : State} (al : Z.vm.Alike U.vm) {C n d : String} {v : Value} (S : RoadKit.Sta Z U.heap C n d v) : StaticIs U C n d v := by
  obtain ⟨cfS, iS, kS, fS, st, cS, t1, t2, t3, t4, t5, t6, t7⟩ := S
  exact StaticIs.there (s := { Z with heap := U.heap }) ⟨cfS, iS, kS, fS, st, cS, t1, t2, t3, t4, t5, (fun q => by rw [q] at t6; cases t6), t7⟩ al rfl
end StrChars.Road
namespace StrChars
open Jvm Sem ClassFile Op Lib Jvm.Stand Jvm.Free.XT Jvm.Free.ALB Jvm.Free.JM Jvm.Free
open Jvm.Lib.Cold (StaticIs)
/-- what place i of a byte[]'s cell holds -/
def yv (A : Cell) (i : Nat) : Int32 := match A.slots[i]? with | some (.int x) => x | _ => 0
theorem yv_get {a : Addr} {A : Cell} {U : State} (h : XT.Arr .byte a A U) (ht : Typed .byte A) {i : Nat} (hi : i < A.slots.size) : A.slots[i]? = some (.int (yv A i)) := by
  have e := Array.getElem?_eq_getElem hi
  have f := ht i _ e
  unfold yv; rw [e]
  generalize A.slots[i] = v at f
  cases v <;> simp [fits] at f ⊢
/-- the two arrays are equal, place for place -/
def EqC (A B : Cell) : Prop := A.slots.size = B.slots.size ∧ ∀ i, i < A.slots.size → yv A i = yv B i
/-- a boolean that says whether p -/
def Says01 (q : Prop) (r : Option Value) (s u : State) : Prop := ∃ v : Int32, r = some (.int v) ∧ u.heap = s.heap ∧ ((v = 1 ∧ q) ∨ (v = 0 ∧ ¬ q))
theorem Says01.mv {q : Prop} : ∀ r (U U' V V' : State), U'.heap = U.heap → V.vm.Alike V'.vm → V'.heap = V.heap → Says01 q r U V → Says01 q r U' V' :=
  fun r U U' V V' h1 _ h2 ⟨v, a, b, c⟩ => ⟨v, a, by rw [h1, h2]; exact b, c⟩
namespace LEq
def yN : MethodName := ⟨"java/lang/StringLatin1", "equals", "([B[B)Z"⟩
abbrev yB : ByteArray := jdk_43_method_13_code
theorem d0 : decode yB 0 = .ok (.aload_n 0, 1) := by decide +kernel
theorem d1 : decode yB 1 = .ok (.arraylength, 1) := by decide +kernel
theorem d2 : decode yB 2 = .ok (.aload_n 1, 1) := by decide +kernel
theorem d3 : decode yB 3 = .ok (.arraylength, 1) := by decide +kernel
theorem d4 : decode yB 4 = .ok (.if_icmp (.ne) 30, 3) := by decide +kernel
theorem d7 : decode yB 7 = .ok (.iconst 0, 1) := by decide +kernel
theorem d8 : decode yB 8 = .ok (.istore_n 2, 1) := by decide +kernel
theorem d9 : decode yB 9 = .ok (.iload_n 2, 1) := by decide +kernel
theorem d10 : decode yB 10 = .ok (.aload_n 0, 1) := by decide +kernel
theorem d11 : decode yB 11 = .ok (.arraylength, 1) := by decide +kernel
theorem d12 : decode yB 12 = .ok (.if_icmp (.ge) 20, 3) := by decide +kernel
theorem d15 : decode yB 15 = .ok (.aload_n 0, 1) := by decide +kernel
theorem d16 : decode yB 16 = .ok (.iload_n 2, 1) := by decide +kernel
theorem d17 : decode yB 17 = .ok (.baload, 1) := by decide +kernel
theorem d18 : decode yB 18 = .ok (.aload_n 1, 1) := by decide +kernel
theorem d19 : decode yB 19 = .ok (.iload_n 2, 1) := by decide +kernel
theorem d20 : decode yB 20 = .ok (.baload, 1) := by decide +kernel
theorem d21 : decode yB 21 = .ok (.if_icmp (.eq) 5, 3) := by decide +kernel
theorem d24 : decode yB 24 = .ok (.iconst 0, 1) := by decide +kernel
theorem d25 : decode yB 25 = .ok (.ireturn, 1) := by decide +kernel
theorem d26 : decode yB 26 = .ok (.iinc 2 1, 3) := by decide +kernel
theorem d29 : decode yB 29 = .ok (.goto (-20), 3) := by decide +kernel
theorem d32 : decode yB 32 = .ok (.iconst 1, 1) := by decide +kernel
theorem d33 : decode yB 33 = .ok (.ireturn, 1) := by decide +kernel
theorem d34 : decode yB 34 = .ok (.iconst 0, 1) := by decide +kernel
theorem d35 : decode yB 35 = .ok (.ireturn, 1) := by decide +kernel
def site : List Cond := []
def tab : Cond := tabOf yN yB 3 (some .boolean) site
def P (a : Addr) (A : Cell) (b : Addr) (B : Cell) (args : Array Value) (s : State) : Prop := args = #[.ref a, .ref b] ∧ XT.Arr .byte a A s ∧ Typed .byte A ∧ XT.Arr .byte b B s ∧ Typed .byte B
/-- whether two byte[] are equal, place for place -/
theorem law (l : Launch) (a : Addr) (A : Cell) (b : Addr) (B : Cell) : Law l yN 2 2 0 0 yB 3 (some .boolean) site (P a A b B) (Says01 (EqC A B)) [] 0 0 := by
  refine Law.of_walk (plainFor_of_name (by decide +kernel)) (by decide +kernel) (by decide +kernel) (by decide) (fun _ _ h => by rw [h.1]; rfl) (fun _ U U' hal hh h => ⟨h.1, h.2.1.mv hal hh, h.2.2.1, h.2.2.2.1.mv hal hh, h.2.2.2.2⟩) (fun r U U' V V' h1 hal h2 h => Says01.mv r U U' V V' h1 hal h2 h) ?_
  intro p e s m args below meth c s₁ X0 hexec hbytes hml hret hlk hnm hown hh0 W hP
  obtain ⟨rfl, hA, tA, hB, tB⟩ := hP
  have a31 := hA.2.2.2
  have b31 := hB.2.2.2
  have hA0 := hA.mv X0.warmed.alike hh0
  have hB0 := hB.mv X0.warmed.alike hh0
  have c1 : Steps p.tables e below (s₁.setTop (entryFrame m #[.ref a, .ref b] 3)) (s₁.setTop (mkF m 0 #[.val (.ref a), .val (.ref b), .unset] [])) := entry rfl
  have c2 : Steps p.tables e below (s₁.setTop (entryFrame m #[.ref a, .ref b] 3)) (s₁.setTop (mkF m 4 #[.val (.ref a), .val (.ref b), .unset] [.int (Int32.ofNat B.slots.size), .int (Int32.ofNat A.slots.size)])) := c1.trans (by
    refine XS.aloadN X0.here hexec rfl (hb hbytes d0) rfl rfl ?_
    refine X0.alen hexec hA0 rfl rfl (hb hbytes d1) ?_
    refine XS.aloadN X0.here hexec rfl (hb hbytes d2) rfl rfl ?_
    refine X0.alen hexec hB0 rfl rfl (hb hbytes d3) ?_
    exact Steps.refl _)
  by_cases hs : A.slots.size = B.slots.size
  · have c3 : Steps p.tables e below (s₁.setTop (entryFrame m #[.ref a, .ref b] 3)) (s₁.setTop (mkF m 9 #[.val (.ref a), .val (.ref b), .val (.int 0)] [])) := c2.trans (by
      refine XS.icmpNo X0.here hexec rfl (hb hbytes d4) rfl (ii_ne_f (by rw [hs])) ?_
      refine iconstV X0.here hexec rfl 0 (hb hbytes d7) (by decide) ?_
      refine XS.istoreN X0.here hexec rfl (hb hbytes d8) rfl rfl ?_
      exact Steps.refl _)
    have loop : ∀ (r i : Nat), i + r = A.slots.size → (∀ j, j < i → yv A j = yv B j) → Steps p.tables e below (s₁.setTop (entryFrame m #[.ref a, .ref b] 3)) (s₁.setTop (mkF m 9 #[.val (.ref a), .val (.ref b), .val (.int (Int32.ofNat i))] [])) → ∃ (pc : Nat) (Ls : Array Slot) (v : Int32), (pc = 25 ∨ pc = 33) ∧ ((v = 1 ∧ EqC A B) ∨ (v = 0 ∧ ¬ EqC A B)) ∧ Steps p.tables e below (s₁.setTop (entryFrame m #[.ref a, .ref b] 3)) (s₁.setTop (mkF m pc Ls [.int v])) := by
      intro r
      induction r with
      | zero =>
        intro i hi he cl
        exact ⟨33, _, 1, Or.inr rfl, Or.inl ⟨rfl, hs, fun j hj => he j (by omega)⟩, cl.trans (by
          refine XS.iloadN X0.here hexec rfl (hb hbytes d9) rfl ?_
          refine XS.aloadN X0.here hexec rfl (hb hbytes d10) rfl rfl ?_
          refine X0.alen hexec hA0 rfl rfl (hb hbytes d11) ?_
          refine XS.icmpYes X0.here hexec rfl (pc0 := 12) rfl (hb hbytes d12) rfl (ii_ge_t (nlt32 (by omega) (by omega))) (by decide) rfl ?_
          refine iconstV X0.here hexec rfl 1 (hb hbytes d32) (by decide) ?_
          exact Steps.refl _)⟩
      | succ r ih =>
        intro i hi he cl
        have c4 : Steps p.tables e below (s₁.setTop (entryFrame m #[.ref a, .ref b] 3)) (s₁.setTop (mkF m 21 #[.val (.ref a), .val (.ref b), .val (.int (Int32.ofNat i))] [.int (yv B i), .int (yv A i)])) := cl.trans (by
          refine XS.iloadN X0.here hexec rfl (hb hbytes d9) rfl ?_
          refine XS.aloadN X0.here hexec rfl (hb hbytes d10) rfl rfl ?_
          refine X0.alen hexec hA0 rfl rfl (hb hbytes d11) ?_
          refine XS.icmpNo X0.here hexec rfl (hb hbytes d12) rfl (ii_ge_f (lt32 (by omega) (by omega))) ?_
          refine XS.aloadN X0.here hexec rfl (hb hbytes d15) rfl rfl ?_
          refine XS.iloadN X0.here hexec rfl (hb hbytes d16) rfl ?_
          refine X0.aget hexec hA0 rfl (yv_get hA tA (i := i) (by omega)) rfl rfl (hb hbytes d17) ?_
          refine XS.aloadN X0.here hexec rfl (hb hbytes d18) rfl rfl ?_
          refine XS.iloadN X0.here hexec rfl (hb hbytes d19) rfl ?_
          refine X0.aget hexec hB0 rfl (yv_get hB tB (i := i) (by omega)) rfl rfl (hb hbytes d20) ?_
          exact Steps.refl _)
        by_cases hv : yv A i = yv B i
        · have c5 : Steps p.tables e below (s₁.setTop (entryFrame m #[.ref a, .ref b] 3)) (s₁.setTop (mkF m 9 #[.val (.ref a), .val (.ref b), .val (.int (Int32.ofNat i + 1))] [])) := c4.trans (by
            refine XS.icmpYes X0.here hexec rfl (pc0 := 21) rfl (hb hbytes d21) rfl (ii_eq_t hv) (by decide) rfl ?_
            refine iincV X0.here hexec rfl 1 (hb hbytes d26) (by decide) rfl rfl ?_
            refine XS.goto X0.here hexec rfl (pc0 := 29) rfl (hb hbytes d29) (by decide) rfl ?_
            exact Steps.refl _)
          rw [succ32] at c5
          exact ih (i + 1) (by omega) (fun j hj => by
            by_cases e : j = i
            · rw [e]; exact hv
            · exact he j (by omega)) c5
        · exact ⟨25, _, 0, Or.inl rfl, Or.inr ⟨rfl, fun q => hv (q.2 i (by omega))⟩, c4.trans (by
            refine XS.icmpNo X0.here hexec rfl (hb hbytes d21) rfl (ii_eq_f hv) ?_
            refine iconstV X0.here hexec rfl 0 (hb hbytes d24) (by decide) ?_
            exact Steps.refl _)⟩
    obtain ⟨pc, Ls, v, hpc, hv, cz⟩ := loop A.slots.size 0 (by omega) (fun j hj => absurd hj (Nat.not_lt_zero j)) c3
    have nv : narrow .boolean (.int v) = .int v := by rcases hv with ⟨rfl, -⟩ | ⟨rfl, -⟩ <;> rfl
    rcases hpc with rfl | rfl
    · exact ⟨s₁, some (.int v), _, _, _, X0, rfl, rfl, rfl, (fun h => by cases h), ⟨v, rfl, hh0, hv⟩, fun fs hl => cz.trans (X0.ireturnOut hexec hret nv (Or.inr (Or.inl rfl)) (hb hbytes d25) hl)⟩
    · exact ⟨s₁, some (.int v), _, _, _, X0, rfl, rfl, rfl, (fun h => by cases h), ⟨v, rfl, hh0, hv⟩, fun fs hl => cz.trans (X0.ireturnOut hexec hret nv (Or.inr (Or.inl rfl)) (hb hbytes d33) hl)⟩
  · have c3 : Steps p.tables e below (s₁.setTop (entryFrame m #[.ref a, .ref b] 3)) (s₁.setTop (mkF m 35 #[.val (.ref a), .val (.ref b), .unset] [.int 0])) := c2.trans (by
      refine XS.icmpYes X0.here hexec rfl (pc0 := 4) rfl (hb hbytes d4) rfl (ii_ne_t (ne32 a31 b31 hs)) (by decide) rfl ?_
      refine iconstV X0.here hexec rfl 0 (hb hbytes d34) (by decide) ?_
      exact Steps.refl _)
    exact ⟨s₁, some (.int 0), _, _, _, X0, rfl, rfl, rfl, (fun h => by cases h), ⟨0, rfl, hh0, Or.inr ⟨rfl, fun q => hs q.1⟩⟩, fun fs hl => c3.trans (X0.ireturnOut hexec hret rfl (Or.inr (Or.inl rfl)) (hb hbytes d35) hl)⟩
end LEq
theorem Cod.ty {cd : Int32} {n : Nat} {f : Nat → Int32} {V : Cell} (h : Cod cd n f V) : Typed .byte V := fun i v hv => by
  have hi : i < V.slots.size := (Array.getElem?_eq_some_iff.mp hv).1
  rcases h with ⟨-, k1, k2⟩ | ⟨-, k1, k2, -⟩
  · rw [(k2 i (by omega)).1] at hv; cases hv; exact fits_lo8 _
  · rcases Nat.mod_two_eq_zero_or_one i with e | e
    · obtain ⟨j, rfl⟩ : ∃ j, i = 2 * j := ⟨i / 2, by omega⟩
      rw [(k2 j (by omega)).1] at hv; cases hv; exact fits_lo8 _
    · obtain ⟨j, rfl⟩ : ∃ j, i = 2 * j + 1 := ⟨i / 2, by omega⟩
      rw [(k2 j (by omega)).2] at hv; cases hv; exact fits_lo8 _
/-- the same text -/
def SameT (n : Nat) (f : Nat → Int32) (k : Nat) (g : Nat → Int32) : Prop := n = k ∧ ∀ j, j < n → f j = g j
theorem lo8_inj {x y : Int32} (h0 : ¬ x < 0) (h1 : ¬ 255 < x) (k0 : ¬ y < 0) (k1 : ¬ 255 < y) (h : lo8 x = lo8 y) : x = y := by
  rw [← lo8_mask h0 h1, ← lo8_mask k0 k1, h]
/-- arrays coded by one coder are equal just where the texts are -/
theorem Cod.eqv {cd : Int32} {n k : Nat} {f g : Nat → Int32} {V V' : Cell} (h : Cod cd n f V) (h' : Cod cd k g V') (hf : ∀ j, j < n → ¬ f j < 0 ∧ ¬ 65535 < f j) (hg : ∀ j, j < k → ¬ g j < 0 ∧ ¬ 65535 < g j) : EqC V V' ↔ SameT n f k g := by
  have yvv : ∀ {W : Cell} {i : Nat} {x : Int32}, W.slots[i]? = some (.int x) → yv W i = x := fun q => by unfold yv; rw [q]
  rcases h with ⟨rfl, k1, k2⟩ | ⟨rfl, k1, k2, -⟩
  · rcases h' with ⟨-, m1, m2⟩ | ⟨e, -⟩
    · constructor
      · rintro ⟨e1, e2⟩
        refine ⟨by omega, fun j hj => ?_⟩
        have q := e2 j (by omega)
        rw [yvv (k2 j hj).1, yvv (m2 j (by omega)).1] at q
        exact lo8_inj (hf j hj).1 (k2 j hj).2 (hg j (by omega)).1 (m2 j (by omega)).2 q
      · rintro ⟨rfl, e2⟩
        refine ⟨by omega, fun j hj => ?_⟩
        rw [yvv (k2 j (by omega)).1, yvv (m2 j (by omega)).1, e2 j (by omega)]
    · exact absurd e (by decide)
  · rcases h' with ⟨e, -⟩ | ⟨-, m1, m2, -⟩
    · exact absurd e (by decide)
    · constructor
      · rintro ⟨e1, e2⟩
        refine ⟨by omega, fun j hj => ?_⟩
        have q1 := e2 (2 * j) (by omega)
        have q2 := e2 (2 * j + 1) (by omega)
        rw [yvv (k2 j hj).1, yvv (m2 j (by omega)).1] at q1
        rw [yvv (k2 j hj).2, yvv (m2 j (by omega)).2] at q2
        rw [← pair_says (hf j hj).1 (hf j hj).2, ← pair_says (hg j (by omega)).1 (hg j (by omega)).2, q1, q2]
      · rintro ⟨rfl, e2⟩
        refine ⟨by omega, fun i hi => ?_⟩
        rcases Nat.mod_two_eq_zero_or_one i with e | e
        · obtain ⟨j, rfl⟩ : ∃ j, i = 2 * j := ⟨i / 2, by omega⟩
          rw [yvv (k2 j (by omega)).1, yvv (m2 j (by omega)).1, e2 j (by omega)]
        · obtain ⟨j, rfl⟩ : ∃ j, i = 2 * j + 1 := ⟨i / 2, by omega⟩
          rw [yvv (k2 j (by omega)).2, yvv (m2 j (by omega)).2, e2 j (by omega)]
/-- two codings differ: so do the texts -/
theorem Cod.dif {cd cd' : Int32} {n k : Nat} {f g : Nat → Int32} {V V' : Cell} (h : Cod cd n f V) (h' : Cod cd' k g V') (hne : ¬ cd = cd') : ¬ SameT n f k g := by
  rintro ⟨rfl, e⟩
  rcases h with ⟨rfl, -, k2⟩ | ⟨rfl, -, -, j, hj, hw⟩
  · rcases h' with ⟨rfl, -⟩ | ⟨-, -, -, j, hj, hw⟩
    · exact hne rfl
    · exact (k2 j hj).2 (by rw [e j hj]; exact hw)
  · rcases h' with ⟨-, -, m2⟩ | ⟨rfl, -⟩
    · exact (m2 j hj).2 (by rw [← e j hj]; exact hw)
    · exact hne rfl
/-- an object of exactly C is an instance of C -/
theorem cinst {p : Program} {l : Launch} {e : Env} {R : Room} {s : State} {m : MethodId} {args : Array Value} {below : List Frame} {meth : Method} {c : Code} {T : State} {locs : List Loc} {cells slots : Nat} (X : Stand p l e R s m args below meth c T locs cells slots) (hexec : p.tables.exec = Jvm.exec) {own C : String} {index : Nat} (hown : s.vm.findClass own = some m.cls) (hlink : (Cond.classLink own index C).before args s = true) {a : Addr} (hE : Exact C a T)
    {g : JFrame} (hg : g.method = m) {rest : List Value} (hstack : g.stack = .ref a :: rest) (hdg : decode c.code g.pc = .ok (.instanceof index, 3)) :
    ∃ T', Stand p l e R s m args below meth c T' locs cells slots ∧ T'.heap = T.heap ∧ ∀ target, Steps p.tables e below (T'.setTop { g with pc := g.pc + 3, stack := .int 1 :: rest }) target → Steps p.tables e below (T.setTop g) target := by
  obtain ⟨cB, h1, D, h2, h3, h4⟩ := hE
  have h1' : s.vm.findClass C = some cB := by rw [← X.warmed.alike.findClass]; exact h1
  obtain ⟨vm', X', st⟩ := X.instanceofYes hexec hown hlink h2 h4 h1' (by rw [h3]; exact Jvm.Free.SB.assignable_self _ _) hg hstack hdg
  exact ⟨_, X', rfl, st⟩
theorem cself {p : Program} {l : Launch} {e : Env} {R : Room} {s : State} {m : MethodId} {args : Array Value} {below : List Frame} {meth : Method} {c : Code} {T : State} {locs : List Loc} {cells slots : Nat} (X : Stand p l e R s m args below meth c T locs cells slots) (hexec : p.tables.exec = Jvm.exec) {own C : String} {index : Nat} (hown : s.vm.findClass own = some m.cls) (hlink : (Cond.classLink own index C).before args s = true) {a : Addr} (hE : Exact C a T)
    {g : JFrame} (hg : g.method = m) {rest : List Value} (hstack : g.stack = .ref a :: rest) (hdg : decode c.code g.pc = .ok (.checkcast index, 3)) :
    ∃ T', Stand p l e R s m args below meth c T' locs cells slots ∧ T'.heap = T.heap ∧ ∀ target, Steps p.tables e below (T'.setTop { g with pc := g.pc + 3, stack := .ref a :: rest }) target → Steps p.tables e below (T.setTop g) target := by
  obtain ⟨cB, h1, D, h2, h3, h4⟩ := hE
  have h1' : s.vm.findClass C = some cB := by rw [← X.warmed.alike.findClass]; exact h1
  obtain ⟨vm', X', st⟩ := X.checkcastYes hexec hown hlink h2 h4 h1' (by rw [h3]; exact Jvm.Free.SB.assignable_self _ _) hg hstack hdg
  exact ⟨_, X', rfl, fun t h => st t (by rw [← hstack] at h; exact h)⟩
namespace SEq
def yN : MethodName := ⟨"java/lang/String", "equals", "(Ljava/lang/Object;)Z"⟩
abbrev yB : ByteArray := jdk_42_method_66_code
theorem d0 : decode yB 0 = .ok (.aload_n 0, 1) := by decide +kernel
theorem d1 : decode yB 1 = .ok (.aload_n 1, 1) := by decide +kernel
theorem d2 : decode yB 2 = .ok (.if_acmp (.ne) 5, 3) := by decide +kernel
theorem d5 : decode yB 5 = .ok (.iconst 1, 1) := by decide +kernel
theorem d6 : decode yB 6 = .ok (.ireturn, 1) := by decide +kernel
theorem d7 : decode yB 7 = .ok (.aload_n 1, 1) := by decide +kernel
theorem d8 : decode yB 8 = .ok (.instanceof 10, 3) := by decide +kernel
theorem d11 : decode yB 11 = .ok (.ifCond (.eq) 43, 3) := by decide +kernel
theorem d14 : decode yB 14 = .ok (.aload_n 1, 1) := by decide +kernel
theorem d15 : decode yB 15 = .ok (.checkcast 10, 3) := by decide +kernel
theorem d18 : decode yB 18 = .ok (.astore_n 2, 1) := by decide +kernel
theorem d19 : decode yB 19 = .ok (.getstatic 38, 3) := by decide +kernel
theorem d22 : decode yB 22 = .ok (.ifCond (.eq) 14, 3) := by decide +kernel
theorem d25 : decode yB 25 = .ok (.aload_n 0, 1) := by decide +kernel
theorem d26 : decode yB 26 = .ok (.getfield 15, 3) := by decide +kernel
theorem d29 : decode yB 29 = .ok (.aload_n 2, 1) := by decide +kernel
theorem d30 : decode yB 30 = .ok (.getfield 15, 3) := by decide +kernel
theorem d33 : decode yB 33 = .ok (.if_icmp (.ne) 21, 3) := by decide +kernel
theorem d36 : decode yB 36 = .ok (.aload_n 0, 1) := by decide +kernel
theorem d37 : decode yB 37 = .ok (.getfield 9, 3) := by decide +kernel
theorem d40 : decode yB 40 = .ok (.aload_n 2, 1) := by decide +kernel
theorem d41 : decode yB 41 = .ok (.getfield 9, 3) := by decide +kernel
theorem d44 : decode yB 44 = .ok (.invokestatic 541, 3) := by decide +kernel
theorem d47 : decode yB 47 = .ok (.ifCond (.eq) 7, 3) := by decide +kernel
theorem d50 : decode yB 50 = .ok (.iconst 1, 1) := by decide +kernel
theorem d51 : decode yB 51 = .ok (.goto 4, 3) := by decide +kernel
theorem d54 : decode yB 54 = .ok (.iconst 0, 1) := by decide +kernel
theorem d55 : decode yB 55 = .ok (.ireturn, 1) := by decide +kernel
def site : List Cond := [.classLink "java/lang/String" 10 "java/lang/String", .fieldLink "java/lang/String" 38 "java/lang/String" "COMPACT_STRINGS" "Z", .fieldLink "java/lang/String" 15 "java/lang/String" "coder" "B", .fieldLink "java/lang/String" 9 "java/lang/String" "value" "[B", LEq.tab] ++ staticW "java/lang/String" 541 LEq.yN
def tab : Cond := tabOf yN yB 3 (some .boolean) site
def P (x t : Addr) (V : Cell) (cd : Int32) (n : Nat) (f : Nat → Int32) (y t' : Addr) (V' : Cell) (cd' : Int32) (k : Nat) (g : Nat → Int32) (z : Int32) (args : Array Value) (s : State) : Prop := args = #[.ref x, .ref y] ∧ Txt x t V cd n f s ∧ Txt y t' V' cd' k g s ∧ StaticIs s "java/lang/String" "COMPACT_STRINGS" "Z" (.int z) ∧ ¬ z = 0
/-- equals(Object) of two Strings: whether the texts are the same -/
theorem law (l : Launch) (x t : Addr) (V : Cell) (cd : Int32) (n : Nat) (f : Nat → Int32) (y t' : Addr) (V' : Cell) (cd' : Int32) (k : Nat) (g : Nat → Int32) (z : Int32) : Law l yN 2 1 1 14 yB 3 (some .boolean) site (P x t V cd n f y t' V' cd' k g z) (Says01 (SameT n f k g)) [] 0 0 := by
  refine Law.of_walk (plainFor_of_name (by decide +kernel)) (by decide +kernel) (by decide +kernel) (by decide) (fun _ _ h => by rw [h.1]; rfl) (fun _ U U' hal hh h => ⟨h.1, h.2.1.mv hal hh, h.2.2.1.mv hal hh, h.2.2.2.1.there hal hh, h.2.2.2.2⟩) (fun r U U' V V' h1 hal h2 h => Says01.mv r U U' V V' h1 hal h2 h) ?_
  intro p e s m args below meth c s₁ X0 hexec hbytes hml hret hlk hnm hown hh0 W hP
  obtain ⟨rfl, hx, hy, s1, hz⟩ := hP
  have c1 : Steps p.tables e below (s₁.setTop (entryFrame m #[.ref x, .ref y] 3)) (s₁.setTop (mkF m 2 #[.val (.ref x), .val (.ref y), .unset] [.ref y, .ref x])) := Steps.trans (entry rfl) (by
    show Steps p.tables e below (s₁.setTop (mkF m 0 #[.val (.ref x), .val (.ref y), .unset] [])) _
    refine XS.aloadN X0.here hexec rfl (hb hbytes d0) rfl rfl ?_
    refine XS.aloadN X0.here hexec rfl (hb hbytes d1) rfl rfl ?_
    exact Steps.refl _)
  by_cases hxy : x = y
  · have c2 : Steps p.tables e below (s₁.setTop (entryFrame m #[.ref x, .ref y] 3)) (s₁.setTop (mkF m 6 #[.val (.ref x), .val (.ref y), .unset] [.int 1])) := c1.trans (by
      refine acmpNo X0.here hexec rfl (hb hbytes d2) rfl rfl rfl (by simp [acmp, hxy]) ?_
      refine iconstV X0.here hexec rfl 1 (hb hbytes d5) (by decide) ?_
      exact Steps.refl _)
    subst hxy
    have ec : cd = cd' := by
      obtain ⟨D, fd, a1, a2, a3⟩ := hx.2.2.1
      obtain ⟨D', fd', b1, b2, b3⟩ := hy.2.2.1
      cases a1.symm.trans b1
      obtain ⟨q1, q2, q3, q4⟩ := a2.1
      obtain ⟨r1, r2, r3, r4⟩ := b2.1
      cases q4.symm.trans r4
      cases a3.symm.trans b3; rfl
    have et : t = t' := by
      obtain ⟨D, fd, a1, a2, a3⟩ := hx.2.1
      obtain ⟨D', fd', b1, b2, b3⟩ := hy.2.1
      cases a1.symm.trans b1
      obtain ⟨q1, q2, q3, q4⟩ := a2.1
      obtain ⟨r1, r2, r3, r4⟩ := b2.1
      cases q4.symm.trans r4
      cases a3.symm.trans b3; rfl
    subst ec et
    have ev : V = V' := by cases hx.2.2.2.1.1.symm.trans hy.2.2.2.1.1; rfl
    subst ev
    have hs : SameT n f k g := (Cod.eqv hx.2.2.2.2.1 hy.2.2.2.2.1 hx.2.2.2.2.2 hy.2.2.2.2.2).mp ⟨rfl, fun _ _ => rfl⟩
    exact ⟨s₁, some (.int 1), _, _, _, X0, rfl, rfl, rfl, (fun h => by cases h), ⟨1, rfl, hh0, Or.inl ⟨rfl, hs⟩⟩, fun fs hl => c2.trans (X0.ireturnOut hexec hret rfl (Or.inr (Or.inl rfl)) (hb hbytes d6) hl)⟩
  · have c2 : Steps p.tables e below (s₁.setTop (entryFrame m #[.ref x, .ref y] 3)) (s₁.setTop (mkF m 8 #[.val (.ref x), .val (.ref y), .unset] [.ref y])) := c1.trans (by
      refine acmpYes X0.here hexec rfl (pc0 := 2) rfl (hb hbytes d2) rfl rfl rfl (by simp [acmp, hxy]) (by decide) rfl ?_
      refine XS.aloadN X0.here hexec rfl (hb hbytes d7) rfl rfl ?_
      exact Steps.refl _)
    obtain ⟨T3, X3, q3, st3⟩ := cinst X0 hexec hown (wk W (.classLink "java/lang/String" 10 "java/lang/String")) (hy.mv X0.warmed.alike hh0).1 (g := (mkF m 8 #[.val (.ref x), .val (.ref y), .unset] [.ref y])) rfl (rest := []) rfl (hb hbytes d8)
    have hh3 := q3.trans hh0
    have c4 : Steps p.tables e below (s₁.setTop (entryFrame m #[.ref x, .ref y] 3)) (T3.setTop (mkF m 15 #[.val (.ref x), .val (.ref y), .unset] [.ref y])) := (c2.trans (st3 _ (Steps.refl _))).trans (by
      refine XS.ifNo X3.here hexec rfl (hb hbytes d11) rfl (i0_eq_f (by decide)) ?_
      refine XS.aloadN X3.here hexec rfl (hb hbytes d14) rfl rfl ?_
      exact Steps.refl _)
    obtain ⟨T5, X5, q5, st5⟩ := cself X3 hexec hown (wk W (.classLink "java/lang/String" 10 "java/lang/String")) (hy.mv X3.warmed.alike hh3).1 (g := (mkF m 15 #[.val (.ref x), .val (.ref y), .unset] [.ref y])) rfl (rest := []) rfl (hb hbytes d15)
    have hh5 := q5.trans hh3
    have c6 : Steps p.tables e below (s₁.setTop (entryFrame m #[.ref x, .ref y] 3)) (T5.setTop (mkF m 19 #[.val (.ref x), .val (.ref y), .val (.ref y)] [])) := (c4.trans (st5 _ (Steps.refl _))).trans (by
      refine XS.astoreN X5.here hexec rfl (hb hbytes d18) rfl rfl rfl ?_
      exact Steps.refl _)
    obtain ⟨T7, X7, q7, st7⟩ := X5.sget hexec hown (wk W (.fieldLink "java/lang/String" 38 "java/lang/String" "COMPACT_STRINGS" "Z")) s1 (fun _ _ h => by rw [hh5]; exact h) (g := (mkF m 19 #[.val (.ref x), .val (.ref y), .val (.ref y)] [])) rfl (hb hbytes d19)
    have hh7 := q7.trans hh5
    have c8 : Steps p.tables e below (s₁.setTop (entryFrame m #[.ref x, .ref y] 3)) (T7.setTop (mkF m 26 #[.val (.ref x), .val (.ref y), .val (.ref y)] [.ref x])) := (c6.trans (st7 _ (Steps.refl _))).trans (by
      refine XS.ifNo X7.here hexec rfl (hb hbytes d22) rfl (i0_eq_f hz) ?_
      refine XS.aloadN X7.here hexec rfl (hb hbytes d25) rfl rfl ?_
      exact Steps.refl _)
    obtain ⟨T9, X9, q9, st9⟩ := X7.hget hexec hown (wk W (.fieldLink "java/lang/String" 15 "java/lang/String" "coder" "B")) (hx.mv X7.warmed.alike hh7).2.2.1 (g := (mkF m 26 #[.val (.ref x), .val (.ref y), .val (.ref y)] [.ref x])) rfl (rest := []) rfl (hb hbytes d26)
    have hh9 := q9.trans hh7
    have c10 : Steps p.tables e below (s₁.setTop (entryFrame m #[.ref x, .ref y] 3)) (T9.setTop (mkF m 30 #[.val (.ref x), .val (.ref y), .val (.ref y)] [.ref y, .int cd])) := (c8.trans (st9 _ (Steps.refl _))).trans (by
      refine XS.aloadN X9.here hexec rfl (hb hbytes d29) rfl rfl ?_
      exact Steps.refl _)
    obtain ⟨T11, X11, q11, st11⟩ := X9.hget hexec hown (wk W (.fieldLink "java/lang/String" 15 "java/lang/String" "coder" "B")) (hy.mv X9.warmed.alike hh9).2.2.1 (g := (mkF m 30 #[.val (.ref x), .val (.ref y), .val (.ref y)] [.ref y, .int cd])) rfl (rest := [.int cd]) rfl (hb hbytes d30)
    have hh11 := q11.trans hh9
    have c12 : Steps p.tables e below (s₁.setTop (entryFrame m #[.ref x, .ref y] 3)) (T11.setTop (mkF m 33 #[.val (.ref x), .val (.ref y), .val (.ref y)] [.int cd', .int cd])) := c10.trans (st11 _ (Steps.refl _))
    by_cases hcd : cd = cd'
    · subst hcd
      have c13 : Steps p.tables e below (s₁.setTop (entryFrame m #[.ref x, .ref y] 3)) (T11.setTop (mkF m 37 #[.val (.ref x), .val (.ref y), .val (.ref y)] [.ref x])) := c12.trans (by
        refine XS.icmpNo X11.here hexec rfl (hb hbytes d33) rfl (ii_ne_f rfl) ?_
        refine XS.aloadN X11.here hexec rfl (hb hbytes d36) rfl rfl ?_
        exact Steps.refl _)
      obtain ⟨T14, X14, q14, st14⟩ := X11.hget hexec hown (wk W (.fieldLink "java/lang/String" 9 "java/lang/String" "value" "[B")) (hx.mv X11.warmed.alike hh11).2.1 (g := (mkF m 37 #[.val (.ref x), .val (.ref y), .val (.ref y)] [.ref x])) rfl (rest := []) rfl (hb hbytes d37)
      have hh14 := q14.trans hh11
      have c15 : Steps p.tables e below (s₁.setTop (entryFrame m #[.ref x, .ref y] 3)) (T14.setTop (mkF m 41 #[.val (.ref x), .val (.ref y), .val (.ref y)] [.ref y, .ref t])) := (c13.trans (st14 _ (Steps.refl _))).trans (by
        refine XS.aloadN X14.here hexec rfl (hb hbytes d40) rfl rfl ?_
        exact Steps.refl _)
      obtain ⟨T16, X16, q16, st16⟩ := X14.hget hexec hown (wk W (.fieldLink "java/lang/String" 9 "java/lang/String" "value" "[B")) (hy.mv X14.warmed.alike hh14).2.1 (g := (mkF m 41 #[.val (.ref x), .val (.ref y), .val (.ref y)] [.ref y, .ref t])) rfl (rest := [.ref t]) rfl (hb hbytes d41)
      have hh16 := q16.trans hh14
      have c17 : Steps p.tables e below (s₁.setTop (entryFrame m #[.ref x, .ref y] 3)) (T16.setTop (mkF m 44 #[.val (.ref x), .val (.ref y), .val (.ref y)] [.ref t', .ref t])) := c15.trans (st16 _ (Steps.refl _))
      obtain ⟨v18, T18, X18, E18, g18⟩ := X16.callS hexec (LEq.law l t V t' V') hown (wks W (staticW "java/lang/String" 541 LEq.yN)) (wk W LEq.tab) (W := 0) (Nat.le_of_ble_eq_true rfl) (Nat.le_of_ble_eq_true rfl) (Nat.le_refl _) (Nat.le_refl _) (g := (mkF m 44 #[.val (.ref x), .val (.ref y), .val (.ref y)] [.ref t', .ref t])) rfl (by rw [hml]; rfl) c17 (argsL := [.ref t, .ref t']) (rest := []) rfl rfl (by show 2 * 0 + 0 ≤ _; decide) (hb hbytes d44) (⟨rfl, hx.2.2.2.1.mv X16.warmed.alike hh16, hx.2.2.2.2.1.ty, hy.2.2.2.1.mv X16.warmed.alike hh16, hy.2.2.2.2.1.ty⟩)
      obtain ⟨v, rfl, q18, hv⟩ := E18
      have iff := Cod.eqv hx.2.2.2.2.1 hy.2.2.2.2.1 hx.2.2.2.2.2 hy.2.2.2.2.2
      rcases hv with ⟨rfl, he⟩ | ⟨rfl, he⟩
      · have c19 : Steps p.tables e below (s₁.setTop (entryFrame m #[.ref x, .ref y] 3)) (T18.setTop (mkF m 55 #[.val (.ref x), .val (.ref y), .val (.ref y)] [.int 1])) := Steps.trans g18 (by
          refine XS.ifNo X18.here hexec rfl (hb hbytes d47) rfl (i0_eq_f (by decide)) ?_
          refine iconstV X18.here hexec rfl 1 (hb hbytes d50) (by decide) ?_
          refine XS.goto X18.here hexec rfl (pc0 := 51) rfl (hb hbytes d51) (by decide) rfl ?_
          exact Steps.refl _)
        exact ⟨T18, some (.int 1), _, _, _, X18, rfl, rfl, rfl, (fun h => by cases h), ⟨1, rfl, q18.trans hh16, Or.inl ⟨rfl, iff.mp he⟩⟩, fun fs hl => c19.trans (X18.ireturnOut hexec hret rfl (Or.inr (Or.inl rfl)) (hb hbytes d55) hl)⟩
      · have c19 : Steps p.tables e below (s₁.setTop (entryFrame m #[.ref x, .ref y] 3)) (T18.setTop (mkF m 55 #[.val (.ref x), .val (.ref y), .val (.ref y)] [.int 0])) := Steps.trans g18 (by
          refine XS.ifYes X18.here hexec rfl (pc0 := 47) rfl (hb hbytes d47) rfl (i0_eq_t rfl) (by decide) rfl ?_
          refine iconstV X18.here hexec rfl 0 (hb hbytes d54) (by decide) ?_
          exact Steps.refl _)
        exact ⟨T18, some (.int 0), _, _, _, X18, rfl, rfl, rfl, (fun h => by cases h), ⟨0, rfl, q18.trans hh16, Or.inr ⟨rfl, fun q => he (iff.mpr q)⟩⟩, fun fs hl => c19.trans (X18.ireturnOut hexec hret rfl (Or.inr (Or.inl rfl)) (hb hbytes d55) hl)⟩
    · have c13 : Steps p.tables e below (s₁.setTop (entryFrame m #[.ref x, .ref y] 3)) (T11.setTop (mkF m 55 #[.val (.ref x), .val (.ref y), .val (.ref y)] [.int 0])) := c12.trans (by
        refine XS.icmpYes X11.here hexec rfl (pc0 := 33) rfl (hb hbytes d33) rfl (ii_ne_t hcd) (by decide) rfl ?_
        refine iconstV X11.here hexec rfl 0 (hb hbytes d54) (by decide) ?_
        exact Steps.refl _)
      exact ⟨T11, some (.int 0), _, _, _, X11, rfl, rfl, rfl, (fun h => by cases h), ⟨0, rfl, hh11, Or.inr ⟨rfl, Cod.dif hx.2.2.2.2.1 hy.2.2.2.2.1 hcd⟩⟩, fun fs hl => c13.trans (X11.ireturnOut hexec hret rfl (Or.inr (Or.inl rfl)) (hb hbytes d55) hl)⟩
theorem pays {l : Launch} {R : Room} {p : Program} {e : Env} {below : List Frame} {s : State} {sargs : Array Value} {len W : Nat} (x t : Addr) (V : Cell) (cd : Int32) (n : Nat) (f : Nat → Int32) (y t' : Addr) (V' : Cell) (cd' : Int32) (k : Nat) (g : Nat → Int32) (z : Int32) (htab : tab.before sargs s = true) (hfr : 2 ≤ R.frames) (hlo : W + 28 ≤ R.locals) :
    Back l R p e below s sargs yN len W (fun A₁ a₁ => A₁.cells + 0 ≤ R.cells ∧ A₁.slots + 0 ≤ R.slots ∧ P x t V cd n f y t' V' cd' k g z a₁ A₁.U) (fun A₁ _ v₁ B₁ => Says01 (SameT n f k g) v₁ A₁.U B₁.U ∧ B₁.locs = A₁.locs ++ [] ∧ B₁.cells = A₁.cells + 0 ∧ B₁.slots = A₁.slots + 0) :=
  (law l x t V cd n f y t' V' cd' k g z).pays htab hfr (by omega)
end SEq
end StrChars
namespace StrChars.Road
open Jvm Sem ClassFile Op Lib Jvm.Stand Jvm.Free Jvm.Free.XT
open Jvm.Lib.Cold (StaticIs)
/-- the words of String.equals(Object) -/
abbrev wordsEq : List Jvm.Cond := [.code SEq.yN SEq.yB 3 (some .boolean), .initialized ST, .classLink ST 10 ST, .fieldLink ST 38 ST "COMPACT_STRINGS" "Z", .fieldLink ST 15 ST "coder" "B", .fieldLink ST 9 ST "value" "[B", .methodLink ST 541 LEq.yN, .static LEq.yN, .code LEq.yN LEq.yB 3 (some .boolean), .initialized "java/lang/StringLatin1"]
theorem tabEq_of {a : Array Value} {s : State} (h : ∀ w ∈ wordsEq, w.before a s = true) : SEq.tab.before a s = true := by
  have hl : LEq.tab.before a s = true := unparts (wk h (.code LEq.yN LEq.yB 3 (some .boolean))) (wks h (.initialized LEq.yN.cls :: LEq.site))
  have q := consq hl h
  exact unparts (wk q (.code SEq.yN SEq.yB 3 (some .boolean))) (wks q (.initialized SEq.yN.cls :: SEq.site))
theorem movedEq {Z s : State} {a0 args : Array Value} (hZ : Z.Warmed39 s.vm) (hw : ∀ d ∈ wordsEq, d.before a0 Z = true) : ∀ d ∈ wordsEq, d.before args s = true := fun d hd => by
  have t : ∀ d ∈ wordsEq, (d.onTables && d.keepsFace) = true := by decide +kernel
  exact RoadKit.mv hZ (hw d hd) (t d hd)
/-- the road's facts of a String, as the laws ask it -/
theorem txt_of {Z U : State} {a0 : Array Value} {kI : Nat} (wi : (Jvm.Cond.instantiable ST kI).before a0 Z = true) (al : Z.vm.Alike U.vm) {x t : Addr} {kb : ClassId} {cs : List Int32} {cd N2 : Int32} {vs : List Value} (E : RoadKit.Exa Z U.heap x ST) (V : RoadKit.Fld Z U.heap x ST "value" "[B" (.ref t)) (C : RoadKit.Fld Z U.heap x ST "coder" "B" (.int cd)) (K : RoadKit.Arv Z U.heap t kb .byte N2 vs (.int 0)) (hc : CodA cs cd N2 vs) (hb : ∀ c ∈ cs, ¬ c < 0 ∧ ¬ (65535 : Int32) < c) (l2 : cs.length ≤ 4000) :
    ∃ A, Txt x t A cd cs.length (fun j => cs.getD j 0) U := by
  obtain ⟨A, K1, K2, K3, K4, K5, K6⟩ := K
  have hcod := hc.cod (by omega) K3 K5
  obtain ⟨D, fV, fC, hB, F1, F2, g1, g2, -, -⟩ := strObj wi al E V C
  exact ⟨A, ⟨_, hB.2.2.1, D, hB.1, rfl, by cases q : D.vm <;> first | rfl | exact absurd q (hB.2.1.2 _)⟩, Has.of hB F1 g1, Has.of hB F2 g2, ⟨K1.1, State.isArrayOf_alike al K1.2.1, K1.2.2, by rcases hcod with ⟨-, q, -⟩ | ⟨-, q, -⟩ <;> omega⟩, hcod, fun j hj => by
    have e : cs.getD j 0 = cs[j] := by simp [List.getD_eq_getElem?_getD, hj]
    show ¬ cs.getD j 0 < 0 ∧ ¬ 65535 < cs.getD j 0
    rw [e]; exact hb _ (List.getElem_mem _)⟩
theorem same_list (cs ds : List Int32) : SameT cs.length (fun j => cs.getD j 0) ds.length (fun j => ds.getD j 0) ↔ cs = ds := by
  constructor
  · rintro ⟨e, q⟩
    refine List.ext_getElem e fun j h1 h2 => ?_
    have := q j h1
    simpa [List.getD_eq_getElem?_getD, h1, h2] using this
  · rintro rfl
    exact ⟨rfl, fun _ _ => rfl⟩
/-- **equals(Object) OF TWO SUCH STRINGS**: 1 just where the chars are the same -/
theorem eqW {p : Program} {l : Launch} {e : Env} {R : Room} {s : State} {args : Array Value} {below : List Frame} {len W : Nat} {Z : State} {a0 : Array Value} {h : Heap} (hZ : Z.Warmed39 s.vm) (hw : ∀ d ∈ wordsEq, d.before a0 Z = true) {kI : Nat} (wi : (Jvm.Cond.instantiable ST kI).before a0 Z = true)
    {x t : Addr} {kb : ClassId} {cs : List Int32} {cd N2 : Int32} {vs : List Value} (E : RoadKit.Exa Z h x ST) (V : RoadKit.Fld Z h x ST "value" "[B" (.ref t)) (C : RoadKit.Fld Z h x ST "coder" "B" (.int cd)) (K : RoadKit.Arv Z h t kb .byte N2 vs (.int 0)) (hc : CodA cs cd N2 vs) (hb : ∀ c ∈ cs, ¬ c < 0 ∧ ¬ (65535 : Int32) < c) (l2 : cs.length ≤ 4000)
    {y t' : Addr} {kb' : ClassId} {ds : List Int32} {cd' N2' : Int32} {vs' : List Value} (E' : RoadKit.Exa Z h y ST) (V' : RoadKit.Fld Z h y ST "value" "[B" (.ref t')) (C' : RoadKit.Fld Z h y ST "coder" "B" (.int cd')) (K' : RoadKit.Arv Z h t' kb' .byte N2' vs' (.int 0)) (hc' : CodA ds cd' N2' vs') (hb' : ∀ c ∈ ds, ¬ c < 0 ∧ ¬ (65535 : Int32) < c) (l2' : ds.length ≤ 4000)
    {z : Int32} (S : RoadKit.Sta Z h ST "COMPACT_STRINGS" "Z" (.int z)) (hz : ¬ z = 0) (hfr : 2 ≤ R.frames) (hlo : W + 28 ≤ R.locals) :
    Back l R p e below s args (⟨"java/lang/String", "equals", "(Ljava/lang/Object;)Z"⟩ : MethodName) len W (fun P a => a = #[.ref x, .ref y] ∧ P.U.heap = h ∧ P.cells + 0 ≤ R.cells ∧ P.slots + 0 ≤ R.slots)
      (fun P _ v B => ∃ L, (((v = some (.int 1) ∧ cs = ds) ∨ (v = some (.int 0) ∧ ¬ cs = ds)) ∧ L = [] ∧ B.U.heap = h) ∧ B.locs = P.locs ++ L ∧ B.cells = P.cells + 0 ∧ B.slots = P.slots + 0) := by
  intro m meth c P g ig mk a X hg hsize hdg hW hn hp'
  obtain ⟨rfl, rfl, r1, r2⟩ := hp'
  have al : Z.vm.Alike P.U.vm := hZ.alike.trans X.warmed.alike
  obtain ⟨A, hx⟩ := txt_of wi al E V C K hc hb l2
  obtain ⟨A', hy⟩ := txt_of wi al E' V' C' K' hc' hb' l2'
  obtain ⟨v, B, X', ⟨⟨w, hv, hh, hq⟩, hl, hk, hs⟩, st⟩ := SEq.pays x t A cd cs.length (fun j => cs.getD j 0) y t' A' cd' ds.length (fun j => ds.getD j 0) z (tabEq_of (movedEq hZ hw)) hfr hlo m meth c P g ig mk _ X hg hsize hdg hW hn ⟨r1, r2, rfl, hx, hy, sta_is al S, hz⟩
  refine ⟨v, B, X', ⟨[], ⟨?_, rfl, hh⟩, hl, hk, hs⟩, st⟩
  rcases hq with ⟨rfl, q⟩ | ⟨rfl, q⟩
  · exact Or.inl ⟨hv, (same_list cs ds).mp q⟩
  · exact Or.inr ⟨hv, fun e => q ((same_list cs ds).mpr e)⟩
end StrChars.Road
namespace StrChars.Road
open Jvm Sem ClassFile Op Lib Jvm.Stand Jvm.Free Jvm.Free.XT
open Jvm.Lib.Cold (StaticIs)
/-- what backV says of its String, as the contracts of this text ask it: cs's low bytes, coder 0 -/
theorem codOf {cs : List Int32} {n : Nat} (hn : cs.length = n) (hb : ∀ c ∈ cs, ¬ 255 < c) : CodA cs 0 (Int32.ofNat n) ((cs.map lo8).map Value.int) := Or.inl ⟨rfl, by rw [hn], by simp [List.map_map, Function.comp_def], hb⟩
end StrChars.Road
end Jvm.Pilot.@@N@@
namespace Jvm.Pilot.@@N@@
open Jvm Jvm.ClassFile Sem Op Lib Jvm.Free Jvm.Stand Jvm.LawKit Jvm.RoadKit Bundle Jvm.Pilot.@@N@@.Jvm.D
theorem and255_chars (x : Int32) : ¬ nar .char ((x &&& (255 : Int32)).toUInt32.toUInt16.toUInt32.toInt32) < 0 ∧ ¬ (255 : Int32) < nar .char ((x &&& (255 : Int32)).toUInt32.toUInt16.toUInt32.toInt32) := by
  have t : ∀ k : Fin 256, ¬ nar .char ((Int32.ofNat k.val).toUInt32.toUInt16.toUInt32.toInt32) < 0 ∧ ¬ (255 : Int32) < nar .char ((Int32.ofNat k.val).toUInt32.toUInt16.toUInt32.toInt32) := by decide +kernel
  have h : (x &&& 255).toBitVec.toNat < 256 := by
    simp only [Int32.toBitVec_and, BitVec.toNat_and]
    exact Nat.lt_succ_of_le Nat.and_le_right
  have e : (x &&& 255) = Int32.ofNat (x &&& 255).toBitVec.toNat := by
    apply Int32.toBitVec_inj.mp
    show _ = BitVec.ofNat 32 _
    rw [BitVec.ofNat_toNat]; simp
  rw [e]
  exact t ⟨_, h⟩
theorem up (cs : List Int32) (h : ∀ c ∈ cs, ¬ c < 0 ∧ ¬ (255 : Int32) < c) : ∀ c ∈ cs, ¬ c < 0 ∧ ¬ (65535 : Int32) < c := fun c hc => ⟨(h c hc).1, fun q => (h c hc).2 (by rw [Int32.lt_iff_toInt_lt] at q ⊢; have e1 : (65535 : Int32).toInt = 65535 := rfl; have e2 : (255 : Int32).toInt = 255 := rfl; omega)⟩
def own_Str (Z : State) (h : Heap) (x : Addr) (cs : List Int32) : Prop := (∀ c ∈ cs, ¬ c < 0 ∧ ¬ (255 : Int32) < c) ∧ cs.length ≤ 4000 ∧ Exa Z h x "java/lang/String" ∧ Fld Z h x "java/lang/String" "coder" "B" (.int 0) ∧ ∃ (t : Addr) (kb : ClassId), Fld Z h x "java/lang/String" "value" "[B" (.ref t) ∧ Arv Z h t kb .byte (Int32.ofNat cs.length) ((cs.map fun c => c.toInt8.toInt32).map Value.int) (.int 0)
theorem own_Str.ext {Z : State} {h h' : Heap} {x : Addr} {cs : List Int32} (E : Ext h h') (S : own_Str Z h x cs) : own_Str Z h' x cs := by
  obtain ⟨h1, h2, h3, h4, t, kb, h5, h6⟩ := S
  exact ⟨h1, h2, h3.ext E, h4.ext E, t, kb, h5.ext E, h6.ext E⟩
theorem own_narc {c : Int32} (h : ¬ c < 0 ∧ ¬ (255 : Int32) < c) : nar .char c = c := by
  have e : c = Int32.ofNat c.toInt.toNat := by
    apply Int32.toInt_inj.mp
    rw [Int32.toInt_ofNat_of_lt]
    · have := h.1; rw [Int32.lt_iff_toInt_lt] at this; have e0 : (0 : Int32).toInt = 0 := rfl; omega
    · have := h.2; rw [Int32.lt_iff_toInt_lt] at this; have e0 : (255 : Int32).toInt = 255 := rfl; omega
  have hk : c.toInt.toNat < 256 := by
    have := h.2; rw [Int32.lt_iff_toInt_lt] at this; have e0 : (255 : Int32).toInt = 255 := rfl; omega
  have t : ∀ k : Fin 256, nar .char (Int32.ofNat k.val) = Int32.ofNat k.val := by decide +kernel
  rw [e]; exact t ⟨_, hk⟩
theorem own_no {Z : State} {a0 : Array Value} {C S K : String} {n : Nat} (w : (Jvm.Cond.superclass C S).before a0 Z = true) (wo : (Jvm.Cond.noSuperclass S).before a0 Z = true) (wi : (Jvm.Cond.instantiable K n).before a0 Z = true) (hn : C ≠ K) (ho : S ≠ K) : ∃ c t, Z.vm.findClass C = some c ∧ Z.vm.findClass K = some t ∧ Z.vm.assignable c t = false := by
  obtain ⟨c2, k2, i1, i2, i3, i4, -⟩ := Cond.instantiable_spec wi
  obtain ⟨c, h0⟩ := found_sup w
  obtain ⟨p, k, kp, h1, h2, h3, h4, h5, -, h7⟩ := Cond.superclass_spec h0 w
  obtain ⟨co, ko, o1, o2, o3, -, -⟩ := Cond.noSuperclass_spec wo
  cases h1.symm.trans o1
  have ne := ids_ne h0 i1 hn
  have ne2 := ids_ne o1 i1 ho
  have hif : k2.isInterface = false := by simp at i4; exact i4.1
  refine ⟨c, c2, h0, i1, ?_⟩
  show Z.vm.assignableAux (255 + 1) c c2 = false
  have q : ∀ fuel, Z.vm.isSubclassAux fuel c c2 = false := by
    intro fuel
    cases fuel with
    | zero => rfl
    | succ f =>
      cases f with
      | zero => simp [Vm.isSubclassAux, ne, h2, h4]
      | succ g => simp [Vm.isSubclassAux, ne, ne2, h2, h4, o2, o3]
  simp [Vm.assignableAux, ne, h2, i2, h5, i3, hif, Vm.isSubclass, q]
theorem own_pd0 : parseMethodDescriptor "([C)V" = some ⟨[(.array .char)], none⟩ := by decide +kernel
theorem own_pd1 : parseMethodDescriptor "(Ljava/lang/Object;)Z" = some ⟨[(.object "java/lang/Object")], some .boolean⟩ := by decide +kernel
theorem own_pd2 : parseMethodDescriptor "(ICC)Ljava/lang/String;" = some ⟨[.int, .char, .char], some (.object "java/lang/String")⟩ := by decide +kernel
theorem own_pd3 : parseMethodDescriptor "(Ljava/lang/String;IILjava/lang/String;I)V" = some ⟨[(.object "java/lang/String"), .int, .int, (.object "java/lang/String"), .int], none⟩ := by decide +kernel
theorem own_pd4 : parseMethodDescriptor "(ICCICC)Z" = some ⟨[.int, .char, .char, .int, .char, .char], some .boolean⟩ := by decide +kernel
def Fs (Z : State) (h : Heap) (a : Addr) (x1 : Value) (x2 : Value) (x3 : Value) (x4 : Value) (x5 : Value) : Prop := Exa Z h a "com/example/ample_search/amplesearch/analysis/Token" ∧ Fld Z h a "com/example/ample_search/amplesearch/analysis/Token" "term" "Ljava/lang/String;" x1 ∧ Fld Z h a "com/example/ample_search/amplesearch/analysis/Token" "startOffset" "I" x2 ∧ Fld Z h a "com/example/ample_search/amplesearch/analysis/Token" "endOffset" "I" x3 ∧ Fld Z h a "com/example/ample_search/amplesearch/analysis/Token" "type" "Ljava/lang/String;" x4 ∧ Fld Z h a "com/example/ample_search/amplesearch/analysis/Token" "position" "I" x5
theorem d8_0 : decode prog_12_method_1_code 0 = .ok (.aload_n 0, 1) := by decide +kernel
theorem d8_1 : decode prog_12_method_1_code 1 = .ok (.invokespecial 1, 3) := by decide +kernel
theorem d8_4 : decode prog_12_method_1_code 4 = .ok (.aload_n 0, 1) := by decide +kernel
theorem d8_5 : decode prog_12_method_1_code 5 = .ok (.aload_n 1, 1) := by decide +kernel
theorem d8_6 : decode prog_12_method_1_code 6 = .ok (.putfield 7, 3) := by decide +kernel
theorem d8_9 : decode prog_12_method_1_code 9 = .ok (.aload_n 0, 1) := by decide +kernel
theorem d8_10 : decode prog_12_method_1_code 10 = .ok (.iload_n 2, 1) := by decide +kernel
theorem d8_11 : decode prog_12_method_1_code 11 = .ok (.putfield 13, 3) := by decide +kernel
theorem d8_14 : decode prog_12_method_1_code 14 = .ok (.aload_n 0, 1) := by decide +kernel
theorem d8_15 : decode prog_12_method_1_code 15 = .ok (.iload_n 3, 1) := by decide +kernel
theorem d8_16 : decode prog_12_method_1_code 16 = .ok (.putfield 17, 3) := by decide +kernel
theorem d8_19 : decode prog_12_method_1_code 19 = .ok (.aload_n 0, 1) := by decide +kernel
theorem d8_20 : decode prog_12_method_1_code 20 = .ok (.aload 4, 2) := by decide +kernel
theorem d8_22 : decode prog_12_method_1_code 22 = .ok (.putfield 20, 3) := by decide +kernel
theorem d8_25 : decode prog_12_method_1_code 25 = .ok (.aload_n 0, 1) := by decide +kernel
theorem d8_26 : decode prog_12_method_1_code 26 = .ok (.iload 5, 2) := by decide +kernel
theorem d8_28 : decode prog_12_method_1_code 28 = .ok (.putfield 23, 3) := by decide +kernel
theorem d8_31 : decode prog_12_method_1_code 31 = .ok (.return_, 1) := by decide +kernel
def Qrm8 (Z : State) (a1 : Addr) (p0 : Value) (p1 : Int32) (p2 : Int32) (p3 : Value) (p4 : Int32) (h0 : Heap) (n0 : Nat) (v : Option Value) (h : Heap) (L : List Loc) : Prop := v = none ∧ Fr n0 L ∧ Keep h0 h [a1] ∧ Fs Z h a1 p0 (.int p1) (.int p2) p3 (.int p4)
theorem own_pn_rm8 : plainName "com/example/ample_search/amplesearch/analysis/Token" = true := by first | (simp [plainName, overriddenIn]; done) | decide +kernel
theorem own_ef_rm8 (m : MethodId) (a1 : Addr) (p0 : Value) (p1 : Int32) (p2 : Int32) (p3 : Value) (p4 : Int32) (h_p0 : p0.isRef = true)  (h_p3 : p3.isRef = true) : entryFrame m #[(.ref a1), p0, (.int p1), (.int p2), p3, (.int p4)] 6 = (mkF m 0 #[.val (.ref a1), .val p0, .val (.int p1), .val (.int p2), .val p3, .val (.int p4)] []) := by rcases ref_cases h_p0 with rfl | ⟨_, rfl⟩ <;> rcases ref_cases h_p3 with rfl | ⟨_, rfl⟩ <;> first | (simp [entryFrame, mkF, argsToLocals, Value.category]; done) | rfl
set_option maxRecDepth 65536 in
set_option maxHeartbeats 40000000 in
theorem rm8 (l : Launch) (Z : State) (a0 : Array Value) (hw : ∀ d ∈ tables_1, d.before a0 Z = true) (ws : List Jvm.Cond) (a1 : Addr) (p0 : Value) (p1 : Int32) (p2 : Int32) (p3 : Value) (p4 : Int32) (u0 : Value) (u1 : Value) (u2 : Value) (u3 : Value) (u4 : Value) (h0 : Heap) (n0 : Nat) (Z0 : n0 ≤ h0.size) (hr0 : p0.isRef = true) (hr3 : p3.isRef = true) (ge1 : n0 ≤ a1) (F : Fs Z h0 a1 u0 u1 u2 u3 u4) :
    MetFree l (⟨"com/example/ample_search/amplesearch/analysis/Token", "<init>", "(Ljava/lang/String;IILjava/lang/String;I)V"⟩ : MethodName) (head1 (Jvm.Cond.code (⟨"com/example/ample_search/amplesearch/analysis/Token", "<init>", "(Ljava/lang/String;IILjava/lang/String;I)V"⟩ : MethodName) prog_12_method_1_code 6 none :: ws) ({ frames := 2, cells := 0, slots := 0, locals := 24 } : Room)) (fun a U => a = #[(.ref a1), p0, (.int p1), (.int p2), p3, (.int p4)] ∧ Z.Warmed39 U.vm ∧ U.heap = h0) (fun _ _ _ _ _ => True) (fun _ U o U' => ∃ v L, o = .returned v ∧ Qrm8 Z a1 p0 p1 p2 p3 p4 h0 n0 v U'.heap L ∧ FrameEnd U o U' L ({ frames := 2, cells := 0, slots := 0, locals := 24 } : Room).cells ({ frames := 2, cells := 0, slots := 0, locals := 24 } : Room).slots) := by
  refine MetFree.of_bodySF (plainFor_of_name own_pn_rm8) hisR ?_
  intro p e s m args below meth c s₁ Bd hml0 hP hK
  obtain ⟨hargs, hZ, hh⟩ := hP
  have hx := Bd.exec
  have hby := Bd.bytes
  have hml : c.maxLocals = 6 := hml0
  have hown : s.vm.findClass "com/example/ample_search/amplesearch/analysis/Token" = some m.cls := findClass_of_methodNamed Bd.named
  have hnm := (name_of_methodNamed Bd.named Bd.method).1
  have hlock : meth.locks = false := Bd.notSynchronized
  have hret0 := Bd.returns
  have X0 : Stand p l e ({ frames := 2, cells := 0, slots := 0, locals := 24 } : Room) s m args below meth c s₁ [] 0 0 := Stand.of_body Bd
  have e0 : s₁.heap = h0 := by rw [← hh, Bd.state]; rfl
  have N0 := Fr.nil n0
  have pre0 : ∀ t, Steps p.tables e below (s₁.setTop (mkF m 0 #[.val (.ref a1), .val p0, .val (.int p1), .val (.int p2), .val p3, .val (.int p4)] [])) t → Steps p.tables e below (s₁.setTop (entryFrame m args 6)) t := fun t k => castTop (by rw [hargs]; exact own_ef_rm8 m a1 p0 p1 p2 p3 p4 hr0 hr3) k
  clear Bd
  obtain ⟨Ex, F0, F1, F2, F3, F4⟩ := F
  obtain ⟨T1, X1, e1, st1⟩ := initO X0 hx hZ hown (hw _ (List.mem_of_getElem? (i := 41) rfl)) (hw _ (List.mem_of_getElem? (i := 17) rfl)) (hw _ (List.mem_of_getElem? (i := 18) rfl)) e0 (g := (mkF m 1 #[.val (.ref a1), .val p0, .val (.int p1), .val (.int p2), .val p3, .val (.int p4)] [(.ref a1)])) rfl (by rw [hml]; rfl) rfl (hb hby d8_1) (by decide) (W := 0) (by show 2 * 0 + _ ≤ _; exact Nat.le_of_eq rfl) (by decide)
  obtain ⟨T2, h2, X2, e2, W2, st2⟩ := putF X1 hx hZ hown (host := "") (Or.inl (hw _ (List.mem_of_getElem? (i := 42) rfl))) Via.refl e1 F0 Ex (Or.inr ⟨(hw _ (List.mem_of_getElem? (i := 43) rfl)), rfl, hnm⟩) (hw _ (List.mem_of_getElem? (i := 36) rfl)) (ty := (.object "java/lang/String")) (by decide) (own_narR hr0 (by decide)) (own_fitR hr0 (by decide)) (g := (mkF m 6 #[.val (.ref a1), .val p0, .val (.int p1), .val (.int p2), .val p3, .val (.int p4)] [p0, (.ref a1)])) rfl rfl (hb hby d8_6)
  have Z3 : n0 ≤ h2.size := Nat.le_trans Z0 (Keep.of_wr W2).1
  have K4 : Keep h0 h2 [a1] := (Keep.refl h0 [a1]).wr W2 (Or.inl (List.mem_of_getElem? (i := 0) rfl))
  have N2 := Fr.snoc X2 N0 ge1
  have f5 := F0.same W2
  have f6 := (F1.other W2 (Or.inr (slot_ne (Or.inr (hw _ (List.mem_of_getElem? (i := 45) rfl))) (Or.inr (hw _ (List.mem_of_getElem? (i := 43) rfl))) (by decide) (t := .int) (t' := (.object "java/lang/String")) (by decide) (by decide))))
  have f7 := (Ex.wr W2)
  obtain ⟨T8, h8, X8, e8, W8, st8⟩ := putF X2 hx hZ hown (host := "") (Or.inl (hw _ (List.mem_of_getElem? (i := 44) rfl))) Via.refl e2 f6 f7 (Or.inr ⟨(hw _ (List.mem_of_getElem? (i := 45) rfl)), rfl, hnm⟩) (hw _ (List.mem_of_getElem? (i := 36) rfl)) (ty := .int) (by decide) rfl rfl (g := (mkF m 11 #[.val (.ref a1), .val p0, .val (.int p1), .val (.int p2), .val p3, .val (.int p4)] [(.int p1), (.ref a1)])) rfl rfl (hb hby d8_11)
  have Z9 : n0 ≤ h8.size := Nat.le_trans Z3 (Keep.of_wr W8).1
  have K10 : Keep h0 h8 [a1] := K4.wr W8 (Or.inl (List.mem_of_getElem? (i := 0) rfl))
  have N8 := Fr.snoc X8 N2 ge1
  have f11 := f6.same W8
  have f12 := ((F2.other W2 (Or.inr (slot_ne (Or.inr (hw _ (List.mem_of_getElem? (i := 47) rfl))) (Or.inr (hw _ (List.mem_of_getElem? (i := 43) rfl))) (by decide) (t := .int) (t' := (.object "java/lang/String")) (by decide) (by decide)))).other W8 (Or.inr (slot_ne (Or.inr (hw _ (List.mem_of_getElem? (i := 47) rfl))) (Or.inr (hw _ (List.mem_of_getElem? (i := 45) rfl))) (by decide) (t := .int) (t' := .int) (by decide) (by decide))))
  have f13 := (f7.wr W8)
  obtain ⟨T14, h14, X14, e14, W14, st14⟩ := putF X8 hx hZ hown (host := "") (Or.inl (hw _ (List.mem_of_getElem? (i := 46) rfl))) Via.refl e8 f12 f13 (Or.inr ⟨(hw _ (List.mem_of_getElem? (i := 47) rfl)), rfl, hnm⟩) (hw _ (List.mem_of_getElem? (i := 36) rfl)) (ty := .int) (by decide) rfl rfl (g := (mkF m 16 #[.val (.ref a1), .val p0, .val (.int p1), .val (.int p2), .val p3, .val (.int p4)] [(.int p2), (.ref a1)])) rfl rfl (hb hby d8_16)
  have Z15 : n0 ≤ h14.size := Nat.le_trans Z9 (Keep.of_wr W14).1
  have K16 : Keep h0 h14 [a1] := K10.wr W14 (Or.inl (List.mem_of_getElem? (i := 0) rfl))
  have N14 := Fr.snoc X14 N8 ge1
  have f17 := f12.same W14
  have f18 := (((F3.other W2 (Or.inr (slot_ne (Or.inr (hw _ (List.mem_of_getElem? (i := 49) rfl))) (Or.inr (hw _ (List.mem_of_getElem? (i := 43) rfl))) (by decide) (t := (.object "java/lang/String")) (t' := (.object "java/lang/String")) (by decide) (by decide)))).other W8 (Or.inr (slot_ne (Or.inr (hw _ (List.mem_of_getElem? (i := 49) rfl))) (Or.inr (hw _ (List.mem_of_getElem? (i := 45) rfl))) (by decide) (t := (.object "java/lang/String")) (t' := .int) (by decide) (by decide)))).other W14 (Or.inr (slot_ne (Or.inr (hw _ (List.mem_of_getElem? (i := 49) rfl))) (Or.inr (hw _ (List.mem_of_getElem? (i := 47) rfl))) (by decide) (t := (.object "java/lang/String")) (t' := .int) (by decide) (by decide))))
  have f19 := (f13.wr W14)
  obtain ⟨T20, h20, X20, e20, W20, st20⟩ := putF X14 hx hZ hown (host := "") (Or.inl (hw _ (List.mem_of_getElem? (i := 48) rfl))) Via.refl e14 f18 f19 (Or.inr ⟨(hw _ (List.mem_of_getElem? (i := 49) rfl)), rfl, hnm⟩) (hw _ (List.mem_of_getElem? (i := 36) rfl)) (ty := (.object "java/lang/String")) (by decide) (own_narR hr3 (by decide)) (own_fitR hr3 (by decide)) (g := (mkF m 22 #[.val (.ref a1), .val p0, .val (.int p1), .val (.int p2), .val p3, .val (.int p4)] [p3, (.ref a1)])) rfl rfl (hb hby d8_22)
  have Z21 : n0 ≤ h20.size := Nat.le_trans Z15 (Keep.of_wr W20).1
  have K22 : Keep h0 h20 [a1] := K16.wr W20 (Or.inl (List.mem_of_getElem? (i := 0) rfl))
  have N20 := Fr.snoc X20 N14 ge1
  have f23 := f18.same W20
  have f24 := ((((F4.other W2 (Or.inr (slot_ne (Or.inr (hw _ (List.mem_of_getElem? (i := 51) rfl))) (Or.inr (hw _ (List.mem_of_getElem? (i := 43) rfl))) (by decide) (t := .int) (t' := (.object "java/lang/String")) (by decide) (by decide)))).other W8 (Or.inr (slot_ne (Or.inr (hw _ (List.mem_of_getElem? (i := 51) rfl))) (Or.inr (hw _ (List.mem_of_getElem? (i := 45) rfl))) (by decide) (t := .int) (t' := .int) (by decide) (by decide)))).other W14 (Or.inr (slot_ne (Or.inr (hw _ (List.mem_of_getElem? (i := 51) rfl))) (Or.inr (hw _ (List.mem_of_getElem? (i := 47) rfl))) (by decide) (t := .int) (t' := .int) (by decide) (by decide)))).other W20 (Or.inr (slot_ne (Or.inr (hw _ (List.mem_of_getElem? (i := 51) rfl))) (Or.inr (hw _ (List.mem_of_getElem? (i := 49) rfl))) (by decide) (t := .int) (t' := (.object "java/lang/String")) (by decide) (by decide))))
  have f25 := (f19.wr W20)
  obtain ⟨T26, h26, X26, e26, W26, st26⟩ := putF X20 hx hZ hown (host := "") (Or.inl (hw _ (List.mem_of_getElem? (i := 50) rfl))) Via.refl e20 f24 f25 (Or.inr ⟨(hw _ (List.mem_of_getElem? (i := 51) rfl)), rfl, hnm⟩) (hw _ (List.mem_of_getElem? (i := 36) rfl)) (ty := .int) (by decide) rfl rfl (g := (mkF m 28 #[.val (.ref a1), .val p0, .val (.int p1), .val (.int p2), .val p3, .val (.int p4)] [(.int p4), (.ref a1)])) rfl rfl (hb hby d8_28)
  have Z27 : n0 ≤ h26.size := Nat.le_trans Z21 (Keep.of_wr W26).1
  have K28 : Keep h0 h26 [a1] := K22.wr W26 (Or.inl (List.mem_of_getElem? (i := 0) rfl))
  have N26 := Fr.snoc X26 N20 ge1
  have f29 := f24.same W26
  have f30 := (f25.wr W26)
  have f31 := ((((f5.other W8 (Or.inr (slot_ne (Or.inr (hw _ (List.mem_of_getElem? (i := 43) rfl))) (Or.inr (hw _ (List.mem_of_getElem? (i := 45) rfl))) (by decide) (t := (.object "java/lang/String")) (t' := .int) (by decide) (by decide)))).other W14 (Or.inr (slot_ne (Or.inr (hw _ (List.mem_of_getElem? (i := 43) rfl))) (Or.inr (hw _ (List.mem_of_getElem? (i := 47) rfl))) (by decide) (t := (.object "java/lang/String")) (t' := .int) (by decide) (by decide)))).other W20 (Or.inr (slot_ne (Or.inr (hw _ (List.mem_of_getElem? (i := 43) rfl))) (Or.inr (hw _ (List.mem_of_getElem? (i := 49) rfl))) (by decide) (t := (.object "java/lang/String")) (t' := (.object "java/lang/String")) (by decide) (by decide)))).other W26 (Or.inr (slot_ne (Or.inr (hw _ (List.mem_of_getElem? (i := 43) rfl))) (Or.inr (hw _ (List.mem_of_getElem? (i := 51) rfl))) (by decide) (t := (.object "java/lang/String")) (t' := .int) (by decide) (by decide))))
  have f32 := (((f11.other W14 (Or.inr (slot_ne (Or.inr (hw _ (List.mem_of_getElem? (i := 45) rfl))) (Or.inr (hw _ (List.mem_of_getElem? (i := 47) rfl))) (by decide) (t := .int) (t' := .int) (by decide) (by decide)))).other W20 (Or.inr (slot_ne (Or.inr (hw _ (List.mem_of_getElem? (i := 45) rfl))) (Or.inr (hw _ (List.mem_of_getElem? (i := 49) rfl))) (by decide) (t := .int) (t' := (.object "java/lang/String")) (by decide) (by decide)))).other W26 (Or.inr (slot_ne (Or.inr (hw _ (List.mem_of_getElem? (i := 45) rfl))) (Or.inr (hw _ (List.mem_of_getElem? (i := 51) rfl))) (by decide) (t := .int) (t' := .int) (by decide) (by decide))))
  have f33 := ((f17.other W20 (Or.inr (slot_ne (Or.inr (hw _ (List.mem_of_getElem? (i := 47) rfl))) (Or.inr (hw _ (List.mem_of_getElem? (i := 49) rfl))) (by decide) (t := .int) (t' := (.object "java/lang/String")) (by decide) (by decide)))).other W26 (Or.inr (slot_ne (Or.inr (hw _ (List.mem_of_getElem? (i := 47) rfl))) (Or.inr (hw _ (List.mem_of_getElem? (i := 51) rfl))) (by decide) (t := .int) (t' := .int) (by decide) (by decide))))
  have f34 := (f23.other W26 (Or.inr (slot_ne (Or.inr (hw _ (List.mem_of_getElem? (i := 49) rfl))) (Or.inr (hw _ (List.mem_of_getElem? (i := 51) rfl))) (by decide) (t := (.object "java/lang/String")) (t' := .int) (by decide) (by decide))))
  obtain ⟨fs, hr, hrun, hended, hW, hsame⟩ := X26.leave (v := none) (fun _ => rfl)
  refine ⟨_, _, pre0 _ ?_, hrun, hended, _, _, rfl, ?_, ⟨_, rfl⟩, hW, hsame.mono (by decide) (by decide)⟩
  · show Steps p.tables e below (s₁.setTop (mkF m 0 #[.val (.ref a1), .val p0, .val (.int p1), .val (.int p2), .val p3, .val (.int p4)] [])) _
    refine XS.aloadN X0.here hx rfl (hb hby d8_0) rfl rfl ?_
    show Steps p.tables e below (s₁.setTop (mkF m 1 #[.val (.ref a1), .val p0, .val (.int p1), .val (.int p2), .val p3, .val (.int p4)] [(.ref a1)])) _
    refine st1 _ ?_
    show Steps p.tables e below (T1.setTop (mkF m 4 #[.val (.ref a1), .val p0, .val (.int p1), .val (.int p2), .val p3, .val (.int p4)] [])) _
    refine XS.aloadN X1.here hx rfl (hb hby d8_4) rfl rfl ?_
    show Steps p.tables e below (T1.setTop (mkF m 5 #[.val (.ref a1), .val p0, .val (.int p1), .val (.int p2), .val p3, .val (.int p4)] [(.ref a1)])) _
    refine XS.aloadN X1.here hx rfl (hb hby d8_5) rfl hr0 ?_
    show Steps p.tables e below (T1.setTop (mkF m 6 #[.val (.ref a1), .val p0, .val (.int p1), .val (.int p2), .val p3, .val (.int p4)] [p0, (.ref a1)])) _
    refine st2 _ ?_
    show Steps p.tables e below (T2.setTop (mkF m 9 #[.val (.ref a1), .val p0, .val (.int p1), .val (.int p2), .val p3, .val (.int p4)] [])) _
    refine XS.aloadN X2.here hx rfl (hb hby d8_9) rfl rfl ?_
    show Steps p.tables e below (T2.setTop (mkF m 10 #[.val (.ref a1), .val p0, .val (.int p1), .val (.int p2), .val p3, .val (.int p4)] [(.ref a1)])) _
    refine XS.iloadN X2.here hx rfl (hb hby d8_10) rfl ?_
    show Steps p.tables e below (T2.setTop (mkF m 11 #[.val (.ref a1), .val p0, .val (.int p1), .val (.int p2), .val p3, .val (.int p4)] [(.int p1), (.ref a1)])) _
    refine st8 _ ?_
    show Steps p.tables e below (T8.setTop (mkF m 14 #[.val (.ref a1), .val p0, .val (.int p1), .val (.int p2), .val p3, .val (.int p4)] [])) _
    refine XS.aloadN X8.here hx rfl (hb hby d8_14) rfl rfl ?_
    show Steps p.tables e below (T8.setTop (mkF m 15 #[.val (.ref a1), .val p0, .val (.int p1), .val (.int p2), .val p3, .val (.int p4)] [(.ref a1)])) _
    refine XS.iloadN X8.here hx rfl (hb hby d8_15) rfl ?_
    show Steps p.tables e below (T8.setTop (mkF m 16 #[.val (.ref a1), .val p0, .val (.int p1), .val (.int p2), .val p3, .val (.int p4)] [(.int p2), (.ref a1)])) _
    refine st14 _ ?_
    show Steps p.tables e below (T14.setTop (mkF m 19 #[.val (.ref a1), .val p0, .val (.int p1), .val (.int p2), .val p3, .val (.int p4)] [])) _
    refine XS.aloadN X14.here hx rfl (hb hby d8_19) rfl rfl ?_
    show Steps p.tables e below (T14.setTop (mkF m 20 #[.val (.ref a1), .val p0, .val (.int p1), .val (.int p2), .val p3, .val (.int p4)] [(.ref a1)])) _
    refine XS.aload X14.here hx rfl (hb hby d8_20) rfl hr3 ?_
    show Steps p.tables e below (T14.setTop (mkF m 22 #[.val (.ref a1), .val p0, .val (.int p1), .val (.int p2), .val p3, .val (.int p4)] [p3, (.ref a1)])) _
    refine st20 _ ?_
    show Steps p.tables e below (T20.setTop (mkF m 25 #[.val (.ref a1), .val p0, .val (.int p1), .val (.int p2), .val p3, .val (.int p4)] [])) _
    refine XS.aloadN X20.here hx rfl (hb hby d8_25) rfl rfl ?_
    show Steps p.tables e below (T20.setTop (mkF m 26 #[.val (.ref a1), .val p0, .val (.int p1), .val (.int p2), .val p3, .val (.int p4)] [(.ref a1)])) _
    refine XS.iload X20.here hx rfl (hb hby d8_26) rfl ?_
    show Steps p.tables e below (T20.setTop (mkF m 28 #[.val (.ref a1), .val p0, .val (.int p1), .val (.int p2), .val p3, .val (.int p4)] [(.int p4), (.ref a1)])) _
    refine st26 _ ?_
    show Steps p.tables e below (T26.setTop (mkF m 31 #[.val (.ref a1), .val p0, .val (.int p1), .val (.int p2), .val p3, .val (.int p4)] [])) _
    exact X26.returnOut hx hret0 (hb hby d8_31) hr
  · show Qrm8 Z a1 p0 p1 p2 p3 p4 h0 n0 _ T26.heap _
    rw [e26]
    exact ⟨rfl, N26, K28, f30, f31, f32, f33, f34, f29⟩
def own_mkS (n c0 c1 : Int32) : List Int32 := if n = 1 then [c0] else [c0, c1]
def own_B (c : Int32) : Prop := ¬ c < 0 ∧ ¬ (255 : Int32) < c
theorem Fs.ext {Z : State} {h h' : Heap} {a : Addr} {x1 x2 x3 x4 x5 : Value} (E : Ext h h') (F : Fs Z h a x1 x2 x3 x4 x5) : Fs Z h' a x1 x2 x3 x4 x5 := by
  obtain ⟨h1, h2, h3, h4, h5, h6⟩ := F
  exact ⟨h1.ext E, h2.ext E, h3.ext E, h4.ext E, h5.ext E, h6.ext E⟩
theorem own_l255 (x : Int64) : own_B ((x &&& (255 : Int64)).toInt32.toUInt32.toUInt16.toUInt32.toInt32) := by
  have h0 := c_maskL x (255 : Int64) 8 (by decide) (by decide)
  have h1 := c_l2i (x &&& (255 : Int64))
  have h2 := c_i2c (x &&& (255 : Int64)).toInt32
  have e0 : (0 : Int32).toInt = 0 := rfl
  have e1 : (255 : Int32).toInt = 255 := rfl
  have r := rng32 (x &&& (255 : Int64)).toInt32
  refine ⟨fun q => ?_, fun q => ?_⟩
  · rw [Int32.lt_iff_toInt_lt] at q; omega
  · rw [Int32.lt_iff_toInt_lt] at q; omega
theorem own_12 (x : Int32) : (x &&& (1 : Int32)) + (1 : Int32) = 1 ∨ (x &&& (1 : Int32)) + (1 : Int32) = 2 := by
  rcases and_one x with h | h <;> rw [h] <;> decide
theorem d1_0 : decode method_2_code 0 = .ok (.iload_n 0, 1) := by decide +kernel
theorem d1_1 : decode method_2_code 1 = .ok (.iconst 1, 1) := by decide +kernel
theorem d1_2 : decode method_2_code 2 = .ok (.if_icmp .ne 20, 3) := by decide +kernel
theorem d1_5 : decode method_2_code 5 = .ok (.new 7, 3) := by decide +kernel
theorem d1_8 : decode method_2_code 8 = .ok (.dup, 1) := by decide +kernel
theorem d1_9 : decode method_2_code 9 = .ok (.iconst 1, 1) := by decide +kernel
theorem d1_10 : decode method_2_code 10 = .ok (.newarray .char, 2) := by decide +kernel
theorem d1_12 : decode method_2_code 12 = .ok (.dup, 1) := by decide +kernel
theorem d1_13 : decode method_2_code 13 = .ok (.iconst 0, 1) := by decide +kernel
theorem d1_14 : decode method_2_code 14 = .ok (.iload_n 1, 1) := by decide +kernel
theorem d1_15 : decode method_2_code 15 = .ok (.castore, 1) := by decide +kernel
theorem d1_16 : decode method_2_code 16 = .ok (.invokespecial 9, 3) := by decide +kernel
theorem d1_19 : decode method_2_code 19 = .ok (.goto 21, 3) := by decide +kernel
theorem d1_22 : decode method_2_code 22 = .ok (.new 7, 3) := by decide +kernel
theorem d1_25 : decode method_2_code 25 = .ok (.dup, 1) := by decide +kernel
theorem d1_26 : decode method_2_code 26 = .ok (.iconst 2, 1) := by decide +kernel
theorem d1_27 : decode method_2_code 27 = .ok (.newarray .char, 2) := by decide +kernel
theorem d1_29 : decode method_2_code 29 = .ok (.dup, 1) := by decide +kernel
theorem d1_30 : decode method_2_code 30 = .ok (.iconst 0, 1) := by decide +kernel
theorem d1_31 : decode method_2_code 31 = .ok (.iload_n 1, 1) := by decide +kernel
theorem d1_32 : decode method_2_code 32 = .ok (.castore, 1) := by decide +kernel
theorem d1_33 : decode method_2_code 33 = .ok (.dup, 1) := by decide +kernel
theorem d1_34 : decode method_2_code 34 = .ok (.iconst 1, 1) := by decide +kernel
theorem d1_35 : decode method_2_code 35 = .ok (.iload_n 2, 1) := by decide +kernel
theorem d1_36 : decode method_2_code 36 = .ok (.castore, 1) := by decide +kernel
theorem d1_37 : decode method_2_code 37 = .ok (.invokespecial 9, 3) := by decide +kernel
theorem d1_40 : decode method_2_code 40 = .ok (.areturn, 1) := by decide +kernel
def Q1 (Z : State) (p0 p1 p2 : Int32) (h0 : Heap) (n0 : Nat) (v : Option Value) (h : Heap) (L : List Loc) : Prop := ∃ b : Addr, v = some (.ref b) ∧ Fr n0 L ∧ Ext h0 h ∧ own_Str Z h b (own_mkS p0 p1 p2)
theorem own_pn_rm1 : plainName "com/example/ample_search/amplesearch/analysis/TokenEqualsPinLaw" = true := by first | (simp [plainName, overriddenIn]; done) | decide +kernel
theorem own_ef_rm1 (m : MethodId) (p0 : Int32) (p1 : Int32) (p2 : Int32) : entryFrame m #[(.int p0), (.int p1), (.int p2)] 3 = (mkF m 0 #[.val (.int p0), .val (.int p1), .val (.int p2)] []) := by first | (simp [entryFrame, mkF, argsToLocals, Value.category]; done) | rfl
set_option maxRecDepth 65536 in
set_option maxHeartbeats 40000000 in
theorem rm1 (l : Launch) (Z : State) (a0 : Array Value) (hw : ∀ d ∈ tables_1, d.before a0 Z = true) (ws : List Jvm.Cond) (p0 : Int32) (p1 : Int32) (p2 : Int32) (G1 : Int32) (h0 : Heap) (n0 : Nat) (Z0 : n0 ≤ h0.size) (hB1 : own_B p1) (hB2 : own_B p2) (O2 : Sta Z Z.heap "java/lang/String" "COMPACT_STRINGS" "Z" (.int G1)) (P5 : ¬ (G1 = (0 : Int32))) (X00 : Old Z n0 h0) :
    MetFree l (⟨"com/example/ample_search/amplesearch/analysis/TokenEqualsPinLaw", "mk", "(ICC)Ljava/lang/String;"⟩ : MethodName) (head1 (Jvm.Cond.code (⟨"com/example/ample_search/amplesearch/analysis/TokenEqualsPinLaw", "mk", "(ICC)Ljava/lang/String;"⟩ : MethodName) method_2_code 3 (some (.object "java/lang/String")) :: ws) ({ frames := 4, cells := 3, slots := 8, locals := 68 } : Room)) (fun a U => a = #[(.int p0), (.int p1), (.int p2)] ∧ Z.Warmed39 U.vm ∧ U.heap = h0) (fun _ _ _ _ _ => True) (fun _ U o U' => ∃ v L, o = .returned v ∧ Q1 Z p0 p1 p2 h0 n0 v U'.heap L ∧ FrameEnd U o U' L ({ frames := 4, cells := 3, slots := 8, locals := 68 } : Room).cells ({ frames := 4, cells := 3, slots := 8, locals := 68 } : Room).slots) := by
  refine MetFree.of_bodySF (plainFor_of_name own_pn_rm1) hisR ?_
  intro p e s m args below meth c s₁ Bd hml0 hP hK
  obtain ⟨hargs, hZ, hh⟩ := hP
  have hx := Bd.exec
  have hby := Bd.bytes
  have hml : c.maxLocals = 3 := hml0
  have hown : s.vm.findClass "com/example/ample_search/amplesearch/analysis/TokenEqualsPinLaw" = some m.cls := findClass_of_methodNamed Bd.named
  have hnm := (name_of_methodNamed Bd.named Bd.method).1
  have hlock : meth.locks = false := Bd.notSynchronized
  have hret0 := Bd.returns
  have X0 : Stand p l e ({ frames := 4, cells := 3, slots := 8, locals := 68 } : Room) s m args below meth c s₁ [] 0 0 := Stand.of_body Bd
  have e0 : s₁.heap = h0 := by rw [← hh, Bd.state]; rfl
  have N0 := Fr.nil n0
  have pre0 : ∀ t, Steps p.tables e below (s₁.setTop (mkF m 0 #[.val (.int p0), .val (.int p1), .val (.int p2)] [])) t → Steps p.tables e below (s₁.setTop (entryFrame m args 3)) t := fun t k => castTop (by rw [hargs]; exact own_ef_rm1 m p0 p1 p2) k
  clear Bd
  have hws : ∀ d ∈ StrChars.Road.words, d.before a0 Z = true := fun d hd => hw d ((by decide +kernel : ∀ d ∈ StrChars.Road.words, d ∈ tables_1) d hd)
  by_cases hc : p0 = (1 : Int32)
  · skip
    obtain ⟨T35, h35, X35, e35, E35, A35, D35, -, st35⟩ := newO X0 hx hZ hown (hw _ (List.mem_of_getElem? (i := 5) rfl)) (hw _ (List.mem_of_getElem? (i := 6) rfl)) (hw _ (List.mem_of_getElem? (i := 7) rfl)) e0 (g := (mkF m 5 #[.val (.int p0), .val (.int p1), .val (.int p2)] [])) rfl (hb hby d1_5) (by decide) (by decide)
    obtain ⟨b35, g35⟩ : ∃ z, z = h0.size := ⟨_, rfl⟩
    rw [← g35] at A35 D35 st35
    have ge_b35 : n0 ≤ b35 := Nat.le_trans Z0 (Nat.le_of_eq g35.symm)
    have sz_b35 : h0.size ≤ b35 := Nat.le_trans (Keep.refl h0 []).1 (Nat.le_of_eq g35.symm)
    have Z36 : n0 ≤ h35.size := Nat.le_trans Z0 E35.1
    have K37 : Keep h0 h35 [] := (Keep.refl h0 []).ext E35
    obtain ⟨T38, h38, k38, X38, e38, E38, A38, st38⟩ := newP X35 hx hZ (hw _ (List.mem_of_getElem? (i := 8) rfl)) e35 (g := (mkF m 10 #[.val (.int p0), .val (.int p1), .val (.int p2)] [(.int (1 : Int32)), (.ref b35), (.ref b35)])) rfl (hb hby d1_10) rfl (by decide) (cap := 1) (by decide) (by decide) (by decide) (by decide)
    obtain ⟨b38, g38⟩ : ∃ z, z = h35.size := ⟨_, rfl⟩
    rw [← g38] at A38 st38
    have ge_b38 : n0 ≤ b38 := Nat.le_trans Z36 (Nat.le_of_eq g38.symm)
    have sz_b38 : h0.size ≤ b38 := Nat.le_trans K37.1 (Nat.le_of_eq g38.symm)
    have Z39 : n0 ≤ h38.size := Nat.le_trans Z36 E38.1
    have K40 : Keep h0 h38 [] := K37.ext E38
    have V38 : Arv Z h38 b38 k38 .char (1 : Int32) [(.int (0 : Int32))] (.int (0 : Int32)) := (Arv.new A38 (by decide)).pad (pad_rep [] (.int (0 : Int32)) 1)
    obtain ⟨cl41, Ar41, q41, S41, M41, Hs41, G41⟩ := id V38
    obtain ⟨T41, h41, X41, e41, W41, st41⟩ := stC X38 hx hZ e38 Ar41 (j := (0 : Int32)) (inb_of S41 ⟨(by decide), (by decide)⟩) (g := (mkF m 15 #[.val (.int p0), .val (.int p1), .val (.int p2)] [(.int p1), (.int (0 : Int32)), (.ref b38), (.ref b38), (.ref b35), (.ref b35)])) rfl rfl (hb hby d1_15)
    have Z42 : n0 ≤ h41.size := Nat.le_trans Z39 (Keep.of_wr W41).1
    have K43 : Keep h0 h41 [] := K40.wr W41 (Or.inr sz_b38)
    have N41 := Fr.snoc X41 N0 ge_b38
    have V41 : Arv Z h41 b38 k38 .char (1 : Int32) [(.int (nar .char p1))] (.int (0 : Int32)) := Arv.set Ar41 q41 S41 M41 Hs41 G41 (fits_nar_char _) W41 0 rfl (Nat.le_of_ble_eq_true rfl)
    have hp : ∀ c ∈ ([p1] : List Int32), ¬ c < 0 ∧ ¬ (255 : Int32) < c := by
      intro c hc
      simp only [List.mem_cons, List.not_mem_nil, or_false] at hc
      rcases hc with rfl
      · exact hB1
    have V44 : Arv Z h41 b38 k38 .char (1 : Int32) (([p1] : List Int32).map Value.int) (.int (0 : Int32)) := by
      have q := V41
      rw [own_narc hB1] at q
      exact q
    have f45 := ((A35.ext E38).wr W41)
    have f46 := (((D35 (Or.inr (hw _ (List.mem_of_getElem? (i := 34) rfl))) (ty := (.array .byte)) (by decide)).ext E38).other W41 (Or.inl (Nat.ne_of_lt (Nat.lt_of_lt_of_le A35.lt (Nat.le_of_eq g38.symm)))))
    have f47 := (((D35 (Or.inr (hw _ (List.mem_of_getElem? (i := 32) rfl))) (ty := .byte) (by decide)).ext E38).other W41 (Or.inl (Nat.ne_of_lt (Nat.lt_of_lt_of_le A35.lt (Nat.le_of_eq g38.symm)))))
    have f48 := (((X00.ext E35).ext E38).wr W41 ge_b38)
    obtain ⟨v49, vmx49, ⟨T49, L49, k49, n49⟩, -, X49, ⟨Lc49, hQ49, l49, y49, z49⟩, st49⟩ := X41.specialBack hx (y := (⟨"java/lang/String", "<init>", "([C)V"⟩ : MethodName)) rfl hown (mvT hZ (hw _ (List.mem_of_getElem? (i := 9) rfl))) (mvT hZ (hw _ (List.mem_of_getElem? (i := 10) rfl))) (mvT hZ (hw _ (List.mem_of_getElem? (i := 11) rfl))) (by decide) (StrChars.Road.backV (W := 1) hZ hws (kI := 4) (hw _ (List.mem_of_getElem? (i := 6) rfl)) (cs := ([p1] : List Int32)) (bs := (([p1] : List Int32)).map (fun c => c.toInt8.toInt32)) (n := 1) ge_b35 Z42 f45 f46 f47 V44 (O2.ext f48.2) P5 rfl rfl (by decide) (by decide) hp rfl (by decide) (by decide)) (g := (mkF m 16 #[.val (.int p0), .val (.int p1), .val (.int p2)] [(.ref b38), (.ref b35), (.ref b35)])) rfl (by rw [hml]; rfl) (Steps.refl _) (a := b35) (argsL := [(.ref b38)]) (rest := [(.ref b35)]) (lenOf own_pd0 rfl) rfl (by show 2 * 0 + _ ≤ _; exact Nat.le_of_eq rfl) (hb hby d1_16) (fun _ _ => ⟨rfl, e41, (by decide : 2 + 1 ≤ _), (by decide : 5 + 1 ≤ _)⟩)
    dsimp only [Pt.U, Pt.locs, Pt.cells, Pt.slots] at X49 l49 y49 z49 st49 hQ49
    subst l49 y49 z49
    obtain ⟨rfl, Nq49, K49, fe49, fc49, t49, kb49, u149, u249, u349, fv49, fa49⟩ := hQ49
    have N49 := Fr.app N41 Nq49
    have Z50 : n0 ≤ T49.heap.size := Nat.le_trans Z42 K49.1
    have K51 : Keep h0 T49.heap [] := K43.trans K49 (allS (Or.inr sz_b35) all0)
    obtain ⟨fs, hr, hrun, hended, hW, hsame⟩ := X49.leave (v := some (.ref b35)) (fun h => by rw [hret0] at h; cases h)
    refine ⟨_, _, pre0 _ ?_, hrun, hended, _, _, rfl, ?_, ⟨_, rfl⟩, hW, hsame.mono (by decide) (by decide)⟩
    · show Steps p.tables e below (s₁.setTop (mkF m 0 #[.val (.int p0), .val (.int p1), .val (.int p2)] [])) _
      refine XS.iloadN X0.here hx rfl (hb hby d1_0) rfl ?_
      show Steps p.tables e below (s₁.setTop (mkF m 1 #[.val (.int p0), .val (.int p1), .val (.int p2)] [(.int p0)])) _
      refine XS.iconst X0.here hx rfl (hb hby d1_1) ?_
      show Steps p.tables e below (s₁.setTop (mkF m 2 #[.val (.int p0), .val (.int p1), .val (.int p2)] [(.int (1 : Int32)), (.int p0)])) _
      refine XS.icmpNo X0.here hx rfl (hb hby d1_2) rfl (teq hc).2 ?_
      show Steps p.tables e below (s₁.setTop (mkF m 5 #[.val (.int p0), .val (.int p1), .val (.int p2)] [])) _
      refine st35 _ ?_
      show Steps p.tables e below (T35.setTop (mkF m 8 #[.val (.int p0), .val (.int p1), .val (.int p2)] [(.ref b35)])) _
      refine XS.dup X35.here hx rfl (hb hby d1_8) rfl rfl ?_
      show Steps p.tables e below (T35.setTop (mkF m 9 #[.val (.int p0), .val (.int p1), .val (.int p2)] [(.ref b35), (.ref b35)])) _
      refine XS.iconst X35.here hx rfl (hb hby d1_9) ?_
      show Steps p.tables e below (T35.setTop (mkF m 10 #[.val (.int p0), .val (.int p1), .val (.int p2)] [(.int (1 : Int32)), (.ref b35), (.ref b35)])) _
      refine st38 _ ?_
      show Steps p.tables e below (T38.setTop (mkF m 12 #[.val (.int p0), .val (.int p1), .val (.int p2)] [(.ref b38), (.ref b35), (.ref b35)])) _
      refine XS.dup X38.here hx rfl (hb hby d1_12) rfl rfl ?_
      show Steps p.tables e below (T38.setTop (mkF m 13 #[.val (.int p0), .val (.int p1), .val (.int p2)] [(.ref b38), (.ref b38), (.ref b35), (.ref b35)])) _
      refine XS.iconst X38.here hx rfl (hb hby d1_13) ?_
      show Steps p.tables e below (T38.setTop (mkF m 14 #[.val (.int p0), .val (.int p1), .val (.int p2)] [(.int (0 : Int32)), (.ref b38), (.ref b38), (.ref b35), (.ref b35)])) _
      refine XS.iloadN X38.here hx rfl (hb hby d1_14) rfl ?_
      show Steps p.tables e below (T38.setTop (mkF m 15 #[.val (.int p0), .val (.int p1), .val (.int p2)] [(.int p1), (.int (0 : Int32)), (.ref b38), (.ref b38), (.ref b35), (.ref b35)])) _
      refine st41 _ ?_
      show Steps p.tables e below (T41.setTop (mkF m 16 #[.val (.int p0), .val (.int p1), .val (.int p2)] [(.ref b38), (.ref b35), (.ref b35)])) _
      refine st49.trans ?_
      show Steps p.tables e below (T49.setTop (mkF m 19 #[.val (.int p0), .val (.int p1), .val (.int p2)] [(.ref b35)])) _
      refine XS.goto X49.here hx rfl (pc0 := 19) (pc' := 40) rfl (hb hby d1_19) (by decide) (by decide) ?_
      show Steps p.tables e below (T49.setTop (mkF m 40 #[.val (.int p0), .val (.int p1), .val (.int p2)] [(.ref b35)])) _
      exact retR X49 hx hret0 rfl rfl rfl (hb hby d1_40) hr
    · show Q1 Z p0 p1 p2 h0 n0 _ T49.heap _
      exact ⟨b35, rfl, N49, own_ext K51, by rw [own_mkS, if_pos hc]; exact ⟨hp, Nat.le_of_ble_eq_true rfl, fe49, fc49, t49, kb49, fv49, fa49⟩⟩
  · skip
    obtain ⟨T52, h52, X52, e52, E52, A52, D52, -, st52⟩ := newO X0 hx hZ hown (hw _ (List.mem_of_getElem? (i := 5) rfl)) (hw _ (List.mem_of_getElem? (i := 6) rfl)) (hw _ (List.mem_of_getElem? (i := 7) rfl)) e0 (g := (mkF m 22 #[.val (.int p0), .val (.int p1), .val (.int p2)] [])) rfl (hb hby d1_22) (by decide) (by decide)
    obtain ⟨b52, g52⟩ : ∃ z, z = h0.size := ⟨_, rfl⟩
    rw [← g52] at A52 D52 st52
    have ge_b52 : n0 ≤ b52 := Nat.le_trans Z0 (Nat.le_of_eq g52.symm)
    have sz_b52 : h0.size ≤ b52 := Nat.le_trans (Keep.refl h0 []).1 (Nat.le_of_eq g52.symm)
    have Z53 : n0 ≤ h52.size := Nat.le_trans Z0 E52.1
    have K54 : Keep h0 h52 [] := (Keep.refl h0 []).ext E52
    obtain ⟨T55, h55, k55, X55, e55, E55, A55, st55⟩ := newP X52 hx hZ (hw _ (List.mem_of_getElem? (i := 8) rfl)) e52 (g := (mkF m 27 #[.val (.int p0), .val (.int p1), .val (.int p2)] [(.int (2 : Int32)), (.ref b52), (.ref b52)])) rfl (hb hby d1_27) rfl (by decide) (cap := 2) (by decide) (by decide) (by decide) (by decide)
    obtain ⟨b55, g55⟩ : ∃ z, z = h52.size := ⟨_, rfl⟩
    rw [← g55] at A55 st55
    have ge_b55 : n0 ≤ b55 := Nat.le_trans Z53 (Nat.le_of_eq g55.symm)
    have sz_b55 : h0.size ≤ b55 := Nat.le_trans K54.1 (Nat.le_of_eq g55.symm)
    have Z56 : n0 ≤ h55.size := Nat.le_trans Z53 E55.1
    have K57 : Keep h0 h55 [] := K54.ext E55
    have V55 : Arv Z h55 b55 k55 .char (2 : Int32) [(.int (0 : Int32)), (.int (0 : Int32))] (.int (0 : Int32)) := (Arv.new A55 (by decide)).pad (pad_rep [] (.int (0 : Int32)) 2)
    obtain ⟨cl58, Ar58, q58, S58, M58, Hs58, G58⟩ := id V55
    obtain ⟨T58, h58, X58, e58, W58, st58⟩ := stC X55 hx hZ e55 Ar58 (j := (0 : Int32)) (inb_of S58 ⟨(by decide), (by decide)⟩) (g := (mkF m 32 #[.val (.int p0), .val (.int p1), .val (.int p2)] [(.int p1), (.int (0 : Int32)), (.ref b55), (.ref b55), (.ref b52), (.ref b52)])) rfl rfl (hb hby d1_32)
    have Z59 : n0 ≤ h58.size := Nat.le_trans Z56 (Keep.of_wr W58).1
    have K60 : Keep h0 h58 [] := K57.wr W58 (Or.inr sz_b55)
    have N58 := Fr.snoc X58 N0 ge_b55
    have V58 : Arv Z h58 b55 k55 .char (2 : Int32) [(.int (nar .char p1)), (.int (0 : Int32))] (.int (0 : Int32)) := Arv.set Ar58 q58 S58 M58 Hs58 G58 (fits_nar_char _) W58 0 rfl (Nat.le_of_ble_eq_true rfl)
    obtain ⟨cl61, Ar61, q61, S61, M61, Hs61, G61⟩ := id V58
    obtain ⟨T61, h61, X61, e61, W61, st61⟩ := stC X58 hx hZ e58 Ar61 (j := (1 : Int32)) (inb_of S61 ⟨(by decide), (by decide)⟩) (g := (mkF m 36 #[.val (.int p0), .val (.int p1), .val (.int p2)] [(.int p2), (.int (1 : Int32)), (.ref b55), (.ref b55), (.ref b52), (.ref b52)])) rfl rfl (hb hby d1_36)
    have Z62 : n0 ≤ h61.size := Nat.le_trans Z59 (Keep.of_wr W61).1
    have K63 : Keep h0 h61 [] := K60.wr W61 (Or.inr sz_b55)
    have N61 := Fr.snoc X61 N58 ge_b55
    have V61 : Arv Z h61 b55 k55 .char (2 : Int32) [(.int (nar .char p1)), (.int (nar .char p2))] (.int (0 : Int32)) := Arv.set Ar61 q61 S61 M61 Hs61 G61 (fits_nar_char _) W61 1 rfl (Nat.le_of_ble_eq_true rfl)
    have hp : ∀ c ∈ ([p1, p2] : List Int32), ¬ c < 0 ∧ ¬ (255 : Int32) < c := by
      intro c hc
      simp only [List.mem_cons, List.not_mem_nil, or_false] at hc
      rcases hc with rfl | rfl
      · exact hB1
      · exact hB2
    have V64 : Arv Z h61 b55 k55 .char (2 : Int32) (([p1, p2] : List Int32).map Value.int) (.int (0 : Int32)) := by
      have q := V61
      rw [own_narc hB1, own_narc hB2] at q
      exact q
    have f65 := (((A52.ext E55).wr W58).wr W61)
    have f66 := ((((D52 (Or.inr (hw _ (List.mem_of_getElem? (i := 34) rfl))) (ty := (.array .byte)) (by decide)).ext E55).other W58 (Or.inl (Nat.ne_of_lt (Nat.lt_of_lt_of_le A52.lt (Nat.le_of_eq g55.symm))))).other W61 (Or.inl (Nat.ne_of_lt (Nat.lt_of_lt_of_le A52.lt (Nat.le_of_eq g55.symm)))))
    have f67 := ((((D52 (Or.inr (hw _ (List.mem_of_getElem? (i := 32) rfl))) (ty := .byte) (by decide)).ext E55).other W58 (Or.inl (Nat.ne_of_lt (Nat.lt_of_lt_of_le A52.lt (Nat.le_of_eq g55.symm))))).other W61 (Or.inl (Nat.ne_of_lt (Nat.lt_of_lt_of_le A52.lt (Nat.le_of_eq g55.symm)))))
    have f68 := ((((X00.ext E52).ext E55).wr W58 ge_b55).wr W61 ge_b55)
    obtain ⟨v69, vmx69, ⟨T69, L69, k69, n69⟩, -, X69, ⟨Lc69, hQ69, l69, y69, z69⟩, st69⟩ := X61.specialBack hx (y := (⟨"java/lang/String", "<init>", "([C)V"⟩ : MethodName)) rfl hown (mvT hZ (hw _ (List.mem_of_getElem? (i := 9) rfl))) (mvT hZ (hw _ (List.mem_of_getElem? (i := 10) rfl))) (mvT hZ (hw _ (List.mem_of_getElem? (i := 11) rfl))) (by decide) (StrChars.Road.backV (W := 1) hZ hws (kI := 4) (hw _ (List.mem_of_getElem? (i := 6) rfl)) (cs := ([p1, p2] : List Int32)) (bs := (([p1, p2] : List Int32)).map (fun c => c.toInt8.toInt32)) (n := 2) ge_b52 Z62 f65 f66 f67 V64 (O2.ext f68.2) P5 rfl rfl (by decide) (by decide) hp rfl (by decide) (by decide)) (g := (mkF m 37 #[.val (.int p0), .val (.int p1), .val (.int p2)] [(.ref b55), (.ref b52), (.ref b52)])) rfl (by rw [hml]; rfl) (Steps.refl _) (a := b52) (argsL := [(.ref b55)]) (rest := [(.ref b52)]) (lenOf own_pd0 rfl) rfl (by show 2 * 0 + _ ≤ _; exact Nat.le_of_eq rfl) (hb hby d1_37) (fun _ _ => ⟨rfl, e61, (by decide : 2 + 1 ≤ _), (by decide : 6 + 2 ≤ _)⟩)
    dsimp only [Pt.U, Pt.locs, Pt.cells, Pt.slots] at X69 l69 y69 z69 st69 hQ69
    subst l69 y69 z69
    obtain ⟨rfl, Nq69, K69, fe69, fc69, t69, kb69, u169, u269, u369, fv69, fa69⟩ := hQ69
    have N69 := Fr.app N61 Nq69
    have Z70 : n0 ≤ T69.heap.size := Nat.le_trans Z62 K69.1
    have K71 : Keep h0 T69.heap [] := K63.trans K69 (allS (Or.inr sz_b52) all0)
    obtain ⟨fs, hr, hrun, hended, hW, hsame⟩ := X69.leave (v := some (.ref b52)) (fun h => by rw [hret0] at h; cases h)
    refine ⟨_, _, pre0 _ ?_, hrun, hended, _, _, rfl, ?_, ⟨_, rfl⟩, hW, hsame.mono (by decide) (by decide)⟩
    · show Steps p.tables e below (s₁.setTop (mkF m 0 #[.val (.int p0), .val (.int p1), .val (.int p2)] [])) _
      refine XS.iloadN X0.here hx rfl (hb hby d1_0) rfl ?_
      show Steps p.tables e below (s₁.setTop (mkF m 1 #[.val (.int p0), .val (.int p1), .val (.int p2)] [(.int p0)])) _
      refine XS.iconst X0.here hx rfl (hb hby d1_1) ?_
      show Steps p.tables e below (s₁.setTop (mkF m 2 #[.val (.int p0), .val (.int p1), .val (.int p2)] [(.int (1 : Int32)), (.int p0)])) _
      refine XS.icmpYes X0.here hx rfl (pc0 := 2) (pc' := 22) rfl (hb hby d1_2) rfl (feq hc).2 (by decide) (by decide) ?_
      show Steps p.tables e below (s₁.setTop (mkF m 22 #[.val (.int p0), .val (.int p1), .val (.int p2)] [])) _
      refine st52 _ ?_
      show Steps p.tables e below (T52.setTop (mkF m 25 #[.val (.int p0), .val (.int p1), .val (.int p2)] [(.ref b52)])) _
      refine XS.dup X52.here hx rfl (hb hby d1_25) rfl rfl ?_
      show Steps p.tables e below (T52.setTop (mkF m 26 #[.val (.int p0), .val (.int p1), .val (.int p2)] [(.ref b52), (.ref b52)])) _
      refine XS.iconst X52.here hx rfl (hb hby d1_26) ?_
      show Steps p.tables e below (T52.setTop (mkF m 27 #[.val (.int p0), .val (.int p1), .val (.int p2)] [(.int (2 : Int32)), (.ref b52), (.ref b52)])) _
      refine st55 _ ?_
      show Steps p.tables e below (T55.setTop (mkF m 29 #[.val (.int p0), .val (.int p1), .val (.int p2)] [(.ref b55), (.ref b52), (.ref b52)])) _
      refine XS.dup X55.here hx rfl (hb hby d1_29) rfl rfl ?_
      show Steps p.tables e below (T55.setTop (mkF m 30 #[.val (.int p0), .val (.int p1), .val (.int p2)] [(.ref b55), (.ref b55), (.ref b52), (.ref b52)])) _
      refine XS.iconst X55.here hx rfl (hb hby d1_30) ?_
      show Steps p.tables e below (T55.setTop (mkF m 31 #[.val (.int p0), .val (.int p1), .val (.int p2)] [(.int (0 : Int32)), (.ref b55), (.ref b55), (.ref b52), (.ref b52)])) _
      refine XS.iloadN X55.here hx rfl (hb hby d1_31) rfl ?_
      show Steps p.tables e below (T55.setTop (mkF m 32 #[.val (.int p0), .val (.int p1), .val (.int p2)] [(.int p1), (.int (0 : Int32)), (.ref b55), (.ref b55), (.ref b52), (.ref b52)])) _
      refine st58 _ ?_
      show Steps p.tables e below (T58.setTop (mkF m 33 #[.val (.int p0), .val (.int p1), .val (.int p2)] [(.ref b55), (.ref b52), (.ref b52)])) _
      refine XS.dup X58.here hx rfl (hb hby d1_33) rfl rfl ?_
      show Steps p.tables e below (T58.setTop (mkF m 34 #[.val (.int p0), .val (.int p1), .val (.int p2)] [(.ref b55), (.ref b55), (.ref b52), (.ref b52)])) _
      refine XS.iconst X58.here hx rfl (hb hby d1_34) ?_
      show Steps p.tables e below (T58.setTop (mkF m 35 #[.val (.int p0), .val (.int p1), .val (.int p2)] [(.int (1 : Int32)), (.ref b55), (.ref b55), (.ref b52), (.ref b52)])) _
      refine XS.iloadN X58.here hx rfl (hb hby d1_35) rfl ?_
      show Steps p.tables e below (T58.setTop (mkF m 36 #[.val (.int p0), .val (.int p1), .val (.int p2)] [(.int p2), (.int (1 : Int32)), (.ref b55), (.ref b55), (.ref b52), (.ref b52)])) _
      refine st61 _ ?_
      show Steps p.tables e below (T61.setTop (mkF m 37 #[.val (.int p0), .val (.int p1), .val (.int p2)] [(.ref b55), (.ref b52), (.ref b52)])) _
      refine st69.trans ?_
      show Steps p.tables e below (T69.setTop (mkF m 40 #[.val (.int p0), .val (.int p1), .val (.int p2)] [(.ref b52)])) _
      exact retR X69 hx hret0 rfl rfl rfl (hb hby d1_40) hr
    · show Q1 Z p0 p1 p2 h0 n0 _ T69.heap _
      exact ⟨b52, rfl, N69, own_ext K71, by rw [own_mkS, if_neg hc]; exact ⟨hp, Nat.le_of_ble_eq_true rfl, fe69, fc69, t69, kb69, fv69, fa69⟩⟩
theorem d9_0 : decode method_3_code 0 = .ok (.iload_n 0, 1) := by decide +kernel
theorem d9_1 : decode method_3_code 1 = .ok (.iload_n 3, 1) := by decide +kernel
theorem d9_2 : decode method_3_code 2 = .ok (.if_icmp .eq 5, 3) := by decide +kernel
theorem d9_5 : decode method_3_code 5 = .ok (.iconst 0, 1) := by decide +kernel
theorem d9_6 : decode method_3_code 6 = .ok (.ireturn, 1) := by decide +kernel
theorem d9_7 : decode method_3_code 7 = .ok (.iload_n 1, 1) := by decide +kernel
theorem d9_8 : decode method_3_code 8 = .ok (.iload 4, 2) := by decide +kernel
theorem d9_10 : decode method_3_code 10 = .ok (.if_icmp .eq 5, 3) := by decide +kernel
theorem d9_13 : decode method_3_code 13 = .ok (.iconst 0, 1) := by decide +kernel
theorem d9_14 : decode method_3_code 14 = .ok (.ireturn, 1) := by decide +kernel
theorem d9_15 : decode method_3_code 15 = .ok (.iload_n 0, 1) := by decide +kernel
theorem d9_16 : decode method_3_code 16 = .ok (.iconst 1, 1) := by decide +kernel
theorem d9_17 : decode method_3_code 17 = .ok (.if_icmp .eq 9, 3) := by decide +kernel
theorem d9_20 : decode method_3_code 20 = .ok (.iload_n 2, 1) := by decide +kernel
theorem d9_21 : decode method_3_code 21 = .ok (.iload 5, 2) := by decide +kernel
theorem d9_23 : decode method_3_code 23 = .ok (.if_icmp .ne 7, 3) := by decide +kernel
theorem d9_26 : decode method_3_code 26 = .ok (.iconst 1, 1) := by decide +kernel
theorem d9_27 : decode method_3_code 27 = .ok (.goto 4, 3) := by decide +kernel
theorem d9_30 : decode method_3_code 30 = .ok (.iconst 0, 1) := by decide +kernel
theorem d9_31 : decode method_3_code 31 = .ok (.ireturn, 1) := by decide +kernel
def Q9 (P : Prop) (h0 : Heap) (n0 : Nat) (v : Option Value) (h : Heap) (L : List Loc) : Prop := ∃ z : Int32, v = some (.int z) ∧ (z = 1 ∧ P ∨ z = 0 ∧ ¬ P) ∧ Fr n0 L ∧ h = h0
theorem own_pn_rm9 : plainName "com/example/ample_search/amplesearch/analysis/TokenEqualsPinLaw" = true := by first | (simp [plainName, overriddenIn]; done) | decide +kernel
theorem own_ef_rm9 (m : MethodId) (p0 : Int32) (p1 : Int32) (p2 : Int32) (p3 : Int32) (p4 : Int32) (p5 : Int32) : entryFrame m #[(.int p0), (.int p1), (.int p2), (.int p3), (.int p4), (.int p5)] 6 = (mkF m 0 #[.val (.int p0), .val (.int p1), .val (.int p2), .val (.int p3), .val (.int p4), .val (.int p5)] []) := by first | (simp [entryFrame, mkF, argsToLocals, Value.category]; done) | rfl
set_option maxRecDepth 65536 in
set_option maxHeartbeats 40000000 in
theorem rm9 (l : Launch) (Z : State) (a0 : Array Value) (hw : ∀ d ∈ tables_1, d.before a0 Z = true) (ws : List Jvm.Cond) (p0 : Int32) (p1 : Int32) (p2 : Int32) (p3 : Int32) (p4 : Int32) (p5 : Int32) (h0 : Heap) (n0 : Nat) (Z0 : n0 ≤ h0.size) (n1 : p0 = 1 ∨ p0 = 2) (n2 : p3 = 1 ∨ p3 = 2) :
    MetFree l (⟨"com/example/ample_search/amplesearch/analysis/TokenEqualsPinLaw", "same", "(ICCICC)Z"⟩ : MethodName) (head1 (Jvm.Cond.code (⟨"com/example/ample_search/amplesearch/analysis/TokenEqualsPinLaw", "same", "(ICCICC)Z"⟩ : MethodName) method_3_code 6 (some .boolean) :: ws) ({ frames := 0, cells := 0, slots := 0, locals := 0 } : Room)) (fun a U => a = #[(.int p0), (.int p1), (.int p2), (.int p3), (.int p4), (.int p5)] ∧ Z.Warmed39 U.vm ∧ U.heap = h0) (fun _ _ _ _ _ => True) (fun _ U o U' => ∃ v L, o = .returned v ∧ Q9 (own_mkS p0 p1 p2 = own_mkS p3 p4 p5) h0 n0 v U'.heap L ∧ FrameEnd U o U' L ({ frames := 0, cells := 0, slots := 0, locals := 0 } : Room).cells ({ frames := 0, cells := 0, slots := 0, locals := 0 } : Room).slots) := by
  refine MetFree.of_bodySF (plainFor_of_name own_pn_rm9) hisR ?_
  intro p e s m args below meth c s₁ Bd hml0 hP hK
  obtain ⟨hargs, hZ, hh⟩ := hP
  have hx := Bd.exec
  have hby := Bd.bytes
  have hml : c.maxLocals = 6 := hml0
  have hown : s.vm.findClass "com/example/ample_search/amplesearch/analysis/TokenEqualsPinLaw" = some m.cls := findClass_of_methodNamed Bd.named
  have hnm := (name_of_methodNamed Bd.named Bd.method).1
  have hlock : meth.locks = false := Bd.notSynchronized
  have hret0 := Bd.returns
  have X0 : Stand p l e ({ frames := 0, cells := 0, slots := 0, locals := 0 } : Room) s m args below meth c s₁ [] 0 0 := Stand.of_body Bd
  have e0 : s₁.heap = h0 := by rw [← hh, Bd.state]; rfl
  have N0 := Fr.nil n0
  have pre0 : ∀ t, Steps p.tables e below (s₁.setTop (mkF m 0 #[.val (.int p0), .val (.int p1), .val (.int p2), .val (.int p3), .val (.int p4), .val (.int p5)] [])) t → Steps p.tables e below (s₁.setTop (entryFrame m args 6)) t := fun t k => castTop (by rw [hargs]; exact own_ef_rm9 m p0 p1 p2 p3 p4 p5) k
  clear Bd
  by_cases h1 : p0 = p3
  · skip
    by_cases h2 : p1 = p4
    · skip
      by_cases h3 : p0 = (1 : Int32)
      · skip
        obtain ⟨fs, hr, hrun, hended, hW, hsame⟩ := X0.leave (v := some (.int (1 : Int32))) (fun h => by rw [hret0] at h; cases h)
        refine ⟨_, _, pre0 _ ?_, hrun, hended, _, _, rfl, ?_, ⟨_, rfl⟩, hW, hsame.mono (by decide) (by decide)⟩
        · show Steps p.tables e below (s₁.setTop (mkF m 0 #[.val (.int p0), .val (.int p1), .val (.int p2), .val (.int p3), .val (.int p4), .val (.int p5)] [])) _
          refine XS.iloadN X0.here hx rfl (hb hby d9_0) rfl ?_
          show Steps p.tables e below (s₁.setTop (mkF m 1 #[.val (.int p0), .val (.int p1), .val (.int p2), .val (.int p3), .val (.int p4), .val (.int p5)] [(.int p0)])) _
          refine XS.iloadN X0.here hx rfl (hb hby d9_1) rfl ?_
          show Steps p.tables e below (s₁.setTop (mkF m 2 #[.val (.int p0), .val (.int p1), .val (.int p2), .val (.int p3), .val (.int p4), .val (.int p5)] [(.int p3), (.int p0)])) _
          refine XS.icmpYes X0.here hx rfl (pc0 := 2) (pc' := 7) rfl (hb hby d9_2) rfl (teq h1).1 (by decide) (by decide) ?_
          show Steps p.tables e below (s₁.setTop (mkF m 7 #[.val (.int p0), .val (.int p1), .val (.int p2), .val (.int p3), .val (.int p4), .val (.int p5)] [])) _
          refine XS.iloadN X0.here hx rfl (hb hby d9_7) rfl ?_
          show Steps p.tables e below (s₁.setTop (mkF m 8 #[.val (.int p0), .val (.int p1), .val (.int p2), .val (.int p3), .val (.int p4), .val (.int p5)] [(.int p1)])) _
          refine XS.iload X0.here hx rfl (hb hby d9_8) rfl ?_
          show Steps p.tables e below (s₁.setTop (mkF m 10 #[.val (.int p0), .val (.int p1), .val (.int p2), .val (.int p3), .val (.int p4), .val (.int p5)] [(.int p4), (.int p1)])) _
          refine XS.icmpYes X0.here hx rfl (pc0 := 10) (pc' := 15) rfl (hb hby d9_10) rfl (teq h2).1 (by decide) (by decide) ?_
          show Steps p.tables e below (s₁.setTop (mkF m 15 #[.val (.int p0), .val (.int p1), .val (.int p2), .val (.int p3), .val (.int p4), .val (.int p5)] [])) _
          refine XS.iloadN X0.here hx rfl (hb hby d9_15) rfl ?_
          show Steps p.tables e below (s₁.setTop (mkF m 16 #[.val (.int p0), .val (.int p1), .val (.int p2), .val (.int p3), .val (.int p4), .val (.int p5)] [(.int p0)])) _
          refine XS.iconst X0.here hx rfl (hb hby d9_16) ?_
          show Steps p.tables e below (s₁.setTop (mkF m 17 #[.val (.int p0), .val (.int p1), .val (.int p2), .val (.int p3), .val (.int p4), .val (.int p5)] [(.int (1 : Int32)), (.int p0)])) _
          refine XS.icmpYes X0.here hx rfl (pc0 := 17) (pc' := 26) rfl (hb hby d9_17) rfl (teq h3).1 (by decide) (by decide) ?_
          show Steps p.tables e below (s₁.setTop (mkF m 26 #[.val (.int p0), .val (.int p1), .val (.int p2), .val (.int p3), .val (.int p4), .val (.int p5)] [])) _
          refine XS.iconst X0.here hx rfl (hb hby d9_26) ?_
          show Steps p.tables e below (s₁.setTop (mkF m 27 #[.val (.int p0), .val (.int p1), .val (.int p2), .val (.int p3), .val (.int p4), .val (.int p5)] [(.int (1 : Int32))])) _
          refine XS.goto X0.here hx rfl (pc0 := 27) (pc' := 31) rfl (hb hby d9_27) (by decide) (by decide) ?_
          show Steps p.tables e below (s₁.setTop (mkF m 31 #[.val (.int p0), .val (.int p1), .val (.int p2), .val (.int p3), .val (.int p4), .val (.int p5)] [(.int (1 : Int32))])) _
          exact retN X0 hx (t := .boolean) hret0 (by simp) (hb hby d9_31) hr
        · show Q9 (own_mkS p0 p1 p2 = own_mkS p3 p4 p5) h0 n0 _ s₁.heap _
          rw [e0]
          exact ⟨1, rfl, Or.inl ⟨rfl, by rw [own_mkS, own_mkS, if_pos h3, if_pos (h1 ▸ h3), h2]⟩, N0, rfl⟩
      · skip
        by_cases h4 : p2 = p5
        · skip
          obtain ⟨fs, hr, hrun, hended, hW, hsame⟩ := X0.leave (v := some (.int (1 : Int32))) (fun h => by rw [hret0] at h; cases h)
          refine ⟨_, _, pre0 _ ?_, hrun, hended, _, _, rfl, ?_, ⟨_, rfl⟩, hW, hsame.mono (by decide) (by decide)⟩
          · show Steps p.tables e below (s₁.setTop (mkF m 0 #[.val (.int p0), .val (.int p1), .val (.int p2), .val (.int p3), .val (.int p4), .val (.int p5)] [])) _
            refine XS.iloadN X0.here hx rfl (hb hby d9_0) rfl ?_
            show Steps p.tables e below (s₁.setTop (mkF m 1 #[.val (.int p0), .val (.int p1), .val (.int p2), .val (.int p3), .val (.int p4), .val (.int p5)] [(.int p0)])) _
            refine XS.iloadN X0.here hx rfl (hb hby d9_1) rfl ?_
            show Steps p.tables e below (s₁.setTop (mkF m 2 #[.val (.int p0), .val (.int p1), .val (.int p2), .val (.int p3), .val (.int p4), .val (.int p5)] [(.int p3), (.int p0)])) _
            refine XS.icmpYes X0.here hx rfl (pc0 := 2) (pc' := 7) rfl (hb hby d9_2) rfl (teq h1).1 (by decide) (by decide) ?_
            show Steps p.tables e below (s₁.setTop (mkF m 7 #[.val (.int p0), .val (.int p1), .val (.int p2), .val (.int p3), .val (.int p4), .val (.int p5)] [])) _
            refine XS.iloadN X0.here hx rfl (hb hby d9_7) rfl ?_
            show Steps p.tables e below (s₁.setTop (mkF m 8 #[.val (.int p0), .val (.int p1), .val (.int p2), .val (.int p3), .val (.int p4), .val (.int p5)] [(.int p1)])) _
            refine XS.iload X0.here hx rfl (hb hby d9_8) rfl ?_
            show Steps p.tables e below (s₁.setTop (mkF m 10 #[.val (.int p0), .val (.int p1), .val (.int p2), .val (.int p3), .val (.int p4), .val (.int p5)] [(.int p4), (.int p1)])) _
            refine XS.icmpYes X0.here hx rfl (pc0 := 10) (pc' := 15) rfl (hb hby d9_10) rfl (teq h2).1 (by decide) (by decide) ?_
            show Steps p.tables e below (s₁.setTop (mkF m 15 #[.val (.int p0), .val (.int p1), .val (.int p2), .val (.int p3), .val (.int p4), .val (.int p5)] [])) _
            refine XS.iloadN X0.here hx rfl (hb hby d9_15) rfl ?_
            show Steps p.tables e below (s₁.setTop (mkF m 16 #[.val (.int p0), .val (.int p1), .val (.int p2), .val (.int p3), .val (.int p4), .val (.int p5)] [(.int p0)])) _
            refine XS.iconst X0.here hx rfl (hb hby d9_16) ?_
            show Steps p.tables e below (s₁.setTop (mkF m 17 #[.val (.int p0), .val (.int p1), .val (.int p2), .val (.int p3), .val (.int p4), .val (.int p5)] [(.int (1 : Int32)), (.int p0)])) _
            refine XS.icmpNo X0.here hx rfl (hb hby d9_17) rfl (feq h3).1 ?_
            show Steps p.tables e below (s₁.setTop (mkF m 20 #[.val (.int p0), .val (.int p1), .val (.int p2), .val (.int p3), .val (.int p4), .val (.int p5)] [])) _
            refine XS.iloadN X0.here hx rfl (hb hby d9_20) rfl ?_
            show Steps p.tables e below (s₁.setTop (mkF m 21 #[.val (.int p0), .val (.int p1), .val (.int p2), .val (.int p3), .val (.int p4), .val (.int p5)] [(.int p2)])) _
            refine XS.iload X0.here hx rfl (hb hby d9_21) rfl ?_
            show Steps p.tables e below (s₁.setTop (mkF m 23 #[.val (.int p0), .val (.int p1), .val (.int p2), .val (.int p3), .val (.int p4), .val (.int p5)] [(.int p5), (.int p2)])) _
            refine XS.icmpNo X0.here hx rfl (hb hby d9_23) rfl (teq h4).2 ?_
            show Steps p.tables e below (s₁.setTop (mkF m 26 #[.val (.int p0), .val (.int p1), .val (.int p2), .val (.int p3), .val (.int p4), .val (.int p5)] [])) _
            refine XS.iconst X0.here hx rfl (hb hby d9_26) ?_
            show Steps p.tables e below (s₁.setTop (mkF m 27 #[.val (.int p0), .val (.int p1), .val (.int p2), .val (.int p3), .val (.int p4), .val (.int p5)] [(.int (1 : Int32))])) _
            refine XS.goto X0.here hx rfl (pc0 := 27) (pc' := 31) rfl (hb hby d9_27) (by decide) (by decide) ?_
            show Steps p.tables e below (s₁.setTop (mkF m 31 #[.val (.int p0), .val (.int p1), .val (.int p2), .val (.int p3), .val (.int p4), .val (.int p5)] [(.int (1 : Int32))])) _
            exact retN X0 hx (t := .boolean) hret0 (by simp) (hb hby d9_31) hr
          · show Q9 (own_mkS p0 p1 p2 = own_mkS p3 p4 p5) h0 n0 _ s₁.heap _
            rw [e0]
            exact ⟨1, rfl, Or.inl ⟨rfl, by rw [own_mkS, own_mkS, if_neg h3, if_neg (h1 ▸ h3), h2, h4]⟩, N0, rfl⟩
        · skip
          obtain ⟨fs, hr, hrun, hended, hW, hsame⟩ := X0.leave (v := some (.int (0 : Int32))) (fun h => by rw [hret0] at h; cases h)
          refine ⟨_, _, pre0 _ ?_, hrun, hended, _, _, rfl, ?_, ⟨_, rfl⟩, hW, hsame.mono (by decide) (by decide)⟩
          · show Steps p.tables e below (s₁.setTop (mkF m 0 #[.val (.int p0), .val (.int p1), .val (.int p2), .val (.int p3), .val (.int p4), .val (.int p5)] [])) _
            refine XS.iloadN X0.here hx rfl (hb hby d9_0) rfl ?_
            show Steps p.tables e below (s₁.setTop (mkF m 1 #[.val (.int p0), .val (.int p1), .val (.int p2), .val (.int p3), .val (.int p4), .val (.int p5)] [(.int p0)])) _
            refine XS.iloadN X0.here hx rfl (hb hby d9_1) rfl ?_
            show Steps p.tables e below (s₁.setTop (mkF m 2 #[.val (.int p0), .val (.int p1), .val (.int p2), .val (.int p3), .val (.int p4), .val (.int p5)] [(.int p3), (.int p0)])) _
            refine XS.icmpYes X0.here hx rfl (pc0 := 2) (pc' := 7) rfl (hb hby d9_2) rfl (teq h1).1 (by decide) (by decide) ?_
            show Steps p.tables e below (s₁.setTop (mkF m 7 #[.val (.int p0), .val (.int p1), .val (.int p2), .val (.int p3), .val (.int p4), .val (.int p5)] [])) _
            refine XS.iloadN X0.here hx rfl (hb hby d9_7) rfl ?_
            show Steps p.tables e below (s₁.setTop (mkF m 8 #[.val (.int p0), .val (.int p1), .val (.int p2), .val (.int p3), .val (.int p4), .val (.int p5)] [(.int p1)])) _
            refine XS.iload X0.here hx rfl (hb hby d9_8) rfl ?_
            show Steps p.tables e below (s₁.setTop (mkF m 10 #[.val (.int p0), .val (.int p1), .val (.int p2), .val (.int p3), .val (.int p4), .val (.int p5)] [(.int p4), (.int p1)])) _
            refine XS.icmpYes X0.here hx rfl (pc0 := 10) (pc' := 15) rfl (hb hby d9_10) rfl (teq h2).1 (by decide) (by decide) ?_
            show Steps p.tables e below (s₁.setTop (mkF m 15 #[.val (.int p0), .val (.int p1), .val (.int p2), .val (.int p3), .val (.int p4), .val (.int p5)] [])) _
            refine XS.iloadN X0.here hx rfl (hb hby d9_15) rfl ?_
            show Steps p.tables e below (s₁.setTop (mkF m 16 #[.val (.int p0), .val (.int p1), .val (.int p2), .val (.int p3), .val (.int p4), .val (.int p5)] [(.int p0)])) _
            refine XS.iconst X0.here hx rfl (hb hby d9_16) ?_
            show Steps p.tables e below (s₁.setTop (mkF m 17 #[.val (.int p0), .val (.int p1), .val (.int p2), .val (.int p3), .val (.int p4), .val (.int p5)] [(.int (1 : Int32)), (.int p0)])) _
            refine XS.icmpNo X0.here hx rfl (hb hby d9_17) rfl (feq h3).1 ?_
            show Steps p.tables e below (s₁.setTop (mkF m 20 #[.val (.int p0), .val (.int p1), .val (.int p2), .val (.int p3), .val (.int p4), .val (.int p5)] [])) _
            refine XS.iloadN X0.here hx rfl (hb hby d9_20) rfl ?_
            show Steps p.tables e below (s₁.setTop (mkF m 21 #[.val (.int p0), .val (.int p1), .val (.int p2), .val (.int p3), .val (.int p4), .val (.int p5)] [(.int p2)])) _
            refine XS.iload X0.here hx rfl (hb hby d9_21) rfl ?_
            show Steps p.tables e below (s₁.setTop (mkF m 23 #[.val (.int p0), .val (.int p1), .val (.int p2), .val (.int p3), .val (.int p4), .val (.int p5)] [(.int p5), (.int p2)])) _
            refine XS.icmpYes X0.here hx rfl (pc0 := 23) (pc' := 30) rfl (hb hby d9_23) rfl (feq h4).2 (by decide) (by decide) ?_
            show Steps p.tables e below (s₁.setTop (mkF m 30 #[.val (.int p0), .val (.int p1), .val (.int p2), .val (.int p3), .val (.int p4), .val (.int p5)] [])) _
            refine XS.iconst X0.here hx rfl (hb hby d9_30) ?_
            show Steps p.tables e below (s₁.setTop (mkF m 31 #[.val (.int p0), .val (.int p1), .val (.int p2), .val (.int p3), .val (.int p4), .val (.int p5)] [(.int (0 : Int32))])) _
            exact retN X0 hx (t := .boolean) hret0 (by simp) (hb hby d9_31) hr
          · show Q9 (own_mkS p0 p1 p2 = own_mkS p3 p4 p5) h0 n0 _ s₁.heap _
            rw [e0]
            exact ⟨0, rfl, Or.inr ⟨rfl, by rw [own_mkS, own_mkS, if_neg h3, if_neg (h1 ▸ h3)]; intro q; simp at q; exact h4 q.2⟩, N0, rfl⟩
    · skip
      obtain ⟨fs, hr, hrun, hended, hW, hsame⟩ := X0.leave (v := some (.int (0 : Int32))) (fun h => by rw [hret0] at h; cases h)
      refine ⟨_, _, pre0 _ ?_, hrun, hended, _, _, rfl, ?_, ⟨_, rfl⟩, hW, hsame.mono (by decide) (by decide)⟩
      · show Steps p.tables e below (s₁.setTop (mkF m 0 #[.val (.int p0), .val (.int p1), .val (.int p2), .val (.int p3), .val (.int p4), .val (.int p5)] [])) _
        refine XS.iloadN X0.here hx rfl (hb hby d9_0) rfl ?_
        show Steps p.tables e below (s₁.setTop (mkF m 1 #[.val (.int p0), .val (.int p1), .val (.int p2), .val (.int p3), .val (.int p4), .val (.int p5)] [(.int p0)])) _
        refine XS.iloadN X0.here hx rfl (hb hby d9_1) rfl ?_
        show Steps p.tables e below (s₁.setTop (mkF m 2 #[.val (.int p0), .val (.int p1), .val (.int p2), .val (.int p3), .val (.int p4), .val (.int p5)] [(.int p3), (.int p0)])) _
        refine XS.icmpYes X0.here hx rfl (pc0 := 2) (pc' := 7) rfl (hb hby d9_2) rfl (teq h1).1 (by decide) (by decide) ?_
        show Steps p.tables e below (s₁.setTop (mkF m 7 #[.val (.int p0), .val (.int p1), .val (.int p2), .val (.int p3), .val (.int p4), .val (.int p5)] [])) _
        refine XS.iloadN X0.here hx rfl (hb hby d9_7) rfl ?_
        show Steps p.tables e below (s₁.setTop (mkF m 8 #[.val (.int p0), .val (.int p1), .val (.int p2), .val (.int p3), .val (.int p4), .val (.int p5)] [(.int p1)])) _
        refine XS.iload X0.here hx rfl (hb hby d9_8) rfl ?_
        show Steps p.tables e below (s₁.setTop (mkF m 10 #[.val (.int p0), .val (.int p1), .val (.int p2), .val (.int p3), .val (.int p4), .val (.int p5)] [(.int p4), (.int p1)])) _
        refine XS.icmpNo X0.here hx rfl (hb hby d9_10) rfl (feq h2).1 ?_
        show Steps p.tables e below (s₁.setTop (mkF m 13 #[.val (.int p0), .val (.int p1), .val (.int p2), .val (.int p3), .val (.int p4), .val (.int p5)] [])) _
        refine XS.iconst X0.here hx rfl (hb hby d9_13) ?_
        show Steps p.tables e below (s₁.setTop (mkF m 14 #[.val (.int p0), .val (.int p1), .val (.int p2), .val (.int p3), .val (.int p4), .val (.int p5)] [(.int (0 : Int32))])) _
        exact retN X0 hx (t := .boolean) hret0 (by simp) (hb hby d9_14) hr
      · show Q9 (own_mkS p0 p1 p2 = own_mkS p3 p4 p5) h0 n0 _ s₁.heap _
        rw [e0]
        exact ⟨0, rfl, Or.inr ⟨rfl, by rw [own_mkS, own_mkS]; intro q; split at q <;> split at q <;> simp at q <;> first | exact h2 q | exact h2 q.1⟩, N0, rfl⟩
  · skip
    obtain ⟨fs, hr, hrun, hended, hW, hsame⟩ := X0.leave (v := some (.int (0 : Int32))) (fun h => by rw [hret0] at h; cases h)
    refine ⟨_, _, pre0 _ ?_, hrun, hended, _, _, rfl, ?_, ⟨_, rfl⟩, hW, hsame.mono (by decide) (by decide)⟩
    · show Steps p.tables e below (s₁.setTop (mkF m 0 #[.val (.int p0), .val (.int p1), .val (.int p2), .val (.int p3), .val (.int p4), .val (.int p5)] [])) _
      refine XS.iloadN X0.here hx rfl (hb hby d9_0) rfl ?_
      show Steps p.tables e below (s₁.setTop (mkF m 1 #[.val (.int p0), .val (.int p1), .val (.int p2), .val (.int p3), .val (.int p4), .val (.int p5)] [(.int p0)])) _
      refine XS.iloadN X0.here hx rfl (hb hby d9_1) rfl ?_
      show Steps p.tables e below (s₁.setTop (mkF m 2 #[.val (.int p0), .val (.int p1), .val (.int p2), .val (.int p3), .val (.int p4), .val (.int p5)] [(.int p3), (.int p0)])) _
      refine XS.icmpNo X0.here hx rfl (hb hby d9_2) rfl (feq h1).1 ?_
      show Steps p.tables e below (s₁.setTop (mkF m 5 #[.val (.int p0), .val (.int p1), .val (.int p2), .val (.int p3), .val (.int p4), .val (.int p5)] [])) _
      refine XS.iconst X0.here hx rfl (hb hby d9_5) ?_
      show Steps p.tables e below (s₁.setTop (mkF m 6 #[.val (.int p0), .val (.int p1), .val (.int p2), .val (.int p3), .val (.int p4), .val (.int p5)] [(.int (0 : Int32))])) _
      exact retN X0 hx (t := .boolean) hret0 (by simp) (hb hby d9_6) hr
    · show Q9 (own_mkS p0 p1 p2 = own_mkS p3 p4 p5) h0 n0 _ s₁.heap _
      rw [e0]
      exact ⟨0, rfl, Or.inr ⟨rfl, by rw [own_mkS, own_mkS]; intro q; rcases n1 with rfl | rfl <;> rcases n2 with rfl | rfl <;> simp at q h1⟩, N0, rfl⟩
theorem d10_0 : decode prog_12_method_9_code 0 = .ok (.aload_n 1, 1) := by decide +kernel
theorem d10_1 : decode prog_12_method_9_code 1 = .ok (.instanceof 8, 3) := by decide +kernel
theorem d10_4 : decode prog_12_method_9_code 4 = .ok (.ifCond .ne 5, 3) := by decide +kernel
theorem d10_7 : decode prog_12_method_9_code 7 = .ok (.iconst 0, 1) := by decide +kernel
theorem d10_8 : decode prog_12_method_9_code 8 = .ok (.ireturn, 1) := by decide +kernel
theorem d10_9 : decode prog_12_method_9_code 9 = .ok (.aload_n 1, 1) := by decide +kernel
theorem d10_10 : decode prog_12_method_9_code 10 = .ok (.checkcast 8, 3) := by decide +kernel
theorem d10_13 : decode prog_12_method_9_code 13 = .ok (.astore_n 2, 1) := by decide +kernel
theorem d10_14 : decode prog_12_method_9_code 14 = .ok (.aload_n 0, 1) := by decide +kernel
theorem d10_15 : decode prog_12_method_9_code 15 = .ok (.getfield 7, 3) := by decide +kernel
theorem d10_18 : decode prog_12_method_9_code 18 = .ok (.aload_n 2, 1) := by decide +kernel
theorem d10_19 : decode prog_12_method_9_code 19 = .ok (.getfield 7, 3) := by decide +kernel
theorem d10_22 : decode prog_12_method_9_code 22 = .ok (.invokevirtual 29, 3) := by decide +kernel
theorem d10_25 : decode prog_12_method_9_code 25 = .ok (.ifCond .eq 54, 3) := by decide +kernel
theorem d10_28 : decode prog_12_method_9_code 28 = .ok (.aload_n 0, 1) := by decide +kernel
theorem d10_29 : decode prog_12_method_9_code 29 = .ok (.getfield 13, 3) := by decide +kernel
theorem d10_32 : decode prog_12_method_9_code 32 = .ok (.aload_n 2, 1) := by decide +kernel
theorem d10_33 : decode prog_12_method_9_code 33 = .ok (.getfield 13, 3) := by decide +kernel
theorem d10_36 : decode prog_12_method_9_code 36 = .ok (.if_icmp .ne 43, 3) := by decide +kernel
theorem d10_39 : decode prog_12_method_9_code 39 = .ok (.aload_n 0, 1) := by decide +kernel
theorem d10_40 : decode prog_12_method_9_code 40 = .ok (.getfield 17, 3) := by decide +kernel
theorem d10_43 : decode prog_12_method_9_code 43 = .ok (.aload_n 2, 1) := by decide +kernel
theorem d10_44 : decode prog_12_method_9_code 44 = .ok (.getfield 17, 3) := by decide +kernel
theorem d10_47 : decode prog_12_method_9_code 47 = .ok (.if_icmp .ne 32, 3) := by decide +kernel
theorem d10_50 : decode prog_12_method_9_code 50 = .ok (.aload_n 0, 1) := by decide +kernel
theorem d10_51 : decode prog_12_method_9_code 51 = .ok (.getfield 20, 3) := by decide +kernel
theorem d10_54 : decode prog_12_method_9_code 54 = .ok (.aload_n 2, 1) := by decide +kernel
theorem d10_55 : decode prog_12_method_9_code 55 = .ok (.getfield 20, 3) := by decide +kernel
theorem d10_58 : decode prog_12_method_9_code 58 = .ok (.invokevirtual 29, 3) := by decide +kernel
theorem d10_61 : decode prog_12_method_9_code 61 = .ok (.ifCond .eq 18, 3) := by decide +kernel
theorem d10_64 : decode prog_12_method_9_code 64 = .ok (.aload_n 0, 1) := by decide +kernel
theorem d10_65 : decode prog_12_method_9_code 65 = .ok (.getfield 23, 3) := by decide +kernel
theorem d10_68 : decode prog_12_method_9_code 68 = .ok (.aload_n 2, 1) := by decide +kernel
theorem d10_69 : decode prog_12_method_9_code 69 = .ok (.getfield 23, 3) := by decide +kernel
theorem d10_72 : decode prog_12_method_9_code 72 = .ok (.if_icmp .ne 7, 3) := by decide +kernel
theorem d10_75 : decode prog_12_method_9_code 75 = .ok (.iconst 1, 1) := by decide +kernel
theorem d10_76 : decode prog_12_method_9_code 76 = .ok (.goto 4, 3) := by decide +kernel
theorem d10_79 : decode prog_12_method_9_code 79 = .ok (.iconst 0, 1) := by decide +kernel
theorem d10_80 : decode prog_12_method_9_code 80 = .ok (.ireturn, 1) := by decide +kernel
def Q10 (h0 : Heap) (n0 : Nat) (v : Option Value) (h : Heap) (L : List Loc) : Prop := v = some (.int 0) ∧ Fr n0 L ∧ h = h0
theorem own_pn_rm10n : plainName "com/example/ample_search/amplesearch/analysis/Token" = true := by first | (simp [plainName, overriddenIn]; done) | decide +kernel
theorem own_ef_rm10n (m : MethodId) (a1 : Addr) : entryFrame m #[(.ref a1), .null] 3 = (mkF m 0 #[.val (.ref a1), .val .null, .unset] []) := by first | (simp [entryFrame, mkF, argsToLocals, Value.category]; done) | rfl
set_option maxRecDepth 65536 in
set_option maxHeartbeats 40000000 in
theorem rm10n (l : Launch) (Z : State) (a0 : Array Value) (hw : ∀ d ∈ tables_1, d.before a0 Z = true) (ws : List Jvm.Cond) (a1 : Addr) (h0 : Heap) (n0 : Nat) (Z0 : n0 ≤ h0.size) :
    MetFree l (⟨"com/example/ample_search/amplesearch/analysis/Token", "equals", "(Ljava/lang/Object;)Z"⟩ : MethodName) (head1 (Jvm.Cond.code (⟨"com/example/ample_search/amplesearch/analysis/Token", "equals", "(Ljava/lang/Object;)Z"⟩ : MethodName) prog_12_method_9_code 3 (some .boolean) :: ws) ({ frames := 0, cells := 0, slots := 0, locals := 0 } : Room)) (fun a U => a = #[(.ref a1), .null] ∧ Z.Warmed39 U.vm ∧ U.heap = h0) (fun _ _ _ _ _ => True) (fun _ U o U' => ∃ v L, o = .returned v ∧ Q10 h0 n0 v U'.heap L ∧ FrameEnd U o U' L ({ frames := 0, cells := 0, slots := 0, locals := 0 } : Room).cells ({ frames := 0, cells := 0, slots := 0, locals := 0 } : Room).slots) := by
  refine MetFree.of_bodySF (plainFor_of_name own_pn_rm10n) hisR ?_
  intro p e s m args below meth c s₁ Bd hml0 hP hK
  obtain ⟨hargs, hZ, hh⟩ := hP
  have hx := Bd.exec
  have hby := Bd.bytes
  have hml : c.maxLocals = 3 := hml0
  have hown : s.vm.findClass "com/example/ample_search/amplesearch/analysis/Token" = some m.cls := findClass_of_methodNamed Bd.named
  have hnm := (name_of_methodNamed Bd.named Bd.method).1
  have hlock : meth.locks = false := Bd.notSynchronized
  have hret0 := Bd.returns
  have X0 : Stand p l e ({ frames := 0, cells := 0, slots := 0, locals := 0 } : Room) s m args below meth c s₁ [] 0 0 := Stand.of_body Bd
  have e0 : s₁.heap = h0 := by rw [← hh, Bd.state]; rfl
  have N0 := Fr.nil n0
  have pre0 : ∀ t, Steps p.tables e below (s₁.setTop (mkF m 0 #[.val (.ref a1), .val .null, .unset] [])) t → Steps p.tables e below (s₁.setTop (entryFrame m args 3)) t := fun t k => castTop (by rw [hargs]; exact own_ef_rm10n m a1) k
  clear Bd
  obtain ⟨fs, hr, hrun, hended, hW, hsame⟩ := X0.leave (v := some (.int (0 : Int32))) (fun h => by rw [hret0] at h; cases h)
  refine ⟨_, _, pre0 _ ?_, hrun, hended, _, _, rfl, ?_, ⟨_, rfl⟩, hW, hsame.mono (by decide) (by decide)⟩
  · show Steps p.tables e below (s₁.setTop (mkF m 0 #[.val (.ref a1), .val .null, .unset] [])) _
    refine XS.aloadN X0.here hx rfl (hb hby d10_0) rfl rfl ?_
    show Steps p.tables e below (s₁.setTop (mkF m 1 #[.val (.ref a1), .val .null, .unset] [.null])) _
    refine X0.instanceofNull hx (g := (mkF m 1 #[.val (.ref a1), .val .null, .unset] [.null])) rfl rfl (hb hby d10_1) _ ?_
    show Steps p.tables e below (s₁.setTop (mkF m 4 #[.val (.ref a1), .val .null, .unset] [(.int (0 : Int32))])) _
    refine XS.ifNo X0.here hx rfl (hb hby d10_4) rfl ((if0 _ _).trans (teq rfl).2) ?_
    show Steps p.tables e below (s₁.setTop (mkF m 7 #[.val (.ref a1), .val .null, .unset] [])) _
    refine XS.iconst X0.here hx rfl (hb hby d10_7) ?_
    show Steps p.tables e below (s₁.setTop (mkF m 8 #[.val (.ref a1), .val .null, .unset] [(.int (0 : Int32))])) _
    exact retN X0 hx (t := .boolean) hret0 (by simp) (hb hby d10_8) hr
  · show Q10 h0 n0 _ s₁.heap _
    rw [e0]
    exact ⟨rfl, N0, rfl⟩
theorem own_pn_rm10s : plainName "com/example/ample_search/amplesearch/analysis/Token" = true := by first | (simp [plainName, overriddenIn]; done) | decide +kernel
theorem own_ef_rm10s (m : MethodId) (a1 : Addr) (a2 : Addr) : entryFrame m #[(.ref a1), (.ref a2)] 3 = (mkF m 0 #[.val (.ref a1), .val (.ref a2), .unset] []) := by first | (simp [entryFrame, mkF, argsToLocals, Value.category]; done) | rfl
set_option maxRecDepth 65536 in
set_option maxHeartbeats 40000000 in
theorem rm10s (l : Launch) (Z : State) (a0 : Array Value) (hw : ∀ d ∈ tables_1, d.before a0 Z = true) (ws : List Jvm.Cond) (a1 : Addr) (a2 : Addr) (h0 : Heap) (n0 : Nat) (Z0 : n0 ≤ h0.size) (E2 : Exa Z h0 a2 "java/lang/String") :
    MetFree l (⟨"com/example/ample_search/amplesearch/analysis/Token", "equals", "(Ljava/lang/Object;)Z"⟩ : MethodName) (head1 (Jvm.Cond.code (⟨"com/example/ample_search/amplesearch/analysis/Token", "equals", "(Ljava/lang/Object;)Z"⟩ : MethodName) prog_12_method_9_code 3 (some .boolean) :: ws) ({ frames := 0, cells := 0, slots := 0, locals := 0 } : Room)) (fun a U => a = #[(.ref a1), (.ref a2)] ∧ Z.Warmed39 U.vm ∧ U.heap = h0) (fun _ _ _ _ _ => True) (fun _ U o U' => ∃ v L, o = .returned v ∧ Q10 h0 n0 v U'.heap L ∧ FrameEnd U o U' L ({ frames := 0, cells := 0, slots := 0, locals := 0 } : Room).cells ({ frames := 0, cells := 0, slots := 0, locals := 0 } : Room).slots) := by
  refine MetFree.of_bodySF (plainFor_of_name own_pn_rm10s) hisR ?_
  intro p e s m args below meth c s₁ Bd hml0 hP hK
  obtain ⟨hargs, hZ, hh⟩ := hP
  have hx := Bd.exec
  have hby := Bd.bytes
  have hml : c.maxLocals = 3 := hml0
  have hown : s.vm.findClass "com/example/ample_search/amplesearch/analysis/Token" = some m.cls := findClass_of_methodNamed Bd.named
  have hnm := (name_of_methodNamed Bd.named Bd.method).1
  have hlock : meth.locks = false := Bd.notSynchronized
  have hret0 := Bd.returns
  have X0 : Stand p l e ({ frames := 0, cells := 0, slots := 0, locals := 0 } : Room) s m args below meth c s₁ [] 0 0 := Stand.of_body Bd
  have e0 : s₁.heap = h0 := by rw [← hh, Bd.state]; rfl
  have N0 := Fr.nil n0
  have pre0 : ∀ t, Steps p.tables e below (s₁.setTop (mkF m 0 #[.val (.ref a1), .val (.ref a2), .unset] [])) t → Steps p.tables e below (s₁.setTop (entryFrame m args 3)) t := fun t k => castTop (by rw [hargs]; exact own_ef_rm10s m a1 a2) k
  clear Bd
  obtain ⟨T72, X72, e72, st72⟩ := instNo X0 hx hZ hown (hw _ (List.mem_of_getElem? (i := 60) rfl)) e0 E2 (own_no (hw _ (List.mem_of_getElem? (i := 72) rfl)) (hw _ (List.mem_of_getElem? (i := 73) rfl)) (hw _ (List.mem_of_getElem? (i := 36) rfl)) (by decide) (by decide)) (g := (mkF m 1 #[.val (.ref a1), .val (.ref a2), .unset] [(.ref a2)])) rfl rfl (hb hby d10_1)
  obtain ⟨fs, hr, hrun, hended, hW, hsame⟩ := X72.leave (v := some (.int (0 : Int32))) (fun h => by rw [hret0] at h; cases h)
  refine ⟨_, _, pre0 _ ?_, hrun, hended, _, _, rfl, ?_, ⟨_, rfl⟩, hW, hsame.mono (by decide) (by decide)⟩
  · show Steps p.tables e below (s₁.setTop (mkF m 0 #[.val (.ref a1), .val (.ref a2), .unset] [])) _
    refine XS.aloadN X0.here hx rfl (hb hby d10_0) rfl rfl ?_
    show Steps p.tables e below (s₁.setTop (mkF m 1 #[.val (.ref a1), .val (.ref a2), .unset] [(.ref a2)])) _
    refine st72 _ ?_
    show Steps p.tables e below (T72.setTop (mkF m 4 #[.val (.ref a1), .val (.ref a2), .unset] [(.int (0 : Int32))])) _
    refine XS.ifNo X72.here hx rfl (hb hby d10_4) rfl ((if0 _ _).trans (teq rfl).2) ?_
    show Steps p.tables e below (T72.setTop (mkF m 7 #[.val (.ref a1), .val (.ref a2), .unset] [])) _
    refine XS.iconst X72.here hx rfl (hb hby d10_7) ?_
    show Steps p.tables e below (T72.setTop (mkF m 8 #[.val (.ref a1), .val (.ref a2), .unset] [(.int (0 : Int32))])) _
    exact retN X72 hx (t := .boolean) hret0 (by simp) (hb hby d10_8) hr
  · show Q10 h0 n0 _ T72.heap _
    rw [e72]
    exact ⟨rfl, N0, rfl⟩
theorem own_pn_rm10 : plainName "com/example/ample_search/amplesearch/analysis/Token" = true := by first | (simp [plainName, overriddenIn]; done) | decide +kernel
theorem own_ef_rm10 (m : MethodId) (a1 : Addr) (a2 : Addr) : entryFrame m #[(.ref a1), (.ref a2)] 3 = (mkF m 0 #[.val (.ref a1), .val (.ref a2), .unset] []) := by first | (simp [entryFrame, mkF, argsToLocals, Value.category]; done) | rfl
set_option maxRecDepth 65536 in
set_option maxHeartbeats 40000000 in
theorem rm10 (l : Launch) (Z : State) (a0 : Array Value) (hw : ∀ d ∈ tables_1, d.before a0 Z = true) (ws : List Jvm.Cond) (a1 : Addr) (a2 : Addr) (s1 : Addr) (t1 : Addr) (s2 : Addr) (t2 : Addr) (cs1 : List Int32) (ds1 : List Int32) (cs2 : List Int32) (ds2 : List Int32) (i1 : Int32) (j1 : Int32) (k1 : Int32) (i2 : Int32) (j2 : Int32) (k2 : Int32) (G1 : Int32) (h0 : Heap) (n0 : Nat) (Z0 : n0 ≤ h0.size) (F1 : Fs Z h0 a1 (.ref s1) (.int i1) (.int j1) (.ref t1) (.int k1)) (F2 : Fs Z h0 a2 (.ref s2) (.int i2) (.int j2) (.ref t2) (.int k2)) (S1 : own_Str Z h0 s1 cs1) (T1 : own_Str Z h0 t1 ds1) (S2 : own_Str Z h0 s2 cs2) (T2 : own_Str Z h0 t2 ds2) (O2 : Sta Z Z.heap "java/lang/String" "COMPACT_STRINGS" "Z" (.int G1)) (P5 : ¬ (G1 = (0 : Int32))) (X00 : Old Z n0 h0) :
    MetFree l (⟨"com/example/ample_search/amplesearch/analysis/Token", "equals", "(Ljava/lang/Object;)Z"⟩ : MethodName) (head1 (Jvm.Cond.code (⟨"com/example/ample_search/amplesearch/analysis/Token", "equals", "(Ljava/lang/Object;)Z"⟩ : MethodName) prog_12_method_9_code 3 (some .boolean) :: ws) ({ frames := 3, cells := 0, slots := 0, locals := 46 } : Room)) (fun a U => a = #[(.ref a1), (.ref a2)] ∧ Z.Warmed39 U.vm ∧ U.heap = h0) (fun _ _ _ _ _ => True) (fun _ U o U' => ∃ v L, o = .returned v ∧ Q9 (cs1 = cs2 ∧ i1 = i2 ∧ j1 = j2 ∧ ds1 = ds2 ∧ k1 = k2) h0 n0 v U'.heap L ∧ FrameEnd U o U' L ({ frames := 3, cells := 0, slots := 0, locals := 46 } : Room).cells ({ frames := 3, cells := 0, slots := 0, locals := 46 } : Room).slots) := by
  refine MetFree.of_bodySF (plainFor_of_name own_pn_rm10) hisR ?_
  intro p e s m args below meth c s₁ Bd hml0 hP hK
  obtain ⟨hargs, hZ, hh⟩ := hP
  have hx := Bd.exec
  have hby := Bd.bytes
  have hml : c.maxLocals = 3 := hml0
  have hown : s.vm.findClass "com/example/ample_search/amplesearch/analysis/Token" = some m.cls := findClass_of_methodNamed Bd.named
  have hnm := (name_of_methodNamed Bd.named Bd.method).1
  have hlock : meth.locks = false := Bd.notSynchronized
  have hret0 := Bd.returns
  have X0 : Stand p l e ({ frames := 3, cells := 0, slots := 0, locals := 46 } : Room) s m args below meth c s₁ [] 0 0 := Stand.of_body Bd
  have e0 : s₁.heap = h0 := by rw [← hh, Bd.state]; rfl
  have N0 := Fr.nil n0
  have pre0 : ∀ t, Steps p.tables e below (s₁.setTop (mkF m 0 #[.val (.ref a1), .val (.ref a2), .unset] [])) t → Steps p.tables e below (s₁.setTop (entryFrame m args 3)) t := fun t k => castTop (by rw [hargs]; exact own_ef_rm10 m a1 a2) k
  clear Bd
  have heq : ∀ d ∈ StrChars.Road.wordsEq, d.before a0 Z = true := fun d hd => hw d ((by decide +kernel : ∀ d ∈ StrChars.Road.wordsEq, d ∈ tables_1) d hd)
  obtain ⟨a1E, a1F0, a1F1, a1F2, a1F3, a1F4⟩ := id F1
  obtain ⟨a2E, a2F0, a2F1, a2F2, a2F3, a2F4⟩ := id F2
  obtain ⟨T73, X73, e73, st73⟩ := instY X0 hx hZ hown (hw _ (List.mem_of_getElem? (i := 60) rfl)) e0 (Ins.self a2E) (g := (mkF m 1 #[.val (.ref a1), .val (.ref a2), .unset] [(.ref a2)])) rfl rfl (hb hby d10_1)
  obtain ⟨T74, X74, e74, st74⟩ := castY X73 hx hZ hown (hw _ (List.mem_of_getElem? (i := 60) rfl)) e73 (Ins.self a2E) (g := (mkF m 10 #[.val (.ref a1), .val (.ref a2), .unset] [(.ref a2)])) rfl rfl (hb hby d10_10)
  obtain ⟨T75, X75, e75, st75⟩ := getF X74 hx hZ hown (host := "") (Or.inl (hw _ (List.mem_of_getElem? (i := 42) rfl))) Via.refl e74 a1F0 (g := (mkF m 15 #[.val (.ref a1), .val (.ref a2), .val (.ref a2)] [(.ref a1)])) rfl rfl (hb hby d10_15)
  obtain ⟨T76, X76, e76, st76⟩ := getF X75 hx hZ hown (host := "") (Or.inl (hw _ (List.mem_of_getElem? (i := 42) rfl))) Via.refl e75 a2F0 (g := (mkF m 19 #[.val (.ref a1), .val (.ref a2), .val (.ref a2)] [(.ref a2), (.ref s1)])) rfl rfl (hb hby d10_19)
  obtain ⟨q77a1, q77a2, q77a3, q77a4, q77a5, q77a6, q77a7, q77a8⟩ := id S1
  obtain ⟨q77b1, q77b2, q77b3, q77b4, q77b5, q77b6, q77b7, q77b8⟩ := id S2
  obtain ⟨cq78, kq78, q78a, q78b, q78c⟩ := isOf hZ e76 q77a3
  obtain ⟨v78, vmx78, ⟨T78, L78, k78, n78⟩, -, X78, ⟨Lc78, hQ78, l78, y78, z78⟩, st78⟩ := X76.virtualBack hx (y := (⟨"java/lang/String", "equals", "(Ljava/lang/Object;)Z"⟩ : MethodName)) (z := (⟨"java/lang/String", "equals", "(Ljava/lang/Object;)Z"⟩ : MethodName)) hown (mvT hZ (hw _ (List.mem_of_getElem? (i := 62) rfl))) (mvT hZ (hw _ (List.mem_of_getElem? (i := 63) rfl))) (notFace_of_selects (args := #[]) (mvT hZ (hw _ (List.mem_of_getElem? (i := 65) rfl)))) (mvT hZ (hw _ (List.mem_of_getElem? (i := 65) rfl))) (mvT hZ (hw _ (List.mem_of_getElem? (i := 64) rfl))) (by decide) (StrChars.Road.eqW (W := 0) hZ heq (kI := 4) (hw _ (List.mem_of_getElem? (i := 6) rfl)) q77a3 q77a7 q77a4 q77a8 (StrChars.Road.codOf rfl (fun c hc => (q77a1 c hc).2)) (up _ q77a1) q77a2 q77b3 q77b7 q77b4 q77b8 (StrChars.Road.codOf rfl (fun c hc => (q77b1 c hc).2)) (up _ q77b1) q77b2 (O2.ext X00.2) P5 (by decide) (by decide)) q78a q78c (g := (mkF m 22 #[.val (.ref a1), .val (.ref a2), .val (.ref a2)] [(.ref s2), (.ref s1)])) rfl (by rw [hml]; rfl) (Steps.refl _) (argsL := [(.ref s2)]) (rest := []) (lenOf own_pd1 rfl) rfl (by show 2 * 0 + _ ≤ _; exact Nat.le_of_eq rfl) (hb hby d10_22) (fun _ _ => ⟨rfl, e76, (by decide : 0 + 0 ≤ _), (by decide : 0 + 0 ≤ _)⟩)
  dsimp only [Pt.U, Pt.locs, Pt.cells, Pt.slots] at X78 l78 y78 z78 st78 hQ78
  subst l78 y78 z78
  obtain ⟨hcase78, rfl, eh78⟩ := hQ78
  obtain ⟨z78, rfl, hz78⟩ : ∃ z : Int32, v78 = some (.int z) ∧ ((z = 1 ∧ cs1 = cs2) ∨ (z = 0 ∧ ¬ (cs1 = cs2))) := by
    rcases hcase78 with ⟨q1, q2⟩ | ⟨q1, q2⟩
    · exact ⟨1, q1, Or.inl ⟨rfl, q2⟩⟩
    · exact ⟨0, q1, Or.inr ⟨rfl, q2⟩⟩
  have Nq78 : Fr n0 ([] : List Loc) := Fr.nil n0
  have N78 := Fr.app N0 Nq78
  rcases hz78 with ⟨rfl, q1⟩ | ⟨rfl, q1⟩
  · skip
    obtain ⟨T79, X79, e79, st79⟩ := getF X78 hx hZ hown (host := "") (Or.inl (hw _ (List.mem_of_getElem? (i := 44) rfl))) Via.refl eh78 a1F1 (g := (mkF m 29 #[.val (.ref a1), .val (.ref a2), .val (.ref a2)] [(.ref a1)])) rfl rfl (hb hby d10_29)
    obtain ⟨T80, X80, e80, st80⟩ := getF X79 hx hZ hown (host := "") (Or.inl (hw _ (List.mem_of_getElem? (i := 44) rfl))) Via.refl e79 a2F1 (g := (mkF m 33 #[.val (.ref a1), .val (.ref a2), .val (.ref a2)] [(.ref a2), (.int i1)])) rfl rfl (hb hby d10_33)
    by_cases q2 : i1 = i2
    · skip
      obtain ⟨T81, X81, e81, st81⟩ := getF X80 hx hZ hown (host := "") (Or.inl (hw _ (List.mem_of_getElem? (i := 46) rfl))) Via.refl e80 a1F2 (g := (mkF m 40 #[.val (.ref a1), .val (.ref a2), .val (.ref a2)] [(.ref a1)])) rfl rfl (hb hby d10_40)
      obtain ⟨T82, X82, e82, st82⟩ := getF X81 hx hZ hown (host := "") (Or.inl (hw _ (List.mem_of_getElem? (i := 46) rfl))) Via.refl e81 a2F2 (g := (mkF m 44 #[.val (.ref a1), .val (.ref a2), .val (.ref a2)] [(.ref a2), (.int j1)])) rfl rfl (hb hby d10_44)
      by_cases q3 : j1 = j2
      · skip
        obtain ⟨T83, X83, e83, st83⟩ := getF X82 hx hZ hown (host := "") (Or.inl (hw _ (List.mem_of_getElem? (i := 48) rfl))) Via.refl e82 a1F3 (g := (mkF m 51 #[.val (.ref a1), .val (.ref a2), .val (.ref a2)] [(.ref a1)])) rfl rfl (hb hby d10_51)
        obtain ⟨T84, X84, e84, st84⟩ := getF X83 hx hZ hown (host := "") (Or.inl (hw _ (List.mem_of_getElem? (i := 48) rfl))) Via.refl e83 a2F3 (g := (mkF m 55 #[.val (.ref a1), .val (.ref a2), .val (.ref a2)] [(.ref a2), (.ref t1)])) rfl rfl (hb hby d10_55)
        obtain ⟨q85a1, q85a2, q85a3, q85a4, q85a5, q85a6, q85a7, q85a8⟩ := id T1
        obtain ⟨q85b1, q85b2, q85b3, q85b4, q85b5, q85b6, q85b7, q85b8⟩ := id T2
        obtain ⟨cq86, kq86, q86a, q86b, q86c⟩ := isOf hZ e84 q85a3
        obtain ⟨v86, vmx86, ⟨T86, L86, k86, n86⟩, -, X86, ⟨Lc86, hQ86, l86, y86, z86⟩, st86⟩ := X84.virtualBack hx (y := (⟨"java/lang/String", "equals", "(Ljava/lang/Object;)Z"⟩ : MethodName)) (z := (⟨"java/lang/String", "equals", "(Ljava/lang/Object;)Z"⟩ : MethodName)) hown (mvT hZ (hw _ (List.mem_of_getElem? (i := 62) rfl))) (mvT hZ (hw _ (List.mem_of_getElem? (i := 63) rfl))) (notFace_of_selects (args := #[]) (mvT hZ (hw _ (List.mem_of_getElem? (i := 65) rfl)))) (mvT hZ (hw _ (List.mem_of_getElem? (i := 65) rfl))) (mvT hZ (hw _ (List.mem_of_getElem? (i := 64) rfl))) (by decide) (StrChars.Road.eqW (W := 0) hZ heq (kI := 4) (hw _ (List.mem_of_getElem? (i := 6) rfl)) q85a3 q85a7 q85a4 q85a8 (StrChars.Road.codOf rfl (fun c hc => (q85a1 c hc).2)) (up _ q85a1) q85a2 q85b3 q85b7 q85b4 q85b8 (StrChars.Road.codOf rfl (fun c hc => (q85b1 c hc).2)) (up _ q85b1) q85b2 (O2.ext X00.2) P5 (by decide) (by decide)) q86a q86c (g := (mkF m 58 #[.val (.ref a1), .val (.ref a2), .val (.ref a2)] [(.ref t2), (.ref t1)])) rfl (by rw [hml]; rfl) (Steps.refl _) (argsL := [(.ref t2)]) (rest := []) (lenOf own_pd1 rfl) rfl (by show 2 * 0 + _ ≤ _; exact Nat.le_of_eq rfl) (hb hby d10_58) (fun _ _ => ⟨rfl, e84, (by decide : 0 + 0 ≤ _), (by decide : 0 + 0 ≤ _)⟩)
        dsimp only [Pt.U, Pt.locs, Pt.cells, Pt.slots] at X86 l86 y86 z86 st86 hQ86
        subst l86 y86 z86
        obtain ⟨hcase86, rfl, eh86⟩ := hQ86
        obtain ⟨z86, rfl, hz86⟩ : ∃ z : Int32, v86 = some (.int z) ∧ ((z = 1 ∧ ds1 = ds2) ∨ (z = 0 ∧ ¬ (ds1 = ds2))) := by
          rcases hcase86 with ⟨q1, q2⟩ | ⟨q1, q2⟩
          · exact ⟨1, q1, Or.inl ⟨rfl, q2⟩⟩
          · exact ⟨0, q1, Or.inr ⟨rfl, q2⟩⟩
        have Nq86 : Fr n0 ([] : List Loc) := Fr.nil n0
        have N86 := Fr.app N78 Nq86
        rcases hz86 with ⟨rfl, q4⟩ | ⟨rfl, q4⟩
        · skip
          obtain ⟨T87, X87, e87, st87⟩ := getF X86 hx hZ hown (host := "") (Or.inl (hw _ (List.mem_of_getElem? (i := 50) rfl))) Via.refl eh86 a1F4 (g := (mkF m 65 #[.val (.ref a1), .val (.ref a2), .val (.ref a2)] [(.ref a1)])) rfl rfl (hb hby d10_65)
          obtain ⟨T88, X88, e88, st88⟩ := getF X87 hx hZ hown (host := "") (Or.inl (hw _ (List.mem_of_getElem? (i := 50) rfl))) Via.refl e87 a2F4 (g := (mkF m 69 #[.val (.ref a1), .val (.ref a2), .val (.ref a2)] [(.ref a2), (.int k1)])) rfl rfl (hb hby d10_69)
          by_cases q5 : k1 = k2
          · skip
            obtain ⟨fs, hr, hrun, hended, hW, hsame⟩ := X88.leave (v := some (.int (1 : Int32))) (fun h => by rw [hret0] at h; cases h)
            refine ⟨_, _, pre0 _ ?_, hrun, hended, _, _, rfl, ?_, ⟨_, rfl⟩, hW, hsame.mono (by decide) (by decide)⟩
            · show Steps p.tables e below (s₁.setTop (mkF m 0 #[.val (.ref a1), .val (.ref a2), .unset] [])) _
              refine XS.aloadN X0.here hx rfl (hb hby d10_0) rfl rfl ?_
              show Steps p.tables e below (s₁.setTop (mkF m 1 #[.val (.ref a1), .val (.ref a2), .unset] [(.ref a2)])) _
              refine st73 _ ?_
              show Steps p.tables e below (T73.setTop (mkF m 4 #[.val (.ref a1), .val (.ref a2), .unset] [(.int (1 : Int32))])) _
              refine XS.ifYes X73.here hx rfl (pc0 := 4) (pc' := 9) rfl (hb hby d10_4) rfl ((if0 _ _).trans (feq (by decide)).2) (by decide) (by decide) ?_
              show Steps p.tables e below (T73.setTop (mkF m 9 #[.val (.ref a1), .val (.ref a2), .unset] [])) _
              refine XS.aloadN X73.here hx rfl (hb hby d10_9) rfl rfl ?_
              show Steps p.tables e below (T73.setTop (mkF m 10 #[.val (.ref a1), .val (.ref a2), .unset] [(.ref a2)])) _
              refine st74 _ ?_
              show Steps p.tables e below (T74.setTop (mkF m 13 #[.val (.ref a1), .val (.ref a2), .unset] [(.ref a2)])) _
              refine XS.astoreN X74.here hx rfl (hb hby d10_13) rfl rfl (l' := #[.val (.ref a1), .val (.ref a2), .val (.ref a2)]) rfl ?_
              show Steps p.tables e below (T74.setTop (mkF m 14 #[.val (.ref a1), .val (.ref a2), .val (.ref a2)] [])) _
              refine XS.aloadN X74.here hx rfl (hb hby d10_14) rfl rfl ?_
              show Steps p.tables e below (T74.setTop (mkF m 15 #[.val (.ref a1), .val (.ref a2), .val (.ref a2)] [(.ref a1)])) _
              refine st75 _ ?_
              show Steps p.tables e below (T75.setTop (mkF m 18 #[.val (.ref a1), .val (.ref a2), .val (.ref a2)] [(.ref s1)])) _
              refine XS.aloadN X75.here hx rfl (hb hby d10_18) rfl rfl ?_
              show Steps p.tables e below (T75.setTop (mkF m 19 #[.val (.ref a1), .val (.ref a2), .val (.ref a2)] [(.ref a2), (.ref s1)])) _
              refine st76 _ ?_
              show Steps p.tables e below (T76.setTop (mkF m 22 #[.val (.ref a1), .val (.ref a2), .val (.ref a2)] [(.ref s2), (.ref s1)])) _
              refine st78.trans ?_
              show Steps p.tables e below (T78.setTop (mkF m 25 #[.val (.ref a1), .val (.ref a2), .val (.ref a2)] [(.int (1 : Int32))])) _
              refine XS.ifNo X78.here hx rfl (hb hby d10_25) rfl ((if0 _ _).trans (feq (by decide)).1) ?_
              show Steps p.tables e below (T78.setTop (mkF m 28 #[.val (.ref a1), .val (.ref a2), .val (.ref a2)] [])) _
              refine XS.aloadN X78.here hx rfl (hb hby d10_28) rfl rfl ?_
              show Steps p.tables e below (T78.setTop (mkF m 29 #[.val (.ref a1), .val (.ref a2), .val (.ref a2)] [(.ref a1)])) _
              refine st79 _ ?_
              show Steps p.tables e below (T79.setTop (mkF m 32 #[.val (.ref a1), .val (.ref a2), .val (.ref a2)] [(.int i1)])) _
              refine XS.aloadN X79.here hx rfl (hb hby d10_32) rfl rfl ?_
              show Steps p.tables e below (T79.setTop (mkF m 33 #[.val (.ref a1), .val (.ref a2), .val (.ref a2)] [(.ref a2), (.int i1)])) _
              refine st80 _ ?_
              show Steps p.tables e below (T80.setTop (mkF m 36 #[.val (.ref a1), .val (.ref a2), .val (.ref a2)] [(.int i2), (.int i1)])) _
              refine XS.icmpNo X80.here hx rfl (hb hby d10_36) rfl (teq q2).2 ?_
              show Steps p.tables e below (T80.setTop (mkF m 39 #[.val (.ref a1), .val (.ref a2), .val (.ref a2)] [])) _
              refine XS.aloadN X80.here hx rfl (hb hby d10_39) rfl rfl ?_
              show Steps p.tables e below (T80.setTop (mkF m 40 #[.val (.ref a1), .val (.ref a2), .val (.ref a2)] [(.ref a1)])) _
              refine st81 _ ?_
              show Steps p.tables e below (T81.setTop (mkF m 43 #[.val (.ref a1), .val (.ref a2), .val (.ref a2)] [(.int j1)])) _
              refine XS.aloadN X81.here hx rfl (hb hby d10_43) rfl rfl ?_
              show Steps p.tables e below (T81.setTop (mkF m 44 #[.val (.ref a1), .val (.ref a2), .val (.ref a2)] [(.ref a2), (.int j1)])) _
              refine st82 _ ?_
              show Steps p.tables e below (T82.setTop (mkF m 47 #[.val (.ref a1), .val (.ref a2), .val (.ref a2)] [(.int j2), (.int j1)])) _
              refine XS.icmpNo X82.here hx rfl (hb hby d10_47) rfl (teq q3).2 ?_
              show Steps p.tables e below (T82.setTop (mkF m 50 #[.val (.ref a1), .val (.ref a2), .val (.ref a2)] [])) _
              refine XS.aloadN X82.here hx rfl (hb hby d10_50) rfl rfl ?_
              show Steps p.tables e below (T82.setTop (mkF m 51 #[.val (.ref a1), .val (.ref a2), .val (.ref a2)] [(.ref a1)])) _
              refine st83 _ ?_
              show Steps p.tables e below (T83.setTop (mkF m 54 #[.val (.ref a1), .val (.ref a2), .val (.ref a2)] [(.ref t1)])) _
              refine XS.aloadN X83.here hx rfl (hb hby d10_54) rfl rfl ?_
              show Steps p.tables e below (T83.setTop (mkF m 55 #[.val (.ref a1), .val (.ref a2), .val (.ref a2)] [(.ref a2), (.ref t1)])) _
              refine st84 _ ?_
              show Steps p.tables e below (T84.setTop (mkF m 58 #[.val (.ref a1), .val (.ref a2), .val (.ref a2)] [(.ref t2), (.ref t1)])) _
              refine st86.trans ?_
              show Steps p.tables e below (T86.setTop (mkF m 61 #[.val (.ref a1), .val (.ref a2), .val (.ref a2)] [(.int (1 : Int32))])) _
              refine XS.ifNo X86.here hx rfl (hb hby d10_61) rfl ((if0 _ _).trans (feq (by decide)).1) ?_
              show Steps p.tables e below (T86.setTop (mkF m 64 #[.val (.ref a1), .val (.ref a2), .val (.ref a2)] [])) _
              refine XS.aloadN X86.here hx rfl (hb hby d10_64) rfl rfl ?_
              show Steps p.tables e below (T86.setTop (mkF m 65 #[.val (.ref a1), .val (.ref a2), .val (.ref a2)] [(.ref a1)])) _
              refine st87 _ ?_
              show Steps p.tables e below (T87.setTop (mkF m 68 #[.val (.ref a1), .val (.ref a2), .val (.ref a2)] [(.int k1)])) _
              refine XS.aloadN X87.here hx rfl (hb hby d10_68) rfl rfl ?_
              show Steps p.tables e below (T87.setTop (mkF m 69 #[.val (.ref a1), .val (.ref a2), .val (.ref a2)] [(.ref a2), (.int k1)])) _
              refine st88 _ ?_
              show Steps p.tables e below (T88.setTop (mkF m 72 #[.val (.ref a1), .val (.ref a2), .val (.ref a2)] [(.int k2), (.int k1)])) _
              refine XS.icmpNo X88.here hx rfl (hb hby d10_72) rfl (teq q5).2 ?_
              show Steps p.tables e below (T88.setTop (mkF m 75 #[.val (.ref a1), .val (.ref a2), .val (.ref a2)] [])) _
              refine XS.iconst X88.here hx rfl (hb hby d10_75) ?_
              show Steps p.tables e below (T88.setTop (mkF m 76 #[.val (.ref a1), .val (.ref a2), .val (.ref a2)] [(.int (1 : Int32))])) _
              refine XS.goto X88.here hx rfl (pc0 := 76) (pc' := 80) rfl (hb hby d10_76) (by decide) (by decide) ?_
              show Steps p.tables e below (T88.setTop (mkF m 80 #[.val (.ref a1), .val (.ref a2), .val (.ref a2)] [(.int (1 : Int32))])) _
              exact retN X88 hx (t := .boolean) hret0 (by simp) (hb hby d10_80) hr
            · show Q9 (cs1 = cs2 ∧ i1 = i2 ∧ j1 = j2 ∧ ds1 = ds2 ∧ k1 = k2) h0 n0 _ T88.heap _
              rw [e88]
              exact ⟨1, rfl, Or.inl ⟨rfl, q1, q2, q3, q4, q5⟩, N86, rfl⟩
          · skip
            obtain ⟨fs, hr, hrun, hended, hW, hsame⟩ := X88.leave (v := some (.int (0 : Int32))) (fun h => by rw [hret0] at h; cases h)
            refine ⟨_, _, pre0 _ ?_, hrun, hended, _, _, rfl, ?_, ⟨_, rfl⟩, hW, hsame.mono (by decide) (by decide)⟩
            · show Steps p.tables e below (s₁.setTop (mkF m 0 #[.val (.ref a1), .val (.ref a2), .unset] [])) _
              refine XS.aloadN X0.here hx rfl (hb hby d10_0) rfl rfl ?_
              show Steps p.tables e below (s₁.setTop (mkF m 1 #[.val (.ref a1), .val (.ref a2), .unset] [(.ref a2)])) _
              refine st73 _ ?_
              show Steps p.tables e below (T73.setTop (mkF m 4 #[.val (.ref a1), .val (.ref a2), .unset] [(.int (1 : Int32))])) _
              refine XS.ifYes X73.here hx rfl (pc0 := 4) (pc' := 9) rfl (hb hby d10_4) rfl ((if0 _ _).trans (feq (by decide)).2) (by decide) (by decide) ?_
              show Steps p.tables e below (T73.setTop (mkF m 9 #[.val (.ref a1), .val (.ref a2), .unset] [])) _
              refine XS.aloadN X73.here hx rfl (hb hby d10_9) rfl rfl ?_
              show Steps p.tables e below (T73.setTop (mkF m 10 #[.val (.ref a1), .val (.ref a2), .unset] [(.ref a2)])) _
              refine st74 _ ?_
              show Steps p.tables e below (T74.setTop (mkF m 13 #[.val (.ref a1), .val (.ref a2), .unset] [(.ref a2)])) _
              refine XS.astoreN X74.here hx rfl (hb hby d10_13) rfl rfl (l' := #[.val (.ref a1), .val (.ref a2), .val (.ref a2)]) rfl ?_
              show Steps p.tables e below (T74.setTop (mkF m 14 #[.val (.ref a1), .val (.ref a2), .val (.ref a2)] [])) _
              refine XS.aloadN X74.here hx rfl (hb hby d10_14) rfl rfl ?_
              show Steps p.tables e below (T74.setTop (mkF m 15 #[.val (.ref a1), .val (.ref a2), .val (.ref a2)] [(.ref a1)])) _
              refine st75 _ ?_
              show Steps p.tables e below (T75.setTop (mkF m 18 #[.val (.ref a1), .val (.ref a2), .val (.ref a2)] [(.ref s1)])) _
              refine XS.aloadN X75.here hx rfl (hb hby d10_18) rfl rfl ?_
              show Steps p.tables e below (T75.setTop (mkF m 19 #[.val (.ref a1), .val (.ref a2), .val (.ref a2)] [(.ref a2), (.ref s1)])) _
              refine st76 _ ?_
              show Steps p.tables e below (T76.setTop (mkF m 22 #[.val (.ref a1), .val (.ref a2), .val (.ref a2)] [(.ref s2), (.ref s1)])) _
              refine st78.trans ?_
              show Steps p.tables e below (T78.setTop (mkF m 25 #[.val (.ref a1), .val (.ref a2), .val (.ref a2)] [(.int (1 : Int32))])) _
              refine XS.ifNo X78.here hx rfl (hb hby d10_25) rfl ((if0 _ _).trans (feq (by decide)).1) ?_
              show Steps p.tables e below (T78.setTop (mkF m 28 #[.val (.ref a1), .val (.ref a2), .val (.ref a2)] [])) _
              refine XS.aloadN X78.here hx rfl (hb hby d10_28) rfl rfl ?_
              show Steps p.tables e below (T78.setTop (mkF m 29 #[.val (.ref a1), .val (.ref a2), .val (.ref a2)] [(.ref a1)])) _
              refine st79 _ ?_
              show Steps p.tables e below (T79.setTop (mkF m 32 #[.val (.ref a1), .val (.ref a2), .val (.ref a2)] [(.int i1)])) _
              refine XS.aloadN X79.here hx rfl (hb hby d10_32) rfl rfl ?_
              show Steps p.tables e below (T79.setTop (mkF m 33 #[.val (.ref a1), .val (.ref a2), .val (.ref a2)] [(.ref a2), (.int i1)])) _
              refine st80 _ ?_
              show Steps p.tables e below (T80.setTop (mkF m 36 #[.val (.ref a1), .val (.ref a2), .val (.ref a2)] [(.int i2), (.int i1)])) _
              refine XS.icmpNo X80.here hx rfl (hb hby d10_36) rfl (teq q2).2 ?_
              show Steps p.tables e below (T80.setTop (mkF m 39 #[.val (.ref a1), .val (.ref a2), .val (.ref a2)] [])) _
              refine XS.aloadN X80.here hx rfl (hb hby d10_39) rfl rfl ?_
              show Steps p.tables e below (T80.setTop (mkF m 40 #[.val (.ref a1), .val (.ref a2), .val (.ref a2)] [(.ref a1)])) _
              refine st81 _ ?_
              show Steps p.tables e below (T81.setTop (mkF m 43 #[.val (.ref a1), .val (.ref a2), .val (.ref a2)] [(.int j1)])) _
              refine XS.aloadN X81.here hx rfl (hb hby d10_43) rfl rfl ?_
              show Steps p.tables e below (T81.setTop (mkF m 44 #[.val (.ref a1), .val (.ref a2), .val (.ref a2)] [(.ref a2), (.int j1)])) _
              refine st82 _ ?_
              show Steps p.tables e below (T82.setTop (mkF m 47 #[.val (.ref a1), .val (.ref a2), .val (.ref a2)] [(.int j2), (.int j1)])) _
              refine XS.icmpNo X82.here hx rfl (hb hby d10_47) rfl (teq q3).2 ?_
              show Steps p.tables e below (T82.setTop (mkF m 50 #[.val (.ref a1), .val (.ref a2), .val (.ref a2)] [])) _
              refine XS.aloadN X82.here hx rfl (hb hby d10_50) rfl rfl ?_
              show Steps p.tables e below (T82.setTop (mkF m 51 #[.val (.ref a1), .val (.ref a2), .val (.ref a2)] [(.ref a1)])) _
              refine st83 _ ?_
              show Steps p.tables e below (T83.setTop (mkF m 54 #[.val (.ref a1), .val (.ref a2), .val (.ref a2)] [(.ref t1)])) _
              refine XS.aloadN X83.here hx rfl (hb hby d10_54) rfl rfl ?_
              show Steps p.tables e below (T83.setTop (mkF m 55 #[.val (.ref a1), .val (.ref a2), .val (.ref a2)] [(.ref a2), (.ref t1)])) _
              refine st84 _ ?_
              show Steps p.tables e below (T84.setTop (mkF m 58 #[.val (.ref a1), .val (.ref a2), .val (.ref a2)] [(.ref t2), (.ref t1)])) _
              refine st86.trans ?_
              show Steps p.tables e below (T86.setTop (mkF m 61 #[.val (.ref a1), .val (.ref a2), .val (.ref a2)] [(.int (1 : Int32))])) _
              refine XS.ifNo X86.here hx rfl (hb hby d10_61) rfl ((if0 _ _).trans (feq (by decide)).1) ?_
              show Steps p.tables e below (T86.setTop (mkF m 64 #[.val (.ref a1), .val (.ref a2), .val (.ref a2)] [])) _
              refine XS.aloadN X86.here hx rfl (hb hby d10_64) rfl rfl ?_
              show Steps p.tables e below (T86.setTop (mkF m 65 #[.val (.ref a1), .val (.ref a2), .val (.ref a2)] [(.ref a1)])) _
              refine st87 _ ?_
              show Steps p.tables e below (T87.setTop (mkF m 68 #[.val (.ref a1), .val (.ref a2), .val (.ref a2)] [(.int k1)])) _
              refine XS.aloadN X87.here hx rfl (hb hby d10_68) rfl rfl ?_
              show Steps p.tables e below (T87.setTop (mkF m 69 #[.val (.ref a1), .val (.ref a2), .val (.ref a2)] [(.ref a2), (.int k1)])) _
              refine st88 _ ?_
              show Steps p.tables e below (T88.setTop (mkF m 72 #[.val (.ref a1), .val (.ref a2), .val (.ref a2)] [(.int k2), (.int k1)])) _
              refine XS.icmpYes X88.here hx rfl (pc0 := 72) (pc' := 79) rfl (hb hby d10_72) rfl (feq q5).2 (by decide) (by decide) ?_
              show Steps p.tables e below (T88.setTop (mkF m 79 #[.val (.ref a1), .val (.ref a2), .val (.ref a2)] [])) _
              refine XS.iconst X88.here hx rfl (hb hby d10_79) ?_
              show Steps p.tables e below (T88.setTop (mkF m 80 #[.val (.ref a1), .val (.ref a2), .val (.ref a2)] [(.int (0 : Int32))])) _
              exact retN X88 hx (t := .boolean) hret0 (by simp) (hb hby d10_80) hr
            · show Q9 (cs1 = cs2 ∧ i1 = i2 ∧ j1 = j2 ∧ ds1 = ds2 ∧ k1 = k2) h0 n0 _ T88.heap _
              rw [e88]
              exact ⟨0, rfl, Or.inr ⟨rfl, fun q => q5 q.2.2.2.2⟩, N86, rfl⟩
        · skip
          obtain ⟨fs, hr, hrun, hended, hW, hsame⟩ := X86.leave (v := some (.int (0 : Int32))) (fun h => by rw [hret0] at h; cases h)
          refine ⟨_, _, pre0 _ ?_, hrun, hended, _, _, rfl, ?_, ⟨_, rfl⟩, hW, hsame.mono (by decide) (by decide)⟩
          · show Steps p.tables e below (s₁.setTop (mkF m 0 #[.val (.ref a1), .val (.ref a2), .unset] [])) _
            refine XS.aloadN X0.here hx rfl (hb hby d10_0) rfl rfl ?_
            show Steps p.tables e below (s₁.setTop (mkF m 1 #[.val (.ref a1), .val (.ref a2), .unset] [(.ref a2)])) _
            refine st73 _ ?_
            show Steps p.tables e below (T73.setTop (mkF m 4 #[.val (.ref a1), .val (.ref a2), .unset] [(.int (1 : Int32))])) _
            refine XS.ifYes X73.here hx rfl (pc0 := 4) (pc' := 9) rfl (hb hby d10_4) rfl ((if0 _ _).trans (feq (by decide)).2) (by decide) (by decide) ?_
            show Steps p.tables e below (T73.setTop (mkF m 9 #[.val (.ref a1), .val (.ref a2), .unset] [])) _
            refine XS.aloadN X73.here hx rfl (hb hby d10_9) rfl rfl ?_
            show Steps p.tables e below (T73.setTop (mkF m 10 #[.val (.ref a1), .val (.ref a2), .unset] [(.ref a2)])) _
            refine st74 _ ?_
            show Steps p.tables e below (T74.setTop (mkF m 13 #[.val (.ref a1), .val (.ref a2), .unset] [(.ref a2)])) _
            refine XS.astoreN X74.here hx rfl (hb hby d10_13) rfl rfl (l' := #[.val (.ref a1), .val (.ref a2), .val (.ref a2)]) rfl ?_
            show Steps p.tables e below (T74.setTop (mkF m 14 #[.val (.ref a1), .val (.ref a2), .val (.ref a2)] [])) _
            refine XS.aloadN X74.here hx rfl (hb hby d10_14) rfl rfl ?_
            show Steps p.tables e below (T74.setTop (mkF m 15 #[.val (.ref a1), .val (.ref a2), .val (.ref a2)] [(.ref a1)])) _
            refine st75 _ ?_
            show Steps p.tables e below (T75.setTop (mkF m 18 #[.val (.ref a1), .val (.ref a2), .val (.ref a2)] [(.ref s1)])) _
            refine XS.aloadN X75.here hx rfl (hb hby d10_18) rfl rfl ?_
            show Steps p.tables e below (T75.setTop (mkF m 19 #[.val (.ref a1), .val (.ref a2), .val (.ref a2)] [(.ref a2), (.ref s1)])) _
            refine st76 _ ?_
            show Steps p.tables e below (T76.setTop (mkF m 22 #[.val (.ref a1), .val (.ref a2), .val (.ref a2)] [(.ref s2), (.ref s1)])) _
            refine st78.trans ?_
            show Steps p.tables e below (T78.setTop (mkF m 25 #[.val (.ref a1), .val (.ref a2), .val (.ref a2)] [(.int (1 : Int32))])) _
            refine XS.ifNo X78.here hx rfl (hb hby d10_25) rfl ((if0 _ _).trans (feq (by decide)).1) ?_
            show Steps p.tables e below (T78.setTop (mkF m 28 #[.val (.ref a1), .val (.ref a2), .val (.ref a2)] [])) _
            refine XS.aloadN X78.here hx rfl (hb hby d10_28) rfl rfl ?_
            show Steps p.tables e below (T78.setTop (mkF m 29 #[.val (.ref a1), .val (.ref a2), .val (.ref a2)] [(.ref a1)])) _
            refine st79 _ ?_
            show Steps p.tables e below (T79.setTop (mkF m 32 #[.val (.ref a1), .val (.ref a2), .val (.ref a2)] [(.int i1)])) _
            refine XS.aloadN X79.here hx rfl (hb hby d10_32) rfl rfl ?_
            show Steps p.tables e below (T79.setTop (mkF m 33 #[.val (.ref a1), .val (.ref a2), .val (.ref a2)] [(.ref a2), (.int i1)])) _
            refine st80 _ ?_
            show Steps p.tables e below (T80.setTop (mkF m 36 #[.val (.ref a1), .val (.ref a2), .val (.ref a2)] [(.int i2), (.int i1)])) _
            refine XS.icmpNo X80.here hx rfl (hb hby d10_36) rfl (teq q2).2 ?_
            show Steps p.tables e below (T80.setTop (mkF m 39 #[.val (.ref a1), .val (.ref a2), .val (.ref a2)] [])) _
            refine XS.aloadN X80.here hx rfl (hb hby d10_39) rfl rfl ?_
            show Steps p.tables e below (T80.setTop (mkF m 40 #[.val (.ref a1), .val (.ref a2), .val (.ref a2)] [(.ref a1)])) _
            refine st81 _ ?_
            show Steps p.tables e below (T81.setTop (mkF m 43 #[.val (.ref a1), .val (.ref a2), .val (.ref a2)] [(.int j1)])) _
            refine XS.aloadN X81.here hx rfl (hb hby d10_43) rfl rfl ?_
            show Steps p.tables e below (T81.setTop (mkF m 44 #[.val (.ref a1), .val (.ref a2), .val (.ref a2)] [(.ref a2), (.int j1)])) _
            refine st82 _ ?_
            show Steps p.tables e below (T82.setTop (mkF m 47 #[.val (.ref a1), .val (.ref a2), .val (.ref a2)] [(.int j2), (.int j1)])) _
            refine XS.icmpNo X82.here hx rfl (hb hby d10_47) rfl (teq q3).2 ?_
            show Steps p.tables e below (T82.setTop (mkF m 50 #[.val (.ref a1), .val (.ref a2), .val (.ref a2)] [])) _
            refine XS.aloadN X82.here hx rfl (hb hby d10_50) rfl rfl ?_
            show Steps p.tables e below (T82.setTop (mkF m 51 #[.val (.ref a1), .val (.ref a2), .val (.ref a2)] [(.ref a1)])) _
            refine st83 _ ?_
            show Steps p.tables e below (T83.setTop (mkF m 54 #[.val (.ref a1), .val (.ref a2), .val (.ref a2)] [(.ref t1)])) _
            refine XS.aloadN X83.here hx rfl (hb hby d10_54) rfl rfl ?_
            show Steps p.tables e below (T83.setTop (mkF m 55 #[.val (.ref a1), .val (.ref a2), .val (.ref a2)] [(.ref a2), (.ref t1)])) _
            refine st84 _ ?_
            show Steps p.tables e below (T84.setTop (mkF m 58 #[.val (.ref a1), .val (.ref a2), .val (.ref a2)] [(.ref t2), (.ref t1)])) _
            refine st86.trans ?_
            show Steps p.tables e below (T86.setTop (mkF m 61 #[.val (.ref a1), .val (.ref a2), .val (.ref a2)] [(.int (0 : Int32))])) _
            refine XS.ifYes X86.here hx rfl (pc0 := 61) (pc' := 79) rfl (hb hby d10_61) rfl ((if0 _ _).trans (teq rfl).1) (by decide) (by decide) ?_
            show Steps p.tables e below (T86.setTop (mkF m 79 #[.val (.ref a1), .val (.ref a2), .val (.ref a2)] [])) _
            refine XS.iconst X86.here hx rfl (hb hby d10_79) ?_
            show Steps p.tables e below (T86.setTop (mkF m 80 #[.val (.ref a1), .val (.ref a2), .val (.ref a2)] [(.int (0 : Int32))])) _
            exact retN X86 hx (t := .boolean) hret0 (by simp) (hb hby d10_80) hr
          · show Q9 (cs1 = cs2 ∧ i1 = i2 ∧ j1 = j2 ∧ ds1 = ds2 ∧ k1 = k2) h0 n0 _ T86.heap _
            rw [eh86]
            exact ⟨0, rfl, Or.inr ⟨rfl, fun q => q4 q.2.2.2.1⟩, N86, rfl⟩
      · skip
        obtain ⟨fs, hr, hrun, hended, hW, hsame⟩ := X82.leave (v := some (.int (0 : Int32))) (fun h => by rw [hret0] at h; cases h)
        refine ⟨_, _, pre0 _ ?_, hrun, hended, _, _, rfl, ?_, ⟨_, rfl⟩, hW, hsame.mono (by decide) (by decide)⟩
        · show Steps p.tables e below (s₁.setTop (mkF m 0 #[.val (.ref a1), .val (.ref a2), .unset] [])) _
          refine XS.aloadN X0.here hx rfl (hb hby d10_0) rfl rfl ?_
          show Steps p.tables e below (s₁.setTop (mkF m 1 #[.val (.ref a1), .val (.ref a2), .unset] [(.ref a2)])) _
          refine st73 _ ?_
          show Steps p.tables e below (T73.setTop (mkF m 4 #[.val (.ref a1), .val (.ref a2), .unset] [(.int (1 : Int32))])) _
          refine XS.ifYes X73.here hx rfl (pc0 := 4) (pc' := 9) rfl (hb hby d10_4) rfl ((if0 _ _).trans (feq (by decide)).2) (by decide) (by decide) ?_
          show Steps p.tables e below (T73.setTop (mkF m 9 #[.val (.ref a1), .val (.ref a2), .unset] [])) _
          refine XS.aloadN X73.here hx rfl (hb hby d10_9) rfl rfl ?_
          show Steps p.tables e below (T73.setTop (mkF m 10 #[.val (.ref a1), .val (.ref a2), .unset] [(.ref a2)])) _
          refine st74 _ ?_
          show Steps p.tables e below (T74.setTop (mkF m 13 #[.val (.ref a1), .val (.ref a2), .unset] [(.ref a2)])) _
          refine XS.astoreN X74.here hx rfl (hb hby d10_13) rfl rfl (l' := #[.val (.ref a1), .val (.ref a2), .val (.ref a2)]) rfl ?_
          show Steps p.tables e below (T74.setTop (mkF m 14 #[.val (.ref a1), .val (.ref a2), .val (.ref a2)] [])) _
          refine XS.aloadN X74.here hx rfl (hb hby d10_14) rfl rfl ?_
          show Steps p.tables e below (T74.setTop (mkF m 15 #[.val (.ref a1), .val (.ref a2), .val (.ref a2)] [(.ref a1)])) _
          refine st75 _ ?_
          show Steps p.tables e below (T75.setTop (mkF m 18 #[.val (.ref a1), .val (.ref a2), .val (.ref a2)] [(.ref s1)])) _
          refine XS.aloadN X75.here hx rfl (hb hby d10_18) rfl rfl ?_
          show Steps p.tables e below (T75.setTop (mkF m 19 #[.val (.ref a1), .val (.ref a2), .val (.ref a2)] [(.ref a2), (.ref s1)])) _
          refine st76 _ ?_
          show Steps p.tables e below (T76.setTop (mkF m 22 #[.val (.ref a1), .val (.ref a2), .val (.ref a2)] [(.ref s2), (.ref s1)])) _
          refine st78.trans ?_
          show Steps p.tables e below (T78.setTop (mkF m 25 #[.val (.ref a1), .val (.ref a2), .val (.ref a2)] [(.int (1 : Int32))])) _
          refine XS.ifNo X78.here hx rfl (hb hby d10_25) rfl ((if0 _ _).trans (feq (by decide)).1) ?_
          show Steps p.tables e below (T78.setTop (mkF m 28 #[.val (.ref a1), .val (.ref a2), .val (.ref a2)] [])) _
          refine XS.aloadN X78.here hx rfl (hb hby d10_28) rfl rfl ?_
          show Steps p.tables e below (T78.setTop (mkF m 29 #[.val (.ref a1), .val (.ref a2), .val (.ref a2)] [(.ref a1)])) _
          refine st79 _ ?_
          show Steps p.tables e below (T79.setTop (mkF m 32 #[.val (.ref a1), .val (.ref a2), .val (.ref a2)] [(.int i1)])) _
          refine XS.aloadN X79.here hx rfl (hb hby d10_32) rfl rfl ?_
          show Steps p.tables e below (T79.setTop (mkF m 33 #[.val (.ref a1), .val (.ref a2), .val (.ref a2)] [(.ref a2), (.int i1)])) _
          refine st80 _ ?_
          show Steps p.tables e below (T80.setTop (mkF m 36 #[.val (.ref a1), .val (.ref a2), .val (.ref a2)] [(.int i2), (.int i1)])) _
          refine XS.icmpNo X80.here hx rfl (hb hby d10_36) rfl (teq q2).2 ?_
          show Steps p.tables e below (T80.setTop (mkF m 39 #[.val (.ref a1), .val (.ref a2), .val (.ref a2)] [])) _
          refine XS.aloadN X80.here hx rfl (hb hby d10_39) rfl rfl ?_
          show Steps p.tables e below (T80.setTop (mkF m 40 #[.val (.ref a1), .val (.ref a2), .val (.ref a2)] [(.ref a1)])) _
          refine st81 _ ?_
          show Steps p.tables e below (T81.setTop (mkF m 43 #[.val (.ref a1), .val (.ref a2), .val (.ref a2)] [(.int j1)])) _
          refine XS.aloadN X81.here hx rfl (hb hby d10_43) rfl rfl ?_
          show Steps p.tables e below (T81.setTop (mkF m 44 #[.val (.ref a1), .val (.ref a2), .val (.ref a2)] [(.ref a2), (.int j1)])) _
          refine st82 _ ?_
          show Steps p.tables e below (T82.setTop (mkF m 47 #[.val (.ref a1), .val (.ref a2), .val (.ref a2)] [(.int j2), (.int j1)])) _
          refine XS.icmpYes X82.here hx rfl (pc0 := 47) (pc' := 79) rfl (hb hby d10_47) rfl (feq q3).2 (by decide) (by decide) ?_
          show Steps p.tables e below (T82.setTop (mkF m 79 #[.val (.ref a1), .val (.ref a2), .val (.ref a2)] [])) _
          refine XS.iconst X82.here hx rfl (hb hby d10_79) ?_
          show Steps p.tables e below (T82.setTop (mkF m 80 #[.val (.ref a1), .val (.ref a2), .val (.ref a2)] [(.int (0 : Int32))])) _
          exact retN X82 hx (t := .boolean) hret0 (by simp) (hb hby d10_80) hr
        · show Q9 (cs1 = cs2 ∧ i1 = i2 ∧ j1 = j2 ∧ ds1 = ds2 ∧ k1 = k2) h0 n0 _ T82.heap _
          rw [e82]
          exact ⟨0, rfl, Or.inr ⟨rfl, fun q => q3 q.2.2.1⟩, N78, rfl⟩
    · skip
      obtain ⟨fs, hr, hrun, hended, hW, hsame⟩ := X80.leave (v := some (.int (0 : Int32))) (fun h => by rw [hret0] at h; cases h)
      refine ⟨_, _, pre0 _ ?_, hrun, hended, _, _, rfl, ?_, ⟨_, rfl⟩, hW, hsame.mono (by decide) (by decide)⟩
      · show Steps p.tables e below (s₁.setTop (mkF m 0 #[.val (.ref a1), .val (.ref a2), .unset] [])) _
        refine XS.aloadN X0.here hx rfl (hb hby d10_0) rfl rfl ?_
        show Steps p.tables e below (s₁.setTop (mkF m 1 #[.val (.ref a1), .val (.ref a2), .unset] [(.ref a2)])) _
        refine st73 _ ?_
        show Steps p.tables e below (T73.setTop (mkF m 4 #[.val (.ref a1), .val (.ref a2), .unset] [(.int (1 : Int32))])) _
        refine XS.ifYes X73.here hx rfl (pc0 := 4) (pc' := 9) rfl (hb hby d10_4) rfl ((if0 _ _).trans (feq (by decide)).2) (by decide) (by decide) ?_
        show Steps p.tables e below (T73.setTop (mkF m 9 #[.val (.ref a1), .val (.ref a2), .unset] [])) _
        refine XS.aloadN X73.here hx rfl (hb hby d10_9) rfl rfl ?_
        show Steps p.tables e below (T73.setTop (mkF m 10 #[.val (.ref a1), .val (.ref a2), .unset] [(.ref a2)])) _
        refine st74 _ ?_
        show Steps p.tables e below (T74.setTop (mkF m 13 #[.val (.ref a1), .val (.ref a2), .unset] [(.ref a2)])) _
        refine XS.astoreN X74.here hx rfl (hb hby d10_13) rfl rfl (l' := #[.val (.ref a1), .val (.ref a2), .val (.ref a2)]) rfl ?_
        show Steps p.tables e below (T74.setTop (mkF m 14 #[.val (.ref a1), .val (.ref a2), .val (.ref a2)] [])) _
        refine XS.aloadN X74.here hx rfl (hb hby d10_14) rfl rfl ?_
        show Steps p.tables e below (T74.setTop (mkF m 15 #[.val (.ref a1), .val (.ref a2), .val (.ref a2)] [(.ref a1)])) _
        refine st75 _ ?_
        show Steps p.tables e below (T75.setTop (mkF m 18 #[.val (.ref a1), .val (.ref a2), .val (.ref a2)] [(.ref s1)])) _
        refine XS.aloadN X75.here hx rfl (hb hby d10_18) rfl rfl ?_
        show Steps p.tables e below (T75.setTop (mkF m 19 #[.val (.ref a1), .val (.ref a2), .val (.ref a2)] [(.ref a2), (.ref s1)])) _
        refine st76 _ ?_
        show Steps p.tables e below (T76.setTop (mkF m 22 #[.val (.ref a1), .val (.ref a2), .val (.ref a2)] [(.ref s2), (.ref s1)])) _
        refine st78.trans ?_
        show Steps p.tables e below (T78.setTop (mkF m 25 #[.val (.ref a1), .val (.ref a2), .val (.ref a2)] [(.int (1 : Int32))])) _
        refine XS.ifNo X78.here hx rfl (hb hby d10_25) rfl ((if0 _ _).trans (feq (by decide)).1) ?_
        show Steps p.tables e below (T78.setTop (mkF m 28 #[.val (.ref a1), .val (.ref a2), .val (.ref a2)] [])) _
        refine XS.aloadN X78.here hx rfl (hb hby d10_28) rfl rfl ?_
        show Steps p.tables e below (T78.setTop (mkF m 29 #[.val (.ref a1), .val (.ref a2), .val (.ref a2)] [(.ref a1)])) _
        refine st79 _ ?_
        show Steps p.tables e below (T79.setTop (mkF m 32 #[.val (.ref a1), .val (.ref a2), .val (.ref a2)] [(.int i1)])) _
        refine XS.aloadN X79.here hx rfl (hb hby d10_32) rfl rfl ?_
        show Steps p.tables e below (T79.setTop (mkF m 33 #[.val (.ref a1), .val (.ref a2), .val (.ref a2)] [(.ref a2), (.int i1)])) _
        refine st80 _ ?_
        show Steps p.tables e below (T80.setTop (mkF m 36 #[.val (.ref a1), .val (.ref a2), .val (.ref a2)] [(.int i2), (.int i1)])) _
        refine XS.icmpYes X80.here hx rfl (pc0 := 36) (pc' := 79) rfl (hb hby d10_36) rfl (feq q2).2 (by decide) (by decide) ?_
        show Steps p.tables e below (T80.setTop (mkF m 79 #[.val (.ref a1), .val (.ref a2), .val (.ref a2)] [])) _
        refine XS.iconst X80.here hx rfl (hb hby d10_79) ?_
        show Steps p.tables e below (T80.setTop (mkF m 80 #[.val (.ref a1), .val (.ref a2), .val (.ref a2)] [(.int (0 : Int32))])) _
        exact retN X80 hx (t := .boolean) hret0 (by simp) (hb hby d10_80) hr
      · show Q9 (cs1 = cs2 ∧ i1 = i2 ∧ j1 = j2 ∧ ds1 = ds2 ∧ k1 = k2) h0 n0 _ T80.heap _
        rw [e80]
        exact ⟨0, rfl, Or.inr ⟨rfl, fun q => q2 q.2.1⟩, N78, rfl⟩
  · skip
    obtain ⟨fs, hr, hrun, hended, hW, hsame⟩ := X78.leave (v := some (.int (0 : Int32))) (fun h => by rw [hret0] at h; cases h)
    refine ⟨_, _, pre0 _ ?_, hrun, hended, _, _, rfl, ?_, ⟨_, rfl⟩, hW, hsame.mono (by decide) (by decide)⟩
    · show Steps p.tables e below (s₁.setTop (mkF m 0 #[.val (.ref a1), .val (.ref a2), .unset] [])) _
      refine XS.aloadN X0.here hx rfl (hb hby d10_0) rfl rfl ?_
      show Steps p.tables e below (s₁.setTop (mkF m 1 #[.val (.ref a1), .val (.ref a2), .unset] [(.ref a2)])) _
      refine st73 _ ?_
      show Steps p.tables e below (T73.setTop (mkF m 4 #[.val (.ref a1), .val (.ref a2), .unset] [(.int (1 : Int32))])) _
      refine XS.ifYes X73.here hx rfl (pc0 := 4) (pc' := 9) rfl (hb hby d10_4) rfl ((if0 _ _).trans (feq (by decide)).2) (by decide) (by decide) ?_
      show Steps p.tables e below (T73.setTop (mkF m 9 #[.val (.ref a1), .val (.ref a2), .unset] [])) _
      refine XS.aloadN X73.here hx rfl (hb hby d10_9) rfl rfl ?_
      show Steps p.tables e below (T73.setTop (mkF m 10 #[.val (.ref a1), .val (.ref a2), .unset] [(.ref a2)])) _
      refine st74 _ ?_
      show Steps p.tables e below (T74.setTop (mkF m 13 #[.val (.ref a1), .val (.ref a2), .unset] [(.ref a2)])) _
      refine XS.astoreN X74.here hx rfl (hb hby d10_13) rfl rfl (l' := #[.val (.ref a1), .val (.ref a2), .val (.ref a2)]) rfl ?_
      show Steps p.tables e below (T74.setTop (mkF m 14 #[.val (.ref a1), .val (.ref a2), .val (.ref a2)] [])) _
      refine XS.aloadN X74.here hx rfl (hb hby d10_14) rfl rfl ?_
      show Steps p.tables e below (T74.setTop (mkF m 15 #[.val (.ref a1), .val (.ref a2), .val (.ref a2)] [(.ref a1)])) _
      refine st75 _ ?_
      show Steps p.tables e below (T75.setTop (mkF m 18 #[.val (.ref a1), .val (.ref a2), .val (.ref a2)] [(.ref s1)])) _
      refine XS.aloadN X75.here hx rfl (hb hby d10_18) rfl rfl ?_
      show Steps p.tables e below (T75.setTop (mkF m 19 #[.val (.ref a1), .val (.ref a2), .val (.ref a2)] [(.ref a2), (.ref s1)])) _
      refine st76 _ ?_
      show Steps p.tables e below (T76.setTop (mkF m 22 #[.val (.ref a1), .val (.ref a2), .val (.ref a2)] [(.ref s2), (.ref s1)])) _
      refine st78.trans ?_
      show Steps p.tables e below (T78.setTop (mkF m 25 #[.val (.ref a1), .val (.ref a2), .val (.ref a2)] [(.int (0 : Int32))])) _
      refine XS.ifYes X78.here hx rfl (pc0 := 25) (pc' := 79) rfl (hb hby d10_25) rfl ((if0 _ _).trans (teq rfl).1) (by decide) (by decide) ?_
      show Steps p.tables e below (T78.setTop (mkF m 79 #[.val (.ref a1), .val (.ref a2), .val (.ref a2)] [])) _
      refine XS.iconst X78.here hx rfl (hb hby d10_79) ?_
      show Steps p.tables e below (T78.setTop (mkF m 80 #[.val (.ref a1), .val (.ref a2), .val (.ref a2)] [(.int (0 : Int32))])) _
      exact retN X78 hx (t := .boolean) hret0 (by simp) (hb hby d10_80) hr
    · show Q9 (cs1 = cs2 ∧ i1 = i2 ∧ j1 = j2 ∧ ds1 = ds2 ∧ k1 = k2) h0 n0 _ T78.heap _
      rw [eh78]
      exact ⟨0, rfl, Or.inr ⟨rfl, fun q => q1 q.1⟩, N78, rfl⟩
def Q0 (n0 : Nat) (v : Option Value) (h : Heap) (L : List Loc) : Prop := v = some (.int 1) ∧ Fr n0 L
theorem own_pn_rm0 : plainName "com/example/ample_search/amplesearch/analysis/TokenEqualsPinLaw" = true := by first | (simp [plainName, overriddenIn]; done) | decide +kernel
theorem own_ef_rm0 (m : MethodId) (p0 : Int64) (p1 : Int64) (p2 : Int32) (p3 : Int32) (p4 : Int32) (p5 : Int32) : entryFrame m #[(.long p0), (.long p1), (.int p2), (.int p3), (.int p4), (.int p5)] maxLocals = (mkF m 0 #[.val (.long p0), .second, .val (.long p1), .second, .val (.int p2), .val (.int p3), .val (.int p4), .val (.int p5), .unset, .unset, .unset, .unset, .unset, .unset, .unset, .unset, .unset, .unset, .unset, .unset, .unset, .unset, .unset, .unset, .unset, .unset, .unset, .unset, .unset, .unset, .unset, .unset, .unset] []) := by first | (simp [entryFrame, mkF, argsToLocals, Value.category, maxLocals]; done) | rfl
set_option maxRecDepth 65536 in
set_option maxHeartbeats 40000000 in
theorem rm0 (l : Launch) (Z : State) (a0 : Array Value) (hw : ∀ d ∈ tables_1, d.before a0 Z = true) (ws : List Jvm.Cond) (p0 : Int64) (p1 : Int64) (p2 : Int32) (p3 : Int32) (p4 : Int32) (p5 : Int32) (G1 : Int32) (h0 : Heap) (n0 : Nat) (Z0 : n0 ≤ h0.size) (O2 : Sta Z Z.heap "java/lang/String" "COMPACT_STRINGS" "Z" (.int G1)) (P5 : ¬ (G1 = (0 : Int32))) (X00 : Old Z n0 h0) :
    MetFree l x (head1 (Jvm.Cond.code x code maxLocals ret :: ws) room_1) (fun a U => a = #[(.long p0), (.long p1), (.int p2), (.int p3), (.int p4), (.int p5)] ∧ Z.Warmed39 U.vm ∧ U.heap = h0) (fun _ _ _ _ _ => True) (fun _ U o U' => ∃ v L, o = .returned v ∧ Q0 n0 v U'.heap L ∧ FrameEnd U o U' L 40 192) := by
  refine MetFree.of_bodySF (plainFor_of_name own_pn_rm0) hisR ?_
  intro p e s m args below meth c s₁ Bd hml0 hP hK
  obtain ⟨hargs, hZ, hh⟩ := hP
  have hx := Bd.exec
  have hby := Bd.bytes
  have hml : c.maxLocals = 33 := hml0
  have hown : s.vm.findClass "com/example/ample_search/amplesearch/analysis/TokenEqualsPinLaw" = some m.cls := findClass_of_methodNamed Bd.named
  have hnm := (name_of_methodNamed Bd.named Bd.method).1
  have hlock : meth.locks = false := Bd.notSynchronized
  have hret0 := Bd.returns
  have X0 : Stand p l e room_1 s m args below meth c s₁ [] 0 0 := Stand.of_body Bd
  have e0 : s₁.heap = h0 := by rw [← hh, Bd.state]; rfl
  have N0 := Fr.nil n0
  have pre0 : ∀ t, Steps p.tables e below (s₁.setTop (mkF m 0 #[.val (.long p0), .second, .val (.long p1), .second, .val (.int p2), .val (.int p3), .val (.int p4), .val (.int p5), .unset, .unset, .unset, .unset, .unset, .unset, .unset, .unset, .unset, .unset, .unset, .unset, .unset, .unset, .unset, .unset, .unset, .unset, .unset, .unset, .unset, .unset, .unset, .unset, .unset] [])) t → Steps p.tables e below (s₁.setTop (entryFrame m args maxLocals)) t := fun t k => castTop (by rw [hargs]; exact own_ef_rm0 m p0 p1 p2 p3 p4 p5) k
  clear Bd
  obtain ⟨c8, st89⟩ : ∃ (c8 : Int32), ∀ target, Steps p.tables e below (s₁.setTop (mkF m 12 #[.val (.long p0), .second, .val (.long p1), .second, .val (.int p2), .val (.int p3), .val (.int p4), .val (.int p5), .unset, .unset, .unset, .unset, .unset, .unset, .unset, .unset, .unset, .unset, .unset, .unset, .unset, .unset, .unset, .unset, .unset, .unset, .unset, .unset, .unset, .unset, .unset, .unset, .unset] [(.int c8)])) target → Steps p.tables e below (s₁.setTop (mkF m 0 #[.val (.long p0), .second, .val (.long p1), .second, .val (.int p2), .val (.int p3), .val (.int p4), .val (.int p5), .unset, .unset, .unset, .unset, .unset, .unset, .unset, .unset, .unset, .unset, .unset, .unset, .unset, .unset, .unset, .unset, .unset, .unset, .unset, .unset, .unset, .unset, .unset, .unset, .unset] [])) target := by
    by_cases hc : (p5 &&& (1 : Int32)) = (0 : Int32)
    · skip
      refine ⟨(0 : Int32), fun target hk => ?_⟩
      show Steps p.tables e below (s₁.setTop (mkF m 0 #[.val (.long p0), .second, .val (.long p1), .second, .val (.int p2), .val (.int p3), .val (.int p4), .val (.int p5), .unset, .unset, .unset, .unset, .unset, .unset, .unset, .unset, .unset, .unset, .unset, .unset, .unset, .unset, .unset, .unset, .unset, .unset, .unset, .unset, .unset, .unset, .unset, .unset, .unset] [])) _
      refine XS.iload X0.here hx rfl (hb hby at_0) rfl ?_
      show Steps p.tables e below (s₁.setTop (mkF m 2 #[.val (.long p0), .second, .val (.long p1), .second, .val (.int p2), .val (.int p3), .val (.int p4), .val (.int p5), .unset, .unset, .unset, .unset, .unset, .unset, .unset, .unset, .unset, .unset, .unset, .unset, .unset, .unset, .unset, .unset, .unset, .unset, .unset, .unset, .unset, .unset, .unset, .unset, .unset] [(.int p5)])) _
      refine XS.iconst X0.here hx rfl (hb hby at_2) ?_
      show Steps p.tables e below (s₁.setTop (mkF m 3 #[.val (.long p0), .second, .val (.long p1), .second, .val (.int p2), .val (.int p3), .val (.int p4), .val (.int p5), .unset, .unset, .unset, .unset, .unset, .unset, .unset, .unset, .unset, .unset, .unset, .unset, .unset, .unset, .unset, .unset, .unset, .unset, .unset, .unset, .unset, .unset, .unset, .unset, .unset] [(.int (1 : Int32)), (.int p5)])) _
      refine XS.iand X0.here hx rfl (hb hby at_3) rfl ?_
      show Steps p.tables e below (s₁.setTop (mkF m 4 #[.val (.long p0), .second, .val (.long p1), .second, .val (.int p2), .val (.int p3), .val (.int p4), .val (.int p5), .unset, .unset, .unset, .unset, .unset, .unset, .unset, .unset, .unset, .unset, .unset, .unset, .unset, .unset, .unset, .unset, .unset, .unset, .unset, .unset, .unset, .unset, .unset, .unset, .unset] [(.int (p5 &&& (1 : Int32)))])) _
      refine XS.ifYes X0.here hx rfl (pc0 := 4) (pc' := 11) rfl (hb hby at_4) rfl ((if0 _ _).trans (teq hc).1) (by decide) (by decide) ?_
      show Steps p.tables e below (s₁.setTop (mkF m 11 #[.val (.long p0), .second, .val (.long p1), .second, .val (.int p2), .val (.int p3), .val (.int p4), .val (.int p5), .unset, .unset, .unset, .unset, .unset, .unset, .unset, .unset, .unset, .unset, .unset, .unset, .unset, .unset, .unset, .unset, .unset, .unset, .unset, .unset, .unset, .unset, .unset, .unset, .unset] [])) _
      refine XS.iconst X0.here hx rfl (hb hby at_11) ?_
      exact hk
    · skip
      refine ⟨(1 : Int32), fun target hk => ?_⟩
      show Steps p.tables e below (s₁.setTop (mkF m 0 #[.val (.long p0), .second, .val (.long p1), .second, .val (.int p2), .val (.int p3), .val (.int p4), .val (.int p5), .unset, .unset, .unset, .unset, .unset, .unset, .unset, .unset, .unset, .unset, .unset, .unset, .unset, .unset, .unset, .unset, .unset, .unset, .unset, .unset, .unset, .unset, .unset, .unset, .unset] [])) _
      refine XS.iload X0.here hx rfl (hb hby at_0) rfl ?_
      show Steps p.tables e below (s₁.setTop (mkF m 2 #[.val (.long p0), .second, .val (.long p1), .second, .val (.int p2), .val (.int p3), .val (.int p4), .val (.int p5), .unset, .unset, .unset, .unset, .unset, .unset, .unset, .unset, .unset, .unset, .unset, .unset, .unset, .unset, .unset, .unset, .unset, .unset, .unset, .unset, .unset, .unset, .unset, .unset, .unset] [(.int p5)])) _
      refine XS.iconst X0.here hx rfl (hb hby at_2) ?_
      show Steps p.tables e below (s₁.setTop (mkF m 3 #[.val (.long p0), .second, .val (.long p1), .second, .val (.int p2), .val (.int p3), .val (.int p4), .val (.int p5), .unset, .unset, .unset, .unset, .unset, .unset, .unset, .unset, .unset, .unset, .unset, .unset, .unset, .unset, .unset, .unset, .unset, .unset, .unset, .unset, .unset, .unset, .unset, .unset, .unset] [(.int (1 : Int32)), (.int p5)])) _
      refine XS.iand X0.here hx rfl (hb hby at_3) rfl ?_
      show Steps p.tables e below (s₁.setTop (mkF m 4 #[.val (.long p0), .second, .val (.long p1), .second, .val (.int p2), .val (.int p3), .val (.int p4), .val (.int p5), .unset, .unset, .unset, .unset, .unset, .unset, .unset, .unset, .unset, .unset, .unset, .unset, .unset, .unset, .unset, .unset, .unset, .unset, .unset, .unset, .unset, .unset, .unset, .unset, .unset] [(.int (p5 &&& (1 : Int32)))])) _
      refine XS.ifNo X0.here hx rfl (hb hby at_4) rfl ((if0 _ _).trans (feq hc).1) ?_
      show Steps p.tables e below (s₁.setTop (mkF m 7 #[.val (.long p0), .second, .val (.long p1), .second, .val (.int p2), .val (.int p3), .val (.int p4), .val (.int p5), .unset, .unset, .unset, .unset, .unset, .unset, .unset, .unset, .unset, .unset, .unset, .unset, .unset, .unset, .unset, .unset, .unset, .unset, .unset, .unset, .unset, .unset, .unset, .unset, .unset] [])) _
      refine XS.iconst X0.here hx rfl (hb hby at_7) ?_
      show Steps p.tables e below (s₁.setTop (mkF m 8 #[.val (.long p0), .second, .val (.long p1), .second, .val (.int p2), .val (.int p3), .val (.int p4), .val (.int p5), .unset, .unset, .unset, .unset, .unset, .unset, .unset, .unset, .unset, .unset, .unset, .unset, .unset, .unset, .unset, .unset, .unset, .unset, .unset, .unset, .unset, .unset, .unset, .unset, .unset] [(.int (1 : Int32))])) _
      refine XS.goto X0.here hx rfl (pc0 := 8) (pc' := 12) rfl (hb hby at_8) (by decide) (by decide) ?_
      exact hk
  obtain ⟨c9, st90⟩ : ∃ (c9 : Int32), ∀ target, Steps p.tables e below (s₁.setTop (mkF m 27 #[.val (.long p0), .second, .val (.long p1), .second, .val (.int p2), .val (.int p3), .val (.int p4), .val (.int p5), .val (.int c8), .unset, .unset, .unset, .unset, .unset, .unset, .unset, .unset, .unset, .unset, .unset, .unset, .unset, .unset, .unset, .unset, .unset, .unset, .unset, .unset, .unset, .unset, .unset, .unset] [(.int c9)])) target → Steps p.tables e below (s₁.setTop (mkF m 14 #[.val (.long p0), .second, .val (.long p1), .second, .val (.int p2), .val (.int p3), .val (.int p4), .val (.int p5), .val (.int c8), .unset, .unset, .unset, .unset, .unset, .unset, .unset, .unset, .unset, .unset, .unset, .unset, .unset, .unset, .unset, .unset, .unset, .unset, .unset, .unset, .unset, .unset, .unset, .unset] [])) target := by
    by_cases hc : (p5 &&& (8 : Int32)) = (0 : Int32)
    · skip
      refine ⟨(0 : Int32), fun target hk => ?_⟩
      show Steps p.tables e below (s₁.setTop (mkF m 14 #[.val (.long p0), .second, .val (.long p1), .second, .val (.int p2), .val (.int p3), .val (.int p4), .val (.int p5), .val (.int c8), .unset, .unset, .unset, .unset, .unset, .unset, .unset, .unset, .unset, .unset, .unset, .unset, .unset, .unset, .unset, .unset, .unset, .unset, .unset, .unset, .unset, .unset, .unset, .unset] [])) _
      refine XS.iload X0.here hx rfl (hb hby at_14) rfl ?_
      show Steps p.tables e below (s₁.setTop (mkF m 16 #[.val (.long p0), .second, .val (.long p1), .second, .val (.int p2), .val (.int p3), .val (.int p4), .val (.int p5), .val (.int c8), .unset, .unset, .unset, .unset, .unset, .unset, .unset, .unset, .unset, .unset, .unset, .unset, .unset, .unset, .unset, .unset, .unset, .unset, .unset, .unset, .unset, .unset, .unset, .unset] [(.int p5)])) _
      refine XS.bipush X0.here hx rfl (hb hby at_16) ?_
      show Steps p.tables e below (s₁.setTop (mkF m 18 #[.val (.long p0), .second, .val (.long p1), .second, .val (.int p2), .val (.int p3), .val (.int p4), .val (.int p5), .val (.int c8), .unset, .unset, .unset, .unset, .unset, .unset, .unset, .unset, .unset, .unset, .unset, .unset, .unset, .unset, .unset, .unset, .unset, .unset, .unset, .unset, .unset, .unset, .unset, .unset] [(.int (8 : Int32)), (.int p5)])) _
      refine XS.iand X0.here hx rfl (hb hby at_18) rfl ?_
      show Steps p.tables e below (s₁.setTop (mkF m 19 #[.val (.long p0), .second, .val (.long p1), .second, .val (.int p2), .val (.int p3), .val (.int p4), .val (.int p5), .val (.int c8), .unset, .unset, .unset, .unset, .unset, .unset, .unset, .unset, .unset, .unset, .unset, .unset, .unset, .unset, .unset, .unset, .unset, .unset, .unset, .unset, .unset, .unset, .unset, .unset] [(.int (p5 &&& (8 : Int32)))])) _
      refine XS.ifYes X0.here hx rfl (pc0 := 19) (pc' := 26) rfl (hb hby at_19) rfl ((if0 _ _).trans (teq hc).1) (by decide) (by decide) ?_
      show Steps p.tables e below (s₁.setTop (mkF m 26 #[.val (.long p0), .second, .val (.long p1), .second, .val (.int p2), .val (.int p3), .val (.int p4), .val (.int p5), .val (.int c8), .unset, .unset, .unset, .unset, .unset, .unset, .unset, .unset, .unset, .unset, .unset, .unset, .unset, .unset, .unset, .unset, .unset, .unset, .unset, .unset, .unset, .unset, .unset, .unset] [])) _
      refine XS.iconst X0.here hx rfl (hb hby at_26) ?_
      exact hk
    · skip
      refine ⟨(1 : Int32), fun target hk => ?_⟩
      show Steps p.tables e below (s₁.setTop (mkF m 14 #[.val (.long p0), .second, .val (.long p1), .second, .val (.int p2), .val (.int p3), .val (.int p4), .val (.int p5), .val (.int c8), .unset, .unset, .unset, .unset, .unset, .unset, .unset, .unset, .unset, .unset, .unset, .unset, .unset, .unset, .unset, .unset, .unset, .unset, .unset, .unset, .unset, .unset, .unset, .unset] [])) _
      refine XS.iload X0.here hx rfl (hb hby at_14) rfl ?_
      show Steps p.tables e below (s₁.setTop (mkF m 16 #[.val (.long p0), .second, .val (.long p1), .second, .val (.int p2), .val (.int p3), .val (.int p4), .val (.int p5), .val (.int c8), .unset, .unset, .unset, .unset, .unset, .unset, .unset, .unset, .unset, .unset, .unset, .unset, .unset, .unset, .unset, .unset, .unset, .unset, .unset, .unset, .unset, .unset, .unset, .unset] [(.int p5)])) _
      refine XS.bipush X0.here hx rfl (hb hby at_16) ?_
      show Steps p.tables e below (s₁.setTop (mkF m 18 #[.val (.long p0), .second, .val (.long p1), .second, .val (.int p2), .val (.int p3), .val (.int p4), .val (.int p5), .val (.int c8), .unset, .unset, .unset, .unset, .unset, .unset, .unset, .unset, .unset, .unset, .unset, .unset, .unset, .unset, .unset, .unset, .unset, .unset, .unset, .unset, .unset, .unset, .unset, .unset] [(.int (8 : Int32)), (.int p5)])) _
      refine XS.iand X0.here hx rfl (hb hby at_18) rfl ?_
      show Steps p.tables e below (s₁.setTop (mkF m 19 #[.val (.long p0), .second, .val (.long p1), .second, .val (.int p2), .val (.int p3), .val (.int p4), .val (.int p5), .val (.int c8), .unset, .unset, .unset, .unset, .unset, .unset, .unset, .unset, .unset, .unset, .unset, .unset, .unset, .unset, .unset, .unset, .unset, .unset, .unset, .unset, .unset, .unset, .unset, .unset] [(.int (p5 &&& (8 : Int32)))])) _
      refine XS.ifNo X0.here hx rfl (hb hby at_19) rfl ((if0 _ _).trans (feq hc).1) ?_
      show Steps p.tables e below (s₁.setTop (mkF m 22 #[.val (.long p0), .second, .val (.long p1), .second, .val (.int p2), .val (.int p3), .val (.int p4), .val (.int p5), .val (.int c8), .unset, .unset, .unset, .unset, .unset, .unset, .unset, .unset, .unset, .unset, .unset, .unset, .unset, .unset, .unset, .unset, .unset, .unset, .unset, .unset, .unset, .unset, .unset, .unset] [])) _
      refine XS.iconst X0.here hx rfl (hb hby at_22) ?_
      show Steps p.tables e below (s₁.setTop (mkF m 23 #[.val (.long p0), .second, .val (.long p1), .second, .val (.int p2), .val (.int p3), .val (.int p4), .val (.int p5), .val (.int c8), .unset, .unset, .unset, .unset, .unset, .unset, .unset, .unset, .unset, .unset, .unset, .unset, .unset, .unset, .unset, .unset, .unset, .unset, .unset, .unset, .unset, .unset, .unset, .unset] [(.int (1 : Int32))])) _
      refine XS.goto X0.here hx rfl (pc0 := 23) (pc' := 27) rfl (hb hby at_23) (by decide) (by decide) ?_
      exact hk
  obtain ⟨c10, hc10, st91⟩ : ∃ (c10 : Int32), (c10 = 1 ∨ c10 = 2) ∧ ∀ target, Steps p.tables e below (s₁.setTop (mkF m 37 #[.val (.long p0), .second, .val (.long p1), .second, .val (.int p2), .val (.int p3), .val (.int p4), .val (.int p5), .val (.int c8), .val (.int c9), .unset, .unset, .unset, .unset, .unset, .unset, .unset, .unset, .unset, .unset, .unset, .unset, .unset, .unset, .unset, .unset, .unset, .unset, .unset, .unset, .unset, .unset, .unset] [(.int c10)])) target → Steps p.tables e below (s₁.setTop (mkF m 29 #[.val (.long p0), .second, .val (.long p1), .second, .val (.int p2), .val (.int p3), .val (.int p4), .val (.int p5), .val (.int c8), .val (.int c9), .unset, .unset, .unset, .unset, .unset, .unset, .unset, .unset, .unset, .unset, .unset, .unset, .unset, .unset, .unset, .unset, .unset, .unset, .unset, .unset, .unset, .unset, .unset] [])) target := by
    refine ⟨((((p5.toUInt32 >>> ((1 : Int32) &&& 31).toUInt32).toInt32) &&& (1 : Int32)) + (1 : Int32)), own_12 _, fun target hk => ?_⟩
    show Steps p.tables e below (s₁.setTop (mkF m 29 #[.val (.long p0), .second, .val (.long p1), .second, .val (.int p2), .val (.int p3), .val (.int p4), .val (.int p5), .val (.int c8), .val (.int c9), .unset, .unset, .unset, .unset, .unset, .unset, .unset, .unset, .unset, .unset, .unset, .unset, .unset, .unset, .unset, .unset, .unset, .unset, .unset, .unset, .unset, .unset, .unset] [])) _
    refine XS.iload X0.here hx rfl (hb hby at_29) rfl ?_
    show Steps p.tables e below (s₁.setTop (mkF m 31 #[.val (.long p0), .second, .val (.long p1), .second, .val (.int p2), .val (.int p3), .val (.int p4), .val (.int p5), .val (.int c8), .val (.int c9), .unset, .unset, .unset, .unset, .unset, .unset, .unset, .unset, .unset, .unset, .unset, .unset, .unset, .unset, .unset, .unset, .unset, .unset, .unset, .unset, .unset, .unset, .unset] [(.int p5)])) _
    refine XS.iconst X0.here hx rfl (hb hby at_31) ?_
    show Steps p.tables e below (s₁.setTop (mkF m 32 #[.val (.long p0), .second, .val (.long p1), .second, .val (.int p2), .val (.int p3), .val (.int p4), .val (.int p5), .val (.int c8), .val (.int c9), .unset, .unset, .unset, .unset, .unset, .unset, .unset, .unset, .unset, .unset, .unset, .unset, .unset, .unset, .unset, .unset, .unset, .unset, .unset, .unset, .unset, .unset, .unset] [(.int (1 : Int32)), (.int p5)])) _
    refine XS.iushr X0.here hx rfl (hb hby at_32) rfl ?_
    show Steps p.tables e below (s₁.setTop (mkF m 33 #[.val (.long p0), .second, .val (.long p1), .second, .val (.int p2), .val (.int p3), .val (.int p4), .val (.int p5), .val (.int c8), .val (.int c9), .unset, .unset, .unset, .unset, .unset, .unset, .unset, .unset, .unset, .unset, .unset, .unset, .unset, .unset, .unset, .unset, .unset, .unset, .unset, .unset, .unset, .unset, .unset] [(.int ((p5.toUInt32 >>> ((1 : Int32) &&& 31).toUInt32).toInt32))])) _
    refine XS.iconst X0.here hx rfl (hb hby at_33) ?_
    show Steps p.tables e below (s₁.setTop (mkF m 34 #[.val (.long p0), .second, .val (.long p1), .second, .val (.int p2), .val (.int p3), .val (.int p4), .val (.int p5), .val (.int c8), .val (.int c9), .unset, .unset, .unset, .unset, .unset, .unset, .unset, .unset, .unset, .unset, .unset, .unset, .unset, .unset, .unset, .unset, .unset, .unset, .unset, .unset, .unset, .unset, .unset] [(.int (1 : Int32)), (.int ((p5.toUInt32 >>> ((1 : Int32) &&& 31).toUInt32).toInt32))])) _
    refine XS.iand X0.here hx rfl (hb hby at_34) rfl ?_
    show Steps p.tables e below (s₁.setTop (mkF m 35 #[.val (.long p0), .second, .val (.long p1), .second, .val (.int p2), .val (.int p3), .val (.int p4), .val (.int p5), .val (.int c8), .val (.int c9), .unset, .unset, .unset, .unset, .unset, .unset, .unset, .unset, .unset, .unset, .unset, .unset, .unset, .unset, .unset, .unset, .unset, .unset, .unset, .unset, .unset, .unset, .unset] [(.int (((p5.toUInt32 >>> ((1 : Int32) &&& 31).toUInt32).toInt32) &&& (1 : Int32)))])) _
    refine XS.iconst X0.here hx rfl (hb hby at_35) ?_
    show Steps p.tables e below (s₁.setTop (mkF m 36 #[.val (.long p0), .second, .val (.long p1), .second, .val (.int p2), .val (.int p3), .val (.int p4), .val (.int p5), .val (.int c8), .val (.int c9), .unset, .unset, .unset, .unset, .unset, .unset, .unset, .unset, .unset, .unset, .unset, .unset, .unset, .unset, .unset, .unset, .unset, .unset, .unset, .unset, .unset, .unset, .unset] [(.int (1 : Int32)), (.int (((p5.toUInt32 >>> ((1 : Int32) &&& 31).toUInt32).toInt32) &&& (1 : Int32)))])) _
    refine XS.iadd X0.here hx rfl (hb hby at_36) rfl ?_
    exact hk
  obtain ⟨c11, hc11, st92⟩ : ∃ (c11 : Int32), (c11 = 1 ∨ c11 = 2) ∧ ∀ target, Steps p.tables e below (s₁.setTop (mkF m 47 #[.val (.long p0), .second, .val (.long p1), .second, .val (.int p2), .val (.int p3), .val (.int p4), .val (.int p5), .val (.int c8), .val (.int c9), .val (.int c10), .unset, .unset, .unset, .unset, .unset, .unset, .unset, .unset, .unset, .unset, .unset, .unset, .unset, .unset, .unset, .unset, .unset, .unset, .unset, .unset, .unset, .unset] [(.int c11)])) target → Steps p.tables e below (s₁.setTop (mkF m 39 #[.val (.long p0), .second, .val (.long p1), .second, .val (.int p2), .val (.int p3), .val (.int p4), .val (.int p5), .val (.int c8), .val (.int c9), .val (.int c10), .unset, .unset, .unset, .unset, .unset, .unset, .unset, .unset, .unset, .unset, .unset, .unset, .unset, .unset, .unset, .unset, .unset, .unset, .unset, .unset, .unset, .unset] [])) target := by
    refine ⟨((((p5.toUInt32 >>> ((2 : Int32) &&& 31).toUInt32).toInt32) &&& (1 : Int32)) + (1 : Int32)), own_12 _, fun target hk => ?_⟩
    show Steps p.tables e below (s₁.setTop (mkF m 39 #[.val (.long p0), .second, .val (.long p1), .second, .val (.int p2), .val (.int p3), .val (.int p4), .val (.int p5), .val (.int c8), .val (.int c9), .val (.int c10), .unset, .unset, .unset, .unset, .unset, .unset, .unset, .unset, .unset, .unset, .unset, .unset, .unset, .unset, .unset, .unset, .unset, .unset, .unset, .unset, .unset, .unset] [])) _
    refine XS.iload X0.here hx rfl (hb hby at_39) rfl ?_
    show Steps p.tables e below (s₁.setTop (mkF m 41 #[.val (.long p0), .second, .val (.long p1), .second, .val (.int p2), .val (.int p3), .val (.int p4), .val (.int p5), .val (.int c8), .val (.int c9), .val (.int c10), .unset, .unset, .unset, .unset, .unset, .unset, .unset, .unset, .unset, .unset, .unset, .unset, .unset, .unset, .unset, .unset, .unset, .unset, .unset, .unset, .unset, .unset] [(.int p5)])) _
    refine XS.iconst X0.here hx rfl (hb hby at_41) ?_
    show Steps p.tables e below (s₁.setTop (mkF m 42 #[.val (.long p0), .second, .val (.long p1), .second, .val (.int p2), .val (.int p3), .val (.int p4), .val (.int p5), .val (.int c8), .val (.int c9), .val (.int c10), .unset, .unset, .unset, .unset, .unset, .unset, .unset, .unset, .unset, .unset, .unset, .unset, .unset, .unset, .unset, .unset, .unset, .unset, .unset, .unset, .unset, .unset] [(.int (2 : Int32)), (.int p5)])) _
    refine XS.iushr X0.here hx rfl (hb hby at_42) rfl ?_
    show Steps p.tables e below (s₁.setTop (mkF m 43 #[.val (.long p0), .second, .val (.long p1), .second, .val (.int p2), .val (.int p3), .val (.int p4), .val (.int p5), .val (.int c8), .val (.int c9), .val (.int c10), .unset, .unset, .unset, .unset, .unset, .unset, .unset, .unset, .unset, .unset, .unset, .unset, .unset, .unset, .unset, .unset, .unset, .unset, .unset, .unset, .unset, .unset] [(.int ((p5.toUInt32 >>> ((2 : Int32) &&& 31).toUInt32).toInt32))])) _
    refine XS.iconst X0.here hx rfl (hb hby at_43) ?_
    show Steps p.tables e below (s₁.setTop (mkF m 44 #[.val (.long p0), .second, .val (.long p1), .second, .val (.int p2), .val (.int p3), .val (.int p4), .val (.int p5), .val (.int c8), .val (.int c9), .val (.int c10), .unset, .unset, .unset, .unset, .unset, .unset, .unset, .unset, .unset, .unset, .unset, .unset, .unset, .unset, .unset, .unset, .unset, .unset, .unset, .unset, .unset, .unset] [(.int (1 : Int32)), (.int ((p5.toUInt32 >>> ((2 : Int32) &&& 31).toUInt32).toInt32))])) _
    refine XS.iand X0.here hx rfl (hb hby at_44) rfl ?_
    show Steps p.tables e below (s₁.setTop (mkF m 45 #[.val (.long p0), .second, .val (.long p1), .second, .val (.int p2), .val (.int p3), .val (.int p4), .val (.int p5), .val (.int c8), .val (.int c9), .val (.int c10), .unset, .unset, .unset, .unset, .unset, .unset, .unset, .unset, .unset, .unset, .unset, .unset, .unset, .unset, .unset, .unset, .unset, .unset, .unset, .unset, .unset, .unset] [(.int (((p5.toUInt32 >>> ((2 : Int32) &&& 31).toUInt32).toInt32) &&& (1 : Int32)))])) _
    refine XS.iconst X0.here hx rfl (hb hby at_45) ?_
    show Steps p.tables e below (s₁.setTop (mkF m 46 #[.val (.long p0), .second, .val (.long p1), .second, .val (.int p2), .val (.int p3), .val (.int p4), .val (.int p5), .val (.int c8), .val (.int c9), .val (.int c10), .unset, .unset, .unset, .unset, .unset, .unset, .unset, .unset, .unset, .unset, .unset, .unset, .unset, .unset, .unset, .unset, .unset, .unset, .unset, .unset, .unset, .unset] [(.int (1 : Int32)), (.int (((p5.toUInt32 >>> ((2 : Int32) &&& 31).toUInt32).toInt32) &&& (1 : Int32)))])) _
    refine XS.iadd X0.here hx rfl (hb hby at_46) rfl ?_
    exact hk
  obtain ⟨c12, hc12, st93⟩ : ∃ (c12 : Int32), (own_B c12) ∧ ∀ target, Steps p.tables e below (s₁.setTop (mkF m 56 #[.val (.long p0), .second, .val (.long p1), .second, .val (.int p2), .val (.int p3), .val (.int p4), .val (.int p5), .val (.int c8), .val (.int c9), .val (.int c10), .val (.int c11), .unset, .unset, .unset, .unset, .unset, .unset, .unset, .unset, .unset, .unset, .unset, .unset, .unset, .unset, .unset, .unset, .unset, .unset, .unset, .unset, .unset] [(.int c12)])) target → Steps p.tables e below (s₁.setTop (mkF m 49 #[.val (.long p0), .second, .val (.long p1), .second, .val (.int p2), .val (.int p3), .val (.int p4), .val (.int p5), .val (.int c8), .val (.int c9), .val (.int c10), .val (.int c11), .unset, .unset, .unset, .unset, .unset, .unset, .unset, .unset, .unset, .unset, .unset, .unset, .unset, .unset, .unset, .unset, .unset, .unset, .unset, .unset, .unset] [])) target := by
    refine ⟨(((p0 &&& (255 : Int64)).toInt32).toUInt32.toUInt16.toUInt32.toInt32), own_l255 _, fun target hk => ?_⟩
    show Steps p.tables e below (s₁.setTop (mkF m 49 #[.val (.long p0), .second, .val (.long p1), .second, .val (.int p2), .val (.int p3), .val (.int p4), .val (.int p5), .val (.int c8), .val (.int c9), .val (.int c10), .val (.int c11), .unset, .unset, .unset, .unset, .unset, .unset, .unset, .unset, .unset, .unset, .unset, .unset, .unset, .unset, .unset, .unset, .unset, .unset, .unset, .unset, .unset] [])) _
    refine XS.lloadN X0.here hx rfl (hb hby at_49) rfl ?_
    show Steps p.tables e below (s₁.setTop (mkF m 50 #[.val (.long p0), .second, .val (.long p1), .second, .val (.int p2), .val (.int p3), .val (.int p4), .val (.int p5), .val (.int c8), .val (.int c9), .val (.int c10), .val (.int c11), .unset, .unset, .unset, .unset, .unset, .unset, .unset, .unset, .unset, .unset, .unset, .unset, .unset, .unset, .unset, .unset, .unset, .unset, .unset, .unset, .unset] [(.long p0)])) _
    refine X0.ldc2Long hx hown (mvT hZ (hw _ (List.mem_of_getElem? (i := 0) rfl))) (g := (mkF m 50 #[.val (.long p0), .second, .val (.long p1), .second, .val (.int p2), .val (.int p3), .val (.int p4), .val (.int p5), .val (.int c8), .val (.int c9), .val (.int c10), .val (.int c11), .unset, .unset, .unset, .unset, .unset, .unset, .unset, .unset, .unset, .unset, .unset, .unset, .unset, .unset, .unset, .unset, .unset, .unset, .unset, .unset, .unset] [(.long p0)])) rfl (hb hby at_50) _ ?_
    show Steps p.tables e below (s₁.setTop (mkF m 53 #[.val (.long p0), .second, .val (.long p1), .second, .val (.int p2), .val (.int p3), .val (.int p4), .val (.int p5), .val (.int c8), .val (.int c9), .val (.int c10), .val (.int c11), .unset, .unset, .unset, .unset, .unset, .unset, .unset, .unset, .unset, .unset, .unset, .unset, .unset, .unset, .unset, .unset, .unset, .unset, .unset, .unset, .unset] [(.long (255 : Int64)), (.long p0)])) _
    refine XS.land X0.here hx rfl (hb hby at_53) rfl ?_
    show Steps p.tables e below (s₁.setTop (mkF m 54 #[.val (.long p0), .second, .val (.long p1), .second, .val (.int p2), .val (.int p3), .val (.int p4), .val (.int p5), .val (.int c8), .val (.int c9), .val (.int c10), .val (.int c11), .unset, .unset, .unset, .unset, .unset, .unset, .unset, .unset, .unset, .unset, .unset, .unset, .unset, .unset, .unset, .unset, .unset, .unset, .unset, .unset, .unset] [(.long (p0 &&& (255 : Int64)))])) _
    refine XS.l2i X0.here hx rfl (hb hby at_54) rfl ?_
    show Steps p.tables e below (s₁.setTop (mkF m 55 #[.val (.long p0), .second, .val (.long p1), .second, .val (.int p2), .val (.int p3), .val (.int p4), .val (.int p5), .val (.int c8), .val (.int c9), .val (.int c10), .val (.int c11), .unset, .unset, .unset, .unset, .unset, .unset, .unset, .unset, .unset, .unset, .unset, .unset, .unset, .unset, .unset, .unset, .unset, .unset, .unset, .unset, .unset] [(.int ((p0 &&& (255 : Int64)).toInt32))])) _
    refine XS.i2c X0.here hx rfl (hb hby at_55) rfl ?_
    exact hk
  obtain ⟨c13, hc13, st94⟩ : ∃ (c13 : Int32), (own_B c13) ∧ ∀ target, Steps p.tables e below (s₁.setTop (mkF m 68 #[.val (.long p0), .second, .val (.long p1), .second, .val (.int p2), .val (.int p3), .val (.int p4), .val (.int p5), .val (.int c8), .val (.int c9), .val (.int c10), .val (.int c11), .val (.int c12), .unset, .unset, .unset, .unset, .unset, .unset, .unset, .unset, .unset, .unset, .unset, .unset, .unset, .unset, .unset, .unset, .unset, .unset, .unset, .unset] [(.int c13)])) target → Steps p.tables e below (s₁.setTop (mkF m 58 #[.val (.long p0), .second, .val (.long p1), .second, .val (.int p2), .val (.int p3), .val (.int p4), .val (.int p5), .val (.int c8), .val (.int c9), .val (.int c10), .val (.int c11), .val (.int c12), .unset, .unset, .unset, .unset, .unset, .unset, .unset, .unset, .unset, .unset, .unset, .unset, .unset, .unset, .unset, .unset, .unset, .unset, .unset, .unset] [])) target := by
    refine ⟨(((((p0.toUInt64 >>> ((8 : Int32) &&& 0x3f).toInt64.toUInt64).toInt64) &&& (255 : Int64)).toInt32).toUInt32.toUInt16.toUInt32.toInt32), own_l255 _, fun target hk => ?_⟩
    show Steps p.tables e below (s₁.setTop (mkF m 58 #[.val (.long p0), .second, .val (.long p1), .second, .val (.int p2), .val (.int p3), .val (.int p4), .val (.int p5), .val (.int c8), .val (.int c9), .val (.int c10), .val (.int c11), .val (.int c12), .unset, .unset, .unset, .unset, .unset, .unset, .unset, .unset, .unset, .unset, .unset, .unset, .unset, .unset, .unset, .unset, .unset, .unset, .unset, .unset] [])) _
    refine XS.lloadN X0.here hx rfl (hb hby at_58) rfl ?_
    show Steps p.tables e below (s₁.setTop (mkF m 59 #[.val (.long p0), .second, .val (.long p1), .second, .val (.int p2), .val (.int p3), .val (.int p4), .val (.int p5), .val (.int c8), .val (.int c9), .val (.int c10), .val (.int c11), .val (.int c12), .unset, .unset, .unset, .unset, .unset, .unset, .unset, .unset, .unset, .unset, .unset, .unset, .unset, .unset, .unset, .unset, .unset, .unset, .unset, .unset] [(.long p0)])) _
    refine XS.bipush X0.here hx rfl (hb hby at_59) ?_
    show Steps p.tables e below (s₁.setTop (mkF m 61 #[.val (.long p0), .second, .val (.long p1), .second, .val (.int p2), .val (.int p3), .val (.int p4), .val (.int p5), .val (.int c8), .val (.int c9), .val (.int c10), .val (.int c11), .val (.int c12), .unset, .unset, .unset, .unset, .unset, .unset, .unset, .unset, .unset, .unset, .unset, .unset, .unset, .unset, .unset, .unset, .unset, .unset, .unset, .unset] [(.int (8 : Int32)), (.long p0)])) _
    refine XS.lushr X0.here hx rfl (hb hby at_61) rfl ?_
    show Steps p.tables e below (s₁.setTop (mkF m 62 #[.val (.long p0), .second, .val (.long p1), .second, .val (.int p2), .val (.int p3), .val (.int p4), .val (.int p5), .val (.int c8), .val (.int c9), .val (.int c10), .val (.int c11), .val (.int c12), .unset, .unset, .unset, .unset, .unset, .unset, .unset, .unset, .unset, .unset, .unset, .unset, .unset, .unset, .unset, .unset, .unset, .unset, .unset, .unset] [(.long ((p0.toUInt64 >>> ((8 : Int32) &&& 0x3f).toInt64.toUInt64).toInt64))])) _
    refine X0.ldc2Long hx hown (mvT hZ (hw _ (List.mem_of_getElem? (i := 0) rfl))) (g := (mkF m 62 #[.val (.long p0), .second, .val (.long p1), .second, .val (.int p2), .val (.int p3), .val (.int p4), .val (.int p5), .val (.int c8), .val (.int c9), .val (.int c10), .val (.int c11), .val (.int c12), .unset, .unset, .unset, .unset, .unset, .unset, .unset, .unset, .unset, .unset, .unset, .unset, .unset, .unset, .unset, .unset, .unset, .unset, .unset, .unset] [(.long ((p0.toUInt64 >>> ((8 : Int32) &&& 0x3f).toInt64.toUInt64).toInt64))])) rfl (hb hby at_62) _ ?_
    show Steps p.tables e below (s₁.setTop (mkF m 65 #[.val (.long p0), .second, .val (.long p1), .second, .val (.int p2), .val (.int p3), .val (.int p4), .val (.int p5), .val (.int c8), .val (.int c9), .val (.int c10), .val (.int c11), .val (.int c12), .unset, .unset, .unset, .unset, .unset, .unset, .unset, .unset, .unset, .unset, .unset, .unset, .unset, .unset, .unset, .unset, .unset, .unset, .unset, .unset] [(.long (255 : Int64)), (.long ((p0.toUInt64 >>> ((8 : Int32) &&& 0x3f).toInt64.toUInt64).toInt64))])) _
    refine XS.land X0.here hx rfl (hb hby at_65) rfl ?_
    show Steps p.tables e below (s₁.setTop (mkF m 66 #[.val (.long p0), .second, .val (.long p1), .second, .val (.int p2), .val (.int p3), .val (.int p4), .val (.int p5), .val (.int c8), .val (.int c9), .val (.int c10), .val (.int c11), .val (.int c12), .unset, .unset, .unset, .unset, .unset, .unset, .unset, .unset, .unset, .unset, .unset, .unset, .unset, .unset, .unset, .unset, .unset, .unset, .unset, .unset] [(.long (((p0.toUInt64 >>> ((8 : Int32) &&& 0x3f).toInt64.toUInt64).toInt64) &&& (255 : Int64)))])) _
    refine XS.l2i X0.here hx rfl (hb hby at_66) rfl ?_
    show Steps p.tables e below (s₁.setTop (mkF m 67 #[.val (.long p0), .second, .val (.long p1), .second, .val (.int p2), .val (.int p3), .val (.int p4), .val (.int p5), .val (.int c8), .val (.int c9), .val (.int c10), .val (.int c11), .val (.int c12), .unset, .unset, .unset, .unset, .unset, .unset, .unset, .unset, .unset, .unset, .unset, .unset, .unset, .unset, .unset, .unset, .unset, .unset, .unset, .unset] [(.int ((((p0.toUInt64 >>> ((8 : Int32) &&& 0x3f).toInt64.toUInt64).toInt64) &&& (255 : Int64)).toInt32))])) _
    refine XS.i2c X0.here hx rfl (hb hby at_67) rfl ?_
    exact hk
  obtain ⟨c14, hc14, st95⟩ : ∃ (c14 : Int32), (own_B c14) ∧ ∀ target, Steps p.tables e below (s₁.setTop (mkF m 80 #[.val (.long p0), .second, .val (.long p1), .second, .val (.int p2), .val (.int p3), .val (.int p4), .val (.int p5), .val (.int c8), .val (.int c9), .val (.int c10), .val (.int c11), .val (.int c12), .val (.int c13), .unset, .unset, .unset, .unset, .unset, .unset, .unset, .unset, .unset, .unset, .unset, .unset, .unset, .unset, .unset, .unset, .unset, .unset, .unset] [(.int c14)])) target → Steps p.tables e below (s₁.setTop (mkF m 70 #[.val (.long p0), .second, .val (.long p1), .second, .val (.int p2), .val (.int p3), .val (.int p4), .val (.int p5), .val (.int c8), .val (.int c9), .val (.int c10), .val (.int c11), .val (.int c12), .val (.int c13), .unset, .unset, .unset, .unset, .unset, .unset, .unset, .unset, .unset, .unset, .unset, .unset, .unset, .unset, .unset, .unset, .unset, .unset, .unset] [])) target := by
    refine ⟨(((((p0.toUInt64 >>> ((16 : Int32) &&& 0x3f).toInt64.toUInt64).toInt64) &&& (255 : Int64)).toInt32).toUInt32.toUInt16.toUInt32.toInt32), own_l255 _, fun target hk => ?_⟩
    show Steps p.tables e below (s₁.setTop (mkF m 70 #[.val (.long p0), .second, .val (.long p1), .second, .val (.int p2), .val (.int p3), .val (.int p4), .val (.int p5), .val (.int c8), .val (.int c9), .val (.int c10), .val (.int c11), .val (.int c12), .val (.int c13), .unset, .unset, .unset, .unset, .unset, .unset, .unset, .unset, .unset, .unset, .unset, .unset, .unset, .unset, .unset, .unset, .unset, .unset, .unset] [])) _
    refine XS.lloadN X0.here hx rfl (hb hby at_70) rfl ?_
    show Steps p.tables e below (s₁.setTop (mkF m 71 #[.val (.long p0), .second, .val (.long p1), .second, .val (.int p2), .val (.int p3), .val (.int p4), .val (.int p5), .val (.int c8), .val (.int c9), .val (.int c10), .val (.int c11), .val (.int c12), .val (.int c13), .unset, .unset, .unset, .unset, .unset, .unset, .unset, .unset, .unset, .unset, .unset, .unset, .unset, .unset, .unset, .unset, .unset, .unset, .unset] [(.long p0)])) _
    refine XS.bipush X0.here hx rfl (hb hby at_71) ?_
    show Steps p.tables e below (s₁.setTop (mkF m 73 #[.val (.long p0), .second, .val (.long p1), .second, .val (.int p2), .val (.int p3), .val (.int p4), .val (.int p5), .val (.int c8), .val (.int c9), .val (.int c10), .val (.int c11), .val (.int c12), .val (.int c13), .unset, .unset, .unset, .unset, .unset, .unset, .unset, .unset, .unset, .unset, .unset, .unset, .unset, .unset, .unset, .unset, .unset, .unset, .unset] [(.int (16 : Int32)), (.long p0)])) _
    refine XS.lushr X0.here hx rfl (hb hby at_73) rfl ?_
    show Steps p.tables e below (s₁.setTop (mkF m 74 #[.val (.long p0), .second, .val (.long p1), .second, .val (.int p2), .val (.int p3), .val (.int p4), .val (.int p5), .val (.int c8), .val (.int c9), .val (.int c10), .val (.int c11), .val (.int c12), .val (.int c13), .unset, .unset, .unset, .unset, .unset, .unset, .unset, .unset, .unset, .unset, .unset, .unset, .unset, .unset, .unset, .unset, .unset, .unset, .unset] [(.long ((p0.toUInt64 >>> ((16 : Int32) &&& 0x3f).toInt64.toUInt64).toInt64))])) _
    refine X0.ldc2Long hx hown (mvT hZ (hw _ (List.mem_of_getElem? (i := 0) rfl))) (g := (mkF m 74 #[.val (.long p0), .second, .val (.long p1), .second, .val (.int p2), .val (.int p3), .val (.int p4), .val (.int p5), .val (.int c8), .val (.int c9), .val (.int c10), .val (.int c11), .val (.int c12), .val (.int c13), .unset, .unset, .unset, .unset, .unset, .unset, .unset, .unset, .unset, .unset, .unset, .unset, .unset, .unset, .unset, .unset, .unset, .unset, .unset] [(.long ((p0.toUInt64 >>> ((16 : Int32) &&& 0x3f).toInt64.toUInt64).toInt64))])) rfl (hb hby at_74) _ ?_
    show Steps p.tables e below (s₁.setTop (mkF m 77 #[.val (.long p0), .second, .val (.long p1), .second, .val (.int p2), .val (.int p3), .val (.int p4), .val (.int p5), .val (.int c8), .val (.int c9), .val (.int c10), .val (.int c11), .val (.int c12), .val (.int c13), .unset, .unset, .unset, .unset, .unset, .unset, .unset, .unset, .unset, .unset, .unset, .unset, .unset, .unset, .unset, .unset, .unset, .unset, .unset] [(.long (255 : Int64)), (.long ((p0.toUInt64 >>> ((16 : Int32) &&& 0x3f).toInt64.toUInt64).toInt64))])) _
    refine XS.land X0.here hx rfl (hb hby at_77) rfl ?_
    show Steps p.tables e below (s₁.setTop (mkF m 78 #[.val (.long p0), .second, .val (.long p1), .second, .val (.int p2), .val (.int p3), .val (.int p4), .val (.int p5), .val (.int c8), .val (.int c9), .val (.int c10), .val (.int c11), .val (.int c12), .val (.int c13), .unset, .unset, .unset, .unset, .unset, .unset, .unset, .unset, .unset, .unset, .unset, .unset, .unset, .unset, .unset, .unset, .unset, .unset, .unset] [(.long (((p0.toUInt64 >>> ((16 : Int32) &&& 0x3f).toInt64.toUInt64).toInt64) &&& (255 : Int64)))])) _
    refine XS.l2i X0.here hx rfl (hb hby at_78) rfl ?_
    show Steps p.tables e below (s₁.setTop (mkF m 79 #[.val (.long p0), .second, .val (.long p1), .second, .val (.int p2), .val (.int p3), .val (.int p4), .val (.int p5), .val (.int c8), .val (.int c9), .val (.int c10), .val (.int c11), .val (.int c12), .val (.int c13), .unset, .unset, .unset, .unset, .unset, .unset, .unset, .unset, .unset, .unset, .unset, .unset, .unset, .unset, .unset, .unset, .unset, .unset, .unset] [(.int ((((p0.toUInt64 >>> ((16 : Int32) &&& 0x3f).toInt64.toUInt64).toInt64) &&& (255 : Int64)).toInt32))])) _
    refine XS.i2c X0.here hx rfl (hb hby at_79) rfl ?_
    exact hk
  obtain ⟨c15, hc15, st96⟩ : ∃ (c15 : Int32), (own_B c15) ∧ ∀ target, Steps p.tables e below (s₁.setTop (mkF m 92 #[.val (.long p0), .second, .val (.long p1), .second, .val (.int p2), .val (.int p3), .val (.int p4), .val (.int p5), .val (.int c8), .val (.int c9), .val (.int c10), .val (.int c11), .val (.int c12), .val (.int c13), .val (.int c14), .unset, .unset, .unset, .unset, .unset, .unset, .unset, .unset, .unset, .unset, .unset, .unset, .unset, .unset, .unset, .unset, .unset, .unset] [(.int c15)])) target → Steps p.tables e below (s₁.setTop (mkF m 82 #[.val (.long p0), .second, .val (.long p1), .second, .val (.int p2), .val (.int p3), .val (.int p4), .val (.int p5), .val (.int c8), .val (.int c9), .val (.int c10), .val (.int c11), .val (.int c12), .val (.int c13), .val (.int c14), .unset, .unset, .unset, .unset, .unset, .unset, .unset, .unset, .unset, .unset, .unset, .unset, .unset, .unset, .unset, .unset, .unset, .unset] [])) target := by
    refine ⟨(((((p0.toUInt64 >>> ((24 : Int32) &&& 0x3f).toInt64.toUInt64).toInt64) &&& (255 : Int64)).toInt32).toUInt32.toUInt16.toUInt32.toInt32), own_l255 _, fun target hk => ?_⟩
    show Steps p.tables e below (s₁.setTop (mkF m 82 #[.val (.long p0), .second, .val (.long p1), .second, .val (.int p2), .val (.int p3), .val (.int p4), .val (.int p5), .val (.int c8), .val (.int c9), .val (.int c10), .val (.int c11), .val (.int c12), .val (.int c13), .val (.int c14), .unset, .unset, .unset, .unset, .unset, .unset, .unset, .unset, .unset, .unset, .unset, .unset, .unset, .unset, .unset, .unset, .unset, .unset] [])) _
    refine XS.lloadN X0.here hx rfl (hb hby at_82) rfl ?_
    show Steps p.tables e below (s₁.setTop (mkF m 83 #[.val (.long p0), .second, .val (.long p1), .second, .val (.int p2), .val (.int p3), .val (.int p4), .val (.int p5), .val (.int c8), .val (.int c9), .val (.int c10), .val (.int c11), .val (.int c12), .val (.int c13), .val (.int c14), .unset, .unset, .unset, .unset, .unset, .unset, .unset, .unset, .unset, .unset, .unset, .unset, .unset, .unset, .unset, .unset, .unset, .unset] [(.long p0)])) _
    refine XS.bipush X0.here hx rfl (hb hby at_83) ?_
    show Steps p.tables e below (s₁.setTop (mkF m 85 #[.val (.long p0), .second, .val (.long p1), .second, .val (.int p2), .val (.int p3), .val (.int p4), .val (.int p5), .val (.int c8), .val (.int c9), .val (.int c10), .val (.int c11), .val (.int c12), .val (.int c13), .val (.int c14), .unset, .unset, .unset, .unset, .unset, .unset, .unset, .unset, .unset, .unset, .unset, .unset, .unset, .unset, .unset, .unset, .unset, .unset] [(.int (24 : Int32)), (.long p0)])) _
    refine XS.lushr X0.here hx rfl (hb hby at_85) rfl ?_
    show Steps p.tables e below (s₁.setTop (mkF m 86 #[.val (.long p0), .second, .val (.long p1), .second, .val (.int p2), .val (.int p3), .val (.int p4), .val (.int p5), .val (.int c8), .val (.int c9), .val (.int c10), .val (.int c11), .val (.int c12), .val (.int c13), .val (.int c14), .unset, .unset, .unset, .unset, .unset, .unset, .unset, .unset, .unset, .unset, .unset, .unset, .unset, .unset, .unset, .unset, .unset, .unset] [(.long ((p0.toUInt64 >>> ((24 : Int32) &&& 0x3f).toInt64.toUInt64).toInt64))])) _
    refine X0.ldc2Long hx hown (mvT hZ (hw _ (List.mem_of_getElem? (i := 0) rfl))) (g := (mkF m 86 #[.val (.long p0), .second, .val (.long p1), .second, .val (.int p2), .val (.int p3), .val (.int p4), .val (.int p5), .val (.int c8), .val (.int c9), .val (.int c10), .val (.int c11), .val (.int c12), .val (.int c13), .val (.int c14), .unset, .unset, .unset, .unset, .unset, .unset, .unset, .unset, .unset, .unset, .unset, .unset, .unset, .unset, .unset, .unset, .unset, .unset] [(.long ((p0.toUInt64 >>> ((24 : Int32) &&& 0x3f).toInt64.toUInt64).toInt64))])) rfl (hb hby at_86) _ ?_
    show Steps p.tables e below (s₁.setTop (mkF m 89 #[.val (.long p0), .second, .val (.long p1), .second, .val (.int p2), .val (.int p3), .val (.int p4), .val (.int p5), .val (.int c8), .val (.int c9), .val (.int c10), .val (.int c11), .val (.int c12), .val (.int c13), .val (.int c14), .unset, .unset, .unset, .unset, .unset, .unset, .unset, .unset, .unset, .unset, .unset, .unset, .unset, .unset, .unset, .unset, .unset, .unset] [(.long (255 : Int64)), (.long ((p0.toUInt64 >>> ((24 : Int32) &&& 0x3f).toInt64.toUInt64).toInt64))])) _
    refine XS.land X0.here hx rfl (hb hby at_89) rfl ?_
    show Steps p.tables e below (s₁.setTop (mkF m 90 #[.val (.long p0), .second, .val (.long p1), .second, .val (.int p2), .val (.int p3), .val (.int p4), .val (.int p5), .val (.int c8), .val (.int c9), .val (.int c10), .val (.int c11), .val (.int c12), .val (.int c13), .val (.int c14), .unset, .unset, .unset, .unset, .unset, .unset, .unset, .unset, .unset, .unset, .unset, .unset, .unset, .unset, .unset, .unset, .unset, .unset] [(.long (((p0.toUInt64 >>> ((24 : Int32) &&& 0x3f).toInt64.toUInt64).toInt64) &&& (255 : Int64)))])) _
    refine XS.l2i X0.here hx rfl (hb hby at_90) rfl ?_
    show Steps p.tables e below (s₁.setTop (mkF m 91 #[.val (.long p0), .second, .val (.long p1), .second, .val (.int p2), .val (.int p3), .val (.int p4), .val (.int p5), .val (.int c8), .val (.int c9), .val (.int c10), .val (.int c11), .val (.int c12), .val (.int c13), .val (.int c14), .unset, .unset, .unset, .unset, .unset, .unset, .unset, .unset, .unset, .unset, .unset, .unset, .unset, .unset, .unset, .unset, .unset, .unset] [(.int ((((p0.toUInt64 >>> ((24 : Int32) &&& 0x3f).toInt64.toUInt64).toInt64) &&& (255 : Int64)).toInt32))])) _
    refine XS.i2c X0.here hx rfl (hb hby at_91) rfl ?_
    exact hk
  obtain ⟨c16, hc16, st97⟩ : ∃ (c16 : Int32), (own_B c16) ∧ ∀ target, Steps p.tables e below (s₁.setTop (mkF m 111 #[.val (.long p0), .second, .val (.long p1), .second, .val (.int p2), .val (.int p3), .val (.int p4), .val (.int p5), .val (.int c8), .val (.int c9), .val (.int c10), .val (.int c11), .val (.int c12), .val (.int c13), .val (.int c14), .val (.int c15), .unset, .unset, .unset, .unset, .unset, .unset, .unset, .unset, .unset, .unset, .unset, .unset, .unset, .unset, .unset, .unset, .unset] [(.int c16)])) target → Steps p.tables e below (s₁.setTop (mkF m 94 #[.val (.long p0), .second, .val (.long p1), .second, .val (.int p2), .val (.int p3), .val (.int p4), .val (.int p5), .val (.int c8), .val (.int c9), .val (.int c10), .val (.int c11), .val (.int c12), .val (.int c13), .val (.int c14), .val (.int c15), .unset, .unset, .unset, .unset, .unset, .unset, .unset, .unset, .unset, .unset, .unset, .unset, .unset, .unset, .unset, .unset, .unset] [])) target := by
    by_cases hc : c8 = (0 : Int32)
    · skip
      refine ⟨(((p1 &&& (255 : Int64)).toInt32).toUInt32.toUInt16.toUInt32.toInt32), own_l255 _, fun target hk => ?_⟩
      show Steps p.tables e below (s₁.setTop (mkF m 94 #[.val (.long p0), .second, .val (.long p1), .second, .val (.int p2), .val (.int p3), .val (.int p4), .val (.int p5), .val (.int c8), .val (.int c9), .val (.int c10), .val (.int c11), .val (.int c12), .val (.int c13), .val (.int c14), .val (.int c15), .unset, .unset, .unset, .unset, .unset, .unset, .unset, .unset, .unset, .unset, .unset, .unset, .unset, .unset, .unset, .unset, .unset] [])) _
      refine XS.iload X0.here hx rfl (hb hby at_94) rfl ?_
      show Steps p.tables e below (s₁.setTop (mkF m 96 #[.val (.long p0), .second, .val (.long p1), .second, .val (.int p2), .val (.int p3), .val (.int p4), .val (.int p5), .val (.int c8), .val (.int c9), .val (.int c10), .val (.int c11), .val (.int c12), .val (.int c13), .val (.int c14), .val (.int c15), .unset, .unset, .unset, .unset, .unset, .unset, .unset, .unset, .unset, .unset, .unset, .unset, .unset, .unset, .unset, .unset, .unset] [(.int c8)])) _
      refine XS.ifYes X0.here hx rfl (pc0 := 96) (pc' := 104) rfl (hb hby at_96) rfl ((if0 _ _).trans (teq hc).1) (by decide) (by decide) ?_
      show Steps p.tables e below (s₁.setTop (mkF m 104 #[.val (.long p0), .second, .val (.long p1), .second, .val (.int p2), .val (.int p3), .val (.int p4), .val (.int p5), .val (.int c8), .val (.int c9), .val (.int c10), .val (.int c11), .val (.int c12), .val (.int c13), .val (.int c14), .val (.int c15), .unset, .unset, .unset, .unset, .unset, .unset, .unset, .unset, .unset, .unset, .unset, .unset, .unset, .unset, .unset, .unset, .unset] [])) _
      refine XS.lloadN X0.here hx rfl (hb hby at_104) rfl ?_
      show Steps p.tables e below (s₁.setTop (mkF m 105 #[.val (.long p0), .second, .val (.long p1), .second, .val (.int p2), .val (.int p3), .val (.int p4), .val (.int p5), .val (.int c8), .val (.int c9), .val (.int c10), .val (.int c11), .val (.int c12), .val (.int c13), .val (.int c14), .val (.int c15), .unset, .unset, .unset, .unset, .unset, .unset, .unset, .unset, .unset, .unset, .unset, .unset, .unset, .unset, .unset, .unset, .unset] [(.long p1)])) _
      refine X0.ldc2Long hx hown (mvT hZ (hw _ (List.mem_of_getElem? (i := 0) rfl))) (g := (mkF m 105 #[.val (.long p0), .second, .val (.long p1), .second, .val (.int p2), .val (.int p3), .val (.int p4), .val (.int p5), .val (.int c8), .val (.int c9), .val (.int c10), .val (.int c11), .val (.int c12), .val (.int c13), .val (.int c14), .val (.int c15), .unset, .unset, .unset, .unset, .unset, .unset, .unset, .unset, .unset, .unset, .unset, .unset, .unset, .unset, .unset, .unset, .unset] [(.long p1)])) rfl (hb hby at_105) _ ?_
      show Steps p.tables e below (s₁.setTop (mkF m 108 #[.val (.long p0), .second, .val (.long p1), .second, .val (.int p2), .val (.int p3), .val (.int p4), .val (.int p5), .val (.int c8), .val (.int c9), .val (.int c10), .val (.int c11), .val (.int c12), .val (.int c13), .val (.int c14), .val (.int c15), .unset, .unset, .unset, .unset, .unset, .unset, .unset, .unset, .unset, .unset, .unset, .unset, .unset, .unset, .unset, .unset, .unset] [(.long (255 : Int64)), (.long p1)])) _
      refine XS.land X0.here hx rfl (hb hby at_108) rfl ?_
      show Steps p.tables e below (s₁.setTop (mkF m 109 #[.val (.long p0), .second, .val (.long p1), .second, .val (.int p2), .val (.int p3), .val (.int p4), .val (.int p5), .val (.int c8), .val (.int c9), .val (.int c10), .val (.int c11), .val (.int c12), .val (.int c13), .val (.int c14), .val (.int c15), .unset, .unset, .unset, .unset, .unset, .unset, .unset, .unset, .unset, .unset, .unset, .unset, .unset, .unset, .unset, .unset, .unset] [(.long (p1 &&& (255 : Int64)))])) _
      refine XS.l2i X0.here hx rfl (hb hby at_109) rfl ?_
      show Steps p.tables e below (s₁.setTop (mkF m 110 #[.val (.long p0), .second, .val (.long p1), .second, .val (.int p2), .val (.int p3), .val (.int p4), .val (.int p5), .val (.int c8), .val (.int c9), .val (.int c10), .val (.int c11), .val (.int c12), .val (.int c13), .val (.int c14), .val (.int c15), .unset, .unset, .unset, .unset, .unset, .unset, .unset, .unset, .unset, .unset, .unset, .unset, .unset, .unset, .unset, .unset, .unset] [(.int ((p1 &&& (255 : Int64)).toInt32))])) _
      refine XS.i2c X0.here hx rfl (hb hby at_110) rfl ?_
      exact hk
    · skip
      refine ⟨c12, hc12, fun target hk => ?_⟩
      show Steps p.tables e below (s₁.setTop (mkF m 94 #[.val (.long p0), .second, .val (.long p1), .second, .val (.int p2), .val (.int p3), .val (.int p4), .val (.int p5), .val (.int c8), .val (.int c9), .val (.int c10), .val (.int c11), .val (.int c12), .val (.int c13), .val (.int c14), .val (.int c15), .unset, .unset, .unset, .unset, .unset, .unset, .unset, .unset, .unset, .unset, .unset, .unset, .unset, .unset, .unset, .unset, .unset] [])) _
      refine XS.iload X0.here hx rfl (hb hby at_94) rfl ?_
      show Steps p.tables e below (s₁.setTop (mkF m 96 #[.val (.long p0), .second, .val (.long p1), .second, .val (.int p2), .val (.int p3), .val (.int p4), .val (.int p5), .val (.int c8), .val (.int c9), .val (.int c10), .val (.int c11), .val (.int c12), .val (.int c13), .val (.int c14), .val (.int c15), .unset, .unset, .unset, .unset, .unset, .unset, .unset, .unset, .unset, .unset, .unset, .unset, .unset, .unset, .unset, .unset, .unset] [(.int c8)])) _
      refine XS.ifNo X0.here hx rfl (hb hby at_96) rfl ((if0 _ _).trans (feq hc).1) ?_
      show Steps p.tables e below (s₁.setTop (mkF m 99 #[.val (.long p0), .second, .val (.long p1), .second, .val (.int p2), .val (.int p3), .val (.int p4), .val (.int p5), .val (.int c8), .val (.int c9), .val (.int c10), .val (.int c11), .val (.int c12), .val (.int c13), .val (.int c14), .val (.int c15), .unset, .unset, .unset, .unset, .unset, .unset, .unset, .unset, .unset, .unset, .unset, .unset, .unset, .unset, .unset, .unset, .unset] [])) _
      refine XS.iload X0.here hx rfl (hb hby at_99) rfl ?_
      show Steps p.tables e below (s₁.setTop (mkF m 101 #[.val (.long p0), .second, .val (.long p1), .second, .val (.int p2), .val (.int p3), .val (.int p4), .val (.int p5), .val (.int c8), .val (.int c9), .val (.int c10), .val (.int c11), .val (.int c12), .val (.int c13), .val (.int c14), .val (.int c15), .unset, .unset, .unset, .unset, .unset, .unset, .unset, .unset, .unset, .unset, .unset, .unset, .unset, .unset, .unset, .unset, .unset] [(.int c12)])) _
      refine XS.goto X0.here hx rfl (pc0 := 101) (pc' := 111) rfl (hb hby at_101) (by decide) (by decide) ?_
      exact hk
  obtain ⟨c17, hc17, st98⟩ : ∃ (c17 : Int32), (own_B c17) ∧ ∀ target, Steps p.tables e below (s₁.setTop (mkF m 133 #[.val (.long p0), .second, .val (.long p1), .second, .val (.int p2), .val (.int p3), .val (.int p4), .val (.int p5), .val (.int c8), .val (.int c9), .val (.int c10), .val (.int c11), .val (.int c12), .val (.int c13), .val (.int c14), .val (.int c15), .val (.int c16), .unset, .unset, .unset, .unset, .unset, .unset, .unset, .unset, .unset, .unset, .unset, .unset, .unset, .unset, .unset, .unset] [(.int c17)])) target → Steps p.tables e below (s₁.setTop (mkF m 113 #[.val (.long p0), .second, .val (.long p1), .second, .val (.int p2), .val (.int p3), .val (.int p4), .val (.int p5), .val (.int c8), .val (.int c9), .val (.int c10), .val (.int c11), .val (.int c12), .val (.int c13), .val (.int c14), .val (.int c15), .val (.int c16), .unset, .unset, .unset, .unset, .unset, .unset, .unset, .unset, .unset, .unset, .unset, .unset, .unset, .unset, .unset, .unset] [])) target := by
    by_cases hc : c8 = (0 : Int32)
    · skip
      refine ⟨(((((p1.toUInt64 >>> ((8 : Int32) &&& 0x3f).toInt64.toUInt64).toInt64) &&& (255 : Int64)).toInt32).toUInt32.toUInt16.toUInt32.toInt32), own_l255 _, fun target hk => ?_⟩
      show Steps p.tables e below (s₁.setTop (mkF m 113 #[.val (.long p0), .second, .val (.long p1), .second, .val (.int p2), .val (.int p3), .val (.int p4), .val (.int p5), .val (.int c8), .val (.int c9), .val (.int c10), .val (.int c11), .val (.int c12), .val (.int c13), .val (.int c14), .val (.int c15), .val (.int c16), .unset, .unset, .unset, .unset, .unset, .unset, .unset, .unset, .unset, .unset, .unset, .unset, .unset, .unset, .unset, .unset] [])) _
      refine XS.iload X0.here hx rfl (hb hby at_113) rfl ?_
      show Steps p.tables e below (s₁.setTop (mkF m 115 #[.val (.long p0), .second, .val (.long p1), .second, .val (.int p2), .val (.int p3), .val (.int p4), .val (.int p5), .val (.int c8), .val (.int c9), .val (.int c10), .val (.int c11), .val (.int c12), .val (.int c13), .val (.int c14), .val (.int c15), .val (.int c16), .unset, .unset, .unset, .unset, .unset, .unset, .unset, .unset, .unset, .unset, .unset, .unset, .unset, .unset, .unset, .unset] [(.int c8)])) _
      refine XS.ifYes X0.here hx rfl (pc0 := 115) (pc' := 123) rfl (hb hby at_115) rfl ((if0 _ _).trans (teq hc).1) (by decide) (by decide) ?_
      show Steps p.tables e below (s₁.setTop (mkF m 123 #[.val (.long p0), .second, .val (.long p1), .second, .val (.int p2), .val (.int p3), .val (.int p4), .val (.int p5), .val (.int c8), .val (.int c9), .val (.int c10), .val (.int c11), .val (.int c12), .val (.int c13), .val (.int c14), .val (.int c15), .val (.int c16), .unset, .unset, .unset, .unset, .unset, .unset, .unset, .unset, .unset, .unset, .unset, .unset, .unset, .unset, .unset, .unset] [])) _
      refine XS.lloadN X0.here hx rfl (hb hby at_123) rfl ?_
      show Steps p.tables e below (s₁.setTop (mkF m 124 #[.val (.long p0), .second, .val (.long p1), .second, .val (.int p2), .val (.int p3), .val (.int p4), .val (.int p5), .val (.int c8), .val (.int c9), .val (.int c10), .val (.int c11), .val (.int c12), .val (.int c13), .val (.int c14), .val (.int c15), .val (.int c16), .unset, .unset, .unset, .unset, .unset, .unset, .unset, .unset, .unset, .unset, .unset, .unset, .unset, .unset, .unset, .unset] [(.long p1)])) _
      refine XS.bipush X0.here hx rfl (hb hby at_124) ?_
      show Steps p.tables e below (s₁.setTop (mkF m 126 #[.val (.long p0), .second, .val (.long p1), .second, .val (.int p2), .val (.int p3), .val (.int p4), .val (.int p5), .val (.int c8), .val (.int c9), .val (.int c10), .val (.int c11), .val (.int c12), .val (.int c13), .val (.int c14), .val (.int c15), .val (.int c16), .unset, .unset, .unset, .unset, .unset, .unset, .unset, .unset, .unset, .unset, .unset, .unset, .unset, .unset, .unset, .unset] [(.int (8 : Int32)), (.long p1)])) _
      refine XS.lushr X0.here hx rfl (hb hby at_126) rfl ?_
      show Steps p.tables e below (s₁.setTop (mkF m 127 #[.val (.long p0), .second, .val (.long p1), .second, .val (.int p2), .val (.int p3), .val (.int p4), .val (.int p5), .val (.int c8), .val (.int c9), .val (.int c10), .val (.int c11), .val (.int c12), .val (.int c13), .val (.int c14), .val (.int c15), .val (.int c16), .unset, .unset, .unset, .unset, .unset, .unset, .unset, .unset, .unset, .unset, .unset, .unset, .unset, .unset, .unset, .unset] [(.long ((p1.toUInt64 >>> ((8 : Int32) &&& 0x3f).toInt64.toUInt64).toInt64))])) _
      refine X0.ldc2Long hx hown (mvT hZ (hw _ (List.mem_of_getElem? (i := 0) rfl))) (g := (mkF m 127 #[.val (.long p0), .second, .val (.long p1), .second, .val (.int p2), .val (.int p3), .val (.int p4), .val (.int p5), .val (.int c8), .val (.int c9), .val (.int c10), .val (.int c11), .val (.int c12), .val (.int c13), .val (.int c14), .val (.int c15), .val (.int c16), .unset, .unset, .unset, .unset, .unset, .unset, .unset, .unset, .unset, .unset, .unset, .unset, .unset, .unset, .unset, .unset] [(.long ((p1.toUInt64 >>> ((8 : Int32) &&& 0x3f).toInt64.toUInt64).toInt64))])) rfl (hb hby at_127) _ ?_
      show Steps p.tables e below (s₁.setTop (mkF m 130 #[.val (.long p0), .second, .val (.long p1), .second, .val (.int p2), .val (.int p3), .val (.int p4), .val (.int p5), .val (.int c8), .val (.int c9), .val (.int c10), .val (.int c11), .val (.int c12), .val (.int c13), .val (.int c14), .val (.int c15), .val (.int c16), .unset, .unset, .unset, .unset, .unset, .unset, .unset, .unset, .unset, .unset, .unset, .unset, .unset, .unset, .unset, .unset] [(.long (255 : Int64)), (.long ((p1.toUInt64 >>> ((8 : Int32) &&& 0x3f).toInt64.toUInt64).toInt64))])) _
      refine XS.land X0.here hx rfl (hb hby at_130) rfl ?_
      show Steps p.tables e below (s₁.setTop (mkF m 131 #[.val (.long p0), .second, .val (.long p1), .second, .val (.int p2), .val (.int p3), .val (.int p4), .val (.int p5), .val (.int c8), .val (.int c9), .val (.int c10), .val (.int c11), .val (.int c12), .val (.int c13), .val (.int c14), .val (.int c15), .val (.int c16), .unset, .unset, .unset, .unset, .unset, .unset, .unset, .unset, .unset, .unset, .unset, .unset, .unset, .unset, .unset, .unset] [(.long (((p1.toUInt64 >>> ((8 : Int32) &&& 0x3f).toInt64.toUInt64).toInt64) &&& (255 : Int64)))])) _
      refine XS.l2i X0.here hx rfl (hb hby at_131) rfl ?_
      show Steps p.tables e below (s₁.setTop (mkF m 132 #[.val (.long p0), .second, .val (.long p1), .second, .val (.int p2), .val (.int p3), .val (.int p4), .val (.int p5), .val (.int c8), .val (.int c9), .val (.int c10), .val (.int c11), .val (.int c12), .val (.int c13), .val (.int c14), .val (.int c15), .val (.int c16), .unset, .unset, .unset, .unset, .unset, .unset, .unset, .unset, .unset, .unset, .unset, .unset, .unset, .unset, .unset, .unset] [(.int ((((p1.toUInt64 >>> ((8 : Int32) &&& 0x3f).toInt64.toUInt64).toInt64) &&& (255 : Int64)).toInt32))])) _
      refine XS.i2c X0.here hx rfl (hb hby at_132) rfl ?_
      exact hk
    · skip
      refine ⟨c13, hc13, fun target hk => ?_⟩
      show Steps p.tables e below (s₁.setTop (mkF m 113 #[.val (.long p0), .second, .val (.long p1), .second, .val (.int p2), .val (.int p3), .val (.int p4), .val (.int p5), .val (.int c8), .val (.int c9), .val (.int c10), .val (.int c11), .val (.int c12), .val (.int c13), .val (.int c14), .val (.int c15), .val (.int c16), .unset, .unset, .unset, .unset, .unset, .unset, .unset, .unset, .unset, .unset, .unset, .unset, .unset, .unset, .unset, .unset] [])) _
      refine XS.iload X0.here hx rfl (hb hby at_113) rfl ?_
      show Steps p.tables e below (s₁.setTop (mkF m 115 #[.val (.long p0), .second, .val (.long p1), .second, .val (.int p2), .val (.int p3), .val (.int p4), .val (.int p5), .val (.int c8), .val (.int c9), .val (.int c10), .val (.int c11), .val (.int c12), .val (.int c13), .val (.int c14), .val (.int c15), .val (.int c16), .unset, .unset, .unset, .unset, .unset, .unset, .unset, .unset, .unset, .unset, .unset, .unset, .unset, .unset, .unset, .unset] [(.int c8)])) _
      refine XS.ifNo X0.here hx rfl (hb hby at_115) rfl ((if0 _ _).trans (feq hc).1) ?_
      show Steps p.tables e below (s₁.setTop (mkF m 118 #[.val (.long p0), .second, .val (.long p1), .second, .val (.int p2), .val (.int p3), .val (.int p4), .val (.int p5), .val (.int c8), .val (.int c9), .val (.int c10), .val (.int c11), .val (.int c12), .val (.int c13), .val (.int c14), .val (.int c15), .val (.int c16), .unset, .unset, .unset, .unset, .unset, .unset, .unset, .unset, .unset, .unset, .unset, .unset, .unset, .unset, .unset, .unset] [])) _
      refine XS.iload X0.here hx rfl (hb hby at_118) rfl ?_
      show Steps p.tables e below (s₁.setTop (mkF m 120 #[.val (.long p0), .second, .val (.long p1), .second, .val (.int p2), .val (.int p3), .val (.int p4), .val (.int p5), .val (.int c8), .val (.int c9), .val (.int c10), .val (.int c11), .val (.int c12), .val (.int c13), .val (.int c14), .val (.int c15), .val (.int c16), .unset, .unset, .unset, .unset, .unset, .unset, .unset, .unset, .unset, .unset, .unset, .unset, .unset, .unset, .unset, .unset] [(.int c13)])) _
      refine XS.goto X0.here hx rfl (pc0 := 120) (pc' := 133) rfl (hb hby at_120) (by decide) (by decide) ?_
      exact hk
  obtain ⟨c18, hc18, st99⟩ : ∃ (c18 : Int32), (c18 = 1 ∨ c18 = 2) ∧ ∀ target, Steps p.tables e below (s₁.setTop (mkF m 154 #[.val (.long p0), .second, .val (.long p1), .second, .val (.int p2), .val (.int p3), .val (.int p4), .val (.int p5), .val (.int c8), .val (.int c9), .val (.int c10), .val (.int c11), .val (.int c12), .val (.int c13), .val (.int c14), .val (.int c15), .val (.int c16), .val (.int c17), .unset, .unset, .unset, .unset, .unset, .unset, .unset, .unset, .unset, .unset, .unset, .unset, .unset, .unset, .unset] [(.int c18)])) target → Steps p.tables e below (s₁.setTop (mkF m 135 #[.val (.long p0), .second, .val (.long p1), .second, .val (.int p2), .val (.int p3), .val (.int p4), .val (.int p5), .val (.int c8), .val (.int c9), .val (.int c10), .val (.int c11), .val (.int c12), .val (.int c13), .val (.int c14), .val (.int c15), .val (.int c16), .val (.int c17), .unset, .unset, .unset, .unset, .unset, .unset, .unset, .unset, .unset, .unset, .unset, .unset, .unset, .unset, .unset] [])) target := by
    by_cases hc : c8 = (0 : Int32)
    · skip
      refine ⟨((((p5.toUInt32 >>> ((9 : Int32) &&& 31).toUInt32).toInt32) &&& (1 : Int32)) + (1 : Int32)), own_12 _, fun target hk => ?_⟩
      show Steps p.tables e below (s₁.setTop (mkF m 135 #[.val (.long p0), .second, .val (.long p1), .second, .val (.int p2), .val (.int p3), .val (.int p4), .val (.int p5), .val (.int c8), .val (.int c9), .val (.int c10), .val (.int c11), .val (.int c12), .val (.int c13), .val (.int c14), .val (.int c15), .val (.int c16), .val (.int c17), .unset, .unset, .unset, .unset, .unset, .unset, .unset, .unset, .unset, .unset, .unset, .unset, .unset, .unset, .unset] [])) _
      refine XS.iload X0.here hx rfl (hb hby at_135) rfl ?_
      show Steps p.tables e below (s₁.setTop (mkF m 137 #[.val (.long p0), .second, .val (.long p1), .second, .val (.int p2), .val (.int p3), .val (.int p4), .val (.int p5), .val (.int c8), .val (.int c9), .val (.int c10), .val (.int c11), .val (.int c12), .val (.int c13), .val (.int c14), .val (.int c15), .val (.int c16), .val (.int c17), .unset, .unset, .unset, .unset, .unset, .unset, .unset, .unset, .unset, .unset, .unset, .unset, .unset, .unset, .unset] [(.int c8)])) _
      refine XS.ifYes X0.here hx rfl (pc0 := 137) (pc' := 145) rfl (hb hby at_137) rfl ((if0 _ _).trans (teq hc).1) (by decide) (by decide) ?_
      show Steps p.tables e below (s₁.setTop (mkF m 145 #[.val (.long p0), .second, .val (.long p1), .second, .val (.int p2), .val (.int p3), .val (.int p4), .val (.int p5), .val (.int c8), .val (.int c9), .val (.int c10), .val (.int c11), .val (.int c12), .val (.int c13), .val (.int c14), .val (.int c15), .val (.int c16), .val (.int c17), .unset, .unset, .unset, .unset, .unset, .unset, .unset, .unset, .unset, .unset, .unset, .unset, .unset, .unset, .unset] [])) _
      refine XS.iload X0.here hx rfl (hb hby at_145) rfl ?_
      show Steps p.tables e below (s₁.setTop (mkF m 147 #[.val (.long p0), .second, .val (.long p1), .second, .val (.int p2), .val (.int p3), .val (.int p4), .val (.int p5), .val (.int c8), .val (.int c9), .val (.int c10), .val (.int c11), .val (.int c12), .val (.int c13), .val (.int c14), .val (.int c15), .val (.int c16), .val (.int c17), .unset, .unset, .unset, .unset, .unset, .unset, .unset, .unset, .unset, .unset, .unset, .unset, .unset, .unset, .unset] [(.int p5)])) _
      refine XS.bipush X0.here hx rfl (hb hby at_147) ?_
      show Steps p.tables e below (s₁.setTop (mkF m 149 #[.val (.long p0), .second, .val (.long p1), .second, .val (.int p2), .val (.int p3), .val (.int p4), .val (.int p5), .val (.int c8), .val (.int c9), .val (.int c10), .val (.int c11), .val (.int c12), .val (.int c13), .val (.int c14), .val (.int c15), .val (.int c16), .val (.int c17), .unset, .unset, .unset, .unset, .unset, .unset, .unset, .unset, .unset, .unset, .unset, .unset, .unset, .unset, .unset] [(.int (9 : Int32)), (.int p5)])) _
      refine XS.iushr X0.here hx rfl (hb hby at_149) rfl ?_
      show Steps p.tables e below (s₁.setTop (mkF m 150 #[.val (.long p0), .second, .val (.long p1), .second, .val (.int p2), .val (.int p3), .val (.int p4), .val (.int p5), .val (.int c8), .val (.int c9), .val (.int c10), .val (.int c11), .val (.int c12), .val (.int c13), .val (.int c14), .val (.int c15), .val (.int c16), .val (.int c17), .unset, .unset, .unset, .unset, .unset, .unset, .unset, .unset, .unset, .unset, .unset, .unset, .unset, .unset, .unset] [(.int ((p5.toUInt32 >>> ((9 : Int32) &&& 31).toUInt32).toInt32))])) _
      refine XS.iconst X0.here hx rfl (hb hby at_150) ?_
      show Steps p.tables e below (s₁.setTop (mkF m 151 #[.val (.long p0), .second, .val (.long p1), .second, .val (.int p2), .val (.int p3), .val (.int p4), .val (.int p5), .val (.int c8), .val (.int c9), .val (.int c10), .val (.int c11), .val (.int c12), .val (.int c13), .val (.int c14), .val (.int c15), .val (.int c16), .val (.int c17), .unset, .unset, .unset, .unset, .unset, .unset, .unset, .unset, .unset, .unset, .unset, .unset, .unset, .unset, .unset] [(.int (1 : Int32)), (.int ((p5.toUInt32 >>> ((9 : Int32) &&& 31).toUInt32).toInt32))])) _
      refine XS.iand X0.here hx rfl (hb hby at_151) rfl ?_
      show Steps p.tables e below (s₁.setTop (mkF m 152 #[.val (.long p0), .second, .val (.long p1), .second, .val (.int p2), .val (.int p3), .val (.int p4), .val (.int p5), .val (.int c8), .val (.int c9), .val (.int c10), .val (.int c11), .val (.int c12), .val (.int c13), .val (.int c14), .val (.int c15), .val (.int c16), .val (.int c17), .unset, .unset, .unset, .unset, .unset, .unset, .unset, .unset, .unset, .unset, .unset, .unset, .unset, .unset, .unset] [(.int (((p5.toUInt32 >>> ((9 : Int32) &&& 31).toUInt32).toInt32) &&& (1 : Int32)))])) _
      refine XS.iconst X0.here hx rfl (hb hby at_152) ?_
      show Steps p.tables e below (s₁.setTop (mkF m 153 #[.val (.long p0), .second, .val (.long p1), .second, .val (.int p2), .val (.int p3), .val (.int p4), .val (.int p5), .val (.int c8), .val (.int c9), .val (.int c10), .val (.int c11), .val (.int c12), .val (.int c13), .val (.int c14), .val (.int c15), .val (.int c16), .val (.int c17), .unset, .unset, .unset, .unset, .unset, .unset, .unset, .unset, .unset, .unset, .unset, .unset, .unset, .unset, .unset] [(.int (1 : Int32)), (.int (((p5.toUInt32 >>> ((9 : Int32) &&& 31).toUInt32).toInt32) &&& (1 : Int32)))])) _
      refine XS.iadd X0.here hx rfl (hb hby at_153) rfl ?_
      exact hk
    · skip
      refine ⟨c10, hc10, fun target hk => ?_⟩
      show Steps p.tables e below (s₁.setTop (mkF m 135 #[.val (.long p0), .second, .val (.long p1), .second, .val (.int p2), .val (.int p3), .val (.int p4), .val (.int p5), .val (.int c8), .val (.int c9), .val (.int c10), .val (.int c11), .val (.int c12), .val (.int c13), .val (.int c14), .val (.int c15), .val (.int c16), .val (.int c17), .unset, .unset, .unset, .unset, .unset, .unset, .unset, .unset, .unset, .unset, .unset, .unset, .unset, .unset, .unset] [])) _
      refine XS.iload X0.here hx rfl (hb hby at_135) rfl ?_
      show Steps p.tables e below (s₁.setTop (mkF m 137 #[.val (.long p0), .second, .val (.long p1), .second, .val (.int p2), .val (.int p3), .val (.int p4), .val (.int p5), .val (.int c8), .val (.int c9), .val (.int c10), .val (.int c11), .val (.int c12), .val (.int c13), .val (.int c14), .val (.int c15), .val (.int c16), .val (.int c17), .unset, .unset, .unset, .unset, .unset, .unset, .unset, .unset, .unset, .unset, .unset, .unset, .unset, .unset, .unset] [(.int c8)])) _
      refine XS.ifNo X0.here hx rfl (hb hby at_137) rfl ((if0 _ _).trans (feq hc).1) ?_
      show Steps p.tables e below (s₁.setTop (mkF m 140 #[.val (.long p0), .second, .val (.long p1), .second, .val (.int p2), .val (.int p3), .val (.int p4), .val (.int p5), .val (.int c8), .val (.int c9), .val (.int c10), .val (.int c11), .val (.int c12), .val (.int c13), .val (.int c14), .val (.int c15), .val (.int c16), .val (.int c17), .unset, .unset, .unset, .unset, .unset, .unset, .unset, .unset, .unset, .unset, .unset, .unset, .unset, .unset, .unset] [])) _
      refine XS.iload X0.here hx rfl (hb hby at_140) rfl ?_
      show Steps p.tables e below (s₁.setTop (mkF m 142 #[.val (.long p0), .second, .val (.long p1), .second, .val (.int p2), .val (.int p3), .val (.int p4), .val (.int p5), .val (.int c8), .val (.int c9), .val (.int c10), .val (.int c11), .val (.int c12), .val (.int c13), .val (.int c14), .val (.int c15), .val (.int c16), .val (.int c17), .unset, .unset, .unset, .unset, .unset, .unset, .unset, .unset, .unset, .unset, .unset, .unset, .unset, .unset, .unset] [(.int c10)])) _
      refine XS.goto X0.here hx rfl (pc0 := 142) (pc' := 154) rfl (hb hby at_142) (by decide) (by decide) ?_
      exact hk
  obtain ⟨c19, hc19, st100⟩ : ∃ (c19 : Int32), (own_B c19) ∧ ∀ target, Steps p.tables e below (s₁.setTop (mkF m 176 #[.val (.long p0), .second, .val (.long p1), .second, .val (.int p2), .val (.int p3), .val (.int p4), .val (.int p5), .val (.int c8), .val (.int c9), .val (.int c10), .val (.int c11), .val (.int c12), .val (.int c13), .val (.int c14), .val (.int c15), .val (.int c16), .val (.int c17), .val (.int c18), .unset, .unset, .unset, .unset, .unset, .unset, .unset, .unset, .unset, .unset, .unset, .unset, .unset, .unset] [(.int c19)])) target → Steps p.tables e below (s₁.setTop (mkF m 156 #[.val (.long p0), .second, .val (.long p1), .second, .val (.int p2), .val (.int p3), .val (.int p4), .val (.int p5), .val (.int c8), .val (.int c9), .val (.int c10), .val (.int c11), .val (.int c12), .val (.int c13), .val (.int c14), .val (.int c15), .val (.int c16), .val (.int c17), .val (.int c18), .unset, .unset, .unset, .unset, .unset, .unset, .unset, .unset, .unset, .unset, .unset, .unset, .unset, .unset] [])) target := by
    by_cases hc : c9 = (0 : Int32)
    · skip
      refine ⟨(((((p1.toUInt64 >>> ((16 : Int32) &&& 0x3f).toInt64.toUInt64).toInt64) &&& (255 : Int64)).toInt32).toUInt32.toUInt16.toUInt32.toInt32), own_l255 _, fun target hk => ?_⟩
      show Steps p.tables e below (s₁.setTop (mkF m 156 #[.val (.long p0), .second, .val (.long p1), .second, .val (.int p2), .val (.int p3), .val (.int p4), .val (.int p5), .val (.int c8), .val (.int c9), .val (.int c10), .val (.int c11), .val (.int c12), .val (.int c13), .val (.int c14), .val (.int c15), .val (.int c16), .val (.int c17), .val (.int c18), .unset, .unset, .unset, .unset, .unset, .unset, .unset, .unset, .unset, .unset, .unset, .unset, .unset, .unset] [])) _
      refine XS.iload X0.here hx rfl (hb hby at_156) rfl ?_
      show Steps p.tables e below (s₁.setTop (mkF m 158 #[.val (.long p0), .second, .val (.long p1), .second, .val (.int p2), .val (.int p3), .val (.int p4), .val (.int p5), .val (.int c8), .val (.int c9), .val (.int c10), .val (.int c11), .val (.int c12), .val (.int c13), .val (.int c14), .val (.int c15), .val (.int c16), .val (.int c17), .val (.int c18), .unset, .unset, .unset, .unset, .unset, .unset, .unset, .unset, .unset, .unset, .unset, .unset, .unset, .unset] [(.int c9)])) _
      refine XS.ifYes X0.here hx rfl (pc0 := 158) (pc' := 166) rfl (hb hby at_158) rfl ((if0 _ _).trans (teq hc).1) (by decide) (by decide) ?_
      show Steps p.tables e below (s₁.setTop (mkF m 166 #[.val (.long p0), .second, .val (.long p1), .second, .val (.int p2), .val (.int p3), .val (.int p4), .val (.int p5), .val (.int c8), .val (.int c9), .val (.int c10), .val (.int c11), .val (.int c12), .val (.int c13), .val (.int c14), .val (.int c15), .val (.int c16), .val (.int c17), .val (.int c18), .unset, .unset, .unset, .unset, .unset, .unset, .unset, .unset, .unset, .unset, .unset, .unset, .unset, .unset] [])) _
      refine XS.lloadN X0.here hx rfl (hb hby at_166) rfl ?_
      show Steps p.tables e below (s₁.setTop (mkF m 167 #[.val (.long p0), .second, .val (.long p1), .second, .val (.int p2), .val (.int p3), .val (.int p4), .val (.int p5), .val (.int c8), .val (.int c9), .val (.int c10), .val (.int c11), .val (.int c12), .val (.int c13), .val (.int c14), .val (.int c15), .val (.int c16), .val (.int c17), .val (.int c18), .unset, .unset, .unset, .unset, .unset, .unset, .unset, .unset, .unset, .unset, .unset, .unset, .unset, .unset] [(.long p1)])) _
      refine XS.bipush X0.here hx rfl (hb hby at_167) ?_
      show Steps p.tables e below (s₁.setTop (mkF m 169 #[.val (.long p0), .second, .val (.long p1), .second, .val (.int p2), .val (.int p3), .val (.int p4), .val (.int p5), .val (.int c8), .val (.int c9), .val (.int c10), .val (.int c11), .val (.int c12), .val (.int c13), .val (.int c14), .val (.int c15), .val (.int c16), .val (.int c17), .val (.int c18), .unset, .unset, .unset, .unset, .unset, .unset, .unset, .unset, .unset, .unset, .unset, .unset, .unset, .unset] [(.int (16 : Int32)), (.long p1)])) _
      refine XS.lushr X0.here hx rfl (hb hby at_169) rfl ?_
      show Steps p.tables e below (s₁.setTop (mkF m 170 #[.val (.long p0), .second, .val (.long p1), .second, .val (.int p2), .val (.int p3), .val (.int p4), .val (.int p5), .val (.int c8), .val (.int c9), .val (.int c10), .val (.int c11), .val (.int c12), .val (.int c13), .val (.int c14), .val (.int c15), .val (.int c16), .val (.int c17), .val (.int c18), .unset, .unset, .unset, .unset, .unset, .unset, .unset, .unset, .unset, .unset, .unset, .unset, .unset, .unset] [(.long ((p1.toUInt64 >>> ((16 : Int32) &&& 0x3f).toInt64.toUInt64).toInt64))])) _
      refine X0.ldc2Long hx hown (mvT hZ (hw _ (List.mem_of_getElem? (i := 0) rfl))) (g := (mkF m 170 #[.val (.long p0), .second, .val (.long p1), .second, .val (.int p2), .val (.int p3), .val (.int p4), .val (.int p5), .val (.int c8), .val (.int c9), .val (.int c10), .val (.int c11), .val (.int c12), .val (.int c13), .val (.int c14), .val (.int c15), .val (.int c16), .val (.int c17), .val (.int c18), .unset, .unset, .unset, .unset, .unset, .unset, .unset, .unset, .unset, .unset, .unset, .unset, .unset, .unset] [(.long ((p1.toUInt64 >>> ((16 : Int32) &&& 0x3f).toInt64.toUInt64).toInt64))])) rfl (hb hby at_170) _ ?_
      show Steps p.tables e below (s₁.setTop (mkF m 173 #[.val (.long p0), .second, .val (.long p1), .second, .val (.int p2), .val (.int p3), .val (.int p4), .val (.int p5), .val (.int c8), .val (.int c9), .val (.int c10), .val (.int c11), .val (.int c12), .val (.int c13), .val (.int c14), .val (.int c15), .val (.int c16), .val (.int c17), .val (.int c18), .unset, .unset, .unset, .unset, .unset, .unset, .unset, .unset, .unset, .unset, .unset, .unset, .unset, .unset] [(.long (255 : Int64)), (.long ((p1.toUInt64 >>> ((16 : Int32) &&& 0x3f).toInt64.toUInt64).toInt64))])) _
      refine XS.land X0.here hx rfl (hb hby at_173) rfl ?_
      show Steps p.tables e below (s₁.setTop (mkF m 174 #[.val (.long p0), .second, .val (.long p1), .second, .val (.int p2), .val (.int p3), .val (.int p4), .val (.int p5), .val (.int c8), .val (.int c9), .val (.int c10), .val (.int c11), .val (.int c12), .val (.int c13), .val (.int c14), .val (.int c15), .val (.int c16), .val (.int c17), .val (.int c18), .unset, .unset, .unset, .unset, .unset, .unset, .unset, .unset, .unset, .unset, .unset, .unset, .unset, .unset] [(.long (((p1.toUInt64 >>> ((16 : Int32) &&& 0x3f).toInt64.toUInt64).toInt64) &&& (255 : Int64)))])) _
      refine XS.l2i X0.here hx rfl (hb hby at_174) rfl ?_
      show Steps p.tables e below (s₁.setTop (mkF m 175 #[.val (.long p0), .second, .val (.long p1), .second, .val (.int p2), .val (.int p3), .val (.int p4), .val (.int p5), .val (.int c8), .val (.int c9), .val (.int c10), .val (.int c11), .val (.int c12), .val (.int c13), .val (.int c14), .val (.int c15), .val (.int c16), .val (.int c17), .val (.int c18), .unset, .unset, .unset, .unset, .unset, .unset, .unset, .unset, .unset, .unset, .unset, .unset, .unset, .unset] [(.int ((((p1.toUInt64 >>> ((16 : Int32) &&& 0x3f).toInt64.toUInt64).toInt64) &&& (255 : Int64)).toInt32))])) _
      refine XS.i2c X0.here hx rfl (hb hby at_175) rfl ?_
      exact hk
    · skip
      refine ⟨c14, hc14, fun target hk => ?_⟩
      show Steps p.tables e below (s₁.setTop (mkF m 156 #[.val (.long p0), .second, .val (.long p1), .second, .val (.int p2), .val (.int p3), .val (.int p4), .val (.int p5), .val (.int c8), .val (.int c9), .val (.int c10), .val (.int c11), .val (.int c12), .val (.int c13), .val (.int c14), .val (.int c15), .val (.int c16), .val (.int c17), .val (.int c18), .unset, .unset, .unset, .unset, .unset, .unset, .unset, .unset, .unset, .unset, .unset, .unset, .unset, .unset] [])) _
      refine XS.iload X0.here hx rfl (hb hby at_156) rfl ?_
      show Steps p.tables e below (s₁.setTop (mkF m 158 #[.val (.long p0), .second, .val (.long p1), .second, .val (.int p2), .val (.int p3), .val (.int p4), .val (.int p5), .val (.int c8), .val (.int c9), .val (.int c10), .val (.int c11), .val (.int c12), .val (.int c13), .val (.int c14), .val (.int c15), .val (.int c16), .val (.int c17), .val (.int c18), .unset, .unset, .unset, .unset, .unset, .unset, .unset, .unset, .unset, .unset, .unset, .unset, .unset, .unset] [(.int c9)])) _
      refine XS.ifNo X0.here hx rfl (hb hby at_158) rfl ((if0 _ _).trans (feq hc).1) ?_
      show Steps p.tables e below (s₁.setTop (mkF m 161 #[.val (.long p0), .second, .val (.long p1), .second, .val (.int p2), .val (.int p3), .val (.int p4), .val (.int p5), .val (.int c8), .val (.int c9), .val (.int c10), .val (.int c11), .val (.int c12), .val (.int c13), .val (.int c14), .val (.int c15), .val (.int c16), .val (.int c17), .val (.int c18), .unset, .unset, .unset, .unset, .unset, .unset, .unset, .unset, .unset, .unset, .unset, .unset, .unset, .unset] [])) _
      refine XS.iload X0.here hx rfl (hb hby at_161) rfl ?_
      show Steps p.tables e below (s₁.setTop (mkF m 163 #[.val (.long p0), .second, .val (.long p1), .second, .val (.int p2), .val (.int p3), .val (.int p4), .val (.int p5), .val (.int c8), .val (.int c9), .val (.int c10), .val (.int c11), .val (.int c12), .val (.int c13), .val (.int c14), .val (.int c15), .val (.int c16), .val (.int c17), .val (.int c18), .unset, .unset, .unset, .unset, .unset, .unset, .unset, .unset, .unset, .unset, .unset, .unset, .unset, .unset] [(.int c14)])) _
      refine XS.goto X0.here hx rfl (pc0 := 163) (pc' := 176) rfl (hb hby at_163) (by decide) (by decide) ?_
      exact hk
  obtain ⟨c20, hc20, st101⟩ : ∃ (c20 : Int32), (own_B c20) ∧ ∀ target, Steps p.tables e below (s₁.setTop (mkF m 198 #[.val (.long p0), .second, .val (.long p1), .second, .val (.int p2), .val (.int p3), .val (.int p4), .val (.int p5), .val (.int c8), .val (.int c9), .val (.int c10), .val (.int c11), .val (.int c12), .val (.int c13), .val (.int c14), .val (.int c15), .val (.int c16), .val (.int c17), .val (.int c18), .val (.int c19), .unset, .unset, .unset, .unset, .unset, .unset, .unset, .unset, .unset, .unset, .unset, .unset, .unset] [(.int c20)])) target → Steps p.tables e below (s₁.setTop (mkF m 178 #[.val (.long p0), .second, .val (.long p1), .second, .val (.int p2), .val (.int p3), .val (.int p4), .val (.int p5), .val (.int c8), .val (.int c9), .val (.int c10), .val (.int c11), .val (.int c12), .val (.int c13), .val (.int c14), .val (.int c15), .val (.int c16), .val (.int c17), .val (.int c18), .val (.int c19), .unset, .unset, .unset, .unset, .unset, .unset, .unset, .unset, .unset, .unset, .unset, .unset, .unset] [])) target := by
    by_cases hc : c9 = (0 : Int32)
    · skip
      refine ⟨(((((p1.toUInt64 >>> ((24 : Int32) &&& 0x3f).toInt64.toUInt64).toInt64) &&& (255 : Int64)).toInt32).toUInt32.toUInt16.toUInt32.toInt32), own_l255 _, fun target hk => ?_⟩
      show Steps p.tables e below (s₁.setTop (mkF m 178 #[.val (.long p0), .second, .val (.long p1), .second, .val (.int p2), .val (.int p3), .val (.int p4), .val (.int p5), .val (.int c8), .val (.int c9), .val (.int c10), .val (.int c11), .val (.int c12), .val (.int c13), .val (.int c14), .val (.int c15), .val (.int c16), .val (.int c17), .val (.int c18), .val (.int c19), .unset, .unset, .unset, .unset, .unset, .unset, .unset, .unset, .unset, .unset, .unset, .unset, .unset] [])) _
      refine XS.iload X0.here hx rfl (hb hby at_178) rfl ?_
      show Steps p.tables e below (s₁.setTop (mkF m 180 #[.val (.long p0), .second, .val (.long p1), .second, .val (.int p2), .val (.int p3), .val (.int p4), .val (.int p5), .val (.int c8), .val (.int c9), .val (.int c10), .val (.int c11), .val (.int c12), .val (.int c13), .val (.int c14), .val (.int c15), .val (.int c16), .val (.int c17), .val (.int c18), .val (.int c19), .unset, .unset, .unset, .unset, .unset, .unset, .unset, .unset, .unset, .unset, .unset, .unset, .unset] [(.int c9)])) _
      refine XS.ifYes X0.here hx rfl (pc0 := 180) (pc' := 188) rfl (hb hby at_180) rfl ((if0 _ _).trans (teq hc).1) (by decide) (by decide) ?_
      show Steps p.tables e below (s₁.setTop (mkF m 188 #[.val (.long p0), .second, .val (.long p1), .second, .val (.int p2), .val (.int p3), .val (.int p4), .val (.int p5), .val (.int c8), .val (.int c9), .val (.int c10), .val (.int c11), .val (.int c12), .val (.int c13), .val (.int c14), .val (.int c15), .val (.int c16), .val (.int c17), .val (.int c18), .val (.int c19), .unset, .unset, .unset, .unset, .unset, .unset, .unset, .unset, .unset, .unset, .unset, .unset, .unset] [])) _
      refine XS.lloadN X0.here hx rfl (hb hby at_188) rfl ?_
      show Steps p.tables e below (s₁.setTop (mkF m 189 #[.val (.long p0), .second, .val (.long p1), .second, .val (.int p2), .val (.int p3), .val (.int p4), .val (.int p5), .val (.int c8), .val (.int c9), .val (.int c10), .val (.int c11), .val (.int c12), .val (.int c13), .val (.int c14), .val (.int c15), .val (.int c16), .val (.int c17), .val (.int c18), .val (.int c19), .unset, .unset, .unset, .unset, .unset, .unset, .unset, .unset, .unset, .unset, .unset, .unset, .unset] [(.long p1)])) _
      refine XS.bipush X0.here hx rfl (hb hby at_189) ?_
      show Steps p.tables e below (s₁.setTop (mkF m 191 #[.val (.long p0), .second, .val (.long p1), .second, .val (.int p2), .val (.int p3), .val (.int p4), .val (.int p5), .val (.int c8), .val (.int c9), .val (.int c10), .val (.int c11), .val (.int c12), .val (.int c13), .val (.int c14), .val (.int c15), .val (.int c16), .val (.int c17), .val (.int c18), .val (.int c19), .unset, .unset, .unset, .unset, .unset, .unset, .unset, .unset, .unset, .unset, .unset, .unset, .unset] [(.int (24 : Int32)), (.long p1)])) _
      refine XS.lushr X0.here hx rfl (hb hby at_191) rfl ?_
      show Steps p.tables e below (s₁.setTop (mkF m 192 #[.val (.long p0), .second, .val (.long p1), .second, .val (.int p2), .val (.int p3), .val (.int p4), .val (.int p5), .val (.int c8), .val (.int c9), .val (.int c10), .val (.int c11), .val (.int c12), .val (.int c13), .val (.int c14), .val (.int c15), .val (.int c16), .val (.int c17), .val (.int c18), .val (.int c19), .unset, .unset, .unset, .unset, .unset, .unset, .unset, .unset, .unset, .unset, .unset, .unset, .unset] [(.long ((p1.toUInt64 >>> ((24 : Int32) &&& 0x3f).toInt64.toUInt64).toInt64))])) _
      refine X0.ldc2Long hx hown (mvT hZ (hw _ (List.mem_of_getElem? (i := 0) rfl))) (g := (mkF m 192 #[.val (.long p0), .second, .val (.long p1), .second, .val (.int p2), .val (.int p3), .val (.int p4), .val (.int p5), .val (.int c8), .val (.int c9), .val (.int c10), .val (.int c11), .val (.int c12), .val (.int c13), .val (.int c14), .val (.int c15), .val (.int c16), .val (.int c17), .val (.int c18), .val (.int c19), .unset, .unset, .unset, .unset, .unset, .unset, .unset, .unset, .unset, .unset, .unset, .unset, .unset] [(.long ((p1.toUInt64 >>> ((24 : Int32) &&& 0x3f).toInt64.toUInt64).toInt64))])) rfl (hb hby at_192) _ ?_
      show Steps p.tables e below (s₁.setTop (mkF m 195 #[.val (.long p0), .second, .val (.long p1), .second, .val (.int p2), .val (.int p3), .val (.int p4), .val (.int p5), .val (.int c8), .val (.int c9), .val (.int c10), .val (.int c11), .val (.int c12), .val (.int c13), .val (.int c14), .val (.int c15), .val (.int c16), .val (.int c17), .val (.int c18), .val (.int c19), .unset, .unset, .unset, .unset, .unset, .unset, .unset, .unset, .unset, .unset, .unset, .unset, .unset] [(.long (255 : Int64)), (.long ((p1.toUInt64 >>> ((24 : Int32) &&& 0x3f).toInt64.toUInt64).toInt64))])) _
      refine XS.land X0.here hx rfl (hb hby at_195) rfl ?_
      show Steps p.tables e below (s₁.setTop (mkF m 196 #[.val (.long p0), .second, .val (.long p1), .second, .val (.int p2), .val (.int p3), .val (.int p4), .val (.int p5), .val (.int c8), .val (.int c9), .val (.int c10), .val (.int c11), .val (.int c12), .val (.int c13), .val (.int c14), .val (.int c15), .val (.int c16), .val (.int c17), .val (.int c18), .val (.int c19), .unset, .unset, .unset, .unset, .unset, .unset, .unset, .unset, .unset, .unset, .unset, .unset, .unset] [(.long (((p1.toUInt64 >>> ((24 : Int32) &&& 0x3f).toInt64.toUInt64).toInt64) &&& (255 : Int64)))])) _
      refine XS.l2i X0.here hx rfl (hb hby at_196) rfl ?_
      show Steps p.tables e below (s₁.setTop (mkF m 197 #[.val (.long p0), .second, .val (.long p1), .second, .val (.int p2), .val (.int p3), .val (.int p4), .val (.int p5), .val (.int c8), .val (.int c9), .val (.int c10), .val (.int c11), .val (.int c12), .val (.int c13), .val (.int c14), .val (.int c15), .val (.int c16), .val (.int c17), .val (.int c18), .val (.int c19), .unset, .unset, .unset, .unset, .unset, .unset, .unset, .unset, .unset, .unset, .unset, .unset, .unset] [(.int ((((p1.toUInt64 >>> ((24 : Int32) &&& 0x3f).toInt64.toUInt64).toInt64) &&& (255 : Int64)).toInt32))])) _
      refine XS.i2c X0.here hx rfl (hb hby at_197) rfl ?_
      exact hk
    · skip
      refine ⟨c15, hc15, fun target hk => ?_⟩
      show Steps p.tables e below (s₁.setTop (mkF m 178 #[.val (.long p0), .second, .val (.long p1), .second, .val (.int p2), .val (.int p3), .val (.int p4), .val (.int p5), .val (.int c8), .val (.int c9), .val (.int c10), .val (.int c11), .val (.int c12), .val (.int c13), .val (.int c14), .val (.int c15), .val (.int c16), .val (.int c17), .val (.int c18), .val (.int c19), .unset, .unset, .unset, .unset, .unset, .unset, .unset, .unset, .unset, .unset, .unset, .unset, .unset] [])) _
      refine XS.iload X0.here hx rfl (hb hby at_178) rfl ?_
      show Steps p.tables e below (s₁.setTop (mkF m 180 #[.val (.long p0), .second, .val (.long p1), .second, .val (.int p2), .val (.int p3), .val (.int p4), .val (.int p5), .val (.int c8), .val (.int c9), .val (.int c10), .val (.int c11), .val (.int c12), .val (.int c13), .val (.int c14), .val (.int c15), .val (.int c16), .val (.int c17), .val (.int c18), .val (.int c19), .unset, .unset, .unset, .unset, .unset, .unset, .unset, .unset, .unset, .unset, .unset, .unset, .unset] [(.int c9)])) _
      refine XS.ifNo X0.here hx rfl (hb hby at_180) rfl ((if0 _ _).trans (feq hc).1) ?_
      show Steps p.tables e below (s₁.setTop (mkF m 183 #[.val (.long p0), .second, .val (.long p1), .second, .val (.int p2), .val (.int p3), .val (.int p4), .val (.int p5), .val (.int c8), .val (.int c9), .val (.int c10), .val (.int c11), .val (.int c12), .val (.int c13), .val (.int c14), .val (.int c15), .val (.int c16), .val (.int c17), .val (.int c18), .val (.int c19), .unset, .unset, .unset, .unset, .unset, .unset, .unset, .unset, .unset, .unset, .unset, .unset, .unset] [])) _
      refine XS.iload X0.here hx rfl (hb hby at_183) rfl ?_
      show Steps p.tables e below (s₁.setTop (mkF m 185 #[.val (.long p0), .second, .val (.long p1), .second, .val (.int p2), .val (.int p3), .val (.int p4), .val (.int p5), .val (.int c8), .val (.int c9), .val (.int c10), .val (.int c11), .val (.int c12), .val (.int c13), .val (.int c14), .val (.int c15), .val (.int c16), .val (.int c17), .val (.int c18), .val (.int c19), .unset, .unset, .unset, .unset, .unset, .unset, .unset, .unset, .unset, .unset, .unset, .unset, .unset] [(.int c15)])) _
      refine XS.goto X0.here hx rfl (pc0 := 185) (pc' := 198) rfl (hb hby at_185) (by decide) (by decide) ?_
      exact hk
  obtain ⟨c21, hc21, st102⟩ : ∃ (c21 : Int32), (c21 = 1 ∨ c21 = 2) ∧ ∀ target, Steps p.tables e below (s₁.setTop (mkF m 219 #[.val (.long p0), .second, .val (.long p1), .second, .val (.int p2), .val (.int p3), .val (.int p4), .val (.int p5), .val (.int c8), .val (.int c9), .val (.int c10), .val (.int c11), .val (.int c12), .val (.int c13), .val (.int c14), .val (.int c15), .val (.int c16), .val (.int c17), .val (.int c18), .val (.int c19), .val (.int c20), .unset, .unset, .unset, .unset, .unset, .unset, .unset, .unset, .unset, .unset, .unset, .unset] [(.int c21)])) target → Steps p.tables e below (s₁.setTop (mkF m 200 #[.val (.long p0), .second, .val (.long p1), .second, .val (.int p2), .val (.int p3), .val (.int p4), .val (.int p5), .val (.int c8), .val (.int c9), .val (.int c10), .val (.int c11), .val (.int c12), .val (.int c13), .val (.int c14), .val (.int c15), .val (.int c16), .val (.int c17), .val (.int c18), .val (.int c19), .val (.int c20), .unset, .unset, .unset, .unset, .unset, .unset, .unset, .unset, .unset, .unset, .unset, .unset] [])) target := by
    by_cases hc : c9 = (0 : Int32)
    · skip
      refine ⟨((((p5.toUInt32 >>> ((10 : Int32) &&& 31).toUInt32).toInt32) &&& (1 : Int32)) + (1 : Int32)), own_12 _, fun target hk => ?_⟩
      show Steps p.tables e below (s₁.setTop (mkF m 200 #[.val (.long p0), .second, .val (.long p1), .second, .val (.int p2), .val (.int p3), .val (.int p4), .val (.int p5), .val (.int c8), .val (.int c9), .val (.int c10), .val (.int c11), .val (.int c12), .val (.int c13), .val (.int c14), .val (.int c15), .val (.int c16), .val (.int c17), .val (.int c18), .val (.int c19), .val (.int c20), .unset, .unset, .unset, .unset, .unset, .unset, .unset, .unset, .unset, .unset, .unset, .unset] [])) _
      refine XS.iload X0.here hx rfl (hb hby at_200) rfl ?_
      show Steps p.tables e below (s₁.setTop (mkF m 202 #[.val (.long p0), .second, .val (.long p1), .second, .val (.int p2), .val (.int p3), .val (.int p4), .val (.int p5), .val (.int c8), .val (.int c9), .val (.int c10), .val (.int c11), .val (.int c12), .val (.int c13), .val (.int c14), .val (.int c15), .val (.int c16), .val (.int c17), .val (.int c18), .val (.int c19), .val (.int c20), .unset, .unset, .unset, .unset, .unset, .unset, .unset, .unset, .unset, .unset, .unset, .unset] [(.int c9)])) _
      refine XS.ifYes X0.here hx rfl (pc0 := 202) (pc' := 210) rfl (hb hby at_202) rfl ((if0 _ _).trans (teq hc).1) (by decide) (by decide) ?_
      show Steps p.tables e below (s₁.setTop (mkF m 210 #[.val (.long p0), .second, .val (.long p1), .second, .val (.int p2), .val (.int p3), .val (.int p4), .val (.int p5), .val (.int c8), .val (.int c9), .val (.int c10), .val (.int c11), .val (.int c12), .val (.int c13), .val (.int c14), .val (.int c15), .val (.int c16), .val (.int c17), .val (.int c18), .val (.int c19), .val (.int c20), .unset, .unset, .unset, .unset, .unset, .unset, .unset, .unset, .unset, .unset, .unset, .unset] [])) _
      refine XS.iload X0.here hx rfl (hb hby at_210) rfl ?_
      show Steps p.tables e below (s₁.setTop (mkF m 212 #[.val (.long p0), .second, .val (.long p1), .second, .val (.int p2), .val (.int p3), .val (.int p4), .val (.int p5), .val (.int c8), .val (.int c9), .val (.int c10), .val (.int c11), .val (.int c12), .val (.int c13), .val (.int c14), .val (.int c15), .val (.int c16), .val (.int c17), .val (.int c18), .val (.int c19), .val (.int c20), .unset, .unset, .unset, .unset, .unset, .unset, .unset, .unset, .unset, .unset, .unset, .unset] [(.int p5)])) _
      refine XS.bipush X0.here hx rfl (hb hby at_212) ?_
      show Steps p.tables e below (s₁.setTop (mkF m 214 #[.val (.long p0), .second, .val (.long p1), .second, .val (.int p2), .val (.int p3), .val (.int p4), .val (.int p5), .val (.int c8), .val (.int c9), .val (.int c10), .val (.int c11), .val (.int c12), .val (.int c13), .val (.int c14), .val (.int c15), .val (.int c16), .val (.int c17), .val (.int c18), .val (.int c19), .val (.int c20), .unset, .unset, .unset, .unset, .unset, .unset, .unset, .unset, .unset, .unset, .unset, .unset] [(.int (10 : Int32)), (.int p5)])) _
      refine XS.iushr X0.here hx rfl (hb hby at_214) rfl ?_
      show Steps p.tables e below (s₁.setTop (mkF m 215 #[.val (.long p0), .second, .val (.long p1), .second, .val (.int p2), .val (.int p3), .val (.int p4), .val (.int p5), .val (.int c8), .val (.int c9), .val (.int c10), .val (.int c11), .val (.int c12), .val (.int c13), .val (.int c14), .val (.int c15), .val (.int c16), .val (.int c17), .val (.int c18), .val (.int c19), .val (.int c20), .unset, .unset, .unset, .unset, .unset, .unset, .unset, .unset, .unset, .unset, .unset, .unset] [(.int ((p5.toUInt32 >>> ((10 : Int32) &&& 31).toUInt32).toInt32))])) _
      refine XS.iconst X0.here hx rfl (hb hby at_215) ?_
      show Steps p.tables e below (s₁.setTop (mkF m 216 #[.val (.long p0), .second, .val (.long p1), .second, .val (.int p2), .val (.int p3), .val (.int p4), .val (.int p5), .val (.int c8), .val (.int c9), .val (.int c10), .val (.int c11), .val (.int c12), .val (.int c13), .val (.int c14), .val (.int c15), .val (.int c16), .val (.int c17), .val (.int c18), .val (.int c19), .val (.int c20), .unset, .unset, .unset, .unset, .unset, .unset, .unset, .unset, .unset, .unset, .unset, .unset] [(.int (1 : Int32)), (.int ((p5.toUInt32 >>> ((10 : Int32) &&& 31).toUInt32).toInt32))])) _
      refine XS.iand X0.here hx rfl (hb hby at_216) rfl ?_
      show Steps p.tables e below (s₁.setTop (mkF m 217 #[.val (.long p0), .second, .val (.long p1), .second, .val (.int p2), .val (.int p3), .val (.int p4), .val (.int p5), .val (.int c8), .val (.int c9), .val (.int c10), .val (.int c11), .val (.int c12), .val (.int c13), .val (.int c14), .val (.int c15), .val (.int c16), .val (.int c17), .val (.int c18), .val (.int c19), .val (.int c20), .unset, .unset, .unset, .unset, .unset, .unset, .unset, .unset, .unset, .unset, .unset, .unset] [(.int (((p5.toUInt32 >>> ((10 : Int32) &&& 31).toUInt32).toInt32) &&& (1 : Int32)))])) _
      refine XS.iconst X0.here hx rfl (hb hby at_217) ?_
      show Steps p.tables e below (s₁.setTop (mkF m 218 #[.val (.long p0), .second, .val (.long p1), .second, .val (.int p2), .val (.int p3), .val (.int p4), .val (.int p5), .val (.int c8), .val (.int c9), .val (.int c10), .val (.int c11), .val (.int c12), .val (.int c13), .val (.int c14), .val (.int c15), .val (.int c16), .val (.int c17), .val (.int c18), .val (.int c19), .val (.int c20), .unset, .unset, .unset, .unset, .unset, .unset, .unset, .unset, .unset, .unset, .unset, .unset] [(.int (1 : Int32)), (.int (((p5.toUInt32 >>> ((10 : Int32) &&& 31).toUInt32).toInt32) &&& (1 : Int32)))])) _
      refine XS.iadd X0.here hx rfl (hb hby at_218) rfl ?_
      exact hk
    · skip
      refine ⟨c11, hc11, fun target hk => ?_⟩
      show Steps p.tables e below (s₁.setTop (mkF m 200 #[.val (.long p0), .second, .val (.long p1), .second, .val (.int p2), .val (.int p3), .val (.int p4), .val (.int p5), .val (.int c8), .val (.int c9), .val (.int c10), .val (.int c11), .val (.int c12), .val (.int c13), .val (.int c14), .val (.int c15), .val (.int c16), .val (.int c17), .val (.int c18), .val (.int c19), .val (.int c20), .unset, .unset, .unset, .unset, .unset, .unset, .unset, .unset, .unset, .unset, .unset, .unset] [])) _
      refine XS.iload X0.here hx rfl (hb hby at_200) rfl ?_
      show Steps p.tables e below (s₁.setTop (mkF m 202 #[.val (.long p0), .second, .val (.long p1), .second, .val (.int p2), .val (.int p3), .val (.int p4), .val (.int p5), .val (.int c8), .val (.int c9), .val (.int c10), .val (.int c11), .val (.int c12), .val (.int c13), .val (.int c14), .val (.int c15), .val (.int c16), .val (.int c17), .val (.int c18), .val (.int c19), .val (.int c20), .unset, .unset, .unset, .unset, .unset, .unset, .unset, .unset, .unset, .unset, .unset, .unset] [(.int c9)])) _
      refine XS.ifNo X0.here hx rfl (hb hby at_202) rfl ((if0 _ _).trans (feq hc).1) ?_
      show Steps p.tables e below (s₁.setTop (mkF m 205 #[.val (.long p0), .second, .val (.long p1), .second, .val (.int p2), .val (.int p3), .val (.int p4), .val (.int p5), .val (.int c8), .val (.int c9), .val (.int c10), .val (.int c11), .val (.int c12), .val (.int c13), .val (.int c14), .val (.int c15), .val (.int c16), .val (.int c17), .val (.int c18), .val (.int c19), .val (.int c20), .unset, .unset, .unset, .unset, .unset, .unset, .unset, .unset, .unset, .unset, .unset, .unset] [])) _
      refine XS.iload X0.here hx rfl (hb hby at_205) rfl ?_
      show Steps p.tables e below (s₁.setTop (mkF m 207 #[.val (.long p0), .second, .val (.long p1), .second, .val (.int p2), .val (.int p3), .val (.int p4), .val (.int p5), .val (.int c8), .val (.int c9), .val (.int c10), .val (.int c11), .val (.int c12), .val (.int c13), .val (.int c14), .val (.int c15), .val (.int c16), .val (.int c17), .val (.int c18), .val (.int c19), .val (.int c20), .unset, .unset, .unset, .unset, .unset, .unset, .unset, .unset, .unset, .unset, .unset, .unset] [(.int c11)])) _
      refine XS.goto X0.here hx rfl (pc0 := 207) (pc' := 219) rfl (hb hby at_207) (by decide) (by decide) ?_
      exact hk
  obtain ⟨c22, st103⟩ : ∃ (c22 : Int32), ∀ target, Steps p.tables e below (s₁.setTop (mkF m 239 #[.val (.long p0), .second, .val (.long p1), .second, .val (.int p2), .val (.int p3), .val (.int p4), .val (.int p5), .val (.int c8), .val (.int c9), .val (.int c10), .val (.int c11), .val (.int c12), .val (.int c13), .val (.int c14), .val (.int c15), .val (.int c16), .val (.int c17), .val (.int c18), .val (.int c19), .val (.int c20), .val (.int c21), .unset, .unset, .unset, .unset, .unset, .unset, .unset, .unset, .unset, .unset, .unset] [(.int c22)])) target → Steps p.tables e below (s₁.setTop (mkF m 221 #[.val (.long p0), .second, .val (.long p1), .second, .val (.int p2), .val (.int p3), .val (.int p4), .val (.int p5), .val (.int c8), .val (.int c9), .val (.int c10), .val (.int c11), .val (.int c12), .val (.int c13), .val (.int c14), .val (.int c15), .val (.int c16), .val (.int c17), .val (.int c18), .val (.int c19), .val (.int c20), .val (.int c21), .unset, .unset, .unset, .unset, .unset, .unset, .unset, .unset, .unset, .unset, .unset] [])) target := by
    by_cases hc : (p5 &&& (16 : Int32)) = (0 : Int32)
    · skip
      refine ⟨((p1 >>> ((32 : Int32) &&& 0x3f).toInt64).toInt32), fun target hk => ?_⟩
      show Steps p.tables e below (s₁.setTop (mkF m 221 #[.val (.long p0), .second, .val (.long p1), .second, .val (.int p2), .val (.int p3), .val (.int p4), .val (.int p5), .val (.int c8), .val (.int c9), .val (.int c10), .val (.int c11), .val (.int c12), .val (.int c13), .val (.int c14), .val (.int c15), .val (.int c16), .val (.int c17), .val (.int c18), .val (.int c19), .val (.int c20), .val (.int c21), .unset, .unset, .unset, .unset, .unset, .unset, .unset, .unset, .unset, .unset, .unset] [])) _
      refine XS.iload X0.here hx rfl (hb hby at_221) rfl ?_
      show Steps p.tables e below (s₁.setTop (mkF m 223 #[.val (.long p0), .second, .val (.long p1), .second, .val (.int p2), .val (.int p3), .val (.int p4), .val (.int p5), .val (.int c8), .val (.int c9), .val (.int c10), .val (.int c11), .val (.int c12), .val (.int c13), .val (.int c14), .val (.int c15), .val (.int c16), .val (.int c17), .val (.int c18), .val (.int c19), .val (.int c20), .val (.int c21), .unset, .unset, .unset, .unset, .unset, .unset, .unset, .unset, .unset, .unset, .unset] [(.int p5)])) _
      refine XS.bipush X0.here hx rfl (hb hby at_223) ?_
      show Steps p.tables e below (s₁.setTop (mkF m 225 #[.val (.long p0), .second, .val (.long p1), .second, .val (.int p2), .val (.int p3), .val (.int p4), .val (.int p5), .val (.int c8), .val (.int c9), .val (.int c10), .val (.int c11), .val (.int c12), .val (.int c13), .val (.int c14), .val (.int c15), .val (.int c16), .val (.int c17), .val (.int c18), .val (.int c19), .val (.int c20), .val (.int c21), .unset, .unset, .unset, .unset, .unset, .unset, .unset, .unset, .unset, .unset, .unset] [(.int (16 : Int32)), (.int p5)])) _
      refine XS.iand X0.here hx rfl (hb hby at_225) rfl ?_
      show Steps p.tables e below (s₁.setTop (mkF m 226 #[.val (.long p0), .second, .val (.long p1), .second, .val (.int p2), .val (.int p3), .val (.int p4), .val (.int p5), .val (.int c8), .val (.int c9), .val (.int c10), .val (.int c11), .val (.int c12), .val (.int c13), .val (.int c14), .val (.int c15), .val (.int c16), .val (.int c17), .val (.int c18), .val (.int c19), .val (.int c20), .val (.int c21), .unset, .unset, .unset, .unset, .unset, .unset, .unset, .unset, .unset, .unset, .unset] [(.int (p5 &&& (16 : Int32)))])) _
      refine XS.ifYes X0.here hx rfl (pc0 := 226) (pc' := 234) rfl (hb hby at_226) rfl ((if0 _ _).trans (teq hc).1) (by decide) (by decide) ?_
      show Steps p.tables e below (s₁.setTop (mkF m 234 #[.val (.long p0), .second, .val (.long p1), .second, .val (.int p2), .val (.int p3), .val (.int p4), .val (.int p5), .val (.int c8), .val (.int c9), .val (.int c10), .val (.int c11), .val (.int c12), .val (.int c13), .val (.int c14), .val (.int c15), .val (.int c16), .val (.int c17), .val (.int c18), .val (.int c19), .val (.int c20), .val (.int c21), .unset, .unset, .unset, .unset, .unset, .unset, .unset, .unset, .unset, .unset, .unset] [])) _
      refine XS.lloadN X0.here hx rfl (hb hby at_234) rfl ?_
      show Steps p.tables e below (s₁.setTop (mkF m 235 #[.val (.long p0), .second, .val (.long p1), .second, .val (.int p2), .val (.int p3), .val (.int p4), .val (.int p5), .val (.int c8), .val (.int c9), .val (.int c10), .val (.int c11), .val (.int c12), .val (.int c13), .val (.int c14), .val (.int c15), .val (.int c16), .val (.int c17), .val (.int c18), .val (.int c19), .val (.int c20), .val (.int c21), .unset, .unset, .unset, .unset, .unset, .unset, .unset, .unset, .unset, .unset, .unset] [(.long p1)])) _
      refine XS.bipush X0.here hx rfl (hb hby at_235) ?_
      show Steps p.tables e below (s₁.setTop (mkF m 237 #[.val (.long p0), .second, .val (.long p1), .second, .val (.int p2), .val (.int p3), .val (.int p4), .val (.int p5), .val (.int c8), .val (.int c9), .val (.int c10), .val (.int c11), .val (.int c12), .val (.int c13), .val (.int c14), .val (.int c15), .val (.int c16), .val (.int c17), .val (.int c18), .val (.int c19), .val (.int c20), .val (.int c21), .unset, .unset, .unset, .unset, .unset, .unset, .unset, .unset, .unset, .unset, .unset] [(.int (32 : Int32)), (.long p1)])) _
      refine XS.lshr X0.here hx rfl (hb hby at_237) rfl ?_
      show Steps p.tables e below (s₁.setTop (mkF m 238 #[.val (.long p0), .second, .val (.long p1), .second, .val (.int p2), .val (.int p3), .val (.int p4), .val (.int p5), .val (.int c8), .val (.int c9), .val (.int c10), .val (.int c11), .val (.int c12), .val (.int c13), .val (.int c14), .val (.int c15), .val (.int c16), .val (.int c17), .val (.int c18), .val (.int c19), .val (.int c20), .val (.int c21), .unset, .unset, .unset, .unset, .unset, .unset, .unset, .unset, .unset, .unset, .unset] [(.long (p1 >>> ((32 : Int32) &&& 0x3f).toInt64))])) _
      refine XS.l2i X0.here hx rfl (hb hby at_238) rfl ?_
      exact hk
    · skip
      refine ⟨p2, fun target hk => ?_⟩
      show Steps p.tables e below (s₁.setTop (mkF m 221 #[.val (.long p0), .second, .val (.long p1), .second, .val (.int p2), .val (.int p3), .val (.int p4), .val (.int p5), .val (.int c8), .val (.int c9), .val (.int c10), .val (.int c11), .val (.int c12), .val (.int c13), .val (.int c14), .val (.int c15), .val (.int c16), .val (.int c17), .val (.int c18), .val (.int c19), .val (.int c20), .val (.int c21), .unset, .unset, .unset, .unset, .unset, .unset, .unset, .unset, .unset, .unset, .unset] [])) _
      refine XS.iload X0.here hx rfl (hb hby at_221) rfl ?_
      show Steps p.tables e below (s₁.setTop (mkF m 223 #[.val (.long p0), .second, .val (.long p1), .second, .val (.int p2), .val (.int p3), .val (.int p4), .val (.int p5), .val (.int c8), .val (.int c9), .val (.int c10), .val (.int c11), .val (.int c12), .val (.int c13), .val (.int c14), .val (.int c15), .val (.int c16), .val (.int c17), .val (.int c18), .val (.int c19), .val (.int c20), .val (.int c21), .unset, .unset, .unset, .unset, .unset, .unset, .unset, .unset, .unset, .unset, .unset] [(.int p5)])) _
      refine XS.bipush X0.here hx rfl (hb hby at_223) ?_
      show Steps p.tables e below (s₁.setTop (mkF m 225 #[.val (.long p0), .second, .val (.long p1), .second, .val (.int p2), .val (.int p3), .val (.int p4), .val (.int p5), .val (.int c8), .val (.int c9), .val (.int c10), .val (.int c11), .val (.int c12), .val (.int c13), .val (.int c14), .val (.int c15), .val (.int c16), .val (.int c17), .val (.int c18), .val (.int c19), .val (.int c20), .val (.int c21), .unset, .unset, .unset, .unset, .unset, .unset, .unset, .unset, .unset, .unset, .unset] [(.int (16 : Int32)), (.int p5)])) _
      refine XS.iand X0.here hx rfl (hb hby at_225) rfl ?_
      show Steps p.tables e below (s₁.setTop (mkF m 226 #[.val (.long p0), .second, .val (.long p1), .second, .val (.int p2), .val (.int p3), .val (.int p4), .val (.int p5), .val (.int c8), .val (.int c9), .val (.int c10), .val (.int c11), .val (.int c12), .val (.int c13), .val (.int c14), .val (.int c15), .val (.int c16), .val (.int c17), .val (.int c18), .val (.int c19), .val (.int c20), .val (.int c21), .unset, .unset, .unset, .unset, .unset, .unset, .unset, .unset, .unset, .unset, .unset] [(.int (p5 &&& (16 : Int32)))])) _
      refine XS.ifNo X0.here hx rfl (hb hby at_226) rfl ((if0 _ _).trans (feq hc).1) ?_
      show Steps p.tables e below (s₁.setTop (mkF m 229 #[.val (.long p0), .second, .val (.long p1), .second, .val (.int p2), .val (.int p3), .val (.int p4), .val (.int p5), .val (.int c8), .val (.int c9), .val (.int c10), .val (.int c11), .val (.int c12), .val (.int c13), .val (.int c14), .val (.int c15), .val (.int c16), .val (.int c17), .val (.int c18), .val (.int c19), .val (.int c20), .val (.int c21), .unset, .unset, .unset, .unset, .unset, .unset, .unset, .unset, .unset, .unset, .unset] [])) _
      refine XS.iload X0.here hx rfl (hb hby at_229) rfl ?_
      show Steps p.tables e below (s₁.setTop (mkF m 231 #[.val (.long p0), .second, .val (.long p1), .second, .val (.int p2), .val (.int p3), .val (.int p4), .val (.int p5), .val (.int c8), .val (.int c9), .val (.int c10), .val (.int c11), .val (.int c12), .val (.int c13), .val (.int c14), .val (.int c15), .val (.int c16), .val (.int c17), .val (.int c18), .val (.int c19), .val (.int c20), .val (.int c21), .unset, .unset, .unset, .unset, .unset, .unset, .unset, .unset, .unset, .unset, .unset] [(.int p2)])) _
      refine XS.goto X0.here hx rfl (pc0 := 231) (pc' := 239) rfl (hb hby at_231) (by decide) (by decide) ?_
      exact hk
  obtain ⟨c23, st104⟩ : ∃ (c23 : Int32), ∀ target, Steps p.tables e below (s₁.setTop (mkF m 262 #[.val (.long p0), .second, .val (.long p1), .second, .val (.int p2), .val (.int p3), .val (.int p4), .val (.int p5), .val (.int c8), .val (.int c9), .val (.int c10), .val (.int c11), .val (.int c12), .val (.int c13), .val (.int c14), .val (.int c15), .val (.int c16), .val (.int c17), .val (.int c18), .val (.int c19), .val (.int c20), .val (.int c21), .val (.int c22), .unset, .unset, .unset, .unset, .unset, .unset, .unset, .unset, .unset, .unset] [(.int c23)])) target → Steps p.tables e below (s₁.setTop (mkF m 241 #[.val (.long p0), .second, .val (.long p1), .second, .val (.int p2), .val (.int p3), .val (.int p4), .val (.int p5), .val (.int c8), .val (.int c9), .val (.int c10), .val (.int c11), .val (.int c12), .val (.int c13), .val (.int c14), .val (.int c15), .val (.int c16), .val (.int c17), .val (.int c18), .val (.int c19), .val (.int c20), .val (.int c21), .val (.int c22), .unset, .unset, .unset, .unset, .unset, .unset, .unset, .unset, .unset, .unset] [])) target := by
    by_cases hc : (p5 &&& (32 : Int32)) = (0 : Int32)
    · skip
      refine ⟨(p3 ^^^ ((p0 >>> ((32 : Int32) &&& 0x3f).toInt64).toInt32)), fun target hk => ?_⟩
      show Steps p.tables e below (s₁.setTop (mkF m 241 #[.val (.long p0), .second, .val (.long p1), .second, .val (.int p2), .val (.int p3), .val (.int p4), .val (.int p5), .val (.int c8), .val (.int c9), .val (.int c10), .val (.int c11), .val (.int c12), .val (.int c13), .val (.int c14), .val (.int c15), .val (.int c16), .val (.int c17), .val (.int c18), .val (.int c19), .val (.int c20), .val (.int c21), .val (.int c22), .unset, .unset, .unset, .unset, .unset, .unset, .unset, .unset, .unset, .unset] [])) _
      refine XS.iload X0.here hx rfl (hb hby at_241) rfl ?_
      show Steps p.tables e below (s₁.setTop (mkF m 243 #[.val (.long p0), .second, .val (.long p1), .second, .val (.int p2), .val (.int p3), .val (.int p4), .val (.int p5), .val (.int c8), .val (.int c9), .val (.int c10), .val (.int c11), .val (.int c12), .val (.int c13), .val (.int c14), .val (.int c15), .val (.int c16), .val (.int c17), .val (.int c18), .val (.int c19), .val (.int c20), .val (.int c21), .val (.int c22), .unset, .unset, .unset, .unset, .unset, .unset, .unset, .unset, .unset, .unset] [(.int p5)])) _
      refine XS.bipush X0.here hx rfl (hb hby at_243) ?_
      show Steps p.tables e below (s₁.setTop (mkF m 245 #[.val (.long p0), .second, .val (.long p1), .second, .val (.int p2), .val (.int p3), .val (.int p4), .val (.int p5), .val (.int c8), .val (.int c9), .val (.int c10), .val (.int c11), .val (.int c12), .val (.int c13), .val (.int c14), .val (.int c15), .val (.int c16), .val (.int c17), .val (.int c18), .val (.int c19), .val (.int c20), .val (.int c21), .val (.int c22), .unset, .unset, .unset, .unset, .unset, .unset, .unset, .unset, .unset, .unset] [(.int (32 : Int32)), (.int p5)])) _
      refine XS.iand X0.here hx rfl (hb hby at_245) rfl ?_
      show Steps p.tables e below (s₁.setTop (mkF m 246 #[.val (.long p0), .second, .val (.long p1), .second, .val (.int p2), .val (.int p3), .val (.int p4), .val (.int p5), .val (.int c8), .val (.int c9), .val (.int c10), .val (.int c11), .val (.int c12), .val (.int c13), .val (.int c14), .val (.int c15), .val (.int c16), .val (.int c17), .val (.int c18), .val (.int c19), .val (.int c20), .val (.int c21), .val (.int c22), .unset, .unset, .unset, .unset, .unset, .unset, .unset, .unset, .unset, .unset] [(.int (p5 &&& (32 : Int32)))])) _
      refine XS.ifYes X0.here hx rfl (pc0 := 246) (pc' := 254) rfl (hb hby at_246) rfl ((if0 _ _).trans (teq hc).1) (by decide) (by decide) ?_
      show Steps p.tables e below (s₁.setTop (mkF m 254 #[.val (.long p0), .second, .val (.long p1), .second, .val (.int p2), .val (.int p3), .val (.int p4), .val (.int p5), .val (.int c8), .val (.int c9), .val (.int c10), .val (.int c11), .val (.int c12), .val (.int c13), .val (.int c14), .val (.int c15), .val (.int c16), .val (.int c17), .val (.int c18), .val (.int c19), .val (.int c20), .val (.int c21), .val (.int c22), .unset, .unset, .unset, .unset, .unset, .unset, .unset, .unset, .unset, .unset] [])) _
      refine XS.iload X0.here hx rfl (hb hby at_254) rfl ?_
      show Steps p.tables e below (s₁.setTop (mkF m 256 #[.val (.long p0), .second, .val (.long p1), .second, .val (.int p2), .val (.int p3), .val (.int p4), .val (.int p5), .val (.int c8), .val (.int c9), .val (.int c10), .val (.int c11), .val (.int c12), .val (.int c13), .val (.int c14), .val (.int c15), .val (.int c16), .val (.int c17), .val (.int c18), .val (.int c19), .val (.int c20), .val (.int c21), .val (.int c22), .unset, .unset, .unset, .unset, .unset, .unset, .unset, .unset, .unset, .unset] [(.int p3)])) _
      refine XS.lloadN X0.here hx rfl (hb hby at_256) rfl ?_
      show Steps p.tables e below (s₁.setTop (mkF m 257 #[.val (.long p0), .second, .val (.long p1), .second, .val (.int p2), .val (.int p3), .val (.int p4), .val (.int p5), .val (.int c8), .val (.int c9), .val (.int c10), .val (.int c11), .val (.int c12), .val (.int c13), .val (.int c14), .val (.int c15), .val (.int c16), .val (.int c17), .val (.int c18), .val (.int c19), .val (.int c20), .val (.int c21), .val (.int c22), .unset, .unset, .unset, .unset, .unset, .unset, .unset, .unset, .unset, .unset] [(.long p0), (.int p3)])) _
      refine XS.bipush X0.here hx rfl (hb hby at_257) ?_
      show Steps p.tables e below (s₁.setTop (mkF m 259 #[.val (.long p0), .second, .val (.long p1), .second, .val (.int p2), .val (.int p3), .val (.int p4), .val (.int p5), .val (.int c8), .val (.int c9), .val (.int c10), .val (.int c11), .val (.int c12), .val (.int c13), .val (.int c14), .val (.int c15), .val (.int c16), .val (.int c17), .val (.int c18), .val (.int c19), .val (.int c20), .val (.int c21), .val (.int c22), .unset, .unset, .unset, .unset, .unset, .unset, .unset, .unset, .unset, .unset] [(.int (32 : Int32)), (.long p0), (.int p3)])) _
      refine XS.lshr X0.here hx rfl (hb hby at_259) rfl ?_
      show Steps p.tables e below (s₁.setTop (mkF m 260 #[.val (.long p0), .second, .val (.long p1), .second, .val (.int p2), .val (.int p3), .val (.int p4), .val (.int p5), .val (.int c8), .val (.int c9), .val (.int c10), .val (.int c11), .val (.int c12), .val (.int c13), .val (.int c14), .val (.int c15), .val (.int c16), .val (.int c17), .val (.int c18), .val (.int c19), .val (.int c20), .val (.int c21), .val (.int c22), .unset, .unset, .unset, .unset, .unset, .unset, .unset, .unset, .unset, .unset] [(.long (p0 >>> ((32 : Int32) &&& 0x3f).toInt64)), (.int p3)])) _
      refine XS.l2i X0.here hx rfl (hb hby at_260) rfl ?_
      show Steps p.tables e below (s₁.setTop (mkF m 261 #[.val (.long p0), .second, .val (.long p1), .second, .val (.int p2), .val (.int p3), .val (.int p4), .val (.int p5), .val (.int c8), .val (.int c9), .val (.int c10), .val (.int c11), .val (.int c12), .val (.int c13), .val (.int c14), .val (.int c15), .val (.int c16), .val (.int c17), .val (.int c18), .val (.int c19), .val (.int c20), .val (.int c21), .val (.int c22), .unset, .unset, .unset, .unset, .unset, .unset, .unset, .unset, .unset, .unset] [(.int ((p0 >>> ((32 : Int32) &&& 0x3f).toInt64).toInt32)), (.int p3)])) _
      refine XS.ixor X0.here hx rfl (hb hby at_261) rfl ?_
      exact hk
    · skip
      refine ⟨p3, fun target hk => ?_⟩
      show Steps p.tables e below (s₁.setTop (mkF m 241 #[.val (.long p0), .second, .val (.long p1), .second, .val (.int p2), .val (.int p3), .val (.int p4), .val (.int p5), .val (.int c8), .val (.int c9), .val (.int c10), .val (.int c11), .val (.int c12), .val (.int c13), .val (.int c14), .val (.int c15), .val (.int c16), .val (.int c17), .val (.int c18), .val (.int c19), .val (.int c20), .val (.int c21), .val (.int c22), .unset, .unset, .unset, .unset, .unset, .unset, .unset, .unset, .unset, .unset] [])) _
      refine XS.iload X0.here hx rfl (hb hby at_241) rfl ?_
      show Steps p.tables e below (s₁.setTop (mkF m 243 #[.val (.long p0), .second, .val (.long p1), .second, .val (.int p2), .val (.int p3), .val (.int p4), .val (.int p5), .val (.int c8), .val (.int c9), .val (.int c10), .val (.int c11), .val (.int c12), .val (.int c13), .val (.int c14), .val (.int c15), .val (.int c16), .val (.int c17), .val (.int c18), .val (.int c19), .val (.int c20), .val (.int c21), .val (.int c22), .unset, .unset, .unset, .unset, .unset, .unset, .unset, .unset, .unset, .unset] [(.int p5)])) _
      refine XS.bipush X0.here hx rfl (hb hby at_243) ?_
      show Steps p.tables e below (s₁.setTop (mkF m 245 #[.val (.long p0), .second, .val (.long p1), .second, .val (.int p2), .val (.int p3), .val (.int p4), .val (.int p5), .val (.int c8), .val (.int c9), .val (.int c10), .val (.int c11), .val (.int c12), .val (.int c13), .val (.int c14), .val (.int c15), .val (.int c16), .val (.int c17), .val (.int c18), .val (.int c19), .val (.int c20), .val (.int c21), .val (.int c22), .unset, .unset, .unset, .unset, .unset, .unset, .unset, .unset, .unset, .unset] [(.int (32 : Int32)), (.int p5)])) _
      refine XS.iand X0.here hx rfl (hb hby at_245) rfl ?_
      show Steps p.tables e below (s₁.setTop (mkF m 246 #[.val (.long p0), .second, .val (.long p1), .second, .val (.int p2), .val (.int p3), .val (.int p4), .val (.int p5), .val (.int c8), .val (.int c9), .val (.int c10), .val (.int c11), .val (.int c12), .val (.int c13), .val (.int c14), .val (.int c15), .val (.int c16), .val (.int c17), .val (.int c18), .val (.int c19), .val (.int c20), .val (.int c21), .val (.int c22), .unset, .unset, .unset, .unset, .unset, .unset, .unset, .unset, .unset, .unset] [(.int (p5 &&& (32 : Int32)))])) _
      refine XS.ifNo X0.here hx rfl (hb hby at_246) rfl ((if0 _ _).trans (feq hc).1) ?_
      show Steps p.tables e below (s₁.setTop (mkF m 249 #[.val (.long p0), .second, .val (.long p1), .second, .val (.int p2), .val (.int p3), .val (.int p4), .val (.int p5), .val (.int c8), .val (.int c9), .val (.int c10), .val (.int c11), .val (.int c12), .val (.int c13), .val (.int c14), .val (.int c15), .val (.int c16), .val (.int c17), .val (.int c18), .val (.int c19), .val (.int c20), .val (.int c21), .val (.int c22), .unset, .unset, .unset, .unset, .unset, .unset, .unset, .unset, .unset, .unset] [])) _
      refine XS.iload X0.here hx rfl (hb hby at_249) rfl ?_
      show Steps p.tables e below (s₁.setTop (mkF m 251 #[.val (.long p0), .second, .val (.long p1), .second, .val (.int p2), .val (.int p3), .val (.int p4), .val (.int p5), .val (.int c8), .val (.int c9), .val (.int c10), .val (.int c11), .val (.int c12), .val (.int c13), .val (.int c14), .val (.int c15), .val (.int c16), .val (.int c17), .val (.int c18), .val (.int c19), .val (.int c20), .val (.int c21), .val (.int c22), .unset, .unset, .unset, .unset, .unset, .unset, .unset, .unset, .unset, .unset] [(.int p3)])) _
      refine XS.goto X0.here hx rfl (pc0 := 251) (pc' := 262) rfl (hb hby at_251) (by decide) (by decide) ?_
      exact hk
  obtain ⟨c24, st105⟩ : ∃ (c24 : Int32), ∀ target, Steps p.tables e below (s₁.setTop (mkF m 285 #[.val (.long p0), .second, .val (.long p1), .second, .val (.int p2), .val (.int p3), .val (.int p4), .val (.int p5), .val (.int c8), .val (.int c9), .val (.int c10), .val (.int c11), .val (.int c12), .val (.int c13), .val (.int c14), .val (.int c15), .val (.int c16), .val (.int c17), .val (.int c18), .val (.int c19), .val (.int c20), .val (.int c21), .val (.int c22), .val (.int c23), .unset, .unset, .unset, .unset, .unset, .unset, .unset, .unset, .unset] [(.int c24)])) target → Steps p.tables e below (s₁.setTop (mkF m 264 #[.val (.long p0), .second, .val (.long p1), .second, .val (.int p2), .val (.int p3), .val (.int p4), .val (.int p5), .val (.int c8), .val (.int c9), .val (.int c10), .val (.int c11), .val (.int c12), .val (.int c13), .val (.int c14), .val (.int c15), .val (.int c16), .val (.int c17), .val (.int c18), .val (.int c19), .val (.int c20), .val (.int c21), .val (.int c22), .val (.int c23), .unset, .unset, .unset, .unset, .unset, .unset, .unset, .unset, .unset] [])) target := by
    by_cases hc : (p5 &&& (64 : Int32)) = (0 : Int32)
    · skip
      refine ⟨(p4 + (p5 >>> ((11 : Int32) &&& 31))), fun target hk => ?_⟩
      show Steps p.tables e below (s₁.setTop (mkF m 264 #[.val (.long p0), .second, .val (.long p1), .second, .val (.int p2), .val (.int p3), .val (.int p4), .val (.int p5), .val (.int c8), .val (.int c9), .val (.int c10), .val (.int c11), .val (.int c12), .val (.int c13), .val (.int c14), .val (.int c15), .val (.int c16), .val (.int c17), .val (.int c18), .val (.int c19), .val (.int c20), .val (.int c21), .val (.int c22), .val (.int c23), .unset, .unset, .unset, .unset, .unset, .unset, .unset, .unset, .unset] [])) _
      refine XS.iload X0.here hx rfl (hb hby at_264) rfl ?_
      show Steps p.tables e below (s₁.setTop (mkF m 266 #[.val (.long p0), .second, .val (.long p1), .second, .val (.int p2), .val (.int p3), .val (.int p4), .val (.int p5), .val (.int c8), .val (.int c9), .val (.int c10), .val (.int c11), .val (.int c12), .val (.int c13), .val (.int c14), .val (.int c15), .val (.int c16), .val (.int c17), .val (.int c18), .val (.int c19), .val (.int c20), .val (.int c21), .val (.int c22), .val (.int c23), .unset, .unset, .unset, .unset, .unset, .unset, .unset, .unset, .unset] [(.int p5)])) _
      refine XS.bipush X0.here hx rfl (hb hby at_266) ?_
      show Steps p.tables e below (s₁.setTop (mkF m 268 #[.val (.long p0), .second, .val (.long p1), .second, .val (.int p2), .val (.int p3), .val (.int p4), .val (.int p5), .val (.int c8), .val (.int c9), .val (.int c10), .val (.int c11), .val (.int c12), .val (.int c13), .val (.int c14), .val (.int c15), .val (.int c16), .val (.int c17), .val (.int c18), .val (.int c19), .val (.int c20), .val (.int c21), .val (.int c22), .val (.int c23), .unset, .unset, .unset, .unset, .unset, .unset, .unset, .unset, .unset] [(.int (64 : Int32)), (.int p5)])) _
      refine XS.iand X0.here hx rfl (hb hby at_268) rfl ?_
      show Steps p.tables e below (s₁.setTop (mkF m 269 #[.val (.long p0), .second, .val (.long p1), .second, .val (.int p2), .val (.int p3), .val (.int p4), .val (.int p5), .val (.int c8), .val (.int c9), .val (.int c10), .val (.int c11), .val (.int c12), .val (.int c13), .val (.int c14), .val (.int c15), .val (.int c16), .val (.int c17), .val (.int c18), .val (.int c19), .val (.int c20), .val (.int c21), .val (.int c22), .val (.int c23), .unset, .unset, .unset, .unset, .unset, .unset, .unset, .unset, .unset] [(.int (p5 &&& (64 : Int32)))])) _
      refine XS.ifYes X0.here hx rfl (pc0 := 269) (pc' := 277) rfl (hb hby at_269) rfl ((if0 _ _).trans (teq hc).1) (by decide) (by decide) ?_
      show Steps p.tables e below (s₁.setTop (mkF m 277 #[.val (.long p0), .second, .val (.long p1), .second, .val (.int p2), .val (.int p3), .val (.int p4), .val (.int p5), .val (.int c8), .val (.int c9), .val (.int c10), .val (.int c11), .val (.int c12), .val (.int c13), .val (.int c14), .val (.int c15), .val (.int c16), .val (.int c17), .val (.int c18), .val (.int c19), .val (.int c20), .val (.int c21), .val (.int c22), .val (.int c23), .unset, .unset, .unset, .unset, .unset, .unset, .unset, .unset, .unset] [])) _
      refine XS.iload X0.here hx rfl (hb hby at_277) rfl ?_
      show Steps p.tables e below (s₁.setTop (mkF m 279 #[.val (.long p0), .second, .val (.long p1), .second, .val (.int p2), .val (.int p3), .val (.int p4), .val (.int p5), .val (.int c8), .val (.int c9), .val (.int c10), .val (.int c11), .val (.int c12), .val (.int c13), .val (.int c14), .val (.int c15), .val (.int c16), .val (.int c17), .val (.int c18), .val (.int c19), .val (.int c20), .val (.int c21), .val (.int c22), .val (.int c23), .unset, .unset, .unset, .unset, .unset, .unset, .unset, .unset, .unset] [(.int p4)])) _
      refine XS.iload X0.here hx rfl (hb hby at_279) rfl ?_
      show Steps p.tables e below (s₁.setTop (mkF m 281 #[.val (.long p0), .second, .val (.long p1), .second, .val (.int p2), .val (.int p3), .val (.int p4), .val (.int p5), .val (.int c8), .val (.int c9), .val (.int c10), .val (.int c11), .val (.int c12), .val (.int c13), .val (.int c14), .val (.int c15), .val (.int c16), .val (.int c17), .val (.int c18), .val (.int c19), .val (.int c20), .val (.int c21), .val (.int c22), .val (.int c23), .unset, .unset, .unset, .unset, .unset, .unset, .unset, .unset, .unset] [(.int p5), (.int p4)])) _
      refine XS.bipush X0.here hx rfl (hb hby at_281) ?_
      show Steps p.tables e below (s₁.setTop (mkF m 283 #[.val (.long p0), .second, .val (.long p1), .second, .val (.int p2), .val (.int p3), .val (.int p4), .val (.int p5), .val (.int c8), .val (.int c9), .val (.int c10), .val (.int c11), .val (.int c12), .val (.int c13), .val (.int c14), .val (.int c15), .val (.int c16), .val (.int c17), .val (.int c18), .val (.int c19), .val (.int c20), .val (.int c21), .val (.int c22), .val (.int c23), .unset, .unset, .unset, .unset, .unset, .unset, .unset, .unset, .unset] [(.int (11 : Int32)), (.int p5), (.int p4)])) _
      refine XS.ishr X0.here hx rfl (hb hby at_283) rfl ?_
      show Steps p.tables e below (s₁.setTop (mkF m 284 #[.val (.long p0), .second, .val (.long p1), .second, .val (.int p2), .val (.int p3), .val (.int p4), .val (.int p5), .val (.int c8), .val (.int c9), .val (.int c10), .val (.int c11), .val (.int c12), .val (.int c13), .val (.int c14), .val (.int c15), .val (.int c16), .val (.int c17), .val (.int c18), .val (.int c19), .val (.int c20), .val (.int c21), .val (.int c22), .val (.int c23), .unset, .unset, .unset, .unset, .unset, .unset, .unset, .unset, .unset] [(.int (p5 >>> ((11 : Int32) &&& 31))), (.int p4)])) _
      refine XS.iadd X0.here hx rfl (hb hby at_284) rfl ?_
      exact hk
    · skip
      refine ⟨p4, fun target hk => ?_⟩
      show Steps p.tables e below (s₁.setTop (mkF m 264 #[.val (.long p0), .second, .val (.long p1), .second, .val (.int p2), .val (.int p3), .val (.int p4), .val (.int p5), .val (.int c8), .val (.int c9), .val (.int c10), .val (.int c11), .val (.int c12), .val (.int c13), .val (.int c14), .val (.int c15), .val (.int c16), .val (.int c17), .val (.int c18), .val (.int c19), .val (.int c20), .val (.int c21), .val (.int c22), .val (.int c23), .unset, .unset, .unset, .unset, .unset, .unset, .unset, .unset, .unset] [])) _
      refine XS.iload X0.here hx rfl (hb hby at_264) rfl ?_
      show Steps p.tables e below (s₁.setTop (mkF m 266 #[.val (.long p0), .second, .val (.long p1), .second, .val (.int p2), .val (.int p3), .val (.int p4), .val (.int p5), .val (.int c8), .val (.int c9), .val (.int c10), .val (.int c11), .val (.int c12), .val (.int c13), .val (.int c14), .val (.int c15), .val (.int c16), .val (.int c17), .val (.int c18), .val (.int c19), .val (.int c20), .val (.int c21), .val (.int c22), .val (.int c23), .unset, .unset, .unset, .unset, .unset, .unset, .unset, .unset, .unset] [(.int p5)])) _
      refine XS.bipush X0.here hx rfl (hb hby at_266) ?_
      show Steps p.tables e below (s₁.setTop (mkF m 268 #[.val (.long p0), .second, .val (.long p1), .second, .val (.int p2), .val (.int p3), .val (.int p4), .val (.int p5), .val (.int c8), .val (.int c9), .val (.int c10), .val (.int c11), .val (.int c12), .val (.int c13), .val (.int c14), .val (.int c15), .val (.int c16), .val (.int c17), .val (.int c18), .val (.int c19), .val (.int c20), .val (.int c21), .val (.int c22), .val (.int c23), .unset, .unset, .unset, .unset, .unset, .unset, .unset, .unset, .unset] [(.int (64 : Int32)), (.int p5)])) _
      refine XS.iand X0.here hx rfl (hb hby at_268) rfl ?_
      show Steps p.tables e below (s₁.setTop (mkF m 269 #[.val (.long p0), .second, .val (.long p1), .second, .val (.int p2), .val (.int p3), .val (.int p4), .val (.int p5), .val (.int c8), .val (.int c9), .val (.int c10), .val (.int c11), .val (.int c12), .val (.int c13), .val (.int c14), .val (.int c15), .val (.int c16), .val (.int c17), .val (.int c18), .val (.int c19), .val (.int c20), .val (.int c21), .val (.int c22), .val (.int c23), .unset, .unset, .unset, .unset, .unset, .unset, .unset, .unset, .unset] [(.int (p5 &&& (64 : Int32)))])) _
      refine XS.ifNo X0.here hx rfl (hb hby at_269) rfl ((if0 _ _).trans (feq hc).1) ?_
      show Steps p.tables e below (s₁.setTop (mkF m 272 #[.val (.long p0), .second, .val (.long p1), .second, .val (.int p2), .val (.int p3), .val (.int p4), .val (.int p5), .val (.int c8), .val (.int c9), .val (.int c10), .val (.int c11), .val (.int c12), .val (.int c13), .val (.int c14), .val (.int c15), .val (.int c16), .val (.int c17), .val (.int c18), .val (.int c19), .val (.int c20), .val (.int c21), .val (.int c22), .val (.int c23), .unset, .unset, .unset, .unset, .unset, .unset, .unset, .unset, .unset] [])) _
      refine XS.iload X0.here hx rfl (hb hby at_272) rfl ?_
      show Steps p.tables e below (s₁.setTop (mkF m 274 #[.val (.long p0), .second, .val (.long p1), .second, .val (.int p2), .val (.int p3), .val (.int p4), .val (.int p5), .val (.int c8), .val (.int c9), .val (.int c10), .val (.int c11), .val (.int c12), .val (.int c13), .val (.int c14), .val (.int c15), .val (.int c16), .val (.int c17), .val (.int c18), .val (.int c19), .val (.int c20), .val (.int c21), .val (.int c22), .val (.int c23), .unset, .unset, .unset, .unset, .unset, .unset, .unset, .unset, .unset] [(.int p4)])) _
      refine XS.goto X0.here hx rfl (pc0 := 274) (pc' := 285) rfl (hb hby at_274) (by decide) (by decide) ?_
      exact hk
  obtain ⟨v106, vmx106, ⟨T106, L106, k106, n106⟩, -, X106, ⟨Lc106, hQ106, l106, y106, z106⟩, st106⟩ := Jvm.LawKit.callS X0 hx (y := (⟨"com/example/ample_search/amplesearch/analysis/TokenEqualsPinLaw", "mk", "(ICC)Ljava/lang/String;"⟩ : MethodName)) hown (mvT hZ (hw _ (List.mem_of_getElem? (i := 1) rfl))) (mvT hZ (hw _ (List.mem_of_getElem? (i := 2) rfl))) (mvT hZ (hw _ (List.mem_of_getElem? (i := 3) rfl))) (mvT hZ (hw _ (List.mem_of_getElem? (i := 4) rfl))) (by decide) (backOf (W := 0) (rm1 l Z a0 hw [] c10 c12 c13 G1 h0 n0 Z0 hc12 hc13 O2 P5 X00) hZ (hw _ (List.mem_of_getElem? (i := 4) rfl)) (hw _ (List.mem_of_getElem? (i := 3) rfl)) (by decide) (by decide)) (g := (mkF m 293 #[.val (.long p0), .second, .val (.long p1), .second, .val (.int p2), .val (.int p3), .val (.int p4), .val (.int p5), .val (.int c8), .val (.int c9), .val (.int c10), .val (.int c11), .val (.int c12), .val (.int c13), .val (.int c14), .val (.int c15), .val (.int c16), .val (.int c17), .val (.int c18), .val (.int c19), .val (.int c20), .val (.int c21), .val (.int c22), .val (.int c23), .val (.int c24), .unset, .unset, .unset, .unset, .unset, .unset, .unset, .unset] [(.int c13), (.int c12), (.int c10)])) rfl (by rw [hml]; rfl) (argsL := [(.int c10), (.int c12), (.int c13)]) (rest := []) (lenOf own_pd2 rfl) rfl (by show 2 * 0 + _ ≤ _; exact Nat.le_of_eq rfl) (hb hby at_293) (fun _ _ => ⟨rfl, e0, (by decide : 0 + 3 ≤ _), (by decide : 0 + 8 ≤ _)⟩)
  dsimp only [Pt.U, Pt.locs, Pt.cells, Pt.slots] at X106 l106 y106 z106 st106 hQ106
  subst l106 y106 z106
  obtain ⟨s25, rfl, Nq106, E106, T_s25⟩ := hQ106
  have N106 := Fr.app N0 Nq106
  have Z107 : n0 ≤ T106.heap.size := Nat.le_trans Z0 E106.1
  have K108 : Keep h0 T106.heap [] := (Keep.refl h0 []).ext E106
  have f109 := (X00.ext E106)
  obtain ⟨v110, vmx110, ⟨T110, L110, k110, n110⟩, -, X110, ⟨Lc110, hQ110, l110, y110, z110⟩, st110⟩ := Jvm.LawKit.callS X106 hx (y := (⟨"com/example/ample_search/amplesearch/analysis/TokenEqualsPinLaw", "mk", "(ICC)Ljava/lang/String;"⟩ : MethodName)) hown (mvT hZ (hw _ (List.mem_of_getElem? (i := 1) rfl))) (mvT hZ (hw _ (List.mem_of_getElem? (i := 2) rfl))) (mvT hZ (hw _ (List.mem_of_getElem? (i := 3) rfl))) (mvT hZ (hw _ (List.mem_of_getElem? (i := 4) rfl))) (by decide) (backOf (W := 0) (rm1 l Z a0 hw [] c11 c14 c15 G1 T106.heap n0 Z107 hc14 hc15 O2 P5 f109) hZ (hw _ (List.mem_of_getElem? (i := 4) rfl)) (hw _ (List.mem_of_getElem? (i := 3) rfl)) (by decide) (by decide)) (g := (mkF m 304 #[.val (.long p0), .second, .val (.long p1), .second, .val (.int p2), .val (.int p3), .val (.int p4), .val (.int p5), .val (.int c8), .val (.int c9), .val (.int c10), .val (.int c11), .val (.int c12), .val (.int c13), .val (.int c14), .val (.int c15), .val (.int c16), .val (.int c17), .val (.int c18), .val (.int c19), .val (.int c20), .val (.int c21), .val (.int c22), .val (.int c23), .val (.int c24), .val (.ref s25), .unset, .unset, .unset, .unset, .unset, .unset, .unset] [(.int c15), (.int c14), (.int c11)])) rfl (by rw [hml]; rfl) (argsL := [(.int c11), (.int c14), (.int c15)]) (rest := []) (lenOf own_pd2 rfl) rfl (by show 2 * 0 + _ ≤ _; exact Nat.le_of_eq rfl) (hb hby at_304) (fun _ _ => ⟨rfl, rfl, (by decide : 3 + 3 ≤ _), (by decide : 8 + 8 ≤ _)⟩)
  dsimp only [Pt.U, Pt.locs, Pt.cells, Pt.slots] at X110 l110 y110 z110 st110 hQ110
  subst l110 y110 z110
  obtain ⟨s26, rfl, Nq110, E110, T_s26⟩ := hQ110
  have N110 := Fr.app N106 Nq110
  have Z111 : n0 ≤ T110.heap.size := Nat.le_trans Z107 E110.1
  have K112 : Keep h0 T110.heap [] := K108.ext E110
  have f113 := (f109.ext E110)
  obtain ⟨v114, vmx114, ⟨T114, L114, k114, n114⟩, -, X114, ⟨Lc114, hQ114, l114, y114, z114⟩, st114⟩ := Jvm.LawKit.callS X110 hx (y := (⟨"com/example/ample_search/amplesearch/analysis/TokenEqualsPinLaw", "mk", "(ICC)Ljava/lang/String;"⟩ : MethodName)) hown (mvT hZ (hw _ (List.mem_of_getElem? (i := 1) rfl))) (mvT hZ (hw _ (List.mem_of_getElem? (i := 2) rfl))) (mvT hZ (hw _ (List.mem_of_getElem? (i := 3) rfl))) (mvT hZ (hw _ (List.mem_of_getElem? (i := 4) rfl))) (by decide) (backOf (W := 0) (rm1 l Z a0 hw [] c18 c16 c17 G1 T110.heap n0 Z111 hc16 hc17 O2 P5 f113) hZ (hw _ (List.mem_of_getElem? (i := 4) rfl)) (hw _ (List.mem_of_getElem? (i := 3) rfl)) (by decide) (by decide)) (g := (mkF m 315 #[.val (.long p0), .second, .val (.long p1), .second, .val (.int p2), .val (.int p3), .val (.int p4), .val (.int p5), .val (.int c8), .val (.int c9), .val (.int c10), .val (.int c11), .val (.int c12), .val (.int c13), .val (.int c14), .val (.int c15), .val (.int c16), .val (.int c17), .val (.int c18), .val (.int c19), .val (.int c20), .val (.int c21), .val (.int c22), .val (.int c23), .val (.int c24), .val (.ref s25), .val (.ref s26), .unset, .unset, .unset, .unset, .unset, .unset] [(.int c17), (.int c16), (.int c18)])) rfl (by rw [hml]; rfl) (argsL := [(.int c18), (.int c16), (.int c17)]) (rest := []) (lenOf own_pd2 rfl) rfl (by show 2 * 0 + _ ≤ _; exact Nat.le_of_eq rfl) (hb hby at_315) (fun _ _ => ⟨rfl, rfl, (by decide : 6 + 3 ≤ _), (by decide : 16 + 8 ≤ _)⟩)
  dsimp only [Pt.U, Pt.locs, Pt.cells, Pt.slots] at X114 l114 y114 z114 st114 hQ114
  subst l114 y114 z114
  obtain ⟨s27, rfl, Nq114, E114, T_s27⟩ := hQ114
  have N114 := Fr.app N110 Nq114
  have Z115 : n0 ≤ T114.heap.size := Nat.le_trans Z111 E114.1
  have K116 : Keep h0 T114.heap [] := K112.ext E114
  have f117 := (f113.ext E114)
  obtain ⟨v118, vmx118, ⟨T118, L118, k118, n118⟩, -, X118, ⟨Lc118, hQ118, l118, y118, z118⟩, st118⟩ := Jvm.LawKit.callS X114 hx (y := (⟨"com/example/ample_search/amplesearch/analysis/TokenEqualsPinLaw", "mk", "(ICC)Ljava/lang/String;"⟩ : MethodName)) hown (mvT hZ (hw _ (List.mem_of_getElem? (i := 1) rfl))) (mvT hZ (hw _ (List.mem_of_getElem? (i := 2) rfl))) (mvT hZ (hw _ (List.mem_of_getElem? (i := 3) rfl))) (mvT hZ (hw _ (List.mem_of_getElem? (i := 4) rfl))) (by decide) (backOf (W := 0) (rm1 l Z a0 hw [] c21 c19 c20 G1 T114.heap n0 Z115 hc19 hc20 O2 P5 f117) hZ (hw _ (List.mem_of_getElem? (i := 4) rfl)) (hw _ (List.mem_of_getElem? (i := 3) rfl)) (by decide) (by decide)) (g := (mkF m 326 #[.val (.long p0), .second, .val (.long p1), .second, .val (.int p2), .val (.int p3), .val (.int p4), .val (.int p5), .val (.int c8), .val (.int c9), .val (.int c10), .val (.int c11), .val (.int c12), .val (.int c13), .val (.int c14), .val (.int c15), .val (.int c16), .val (.int c17), .val (.int c18), .val (.int c19), .val (.int c20), .val (.int c21), .val (.int c22), .val (.int c23), .val (.int c24), .val (.ref s25), .val (.ref s26), .val (.ref s27), .unset, .unset, .unset, .unset, .unset] [(.int c20), (.int c19), (.int c21)])) rfl (by rw [hml]; rfl) (argsL := [(.int c21), (.int c19), (.int c20)]) (rest := []) (lenOf own_pd2 rfl) rfl (by show 2 * 0 + _ ≤ _; exact Nat.le_of_eq rfl) (hb hby at_326) (fun _ _ => ⟨rfl, rfl, (by decide : 9 + 3 ≤ _), (by decide : 24 + 8 ≤ _)⟩)
  dsimp only [Pt.U, Pt.locs, Pt.cells, Pt.slots] at X118 l118 y118 z118 st118 hQ118
  subst l118 y118 z118
  obtain ⟨s28, rfl, Nq118, E118, T_s28⟩ := hQ118
  have N118 := Fr.app N114 Nq118
  have Z119 : n0 ≤ T118.heap.size := Nat.le_trans Z115 E118.1
  have K120 : Keep h0 T118.heap [] := K116.ext E118
  obtain ⟨T121, h121, lc121, b29, X121, e121, E121, N121, F29, st121⟩ : ∃ (T121 : State) (h121 : Heap) (lc121 : List Loc) (b29 : Addr), Stand p l e room_1 s m args below meth c T121 lc121 13 37 ∧ T121.heap = h121 ∧ Ext T118.heap h121 ∧ Fr n0 lc121 ∧ (Fs Z h121 b29 (.ref s25) (.int p2) (.int p3) (.ref s26) (.int p4)) ∧ ∀ target, Steps p.tables e below (T121.setTop (mkF m 348 #[.val (.long p0), .second, .val (.long p1), .second, .val (.int p2), .val (.int p3), .val (.int p4), .val (.int p5), .val (.int c8), .val (.int c9), .val (.int c10), .val (.int c11), .val (.int c12), .val (.int c13), .val (.int c14), .val (.int c15), .val (.int c16), .val (.int c17), .val (.int c18), .val (.int c19), .val (.int c20), .val (.int c21), .val (.int c22), .val (.int c23), .val (.int c24), .val (.ref s25), .val (.ref s26), .val (.ref s27), .val (.ref s28), .unset, .unset, .unset, .unset] [(.ref b29)])) target → Steps p.tables e below (T118.setTop (mkF m 331 #[.val (.long p0), .second, .val (.long p1), .second, .val (.int p2), .val (.int p3), .val (.int p4), .val (.int p5), .val (.int c8), .val (.int c9), .val (.int c10), .val (.int c11), .val (.int c12), .val (.int c13), .val (.int c14), .val (.int c15), .val (.int c16), .val (.int c17), .val (.int c18), .val (.int c19), .val (.int c20), .val (.int c21), .val (.int c22), .val (.int c23), .val (.int c24), .val (.ref s25), .val (.ref s26), .val (.ref s27), .val (.ref s28), .unset, .unset, .unset, .unset] [])) target := by
    obtain ⟨T122, h122, X122, e122, E122, A122, D122, -, st122⟩ := newO X118 hx hZ hown (hw _ (List.mem_of_getElem? (i := 35) rfl)) (hw _ (List.mem_of_getElem? (i := 36) rfl)) (hw _ (List.mem_of_getElem? (i := 37) rfl)) rfl (g := (mkF m 331 #[.val (.long p0), .second, .val (.long p1), .second, .val (.int p2), .val (.int p3), .val (.int p4), .val (.int p5), .val (.int c8), .val (.int c9), .val (.int c10), .val (.int c11), .val (.int c12), .val (.int c13), .val (.int c14), .val (.int c15), .val (.int c16), .val (.int c17), .val (.int c18), .val (.int c19), .val (.int c20), .val (.int c21), .val (.int c22), .val (.int c23), .val (.int c24), .val (.ref s25), .val (.ref s26), .val (.ref s27), .val (.ref s28), .unset, .unset, .unset, .unset] [])) rfl (hb hby at_331) (by decide) (by decide)
    obtain ⟨b122, g122⟩ : ∃ z, z = T118.heap.size := ⟨_, rfl⟩
    rw [← g122] at A122 D122 st122
    have ge_b122 : n0 ≤ b122 := Nat.le_trans Z119 (Nat.le_of_eq g122.symm)
    have sz_b122 : T118.heap.size ≤ b122 := Nat.le_trans (Keep.refl T118.heap []).1 (Nat.le_of_eq g122.symm)
    have Z123 : n0 ≤ h122.size := Nat.le_trans Z119 E122.1
    have K124 : Keep T118.heap h122 [] := (Keep.refl T118.heap []).ext E122
    obtain ⟨v125, vmx125, ⟨T125, L125, k125, n125⟩, -, X125, ⟨Lc125, hQ125, l125, y125, z125⟩, st125⟩ := X122.specialBack hx (y := (⟨"com/example/ample_search/amplesearch/analysis/Token", "<init>", "(Ljava/lang/String;IILjava/lang/String;I)V"⟩ : MethodName)) rfl hown (mvT hZ (hw _ (List.mem_of_getElem? (i := 38) rfl))) (mvT hZ (hw _ (List.mem_of_getElem? (i := 39) rfl))) (mvT hZ (hw _ (List.mem_of_getElem? (i := 40) rfl))) (by decide) (backOf (W := 1) (rm8 l Z a0 hw [] b122 (.ref s25) p2 p3 (.ref s26) p4 _ _ _ _ _ h122 n0 Z123 rfl rfl ge_b122 ⟨A122, (D122 (Or.inr (hw _ (List.mem_of_getElem? (i := 43) rfl))) (ty := (.object "java/lang/String")) (by decide)), (D122 (Or.inr (hw _ (List.mem_of_getElem? (i := 45) rfl))) (ty := .int) (by decide)), (D122 (Or.inr (hw _ (List.mem_of_getElem? (i := 47) rfl))) (ty := .int) (by decide)), (D122 (Or.inr (hw _ (List.mem_of_getElem? (i := 49) rfl))) (ty := (.object "java/lang/String")) (by decide)), (D122 (Or.inr (hw _ (List.mem_of_getElem? (i := 51) rfl))) (ty := .int) (by decide))⟩) hZ (hw _ (List.mem_of_getElem? (i := 40) rfl)) (hw _ (List.mem_of_getElem? (i := 37) rfl)) (by decide) (by decide)) (g := (mkF m 345 #[.val (.long p0), .second, .val (.long p1), .second, .val (.int p2), .val (.int p3), .val (.int p4), .val (.int p5), .val (.int c8), .val (.int c9), .val (.int c10), .val (.int c11), .val (.int c12), .val (.int c13), .val (.int c14), .val (.int c15), .val (.int c16), .val (.int c17), .val (.int c18), .val (.int c19), .val (.int c20), .val (.int c21), .val (.int c22), .val (.int c23), .val (.int c24), .val (.ref s25), .val (.ref s26), .val (.ref s27), .val (.ref s28), .unset, .unset, .unset, .unset] [(.int p4), (.ref s26), (.int p3), (.int p2), (.ref s25), (.ref b122), (.ref b122)])) rfl (by rw [hml]; rfl) (Steps.refl _) (a := b122) (argsL := [(.ref s25), (.int p2), (.int p3), (.ref s26), (.int p4)]) (rest := [(.ref b122)]) (lenOf own_pd3 rfl) rfl (by show 2 * 0 + _ ≤ _; exact Nat.le_of_eq rfl) (hb hby at_345) (fun _ _ => ⟨rfl, e122, (by decide : 13 + 0 ≤ _), (by decide : 37 + 0 ≤ _)⟩)
    dsimp only [Pt.U, Pt.locs, Pt.cells, Pt.slots] at X125 l125 y125 z125 st125 hQ125
    subst l125 y125 z125
    obtain ⟨rfl, Nq125, K125, F125⟩ := hQ125
    have N125 := Fr.app N118 Nq125
    have Z126 : n0 ≤ T125.heap.size := Nat.le_trans Z123 K125.1
    have K127 : Keep T118.heap T125.heap [] := K124.trans K125 (allS (Or.inr sz_b122) all0)
    refine ⟨T125, _, _, b122, own_up X125 (by decide) (by decide), rfl, own_ext K127, N125, F125, fun target hk => ?_⟩
    show Steps p.tables e below (T118.setTop (mkF m 331 #[.val (.long p0), .second, .val (.long p1), .second, .val (.int p2), .val (.int p3), .val (.int p4), .val (.int p5), .val (.int c8), .val (.int c9), .val (.int c10), .val (.int c11), .val (.int c12), .val (.int c13), .val (.int c14), .val (.int c15), .val (.int c16), .val (.int c17), .val (.int c18), .val (.int c19), .val (.int c20), .val (.int c21), .val (.int c22), .val (.int c23), .val (.int c24), .val (.ref s25), .val (.ref s26), .val (.ref s27), .val (.ref s28), .unset, .unset, .unset, .unset] [])) _
    refine st122 _ ?_
    show Steps p.tables e below (T122.setTop (mkF m 334 #[.val (.long p0), .second, .val (.long p1), .second, .val (.int p2), .val (.int p3), .val (.int p4), .val (.int p5), .val (.int c8), .val (.int c9), .val (.int c10), .val (.int c11), .val (.int c12), .val (.int c13), .val (.int c14), .val (.int c15), .val (.int c16), .val (.int c17), .val (.int c18), .val (.int c19), .val (.int c20), .val (.int c21), .val (.int c22), .val (.int c23), .val (.int c24), .val (.ref s25), .val (.ref s26), .val (.ref s27), .val (.ref s28), .unset, .unset, .unset, .unset] [(.ref b122)])) _
    refine XS.dup X122.here hx rfl (hb hby at_334) rfl rfl ?_
    show Steps p.tables e below (T122.setTop (mkF m 335 #[.val (.long p0), .second, .val (.long p1), .second, .val (.int p2), .val (.int p3), .val (.int p4), .val (.int p5), .val (.int c8), .val (.int c9), .val (.int c10), .val (.int c11), .val (.int c12), .val (.int c13), .val (.int c14), .val (.int c15), .val (.int c16), .val (.int c17), .val (.int c18), .val (.int c19), .val (.int c20), .val (.int c21), .val (.int c22), .val (.int c23), .val (.int c24), .val (.ref s25), .val (.ref s26), .val (.ref s27), .val (.ref s28), .unset, .unset, .unset, .unset] [(.ref b122), (.ref b122)])) _
    refine XS.aload X122.here hx rfl (hb hby at_335) rfl rfl ?_
    show Steps p.tables e below (T122.setTop (mkF m 337 #[.val (.long p0), .second, .val (.long p1), .second, .val (.int p2), .val (.int p3), .val (.int p4), .val (.int p5), .val (.int c8), .val (.int c9), .val (.int c10), .val (.int c11), .val (.int c12), .val (.int c13), .val (.int c14), .val (.int c15), .val (.int c16), .val (.int c17), .val (.int c18), .val (.int c19), .val (.int c20), .val (.int c21), .val (.int c22), .val (.int c23), .val (.int c24), .val (.ref s25), .val (.ref s26), .val (.ref s27), .val (.ref s28), .unset, .unset, .unset, .unset] [(.ref s25), (.ref b122), (.ref b122)])) _
    refine XS.iload X122.here hx rfl (hb hby at_337) rfl ?_
    show Steps p.tables e below (T122.setTop (mkF m 339 #[.val (.long p0), .second, .val (.long p1), .second, .val (.int p2), .val (.int p3), .val (.int p4), .val (.int p5), .val (.int c8), .val (.int c9), .val (.int c10), .val (.int c11), .val (.int c12), .val (.int c13), .val (.int c14), .val (.int c15), .val (.int c16), .val (.int c17), .val (.int c18), .val (.int c19), .val (.int c20), .val (.int c21), .val (.int c22), .val (.int c23), .val (.int c24), .val (.ref s25), .val (.ref s26), .val (.ref s27), .val (.ref s28), .unset, .unset, .unset, .unset] [(.int p2), (.ref s25), (.ref b122), (.ref b122)])) _
    refine XS.iload X122.here hx rfl (hb hby at_339) rfl ?_
    show Steps p.tables e below (T122.setTop (mkF m 341 #[.val (.long p0), .second, .val (.long p1), .second, .val (.int p2), .val (.int p3), .val (.int p4), .val (.int p5), .val (.int c8), .val (.int c9), .val (.int c10), .val (.int c11), .val (.int c12), .val (.int c13), .val (.int c14), .val (.int c15), .val (.int c16), .val (.int c17), .val (.int c18), .val (.int c19), .val (.int c20), .val (.int c21), .val (.int c22), .val (.int c23), .val (.int c24), .val (.ref s25), .val (.ref s26), .val (.ref s27), .val (.ref s28), .unset, .unset, .unset, .unset] [(.int p3), (.int p2), (.ref s25), (.ref b122), (.ref b122)])) _
    refine XS.aload X122.here hx rfl (hb hby at_341) rfl rfl ?_
    show Steps p.tables e below (T122.setTop (mkF m 343 #[.val (.long p0), .second, .val (.long p1), .second, .val (.int p2), .val (.int p3), .val (.int p4), .val (.int p5), .val (.int c8), .val (.int c9), .val (.int c10), .val (.int c11), .val (.int c12), .val (.int c13), .val (.int c14), .val (.int c15), .val (.int c16), .val (.int c17), .val (.int c18), .val (.int c19), .val (.int c20), .val (.int c21), .val (.int c22), .val (.int c23), .val (.int c24), .val (.ref s25), .val (.ref s26), .val (.ref s27), .val (.ref s28), .unset, .unset, .unset, .unset] [(.ref s26), (.int p3), (.int p2), (.ref s25), (.ref b122), (.ref b122)])) _
    refine XS.iload X122.here hx rfl (hb hby at_343) rfl ?_
    show Steps p.tables e below (T122.setTop (mkF m 345 #[.val (.long p0), .second, .val (.long p1), .second, .val (.int p2), .val (.int p3), .val (.int p4), .val (.int p5), .val (.int c8), .val (.int c9), .val (.int c10), .val (.int c11), .val (.int c12), .val (.int c13), .val (.int c14), .val (.int c15), .val (.int c16), .val (.int c17), .val (.int c18), .val (.int c19), .val (.int c20), .val (.int c21), .val (.int c22), .val (.int c23), .val (.int c24), .val (.ref s25), .val (.ref s26), .val (.ref s27), .val (.ref s28), .unset, .unset, .unset, .unset] [(.int p4), (.ref s26), (.int p3), (.int p2), (.ref s25), (.ref b122), (.ref b122)])) _
    refine st125.trans ?_
    exact hk
  have Z128 : n0 ≤ h121.size := Nat.le_trans Z119 E121.1
  have K129 : Keep h0 h121 [] := K120.ext E121
  obtain ⟨T130, h130, lc130, b30, X130, e130, E130, N130, F30, st130⟩ : ∃ (T130 : State) (h130 : Heap) (lc130 : List Loc) (b30 : Addr), Stand p l e room_1 s m args below meth c T130 lc130 14 42 ∧ T130.heap = h130 ∧ Ext h121 h130 ∧ Fr n0 lc130 ∧ (Fs Z h130 b30 (.ref s27) (.int c22) (.int c23) (.ref s28) (.int c24)) ∧ ∀ target, Steps p.tables e below (T130.setTop (mkF m 367 #[.val (.long p0), .second, .val (.long p1), .second, .val (.int p2), .val (.int p3), .val (.int p4), .val (.int p5), .val (.int c8), .val (.int c9), .val (.int c10), .val (.int c11), .val (.int c12), .val (.int c13), .val (.int c14), .val (.int c15), .val (.int c16), .val (.int c17), .val (.int c18), .val (.int c19), .val (.int c20), .val (.int c21), .val (.int c22), .val (.int c23), .val (.int c24), .val (.ref s25), .val (.ref s26), .val (.ref s27), .val (.ref s28), .val (.ref b29), .unset, .unset, .unset] [(.ref b30)])) target → Steps p.tables e below (T121.setTop (mkF m 350 #[.val (.long p0), .second, .val (.long p1), .second, .val (.int p2), .val (.int p3), .val (.int p4), .val (.int p5), .val (.int c8), .val (.int c9), .val (.int c10), .val (.int c11), .val (.int c12), .val (.int c13), .val (.int c14), .val (.int c15), .val (.int c16), .val (.int c17), .val (.int c18), .val (.int c19), .val (.int c20), .val (.int c21), .val (.int c22), .val (.int c23), .val (.int c24), .val (.ref s25), .val (.ref s26), .val (.ref s27), .val (.ref s28), .val (.ref b29), .unset, .unset, .unset] [])) target := by
    obtain ⟨T131, h131, X131, e131, E131, A131, D131, -, st131⟩ := newO X121 hx hZ hown (hw _ (List.mem_of_getElem? (i := 35) rfl)) (hw _ (List.mem_of_getElem? (i := 36) rfl)) (hw _ (List.mem_of_getElem? (i := 37) rfl)) e121 (g := (mkF m 350 #[.val (.long p0), .second, .val (.long p1), .second, .val (.int p2), .val (.int p3), .val (.int p4), .val (.int p5), .val (.int c8), .val (.int c9), .val (.int c10), .val (.int c11), .val (.int c12), .val (.int c13), .val (.int c14), .val (.int c15), .val (.int c16), .val (.int c17), .val (.int c18), .val (.int c19), .val (.int c20), .val (.int c21), .val (.int c22), .val (.int c23), .val (.int c24), .val (.ref s25), .val (.ref s26), .val (.ref s27), .val (.ref s28), .val (.ref b29), .unset, .unset, .unset] [])) rfl (hb hby at_350) (by decide) (by decide)
    obtain ⟨b131, g131⟩ : ∃ z, z = h121.size := ⟨_, rfl⟩
    rw [← g131] at A131 D131 st131
    have ge_b131 : n0 ≤ b131 := Nat.le_trans Z128 (Nat.le_of_eq g131.symm)
    have sz_b131 : h121.size ≤ b131 := Nat.le_trans (Keep.refl h121 []).1 (Nat.le_of_eq g131.symm)
    have Z132 : n0 ≤ h131.size := Nat.le_trans Z128 E131.1
    have K133 : Keep h121 h131 [] := (Keep.refl h121 []).ext E131
    obtain ⟨v134, vmx134, ⟨T134, L134, k134, n134⟩, -, X134, ⟨Lc134, hQ134, l134, y134, z134⟩, st134⟩ := X131.specialBack hx (y := (⟨"com/example/ample_search/amplesearch/analysis/Token", "<init>", "(Ljava/lang/String;IILjava/lang/String;I)V"⟩ : MethodName)) rfl hown (mvT hZ (hw _ (List.mem_of_getElem? (i := 38) rfl))) (mvT hZ (hw _ (List.mem_of_getElem? (i := 39) rfl))) (mvT hZ (hw _ (List.mem_of_getElem? (i := 40) rfl))) (by decide) (backOf (W := 1) (rm8 l Z a0 hw [] b131 (.ref s27) c22 c23 (.ref s28) c24 _ _ _ _ _ h131 n0 Z132 rfl rfl ge_b131 ⟨A131, (D131 (Or.inr (hw _ (List.mem_of_getElem? (i := 43) rfl))) (ty := (.object "java/lang/String")) (by decide)), (D131 (Or.inr (hw _ (List.mem_of_getElem? (i := 45) rfl))) (ty := .int) (by decide)), (D131 (Or.inr (hw _ (List.mem_of_getElem? (i := 47) rfl))) (ty := .int) (by decide)), (D131 (Or.inr (hw _ (List.mem_of_getElem? (i := 49) rfl))) (ty := (.object "java/lang/String")) (by decide)), (D131 (Or.inr (hw _ (List.mem_of_getElem? (i := 51) rfl))) (ty := .int) (by decide))⟩) hZ (hw _ (List.mem_of_getElem? (i := 40) rfl)) (hw _ (List.mem_of_getElem? (i := 37) rfl)) (by decide) (by decide)) (g := (mkF m 364 #[.val (.long p0), .second, .val (.long p1), .second, .val (.int p2), .val (.int p3), .val (.int p4), .val (.int p5), .val (.int c8), .val (.int c9), .val (.int c10), .val (.int c11), .val (.int c12), .val (.int c13), .val (.int c14), .val (.int c15), .val (.int c16), .val (.int c17), .val (.int c18), .val (.int c19), .val (.int c20), .val (.int c21), .val (.int c22), .val (.int c23), .val (.int c24), .val (.ref s25), .val (.ref s26), .val (.ref s27), .val (.ref s28), .val (.ref b29), .unset, .unset, .unset] [(.int c24), (.ref s28), (.int c23), (.int c22), (.ref s27), (.ref b131), (.ref b131)])) rfl (by rw [hml]; rfl) (Steps.refl _) (a := b131) (argsL := [(.ref s27), (.int c22), (.int c23), (.ref s28), (.int c24)]) (rest := [(.ref b131)]) (lenOf own_pd3 rfl) rfl (by show 2 * 0 + _ ≤ _; exact Nat.le_of_eq rfl) (hb hby at_364) (fun _ _ => ⟨rfl, e131, (by decide : 14 + 0 ≤ _), (by decide : 42 + 0 ≤ _)⟩)
    dsimp only [Pt.U, Pt.locs, Pt.cells, Pt.slots] at X134 l134 y134 z134 st134 hQ134
    subst l134 y134 z134
    obtain ⟨rfl, Nq134, K134, F134⟩ := hQ134
    have N134 := Fr.app N121 Nq134
    have Z135 : n0 ≤ T134.heap.size := Nat.le_trans Z132 K134.1
    have K136 : Keep h121 T134.heap [] := K133.trans K134 (allS (Or.inr sz_b131) all0)
    refine ⟨T134, _, _, b131, own_up X134 (by decide) (by decide), rfl, own_ext K136, N134, F134, fun target hk => ?_⟩
    show Steps p.tables e below (T121.setTop (mkF m 350 #[.val (.long p0), .second, .val (.long p1), .second, .val (.int p2), .val (.int p3), .val (.int p4), .val (.int p5), .val (.int c8), .val (.int c9), .val (.int c10), .val (.int c11), .val (.int c12), .val (.int c13), .val (.int c14), .val (.int c15), .val (.int c16), .val (.int c17), .val (.int c18), .val (.int c19), .val (.int c20), .val (.int c21), .val (.int c22), .val (.int c23), .val (.int c24), .val (.ref s25), .val (.ref s26), .val (.ref s27), .val (.ref s28), .val (.ref b29), .unset, .unset, .unset] [])) _
    refine st131 _ ?_
    show Steps p.tables e below (T131.setTop (mkF m 353 #[.val (.long p0), .second, .val (.long p1), .second, .val (.int p2), .val (.int p3), .val (.int p4), .val (.int p5), .val (.int c8), .val (.int c9), .val (.int c10), .val (.int c11), .val (.int c12), .val (.int c13), .val (.int c14), .val (.int c15), .val (.int c16), .val (.int c17), .val (.int c18), .val (.int c19), .val (.int c20), .val (.int c21), .val (.int c22), .val (.int c23), .val (.int c24), .val (.ref s25), .val (.ref s26), .val (.ref s27), .val (.ref s28), .val (.ref b29), .unset, .unset, .unset] [(.ref b131)])) _
    refine XS.dup X131.here hx rfl (hb hby at_353) rfl rfl ?_
    show Steps p.tables e below (T131.setTop (mkF m 354 #[.val (.long p0), .second, .val (.long p1), .second, .val (.int p2), .val (.int p3), .val (.int p4), .val (.int p5), .val (.int c8), .val (.int c9), .val (.int c10), .val (.int c11), .val (.int c12), .val (.int c13), .val (.int c14), .val (.int c15), .val (.int c16), .val (.int c17), .val (.int c18), .val (.int c19), .val (.int c20), .val (.int c21), .val (.int c22), .val (.int c23), .val (.int c24), .val (.ref s25), .val (.ref s26), .val (.ref s27), .val (.ref s28), .val (.ref b29), .unset, .unset, .unset] [(.ref b131), (.ref b131)])) _
    refine XS.aload X131.here hx rfl (hb hby at_354) rfl rfl ?_
    show Steps p.tables e below (T131.setTop (mkF m 356 #[.val (.long p0), .second, .val (.long p1), .second, .val (.int p2), .val (.int p3), .val (.int p4), .val (.int p5), .val (.int c8), .val (.int c9), .val (.int c10), .val (.int c11), .val (.int c12), .val (.int c13), .val (.int c14), .val (.int c15), .val (.int c16), .val (.int c17), .val (.int c18), .val (.int c19), .val (.int c20), .val (.int c21), .val (.int c22), .val (.int c23), .val (.int c24), .val (.ref s25), .val (.ref s26), .val (.ref s27), .val (.ref s28), .val (.ref b29), .unset, .unset, .unset] [(.ref s27), (.ref b131), (.ref b131)])) _
    refine XS.iload X131.here hx rfl (hb hby at_356) rfl ?_
    show Steps p.tables e below (T131.setTop (mkF m 358 #[.val (.long p0), .second, .val (.long p1), .second, .val (.int p2), .val (.int p3), .val (.int p4), .val (.int p5), .val (.int c8), .val (.int c9), .val (.int c10), .val (.int c11), .val (.int c12), .val (.int c13), .val (.int c14), .val (.int c15), .val (.int c16), .val (.int c17), .val (.int c18), .val (.int c19), .val (.int c20), .val (.int c21), .val (.int c22), .val (.int c23), .val (.int c24), .val (.ref s25), .val (.ref s26), .val (.ref s27), .val (.ref s28), .val (.ref b29), .unset, .unset, .unset] [(.int c22), (.ref s27), (.ref b131), (.ref b131)])) _
    refine XS.iload X131.here hx rfl (hb hby at_358) rfl ?_
    show Steps p.tables e below (T131.setTop (mkF m 360 #[.val (.long p0), .second, .val (.long p1), .second, .val (.int p2), .val (.int p3), .val (.int p4), .val (.int p5), .val (.int c8), .val (.int c9), .val (.int c10), .val (.int c11), .val (.int c12), .val (.int c13), .val (.int c14), .val (.int c15), .val (.int c16), .val (.int c17), .val (.int c18), .val (.int c19), .val (.int c20), .val (.int c21), .val (.int c22), .val (.int c23), .val (.int c24), .val (.ref s25), .val (.ref s26), .val (.ref s27), .val (.ref s28), .val (.ref b29), .unset, .unset, .unset] [(.int c23), (.int c22), (.ref s27), (.ref b131), (.ref b131)])) _
    refine XS.aload X131.here hx rfl (hb hby at_360) rfl rfl ?_
    show Steps p.tables e below (T131.setTop (mkF m 362 #[.val (.long p0), .second, .val (.long p1), .second, .val (.int p2), .val (.int p3), .val (.int p4), .val (.int p5), .val (.int c8), .val (.int c9), .val (.int c10), .val (.int c11), .val (.int c12), .val (.int c13), .val (.int c14), .val (.int c15), .val (.int c16), .val (.int c17), .val (.int c18), .val (.int c19), .val (.int c20), .val (.int c21), .val (.int c22), .val (.int c23), .val (.int c24), .val (.ref s25), .val (.ref s26), .val (.ref s27), .val (.ref s28), .val (.ref b29), .unset, .unset, .unset] [(.ref s28), (.int c23), (.int c22), (.ref s27), (.ref b131), (.ref b131)])) _
    refine XS.iload X131.here hx rfl (hb hby at_362) rfl ?_
    show Steps p.tables e below (T131.setTop (mkF m 364 #[.val (.long p0), .second, .val (.long p1), .second, .val (.int p2), .val (.int p3), .val (.int p4), .val (.int p5), .val (.int c8), .val (.int c9), .val (.int c10), .val (.int c11), .val (.int c12), .val (.int c13), .val (.int c14), .val (.int c15), .val (.int c16), .val (.int c17), .val (.int c18), .val (.int c19), .val (.int c20), .val (.int c21), .val (.int c22), .val (.int c23), .val (.int c24), .val (.ref s25), .val (.ref s26), .val (.ref s27), .val (.ref s28), .val (.ref b29), .unset, .unset, .unset] [(.int c24), (.ref s28), (.int c23), (.int c22), (.ref s27), (.ref b131), (.ref b131)])) _
    refine st134.trans ?_
    exact hk
  have Z137 : n0 ≤ h130.size := Nat.le_trans Z128 E130.1
  have K138 : Keep h0 h130 [] := K129.ext E130
  have F29' := (Fs.ext E130 F29)
  have E29 := F29'.1
  have E30 := F30.1
  have f139 := (((f117.ext E118).ext E121).ext E130)
  have f140 := (own_Str.ext E130 (own_Str.ext E121 (own_Str.ext E118 (own_Str.ext E114 (own_Str.ext E110 T_s25)))))
  have f141 := (own_Str.ext E130 (own_Str.ext E121 (own_Str.ext E118 (own_Str.ext E114 T_s26))))
  have f142 := (own_Str.ext E130 (own_Str.ext E121 (own_Str.ext E118 T_s27)))
  have f143 := (own_Str.ext E130 (own_Str.ext E121 T_s28))
  by_cases hm1 : (((p5.toUInt32 >>> ((7 : Int32) &&& 31).toUInt32).toInt32) &&& (3 : Int32)) = (1 : Int32)
  · skip
    obtain ⟨cq144, kq144, q144a, q144b, q144c⟩ := isOf hZ e130 E29
    obtain ⟨v144, vmx144, ⟨T144, L144, k144, n144⟩, -, X144, ⟨Lc144, hQ144, l144, y144, z144⟩, st144⟩ := X130.virtualBack hx (y := (⟨"com/example/ample_search/amplesearch/analysis/Token", "equals", "(Ljava/lang/Object;)Z"⟩ : MethodName)) (z := (⟨"com/example/ample_search/amplesearch/analysis/Token", "equals", "(Ljava/lang/Object;)Z"⟩ : MethodName)) hown (mvT hZ (hw _ (List.mem_of_getElem? (i := 55) rfl))) (mvT hZ (hw _ (List.mem_of_getElem? (i := 56) rfl))) (notFace_of_selects (args := #[]) (mvT hZ (hw _ (List.mem_of_getElem? (i := 58) rfl)))) (mvT hZ (hw _ (List.mem_of_getElem? (i := 58) rfl))) (mvT hZ (hw _ (List.mem_of_getElem? (i := 57) rfl))) (by decide) (backOf (W := 0) (rm10n l Z a0 hw [] b29 h130 n0 Z137 ) hZ (hw _ (List.mem_of_getElem? (i := 59) rfl)) (hw _ (List.mem_of_getElem? (i := 37) rfl)) (by decide) (by decide)) q144a q144c (g := (mkF m 387 #[.val (.long p0), .second, .val (.long p1), .second, .val (.int p2), .val (.int p3), .val (.int p4), .val (.int p5), .val (.int c8), .val (.int c9), .val (.int c10), .val (.int c11), .val (.int c12), .val (.int c13), .val (.int c14), .val (.int c15), .val (.int c16), .val (.int c17), .val (.int c18), .val (.int c19), .val (.int c20), .val (.int c21), .val (.int c22), .val (.int c23), .val (.int c24), .val (.ref s25), .val (.ref s26), .val (.ref s27), .val (.ref s28), .val (.ref b29), .val (.ref b30), .val (.int (((p5.toUInt32 >>> ((7 : Int32) &&& 31).toUInt32).toInt32) &&& (3 : Int32))), .unset] [.null, (.ref b29)])) rfl (by rw [hml]; rfl) (Steps.refl _) (argsL := [.null]) (rest := []) (lenOf own_pd1 rfl) rfl (by show 2 * 0 + _ ≤ _; exact Nat.le_of_eq rfl) (hb hby at_387) (fun _ _ => ⟨rfl, e130, (by decide : 14 + 0 ≤ _), (by decide : 42 + 0 ≤ _)⟩)
    dsimp only [Pt.U, Pt.locs, Pt.cells, Pt.slots] at X144 l144 y144 z144 st144 hQ144
    subst l144 y144 z144
    obtain ⟨rfl, Nq144, eh144⟩ := hQ144
    have N144 := Fr.app N130 Nq144
    obtain ⟨fs, hr, hrun, hended, hW, hsame⟩ := X144.leave (v := some (.int (1 : Int32))) (fun h => by rw [hret0] at h; cases h)
    refine ⟨_, _, pre0 _ ?_, hrun, hended, _, _, rfl, ?_, ⟨_, rfl⟩, hW, hsame.mono (by decide) (by decide)⟩
    · show Steps p.tables e below (s₁.setTop (mkF m 0 #[.val (.long p0), .second, .val (.long p1), .second, .val (.int p2), .val (.int p3), .val (.int p4), .val (.int p5), .unset, .unset, .unset, .unset, .unset, .unset, .unset, .unset, .unset, .unset, .unset, .unset, .unset, .unset, .unset, .unset, .unset, .unset, .unset, .unset, .unset, .unset, .unset, .unset, .unset] [])) _
      refine st89 _ ?_
      show Steps p.tables e below (s₁.setTop (mkF m 12 #[.val (.long p0), .second, .val (.long p1), .second, .val (.int p2), .val (.int p3), .val (.int p4), .val (.int p5), .unset, .unset, .unset, .unset, .unset, .unset, .unset, .unset, .unset, .unset, .unset, .unset, .unset, .unset, .unset, .unset, .unset, .unset, .unset, .unset, .unset, .unset, .unset, .unset, .unset] [(.int c8)])) _
      refine XS.istore X0.here hx rfl (hb hby at_12) rfl (l' := #[.val (.long p0), .second, .val (.long p1), .second, .val (.int p2), .val (.int p3), .val (.int p4), .val (.int p5), .val (.int c8), .unset, .unset, .unset, .unset, .unset, .unset, .unset, .unset, .unset, .unset, .unset, .unset, .unset, .unset, .unset, .unset, .unset, .unset, .unset, .unset, .unset, .unset, .unset, .unset]) rfl ?_
      show Steps p.tables e below (s₁.setTop (mkF m 14 #[.val (.long p0), .second, .val (.long p1), .second, .val (.int p2), .val (.int p3), .val (.int p4), .val (.int p5), .val (.int c8), .unset, .unset, .unset, .unset, .unset, .unset, .unset, .unset, .unset, .unset, .unset, .unset, .unset, .unset, .unset, .unset, .unset, .unset, .unset, .unset, .unset, .unset, .unset, .unset] [])) _
      refine st90 _ ?_
      show Steps p.tables e below (s₁.setTop (mkF m 27 #[.val (.long p0), .second, .val (.long p1), .second, .val (.int p2), .val (.int p3), .val (.int p4), .val (.int p5), .val (.int c8), .unset, .unset, .unset, .unset, .unset, .unset, .unset, .unset, .unset, .unset, .unset, .unset, .unset, .unset, .unset, .unset, .unset, .unset, .unset, .unset, .unset, .unset, .unset, .unset] [(.int c9)])) _
      refine XS.istore X0.here hx rfl (hb hby at_27) rfl (l' := #[.val (.long p0), .second, .val (.long p1), .second, .val (.int p2), .val (.int p3), .val (.int p4), .val (.int p5), .val (.int c8), .val (.int c9), .unset, .unset, .unset, .unset, .unset, .unset, .unset, .unset, .unset, .unset, .unset, .unset, .unset, .unset, .unset, .unset, .unset, .unset, .unset, .unset, .unset, .unset, .unset]) rfl ?_
      show Steps p.tables e below (s₁.setTop (mkF m 29 #[.val (.long p0), .second, .val (.long p1), .second, .val (.int p2), .val (.int p3), .val (.int p4), .val (.int p5), .val (.int c8), .val (.int c9), .unset, .unset, .unset, .unset, .unset, .unset, .unset, .unset, .unset, .unset, .unset, .unset, .unset, .unset, .unset, .unset, .unset, .unset, .unset, .unset, .unset, .unset, .unset] [])) _
      refine st91 _ ?_
      show Steps p.tables e below (s₁.setTop (mkF m 37 #[.val (.long p0), .second, .val (.long p1), .second, .val (.int p2), .val (.int p3), .val (.int p4), .val (.int p5), .val (.int c8), .val (.int c9), .unset, .unset, .unset, .unset, .unset, .unset, .unset, .unset, .unset, .unset, .unset, .unset, .unset, .unset, .unset, .unset, .unset, .unset, .unset, .unset, .unset, .unset, .unset] [(.int c10)])) _
      refine XS.istore X0.here hx rfl (hb hby at_37) rfl (l' := #[.val (.long p0), .second, .val (.long p1), .second, .val (.int p2), .val (.int p3), .val (.int p4), .val (.int p5), .val (.int c8), .val (.int c9), .val (.int c10), .unset, .unset, .unset, .unset, .unset, .unset, .unset, .unset, .unset, .unset, .unset, .unset, .unset, .unset, .unset, .unset, .unset, .unset, .unset, .unset, .unset, .unset]) rfl ?_
      show Steps p.tables e below (s₁.setTop (mkF m 39 #[.val (.long p0), .second, .val (.long p1), .second, .val (.int p2), .val (.int p3), .val (.int p4), .val (.int p5), .val (.int c8), .val (.int c9), .val (.int c10), .unset, .unset, .unset, .unset, .unset, .unset, .unset, .unset, .unset, .unset, .unset, .unset, .unset, .unset, .unset, .unset, .unset, .unset, .unset, .unset, .unset, .unset] [])) _
      refine st92 _ ?_
      show Steps p.tables e below (s₁.setTop (mkF m 47 #[.val (.long p0), .second, .val (.long p1), .second, .val (.int p2), .val (.int p3), .val (.int p4), .val (.int p5), .val (.int c8), .val (.int c9), .val (.int c10), .unset, .unset, .unset, .unset, .unset, .unset, .unset, .unset, .unset, .unset, .unset, .unset, .unset, .unset, .unset, .unset, .unset, .unset, .unset, .unset, .unset, .unset] [(.int c11)])) _
      refine XS.istore X0.here hx rfl (hb hby at_47) rfl (l' := #[.val (.long p0), .second, .val (.long p1), .second, .val (.int p2), .val (.int p3), .val (.int p4), .val (.int p5), .val (.int c8), .val (.int c9), .val (.int c10), .val (.int c11), .unset, .unset, .unset, .unset, .unset, .unset, .unset, .unset, .unset, .unset, .unset, .unset, .unset, .unset, .unset, .unset, .unset, .unset, .unset, .unset, .unset]) rfl ?_
      show Steps p.tables e below (s₁.setTop (mkF m 49 #[.val (.long p0), .second, .val (.long p1), .second, .val (.int p2), .val (.int p3), .val (.int p4), .val (.int p5), .val (.int c8), .val (.int c9), .val (.int c10), .val (.int c11), .unset, .unset, .unset, .unset, .unset, .unset, .unset, .unset, .unset, .unset, .unset, .unset, .unset, .unset, .unset, .unset, .unset, .unset, .unset, .unset, .unset] [])) _
      refine st93 _ ?_
      show Steps p.tables e below (s₁.setTop (mkF m 56 #[.val (.long p0), .second, .val (.long p1), .second, .val (.int p2), .val (.int p3), .val (.int p4), .val (.int p5), .val (.int c8), .val (.int c9), .val (.int c10), .val (.int c11), .unset, .unset, .unset, .unset, .unset, .unset, .unset, .unset, .unset, .unset, .unset, .unset, .unset, .unset, .unset, .unset, .unset, .unset, .unset, .unset, .unset] [(.int c12)])) _
      refine XS.istore X0.here hx rfl (hb hby at_56) rfl (l' := #[.val (.long p0), .second, .val (.long p1), .second, .val (.int p2), .val (.int p3), .val (.int p4), .val (.int p5), .val (.int c8), .val (.int c9), .val (.int c10), .val (.int c11), .val (.int c12), .unset, .unset, .unset, .unset, .unset, .unset, .unset, .unset, .unset, .unset, .unset, .unset, .unset, .unset, .unset, .unset, .unset, .unset, .unset, .unset]) rfl ?_
      show Steps p.tables e below (s₁.setTop (mkF m 58 #[.val (.long p0), .second, .val (.long p1), .second, .val (.int p2), .val (.int p3), .val (.int p4), .val (.int p5), .val (.int c8), .val (.int c9), .val (.int c10), .val (.int c11), .val (.int c12), .unset, .unset, .unset, .unset, .unset, .unset, .unset, .unset, .unset, .unset, .unset, .unset, .unset, .unset, .unset, .unset, .unset, .unset, .unset, .unset] [])) _
      refine st94 _ ?_
      show Steps p.tables e below (s₁.setTop (mkF m 68 #[.val (.long p0), .second, .val (.long p1), .second, .val (.int p2), .val (.int p3), .val (.int p4), .val (.int p5), .val (.int c8), .val (.int c9), .val (.int c10), .val (.int c11), .val (.int c12), .unset, .unset, .unset, .unset, .unset, .unset, .unset, .unset, .unset, .unset, .unset, .unset, .unset, .unset, .unset, .unset, .unset, .unset, .unset, .unset] [(.int c13)])) _
      refine XS.istore X0.here hx rfl (hb hby at_68) rfl (l' := #[.val (.long p0), .second, .val (.long p1), .second, .val (.int p2), .val (.int p3), .val (.int p4), .val (.int p5), .val (.int c8), .val (.int c9), .val (.int c10), .val (.int c11), .val (.int c12), .val (.int c13), .unset, .unset, .unset, .unset, .unset, .unset, .unset, .unset, .unset, .unset, .unset, .unset, .unset, .unset, .unset, .unset, .unset, .unset, .unset]) rfl ?_
      show Steps p.tables e below (s₁.setTop (mkF m 70 #[.val (.long p0), .second, .val (.long p1), .second, .val (.int p2), .val (.int p3), .val (.int p4), .val (.int p5), .val (.int c8), .val (.int c9), .val (.int c10), .val (.int c11), .val (.int c12), .val (.int c13), .unset, .unset, .unset, .unset, .unset, .unset, .unset, .unset, .unset, .unset, .unset, .unset, .unset, .unset, .unset, .unset, .unset, .unset, .unset] [])) _
      refine st95 _ ?_
      show Steps p.tables e below (s₁.setTop (mkF m 80 #[.val (.long p0), .second, .val (.long p1), .second, .val (.int p2), .val (.int p3), .val (.int p4), .val (.int p5), .val (.int c8), .val (.int c9), .val (.int c10), .val (.int c11), .val (.int c12), .val (.int c13), .unset, .unset, .unset, .unset, .unset, .unset, .unset, .unset, .unset, .unset, .unset, .unset, .unset, .unset, .unset, .unset, .unset, .unset, .unset] [(.int c14)])) _
      refine XS.istore X0.here hx rfl (hb hby at_80) rfl (l' := #[.val (.long p0), .second, .val (.long p1), .second, .val (.int p2), .val (.int p3), .val (.int p4), .val (.int p5), .val (.int c8), .val (.int c9), .val (.int c10), .val (.int c11), .val (.int c12), .val (.int c13), .val (.int c14), .unset, .unset, .unset, .unset, .unset, .unset, .unset, .unset, .unset, .unset, .unset, .unset, .unset, .unset, .unset, .unset, .unset, .unset]) rfl ?_
      show Steps p.tables e below (s₁.setTop (mkF m 82 #[.val (.long p0), .second, .val (.long p1), .second, .val (.int p2), .val (.int p3), .val (.int p4), .val (.int p5), .val (.int c8), .val (.int c9), .val (.int c10), .val (.int c11), .val (.int c12), .val (.int c13), .val (.int c14), .unset, .unset, .unset, .unset, .unset, .unset, .unset, .unset, .unset, .unset, .unset, .unset, .unset, .unset, .unset, .unset, .unset, .unset] [])) _
      refine st96 _ ?_
      show Steps p.tables e below (s₁.setTop (mkF m 92 #[.val (.long p0), .second, .val (.long p1), .second, .val (.int p2), .val (.int p3), .val (.int p4), .val (.int p5), .val (.int c8), .val (.int c9), .val (.int c10), .val (.int c11), .val (.int c12), .val (.int c13), .val (.int c14), .unset, .unset, .unset, .unset, .unset, .unset, .unset, .unset, .unset, .unset, .unset, .unset, .unset, .unset, .unset, .unset, .unset, .unset] [(.int c15)])) _
      refine XS.istore X0.here hx rfl (hb hby at_92) rfl (l' := #[.val (.long p0), .second, .val (.long p1), .second, .val (.int p2), .val (.int p3), .val (.int p4), .val (.int p5), .val (.int c8), .val (.int c9), .val (.int c10), .val (.int c11), .val (.int c12), .val (.int c13), .val (.int c14), .val (.int c15), .unset, .unset, .unset, .unset, .unset, .unset, .unset, .unset, .unset, .unset, .unset, .unset, .unset, .unset, .unset, .unset, .unset]) rfl ?_
      show Steps p.tables e below (s₁.setTop (mkF m 94 #[.val (.long p0), .second, .val (.long p1), .second, .val (.int p2), .val (.int p3), .val (.int p4), .val (.int p5), .val (.int c8), .val (.int c9), .val (.int c10), .val (.int c11), .val (.int c12), .val (.int c13), .val (.int c14), .val (.int c15), .unset, .unset, .unset, .unset, .unset, .unset, .unset, .unset, .unset, .unset, .unset, .unset, .unset, .unset, .unset, .unset, .unset] [])) _
      refine st97 _ ?_
      show Steps p.tables e below (s₁.setTop (mkF m 111 #[.val (.long p0), .second, .val (.long p1), .second, .val (.int p2), .val (.int p3), .val (.int p4), .val (.int p5), .val (.int c8), .val (.int c9), .val (.int c10), .val (.int c11), .val (.int c12), .val (.int c13), .val (.int c14), .val (.int c15), .unset, .unset, .unset, .unset, .unset, .unset, .unset, .unset, .unset, .unset, .unset, .unset, .unset, .unset, .unset, .unset, .unset] [(.int c16)])) _
      refine XS.istore X0.here hx rfl (hb hby at_111) rfl (l' := #[.val (.long p0), .second, .val (.long p1), .second, .val (.int p2), .val (.int p3), .val (.int p4), .val (.int p5), .val (.int c8), .val (.int c9), .val (.int c10), .val (.int c11), .val (.int c12), .val (.int c13), .val (.int c14), .val (.int c15), .val (.int c16), .unset, .unset, .unset, .unset, .unset, .unset, .unset, .unset, .unset, .unset, .unset, .unset, .unset, .unset, .unset, .unset]) rfl ?_
      show Steps p.tables e below (s₁.setTop (mkF m 113 #[.val (.long p0), .second, .val (.long p1), .second, .val (.int p2), .val (.int p3), .val (.int p4), .val (.int p5), .val (.int c8), .val (.int c9), .val (.int c10), .val (.int c11), .val (.int c12), .val (.int c13), .val (.int c14), .val (.int c15), .val (.int c16), .unset, .unset, .unset, .unset, .unset, .unset, .unset, .unset, .unset, .unset, .unset, .unset, .unset, .unset, .unset, .unset] [])) _
      refine st98 _ ?_
      show Steps p.tables e below (s₁.setTop (mkF m 133 #[.val (.long p0), .second, .val (.long p1), .second, .val (.int p2), .val (.int p3), .val (.int p4), .val (.int p5), .val (.int c8), .val (.int c9), .val (.int c10), .val (.int c11), .val (.int c12), .val (.int c13), .val (.int c14), .val (.int c15), .val (.int c16), .unset, .unset, .unset, .unset, .unset, .unset, .unset, .unset, .unset, .unset, .unset, .unset, .unset, .unset, .unset, .unset] [(.int c17)])) _
      refine XS.istore X0.here hx rfl (hb hby at_133) rfl (l' := #[.val (.long p0), .second, .val (.long p1), .second, .val (.int p2), .val (.int p3), .val (.int p4), .val (.int p5), .val (.int c8), .val (.int c9), .val (.int c10), .val (.int c11), .val (.int c12), .val (.int c13), .val (.int c14), .val (.int c15), .val (.int c16), .val (.int c17), .unset, .unset, .unset, .unset, .unset, .unset, .unset, .unset, .unset, .unset, .unset, .unset, .unset, .unset, .unset]) rfl ?_
      show Steps p.tables e below (s₁.setTop (mkF m 135 #[.val (.long p0), .second, .val (.long p1), .second, .val (.int p2), .val (.int p3), .val (.int p4), .val (.int p5), .val (.int c8), .val (.int c9), .val (.int c10), .val (.int c11), .val (.int c12), .val (.int c13), .val (.int c14), .val (.int c15), .val (.int c16), .val (.int c17), .unset, .unset, .unset, .unset, .unset, .unset, .unset, .unset, .unset, .unset, .unset, .unset, .unset, .unset, .unset] [])) _
      refine st99 _ ?_
      show Steps p.tables e below (s₁.setTop (mkF m 154 #[.val (.long p0), .second, .val (.long p1), .second, .val (.int p2), .val (.int p3), .val (.int p4), .val (.int p5), .val (.int c8), .val (.int c9), .val (.int c10), .val (.int c11), .val (.int c12), .val (.int c13), .val (.int c14), .val (.int c15), .val (.int c16), .val (.int c17), .unset, .unset, .unset, .unset, .unset, .unset, .unset, .unset, .unset, .unset, .unset, .unset, .unset, .unset, .unset] [(.int c18)])) _
      refine XS.istore X0.here hx rfl (hb hby at_154) rfl (l' := #[.val (.long p0), .second, .val (.long p1), .second, .val (.int p2), .val (.int p3), .val (.int p4), .val (.int p5), .val (.int c8), .val (.int c9), .val (.int c10), .val (.int c11), .val (.int c12), .val (.int c13), .val (.int c14), .val (.int c15), .val (.int c16), .val (.int c17), .val (.int c18), .unset, .unset, .unset, .unset, .unset, .unset, .unset, .unset, .unset, .unset, .unset, .unset, .unset, .unset]) rfl ?_
      show Steps p.tables e below (s₁.setTop (mkF m 156 #[.val (.long p0), .second, .val (.long p1), .second, .val (.int p2), .val (.int p3), .val (.int p4), .val (.int p5), .val (.int c8), .val (.int c9), .val (.int c10), .val (.int c11), .val (.int c12), .val (.int c13), .val (.int c14), .val (.int c15), .val (.int c16), .val (.int c17), .val (.int c18), .unset, .unset, .unset, .unset, .unset, .unset, .unset, .unset, .unset, .unset, .unset, .unset, .unset, .unset] [])) _
      refine st100 _ ?_
      show Steps p.tables e below (s₁.setTop (mkF m 176 #[.val (.long p0), .second, .val (.long p1), .second, .val (.int p2), .val (.int p3), .val (.int p4), .val (.int p5), .val (.int c8), .val (.int c9), .val (.int c10), .val (.int c11), .val (.int c12), .val (.int c13), .val (.int c14), .val (.int c15), .val (.int c16), .val (.int c17), .val (.int c18), .unset, .unset, .unset, .unset, .unset, .unset, .unset, .unset, .unset, .unset, .unset, .unset, .unset, .unset] [(.int c19)])) _
      refine XS.istore X0.here hx rfl (hb hby at_176) rfl (l' := #[.val (.long p0), .second, .val (.long p1), .second, .val (.int p2), .val (.int p3), .val (.int p4), .val (.int p5), .val (.int c8), .val (.int c9), .val (.int c10), .val (.int c11), .val (.int c12), .val (.int c13), .val (.int c14), .val (.int c15), .val (.int c16), .val (.int c17), .val (.int c18), .val (.int c19), .unset, .unset, .unset, .unset, .unset, .unset, .unset, .unset, .unset, .unset, .unset, .unset, .unset]) rfl ?_
      show Steps p.tables e below (s₁.setTop (mkF m 178 #[.val (.long p0), .second, .val (.long p1), .second, .val (.int p2), .val (.int p3), .val (.int p4), .val (.int p5), .val (.int c8), .val (.int c9), .val (.int c10), .val (.int c11), .val (.int c12), .val (.int c13), .val (.int c14), .val (.int c15), .val (.int c16), .val (.int c17), .val (.int c18), .val (.int c19), .unset, .unset, .unset, .unset, .unset, .unset, .unset, .unset, .unset, .unset, .unset, .unset, .unset] [])) _
      refine st101 _ ?_
      show Steps p.tables e below (s₁.setTop (mkF m 198 #[.val (.long p0), .second, .val (.long p1), .second, .val (.int p2), .val (.int p3), .val (.int p4), .val (.int p5), .val (.int c8), .val (.int c9), .val (.int c10), .val (.int c11), .val (.int c12), .val (.int c13), .val (.int c14), .val (.int c15), .val (.int c16), .val (.int c17), .val (.int c18), .val (.int c19), .unset, .unset, .unset, .unset, .unset, .unset, .unset, .unset, .unset, .unset, .unset, .unset, .unset] [(.int c20)])) _
      refine XS.istore X0.here hx rfl (hb hby at_198) rfl (l' := #[.val (.long p0), .second, .val (.long p1), .second, .val (.int p2), .val (.int p3), .val (.int p4), .val (.int p5), .val (.int c8), .val (.int c9), .val (.int c10), .val (.int c11), .val (.int c12), .val (.int c13), .val (.int c14), .val (.int c15), .val (.int c16), .val (.int c17), .val (.int c18), .val (.int c19), .val (.int c20), .unset, .unset, .unset, .unset, .unset, .unset, .unset, .unset, .unset, .unset, .unset, .unset]) rfl ?_
      show Steps p.tables e below (s₁.setTop (mkF m 200 #[.val (.long p0), .second, .val (.long p1), .second, .val (.int p2), .val (.int p3), .val (.int p4), .val (.int p5), .val (.int c8), .val (.int c9), .val (.int c10), .val (.int c11), .val (.int c12), .val (.int c13), .val (.int c14), .val (.int c15), .val (.int c16), .val (.int c17), .val (.int c18), .val (.int c19), .val (.int c20), .unset, .unset, .unset, .unset, .unset, .unset, .unset, .unset, .unset, .unset, .unset, .unset] [])) _
      refine st102 _ ?_
      show Steps p.tables e below (s₁.setTop (mkF m 219 #[.val (.long p0), .second, .val (.long p1), .second, .val (.int p2), .val (.int p3), .val (.int p4), .val (.int p5), .val (.int c8), .val (.int c9), .val (.int c10), .val (.int c11), .val (.int c12), .val (.int c13), .val (.int c14), .val (.int c15), .val (.int c16), .val (.int c17), .val (.int c18), .val (.int c19), .val (.int c20), .unset, .unset, .unset, .unset, .unset, .unset, .unset, .unset, .unset, .unset, .unset, .unset] [(.int c21)])) _
      refine XS.istore X0.here hx rfl (hb hby at_219) rfl (l' := #[.val (.long p0), .second, .val (.long p1), .second, .val (.int p2), .val (.int p3), .val (.int p4), .val (.int p5), .val (.int c8), .val (.int c9), .val (.int c10), .val (.int c11), .val (.int c12), .val (.int c13), .val (.int c14), .val (.int c15), .val (.int c16), .val (.int c17), .val (.int c18), .val (.int c19), .val (.int c20), .val (.int c21), .unset, .unset, .unset, .unset, .unset, .unset, .unset, .unset, .unset, .unset, .unset]) rfl ?_
      show Steps p.tables e below (s₁.setTop (mkF m 221 #[.val (.long p0), .second, .val (.long p1), .second, .val (.int p2), .val (.int p3), .val (.int p4), .val (.int p5), .val (.int c8), .val (.int c9), .val (.int c10), .val (.int c11), .val (.int c12), .val (.int c13), .val (.int c14), .val (.int c15), .val (.int c16), .val (.int c17), .val (.int c18), .val (.int c19), .val (.int c20), .val (.int c21), .unset, .unset, .unset, .unset, .unset, .unset, .unset, .unset, .unset, .unset, .unset] [])) _
      refine st103 _ ?_
      show Steps p.tables e below (s₁.setTop (mkF m 239 #[.val (.long p0), .second, .val (.long p1), .second, .val (.int p2), .val (.int p3), .val (.int p4), .val (.int p5), .val (.int c8), .val (.int c9), .val (.int c10), .val (.int c11), .val (.int c12), .val (.int c13), .val (.int c14), .val (.int c15), .val (.int c16), .val (.int c17), .val (.int c18), .val (.int c19), .val (.int c20), .val (.int c21), .unset, .unset, .unset, .unset, .unset, .unset, .unset, .unset, .unset, .unset, .unset] [(.int c22)])) _
      refine XS.istore X0.here hx rfl (hb hby at_239) rfl (l' := #[.val (.long p0), .second, .val (.long p1), .second, .val (.int p2), .val (.int p3), .val (.int p4), .val (.int p5), .val (.int c8), .val (.int c9), .val (.int c10), .val (.int c11), .val (.int c12), .val (.int c13), .val (.int c14), .val (.int c15), .val (.int c16), .val (.int c17), .val (.int c18), .val (.int c19), .val (.int c20), .val (.int c21), .val (.int c22), .unset, .unset, .unset, .unset, .unset, .unset, .unset, .unset, .unset, .unset]) rfl ?_
      show Steps p.tables e below (s₁.setTop (mkF m 241 #[.val (.long p0), .second, .val (.long p1), .second, .val (.int p2), .val (.int p3), .val (.int p4), .val (.int p5), .val (.int c8), .val (.int c9), .val (.int c10), .val (.int c11), .val (.int c12), .val (.int c13), .val (.int c14), .val (.int c15), .val (.int c16), .val (.int c17), .val (.int c18), .val (.int c19), .val (.int c20), .val (.int c21), .val (.int c22), .unset, .unset, .unset, .unset, .unset, .unset, .unset, .unset, .unset, .unset] [])) _
      refine st104 _ ?_
      show Steps p.tables e below (s₁.setTop (mkF m 262 #[.val (.long p0), .second, .val (.long p1), .second, .val (.int p2), .val (.int p3), .val (.int p4), .val (.int p5), .val (.int c8), .val (.int c9), .val (.int c10), .val (.int c11), .val (.int c12), .val (.int c13), .val (.int c14), .val (.int c15), .val (.int c16), .val (.int c17), .val (.int c18), .val (.int c19), .val (.int c20), .val (.int c21), .val (.int c22), .unset, .unset, .unset, .unset, .unset, .unset, .unset, .unset, .unset, .unset] [(.int c23)])) _
      refine XS.istore X0.here hx rfl (hb hby at_262) rfl (l' := #[.val (.long p0), .second, .val (.long p1), .second, .val (.int p2), .val (.int p3), .val (.int p4), .val (.int p5), .val (.int c8), .val (.int c9), .val (.int c10), .val (.int c11), .val (.int c12), .val (.int c13), .val (.int c14), .val (.int c15), .val (.int c16), .val (.int c17), .val (.int c18), .val (.int c19), .val (.int c20), .val (.int c21), .val (.int c22), .val (.int c23), .unset, .unset, .unset, .unset, .unset, .unset, .unset, .unset, .unset]) rfl ?_
      show Steps p.tables e below (s₁.setTop (mkF m 264 #[.val (.long p0), .second, .val (.long p1), .second, .val (.int p2), .val (.int p3), .val (.int p4), .val (.int p5), .val (.int c8), .val (.int c9), .val (.int c10), .val (.int c11), .val (.int c12), .val (.int c13), .val (.int c14), .val (.int c15), .val (.int c16), .val (.int c17), .val (.int c18), .val (.int c19), .val (.int c20), .val (.int c21), .val (.int c22), .val (.int c23), .unset, .unset, .unset, .unset, .unset, .unset, .unset, .unset, .unset] [])) _
      refine st105 _ ?_
      show Steps p.tables e below (s₁.setTop (mkF m 285 #[.val (.long p0), .second, .val (.long p1), .second, .val (.int p2), .val (.int p3), .val (.int p4), .val (.int p5), .val (.int c8), .val (.int c9), .val (.int c10), .val (.int c11), .val (.int c12), .val (.int c13), .val (.int c14), .val (.int c15), .val (.int c16), .val (.int c17), .val (.int c18), .val (.int c19), .val (.int c20), .val (.int c21), .val (.int c22), .val (.int c23), .unset, .unset, .unset, .unset, .unset, .unset, .unset, .unset, .unset] [(.int c24)])) _
      refine XS.istore X0.here hx rfl (hb hby at_285) rfl (l' := #[.val (.long p0), .second, .val (.long p1), .second, .val (.int p2), .val (.int p3), .val (.int p4), .val (.int p5), .val (.int c8), .val (.int c9), .val (.int c10), .val (.int c11), .val (.int c12), .val (.int c13), .val (.int c14), .val (.int c15), .val (.int c16), .val (.int c17), .val (.int c18), .val (.int c19), .val (.int c20), .val (.int c21), .val (.int c22), .val (.int c23), .val (.int c24), .unset, .unset, .unset, .unset, .unset, .unset, .unset, .unset]) rfl ?_
      show Steps p.tables e below (s₁.setTop (mkF m 287 #[.val (.long p0), .second, .val (.long p1), .second, .val (.int p2), .val (.int p3), .val (.int p4), .val (.int p5), .val (.int c8), .val (.int c9), .val (.int c10), .val (.int c11), .val (.int c12), .val (.int c13), .val (.int c14), .val (.int c15), .val (.int c16), .val (.int c17), .val (.int c18), .val (.int c19), .val (.int c20), .val (.int c21), .val (.int c22), .val (.int c23), .val (.int c24), .unset, .unset, .unset, .unset, .unset, .unset, .unset, .unset] [])) _
      refine XS.iload X0.here hx rfl (hb hby at_287) rfl ?_
      show Steps p.tables e below (s₁.setTop (mkF m 289 #[.val (.long p0), .second, .val (.long p1), .second, .val (.int p2), .val (.int p3), .val (.int p4), .val (.int p5), .val (.int c8), .val (.int c9), .val (.int c10), .val (.int c11), .val (.int c12), .val (.int c13), .val (.int c14), .val (.int c15), .val (.int c16), .val (.int c17), .val (.int c18), .val (.int c19), .val (.int c20), .val (.int c21), .val (.int c22), .val (.int c23), .val (.int c24), .unset, .unset, .unset, .unset, .unset, .unset, .unset, .unset] [(.int c10)])) _
      refine XS.iload X0.here hx rfl (hb hby at_289) rfl ?_
      show Steps p.tables e below (s₁.setTop (mkF m 291 #[.val (.long p0), .second, .val (.long p1), .second, .val (.int p2), .val (.int p3), .val (.int p4), .val (.int p5), .val (.int c8), .val (.int c9), .val (.int c10), .val (.int c11), .val (.int c12), .val (.int c13), .val (.int c14), .val (.int c15), .val (.int c16), .val (.int c17), .val (.int c18), .val (.int c19), .val (.int c20), .val (.int c21), .val (.int c22), .val (.int c23), .val (.int c24), .unset, .unset, .unset, .unset, .unset, .unset, .unset, .unset] [(.int c12), (.int c10)])) _
      refine XS.iload X0.here hx rfl (hb hby at_291) rfl ?_
      show Steps p.tables e below (s₁.setTop (mkF m 293 #[.val (.long p0), .second, .val (.long p1), .second, .val (.int p2), .val (.int p3), .val (.int p4), .val (.int p5), .val (.int c8), .val (.int c9), .val (.int c10), .val (.int c11), .val (.int c12), .val (.int c13), .val (.int c14), .val (.int c15), .val (.int c16), .val (.int c17), .val (.int c18), .val (.int c19), .val (.int c20), .val (.int c21), .val (.int c22), .val (.int c23), .val (.int c24), .unset, .unset, .unset, .unset, .unset, .unset, .unset, .unset] [(.int c13), (.int c12), (.int c10)])) _
      refine st106 _ ?_
      show Steps p.tables e below (T106.setTop (mkF m 296 #[.val (.long p0), .second, .val (.long p1), .second, .val (.int p2), .val (.int p3), .val (.int p4), .val (.int p5), .val (.int c8), .val (.int c9), .val (.int c10), .val (.int c11), .val (.int c12), .val (.int c13), .val (.int c14), .val (.int c15), .val (.int c16), .val (.int c17), .val (.int c18), .val (.int c19), .val (.int c20), .val (.int c21), .val (.int c22), .val (.int c23), .val (.int c24), .unset, .unset, .unset, .unset, .unset, .unset, .unset, .unset] [(.ref s25)])) _
      refine XS.astore X106.here hx rfl (hb hby at_296) rfl rfl (l' := #[.val (.long p0), .second, .val (.long p1), .second, .val (.int p2), .val (.int p3), .val (.int p4), .val (.int p5), .val (.int c8), .val (.int c9), .val (.int c10), .val (.int c11), .val (.int c12), .val (.int c13), .val (.int c14), .val (.int c15), .val (.int c16), .val (.int c17), .val (.int c18), .val (.int c19), .val (.int c20), .val (.int c21), .val (.int c22), .val (.int c23), .val (.int c24), .val (.ref s25), .unset, .unset, .unset, .unset, .unset, .unset, .unset]) rfl ?_
      show Steps p.tables e below (T106.setTop (mkF m 298 #[.val (.long p0), .second, .val (.long p1), .second, .val (.int p2), .val (.int p3), .val (.int p4), .val (.int p5), .val (.int c8), .val (.int c9), .val (.int c10), .val (.int c11), .val (.int c12), .val (.int c13), .val (.int c14), .val (.int c15), .val (.int c16), .val (.int c17), .val (.int c18), .val (.int c19), .val (.int c20), .val (.int c21), .val (.int c22), .val (.int c23), .val (.int c24), .val (.ref s25), .unset, .unset, .unset, .unset, .unset, .unset, .unset] [])) _
      refine XS.iload X106.here hx rfl (hb hby at_298) rfl ?_
      show Steps p.tables e below (T106.setTop (mkF m 300 #[.val (.long p0), .second, .val (.long p1), .second, .val (.int p2), .val (.int p3), .val (.int p4), .val (.int p5), .val (.int c8), .val (.int c9), .val (.int c10), .val (.int c11), .val (.int c12), .val (.int c13), .val (.int c14), .val (.int c15), .val (.int c16), .val (.int c17), .val (.int c18), .val (.int c19), .val (.int c20), .val (.int c21), .val (.int c22), .val (.int c23), .val (.int c24), .val (.ref s25), .unset, .unset, .unset, .unset, .unset, .unset, .unset] [(.int c11)])) _
      refine XS.iload X106.here hx rfl (hb hby at_300) rfl ?_
      show Steps p.tables e below (T106.setTop (mkF m 302 #[.val (.long p0), .second, .val (.long p1), .second, .val (.int p2), .val (.int p3), .val (.int p4), .val (.int p5), .val (.int c8), .val (.int c9), .val (.int c10), .val (.int c11), .val (.int c12), .val (.int c13), .val (.int c14), .val (.int c15), .val (.int c16), .val (.int c17), .val (.int c18), .val (.int c19), .val (.int c20), .val (.int c21), .val (.int c22), .val (.int c23), .val (.int c24), .val (.ref s25), .unset, .unset, .unset, .unset, .unset, .unset, .unset] [(.int c14), (.int c11)])) _
      refine XS.iload X106.here hx rfl (hb hby at_302) rfl ?_
      show Steps p.tables e below (T106.setTop (mkF m 304 #[.val (.long p0), .second, .val (.long p1), .second, .val (.int p2), .val (.int p3), .val (.int p4), .val (.int p5), .val (.int c8), .val (.int c9), .val (.int c10), .val (.int c11), .val (.int c12), .val (.int c13), .val (.int c14), .val (.int c15), .val (.int c16), .val (.int c17), .val (.int c18), .val (.int c19), .val (.int c20), .val (.int c21), .val (.int c22), .val (.int c23), .val (.int c24), .val (.ref s25), .unset, .unset, .unset, .unset, .unset, .unset, .unset] [(.int c15), (.int c14), (.int c11)])) _
      refine st110 _ ?_
      show Steps p.tables e below (T110.setTop (mkF m 307 #[.val (.long p0), .second, .val (.long p1), .second, .val (.int p2), .val (.int p3), .val (.int p4), .val (.int p5), .val (.int c8), .val (.int c9), .val (.int c10), .val (.int c11), .val (.int c12), .val (.int c13), .val (.int c14), .val (.int c15), .val (.int c16), .val (.int c17), .val (.int c18), .val (.int c19), .val (.int c20), .val (.int c21), .val (.int c22), .val (.int c23), .val (.int c24), .val (.ref s25), .unset, .unset, .unset, .unset, .unset, .unset, .unset] [(.ref s26)])) _
      refine XS.astore X110.here hx rfl (hb hby at_307) rfl rfl (l' := #[.val (.long p0), .second, .val (.long p1), .second, .val (.int p2), .val (.int p3), .val (.int p4), .val (.int p5), .val (.int c8), .val (.int c9), .val (.int c10), .val (.int c11), .val (.int c12), .val (.int c13), .val (.int c14), .val (.int c15), .val (.int c16), .val (.int c17), .val (.int c18), .val (.int c19), .val (.int c20), .val (.int c21), .val (.int c22), .val (.int c23), .val (.int c24), .val (.ref s25), .val (.ref s26), .unset, .unset, .unset, .unset, .unset, .unset]) rfl ?_
      show Steps p.tables e below (T110.setTop (mkF m 309 #[.val (.long p0), .second, .val (.long p1), .second, .val (.int p2), .val (.int p3), .val (.int p4), .val (.int p5), .val (.int c8), .val (.int c9), .val (.int c10), .val (.int c11), .val (.int c12), .val (.int c13), .val (.int c14), .val (.int c15), .val (.int c16), .val (.int c17), .val (.int c18), .val (.int c19), .val (.int c20), .val (.int c21), .val (.int c22), .val (.int c23), .val (.int c24), .val (.ref s25), .val (.ref s26), .unset, .unset, .unset, .unset, .unset, .unset] [])) _
      refine XS.iload X110.here hx rfl (hb hby at_309) rfl ?_
      show Steps p.tables e below (T110.setTop (mkF m 311 #[.val (.long p0), .second, .val (.long p1), .second, .val (.int p2), .val (.int p3), .val (.int p4), .val (.int p5), .val (.int c8), .val (.int c9), .val (.int c10), .val (.int c11), .val (.int c12), .val (.int c13), .val (.int c14), .val (.int c15), .val (.int c16), .val (.int c17), .val (.int c18), .val (.int c19), .val (.int c20), .val (.int c21), .val (.int c22), .val (.int c23), .val (.int c24), .val (.ref s25), .val (.ref s26), .unset, .unset, .unset, .unset, .unset, .unset] [(.int c18)])) _
      refine XS.iload X110.here hx rfl (hb hby at_311) rfl ?_
      show Steps p.tables e below (T110.setTop (mkF m 313 #[.val (.long p0), .second, .val (.long p1), .second, .val (.int p2), .val (.int p3), .val (.int p4), .val (.int p5), .val (.int c8), .val (.int c9), .val (.int c10), .val (.int c11), .val (.int c12), .val (.int c13), .val (.int c14), .val (.int c15), .val (.int c16), .val (.int c17), .val (.int c18), .val (.int c19), .val (.int c20), .val (.int c21), .val (.int c22), .val (.int c23), .val (.int c24), .val (.ref s25), .val (.ref s26), .unset, .unset, .unset, .unset, .unset, .unset] [(.int c16), (.int c18)])) _
      refine XS.iload X110.here hx rfl (hb hby at_313) rfl ?_
      show Steps p.tables e below (T110.setTop (mkF m 315 #[.val (.long p0), .second, .val (.long p1), .second, .val (.int p2), .val (.int p3), .val (.int p4), .val (.int p5), .val (.int c8), .val (.int c9), .val (.int c10), .val (.int c11), .val (.int c12), .val (.int c13), .val (.int c14), .val (.int c15), .val (.int c16), .val (.int c17), .val (.int c18), .val (.int c19), .val (.int c20), .val (.int c21), .val (.int c22), .val (.int c23), .val (.int c24), .val (.ref s25), .val (.ref s26), .unset, .unset, .unset, .unset, .unset, .unset] [(.int c17), (.int c16), (.int c18)])) _
      refine st114 _ ?_
      show Steps p.tables e below (T114.setTop (mkF m 318 #[.val (.long p0), .second, .val (.long p1), .second, .val (.int p2), .val (.int p3), .val (.int p4), .val (.int p5), .val (.int c8), .val (.int c9), .val (.int c10), .val (.int c11), .val (.int c12), .val (.int c13), .val (.int c14), .val (.int c15), .val (.int c16), .val (.int c17), .val (.int c18), .val (.int c19), .val (.int c20), .val (.int c21), .val (.int c22), .val (.int c23), .val (.int c24), .val (.ref s25), .val (.ref s26), .unset, .unset, .unset, .unset, .unset, .unset] [(.ref s27)])) _
      refine XS.astore X114.here hx rfl (hb hby at_318) rfl rfl (l' := #[.val (.long p0), .second, .val (.long p1), .second, .val (.int p2), .val (.int p3), .val (.int p4), .val (.int p5), .val (.int c8), .val (.int c9), .val (.int c10), .val (.int c11), .val (.int c12), .val (.int c13), .val (.int c14), .val (.int c15), .val (.int c16), .val (.int c17), .val (.int c18), .val (.int c19), .val (.int c20), .val (.int c21), .val (.int c22), .val (.int c23), .val (.int c24), .val (.ref s25), .val (.ref s26), .val (.ref s27), .unset, .unset, .unset, .unset, .unset]) rfl ?_
      show Steps p.tables e below (T114.setTop (mkF m 320 #[.val (.long p0), .second, .val (.long p1), .second, .val (.int p2), .val (.int p3), .val (.int p4), .val (.int p5), .val (.int c8), .val (.int c9), .val (.int c10), .val (.int c11), .val (.int c12), .val (.int c13), .val (.int c14), .val (.int c15), .val (.int c16), .val (.int c17), .val (.int c18), .val (.int c19), .val (.int c20), .val (.int c21), .val (.int c22), .val (.int c23), .val (.int c24), .val (.ref s25), .val (.ref s26), .val (.ref s27), .unset, .unset, .unset, .unset, .unset] [])) _
      refine XS.iload X114.here hx rfl (hb hby at_320) rfl ?_
      show Steps p.tables e below (T114.setTop (mkF m 322 #[.val (.long p0), .second, .val (.long p1), .second, .val (.int p2), .val (.int p3), .val (.int p4), .val (.int p5), .val (.int c8), .val (.int c9), .val (.int c10), .val (.int c11), .val (.int c12), .val (.int c13), .val (.int c14), .val (.int c15), .val (.int c16), .val (.int c17), .val (.int c18), .val (.int c19), .val (.int c20), .val (.int c21), .val (.int c22), .val (.int c23), .val (.int c24), .val (.ref s25), .val (.ref s26), .val (.ref s27), .unset, .unset, .unset, .unset, .unset] [(.int c21)])) _
      refine XS.iload X114.here hx rfl (hb hby at_322) rfl ?_
      show Steps p.tables e below (T114.setTop (mkF m 324 #[.val (.long p0), .second, .val (.long p1), .second, .val (.int p2), .val (.int p3), .val (.int p4), .val (.int p5), .val (.int c8), .val (.int c9), .val (.int c10), .val (.int c11), .val (.int c12), .val (.int c13), .val (.int c14), .val (.int c15), .val (.int c16), .val (.int c17), .val (.int c18), .val (.int c19), .val (.int c20), .val (.int c21), .val (.int c22), .val (.int c23), .val (.int c24), .val (.ref s25), .val (.ref s26), .val (.ref s27), .unset, .unset, .unset, .unset, .unset] [(.int c19), (.int c21)])) _
      refine XS.iload X114.here hx rfl (hb hby at_324) rfl ?_
      show Steps p.tables e below (T114.setTop (mkF m 326 #[.val (.long p0), .second, .val (.long p1), .second, .val (.int p2), .val (.int p3), .val (.int p4), .val (.int p5), .val (.int c8), .val (.int c9), .val (.int c10), .val (.int c11), .val (.int c12), .val (.int c13), .val (.int c14), .val (.int c15), .val (.int c16), .val (.int c17), .val (.int c18), .val (.int c19), .val (.int c20), .val (.int c21), .val (.int c22), .val (.int c23), .val (.int c24), .val (.ref s25), .val (.ref s26), .val (.ref s27), .unset, .unset, .unset, .unset, .unset] [(.int c20), (.int c19), (.int c21)])) _
      refine st118 _ ?_
      show Steps p.tables e below (T118.setTop (mkF m 329 #[.val (.long p0), .second, .val (.long p1), .second, .val (.int p2), .val (.int p3), .val (.int p4), .val (.int p5), .val (.int c8), .val (.int c9), .val (.int c10), .val (.int c11), .val (.int c12), .val (.int c13), .val (.int c14), .val (.int c15), .val (.int c16), .val (.int c17), .val (.int c18), .val (.int c19), .val (.int c20), .val (.int c21), .val (.int c22), .val (.int c23), .val (.int c24), .val (.ref s25), .val (.ref s26), .val (.ref s27), .unset, .unset, .unset, .unset, .unset] [(.ref s28)])) _
      refine XS.astore X118.here hx rfl (hb hby at_329) rfl rfl (l' := #[.val (.long p0), .second, .val (.long p1), .second, .val (.int p2), .val (.int p3), .val (.int p4), .val (.int p5), .val (.int c8), .val (.int c9), .val (.int c10), .val (.int c11), .val (.int c12), .val (.int c13), .val (.int c14), .val (.int c15), .val (.int c16), .val (.int c17), .val (.int c18), .val (.int c19), .val (.int c20), .val (.int c21), .val (.int c22), .val (.int c23), .val (.int c24), .val (.ref s25), .val (.ref s26), .val (.ref s27), .val (.ref s28), .unset, .unset, .unset, .unset]) rfl ?_
      show Steps p.tables e below (T118.setTop (mkF m 331 #[.val (.long p0), .second, .val (.long p1), .second, .val (.int p2), .val (.int p3), .val (.int p4), .val (.int p5), .val (.int c8), .val (.int c9), .val (.int c10), .val (.int c11), .val (.int c12), .val (.int c13), .val (.int c14), .val (.int c15), .val (.int c16), .val (.int c17), .val (.int c18), .val (.int c19), .val (.int c20), .val (.int c21), .val (.int c22), .val (.int c23), .val (.int c24), .val (.ref s25), .val (.ref s26), .val (.ref s27), .val (.ref s28), .unset, .unset, .unset, .unset] [])) _
      refine st121 _ ?_
      show Steps p.tables e below (T121.setTop (mkF m 348 #[.val (.long p0), .second, .val (.long p1), .second, .val (.int p2), .val (.int p3), .val (.int p4), .val (.int p5), .val (.int c8), .val (.int c9), .val (.int c10), .val (.int c11), .val (.int c12), .val (.int c13), .val (.int c14), .val (.int c15), .val (.int c16), .val (.int c17), .val (.int c18), .val (.int c19), .val (.int c20), .val (.int c21), .val (.int c22), .val (.int c23), .val (.int c24), .val (.ref s25), .val (.ref s26), .val (.ref s27), .val (.ref s28), .unset, .unset, .unset, .unset] [(.ref b29)])) _
      refine XS.astore X121.here hx rfl (hb hby at_348) rfl rfl (l' := #[.val (.long p0), .second, .val (.long p1), .second, .val (.int p2), .val (.int p3), .val (.int p4), .val (.int p5), .val (.int c8), .val (.int c9), .val (.int c10), .val (.int c11), .val (.int c12), .val (.int c13), .val (.int c14), .val (.int c15), .val (.int c16), .val (.int c17), .val (.int c18), .val (.int c19), .val (.int c20), .val (.int c21), .val (.int c22), .val (.int c23), .val (.int c24), .val (.ref s25), .val (.ref s26), .val (.ref s27), .val (.ref s28), .val (.ref b29), .unset, .unset, .unset]) rfl ?_
      show Steps p.tables e below (T121.setTop (mkF m 350 #[.val (.long p0), .second, .val (.long p1), .second, .val (.int p2), .val (.int p3), .val (.int p4), .val (.int p5), .val (.int c8), .val (.int c9), .val (.int c10), .val (.int c11), .val (.int c12), .val (.int c13), .val (.int c14), .val (.int c15), .val (.int c16), .val (.int c17), .val (.int c18), .val (.int c19), .val (.int c20), .val (.int c21), .val (.int c22), .val (.int c23), .val (.int c24), .val (.ref s25), .val (.ref s26), .val (.ref s27), .val (.ref s28), .val (.ref b29), .unset, .unset, .unset] [])) _
      refine st130 _ ?_
      show Steps p.tables e below (T130.setTop (mkF m 367 #[.val (.long p0), .second, .val (.long p1), .second, .val (.int p2), .val (.int p3), .val (.int p4), .val (.int p5), .val (.int c8), .val (.int c9), .val (.int c10), .val (.int c11), .val (.int c12), .val (.int c13), .val (.int c14), .val (.int c15), .val (.int c16), .val (.int c17), .val (.int c18), .val (.int c19), .val (.int c20), .val (.int c21), .val (.int c22), .val (.int c23), .val (.int c24), .val (.ref s25), .val (.ref s26), .val (.ref s27), .val (.ref s28), .val (.ref b29), .unset, .unset, .unset] [(.ref b30)])) _
      refine XS.astore X130.here hx rfl (hb hby at_367) rfl rfl (l' := #[.val (.long p0), .second, .val (.long p1), .second, .val (.int p2), .val (.int p3), .val (.int p4), .val (.int p5), .val (.int c8), .val (.int c9), .val (.int c10), .val (.int c11), .val (.int c12), .val (.int c13), .val (.int c14), .val (.int c15), .val (.int c16), .val (.int c17), .val (.int c18), .val (.int c19), .val (.int c20), .val (.int c21), .val (.int c22), .val (.int c23), .val (.int c24), .val (.ref s25), .val (.ref s26), .val (.ref s27), .val (.ref s28), .val (.ref b29), .val (.ref b30), .unset, .unset]) rfl ?_
      show Steps p.tables e below (T130.setTop (mkF m 369 #[.val (.long p0), .second, .val (.long p1), .second, .val (.int p2), .val (.int p3), .val (.int p4), .val (.int p5), .val (.int c8), .val (.int c9), .val (.int c10), .val (.int c11), .val (.int c12), .val (.int c13), .val (.int c14), .val (.int c15), .val (.int c16), .val (.int c17), .val (.int c18), .val (.int c19), .val (.int c20), .val (.int c21), .val (.int c22), .val (.int c23), .val (.int c24), .val (.ref s25), .val (.ref s26), .val (.ref s27), .val (.ref s28), .val (.ref b29), .val (.ref b30), .unset, .unset] [])) _
      refine XS.iload X130.here hx rfl (hb hby at_369) rfl ?_
      show Steps p.tables e below (T130.setTop (mkF m 371 #[.val (.long p0), .second, .val (.long p1), .second, .val (.int p2), .val (.int p3), .val (.int p4), .val (.int p5), .val (.int c8), .val (.int c9), .val (.int c10), .val (.int c11), .val (.int c12), .val (.int c13), .val (.int c14), .val (.int c15), .val (.int c16), .val (.int c17), .val (.int c18), .val (.int c19), .val (.int c20), .val (.int c21), .val (.int c22), .val (.int c23), .val (.int c24), .val (.ref s25), .val (.ref s26), .val (.ref s27), .val (.ref s28), .val (.ref b29), .val (.ref b30), .unset, .unset] [(.int p5)])) _
      refine XS.bipush X130.here hx rfl (hb hby at_371) ?_
      show Steps p.tables e below (T130.setTop (mkF m 373 #[.val (.long p0), .second, .val (.long p1), .second, .val (.int p2), .val (.int p3), .val (.int p4), .val (.int p5), .val (.int c8), .val (.int c9), .val (.int c10), .val (.int c11), .val (.int c12), .val (.int c13), .val (.int c14), .val (.int c15), .val (.int c16), .val (.int c17), .val (.int c18), .val (.int c19), .val (.int c20), .val (.int c21), .val (.int c22), .val (.int c23), .val (.int c24), .val (.ref s25), .val (.ref s26), .val (.ref s27), .val (.ref s28), .val (.ref b29), .val (.ref b30), .unset, .unset] [(.int (7 : Int32)), (.int p5)])) _
      refine XS.iushr X130.here hx rfl (hb hby at_373) rfl ?_
      show Steps p.tables e below (T130.setTop (mkF m 374 #[.val (.long p0), .second, .val (.long p1), .second, .val (.int p2), .val (.int p3), .val (.int p4), .val (.int p5), .val (.int c8), .val (.int c9), .val (.int c10), .val (.int c11), .val (.int c12), .val (.int c13), .val (.int c14), .val (.int c15), .val (.int c16), .val (.int c17), .val (.int c18), .val (.int c19), .val (.int c20), .val (.int c21), .val (.int c22), .val (.int c23), .val (.int c24), .val (.ref s25), .val (.ref s26), .val (.ref s27), .val (.ref s28), .val (.ref b29), .val (.ref b30), .unset, .unset] [(.int ((p5.toUInt32 >>> ((7 : Int32) &&& 31).toUInt32).toInt32))])) _
      refine XS.iconst X130.here hx rfl (hb hby at_374) ?_
      show Steps p.tables e below (T130.setTop (mkF m 375 #[.val (.long p0), .second, .val (.long p1), .second, .val (.int p2), .val (.int p3), .val (.int p4), .val (.int p5), .val (.int c8), .val (.int c9), .val (.int c10), .val (.int c11), .val (.int c12), .val (.int c13), .val (.int c14), .val (.int c15), .val (.int c16), .val (.int c17), .val (.int c18), .val (.int c19), .val (.int c20), .val (.int c21), .val (.int c22), .val (.int c23), .val (.int c24), .val (.ref s25), .val (.ref s26), .val (.ref s27), .val (.ref s28), .val (.ref b29), .val (.ref b30), .unset, .unset] [(.int (3 : Int32)), (.int ((p5.toUInt32 >>> ((7 : Int32) &&& 31).toUInt32).toInt32))])) _
      refine XS.iand X130.here hx rfl (hb hby at_375) rfl ?_
      show Steps p.tables e below (T130.setTop (mkF m 376 #[.val (.long p0), .second, .val (.long p1), .second, .val (.int p2), .val (.int p3), .val (.int p4), .val (.int p5), .val (.int c8), .val (.int c9), .val (.int c10), .val (.int c11), .val (.int c12), .val (.int c13), .val (.int c14), .val (.int c15), .val (.int c16), .val (.int c17), .val (.int c18), .val (.int c19), .val (.int c20), .val (.int c21), .val (.int c22), .val (.int c23), .val (.int c24), .val (.ref s25), .val (.ref s26), .val (.ref s27), .val (.ref s28), .val (.ref b29), .val (.ref b30), .unset, .unset] [(.int (((p5.toUInt32 >>> ((7 : Int32) &&& 31).toUInt32).toInt32) &&& (3 : Int32)))])) _
      refine XS.istore X130.here hx rfl (hb hby at_376) rfl (l' := #[.val (.long p0), .second, .val (.long p1), .second, .val (.int p2), .val (.int p3), .val (.int p4), .val (.int p5), .val (.int c8), .val (.int c9), .val (.int c10), .val (.int c11), .val (.int c12), .val (.int c13), .val (.int c14), .val (.int c15), .val (.int c16), .val (.int c17), .val (.int c18), .val (.int c19), .val (.int c20), .val (.int c21), .val (.int c22), .val (.int c23), .val (.int c24), .val (.ref s25), .val (.ref s26), .val (.ref s27), .val (.ref s28), .val (.ref b29), .val (.ref b30), .val (.int (((p5.toUInt32 >>> ((7 : Int32) &&& 31).toUInt32).toInt32) &&& (3 : Int32))), .unset]) rfl ?_
      show Steps p.tables e below (T130.setTop (mkF m 378 #[.val (.long p0), .second, .val (.long p1), .second, .val (.int p2), .val (.int p3), .val (.int p4), .val (.int p5), .val (.int c8), .val (.int c9), .val (.int c10), .val (.int c11), .val (.int c12), .val (.int c13), .val (.int c14), .val (.int c15), .val (.int c16), .val (.int c17), .val (.int c18), .val (.int c19), .val (.int c20), .val (.int c21), .val (.int c22), .val (.int c23), .val (.int c24), .val (.ref s25), .val (.ref s26), .val (.ref s27), .val (.ref s28), .val (.ref b29), .val (.ref b30), .val (.int (((p5.toUInt32 >>> ((7 : Int32) &&& 31).toUInt32).toInt32) &&& (3 : Int32))), .unset] [])) _
      refine XS.iload X130.here hx rfl (hb hby at_378) rfl ?_
      show Steps p.tables e below (T130.setTop (mkF m 380 #[.val (.long p0), .second, .val (.long p1), .second, .val (.int p2), .val (.int p3), .val (.int p4), .val (.int p5), .val (.int c8), .val (.int c9), .val (.int c10), .val (.int c11), .val (.int c12), .val (.int c13), .val (.int c14), .val (.int c15), .val (.int c16), .val (.int c17), .val (.int c18), .val (.int c19), .val (.int c20), .val (.int c21), .val (.int c22), .val (.int c23), .val (.int c24), .val (.ref s25), .val (.ref s26), .val (.ref s27), .val (.ref s28), .val (.ref b29), .val (.ref b30), .val (.int (((p5.toUInt32 >>> ((7 : Int32) &&& 31).toUInt32).toInt32) &&& (3 : Int32))), .unset] [(.int (((p5.toUInt32 >>> ((7 : Int32) &&& 31).toUInt32).toInt32) &&& (3 : Int32)))])) _
      refine XS.iconst X130.here hx rfl (hb hby at_380) ?_
      show Steps p.tables e below (T130.setTop (mkF m 381 #[.val (.long p0), .second, .val (.long p1), .second, .val (.int p2), .val (.int p3), .val (.int p4), .val (.int p5), .val (.int c8), .val (.int c9), .val (.int c10), .val (.int c11), .val (.int c12), .val (.int c13), .val (.int c14), .val (.int c15), .val (.int c16), .val (.int c17), .val (.int c18), .val (.int c19), .val (.int c20), .val (.int c21), .val (.int c22), .val (.int c23), .val (.int c24), .val (.ref s25), .val (.ref s26), .val (.ref s27), .val (.ref s28), .val (.ref b29), .val (.ref b30), .val (.int (((p5.toUInt32 >>> ((7 : Int32) &&& 31).toUInt32).toInt32) &&& (3 : Int32))), .unset] [(.int (1 : Int32)), (.int (((p5.toUInt32 >>> ((7 : Int32) &&& 31).toUInt32).toInt32) &&& (3 : Int32)))])) _
      refine XS.icmpNo X130.here hx rfl (hb hby at_381) rfl (teq hm1).2 ?_
      show Steps p.tables e below (T130.setTop (mkF m 384 #[.val (.long p0), .second, .val (.long p1), .second, .val (.int p2), .val (.int p3), .val (.int p4), .val (.int p5), .val (.int c8), .val (.int c9), .val (.int c10), .val (.int c11), .val (.int c12), .val (.int c13), .val (.int c14), .val (.int c15), .val (.int c16), .val (.int c17), .val (.int c18), .val (.int c19), .val (.int c20), .val (.int c21), .val (.int c22), .val (.int c23), .val (.int c24), .val (.ref s25), .val (.ref s26), .val (.ref s27), .val (.ref s28), .val (.ref b29), .val (.ref b30), .val (.int (((p5.toUInt32 >>> ((7 : Int32) &&& 31).toUInt32).toInt32) &&& (3 : Int32))), .unset] [])) _
      refine XS.aload X130.here hx rfl (hb hby at_384) rfl rfl ?_
      show Steps p.tables e below (T130.setTop (mkF m 386 #[.val (.long p0), .second, .val (.long p1), .second, .val (.int p2), .val (.int p3), .val (.int p4), .val (.int p5), .val (.int c8), .val (.int c9), .val (.int c10), .val (.int c11), .val (.int c12), .val (.int c13), .val (.int c14), .val (.int c15), .val (.int c16), .val (.int c17), .val (.int c18), .val (.int c19), .val (.int c20), .val (.int c21), .val (.int c22), .val (.int c23), .val (.int c24), .val (.ref s25), .val (.ref s26), .val (.ref s27), .val (.ref s28), .val (.ref b29), .val (.ref b30), .val (.int (((p5.toUInt32 >>> ((7 : Int32) &&& 31).toUInt32).toInt32) &&& (3 : Int32))), .unset] [(.ref b29)])) _
      refine XS.aconstNull X130.here hx rfl (hb hby at_386) ?_
      show Steps p.tables e below (T130.setTop (mkF m 387 #[.val (.long p0), .second, .val (.long p1), .second, .val (.int p2), .val (.int p3), .val (.int p4), .val (.int p5), .val (.int c8), .val (.int c9), .val (.int c10), .val (.int c11), .val (.int c12), .val (.int c13), .val (.int c14), .val (.int c15), .val (.int c16), .val (.int c17), .val (.int c18), .val (.int c19), .val (.int c20), .val (.int c21), .val (.int c22), .val (.int c23), .val (.int c24), .val (.ref s25), .val (.ref s26), .val (.ref s27), .val (.ref s28), .val (.ref b29), .val (.ref b30), .val (.int (((p5.toUInt32 >>> ((7 : Int32) &&& 31).toUInt32).toInt32) &&& (3 : Int32))), .unset] [.null, (.ref b29)])) _
      refine st144.trans ?_
      show Steps p.tables e below (T144.setTop (mkF m 390 #[.val (.long p0), .second, .val (.long p1), .second, .val (.int p2), .val (.int p3), .val (.int p4), .val (.int p5), .val (.int c8), .val (.int c9), .val (.int c10), .val (.int c11), .val (.int c12), .val (.int c13), .val (.int c14), .val (.int c15), .val (.int c16), .val (.int c17), .val (.int c18), .val (.int c19), .val (.int c20), .val (.int c21), .val (.int c22), .val (.int c23), .val (.int c24), .val (.ref s25), .val (.ref s26), .val (.ref s27), .val (.ref s28), .val (.ref b29), .val (.ref b30), .val (.int (((p5.toUInt32 >>> ((7 : Int32) &&& 31).toUInt32).toInt32) &&& (3 : Int32))), .unset] [(.int (0 : Int32))])) _
      refine XS.ifNo X144.here hx rfl (hb hby at_390) rfl ((if0 _ _).trans (teq rfl).2) ?_
      show Steps p.tables e below (T144.setTop (mkF m 393 #[.val (.long p0), .second, .val (.long p1), .second, .val (.int p2), .val (.int p3), .val (.int p4), .val (.int p5), .val (.int c8), .val (.int c9), .val (.int c10), .val (.int c11), .val (.int c12), .val (.int c13), .val (.int c14), .val (.int c15), .val (.int c16), .val (.int c17), .val (.int c18), .val (.int c19), .val (.int c20), .val (.int c21), .val (.int c22), .val (.int c23), .val (.int c24), .val (.ref s25), .val (.ref s26), .val (.ref s27), .val (.ref s28), .val (.ref b29), .val (.ref b30), .val (.int (((p5.toUInt32 >>> ((7 : Int32) &&& 31).toUInt32).toInt32) &&& (3 : Int32))), .unset] [])) _
      refine XS.iconst X144.here hx rfl (hb hby at_393) ?_
      show Steps p.tables e below (T144.setTop (mkF m 394 #[.val (.long p0), .second, .val (.long p1), .second, .val (.int p2), .val (.int p3), .val (.int p4), .val (.int p5), .val (.int c8), .val (.int c9), .val (.int c10), .val (.int c11), .val (.int c12), .val (.int c13), .val (.int c14), .val (.int c15), .val (.int c16), .val (.int c17), .val (.int c18), .val (.int c19), .val (.int c20), .val (.int c21), .val (.int c22), .val (.int c23), .val (.int c24), .val (.ref s25), .val (.ref s26), .val (.ref s27), .val (.ref s28), .val (.ref b29), .val (.ref b30), .val (.int (((p5.toUInt32 >>> ((7 : Int32) &&& 31).toUInt32).toInt32) &&& (3 : Int32))), .unset] [(.int (1 : Int32))])) _
      refine XS.goto X144.here hx rfl (pc0 := 394) (pc' := 398) rfl (hb hby at_394) (by decide) (by decide) ?_
      show Steps p.tables e below (T144.setTop (mkF m 398 #[.val (.long p0), .second, .val (.long p1), .second, .val (.int p2), .val (.int p3), .val (.int p4), .val (.int p5), .val (.int c8), .val (.int c9), .val (.int c10), .val (.int c11), .val (.int c12), .val (.int c13), .val (.int c14), .val (.int c15), .val (.int c16), .val (.int c17), .val (.int c18), .val (.int c19), .val (.int c20), .val (.int c21), .val (.int c22), .val (.int c23), .val (.int c24), .val (.ref s25), .val (.ref s26), .val (.ref s27), .val (.ref s28), .val (.ref b29), .val (.ref b30), .val (.int (((p5.toUInt32 >>> ((7 : Int32) &&& 31).toUInt32).toInt32) &&& (3 : Int32))), .unset] [(.int (1 : Int32))])) _
      exact retN X144 hx (t := .boolean) hret0 (by simp) (hb hby at_398) hr
    · show Q0 n0 _ T144.heap _
      rw [eh144]
      exact ⟨rfl, N144⟩
  · skip
    by_cases hm2 : (((p5.toUInt32 >>> ((7 : Int32) &&& 31).toUInt32).toInt32) &&& (3 : Int32)) = (2 : Int32)
    · skip
      obtain ⟨cq145, kq145, q145a, q145b, q145c⟩ := isOf hZ e130 E29
      obtain ⟨v145, vmx145, ⟨T145, L145, k145, n145⟩, -, X145, ⟨Lc145, hQ145, l145, y145, z145⟩, st145⟩ := X130.virtualBack hx (y := (⟨"com/example/ample_search/amplesearch/analysis/Token", "equals", "(Ljava/lang/Object;)Z"⟩ : MethodName)) (z := (⟨"com/example/ample_search/amplesearch/analysis/Token", "equals", "(Ljava/lang/Object;)Z"⟩ : MethodName)) hown (mvT hZ (hw _ (List.mem_of_getElem? (i := 55) rfl))) (mvT hZ (hw _ (List.mem_of_getElem? (i := 56) rfl))) (notFace_of_selects (args := #[]) (mvT hZ (hw _ (List.mem_of_getElem? (i := 58) rfl)))) (mvT hZ (hw _ (List.mem_of_getElem? (i := 58) rfl))) (mvT hZ (hw _ (List.mem_of_getElem? (i := 57) rfl))) (by decide) (backOf (W := 0) (rm10s l Z a0 hw [] b29 s25 h130 n0 Z137 f140.2.2.1) hZ (hw _ (List.mem_of_getElem? (i := 59) rfl)) (hw _ (List.mem_of_getElem? (i := 37) rfl)) (by decide) (by decide)) q145a q145c (g := (mkF m 409 #[.val (.long p0), .second, .val (.long p1), .second, .val (.int p2), .val (.int p3), .val (.int p4), .val (.int p5), .val (.int c8), .val (.int c9), .val (.int c10), .val (.int c11), .val (.int c12), .val (.int c13), .val (.int c14), .val (.int c15), .val (.int c16), .val (.int c17), .val (.int c18), .val (.int c19), .val (.int c20), .val (.int c21), .val (.int c22), .val (.int c23), .val (.int c24), .val (.ref s25), .val (.ref s26), .val (.ref s27), .val (.ref s28), .val (.ref b29), .val (.ref b30), .val (.int (((p5.toUInt32 >>> ((7 : Int32) &&& 31).toUInt32).toInt32) &&& (3 : Int32))), .unset] [(.ref s25), (.ref b29)])) rfl (by rw [hml]; rfl) (Steps.refl _) (argsL := [(.ref s25)]) (rest := []) (lenOf own_pd1 rfl) rfl (by show 2 * 0 + _ ≤ _; exact Nat.le_of_eq rfl) (hb hby at_409) (fun _ _ => ⟨rfl, e130, (by decide : 14 + 0 ≤ _), (by decide : 42 + 0 ≤ _)⟩)
      dsimp only [Pt.U, Pt.locs, Pt.cells, Pt.slots] at X145 l145 y145 z145 st145 hQ145
      subst l145 y145 z145
      obtain ⟨rfl, Nq145, eh145⟩ := hQ145
      have N145 := Fr.app N130 Nq145
      obtain ⟨fs, hr, hrun, hended, hW, hsame⟩ := X145.leave (v := some (.int (1 : Int32))) (fun h => by rw [hret0] at h; cases h)
      refine ⟨_, _, pre0 _ ?_, hrun, hended, _, _, rfl, ?_, ⟨_, rfl⟩, hW, hsame.mono (by decide) (by decide)⟩
      · show Steps p.tables e below (s₁.setTop (mkF m 0 #[.val (.long p0), .second, .val (.long p1), .second, .val (.int p2), .val (.int p3), .val (.int p4), .val (.int p5), .unset, .unset, .unset, .unset, .unset, .unset, .unset, .unset, .unset, .unset, .unset, .unset, .unset, .unset, .unset, .unset, .unset, .unset, .unset, .unset, .unset, .unset, .unset, .unset, .unset] [])) _
        refine st89 _ ?_
        show Steps p.tables e below (s₁.setTop (mkF m 12 #[.val (.long p0), .second, .val (.long p1), .second, .val (.int p2), .val (.int p3), .val (.int p4), .val (.int p5), .unset, .unset, .unset, .unset, .unset, .unset, .unset, .unset, .unset, .unset, .unset, .unset, .unset, .unset, .unset, .unset, .unset, .unset, .unset, .unset, .unset, .unset, .unset, .unset, .unset] [(.int c8)])) _
        refine XS.istore X0.here hx rfl (hb hby at_12) rfl (l' := #[.val (.long p0), .second, .val (.long p1), .second, .val (.int p2), .val (.int p3), .val (.int p4), .val (.int p5), .val (.int c8), .unset, .unset, .unset, .unset, .unset, .unset, .unset, .unset, .unset, .unset, .unset, .unset, .unset, .unset, .unset, .unset, .unset, .unset, .unset, .unset, .unset, .unset, .unset, .unset]) rfl ?_
        show Steps p.tables e below (s₁.setTop (mkF m 14 #[.val (.long p0), .second, .val (.long p1), .second, .val (.int p2), .val (.int p3), .val (.int p4), .val (.int p5), .val (.int c8), .unset, .unset, .unset, .unset, .unset, .unset, .unset, .unset, .unset, .unset, .unset, .unset, .unset, .unset, .unset, .unset, .unset, .unset, .unset, .unset, .unset, .unset, .unset, .unset] [])) _
        refine st90 _ ?_
        show Steps p.tables e below (s₁.setTop (mkF m 27 #[.val (.long p0), .second, .val (.long p1), .second, .val (.int p2), .val (.int p3), .val (.int p4), .val (.int p5), .val (.int c8), .unset, .unset, .unset, .unset, .unset, .unset, .unset, .unset, .unset, .unset, .unset, .unset, .unset, .unset, .unset, .unset, .unset, .unset, .unset, .unset, .unset, .unset, .unset, .unset] [(.int c9)])) _
        refine XS.istore X0.here hx rfl (hb hby at_27) rfl (l' := #[.val (.long p0), .second, .val (.long p1), .second, .val (.int p2), .val (.int p3), .val (.int p4), .val (.int p5), .val (.int c8), .val (.int c9), .unset, .unset, .unset, .unset, .unset, .unset, .unset, .unset, .unset, .unset, .unset, .unset, .unset, .unset, .unset, .unset, .unset, .unset, .unset, .unset, .unset, .unset, .unset]) rfl ?_
        show Steps p.tables e below (s₁.setTop (mkF m 29 #[.val (.long p0), .second, .val (.long p1), .second, .val (.int p2), .val (.int p3), .val (.int p4), .val (.int p5), .val (.int c8), .val (.int c9), .unset, .unset, .unset, .unset, .unset, .unset, .unset, .unset, .unset, .unset, .unset, .unset, .unset, .unset, .unset, .unset, .unset, .unset, .unset, .unset, .unset, .unset, .unset] [])) _
        refine st91 _ ?_
        show Steps p.tables e below (s₁.setTop (mkF m 37 #[.val (.long p0), .second, .val (.long p1), .second, .val (.int p2), .val (.int p3), .val (.int p4), .val (.int p5), .val (.int c8), .val (.int c9), .unset, .unset, .unset, .unset, .unset, .unset, .unset, .unset, .unset, .unset, .unset, .unset, .unset, .unset, .unset, .unset, .unset, .unset, .unset, .unset, .unset, .unset, .unset] [(.int c10)])) _
        refine XS.istore X0.here hx rfl (hb hby at_37) rfl (l' := #[.val (.long p0), .second, .val (.long p1), .second, .val (.int p2), .val (.int p3), .val (.int p4), .val (.int p5), .val (.int c8), .val (.int c9), .val (.int c10), .unset, .unset, .unset, .unset, .unset, .unset, .unset, .unset, .unset, .unset, .unset, .unset, .unset, .unset, .unset, .unset, .unset, .unset, .unset, .unset, .unset, .unset]) rfl ?_
        show Steps p.tables e below (s₁.setTop (mkF m 39 #[.val (.long p0), .second, .val (.long p1), .second, .val (.int p2), .val (.int p3), .val (.int p4), .val (.int p5), .val (.int c8), .val (.int c9), .val (.int c10), .unset, .unset, .unset, .unset, .unset, .unset, .unset, .unset, .unset, .unset, .unset, .unset, .unset, .unset, .unset, .unset, .unset, .unset, .unset, .unset, .unset, .unset] [])) _
        refine st92 _ ?_
        show Steps p.tables e below (s₁.setTop (mkF m 47 #[.val (.long p0), .second, .val (.long p1), .second, .val (.int p2), .val (.int p3), .val (.int p4), .val (.int p5), .val (.int c8), .val (.int c9), .val (.int c10), .unset, .unset, .unset, .unset, .unset, .unset, .unset, .unset, .unset, .unset, .unset, .unset, .unset, .unset, .unset, .unset, .unset, .unset, .unset, .unset, .unset, .unset] [(.int c11)])) _
        refine XS.istore X0.here hx rfl (hb hby at_47) rfl (l' := #[.val (.long p0), .second, .val (.long p1), .second, .val (.int p2), .val (.int p3), .val (.int p4), .val (.int p5), .val (.int c8), .val (.int c9), .val (.int c10), .val (.int c11), .unset, .unset, .unset, .unset, .unset, .unset, .unset, .unset, .unset, .unset, .unset, .unset, .unset, .unset, .unset, .unset, .unset, .unset, .unset, .unset, .unset]) rfl ?_
        show Steps p.tables e below (s₁.setTop (mkF m 49 #[.val (.long p0), .second, .val (.long p1), .second, .val (.int p2), .val (.int p3), .val (.int p4), .val (.int p5), .val (.int c8), .val (.int c9), .val (.int c10), .val (.int c11), .unset, .unset, .unset, .unset, .unset, .unset, .unset, .unset, .unset, .unset, .unset, .unset, .unset, .unset, .unset, .unset, .unset, .unset, .unset, .unset, .unset] [])) _
        refine st93 _ ?_
        show Steps p.tables e below (s₁.setTop (mkF m 56 #[.val (.long p0), .second, .val (.long p1), .second, .val (.int p2), .val (.int p3), .val (.int p4), .val (.int p5), .val (.int c8), .val (.int c9), .val (.int c10), .val (.int c11), .unset, .unset, .unset, .unset, .unset, .unset, .unset, .unset, .unset, .unset, .unset, .unset, .unset, .unset, .unset, .unset, .unset, .unset, .unset, .unset, .unset] [(.int c12)])) _
        refine XS.istore X0.here hx rfl (hb hby at_56) rfl (l' := #[.val (.long p0), .second, .val (.long p1), .second, .val (.int p2), .val (.int p3), .val (.int p4), .val (.int p5), .val (.int c8), .val (.int c9), .val (.int c10), .val (.int c11), .val (.int c12), .unset, .unset, .unset, .unset, .unset, .unset, .unset, .unset, .unset, .unset, .unset, .unset, .unset, .unset, .unset, .unset, .unset, .unset, .unset, .unset]) rfl ?_
        show Steps p.tables e below (s₁.setTop (mkF m 58 #[.val (.long p0), .second, .val (.long p1), .second, .val (.int p2), .val (.int p3), .val (.int p4), .val (.int p5), .val (.int c8), .val (.int c9), .val (.int c10), .val (.int c11), .val (.int c12), .unset, .unset, .unset, .unset, .unset, .unset, .unset, .unset, .unset, .unset, .unset, .unset, .unset, .unset, .unset, .unset, .unset, .unset, .unset, .unset] [])) _
        refine st94 _ ?_
        show Steps p.tables e below (s₁.setTop (mkF m 68 #[.val (.long p0), .second, .val (.long p1), .second, .val (.int p2), .val (.int p3), .val (.int p4), .val (.int p5), .val (.int c8), .val (.int c9), .val (.int c10), .val (.int c11), .val (.int c12), .unset, .unset, .unset, .unset, .unset, .unset, .unset, .unset, .unset, .unset, .unset, .unset, .unset, .unset, .unset, .unset, .unset, .unset, .unset, .unset] [(.int c13)])) _
        refine XS.istore X0.here hx rfl (hb hby at_68) rfl (l' := #[.val (.long p0), .second, .val (.long p1), .second, .val (.int p2), .val (.int p3), .val (.int p4), .val (.int p5), .val (.int c8), .val (.int c9), .val (.int c10), .val (.int c11), .val (.int c12), .val (.int c13), .unset, .unset, .unset, .unset, .unset, .unset, .unset, .unset, .unset, .unset, .unset, .unset, .unset, .unset, .unset, .unset, .unset, .unset, .unset]) rfl ?_
        show Steps p.tables e below (s₁.setTop (mkF m 70 #[.val (.long p0), .second, .val (.long p1), .second, .val (.int p2), .val (.int p3), .val (.int p4), .val (.int p5), .val (.int c8), .val (.int c9), .val (.int c10), .val (.int c11), .val (.int c12), .val (.int c13), .unset, .unset, .unset, .unset, .unset, .unset, .unset, .unset, .unset, .unset, .unset, .unset, .unset, .unset, .unset, .unset, .unset, .unset, .unset] [])) _
        refine st95 _ ?_
        show Steps p.tables e below (s₁.setTop (mkF m 80 #[.val (.long p0), .second, .val (.long p1), .second, .val (.int p2), .val (.int p3), .val (.int p4), .val (.int p5), .val (.int c8), .val (.int c9), .val (.int c10), .val (.int c11), .val (.int c12), .val (.int c13), .unset, .unset, .unset, .unset, .unset, .unset, .unset, .unset, .unset, .unset, .unset, .unset, .unset, .unset, .unset, .unset, .unset, .unset, .unset] [(.int c14)])) _
        refine XS.istore X0.here hx rfl (hb hby at_80) rfl (l' := #[.val (.long p0), .second, .val (.long p1), .second, .val (.int p2), .val (.int p3), .val (.int p4), .val (.int p5), .val (.int c8), .val (.int c9), .val (.int c10), .val (.int c11), .val (.int c12), .val (.int c13), .val (.int c14), .unset, .unset, .unset, .unset, .unset, .unset, .unset, .unset, .unset, .unset, .unset, .unset, .unset, .unset, .unset, .unset, .unset, .unset]) rfl ?_
        show Steps p.tables e below (s₁.setTop (mkF m 82 #[.val (.long p0), .second, .val (.long p1), .second, .val (.int p2), .val (.int p3), .val (.int p4), .val (.int p5), .val (.int c8), .val (.int c9), .val (.int c10), .val (.int c11), .val (.int c12), .val (.int c13), .val (.int c14), .unset, .unset, .unset, .unset, .unset, .unset, .unset, .unset, .unset, .unset, .unset, .unset, .unset, .unset, .unset, .unset, .unset, .unset] [])) _
        refine st96 _ ?_
        show Steps p.tables e below (s₁.setTop (mkF m 92 #[.val (.long p0), .second, .val (.long p1), .second, .val (.int p2), .val (.int p3), .val (.int p4), .val (.int p5), .val (.int c8), .val (.int c9), .val (.int c10), .val (.int c11), .val (.int c12), .val (.int c13), .val (.int c14), .unset, .unset, .unset, .unset, .unset, .unset, .unset, .unset, .unset, .unset, .unset, .unset, .unset, .unset, .unset, .unset, .unset, .unset] [(.int c15)])) _
        refine XS.istore X0.here hx rfl (hb hby at_92) rfl (l' := #[.val (.long p0), .second, .val (.long p1), .second, .val (.int p2), .val (.int p3), .val (.int p4), .val (.int p5), .val (.int c8), .val (.int c9), .val (.int c10), .val (.int c11), .val (.int c12), .val (.int c13), .val (.int c14), .val (.int c15), .unset, .unset, .unset, .unset, .unset, .unset, .unset, .unset, .unset, .unset, .unset, .unset, .unset, .unset, .unset, .unset, .unset]) rfl ?_
        show Steps p.tables e below (s₁.setTop (mkF m 94 #[.val (.long p0), .second, .val (.long p1), .second, .val (.int p2), .val (.int p3), .val (.int p4), .val (.int p5), .val (.int c8), .val (.int c9), .val (.int c10), .val (.int c11), .val (.int c12), .val (.int c13), .val (.int c14), .val (.int c15), .unset, .unset, .unset, .unset, .unset, .unset, .unset, .unset, .unset, .unset, .unset, .unset, .unset, .unset, .unset, .unset, .unset] [])) _
        refine st97 _ ?_
        show Steps p.tables e below (s₁.setTop (mkF m 111 #[.val (.long p0), .second, .val (.long p1), .second, .val (.int p2), .val (.int p3), .val (.int p4), .val (.int p5), .val (.int c8), .val (.int c9), .val (.int c10), .val (.int c11), .val (.int c12), .val (.int c13), .val (.int c14), .val (.int c15), .unset, .unset, .unset, .unset, .unset, .unset, .unset, .unset, .unset, .unset, .unset, .unset, .unset, .unset, .unset, .unset, .unset] [(.int c16)])) _
        refine XS.istore X0.here hx rfl (hb hby at_111) rfl (l' := #[.val (.long p0), .second, .val (.long p1), .second, .val (.int p2), .val (.int p3), .val (.int p4), .val (.int p5), .val (.int c8), .val (.int c9), .val (.int c10), .val (.int c11), .val (.int c12), .val (.int c13), .val (.int c14), .val (.int c15), .val (.int c16), .unset, .unset, .unset, .unset, .unset, .unset, .unset, .unset, .unset, .unset, .unset, .unset, .unset, .unset, .unset, .unset]) rfl ?_
        show Steps p.tables e below (s₁.setTop (mkF m 113 #[.val (.long p0), .second, .val (.long p1), .second, .val (.int p2), .val (.int p3), .val (.int p4), .val (.int p5), .val (.int c8), .val (.int c9), .val (.int c10), .val (.int c11), .val (.int c12), .val (.int c13), .val (.int c14), .val (.int c15), .val (.int c16), .unset, .unset, .unset, .unset, .unset, .unset, .unset, .unset, .unset, .unset, .unset, .unset, .unset, .unset, .unset, .unset] [])) _
        refine st98 _ ?_
        show Steps p.tables e below (s₁.setTop (mkF m 133 #[.val (.long p0), .second, .val (.long p1), .second, .val (.int p2), .val (.int p3), .val (.int p4), .val (.int p5), .val (.int c8), .val (.int c9), .val (.int c10), .val (.int c11), .val (.int c12), .val (.int c13), .val (.int c14), .val (.int c15), .val (.int c16), .unset, .unset, .unset, .unset, .unset, .unset, .unset, .unset, .unset, .unset, .unset, .unset, .unset, .unset, .unset, .unset] [(.int c17)])) _
        refine XS.istore X0.here hx rfl (hb hby at_133) rfl (l' := #[.val (.long p0), .second, .val (.long p1), .second, .val (.int p2), .val (.int p3), .val (.int p4), .val (.int p5), .val (.int c8), .val (.int c9), .val (.int c10), .val (.int c11), .val (.int c12), .val (.int c13), .val (.int c14), .val (.int c15), .val (.int c16), .val (.int c17), .unset, .unset, .unset, .unset, .unset, .unset, .unset, .unset, .unset, .unset, .unset, .unset, .unset, .unset, .unset]) rfl ?_
        show Steps p.tables e below (s₁.setTop (mkF m 135 #[.val (.long p0), .second, .val (.long p1), .second, .val (.int p2), .val (.int p3), .val (.int p4), .val (.int p5), .val (.int c8), .val (.int c9), .val (.int c10), .val (.int c11), .val (.int c12), .val (.int c13), .val (.int c14), .val (.int c15), .val (.int c16), .val (.int c17), .unset, .unset, .unset, .unset, .unset, .unset, .unset, .unset, .unset, .unset, .unset, .unset, .unset, .unset, .unset] [])) _
        refine st99 _ ?_
        show Steps p.tables e below (s₁.setTop (mkF m 154 #[.val (.long p0), .second, .val (.long p1), .second, .val (.int p2), .val (.int p3), .val (.int p4), .val (.int p5), .val (.int c8), .val (.int c9), .val (.int c10), .val (.int c11), .val (.int c12), .val (.int c13), .val (.int c14), .val (.int c15), .val (.int c16), .val (.int c17), .unset, .unset, .unset, .unset, .unset, .unset, .unset, .unset, .unset, .unset, .unset, .unset, .unset, .unset, .unset] [(.int c18)])) _
        refine XS.istore X0.here hx rfl (hb hby at_154) rfl (l' := #[.val (.long p0), .second, .val (.long p1), .second, .val (.int p2), .val (.int p3), .val (.int p4), .val (.int p5), .val (.int c8), .val (.int c9), .val (.int c10), .val (.int c11), .val (.int c12), .val (.int c13), .val (.int c14), .val (.int c15), .val (.int c16), .val (.int c17), .val (.int c18), .unset, .unset, .unset, .unset, .unset, .unset, .unset, .unset, .unset, .unset, .unset, .unset, .unset, .unset]) rfl ?_
        show Steps p.tables e below (s₁.setTop (mkF m 156 #[.val (.long p0), .second, .val (.long p1), .second, .val (.int p2), .val (.int p3), .val (.int p4), .val (.int p5), .val (.int c8), .val (.int c9), .val (.int c10), .val (.int c11), .val (.int c12), .val (.int c13), .val (.int c14), .val (.int c15), .val (.int c16), .val (.int c17), .val (.int c18), .unset, .unset, .unset, .unset, .unset, .unset, .unset, .unset, .unset, .unset, .unset, .unset, .unset, .unset] [])) _
        refine st100 _ ?_
        show Steps p.tables e below (s₁.setTop (mkF m 176 #[.val (.long p0), .second, .val (.long p1), .second, .val (.int p2), .val (.int p3), .val (.int p4), .val (.int p5), .val (.int c8), .val (.int c9), .val (.int c10), .val (.int c11), .val (.int c12), .val (.int c13), .val (.int c14), .val (.int c15), .val (.int c16), .val (.int c17), .val (.int c18), .unset, .unset, .unset, .unset, .unset, .unset, .unset, .unset, .unset, .unset, .unset, .unset, .unset, .unset] [(.int c19)])) _
        refine XS.istore X0.here hx rfl (hb hby at_176) rfl (l' := #[.val (.long p0), .second, .val (.long p1), .second, .val (.int p2), .val (.int p3), .val (.int p4), .val (.int p5), .val (.int c8), .val (.int c9), .val (.int c10), .val (.int c11), .val (.int c12), .val (.int c13), .val (.int c14), .val (.int c15), .val (.int c16), .val (.int c17), .val (.int c18), .val (.int c19), .unset, .unset, .unset, .unset, .unset, .unset, .unset, .unset, .unset, .unset, .unset, .unset, .unset]) rfl ?_
        show Steps p.tables e below (s₁.setTop (mkF m 178 #[.val (.long p0), .second, .val (.long p1), .second, .val (.int p2), .val (.int p3), .val (.int p4), .val (.int p5), .val (.int c8), .val (.int c9), .val (.int c10), .val (.int c11), .val (.int c12), .val (.int c13), .val (.int c14), .val (.int c15), .val (.int c16), .val (.int c17), .val (.int c18), .val (.int c19), .unset, .unset, .unset, .unset, .unset, .unset, .unset, .unset, .unset, .unset, .unset, .unset, .unset] [])) _
        refine st101 _ ?_
        show Steps p.tables e below (s₁.setTop (mkF m 198 #[.val (.long p0), .second, .val (.long p1), .second, .val (.int p2), .val (.int p3), .val (.int p4), .val (.int p5), .val (.int c8), .val (.int c9), .val (.int c10), .val (.int c11), .val (.int c12), .val (.int c13), .val (.int c14), .val (.int c15), .val (.int c16), .val (.int c17), .val (.int c18), .val (.int c19), .unset, .unset, .unset, .unset, .unset, .unset, .unset, .unset, .unset, .unset, .unset, .unset, .unset] [(.int c20)])) _
        refine XS.istore X0.here hx rfl (hb hby at_198) rfl (l' := #[.val (.long p0), .second, .val (.long p1), .second, .val (.int p2), .val (.int p3), .val (.int p4), .val (.int p5), .val (.int c8), .val (.int c9), .val (.int c10), .val (.int c11), .val (.int c12), .val (.int c13), .val (.int c14), .val (.int c15), .val (.int c16), .val (.int c17), .val (.int c18), .val (.int c19), .val (.int c20), .unset, .unset, .unset, .unset, .unset, .unset, .unset, .unset, .unset, .unset, .unset, .unset]) rfl ?_
        show Steps p.tables e below (s₁.setTop (mkF m 200 #[.val (.long p0), .second, .val (.long p1), .second, .val (.int p2), .val (.int p3), .val (.int p4), .val (.int p5), .val (.int c8), .val (.int c9), .val (.int c10), .val (.int c11), .val (.int c12), .val (.int c13), .val (.int c14), .val (.int c15), .val (.int c16), .val (.int c17), .val (.int c18), .val (.int c19), .val (.int c20), .unset, .unset, .unset, .unset, .unset, .unset, .unset, .unset, .unset, .unset, .unset, .unset] [])) _
        refine st102 _ ?_
        show Steps p.tables e below (s₁.setTop (mkF m 219 #[.val (.long p0), .second, .val (.long p1), .second, .val (.int p2), .val (.int p3), .val (.int p4), .val (.int p5), .val (.int c8), .val (.int c9), .val (.int c10), .val (.int c11), .val (.int c12), .val (.int c13), .val (.int c14), .val (.int c15), .val (.int c16), .val (.int c17), .val (.int c18), .val (.int c19), .val (.int c20), .unset, .unset, .unset, .unset, .unset, .unset, .unset, .unset, .unset, .unset, .unset, .unset] [(.int c21)])) _
        refine XS.istore X0.here hx rfl (hb hby at_219) rfl (l' := #[.val (.long p0), .second, .val (.long p1), .second, .val (.int p2), .val (.int p3), .val (.int p4), .val (.int p5), .val (.int c8), .val (.int c9), .val (.int c10), .val (.int c11), .val (.int c12), .val (.int c13), .val (.int c14), .val (.int c15), .val (.int c16), .val (.int c17), .val (.int c18), .val (.int c19), .val (.int c20), .val (.int c21), .unset, .unset, .unset, .unset, .unset, .unset, .unset, .unset, .unset, .unset, .unset]) rfl ?_
        show Steps p.tables e below (s₁.setTop (mkF m 221 #[.val (.long p0), .second, .val (.long p1), .second, .val (.int p2), .val (.int p3), .val (.int p4), .val (.int p5), .val (.int c8), .val (.int c9), .val (.int c10), .val (.int c11), .val (.int c12), .val (.int c13), .val (.int c14), .val (.int c15), .val (.int c16), .val (.int c17), .val (.int c18), .val (.int c19), .val (.int c20), .val (.int c21), .unset, .unset, .unset, .unset, .unset, .unset, .unset, .unset, .unset, .unset, .unset] [])) _
        refine st103 _ ?_
        show Steps p.tables e below (s₁.setTop (mkF m 239 #[.val (.long p0), .second, .val (.long p1), .second, .val (.int p2), .val (.int p3), .val (.int p4), .val (.int p5), .val (.int c8), .val (.int c9), .val (.int c10), .val (.int c11), .val (.int c12), .val (.int c13), .val (.int c14), .val (.int c15), .val (.int c16), .val (.int c17), .val (.int c18), .val (.int c19), .val (.int c20), .val (.int c21), .unset, .unset, .unset, .unset, .unset, .unset, .unset, .unset, .unset, .unset, .unset] [(.int c22)])) _
        refine XS.istore X0.here hx rfl (hb hby at_239) rfl (l' := #[.val (.long p0), .second, .val (.long p1), .second, .val (.int p2), .val (.int p3), .val (.int p4), .val (.int p5), .val (.int c8), .val (.int c9), .val (.int c10), .val (.int c11), .val (.int c12), .val (.int c13), .val (.int c14), .val (.int c15), .val (.int c16), .val (.int c17), .val (.int c18), .val (.int c19), .val (.int c20), .val (.int c21), .val (.int c22), .unset, .unset, .unset, .unset, .unset, .unset, .unset, .unset, .unset, .unset]) rfl ?_
        show Steps p.tables e below (s₁.setTop (mkF m 241 #[.val (.long p0), .second, .val (.long p1), .second, .val (.int p2), .val (.int p3), .val (.int p4), .val (.int p5), .val (.int c8), .val (.int c9), .val (.int c10), .val (.int c11), .val (.int c12), .val (.int c13), .val (.int c14), .val (.int c15), .val (.int c16), .val (.int c17), .val (.int c18), .val (.int c19), .val (.int c20), .val (.int c21), .val (.int c22), .unset, .unset, .unset, .unset, .unset, .unset, .unset, .unset, .unset, .unset] [])) _
        refine st104 _ ?_
        show Steps p.tables e below (s₁.setTop (mkF m 262 #[.val (.long p0), .second, .val (.long p1), .second, .val (.int p2), .val (.int p3), .val (.int p4), .val (.int p5), .val (.int c8), .val (.int c9), .val (.int c10), .val (.int c11), .val (.int c12), .val (.int c13), .val (.int c14), .val (.int c15), .val (.int c16), .val (.int c17), .val (.int c18), .val (.int c19), .val (.int c20), .val (.int c21), .val (.int c22), .unset, .unset, .unset, .unset, .unset, .unset, .unset, .unset, .unset, .unset] [(.int c23)])) _
        refine XS.istore X0.here hx rfl (hb hby at_262) rfl (l' := #[.val (.long p0), .second, .val (.long p1), .second, .val (.int p2), .val (.int p3), .val (.int p4), .val (.int p5), .val (.int c8), .val (.int c9), .val (.int c10), .val (.int c11), .val (.int c12), .val (.int c13), .val (.int c14), .val (.int c15), .val (.int c16), .val (.int c17), .val (.int c18), .val (.int c19), .val (.int c20), .val (.int c21), .val (.int c22), .val (.int c23), .unset, .unset, .unset, .unset, .unset, .unset, .unset, .unset, .unset]) rfl ?_
        show Steps p.tables e below (s₁.setTop (mkF m 264 #[.val (.long p0), .second, .val (.long p1), .second, .val (.int p2), .val (.int p3), .val (.int p4), .val (.int p5), .val (.int c8), .val (.int c9), .val (.int c10), .val (.int c11), .val (.int c12), .val (.int c13), .val (.int c14), .val (.int c15), .val (.int c16), .val (.int c17), .val (.int c18), .val (.int c19), .val (.int c20), .val (.int c21), .val (.int c22), .val (.int c23), .unset, .unset, .unset, .unset, .unset, .unset, .unset, .unset, .unset] [])) _
        refine st105 _ ?_
        show Steps p.tables e below (s₁.setTop (mkF m 285 #[.val (.long p0), .second, .val (.long p1), .second, .val (.int p2), .val (.int p3), .val (.int p4), .val (.int p5), .val (.int c8), .val (.int c9), .val (.int c10), .val (.int c11), .val (.int c12), .val (.int c13), .val (.int c14), .val (.int c15), .val (.int c16), .val (.int c17), .val (.int c18), .val (.int c19), .val (.int c20), .val (.int c21), .val (.int c22), .val (.int c23), .unset, .unset, .unset, .unset, .unset, .unset, .unset, .unset, .unset] [(.int c24)])) _
        refine XS.istore X0.here hx rfl (hb hby at_285) rfl (l' := #[.val (.long p0), .second, .val (.long p1), .second, .val (.int p2), .val (.int p3), .val (.int p4), .val (.int p5), .val (.int c8), .val (.int c9), .val (.int c10), .val (.int c11), .val (.int c12), .val (.int c13), .val (.int c14), .val (.int c15), .val (.int c16), .val (.int c17), .val (.int c18), .val (.int c19), .val (.int c20), .val (.int c21), .val (.int c22), .val (.int c23), .val (.int c24), .unset, .unset, .unset, .unset, .unset, .unset, .unset, .unset]) rfl ?_
        show Steps p.tables e below (s₁.setTop (mkF m 287 #[.val (.long p0), .second, .val (.long p1), .second, .val (.int p2), .val (.int p3), .val (.int p4), .val (.int p5), .val (.int c8), .val (.int c9), .val (.int c10), .val (.int c11), .val (.int c12), .val (.int c13), .val (.int c14), .val (.int c15), .val (.int c16), .val (.int c17), .val (.int c18), .val (.int c19), .val (.int c20), .val (.int c21), .val (.int c22), .val (.int c23), .val (.int c24), .unset, .unset, .unset, .unset, .unset, .unset, .unset, .unset] [])) _
        refine XS.iload X0.here hx rfl (hb hby at_287) rfl ?_
        show Steps p.tables e below (s₁.setTop (mkF m 289 #[.val (.long p0), .second, .val (.long p1), .second, .val (.int p2), .val (.int p3), .val (.int p4), .val (.int p5), .val (.int c8), .val (.int c9), .val (.int c10), .val (.int c11), .val (.int c12), .val (.int c13), .val (.int c14), .val (.int c15), .val (.int c16), .val (.int c17), .val (.int c18), .val (.int c19), .val (.int c20), .val (.int c21), .val (.int c22), .val (.int c23), .val (.int c24), .unset, .unset, .unset, .unset, .unset, .unset, .unset, .unset] [(.int c10)])) _
        refine XS.iload X0.here hx rfl (hb hby at_289) rfl ?_
        show Steps p.tables e below (s₁.setTop (mkF m 291 #[.val (.long p0), .second, .val (.long p1), .second, .val (.int p2), .val (.int p3), .val (.int p4), .val (.int p5), .val (.int c8), .val (.int c9), .val (.int c10), .val (.int c11), .val (.int c12), .val (.int c13), .val (.int c14), .val (.int c15), .val (.int c16), .val (.int c17), .val (.int c18), .val (.int c19), .val (.int c20), .val (.int c21), .val (.int c22), .val (.int c23), .val (.int c24), .unset, .unset, .unset, .unset, .unset, .unset, .unset, .unset] [(.int c12), (.int c10)])) _
        refine XS.iload X0.here hx rfl (hb hby at_291) rfl ?_
        show Steps p.tables e below (s₁.setTop (mkF m 293 #[.val (.long p0), .second, .val (.long p1), .second, .val (.int p2), .val (.int p3), .val (.int p4), .val (.int p5), .val (.int c8), .val (.int c9), .val (.int c10), .val (.int c11), .val (.int c12), .val (.int c13), .val (.int c14), .val (.int c15), .val (.int c16), .val (.int c17), .val (.int c18), .val (.int c19), .val (.int c20), .val (.int c21), .val (.int c22), .val (.int c23), .val (.int c24), .unset, .unset, .unset, .unset, .unset, .unset, .unset, .unset] [(.int c13), (.int c12), (.int c10)])) _
        refine st106 _ ?_
        show Steps p.tables e below (T106.setTop (mkF m 296 #[.val (.long p0), .second, .val (.long p1), .second, .val (.int p2), .val (.int p3), .val (.int p4), .val (.int p5), .val (.int c8), .val (.int c9), .val (.int c10), .val (.int c11), .val (.int c12), .val (.int c13), .val (.int c14), .val (.int c15), .val (.int c16), .val (.int c17), .val (.int c18), .val (.int c19), .val (.int c20), .val (.int c21), .val (.int c22), .val (.int c23), .val (.int c24), .unset, .unset, .unset, .unset, .unset, .unset, .unset, .unset] [(.ref s25)])) _
        refine XS.astore X106.here hx rfl (hb hby at_296) rfl rfl (l' := #[.val (.long p0), .second, .val (.long p1), .second, .val (.int p2), .val (.int p3), .val (.int p4), .val (.int p5), .val (.int c8), .val (.int c9), .val (.int c10), .val (.int c11), .val (.int c12), .val (.int c13), .val (.int c14), .val (.int c15), .val (.int c16), .val (.int c17), .val (.int c18), .val (.int c19), .val (.int c20), .val (.int c21), .val (.int c22), .val (.int c23), .val (.int c24), .val (.ref s25), .unset, .unset, .unset, .unset, .unset, .unset, .unset]) rfl ?_
        show Steps p.tables e below (T106.setTop (mkF m 298 #[.val (.long p0), .second, .val (.long p1), .second, .val (.int p2), .val (.int p3), .val (.int p4), .val (.int p5), .val (.int c8), .val (.int c9), .val (.int c10), .val (.int c11), .val (.int c12), .val (.int c13), .val (.int c14), .val (.int c15), .val (.int c16), .val (.int c17), .val (.int c18), .val (.int c19), .val (.int c20), .val (.int c21), .val (.int c22), .val (.int c23), .val (.int c24), .val (.ref s25), .unset, .unset, .unset, .unset, .unset, .unset, .unset] [])) _
        refine XS.iload X106.here hx rfl (hb hby at_298) rfl ?_
        show Steps p.tables e below (T106.setTop (mkF m 300 #[.val (.long p0), .second, .val (.long p1), .second, .val (.int p2), .val (.int p3), .val (.int p4), .val (.int p5), .val (.int c8), .val (.int c9), .val (.int c10), .val (.int c11), .val (.int c12), .val (.int c13), .val (.int c14), .val (.int c15), .val (.int c16), .val (.int c17), .val (.int c18), .val (.int c19), .val (.int c20), .val (.int c21), .val (.int c22), .val (.int c23), .val (.int c24), .val (.ref s25), .unset, .unset, .unset, .unset, .unset, .unset, .unset] [(.int c11)])) _
        refine XS.iload X106.here hx rfl (hb hby at_300) rfl ?_
        show Steps p.tables e below (T106.setTop (mkF m 302 #[.val (.long p0), .second, .val (.long p1), .second, .val (.int p2), .val (.int p3), .val (.int p4), .val (.int p5), .val (.int c8), .val (.int c9), .val (.int c10), .val (.int c11), .val (.int c12), .val (.int c13), .val (.int c14), .val (.int c15), .val (.int c16), .val (.int c17), .val (.int c18), .val (.int c19), .val (.int c20), .val (.int c21), .val (.int c22), .val (.int c23), .val (.int c24), .val (.ref s25), .unset, .unset, .unset, .unset, .unset, .unset, .unset] [(.int c14), (.int c11)])) _
        refine XS.iload X106.here hx rfl (hb hby at_302) rfl ?_
        show Steps p.tables e below (T106.setTop (mkF m 304 #[.val (.long p0), .second, .val (.long p1), .second, .val (.int p2), .val (.int p3), .val (.int p4), .val (.int p5), .val (.int c8), .val (.int c9), .val (.int c10), .val (.int c11), .val (.int c12), .val (.int c13), .val (.int c14), .val (.int c15), .val (.int c16), .val (.int c17), .val (.int c18), .val (.int c19), .val (.int c20), .val (.int c21), .val (.int c22), .val (.int c23), .val (.int c24), .val (.ref s25), .unset, .unset, .unset, .unset, .unset, .unset, .unset] [(.int c15), (.int c14), (.int c11)])) _
        refine st110 _ ?_
        show Steps p.tables e below (T110.setTop (mkF m 307 #[.val (.long p0), .second, .val (.long p1), .second, .val (.int p2), .val (.int p3), .val (.int p4), .val (.int p5), .val (.int c8), .val (.int c9), .val (.int c10), .val (.int c11), .val (.int c12), .val (.int c13), .val (.int c14), .val (.int c15), .val (.int c16), .val (.int c17), .val (.int c18), .val (.int c19), .val (.int c20), .val (.int c21), .val (.int c22), .val (.int c23), .val (.int c24), .val (.ref s25), .unset, .unset, .unset, .unset, .unset, .unset, .unset] [(.ref s26)])) _
        refine XS.astore X110.here hx rfl (hb hby at_307) rfl rfl (l' := #[.val (.long p0), .second, .val (.long p1), .second, .val (.int p2), .val (.int p3), .val (.int p4), .val (.int p5), .val (.int c8), .val (.int c9), .val (.int c10), .val (.int c11), .val (.int c12), .val (.int c13), .val (.int c14), .val (.int c15), .val (.int c16), .val (.int c17), .val (.int c18), .val (.int c19), .val (.int c20), .val (.int c21), .val (.int c22), .val (.int c23), .val (.int c24), .val (.ref s25), .val (.ref s26), .unset, .unset, .unset, .unset, .unset, .unset]) rfl ?_
        show Steps p.tables e below (T110.setTop (mkF m 309 #[.val (.long p0), .second, .val (.long p1), .second, .val (.int p2), .val (.int p3), .val (.int p4), .val (.int p5), .val (.int c8), .val (.int c9), .val (.int c10), .val (.int c11), .val (.int c12), .val (.int c13), .val (.int c14), .val (.int c15), .val (.int c16), .val (.int c17), .val (.int c18), .val (.int c19), .val (.int c20), .val (.int c21), .val (.int c22), .val (.int c23), .val (.int c24), .val (.ref s25), .val (.ref s26), .unset, .unset, .unset, .unset, .unset, .unset] [])) _
        refine XS.iload X110.here hx rfl (hb hby at_309) rfl ?_
        show Steps p.tables e below (T110.setTop (mkF m 311 #[.val (.long p0), .second, .val (.long p1), .second, .val (.int p2), .val (.int p3), .val (.int p4), .val (.int p5), .val (.int c8), .val (.int c9), .val (.int c10), .val (.int c11), .val (.int c12), .val (.int c13), .val (.int c14), .val (.int c15), .val (.int c16), .val (.int c17), .val (.int c18), .val (.int c19), .val (.int c20), .val (.int c21), .val (.int c22), .val (.int c23), .val (.int c24), .val (.ref s25), .val (.ref s26), .unset, .unset, .unset, .unset, .unset, .unset] [(.int c18)])) _
        refine XS.iload X110.here hx rfl (hb hby at_311) rfl ?_
        show Steps p.tables e below (T110.setTop (mkF m 313 #[.val (.long p0), .second, .val (.long p1), .second, .val (.int p2), .val (.int p3), .val (.int p4), .val (.int p5), .val (.int c8), .val (.int c9), .val (.int c10), .val (.int c11), .val (.int c12), .val (.int c13), .val (.int c14), .val (.int c15), .val (.int c16), .val (.int c17), .val (.int c18), .val (.int c19), .val (.int c20), .val (.int c21), .val (.int c22), .val (.int c23), .val (.int c24), .val (.ref s25), .val (.ref s26), .unset, .unset, .unset, .unset, .unset, .unset] [(.int c16), (.int c18)])) _
        refine XS.iload X110.here hx rfl (hb hby at_313) rfl ?_
        show Steps p.tables e below (T110.setTop (mkF m 315 #[.val (.long p0), .second, .val (.long p1), .second, .val (.int p2), .val (.int p3), .val (.int p4), .val (.int p5), .val (.int c8), .val (.int c9), .val (.int c10), .val (.int c11), .val (.int c12), .val (.int c13), .val (.int c14), .val (.int c15), .val (.int c16), .val (.int c17), .val (.int c18), .val (.int c19), .val (.int c20), .val (.int c21), .val (.int c22), .val (.int c23), .val (.int c24), .val (.ref s25), .val (.ref s26), .unset, .unset, .unset, .unset, .unset, .unset] [(.int c17), (.int c16), (.int c18)])) _
        refine st114 _ ?_
        show Steps p.tables e below (T114.setTop (mkF m 318 #[.val (.long p0), .second, .val (.long p1), .second, .val (.int p2), .val (.int p3), .val (.int p4), .val (.int p5), .val (.int c8), .val (.int c9), .val (.int c10), .val (.int c11), .val (.int c12), .val (.int c13), .val (.int c14), .val (.int c15), .val (.int c16), .val (.int c17), .val (.int c18), .val (.int c19), .val (.int c20), .val (.int c21), .val (.int c22), .val (.int c23), .val (.int c24), .val (.ref s25), .val (.ref s26), .unset, .unset, .unset, .unset, .unset, .unset] [(.ref s27)])) _
        refine XS.astore X114.here hx rfl (hb hby at_318) rfl rfl (l' := #[.val (.long p0), .second, .val (.long p1), .second, .val (.int p2), .val (.int p3), .val (.int p4), .val (.int p5), .val (.int c8), .val (.int c9), .val (.int c10), .val (.int c11), .val (.int c12), .val (.int c13), .val (.int c14), .val (.int c15), .val (.int c16), .val (.int c17), .val (.int c18), .val (.int c19), .val (.int c20), .val (.int c21), .val (.int c22), .val (.int c23), .val (.int c24), .val (.ref s25), .val (.ref s26), .val (.ref s27), .unset, .unset, .unset, .unset, .unset]) rfl ?_
        show Steps p.tables e below (T114.setTop (mkF m 320 #[.val (.long p0), .second, .val (.long p1), .second, .val (.int p2), .val (.int p3), .val (.int p4), .val (.int p5), .val (.int c8), .val (.int c9), .val (.int c10), .val (.int c11), .val (.int c12), .val (.int c13), .val (.int c14), .val (.int c15), .val (.int c16), .val (.int c17), .val (.int c18), .val (.int c19), .val (.int c20), .val (.int c21), .val (.int c22), .val (.int c23), .val (.int c24), .val (.ref s25), .val (.ref s26), .val (.ref s27), .unset, .unset, .unset, .unset, .unset] [])) _
        refine XS.iload X114.here hx rfl (hb hby at_320) rfl ?_
        show Steps p.tables e below (T114.setTop (mkF m 322 #[.val (.long p0), .second, .val (.long p1), .second, .val (.int p2), .val (.int p3), .val (.int p4), .val (.int p5), .val (.int c8), .val (.int c9), .val (.int c10), .val (.int c11), .val (.int c12), .val (.int c13), .val (.int c14), .val (.int c15), .val (.int c16), .val (.int c17), .val (.int c18), .val (.int c19), .val (.int c20), .val (.int c21), .val (.int c22), .val (.int c23), .val (.int c24), .val (.ref s25), .val (.ref s26), .val (.ref s27), .unset, .unset, .unset, .unset, .unset] [(.int c21)])) _
        refine XS.iload X114.here hx rfl (hb hby at_322) rfl ?_
        show Steps p.tables e below (T114.setTop (mkF m 324 #[.val (.long p0), .second, .val (.long p1), .second, .val (.int p2), .val (.int p3), .val (.int p4), .val (.int p5), .val (.int c8), .val (.int c9), .val (.int c10), .val (.int c11), .val (.int c12), .val (.int c13), .val (.int c14), .val (.int c15), .val (.int c16), .val (.int c17), .val (.int c18), .val (.int c19), .val (.int c20), .val (.int c21), .val (.int c22), .val (.int c23), .val (.int c24), .val (.ref s25), .val (.ref s26), .val (.ref s27), .unset, .unset, .unset, .unset, .unset] [(.int c19), (.int c21)])) _
        refine XS.iload X114.here hx rfl (hb hby at_324) rfl ?_
        show Steps p.tables e below (T114.setTop (mkF m 326 #[.val (.long p0), .second, .val (.long p1), .second, .val (.int p2), .val (.int p3), .val (.int p4), .val (.int p5), .val (.int c8), .val (.int c9), .val (.int c10), .val (.int c11), .val (.int c12), .val (.int c13), .val (.int c14), .val (.int c15), .val (.int c16), .val (.int c17), .val (.int c18), .val (.int c19), .val (.int c20), .val (.int c21), .val (.int c22), .val (.int c23), .val (.int c24), .val (.ref s25), .val (.ref s26), .val (.ref s27), .unset, .unset, .unset, .unset, .unset] [(.int c20), (.int c19), (.int c21)])) _
        refine st118 _ ?_
        show Steps p.tables e below (T118.setTop (mkF m 329 #[.val (.long p0), .second, .val (.long p1), .second, .val (.int p2), .val (.int p3), .val (.int p4), .val (.int p5), .val (.int c8), .val (.int c9), .val (.int c10), .val (.int c11), .val (.int c12), .val (.int c13), .val (.int c14), .val (.int c15), .val (.int c16), .val (.int c17), .val (.int c18), .val (.int c19), .val (.int c20), .val (.int c21), .val (.int c22), .val (.int c23), .val (.int c24), .val (.ref s25), .val (.ref s26), .val (.ref s27), .unset, .unset, .unset, .unset, .unset] [(.ref s28)])) _
        refine XS.astore X118.here hx rfl (hb hby at_329) rfl rfl (l' := #[.val (.long p0), .second, .val (.long p1), .second, .val (.int p2), .val (.int p3), .val (.int p4), .val (.int p5), .val (.int c8), .val (.int c9), .val (.int c10), .val (.int c11), .val (.int c12), .val (.int c13), .val (.int c14), .val (.int c15), .val (.int c16), .val (.int c17), .val (.int c18), .val (.int c19), .val (.int c20), .val (.int c21), .val (.int c22), .val (.int c23), .val (.int c24), .val (.ref s25), .val (.ref s26), .val (.ref s27), .val (.ref s28), .unset, .unset, .unset, .unset]) rfl ?_
        show Steps p.tables e below (T118.setTop (mkF m 331 #[.val (.long p0), .second, .val (.long p1), .second, .val (.int p2), .val (.int p3), .val (.int p4), .val (.int p5), .val (.int c8), .val (.int c9), .val (.int c10), .val (.int c11), .val (.int c12), .val (.int c13), .val (.int c14), .val (.int c15), .val (.int c16), .val (.int c17), .val (.int c18), .val (.int c19), .val (.int c20), .val (.int c21), .val (.int c22), .val (.int c23), .val (.int c24), .val (.ref s25), .val (.ref s26), .val (.ref s27), .val (.ref s28), .unset, .unset, .unset, .unset] [])) _
        refine st121 _ ?_
        show Steps p.tables e below (T121.setTop (mkF m 348 #[.val (.long p0), .second, .val (.long p1), .second, .val (.int p2), .val (.int p3), .val (.int p4), .val (.int p5), .val (.int c8), .val (.int c9), .val (.int c10), .val (.int c11), .val (.int c12), .val (.int c13), .val (.int c14), .val (.int c15), .val (.int c16), .val (.int c17), .val (.int c18), .val (.int c19), .val (.int c20), .val (.int c21), .val (.int c22), .val (.int c23), .val (.int c24), .val (.ref s25), .val (.ref s26), .val (.ref s27), .val (.ref s28), .unset, .unset, .unset, .unset] [(.ref b29)])) _
        refine XS.astore X121.here hx rfl (hb hby at_348) rfl rfl (l' := #[.val (.long p0), .second, .val (.long p1), .second, .val (.int p2), .val (.int p3), .val (.int p4), .val (.int p5), .val (.int c8), .val (.int c9), .val (.int c10), .val (.int c11), .val (.int c12), .val (.int c13), .val (.int c14), .val (.int c15), .val (.int c16), .val (.int c17), .val (.int c18), .val (.int c19), .val (.int c20), .val (.int c21), .val (.int c22), .val (.int c23), .val (.int c24), .val (.ref s25), .val (.ref s26), .val (.ref s27), .val (.ref s28), .val (.ref b29), .unset, .unset, .unset]) rfl ?_
        show Steps p.tables e below (T121.setTop (mkF m 350 #[.val (.long p0), .second, .val (.long p1), .second, .val (.int p2), .val (.int p3), .val (.int p4), .val (.int p5), .val (.int c8), .val (.int c9), .val (.int c10), .val (.int c11), .val (.int c12), .val (.int c13), .val (.int c14), .val (.int c15), .val (.int c16), .val (.int c17), .val (.int c18), .val (.int c19), .val (.int c20), .val (.int c21), .val (.int c22), .val (.int c23), .val (.int c24), .val (.ref s25), .val (.ref s26), .val (.ref s27), .val (.ref s28), .val (.ref b29), .unset, .unset, .unset] [])) _
        refine st130 _ ?_
        show Steps p.tables e below (T130.setTop (mkF m 367 #[.val (.long p0), .second, .val (.long p1), .second, .val (.int p2), .val (.int p3), .val (.int p4), .val (.int p5), .val (.int c8), .val (.int c9), .val (.int c10), .val (.int c11), .val (.int c12), .val (.int c13), .val (.int c14), .val (.int c15), .val (.int c16), .val (.int c17), .val (.int c18), .val (.int c19), .val (.int c20), .val (.int c21), .val (.int c22), .val (.int c23), .val (.int c24), .val (.ref s25), .val (.ref s26), .val (.ref s27), .val (.ref s28), .val (.ref b29), .unset, .unset, .unset] [(.ref b30)])) _
        refine XS.astore X130.here hx rfl (hb hby at_367) rfl rfl (l' := #[.val (.long p0), .second, .val (.long p1), .second, .val (.int p2), .val (.int p3), .val (.int p4), .val (.int p5), .val (.int c8), .val (.int c9), .val (.int c10), .val (.int c11), .val (.int c12), .val (.int c13), .val (.int c14), .val (.int c15), .val (.int c16), .val (.int c17), .val (.int c18), .val (.int c19), .val (.int c20), .val (.int c21), .val (.int c22), .val (.int c23), .val (.int c24), .val (.ref s25), .val (.ref s26), .val (.ref s27), .val (.ref s28), .val (.ref b29), .val (.ref b30), .unset, .unset]) rfl ?_
        show Steps p.tables e below (T130.setTop (mkF m 369 #[.val (.long p0), .second, .val (.long p1), .second, .val (.int p2), .val (.int p3), .val (.int p4), .val (.int p5), .val (.int c8), .val (.int c9), .val (.int c10), .val (.int c11), .val (.int c12), .val (.int c13), .val (.int c14), .val (.int c15), .val (.int c16), .val (.int c17), .val (.int c18), .val (.int c19), .val (.int c20), .val (.int c21), .val (.int c22), .val (.int c23), .val (.int c24), .val (.ref s25), .val (.ref s26), .val (.ref s27), .val (.ref s28), .val (.ref b29), .val (.ref b30), .unset, .unset] [])) _
        refine XS.iload X130.here hx rfl (hb hby at_369) rfl ?_
        show Steps p.tables e below (T130.setTop (mkF m 371 #[.val (.long p0), .second, .val (.long p1), .second, .val (.int p2), .val (.int p3), .val (.int p4), .val (.int p5), .val (.int c8), .val (.int c9), .val (.int c10), .val (.int c11), .val (.int c12), .val (.int c13), .val (.int c14), .val (.int c15), .val (.int c16), .val (.int c17), .val (.int c18), .val (.int c19), .val (.int c20), .val (.int c21), .val (.int c22), .val (.int c23), .val (.int c24), .val (.ref s25), .val (.ref s26), .val (.ref s27), .val (.ref s28), .val (.ref b29), .val (.ref b30), .unset, .unset] [(.int p5)])) _
        refine XS.bipush X130.here hx rfl (hb hby at_371) ?_
        show Steps p.tables e below (T130.setTop (mkF m 373 #[.val (.long p0), .second, .val (.long p1), .second, .val (.int p2), .val (.int p3), .val (.int p4), .val (.int p5), .val (.int c8), .val (.int c9), .val (.int c10), .val (.int c11), .val (.int c12), .val (.int c13), .val (.int c14), .val (.int c15), .val (.int c16), .val (.int c17), .val (.int c18), .val (.int c19), .val (.int c20), .val (.int c21), .val (.int c22), .val (.int c23), .val (.int c24), .val (.ref s25), .val (.ref s26), .val (.ref s27), .val (.ref s28), .val (.ref b29), .val (.ref b30), .unset, .unset] [(.int (7 : Int32)), (.int p5)])) _
        refine XS.iushr X130.here hx rfl (hb hby at_373) rfl ?_
        show Steps p.tables e below (T130.setTop (mkF m 374 #[.val (.long p0), .second, .val (.long p1), .second, .val (.int p2), .val (.int p3), .val (.int p4), .val (.int p5), .val (.int c8), .val (.int c9), .val (.int c10), .val (.int c11), .val (.int c12), .val (.int c13), .val (.int c14), .val (.int c15), .val (.int c16), .val (.int c17), .val (.int c18), .val (.int c19), .val (.int c20), .val (.int c21), .val (.int c22), .val (.int c23), .val (.int c24), .val (.ref s25), .val (.ref s26), .val (.ref s27), .val (.ref s28), .val (.ref b29), .val (.ref b30), .unset, .unset] [(.int ((p5.toUInt32 >>> ((7 : Int32) &&& 31).toUInt32).toInt32))])) _
        refine XS.iconst X130.here hx rfl (hb hby at_374) ?_
        show Steps p.tables e below (T130.setTop (mkF m 375 #[.val (.long p0), .second, .val (.long p1), .second, .val (.int p2), .val (.int p3), .val (.int p4), .val (.int p5), .val (.int c8), .val (.int c9), .val (.int c10), .val (.int c11), .val (.int c12), .val (.int c13), .val (.int c14), .val (.int c15), .val (.int c16), .val (.int c17), .val (.int c18), .val (.int c19), .val (.int c20), .val (.int c21), .val (.int c22), .val (.int c23), .val (.int c24), .val (.ref s25), .val (.ref s26), .val (.ref s27), .val (.ref s28), .val (.ref b29), .val (.ref b30), .unset, .unset] [(.int (3 : Int32)), (.int ((p5.toUInt32 >>> ((7 : Int32) &&& 31).toUInt32).toInt32))])) _
        refine XS.iand X130.here hx rfl (hb hby at_375) rfl ?_
        show Steps p.tables e below (T130.setTop (mkF m 376 #[.val (.long p0), .second, .val (.long p1), .second, .val (.int p2), .val (.int p3), .val (.int p4), .val (.int p5), .val (.int c8), .val (.int c9), .val (.int c10), .val (.int c11), .val (.int c12), .val (.int c13), .val (.int c14), .val (.int c15), .val (.int c16), .val (.int c17), .val (.int c18), .val (.int c19), .val (.int c20), .val (.int c21), .val (.int c22), .val (.int c23), .val (.int c24), .val (.ref s25), .val (.ref s26), .val (.ref s27), .val (.ref s28), .val (.ref b29), .val (.ref b30), .unset, .unset] [(.int (((p5.toUInt32 >>> ((7 : Int32) &&& 31).toUInt32).toInt32) &&& (3 : Int32)))])) _
        refine XS.istore X130.here hx rfl (hb hby at_376) rfl (l' := #[.val (.long p0), .second, .val (.long p1), .second, .val (.int p2), .val (.int p3), .val (.int p4), .val (.int p5), .val (.int c8), .val (.int c9), .val (.int c10), .val (.int c11), .val (.int c12), .val (.int c13), .val (.int c14), .val (.int c15), .val (.int c16), .val (.int c17), .val (.int c18), .val (.int c19), .val (.int c20), .val (.int c21), .val (.int c22), .val (.int c23), .val (.int c24), .val (.ref s25), .val (.ref s26), .val (.ref s27), .val (.ref s28), .val (.ref b29), .val (.ref b30), .val (.int (((p5.toUInt32 >>> ((7 : Int32) &&& 31).toUInt32).toInt32) &&& (3 : Int32))), .unset]) rfl ?_
        show Steps p.tables e below (T130.setTop (mkF m 378 #[.val (.long p0), .second, .val (.long p1), .second, .val (.int p2), .val (.int p3), .val (.int p4), .val (.int p5), .val (.int c8), .val (.int c9), .val (.int c10), .val (.int c11), .val (.int c12), .val (.int c13), .val (.int c14), .val (.int c15), .val (.int c16), .val (.int c17), .val (.int c18), .val (.int c19), .val (.int c20), .val (.int c21), .val (.int c22), .val (.int c23), .val (.int c24), .val (.ref s25), .val (.ref s26), .val (.ref s27), .val (.ref s28), .val (.ref b29), .val (.ref b30), .val (.int (((p5.toUInt32 >>> ((7 : Int32) &&& 31).toUInt32).toInt32) &&& (3 : Int32))), .unset] [])) _
        refine XS.iload X130.here hx rfl (hb hby at_378) rfl ?_
        show Steps p.tables e below (T130.setTop (mkF m 380 #[.val (.long p0), .second, .val (.long p1), .second, .val (.int p2), .val (.int p3), .val (.int p4), .val (.int p5), .val (.int c8), .val (.int c9), .val (.int c10), .val (.int c11), .val (.int c12), .val (.int c13), .val (.int c14), .val (.int c15), .val (.int c16), .val (.int c17), .val (.int c18), .val (.int c19), .val (.int c20), .val (.int c21), .val (.int c22), .val (.int c23), .val (.int c24), .val (.ref s25), .val (.ref s26), .val (.ref s27), .val (.ref s28), .val (.ref b29), .val (.ref b30), .val (.int (((p5.toUInt32 >>> ((7 : Int32) &&& 31).toUInt32).toInt32) &&& (3 : Int32))), .unset] [(.int (((p5.toUInt32 >>> ((7 : Int32) &&& 31).toUInt32).toInt32) &&& (3 : Int32)))])) _
        refine XS.iconst X130.here hx rfl (hb hby at_380) ?_
        show Steps p.tables e below (T130.setTop (mkF m 381 #[.val (.long p0), .second, .val (.long p1), .second, .val (.int p2), .val (.int p3), .val (.int p4), .val (.int p5), .val (.int c8), .val (.int c9), .val (.int c10), .val (.int c11), .val (.int c12), .val (.int c13), .val (.int c14), .val (.int c15), .val (.int c16), .val (.int c17), .val (.int c18), .val (.int c19), .val (.int c20), .val (.int c21), .val (.int c22), .val (.int c23), .val (.int c24), .val (.ref s25), .val (.ref s26), .val (.ref s27), .val (.ref s28), .val (.ref b29), .val (.ref b30), .val (.int (((p5.toUInt32 >>> ((7 : Int32) &&& 31).toUInt32).toInt32) &&& (3 : Int32))), .unset] [(.int (1 : Int32)), (.int (((p5.toUInt32 >>> ((7 : Int32) &&& 31).toUInt32).toInt32) &&& (3 : Int32)))])) _
        refine XS.icmpYes X130.here hx rfl (pc0 := 381) (pc' := 399) rfl (hb hby at_381) rfl (feq hm1).2 (by decide) (by decide) ?_
        show Steps p.tables e below (T130.setTop (mkF m 399 #[.val (.long p0), .second, .val (.long p1), .second, .val (.int p2), .val (.int p3), .val (.int p4), .val (.int p5), .val (.int c8), .val (.int c9), .val (.int c10), .val (.int c11), .val (.int c12), .val (.int c13), .val (.int c14), .val (.int c15), .val (.int c16), .val (.int c17), .val (.int c18), .val (.int c19), .val (.int c20), .val (.int c21), .val (.int c22), .val (.int c23), .val (.int c24), .val (.ref s25), .val (.ref s26), .val (.ref s27), .val (.ref s28), .val (.ref b29), .val (.ref b30), .val (.int (((p5.toUInt32 >>> ((7 : Int32) &&& 31).toUInt32).toInt32) &&& (3 : Int32))), .unset] [])) _
        refine XS.iload X130.here hx rfl (hb hby at_399) rfl ?_
        show Steps p.tables e below (T130.setTop (mkF m 401 #[.val (.long p0), .second, .val (.long p1), .second, .val (.int p2), .val (.int p3), .val (.int p4), .val (.int p5), .val (.int c8), .val (.int c9), .val (.int c10), .val (.int c11), .val (.int c12), .val (.int c13), .val (.int c14), .val (.int c15), .val (.int c16), .val (.int c17), .val (.int c18), .val (.int c19), .val (.int c20), .val (.int c21), .val (.int c22), .val (.int c23), .val (.int c24), .val (.ref s25), .val (.ref s26), .val (.ref s27), .val (.ref s28), .val (.ref b29), .val (.ref b30), .val (.int (((p5.toUInt32 >>> ((7 : Int32) &&& 31).toUInt32).toInt32) &&& (3 : Int32))), .unset] [(.int (((p5.toUInt32 >>> ((7 : Int32) &&& 31).toUInt32).toInt32) &&& (3 : Int32)))])) _
        refine XS.iconst X130.here hx rfl (hb hby at_401) ?_
        show Steps p.tables e below (T130.setTop (mkF m 402 #[.val (.long p0), .second, .val (.long p1), .second, .val (.int p2), .val (.int p3), .val (.int p4), .val (.int p5), .val (.int c8), .val (.int c9), .val (.int c10), .val (.int c11), .val (.int c12), .val (.int c13), .val (.int c14), .val (.int c15), .val (.int c16), .val (.int c17), .val (.int c18), .val (.int c19), .val (.int c20), .val (.int c21), .val (.int c22), .val (.int c23), .val (.int c24), .val (.ref s25), .val (.ref s26), .val (.ref s27), .val (.ref s28), .val (.ref b29), .val (.ref b30), .val (.int (((p5.toUInt32 >>> ((7 : Int32) &&& 31).toUInt32).toInt32) &&& (3 : Int32))), .unset] [(.int (2 : Int32)), (.int (((p5.toUInt32 >>> ((7 : Int32) &&& 31).toUInt32).toInt32) &&& (3 : Int32)))])) _
        refine XS.icmpNo X130.here hx rfl (hb hby at_402) rfl (teq hm2).2 ?_
        show Steps p.tables e below (T130.setTop (mkF m 405 #[.val (.long p0), .second, .val (.long p1), .second, .val (.int p2), .val (.int p3), .val (.int p4), .val (.int p5), .val (.int c8), .val (.int c9), .val (.int c10), .val (.int c11), .val (.int c12), .val (.int c13), .val (.int c14), .val (.int c15), .val (.int c16), .val (.int c17), .val (.int c18), .val (.int c19), .val (.int c20), .val (.int c21), .val (.int c22), .val (.int c23), .val (.int c24), .val (.ref s25), .val (.ref s26), .val (.ref s27), .val (.ref s28), .val (.ref b29), .val (.ref b30), .val (.int (((p5.toUInt32 >>> ((7 : Int32) &&& 31).toUInt32).toInt32) &&& (3 : Int32))), .unset] [])) _
        refine XS.aload X130.here hx rfl (hb hby at_405) rfl rfl ?_
        show Steps p.tables e below (T130.setTop (mkF m 407 #[.val (.long p0), .second, .val (.long p1), .second, .val (.int p2), .val (.int p3), .val (.int p4), .val (.int p5), .val (.int c8), .val (.int c9), .val (.int c10), .val (.int c11), .val (.int c12), .val (.int c13), .val (.int c14), .val (.int c15), .val (.int c16), .val (.int c17), .val (.int c18), .val (.int c19), .val (.int c20), .val (.int c21), .val (.int c22), .val (.int c23), .val (.int c24), .val (.ref s25), .val (.ref s26), .val (.ref s27), .val (.ref s28), .val (.ref b29), .val (.ref b30), .val (.int (((p5.toUInt32 >>> ((7 : Int32) &&& 31).toUInt32).toInt32) &&& (3 : Int32))), .unset] [(.ref b29)])) _
        refine XS.aload X130.here hx rfl (hb hby at_407) rfl rfl ?_
        show Steps p.tables e below (T130.setTop (mkF m 409 #[.val (.long p0), .second, .val (.long p1), .second, .val (.int p2), .val (.int p3), .val (.int p4), .val (.int p5), .val (.int c8), .val (.int c9), .val (.int c10), .val (.int c11), .val (.int c12), .val (.int c13), .val (.int c14), .val (.int c15), .val (.int c16), .val (.int c17), .val (.int c18), .val (.int c19), .val (.int c20), .val (.int c21), .val (.int c22), .val (.int c23), .val (.int c24), .val (.ref s25), .val (.ref s26), .val (.ref s27), .val (.ref s28), .val (.ref b29), .val (.ref b30), .val (.int (((p5.toUInt32 >>> ((7 : Int32) &&& 31).toUInt32).toInt32) &&& (3 : Int32))), .unset] [(.ref s25), (.ref b29)])) _
        refine st145.trans ?_
        show Steps p.tables e below (T145.setTop (mkF m 412 #[.val (.long p0), .second, .val (.long p1), .second, .val (.int p2), .val (.int p3), .val (.int p4), .val (.int p5), .val (.int c8), .val (.int c9), .val (.int c10), .val (.int c11), .val (.int c12), .val (.int c13), .val (.int c14), .val (.int c15), .val (.int c16), .val (.int c17), .val (.int c18), .val (.int c19), .val (.int c20), .val (.int c21), .val (.int c22), .val (.int c23), .val (.int c24), .val (.ref s25), .val (.ref s26), .val (.ref s27), .val (.ref s28), .val (.ref b29), .val (.ref b30), .val (.int (((p5.toUInt32 >>> ((7 : Int32) &&& 31).toUInt32).toInt32) &&& (3 : Int32))), .unset] [(.int (0 : Int32))])) _
        refine XS.ifNo X145.here hx rfl (hb hby at_412) rfl ((if0 _ _).trans (teq rfl).2) ?_
        show Steps p.tables e below (T145.setTop (mkF m 415 #[.val (.long p0), .second, .val (.long p1), .second, .val (.int p2), .val (.int p3), .val (.int p4), .val (.int p5), .val (.int c8), .val (.int c9), .val (.int c10), .val (.int c11), .val (.int c12), .val (.int c13), .val (.int c14), .val (.int c15), .val (.int c16), .val (.int c17), .val (.int c18), .val (.int c19), .val (.int c20), .val (.int c21), .val (.int c22), .val (.int c23), .val (.int c24), .val (.ref s25), .val (.ref s26), .val (.ref s27), .val (.ref s28), .val (.ref b29), .val (.ref b30), .val (.int (((p5.toUInt32 >>> ((7 : Int32) &&& 31).toUInt32).toInt32) &&& (3 : Int32))), .unset] [])) _
        refine XS.iconst X145.here hx rfl (hb hby at_415) ?_
        show Steps p.tables e below (T145.setTop (mkF m 416 #[.val (.long p0), .second, .val (.long p1), .second, .val (.int p2), .val (.int p3), .val (.int p4), .val (.int p5), .val (.int c8), .val (.int c9), .val (.int c10), .val (.int c11), .val (.int c12), .val (.int c13), .val (.int c14), .val (.int c15), .val (.int c16), .val (.int c17), .val (.int c18), .val (.int c19), .val (.int c20), .val (.int c21), .val (.int c22), .val (.int c23), .val (.int c24), .val (.ref s25), .val (.ref s26), .val (.ref s27), .val (.ref s28), .val (.ref b29), .val (.ref b30), .val (.int (((p5.toUInt32 >>> ((7 : Int32) &&& 31).toUInt32).toInt32) &&& (3 : Int32))), .unset] [(.int (1 : Int32))])) _
        refine XS.goto X145.here hx rfl (pc0 := 416) (pc' := 420) rfl (hb hby at_416) (by decide) (by decide) ?_
        show Steps p.tables e below (T145.setTop (mkF m 420 #[.val (.long p0), .second, .val (.long p1), .second, .val (.int p2), .val (.int p3), .val (.int p4), .val (.int p5), .val (.int c8), .val (.int c9), .val (.int c10), .val (.int c11), .val (.int c12), .val (.int c13), .val (.int c14), .val (.int c15), .val (.int c16), .val (.int c17), .val (.int c18), .val (.int c19), .val (.int c20), .val (.int c21), .val (.int c22), .val (.int c23), .val (.int c24), .val (.ref s25), .val (.ref s26), .val (.ref s27), .val (.ref s28), .val (.ref b29), .val (.ref b30), .val (.int (((p5.toUInt32 >>> ((7 : Int32) &&& 31).toUInt32).toInt32) &&& (3 : Int32))), .unset] [(.int (1 : Int32))])) _
        exact retN X145 hx (t := .boolean) hret0 (by simp) (hb hby at_420) hr
      · show Q0 n0 _ T145.heap _
        rw [eh145]
        exact ⟨rfl, N145⟩
    · skip
      by_cases hm3 : (((p5.toUInt32 >>> ((7 : Int32) &&& 31).toUInt32).toInt32) &&& (3 : Int32)) = (3 : Int32)
      · skip
        obtain ⟨cq146, kq146, q146a, q146b, q146c⟩ := isOf hZ e130 E29
        obtain ⟨v146, vmx146, ⟨T146, L146, k146, n146⟩, -, X146, ⟨Lc146, hQ146, l146, y146, z146⟩, st146⟩ := X130.virtualBack hx (y := (⟨"com/example/ample_search/amplesearch/analysis/Token", "equals", "(Ljava/lang/Object;)Z"⟩ : MethodName)) (z := (⟨"com/example/ample_search/amplesearch/analysis/Token", "equals", "(Ljava/lang/Object;)Z"⟩ : MethodName)) hown (mvT hZ (hw _ (List.mem_of_getElem? (i := 55) rfl))) (mvT hZ (hw _ (List.mem_of_getElem? (i := 56) rfl))) (notFace_of_selects (args := #[]) (mvT hZ (hw _ (List.mem_of_getElem? (i := 58) rfl)))) (mvT hZ (hw _ (List.mem_of_getElem? (i := 58) rfl))) (mvT hZ (hw _ (List.mem_of_getElem? (i := 57) rfl))) (by decide) (backOf (W := 0) (rm10 l Z a0 hw [] b29 b29 s25 s26 s25 s26 (own_mkS c10 c12 c13) (own_mkS c11 c14 c15) (own_mkS c10 c12 c13) (own_mkS c11 c14 c15) p2 p3 p4 p2 p3 p4 G1 h130 n0 Z137 F29' F29' f140 f141 f140 f141 O2 P5 f139) hZ (hw _ (List.mem_of_getElem? (i := 59) rfl)) (hw _ (List.mem_of_getElem? (i := 37) rfl)) (by decide) (by decide)) q146a q146c (g := (mkF m 431 #[.val (.long p0), .second, .val (.long p1), .second, .val (.int p2), .val (.int p3), .val (.int p4), .val (.int p5), .val (.int c8), .val (.int c9), .val (.int c10), .val (.int c11), .val (.int c12), .val (.int c13), .val (.int c14), .val (.int c15), .val (.int c16), .val (.int c17), .val (.int c18), .val (.int c19), .val (.int c20), .val (.int c21), .val (.int c22), .val (.int c23), .val (.int c24), .val (.ref s25), .val (.ref s26), .val (.ref s27), .val (.ref s28), .val (.ref b29), .val (.ref b30), .val (.int (((p5.toUInt32 >>> ((7 : Int32) &&& 31).toUInt32).toInt32) &&& (3 : Int32))), .unset] [(.ref b29), (.ref b29)])) rfl (by rw [hml]; rfl) (Steps.refl _) (argsL := [(.ref b29)]) (rest := []) (lenOf own_pd1 rfl) rfl (by show 2 * 0 + _ ≤ _; exact Nat.le_of_eq rfl) (hb hby at_431) (fun _ _ => ⟨rfl, e130, (by decide : 14 + 0 ≤ _), (by decide : 42 + 0 ≤ _)⟩)
        dsimp only [Pt.U, Pt.locs, Pt.cells, Pt.slots] at X146 l146 y146 z146 st146 hQ146
        subst l146 y146 z146
        obtain ⟨z146, rfl, hz146, Nq146, eh146⟩ := hQ146
        have N146 := Fr.app N130 Nq146
        obtain rfl : z146 = 1 := by
          rcases hz146 with ⟨q, -⟩ | ⟨-, q⟩
          · exact q
          · exact absurd ⟨rfl, rfl, rfl, rfl, rfl⟩ q
        obtain ⟨fs, hr, hrun, hended, hW, hsame⟩ := X146.leave (v := some (.int (1 : Int32))) (fun h => by rw [hret0] at h; cases h)
        refine ⟨_, _, pre0 _ ?_, hrun, hended, _, _, rfl, ?_, ⟨_, rfl⟩, hW, hsame.mono (by decide) (by decide)⟩
        · show Steps p.tables e below (s₁.setTop (mkF m 0 #[.val (.long p0), .second, .val (.long p1), .second, .val (.int p2), .val (.int p3), .val (.int p4), .val (.int p5), .unset, .unset, .unset, .unset, .unset, .unset, .unset, .unset, .unset, .unset, .unset, .unset, .unset, .unset, .unset, .unset, .unset, .unset, .unset, .unset, .unset, .unset, .unset, .unset, .unset] [])) _
          refine st89 _ ?_
          show Steps p.tables e below (s₁.setTop (mkF m 12 #[.val (.long p0), .second, .val (.long p1), .second, .val (.int p2), .val (.int p3), .val (.int p4), .val (.int p5), .unset, .unset, .unset, .unset, .unset, .unset, .unset, .unset, .unset, .unset, .unset, .unset, .unset, .unset, .unset, .unset, .unset, .unset, .unset, .unset, .unset, .unset, .unset, .unset, .unset] [(.int c8)])) _
          refine XS.istore X0.here hx rfl (hb hby at_12) rfl (l' := #[.val (.long p0), .second, .val (.long p1), .second, .val (.int p2), .val (.int p3), .val (.int p4), .val (.int p5), .val (.int c8), .unset, .unset, .unset, .unset, .unset, .unset, .unset, .unset, .unset, .unset, .unset, .unset, .unset, .unset, .unset, .unset, .unset, .unset, .unset, .unset, .unset, .unset, .unset, .unset]) rfl ?_
          show Steps p.tables e below (s₁.setTop (mkF m 14 #[.val (.long p0), .second, .val (.long p1), .second, .val (.int p2), .val (.int p3), .val (.int p4), .val (.int p5), .val (.int c8), .unset, .unset, .unset, .unset, .unset, .unset, .unset, .unset, .unset, .unset, .unset, .unset, .unset, .unset, .unset, .unset, .unset, .unset, .unset, .unset, .unset, .unset, .unset, .unset] [])) _
          refine st90 _ ?_
          show Steps p.tables e below (s₁.setTop (mkF m 27 #[.val (.long p0), .second, .val (.long p1), .second, .val (.int p2), .val (.int p3), .val (.int p4), .val (.int p5), .val (.int c8), .unset, .unset, .unset, .unset, .unset, .unset, .unset, .unset, .unset, .unset, .unset, .unset, .unset, .unset, .unset, .unset, .unset, .unset, .unset, .unset, .unset, .unset, .unset, .unset] [(.int c9)])) _
          refine XS.istore X0.here hx rfl (hb hby at_27) rfl (l' := #[.val (.long p0), .second, .val (.long p1), .second, .val (.int p2), .val (.int p3), .val (.int p4), .val (.int p5), .val (.int c8), .val (.int c9), .unset, .unset, .unset, .unset, .unset, .unset, .unset, .unset, .unset, .unset, .unset, .unset, .unset, .unset, .unset, .unset, .unset, .unset, .unset, .unset, .unset, .unset, .unset]) rfl ?_
          show Steps p.tables e below (s₁.setTop (mkF m 29 #[.val (.long p0), .second, .val (.long p1), .second, .val (.int p2), .val (.int p3), .val (.int p4), .val (.int p5), .val (.int c8), .val (.int c9), .unset, .unset, .unset, .unset, .unset, .unset, .unset, .unset, .unset, .unset, .unset, .unset, .unset, .unset, .unset, .unset, .unset, .unset, .unset, .unset, .unset, .unset, .unset] [])) _
          refine st91 _ ?_
          show Steps p.tables e below (s₁.setTop (mkF m 37 #[.val (.long p0), .second, .val (.long p1), .second, .val (.int p2), .val (.int p3), .val (.int p4), .val (.int p5), .val (.int c8), .val (.int c9), .unset, .unset, .unset, .unset, .unset, .unset, .unset, .unset, .unset, .unset, .unset, .unset, .unset, .unset, .unset, .unset, .unset, .unset, .unset, .unset, .unset, .unset, .unset] [(.int c10)])) _
          refine XS.istore X0.here hx rfl (hb hby at_37) rfl (l' := #[.val (.long p0), .second, .val (.long p1), .second, .val (.int p2), .val (.int p3), .val (.int p4), .val (.int p5), .val (.int c8), .val (.int c9), .val (.int c10), .unset, .unset, .unset, .unset, .unset, .unset, .unset, .unset, .unset, .unset, .unset, .unset, .unset, .unset, .unset, .unset, .unset, .unset, .unset, .unset, .unset, .unset]) rfl ?_
          show Steps p.tables e below (s₁.setTop (mkF m 39 #[.val (.long p0), .second, .val (.long p1), .second, .val (.int p2), .val (.int p3), .val (.int p4), .val (.int p5), .val (.int c8), .val (.int c9), .val (.int c10), .unset, .unset, .unset, .unset, .unset, .unset, .unset, .unset, .unset, .unset, .unset, .unset, .unset, .unset, .unset, .unset, .unset, .unset, .unset, .unset, .unset, .unset] [])) _
          refine st92 _ ?_
          show Steps p.tables e below (s₁.setTop (mkF m 47 #[.val (.long p0), .second, .val (.long p1), .second, .val (.int p2), .val (.int p3), .val (.int p4), .val (.int p5), .val (.int c8), .val (.int c9), .val (.int c10), .unset, .unset, .unset, .unset, .unset, .unset, .unset, .unset, .unset, .unset, .unset, .unset, .unset, .unset, .unset, .unset, .unset, .unset, .unset, .unset, .unset, .unset] [(.int c11)])) _
          refine XS.istore X0.here hx rfl (hb hby at_47) rfl (l' := #[.val (.long p0), .second, .val (.long p1), .second, .val (.int p2), .val (.int p3), .val (.int p4), .val (.int p5), .val (.int c8), .val (.int c9), .val (.int c10), .val (.int c11), .unset, .unset, .unset, .unset, .unset, .unset, .unset, .unset, .unset, .unset, .unset, .unset, .unset, .unset, .unset, .unset, .unset, .unset, .unset, .unset, .unset]) rfl ?_
          show Steps p.tables e below (s₁.setTop (mkF m 49 #[.val (.long p0), .second, .val (.long p1), .second, .val (.int p2), .val (.int p3), .val (.int p4), .val (.int p5), .val (.int c8), .val (.int c9), .val (.int c10), .val (.int c11), .unset, .unset, .unset, .unset, .unset, .unset, .unset, .unset, .unset, .unset, .unset, .unset, .unset, .unset, .unset, .unset, .unset, .unset, .unset, .unset, .unset] [])) _
          refine st93 _ ?_
          show Steps p.tables e below (s₁.setTop (mkF m 56 #[.val (.long p0), .second, .val (.long p1), .second, .val (.int p2), .val (.int p3), .val (.int p4), .val (.int p5), .val (.int c8), .val (.int c9), .val (.int c10), .val (.int c11), .unset, .unset, .unset, .unset, .unset, .unset, .unset, .unset, .unset, .unset, .unset, .unset, .unset, .unset, .unset, .unset, .unset, .unset, .unset, .unset, .unset] [(.int c12)])) _
          refine XS.istore X0.here hx rfl (hb hby at_56) rfl (l' := #[.val (.long p0), .second, .val (.long p1), .second, .val (.int p2), .val (.int p3), .val (.int p4), .val (.int p5), .val (.int c8), .val (.int c9), .val (.int c10), .val (.int c11), .val (.int c12), .unset, .unset, .unset, .unset, .unset, .unset, .unset, .unset, .unset, .unset, .unset, .unset, .unset, .unset, .unset, .unset, .unset, .unset, .unset, .unset]) rfl ?_
          show Steps p.tables e below (s₁.setTop (mkF m 58 #[.val (.long p0), .second, .val (.long p1), .second, .val (.int p2), .val (.int p3), .val (.int p4), .val (.int p5), .val (.int c8), .val (.int c9), .val (.int c10), .val (.int c11), .val (.int c12), .unset, .unset, .unset, .unset, .unset, .unset, .unset, .unset, .unset, .unset, .unset, .unset, .unset, .unset, .unset, .unset, .unset, .unset, .unset, .unset] [])) _
          refine st94 _ ?_
          show Steps p.tables e below (s₁.setTop (mkF m 68 #[.val (.long p0), .second, .val (.long p1), .second, .val (.int p2), .val (.int p3), .val (.int p4), .val (.int p5), .val (.int c8), .val (.int c9), .val (.int c10), .val (.int c11), .val (.int c12), .unset, .unset, .unset, .unset, .unset, .unset, .unset, .unset, .unset, .unset, .unset, .unset, .unset, .unset, .unset, .unset, .unset, .unset, .unset, .unset] [(.int c13)])) _
          refine XS.istore X0.here hx rfl (hb hby at_68) rfl (l' := #[.val (.long p0), .second, .val (.long p1), .second, .val (.int p2), .val (.int p3), .val (.int p4), .val (.int p5), .val (.int c8), .val (.int c9), .val (.int c10), .val (.int c11), .val (.int c12), .val (.int c13), .unset, .unset, .unset, .unset, .unset, .unset, .unset, .unset, .unset, .unset, .unset, .unset, .unset, .unset, .unset, .unset, .unset, .unset, .unset]) rfl ?_
          show Steps p.tables e below (s₁.setTop (mkF m 70 #[.val (.long p0), .second, .val (.long p1), .second, .val (.int p2), .val (.int p3), .val (.int p4), .val (.int p5), .val (.int c8), .val (.int c9), .val (.int c10), .val (.int c11), .val (.int c12), .val (.int c13), .unset, .unset, .unset, .unset, .unset, .unset, .unset, .unset, .unset, .unset, .unset, .unset, .unset, .unset, .unset, .unset, .unset, .unset, .unset] [])) _
          refine st95 _ ?_
          show Steps p.tables e below (s₁.setTop (mkF m 80 #[.val (.long p0), .second, .val (.long p1), .second, .val (.int p2), .val (.int p3), .val (.int p4), .val (.int p5), .val (.int c8), .val (.int c9), .val (.int c10), .val (.int c11), .val (.int c12), .val (.int c13), .unset, .unset, .unset, .unset, .unset, .unset, .unset, .unset, .unset, .unset, .unset, .unset, .unset, .unset, .unset, .unset, .unset, .unset, .unset] [(.int c14)])) _
          refine XS.istore X0.here hx rfl (hb hby at_80) rfl (l' := #[.val (.long p0), .second, .val (.long p1), .second, .val (.int p2), .val (.int p3), .val (.int p4), .val (.int p5), .val (.int c8), .val (.int c9), .val (.int c10), .val (.int c11), .val (.int c12), .val (.int c13), .val (.int c14), .unset, .unset, .unset, .unset, .unset, .unset, .unset, .unset, .unset, .unset, .unset, .unset, .unset, .unset, .unset, .unset, .unset, .unset]) rfl ?_
          show Steps p.tables e below (s₁.setTop (mkF m 82 #[.val (.long p0), .second, .val (.long p1), .second, .val (.int p2), .val (.int p3), .val (.int p4), .val (.int p5), .val (.int c8), .val (.int c9), .val (.int c10), .val (.int c11), .val (.int c12), .val (.int c13), .val (.int c14), .unset, .unset, .unset, .unset, .unset, .unset, .unset, .unset, .unset, .unset, .unset, .unset, .unset, .unset, .unset, .unset, .unset, .unset] [])) _
          refine st96 _ ?_
          show Steps p.tables e below (s₁.setTop (mkF m 92 #[.val (.long p0), .second, .val (.long p1), .second, .val (.int p2), .val (.int p3), .val (.int p4), .val (.int p5), .val (.int c8), .val (.int c9), .val (.int c10), .val (.int c11), .val (.int c12), .val (.int c13), .val (.int c14), .unset, .unset, .unset, .unset, .unset, .unset, .unset, .unset, .unset, .unset, .unset, .unset, .unset, .unset, .unset, .unset, .unset, .unset] [(.int c15)])) _
          refine XS.istore X0.here hx rfl (hb hby at_92) rfl (l' := #[.val (.long p0), .second, .val (.long p1), .second, .val (.int p2), .val (.int p3), .val (.int p4), .val (.int p5), .val (.int c8), .val (.int c9), .val (.int c10), .val (.int c11), .val (.int c12), .val (.int c13), .val (.int c14), .val (.int c15), .unset, .unset, .unset, .unset, .unset, .unset, .unset, .unset, .unset, .unset, .unset, .unset, .unset, .unset, .unset, .unset, .unset]) rfl ?_
          show Steps p.tables e below (s₁.setTop (mkF m 94 #[.val (.long p0), .second, .val (.long p1), .second, .val (.int p2), .val (.int p3), .val (.int p4), .val (.int p5), .val (.int c8), .val (.int c9), .val (.int c10), .val (.int c11), .val (.int c12), .val (.int c13), .val (.int c14), .val (.int c15), .unset, .unset, .unset, .unset, .unset, .unset, .unset, .unset, .unset, .unset, .unset, .unset, .unset, .unset, .unset, .unset, .unset] [])) _
          refine st97 _ ?_
          show Steps p.tables e below (s₁.setTop (mkF m 111 #[.val (.long p0), .second, .val (.long p1), .second, .val (.int p2), .val (.int p3), .val (.int p4), .val (.int p5), .val (.int c8), .val (.int c9), .val (.int c10), .val (.int c11), .val (.int c12), .val (.int c13), .val (.int c14), .val (.int c15), .unset, .unset, .unset, .unset, .unset, .unset, .unset, .unset, .unset, .unset, .unset, .unset, .unset, .unset, .unset, .unset, .unset] [(.int c16)])) _
          refine XS.istore X0.here hx rfl (hb hby at_111) rfl (l' := #[.val (.long p0), .second, .val (.long p1), .second, .val (.int p2), .val (.int p3), .val (.int p4), .val (.int p5), .val (.int c8), .val (.int c9), .val (.int c10), .val (.int c11), .val (.int c12), .val (.int c13), .val (.int c14), .val (.int c15), .val (.int c16), .unset, .unset, .unset, .unset, .unset, .unset, .unset, .unset, .unset, .unset, .unset, .unset, .unset, .unset, .unset, .unset]) rfl ?_
          show Steps p.tables e below (s₁.setTop (mkF m 113 #[.val (.long p0), .second, .val (.long p1), .second, .val (.int p2), .val (.int p3), .val (.int p4), .val (.int p5), .val (.int c8), .val (.int c9), .val (.int c10), .val (.int c11), .val (.int c12), .val (.int c13), .val (.int c14), .val (.int c15), .val (.int c16), .unset, .unset, .unset, .unset, .unset, .unset, .unset, .unset, .unset, .unset, .unset, .unset, .unset, .unset, .unset, .unset] [])) _
          refine st98 _ ?_
          show Steps p.tables e below (s₁.setTop (mkF m 133 #[.val (.long p0), .second, .val (.long p1), .second, .val (.int p2), .val (.int p3), .val (.int p4), .val (.int p5), .val (.int c8), .val (.int c9), .val (.int c10), .val (.int c11), .val (.int c12), .val (.int c13), .val (.int c14), .val (.int c15), .val (.int c16), .unset, .unset, .unset, .unset, .unset, .unset, .unset, .unset, .unset, .unset, .unset, .unset, .unset, .unset, .unset, .unset] [(.int c17)])) _
          refine XS.istore X0.here hx rfl (hb hby at_133) rfl (l' := #[.val (.long p0), .second, .val (.long p1), .second, .val (.int p2), .val (.int p3), .val (.int p4), .val (.int p5), .val (.int c8), .val (.int c9), .val (.int c10), .val (.int c11), .val (.int c12), .val (.int c13), .val (.int c14), .val (.int c15), .val (.int c16), .val (.int c17), .unset, .unset, .unset, .unset, .unset, .unset, .unset, .unset, .unset, .unset, .unset, .unset, .unset, .unset, .unset]) rfl ?_
          show Steps p.tables e below (s₁.setTop (mkF m 135 #[.val (.long p0), .second, .val (.long p1), .second, .val (.int p2), .val (.int p3), .val (.int p4), .val (.int p5), .val (.int c8), .val (.int c9), .val (.int c10), .val (.int c11), .val (.int c12), .val (.int c13), .val (.int c14), .val (.int c15), .val (.int c16), .val (.int c17), .unset, .unset, .unset, .unset, .unset, .unset, .unset, .unset, .unset, .unset, .unset, .unset, .unset, .unset, .unset] [])) _
          refine st99 _ ?_
          show Steps p.tables e below (s₁.setTop (mkF m 154 #[.val (.long p0), .second, .val (.long p1), .second, .val (.int p2), .val (.int p3), .val (.int p4), .val (.int p5), .val (.int c8), .val (.int c9), .val (.int c10), .val (.int c11), .val (.int c12), .val (.int c13), .val (.int c14), .val (.int c15), .val (.int c16), .val (.int c17), .unset, .unset, .unset, .unset, .unset, .unset, .unset, .unset, .unset, .unset, .unset, .unset, .unset, .unset, .unset] [(.int c18)])) _
          refine XS.istore X0.here hx rfl (hb hby at_154) rfl (l' := #[.val (.long p0), .second, .val (.long p1), .second, .val (.int p2), .val (.int p3), .val (.int p4), .val (.int p5), .val (.int c8), .val (.int c9), .val (.int c10), .val (.int c11), .val (.int c12), .val (.int c13), .val (.int c14), .val (.int c15), .val (.int c16), .val (.int c17), .val (.int c18), .unset, .unset, .unset, .unset, .unset, .unset, .unset, .unset, .unset, .unset, .unset, .unset, .unset, .unset]) rfl ?_
          show Steps p.tables e below (s₁.setTop (mkF m 156 #[.val (.long p0), .second, .val (.long p1), .second, .val (.int p2), .val (.int p3), .val (.int p4), .val (.int p5), .val (.int c8), .val (.int c9), .val (.int c10), .val (.int c11), .val (.int c12), .val (.int c13), .val (.int c14), .val (.int c15), .val (.int c16), .val (.int c17), .val (.int c18), .unset, .unset, .unset, .unset, .unset, .unset, .unset, .unset, .unset, .unset, .unset, .unset, .unset, .unset] [])) _
          refine st100 _ ?_
          show Steps p.tables e below (s₁.setTop (mkF m 176 #[.val (.long p0), .second, .val (.long p1), .second, .val (.int p2), .val (.int p3), .val (.int p4), .val (.int p5), .val (.int c8), .val (.int c9), .val (.int c10), .val (.int c11), .val (.int c12), .val (.int c13), .val (.int c14), .val (.int c15), .val (.int c16), .val (.int c17), .val (.int c18), .unset, .unset, .unset, .unset, .unset, .unset, .unset, .unset, .unset, .unset, .unset, .unset, .unset, .unset] [(.int c19)])) _
          refine XS.istore X0.here hx rfl (hb hby at_176) rfl (l' := #[.val (.long p0), .second, .val (.long p1), .second, .val (.int p2), .val (.int p3), .val (.int p4), .val (.int p5), .val (.int c8), .val (.int c9), .val (.int c10), .val (.int c11), .val (.int c12), .val (.int c13), .val (.int c14), .val (.int c15), .val (.int c16), .val (.int c17), .val (.int c18), .val (.int c19), .unset, .unset, .unset, .unset, .unset, .unset, .unset, .unset, .unset, .unset, .unset, .unset, .unset]) rfl ?_
          show Steps p.tables e below (s₁.setTop (mkF m 178 #[.val (.long p0), .second, .val (.long p1), .second, .val (.int p2), .val (.int p3), .val (.int p4), .val (.int p5), .val (.int c8), .val (.int c9), .val (.int c10), .val (.int c11), .val (.int c12), .val (.int c13), .val (.int c14), .val (.int c15), .val (.int c16), .val (.int c17), .val (.int c18), .val (.int c19), .unset, .unset, .unset, .unset, .unset, .unset, .unset, .unset, .unset, .unset, .unset, .unset, .unset] [])) _
          refine st101 _ ?_
          show Steps p.tables e below (s₁.setTop (mkF m 198 #[.val (.long p0), .second, .val (.long p1), .second, .val (.int p2), .val (.int p3), .val (.int p4), .val (.int p5), .val (.int c8), .val (.int c9), .val (.int c10), .val (.int c11), .val (.int c12), .val (.int c13), .val (.int c14), .val (.int c15), .val (.int c16), .val (.int c17), .val (.int c18), .val (.int c19), .unset, .unset, .unset, .unset, .unset, .unset, .unset, .unset, .unset, .unset, .unset, .unset, .unset] [(.int c20)])) _
          refine XS.istore X0.here hx rfl (hb hby at_198) rfl (l' := #[.val (.long p0), .second, .val (.long p1), .second, .val (.int p2), .val (.int p3), .val (.int p4), .val (.int p5), .val (.int c8), .val (.int c9), .val (.int c10), .val (.int c11), .val (.int c12), .val (.int c13), .val (.int c14), .val (.int c15), .val (.int c16), .val (.int c17), .val (.int c18), .val (.int c19), .val (.int c20), .unset, .unset, .unset, .unset, .unset, .unset, .unset, .unset, .unset, .unset, .unset, .unset]) rfl ?_
          show Steps p.tables e below (s₁.setTop (mkF m 200 #[.val (.long p0), .second, .val (.long p1), .second, .val (.int p2), .val (.int p3), .val (.int p4), .val (.int p5), .val (.int c8), .val (.int c9), .val (.int c10), .val (.int c11), .val (.int c12), .val (.int c13), .val (.int c14), .val (.int c15), .val (.int c16), .val (.int c17), .val (.int c18), .val (.int c19), .val (.int c20), .unset, .unset, .unset, .unset, .unset, .unset, .unset, .unset, .unset, .unset, .unset, .unset] [])) _
          refine st102 _ ?_
          show Steps p.tables e below (s₁.setTop (mkF m 219 #[.val (.long p0), .second, .val (.long p1), .second, .val (.int p2), .val (.int p3), .val (.int p4), .val (.int p5), .val (.int c8), .val (.int c9), .val (.int c10), .val (.int c11), .val (.int c12), .val (.int c13), .val (.int c14), .val (.int c15), .val (.int c16), .val (.int c17), .val (.int c18), .val (.int c19), .val (.int c20), .unset, .unset, .unset, .unset, .unset, .unset, .unset, .unset, .unset, .unset, .unset, .unset] [(.int c21)])) _
          refine XS.istore X0.here hx rfl (hb hby at_219) rfl (l' := #[.val (.long p0), .second, .val (.long p1), .second, .val (.int p2), .val (.int p3), .val (.int p4), .val (.int p5), .val (.int c8), .val (.int c9), .val (.int c10), .val (.int c11), .val (.int c12), .val (.int c13), .val (.int c14), .val (.int c15), .val (.int c16), .val (.int c17), .val (.int c18), .val (.int c19), .val (.int c20), .val (.int c21), .unset, .unset, .unset, .unset, .unset, .unset, .unset, .unset, .unset, .unset, .unset]) rfl ?_
          show Steps p.tables e below (s₁.setTop (mkF m 221 #[.val (.long p0), .second, .val (.long p1), .second, .val (.int p2), .val (.int p3), .val (.int p4), .val (.int p5), .val (.int c8), .val (.int c9), .val (.int c10), .val (.int c11), .val (.int c12), .val (.int c13), .val (.int c14), .val (.int c15), .val (.int c16), .val (.int c17), .val (.int c18), .val (.int c19), .val (.int c20), .val (.int c21), .unset, .unset, .unset, .unset, .unset, .unset, .unset, .unset, .unset, .unset, .unset] [])) _
          refine st103 _ ?_
          show Steps p.tables e below (s₁.setTop (mkF m 239 #[.val (.long p0), .second, .val (.long p1), .second, .val (.int p2), .val (.int p3), .val (.int p4), .val (.int p5), .val (.int c8), .val (.int c9), .val (.int c10), .val (.int c11), .val (.int c12), .val (.int c13), .val (.int c14), .val (.int c15), .val (.int c16), .val (.int c17), .val (.int c18), .val (.int c19), .val (.int c20), .val (.int c21), .unset, .unset, .unset, .unset, .unset, .unset, .unset, .unset, .unset, .unset, .unset] [(.int c22)])) _
          refine XS.istore X0.here hx rfl (hb hby at_239) rfl (l' := #[.val (.long p0), .second, .val (.long p1), .second, .val (.int p2), .val (.int p3), .val (.int p4), .val (.int p5), .val (.int c8), .val (.int c9), .val (.int c10), .val (.int c11), .val (.int c12), .val (.int c13), .val (.int c14), .val (.int c15), .val (.int c16), .val (.int c17), .val (.int c18), .val (.int c19), .val (.int c20), .val (.int c21), .val (.int c22), .unset, .unset, .unset, .unset, .unset, .unset, .unset, .unset, .unset, .unset]) rfl ?_
          show Steps p.tables e below (s₁.setTop (mkF m 241 #[.val (.long p0), .second, .val (.long p1), .second, .val (.int p2), .val (.int p3), .val (.int p4), .val (.int p5), .val (.int c8), .val (.int c9), .val (.int c10), .val (.int c11), .val (.int c12), .val (.int c13), .val (.int c14), .val (.int c15), .val (.int c16), .val (.int c17), .val (.int c18), .val (.int c19), .val (.int c20), .val (.int c21), .val (.int c22), .unset, .unset, .unset, .unset, .unset, .unset, .unset, .unset, .unset, .unset] [])) _
          refine st104 _ ?_
          show Steps p.tables e below (s₁.setTop (mkF m 262 #[.val (.long p0), .second, .val (.long p1), .second, .val (.int p2), .val (.int p3), .val (.int p4), .val (.int p5), .val (.int c8), .val (.int c9), .val (.int c10), .val (.int c11), .val (.int c12), .val (.int c13), .val (.int c14), .val (.int c15), .val (.int c16), .val (.int c17), .val (.int c18), .val (.int c19), .val (.int c20), .val (.int c21), .val (.int c22), .unset, .unset, .unset, .unset, .unset, .unset, .unset, .unset, .unset, .unset] [(.int c23)])) _
          refine XS.istore X0.here hx rfl (hb hby at_262) rfl (l' := #[.val (.long p0), .second, .val (.long p1), .second, .val (.int p2), .val (.int p3), .val (.int p4), .val (.int p5), .val (.int c8), .val (.int c9), .val (.int c10), .val (.int c11), .val (.int c12), .val (.int c13), .val (.int c14), .val (.int c15), .val (.int c16), .val (.int c17), .val (.int c18), .val (.int c19), .val (.int c20), .val (.int c21), .val (.int c22), .val (.int c23), .unset, .unset, .unset, .unset, .unset, .unset, .unset, .unset, .unset]) rfl ?_
          show Steps p.tables e below (s₁.setTop (mkF m 264 #[.val (.long p0), .second, .val (.long p1), .second, .val (.int p2), .val (.int p3), .val (.int p4), .val (.int p5), .val (.int c8), .val (.int c9), .val (.int c10), .val (.int c11), .val (.int c12), .val (.int c13), .val (.int c14), .val (.int c15), .val (.int c16), .val (.int c17), .val (.int c18), .val (.int c19), .val (.int c20), .val (.int c21), .val (.int c22), .val (.int c23), .unset, .unset, .unset, .unset, .unset, .unset, .unset, .unset, .unset] [])) _
          refine st105 _ ?_
          show Steps p.tables e below (s₁.setTop (mkF m 285 #[.val (.long p0), .second, .val (.long p1), .second, .val (.int p2), .val (.int p3), .val (.int p4), .val (.int p5), .val (.int c8), .val (.int c9), .val (.int c10), .val (.int c11), .val (.int c12), .val (.int c13), .val (.int c14), .val (.int c15), .val (.int c16), .val (.int c17), .val (.int c18), .val (.int c19), .val (.int c20), .val (.int c21), .val (.int c22), .val (.int c23), .unset, .unset, .unset, .unset, .unset, .unset, .unset, .unset, .unset] [(.int c24)])) _
          refine XS.istore X0.here hx rfl (hb hby at_285) rfl (l' := #[.val (.long p0), .second, .val (.long p1), .second, .val (.int p2), .val (.int p3), .val (.int p4), .val (.int p5), .val (.int c8), .val (.int c9), .val (.int c10), .val (.int c11), .val (.int c12), .val (.int c13), .val (.int c14), .val (.int c15), .val (.int c16), .val (.int c17), .val (.int c18), .val (.int c19), .val (.int c20), .val (.int c21), .val (.int c22), .val (.int c23), .val (.int c24), .unset, .unset, .unset, .unset, .unset, .unset, .unset, .unset]) rfl ?_
          show Steps p.tables e below (s₁.setTop (mkF m 287 #[.val (.long p0), .second, .val (.long p1), .second, .val (.int p2), .val (.int p3), .val (.int p4), .val (.int p5), .val (.int c8), .val (.int c9), .val (.int c10), .val (.int c11), .val (.int c12), .val (.int c13), .val (.int c14), .val (.int c15), .val (.int c16), .val (.int c17), .val (.int c18), .val (.int c19), .val (.int c20), .val (.int c21), .val (.int c22), .val (.int c23), .val (.int c24), .unset, .unset, .unset, .unset, .unset, .unset, .unset, .unset] [])) _
          refine XS.iload X0.here hx rfl (hb hby at_287) rfl ?_
          show Steps p.tables e below (s₁.setTop (mkF m 289 #[.val (.long p0), .second, .val (.long p1), .second, .val (.int p2), .val (.int p3), .val (.int p4), .val (.int p5), .val (.int c8), .val (.int c9), .val (.int c10), .val (.int c11), .val (.int c12), .val (.int c13), .val (.int c14), .val (.int c15), .val (.int c16), .val (.int c17), .val (.int c18), .val (.int c19), .val (.int c20), .val (.int c21), .val (.int c22), .val (.int c23), .val (.int c24), .unset, .unset, .unset, .unset, .unset, .unset, .unset, .unset] [(.int c10)])) _
          refine XS.iload X0.here hx rfl (hb hby at_289) rfl ?_
          show Steps p.tables e below (s₁.setTop (mkF m 291 #[.val (.long p0), .second, .val (.long p1), .second, .val (.int p2), .val (.int p3), .val (.int p4), .val (.int p5), .val (.int c8), .val (.int c9), .val (.int c10), .val (.int c11), .val (.int c12), .val (.int c13), .val (.int c14), .val (.int c15), .val (.int c16), .val (.int c17), .val (.int c18), .val (.int c19), .val (.int c20), .val (.int c21), .val (.int c22), .val (.int c23), .val (.int c24), .unset, .unset, .unset, .unset, .unset, .unset, .unset, .unset] [(.int c12), (.int c10)])) _
          refine XS.iload X0.here hx rfl (hb hby at_291) rfl ?_
          show Steps p.tables e below (s₁.setTop (mkF m 293 #[.val (.long p0), .second, .val (.long p1), .second, .val (.int p2), .val (.int p3), .val (.int p4), .val (.int p5), .val (.int c8), .val (.int c9), .val (.int c10), .val (.int c11), .val (.int c12), .val (.int c13), .val (.int c14), .val (.int c15), .val (.int c16), .val (.int c17), .val (.int c18), .val (.int c19), .val (.int c20), .val (.int c21), .val (.int c22), .val (.int c23), .val (.int c24), .unset, .unset, .unset, .unset, .unset, .unset, .unset, .unset] [(.int c13), (.int c12), (.int c10)])) _
          refine st106 _ ?_
          show Steps p.tables e below (T106.setTop (mkF m 296 #[.val (.long p0), .second, .val (.long p1), .second, .val (.int p2), .val (.int p3), .val (.int p4), .val (.int p5), .val (.int c8), .val (.int c9), .val (.int c10), .val (.int c11), .val (.int c12), .val (.int c13), .val (.int c14), .val (.int c15), .val (.int c16), .val (.int c17), .val (.int c18), .val (.int c19), .val (.int c20), .val (.int c21), .val (.int c22), .val (.int c23), .val (.int c24), .unset, .unset, .unset, .unset, .unset, .unset, .unset, .unset] [(.ref s25)])) _
          refine XS.astore X106.here hx rfl (hb hby at_296) rfl rfl (l' := #[.val (.long p0), .second, .val (.long p1), .second, .val (.int p2), .val (.int p3), .val (.int p4), .val (.int p5), .val (.int c8), .val (.int c9), .val (.int c10), .val (.int c11), .val (.int c12), .val (.int c13), .val (.int c14), .val (.int c15), .val (.int c16), .val (.int c17), .val (.int c18), .val (.int c19), .val (.int c20), .val (.int c21), .val (.int c22), .val (.int c23), .val (.int c24), .val (.ref s25), .unset, .unset, .unset, .unset, .unset, .unset, .unset]) rfl ?_
          show Steps p.tables e below (T106.setTop (mkF m 298 #[.val (.long p0), .second, .val (.long p1), .second, .val (.int p2), .val (.int p3), .val (.int p4), .val (.int p5), .val (.int c8), .val (.int c9), .val (.int c10), .val (.int c11), .val (.int c12), .val (.int c13), .val (.int c14), .val (.int c15), .val (.int c16), .val (.int c17), .val (.int c18), .val (.int c19), .val (.int c20), .val (.int c21), .val (.int c22), .val (.int c23), .val (.int c24), .val (.ref s25), .unset, .unset, .unset, .unset, .unset, .unset, .unset] [])) _
          refine XS.iload X106.here hx rfl (hb hby at_298) rfl ?_
          show Steps p.tables e below (T106.setTop (mkF m 300 #[.val (.long p0), .second, .val (.long p1), .second, .val (.int p2), .val (.int p3), .val (.int p4), .val (.int p5), .val (.int c8), .val (.int c9), .val (.int c10), .val (.int c11), .val (.int c12), .val (.int c13), .val (.int c14), .val (.int c15), .val (.int c16), .val (.int c17), .val (.int c18), .val (.int c19), .val (.int c20), .val (.int c21), .val (.int c22), .val (.int c23), .val (.int c24), .val (.ref s25), .unset, .unset, .unset, .unset, .unset, .unset, .unset] [(.int c11)])) _
          refine XS.iload X106.here hx rfl (hb hby at_300) rfl ?_
          show Steps p.tables e below (T106.setTop (mkF m 302 #[.val (.long p0), .second, .val (.long p1), .second, .val (.int p2), .val (.int p3), .val (.int p4), .val (.int p5), .val (.int c8), .val (.int c9), .val (.int c10), .val (.int c11), .val (.int c12), .val (.int c13), .val (.int c14), .val (.int c15), .val (.int c16), .val (.int c17), .val (.int c18), .val (.int c19), .val (.int c20), .val (.int c21), .val (.int c22), .val (.int c23), .val (.int c24), .val (.ref s25), .unset, .unset, .unset, .unset, .unset, .unset, .unset] [(.int c14), (.int c11)])) _
          refine XS.iload X106.here hx rfl (hb hby at_302) rfl ?_
          show Steps p.tables e below (T106.setTop (mkF m 304 #[.val (.long p0), .second, .val (.long p1), .second, .val (.int p2), .val (.int p3), .val (.int p4), .val (.int p5), .val (.int c8), .val (.int c9), .val (.int c10), .val (.int c11), .val (.int c12), .val (.int c13), .val (.int c14), .val (.int c15), .val (.int c16), .val (.int c17), .val (.int c18), .val (.int c19), .val (.int c20), .val (.int c21), .val (.int c22), .val (.int c23), .val (.int c24), .val (.ref s25), .unset, .unset, .unset, .unset, .unset, .unset, .unset] [(.int c15), (.int c14), (.int c11)])) _
          refine st110 _ ?_
          show Steps p.tables e below (T110.setTop (mkF m 307 #[.val (.long p0), .second, .val (.long p1), .second, .val (.int p2), .val (.int p3), .val (.int p4), .val (.int p5), .val (.int c8), .val (.int c9), .val (.int c10), .val (.int c11), .val (.int c12), .val (.int c13), .val (.int c14), .val (.int c15), .val (.int c16), .val (.int c17), .val (.int c18), .val (.int c19), .val (.int c20), .val (.int c21), .val (.int c22), .val (.int c23), .val (.int c24), .val (.ref s25), .unset, .unset, .unset, .unset, .unset, .unset, .unset] [(.ref s26)])) _
          refine XS.astore X110.here hx rfl (hb hby at_307) rfl rfl (l' := #[.val (.long p0), .second, .val (.long p1), .second, .val (.int p2), .val (.int p3), .val (.int p4), .val (.int p5), .val (.int c8), .val (.int c9), .val (.int c10), .val (.int c11), .val (.int c12), .val (.int c13), .val (.int c14), .val (.int c15), .val (.int c16), .val (.int c17), .val (.int c18), .val (.int c19), .val (.int c20), .val (.int c21), .val (.int c22), .val (.int c23), .val (.int c24), .val (.ref s25), .val (.ref s26), .unset, .unset, .unset, .unset, .unset, .unset]) rfl ?_
          show Steps p.tables e below (T110.setTop (mkF m 309 #[.val (.long p0), .second, .val (.long p1), .second, .val (.int p2), .val (.int p3), .val (.int p4), .val (.int p5), .val (.int c8), .val (.int c9), .val (.int c10), .val (.int c11), .val (.int c12), .val (.int c13), .val (.int c14), .val (.int c15), .val (.int c16), .val (.int c17), .val (.int c18), .val (.int c19), .val (.int c20), .val (.int c21), .val (.int c22), .val (.int c23), .val (.int c24), .val (.ref s25), .val (.ref s26), .unset, .unset, .unset, .unset, .unset, .unset] [])) _
          refine XS.iload X110.here hx rfl (hb hby at_309) rfl ?_
          show Steps p.tables e below (T110.setTop (mkF m 311 #[.val (.long p0), .second, .val (.long p1), .second, .val (.int p2), .val (.int p3), .val (.int p4), .val (.int p5), .val (.int c8), .val (.int c9), .val (.int c10), .val (.int c11), .val (.int c12), .val (.int c13), .val (.int c14), .val (.int c15), .val (.int c16), .val (.int c17), .val (.int c18), .val (.int c19), .val (.int c20), .val (.int c21), .val (.int c22), .val (.int c23), .val (.int c24), .val (.ref s25), .val (.ref s26), .unset, .unset, .unset, .unset, .unset, .unset] [(.int c18)])) _
          refine XS.iload X110.here hx rfl (hb hby at_311) rfl ?_
          show Steps p.tables e below (T110.setTop (mkF m 313 #[.val (.long p0), .second, .val (.long p1), .second, .val (.int p2), .val (.int p3), .val (.int p4), .val (.int p5), .val (.int c8), .val (.int c9), .val (.int c10), .val (.int c11), .val (.int c12), .val (.int c13), .val (.int c14), .val (.int c15), .val (.int c16), .val (.int c17), .val (.int c18), .val (.int c19), .val (.int c20), .val (.int c21), .val (.int c22), .val (.int c23), .val (.int c24), .val (.ref s25), .val (.ref s26), .unset, .unset, .unset, .unset, .unset, .unset] [(.int c16), (.int c18)])) _
          refine XS.iload X110.here hx rfl (hb hby at_313) rfl ?_
          show Steps p.tables e below (T110.setTop (mkF m 315 #[.val (.long p0), .second, .val (.long p1), .second, .val (.int p2), .val (.int p3), .val (.int p4), .val (.int p5), .val (.int c8), .val (.int c9), .val (.int c10), .val (.int c11), .val (.int c12), .val (.int c13), .val (.int c14), .val (.int c15), .val (.int c16), .val (.int c17), .val (.int c18), .val (.int c19), .val (.int c20), .val (.int c21), .val (.int c22), .val (.int c23), .val (.int c24), .val (.ref s25), .val (.ref s26), .unset, .unset, .unset, .unset, .unset, .unset] [(.int c17), (.int c16), (.int c18)])) _
          refine st114 _ ?_
          show Steps p.tables e below (T114.setTop (mkF m 318 #[.val (.long p0), .second, .val (.long p1), .second, .val (.int p2), .val (.int p3), .val (.int p4), .val (.int p5), .val (.int c8), .val (.int c9), .val (.int c10), .val (.int c11), .val (.int c12), .val (.int c13), .val (.int c14), .val (.int c15), .val (.int c16), .val (.int c17), .val (.int c18), .val (.int c19), .val (.int c20), .val (.int c21), .val (.int c22), .val (.int c23), .val (.int c24), .val (.ref s25), .val (.ref s26), .unset, .unset, .unset, .unset, .unset, .unset] [(.ref s27)])) _
          refine XS.astore X114.here hx rfl (hb hby at_318) rfl rfl (l' := #[.val (.long p0), .second, .val (.long p1), .second, .val (.int p2), .val (.int p3), .val (.int p4), .val (.int p5), .val (.int c8), .val (.int c9), .val (.int c10), .val (.int c11), .val (.int c12), .val (.int c13), .val (.int c14), .val (.int c15), .val (.int c16), .val (.int c17), .val (.int c18), .val (.int c19), .val (.int c20), .val (.int c21), .val (.int c22), .val (.int c23), .val (.int c24), .val (.ref s25), .val (.ref s26), .val (.ref s27), .unset, .unset, .unset, .unset, .unset]) rfl ?_
          show Steps p.tables e below (T114.setTop (mkF m 320 #[.val (.long p0), .second, .val (.long p1), .second, .val (.int p2), .val (.int p3), .val (.int p4), .val (.int p5), .val (.int c8), .val (.int c9), .val (.int c10), .val (.int c11), .val (.int c12), .val (.int c13), .val (.int c14), .val (.int c15), .val (.int c16), .val (.int c17), .val (.int c18), .val (.int c19), .val (.int c20), .val (.int c21), .val (.int c22), .val (.int c23), .val (.int c24), .val (.ref s25), .val (.ref s26), .val (.ref s27), .unset, .unset, .unset, .unset, .unset] [])) _
          refine XS.iload X114.here hx rfl (hb hby at_320) rfl ?_
          show Steps p.tables e below (T114.setTop (mkF m 322 #[.val (.long p0), .second, .val (.long p1), .second, .val (.int p2), .val (.int p3), .val (.int p4), .val (.int p5), .val (.int c8), .val (.int c9), .val (.int c10), .val (.int c11), .val (.int c12), .val (.int c13), .val (.int c14), .val (.int c15), .val (.int c16), .val (.int c17), .val (.int c18), .val (.int c19), .val (.int c20), .val (.int c21), .val (.int c22), .val (.int c23), .val (.int c24), .val (.ref s25), .val (.ref s26), .val (.ref s27), .unset, .unset, .unset, .unset, .unset] [(.int c21)])) _
          refine XS.iload X114.here hx rfl (hb hby at_322) rfl ?_
          show Steps p.tables e below (T114.setTop (mkF m 324 #[.val (.long p0), .second, .val (.long p1), .second, .val (.int p2), .val (.int p3), .val (.int p4), .val (.int p5), .val (.int c8), .val (.int c9), .val (.int c10), .val (.int c11), .val (.int c12), .val (.int c13), .val (.int c14), .val (.int c15), .val (.int c16), .val (.int c17), .val (.int c18), .val (.int c19), .val (.int c20), .val (.int c21), .val (.int c22), .val (.int c23), .val (.int c24), .val (.ref s25), .val (.ref s26), .val (.ref s27), .unset, .unset, .unset, .unset, .unset] [(.int c19), (.int c21)])) _
          refine XS.iload X114.here hx rfl (hb hby at_324) rfl ?_
          show Steps p.tables e below (T114.setTop (mkF m 326 #[.val (.long p0), .second, .val (.long p1), .second, .val (.int p2), .val (.int p3), .val (.int p4), .val (.int p5), .val (.int c8), .val (.int c9), .val (.int c10), .val (.int c11), .val (.int c12), .val (.int c13), .val (.int c14), .val (.int c15), .val (.int c16), .val (.int c17), .val (.int c18), .val (.int c19), .val (.int c20), .val (.int c21), .val (.int c22), .val (.int c23), .val (.int c24), .val (.ref s25), .val (.ref s26), .val (.ref s27), .unset, .unset, .unset, .unset, .unset] [(.int c20), (.int c19), (.int c21)])) _
          refine st118 _ ?_
          show Steps p.tables e below (T118.setTop (mkF m 329 #[.val (.long p0), .second, .val (.long p1), .second, .val (.int p2), .val (.int p3), .val (.int p4), .val (.int p5), .val (.int c8), .val (.int c9), .val (.int c10), .val (.int c11), .val (.int c12), .val (.int c13), .val (.int c14), .val (.int c15), .val (.int c16), .val (.int c17), .val (.int c18), .val (.int c19), .val (.int c20), .val (.int c21), .val (.int c22), .val (.int c23), .val (.int c24), .val (.ref s25), .val (.ref s26), .val (.ref s27), .unset, .unset, .unset, .unset, .unset] [(.ref s28)])) _
          refine XS.astore X118.here hx rfl (hb hby at_329) rfl rfl (l' := #[.val (.long p0), .second, .val (.long p1), .second, .val (.int p2), .val (.int p3), .val (.int p4), .val (.int p5), .val (.int c8), .val (.int c9), .val (.int c10), .val (.int c11), .val (.int c12), .val (.int c13), .val (.int c14), .val (.int c15), .val (.int c16), .val (.int c17), .val (.int c18), .val (.int c19), .val (.int c20), .val (.int c21), .val (.int c22), .val (.int c23), .val (.int c24), .val (.ref s25), .val (.ref s26), .val (.ref s27), .val (.ref s28), .unset, .unset, .unset, .unset]) rfl ?_
          show Steps p.tables e below (T118.setTop (mkF m 331 #[.val (.long p0), .second, .val (.long p1), .second, .val (.int p2), .val (.int p3), .val (.int p4), .val (.int p5), .val (.int c8), .val (.int c9), .val (.int c10), .val (.int c11), .val (.int c12), .val (.int c13), .val (.int c14), .val (.int c15), .val (.int c16), .val (.int c17), .val (.int c18), .val (.int c19), .val (.int c20), .val (.int c21), .val (.int c22), .val (.int c23), .val (.int c24), .val (.ref s25), .val (.ref s26), .val (.ref s27), .val (.ref s28), .unset, .unset, .unset, .unset] [])) _
          refine st121 _ ?_
          show Steps p.tables e below (T121.setTop (mkF m 348 #[.val (.long p0), .second, .val (.long p1), .second, .val (.int p2), .val (.int p3), .val (.int p4), .val (.int p5), .val (.int c8), .val (.int c9), .val (.int c10), .val (.int c11), .val (.int c12), .val (.int c13), .val (.int c14), .val (.int c15), .val (.int c16), .val (.int c17), .val (.int c18), .val (.int c19), .val (.int c20), .val (.int c21), .val (.int c22), .val (.int c23), .val (.int c24), .val (.ref s25), .val (.ref s26), .val (.ref s27), .val (.ref s28), .unset, .unset, .unset, .unset] [(.ref b29)])) _
          refine XS.astore X121.here hx rfl (hb hby at_348) rfl rfl (l' := #[.val (.long p0), .second, .val (.long p1), .second, .val (.int p2), .val (.int p3), .val (.int p4), .val (.int p5), .val (.int c8), .val (.int c9), .val (.int c10), .val (.int c11), .val (.int c12), .val (.int c13), .val (.int c14), .val (.int c15), .val (.int c16), .val (.int c17), .val (.int c18), .val (.int c19), .val (.int c20), .val (.int c21), .val (.int c22), .val (.int c23), .val (.int c24), .val (.ref s25), .val (.ref s26), .val (.ref s27), .val (.ref s28), .val (.ref b29), .unset, .unset, .unset]) rfl ?_
          show Steps p.tables e below (T121.setTop (mkF m 350 #[.val (.long p0), .second, .val (.long p1), .second, .val (.int p2), .val (.int p3), .val (.int p4), .val (.int p5), .val (.int c8), .val (.int c9), .val (.int c10), .val (.int c11), .val (.int c12), .val (.int c13), .val (.int c14), .val (.int c15), .val (.int c16), .val (.int c17), .val (.int c18), .val (.int c19), .val (.int c20), .val (.int c21), .val (.int c22), .val (.int c23), .val (.int c24), .val (.ref s25), .val (.ref s26), .val (.ref s27), .val (.ref s28), .val (.ref b29), .unset, .unset, .unset] [])) _
          refine st130 _ ?_
          show Steps p.tables e below (T130.setTop (mkF m 367 #[.val (.long p0), .second, .val (.long p1), .second, .val (.int p2), .val (.int p3), .val (.int p4), .val (.int p5), .val (.int c8), .val (.int c9), .val (.int c10), .val (.int c11), .val (.int c12), .val (.int c13), .val (.int c14), .val (.int c15), .val (.int c16), .val (.int c17), .val (.int c18), .val (.int c19), .val (.int c20), .val (.int c21), .val (.int c22), .val (.int c23), .val (.int c24), .val (.ref s25), .val (.ref s26), .val (.ref s27), .val (.ref s28), .val (.ref b29), .unset, .unset, .unset] [(.ref b30)])) _
          refine XS.astore X130.here hx rfl (hb hby at_367) rfl rfl (l' := #[.val (.long p0), .second, .val (.long p1), .second, .val (.int p2), .val (.int p3), .val (.int p4), .val (.int p5), .val (.int c8), .val (.int c9), .val (.int c10), .val (.int c11), .val (.int c12), .val (.int c13), .val (.int c14), .val (.int c15), .val (.int c16), .val (.int c17), .val (.int c18), .val (.int c19), .val (.int c20), .val (.int c21), .val (.int c22), .val (.int c23), .val (.int c24), .val (.ref s25), .val (.ref s26), .val (.ref s27), .val (.ref s28), .val (.ref b29), .val (.ref b30), .unset, .unset]) rfl ?_
          show Steps p.tables e below (T130.setTop (mkF m 369 #[.val (.long p0), .second, .val (.long p1), .second, .val (.int p2), .val (.int p3), .val (.int p4), .val (.int p5), .val (.int c8), .val (.int c9), .val (.int c10), .val (.int c11), .val (.int c12), .val (.int c13), .val (.int c14), .val (.int c15), .val (.int c16), .val (.int c17), .val (.int c18), .val (.int c19), .val (.int c20), .val (.int c21), .val (.int c22), .val (.int c23), .val (.int c24), .val (.ref s25), .val (.ref s26), .val (.ref s27), .val (.ref s28), .val (.ref b29), .val (.ref b30), .unset, .unset] [])) _
          refine XS.iload X130.here hx rfl (hb hby at_369) rfl ?_
          show Steps p.tables e below (T130.setTop (mkF m 371 #[.val (.long p0), .second, .val (.long p1), .second, .val (.int p2), .val (.int p3), .val (.int p4), .val (.int p5), .val (.int c8), .val (.int c9), .val (.int c10), .val (.int c11), .val (.int c12), .val (.int c13), .val (.int c14), .val (.int c15), .val (.int c16), .val (.int c17), .val (.int c18), .val (.int c19), .val (.int c20), .val (.int c21), .val (.int c22), .val (.int c23), .val (.int c24), .val (.ref s25), .val (.ref s26), .val (.ref s27), .val (.ref s28), .val (.ref b29), .val (.ref b30), .unset, .unset] [(.int p5)])) _
          refine XS.bipush X130.here hx rfl (hb hby at_371) ?_
          show Steps p.tables e below (T130.setTop (mkF m 373 #[.val (.long p0), .second, .val (.long p1), .second, .val (.int p2), .val (.int p3), .val (.int p4), .val (.int p5), .val (.int c8), .val (.int c9), .val (.int c10), .val (.int c11), .val (.int c12), .val (.int c13), .val (.int c14), .val (.int c15), .val (.int c16), .val (.int c17), .val (.int c18), .val (.int c19), .val (.int c20), .val (.int c21), .val (.int c22), .val (.int c23), .val (.int c24), .val (.ref s25), .val (.ref s26), .val (.ref s27), .val (.ref s28), .val (.ref b29), .val (.ref b30), .unset, .unset] [(.int (7 : Int32)), (.int p5)])) _
          refine XS.iushr X130.here hx rfl (hb hby at_373) rfl ?_
          show Steps p.tables e below (T130.setTop (mkF m 374 #[.val (.long p0), .second, .val (.long p1), .second, .val (.int p2), .val (.int p3), .val (.int p4), .val (.int p5), .val (.int c8), .val (.int c9), .val (.int c10), .val (.int c11), .val (.int c12), .val (.int c13), .val (.int c14), .val (.int c15), .val (.int c16), .val (.int c17), .val (.int c18), .val (.int c19), .val (.int c20), .val (.int c21), .val (.int c22), .val (.int c23), .val (.int c24), .val (.ref s25), .val (.ref s26), .val (.ref s27), .val (.ref s28), .val (.ref b29), .val (.ref b30), .unset, .unset] [(.int ((p5.toUInt32 >>> ((7 : Int32) &&& 31).toUInt32).toInt32))])) _
          refine XS.iconst X130.here hx rfl (hb hby at_374) ?_
          show Steps p.tables e below (T130.setTop (mkF m 375 #[.val (.long p0), .second, .val (.long p1), .second, .val (.int p2), .val (.int p3), .val (.int p4), .val (.int p5), .val (.int c8), .val (.int c9), .val (.int c10), .val (.int c11), .val (.int c12), .val (.int c13), .val (.int c14), .val (.int c15), .val (.int c16), .val (.int c17), .val (.int c18), .val (.int c19), .val (.int c20), .val (.int c21), .val (.int c22), .val (.int c23), .val (.int c24), .val (.ref s25), .val (.ref s26), .val (.ref s27), .val (.ref s28), .val (.ref b29), .val (.ref b30), .unset, .unset] [(.int (3 : Int32)), (.int ((p5.toUInt32 >>> ((7 : Int32) &&& 31).toUInt32).toInt32))])) _
          refine XS.iand X130.here hx rfl (hb hby at_375) rfl ?_
          show Steps p.tables e below (T130.setTop (mkF m 376 #[.val (.long p0), .second, .val (.long p1), .second, .val (.int p2), .val (.int p3), .val (.int p4), .val (.int p5), .val (.int c8), .val (.int c9), .val (.int c10), .val (.int c11), .val (.int c12), .val (.int c13), .val (.int c14), .val (.int c15), .val (.int c16), .val (.int c17), .val (.int c18), .val (.int c19), .val (.int c20), .val (.int c21), .val (.int c22), .val (.int c23), .val (.int c24), .val (.ref s25), .val (.ref s26), .val (.ref s27), .val (.ref s28), .val (.ref b29), .val (.ref b30), .unset, .unset] [(.int (((p5.toUInt32 >>> ((7 : Int32) &&& 31).toUInt32).toInt32) &&& (3 : Int32)))])) _
          refine XS.istore X130.here hx rfl (hb hby at_376) rfl (l' := #[.val (.long p0), .second, .val (.long p1), .second, .val (.int p2), .val (.int p3), .val (.int p4), .val (.int p5), .val (.int c8), .val (.int c9), .val (.int c10), .val (.int c11), .val (.int c12), .val (.int c13), .val (.int c14), .val (.int c15), .val (.int c16), .val (.int c17), .val (.int c18), .val (.int c19), .val (.int c20), .val (.int c21), .val (.int c22), .val (.int c23), .val (.int c24), .val (.ref s25), .val (.ref s26), .val (.ref s27), .val (.ref s28), .val (.ref b29), .val (.ref b30), .val (.int (((p5.toUInt32 >>> ((7 : Int32) &&& 31).toUInt32).toInt32) &&& (3 : Int32))), .unset]) rfl ?_
          show Steps p.tables e below (T130.setTop (mkF m 378 #[.val (.long p0), .second, .val (.long p1), .second, .val (.int p2), .val (.int p3), .val (.int p4), .val (.int p5), .val (.int c8), .val (.int c9), .val (.int c10), .val (.int c11), .val (.int c12), .val (.int c13), .val (.int c14), .val (.int c15), .val (.int c16), .val (.int c17), .val (.int c18), .val (.int c19), .val (.int c20), .val (.int c21), .val (.int c22), .val (.int c23), .val (.int c24), .val (.ref s25), .val (.ref s26), .val (.ref s27), .val (.ref s28), .val (.ref b29), .val (.ref b30), .val (.int (((p5.toUInt32 >>> ((7 : Int32) &&& 31).toUInt32).toInt32) &&& (3 : Int32))), .unset] [])) _
          refine XS.iload X130.here hx rfl (hb hby at_378) rfl ?_
          show Steps p.tables e below (T130.setTop (mkF m 380 #[.val (.long p0), .second, .val (.long p1), .second, .val (.int p2), .val (.int p3), .val (.int p4), .val (.int p5), .val (.int c8), .val (.int c9), .val (.int c10), .val (.int c11), .val (.int c12), .val (.int c13), .val (.int c14), .val (.int c15), .val (.int c16), .val (.int c17), .val (.int c18), .val (.int c19), .val (.int c20), .val (.int c21), .val (.int c22), .val (.int c23), .val (.int c24), .val (.ref s25), .val (.ref s26), .val (.ref s27), .val (.ref s28), .val (.ref b29), .val (.ref b30), .val (.int (((p5.toUInt32 >>> ((7 : Int32) &&& 31).toUInt32).toInt32) &&& (3 : Int32))), .unset] [(.int (((p5.toUInt32 >>> ((7 : Int32) &&& 31).toUInt32).toInt32) &&& (3 : Int32)))])) _
          refine XS.iconst X130.here hx rfl (hb hby at_380) ?_
          show Steps p.tables e below (T130.setTop (mkF m 381 #[.val (.long p0), .second, .val (.long p1), .second, .val (.int p2), .val (.int p3), .val (.int p4), .val (.int p5), .val (.int c8), .val (.int c9), .val (.int c10), .val (.int c11), .val (.int c12), .val (.int c13), .val (.int c14), .val (.int c15), .val (.int c16), .val (.int c17), .val (.int c18), .val (.int c19), .val (.int c20), .val (.int c21), .val (.int c22), .val (.int c23), .val (.int c24), .val (.ref s25), .val (.ref s26), .val (.ref s27), .val (.ref s28), .val (.ref b29), .val (.ref b30), .val (.int (((p5.toUInt32 >>> ((7 : Int32) &&& 31).toUInt32).toInt32) &&& (3 : Int32))), .unset] [(.int (1 : Int32)), (.int (((p5.toUInt32 >>> ((7 : Int32) &&& 31).toUInt32).toInt32) &&& (3 : Int32)))])) _
          refine XS.icmpYes X130.here hx rfl (pc0 := 381) (pc' := 399) rfl (hb hby at_381) rfl (feq hm1).2 (by decide) (by decide) ?_
          show Steps p.tables e below (T130.setTop (mkF m 399 #[.val (.long p0), .second, .val (.long p1), .second, .val (.int p2), .val (.int p3), .val (.int p4), .val (.int p5), .val (.int c8), .val (.int c9), .val (.int c10), .val (.int c11), .val (.int c12), .val (.int c13), .val (.int c14), .val (.int c15), .val (.int c16), .val (.int c17), .val (.int c18), .val (.int c19), .val (.int c20), .val (.int c21), .val (.int c22), .val (.int c23), .val (.int c24), .val (.ref s25), .val (.ref s26), .val (.ref s27), .val (.ref s28), .val (.ref b29), .val (.ref b30), .val (.int (((p5.toUInt32 >>> ((7 : Int32) &&& 31).toUInt32).toInt32) &&& (3 : Int32))), .unset] [])) _
          refine XS.iload X130.here hx rfl (hb hby at_399) rfl ?_
          show Steps p.tables e below (T130.setTop (mkF m 401 #[.val (.long p0), .second, .val (.long p1), .second, .val (.int p2), .val (.int p3), .val (.int p4), .val (.int p5), .val (.int c8), .val (.int c9), .val (.int c10), .val (.int c11), .val (.int c12), .val (.int c13), .val (.int c14), .val (.int c15), .val (.int c16), .val (.int c17), .val (.int c18), .val (.int c19), .val (.int c20), .val (.int c21), .val (.int c22), .val (.int c23), .val (.int c24), .val (.ref s25), .val (.ref s26), .val (.ref s27), .val (.ref s28), .val (.ref b29), .val (.ref b30), .val (.int (((p5.toUInt32 >>> ((7 : Int32) &&& 31).toUInt32).toInt32) &&& (3 : Int32))), .unset] [(.int (((p5.toUInt32 >>> ((7 : Int32) &&& 31).toUInt32).toInt32) &&& (3 : Int32)))])) _
          refine XS.iconst X130.here hx rfl (hb hby at_401) ?_
          show Steps p.tables e below (T130.setTop (mkF m 402 #[.val (.long p0), .second, .val (.long p1), .second, .val (.int p2), .val (.int p3), .val (.int p4), .val (.int p5), .val (.int c8), .val (.int c9), .val (.int c10), .val (.int c11), .val (.int c12), .val (.int c13), .val (.int c14), .val (.int c15), .val (.int c16), .val (.int c17), .val (.int c18), .val (.int c19), .val (.int c20), .val (.int c21), .val (.int c22), .val (.int c23), .val (.int c24), .val (.ref s25), .val (.ref s26), .val (.ref s27), .val (.ref s28), .val (.ref b29), .val (.ref b30), .val (.int (((p5.toUInt32 >>> ((7 : Int32) &&& 31).toUInt32).toInt32) &&& (3 : Int32))), .unset] [(.int (2 : Int32)), (.int (((p5.toUInt32 >>> ((7 : Int32) &&& 31).toUInt32).toInt32) &&& (3 : Int32)))])) _
          refine XS.icmpYes X130.here hx rfl (pc0 := 402) (pc' := 421) rfl (hb hby at_402) rfl (feq hm2).2 (by decide) (by decide) ?_
          show Steps p.tables e below (T130.setTop (mkF m 421 #[.val (.long p0), .second, .val (.long p1), .second, .val (.int p2), .val (.int p3), .val (.int p4), .val (.int p5), .val (.int c8), .val (.int c9), .val (.int c10), .val (.int c11), .val (.int c12), .val (.int c13), .val (.int c14), .val (.int c15), .val (.int c16), .val (.int c17), .val (.int c18), .val (.int c19), .val (.int c20), .val (.int c21), .val (.int c22), .val (.int c23), .val (.int c24), .val (.ref s25), .val (.ref s26), .val (.ref s27), .val (.ref s28), .val (.ref b29), .val (.ref b30), .val (.int (((p5.toUInt32 >>> ((7 : Int32) &&& 31).toUInt32).toInt32) &&& (3 : Int32))), .unset] [])) _
          refine XS.iload X130.here hx rfl (hb hby at_421) rfl ?_
          show Steps p.tables e below (T130.setTop (mkF m 423 #[.val (.long p0), .second, .val (.long p1), .second, .val (.int p2), .val (.int p3), .val (.int p4), .val (.int p5), .val (.int c8), .val (.int c9), .val (.int c10), .val (.int c11), .val (.int c12), .val (.int c13), .val (.int c14), .val (.int c15), .val (.int c16), .val (.int c17), .val (.int c18), .val (.int c19), .val (.int c20), .val (.int c21), .val (.int c22), .val (.int c23), .val (.int c24), .val (.ref s25), .val (.ref s26), .val (.ref s27), .val (.ref s28), .val (.ref b29), .val (.ref b30), .val (.int (((p5.toUInt32 >>> ((7 : Int32) &&& 31).toUInt32).toInt32) &&& (3 : Int32))), .unset] [(.int (((p5.toUInt32 >>> ((7 : Int32) &&& 31).toUInt32).toInt32) &&& (3 : Int32)))])) _
          refine XS.iconst X130.here hx rfl (hb hby at_423) ?_
          show Steps p.tables e below (T130.setTop (mkF m 424 #[.val (.long p0), .second, .val (.long p1), .second, .val (.int p2), .val (.int p3), .val (.int p4), .val (.int p5), .val (.int c8), .val (.int c9), .val (.int c10), .val (.int c11), .val (.int c12), .val (.int c13), .val (.int c14), .val (.int c15), .val (.int c16), .val (.int c17), .val (.int c18), .val (.int c19), .val (.int c20), .val (.int c21), .val (.int c22), .val (.int c23), .val (.int c24), .val (.ref s25), .val (.ref s26), .val (.ref s27), .val (.ref s28), .val (.ref b29), .val (.ref b30), .val (.int (((p5.toUInt32 >>> ((7 : Int32) &&& 31).toUInt32).toInt32) &&& (3 : Int32))), .unset] [(.int (3 : Int32)), (.int (((p5.toUInt32 >>> ((7 : Int32) &&& 31).toUInt32).toInt32) &&& (3 : Int32)))])) _
          refine XS.icmpNo X130.here hx rfl (hb hby at_424) rfl (teq hm3).2 ?_
          show Steps p.tables e below (T130.setTop (mkF m 427 #[.val (.long p0), .second, .val (.long p1), .second, .val (.int p2), .val (.int p3), .val (.int p4), .val (.int p5), .val (.int c8), .val (.int c9), .val (.int c10), .val (.int c11), .val (.int c12), .val (.int c13), .val (.int c14), .val (.int c15), .val (.int c16), .val (.int c17), .val (.int c18), .val (.int c19), .val (.int c20), .val (.int c21), .val (.int c22), .val (.int c23), .val (.int c24), .val (.ref s25), .val (.ref s26), .val (.ref s27), .val (.ref s28), .val (.ref b29), .val (.ref b30), .val (.int (((p5.toUInt32 >>> ((7 : Int32) &&& 31).toUInt32).toInt32) &&& (3 : Int32))), .unset] [])) _
          refine XS.aload X130.here hx rfl (hb hby at_427) rfl rfl ?_
          show Steps p.tables e below (T130.setTop (mkF m 429 #[.val (.long p0), .second, .val (.long p1), .second, .val (.int p2), .val (.int p3), .val (.int p4), .val (.int p5), .val (.int c8), .val (.int c9), .val (.int c10), .val (.int c11), .val (.int c12), .val (.int c13), .val (.int c14), .val (.int c15), .val (.int c16), .val (.int c17), .val (.int c18), .val (.int c19), .val (.int c20), .val (.int c21), .val (.int c22), .val (.int c23), .val (.int c24), .val (.ref s25), .val (.ref s26), .val (.ref s27), .val (.ref s28), .val (.ref b29), .val (.ref b30), .val (.int (((p5.toUInt32 >>> ((7 : Int32) &&& 31).toUInt32).toInt32) &&& (3 : Int32))), .unset] [(.ref b29)])) _
          refine XS.aload X130.here hx rfl (hb hby at_429) rfl rfl ?_
          show Steps p.tables e below (T130.setTop (mkF m 431 #[.val (.long p0), .second, .val (.long p1), .second, .val (.int p2), .val (.int p3), .val (.int p4), .val (.int p5), .val (.int c8), .val (.int c9), .val (.int c10), .val (.int c11), .val (.int c12), .val (.int c13), .val (.int c14), .val (.int c15), .val (.int c16), .val (.int c17), .val (.int c18), .val (.int c19), .val (.int c20), .val (.int c21), .val (.int c22), .val (.int c23), .val (.int c24), .val (.ref s25), .val (.ref s26), .val (.ref s27), .val (.ref s28), .val (.ref b29), .val (.ref b30), .val (.int (((p5.toUInt32 >>> ((7 : Int32) &&& 31).toUInt32).toInt32) &&& (3 : Int32))), .unset] [(.ref b29), (.ref b29)])) _
          refine st146.trans ?_
          show Steps p.tables e below (T146.setTop (mkF m 434 #[.val (.long p0), .second, .val (.long p1), .second, .val (.int p2), .val (.int p3), .val (.int p4), .val (.int p5), .val (.int c8), .val (.int c9), .val (.int c10), .val (.int c11), .val (.int c12), .val (.int c13), .val (.int c14), .val (.int c15), .val (.int c16), .val (.int c17), .val (.int c18), .val (.int c19), .val (.int c20), .val (.int c21), .val (.int c22), .val (.int c23), .val (.int c24), .val (.ref s25), .val (.ref s26), .val (.ref s27), .val (.ref s28), .val (.ref b29), .val (.ref b30), .val (.int (((p5.toUInt32 >>> ((7 : Int32) &&& 31).toUInt32).toInt32) &&& (3 : Int32))), .unset] [(.int (1 : Int32))])) _
          exact retN X146 hx (t := .boolean) hret0 (by simp) (hb hby at_434) hr
        · show Q0 n0 _ T146.heap _
          rw [eh146]
          exact ⟨rfl, N146⟩
      · skip
        obtain ⟨T147, h147, lc147, c32, X147, e147, E147, N147, hc32, st147⟩ : ∃ (T147 : State) (h147 : Heap) (lc147 : List Loc) (c32 : Int32), Stand p l e room_1 s m args below meth c T147 lc147 14 42 ∧ T147.heap = h147 ∧ Ext h130 h147 ∧ Fr n0 lc147 ∧ ((c32 = 1 ∧ ((own_mkS c10 c12 c13) = (own_mkS c18 c16 c17) ∧ p2 = c22 ∧ p3 = c23 ∧ (own_mkS c11 c14 c15) = (own_mkS c21 c19 c20) ∧ p4 = c24)) ∨ (c32 = 0 ∧ ¬ ((own_mkS c10 c12 c13) = (own_mkS c18 c16 c17) ∧ p2 = c22 ∧ p3 = c23 ∧ (own_mkS c11 c14 c15) = (own_mkS c21 c19 c20) ∧ p4 = c24))) ∧ ∀ target, Steps p.tables e below (T147.setTop (mkF m 497 #[.val (.long p0), .second, .val (.long p1), .second, .val (.int p2), .val (.int p3), .val (.int p4), .val (.int p5), .val (.int c8), .val (.int c9), .val (.int c10), .val (.int c11), .val (.int c12), .val (.int c13), .val (.int c14), .val (.int c15), .val (.int c16), .val (.int c17), .val (.int c18), .val (.int c19), .val (.int c20), .val (.int c21), .val (.int c22), .val (.int c23), .val (.int c24), .val (.ref s25), .val (.ref s26), .val (.ref s27), .val (.ref s28), .val (.ref b29), .val (.ref b30), .val (.int (((p5.toUInt32 >>> ((7 : Int32) &&& 31).toUInt32).toInt32) &&& (3 : Int32))), .unset] [(.int c32)])) target → Steps p.tables e below (T130.setTop (mkF m 435 #[.val (.long p0), .second, .val (.long p1), .second, .val (.int p2), .val (.int p3), .val (.int p4), .val (.int p5), .val (.int c8), .val (.int c9), .val (.int c10), .val (.int c11), .val (.int c12), .val (.int c13), .val (.int c14), .val (.int c15), .val (.int c16), .val (.int c17), .val (.int c18), .val (.int c19), .val (.int c20), .val (.int c21), .val (.int c22), .val (.int c23), .val (.int c24), .val (.ref s25), .val (.ref s26), .val (.ref s27), .val (.ref s28), .val (.ref b29), .val (.ref b30), .val (.int (((p5.toUInt32 >>> ((7 : Int32) &&& 31).toUInt32).toInt32) &&& (3 : Int32))), .unset] [])) target := by
          obtain ⟨v148, vmx148, ⟨T148, L148, k148, n148⟩, -, X148, ⟨Lc148, hQ148, l148, y148, z148⟩, st148⟩ := Jvm.LawKit.callS X130 hx (y := (⟨"com/example/ample_search/amplesearch/analysis/TokenEqualsPinLaw", "same", "(ICCICC)Z"⟩ : MethodName)) hown (mvT hZ (hw _ (List.mem_of_getElem? (i := 52) rfl))) (mvT hZ (hw _ (List.mem_of_getElem? (i := 53) rfl))) (mvT hZ (hw _ (List.mem_of_getElem? (i := 3) rfl))) (mvT hZ (hw _ (List.mem_of_getElem? (i := 54) rfl))) (by decide) (backOf (W := 0) (rm9 l Z a0 hw [] c10 c12 c13 c18 c16 c17 h130 n0 Z137 hc10 hc18) hZ (hw _ (List.mem_of_getElem? (i := 54) rfl)) (hw _ (List.mem_of_getElem? (i := 3) rfl)) (by decide) (by decide)) (g := (mkF m 447 #[.val (.long p0), .second, .val (.long p1), .second, .val (.int p2), .val (.int p3), .val (.int p4), .val (.int p5), .val (.int c8), .val (.int c9), .val (.int c10), .val (.int c11), .val (.int c12), .val (.int c13), .val (.int c14), .val (.int c15), .val (.int c16), .val (.int c17), .val (.int c18), .val (.int c19), .val (.int c20), .val (.int c21), .val (.int c22), .val (.int c23), .val (.int c24), .val (.ref s25), .val (.ref s26), .val (.ref s27), .val (.ref s28), .val (.ref b29), .val (.ref b30), .val (.int (((p5.toUInt32 >>> ((7 : Int32) &&& 31).toUInt32).toInt32) &&& (3 : Int32))), .unset] [(.int c17), (.int c16), (.int c18), (.int c13), (.int c12), (.int c10)])) rfl (by rw [hml]; rfl) (argsL := [(.int c10), (.int c12), (.int c13), (.int c18), (.int c16), (.int c17)]) (rest := []) (lenOf own_pd4 rfl) rfl (by show 2 * 0 + _ ≤ _; exact Nat.le_of_eq rfl) (hb hby at_447) (fun _ _ => ⟨rfl, e130, (by decide : 14 + 0 ≤ _), (by decide : 42 + 0 ≤ _)⟩)
          dsimp only [Pt.U, Pt.locs, Pt.cells, Pt.slots] at X148 l148 y148 z148 st148 hQ148
          subst l148 y148 z148
          obtain ⟨z148, rfl, hz148, Nq148, eh148⟩ := hQ148
          have N148 := Fr.app N130 Nq148
          rcases hz148 with ⟨rfl, q1⟩ | ⟨rfl, q1⟩
          · skip
            by_cases q2 : p2 = c22
            · skip
              by_cases q3 : p3 = c23
              · skip
                obtain ⟨v149, vmx149, ⟨T149, L149, k149, n149⟩, -, X149, ⟨Lc149, hQ149, l149, y149, z149⟩, st149⟩ := Jvm.LawKit.callS X148 hx (y := (⟨"com/example/ample_search/amplesearch/analysis/TokenEqualsPinLaw", "same", "(ICCICC)Z"⟩ : MethodName)) hown (mvT hZ (hw _ (List.mem_of_getElem? (i := 52) rfl))) (mvT hZ (hw _ (List.mem_of_getElem? (i := 53) rfl))) (mvT hZ (hw _ (List.mem_of_getElem? (i := 3) rfl))) (mvT hZ (hw _ (List.mem_of_getElem? (i := 54) rfl))) (by decide) (backOf (W := 0) (rm9 l Z a0 hw [] c11 c14 c15 c21 c19 c20 h130 n0 Z137 hc11 hc21) hZ (hw _ (List.mem_of_getElem? (i := 54) rfl)) (hw _ (List.mem_of_getElem? (i := 3) rfl)) (by decide) (by decide)) (g := (mkF m 479 #[.val (.long p0), .second, .val (.long p1), .second, .val (.int p2), .val (.int p3), .val (.int p4), .val (.int p5), .val (.int c8), .val (.int c9), .val (.int c10), .val (.int c11), .val (.int c12), .val (.int c13), .val (.int c14), .val (.int c15), .val (.int c16), .val (.int c17), .val (.int c18), .val (.int c19), .val (.int c20), .val (.int c21), .val (.int c22), .val (.int c23), .val (.int c24), .val (.ref s25), .val (.ref s26), .val (.ref s27), .val (.ref s28), .val (.ref b29), .val (.ref b30), .val (.int (((p5.toUInt32 >>> ((7 : Int32) &&& 31).toUInt32).toInt32) &&& (3 : Int32))), .unset] [(.int c20), (.int c19), (.int c21), (.int c15), (.int c14), (.int c11)])) rfl (by rw [hml]; rfl) (argsL := [(.int c11), (.int c14), (.int c15), (.int c21), (.int c19), (.int c20)]) (rest := []) (lenOf own_pd4 rfl) rfl (by show 2 * 0 + _ ≤ _; exact Nat.le_of_eq rfl) (hb hby at_479) (fun _ _ => ⟨rfl, eh148, (by decide : 14 + 0 ≤ _), (by decide : 42 + 0 ≤ _)⟩)
                dsimp only [Pt.U, Pt.locs, Pt.cells, Pt.slots] at X149 l149 y149 z149 st149 hQ149
                subst l149 y149 z149
                obtain ⟨z149, rfl, hz149, Nq149, eh149⟩ := hQ149
                have N149 := Fr.app N148 Nq149
                rcases hz149 with ⟨rfl, q4⟩ | ⟨rfl, q4⟩
                · skip
                  by_cases q5 : p4 = c24
                  · skip
                    refine ⟨T149, _, _, 1, own_up X149 (by decide) (by decide), eh149, own_ext (Keep.refl h130 []), N149, Or.inl ⟨rfl, q1, q2, q3, q4, q5⟩, fun target hk => ?_⟩
                    show Steps p.tables e below (T130.setTop (mkF m 435 #[.val (.long p0), .second, .val (.long p1), .second, .val (.int p2), .val (.int p3), .val (.int p4), .val (.int p5), .val (.int c8), .val (.int c9), .val (.int c10), .val (.int c11), .val (.int c12), .val (.int c13), .val (.int c14), .val (.int c15), .val (.int c16), .val (.int c17), .val (.int c18), .val (.int c19), .val (.int c20), .val (.int c21), .val (.int c22), .val (.int c23), .val (.int c24), .val (.ref s25), .val (.ref s26), .val (.ref s27), .val (.ref s28), .val (.ref b29), .val (.ref b30), .val (.int (((p5.toUInt32 >>> ((7 : Int32) &&& 31).toUInt32).toInt32) &&& (3 : Int32))), .unset] [])) _
                    refine XS.iload X130.here hx rfl (hb hby at_435) rfl ?_
                    show Steps p.tables e below (T130.setTop (mkF m 437 #[.val (.long p0), .second, .val (.long p1), .second, .val (.int p2), .val (.int p3), .val (.int p4), .val (.int p5), .val (.int c8), .val (.int c9), .val (.int c10), .val (.int c11), .val (.int c12), .val (.int c13), .val (.int c14), .val (.int c15), .val (.int c16), .val (.int c17), .val (.int c18), .val (.int c19), .val (.int c20), .val (.int c21), .val (.int c22), .val (.int c23), .val (.int c24), .val (.ref s25), .val (.ref s26), .val (.ref s27), .val (.ref s28), .val (.ref b29), .val (.ref b30), .val (.int (((p5.toUInt32 >>> ((7 : Int32) &&& 31).toUInt32).toInt32) &&& (3 : Int32))), .unset] [(.int c10)])) _
                    refine XS.iload X130.here hx rfl (hb hby at_437) rfl ?_
                    show Steps p.tables e below (T130.setTop (mkF m 439 #[.val (.long p0), .second, .val (.long p1), .second, .val (.int p2), .val (.int p3), .val (.int p4), .val (.int p5), .val (.int c8), .val (.int c9), .val (.int c10), .val (.int c11), .val (.int c12), .val (.int c13), .val (.int c14), .val (.int c15), .val (.int c16), .val (.int c17), .val (.int c18), .val (.int c19), .val (.int c20), .val (.int c21), .val (.int c22), .val (.int c23), .val (.int c24), .val (.ref s25), .val (.ref s26), .val (.ref s27), .val (.ref s28), .val (.ref b29), .val (.ref b30), .val (.int (((p5.toUInt32 >>> ((7 : Int32) &&& 31).toUInt32).toInt32) &&& (3 : Int32))), .unset] [(.int c12), (.int c10)])) _
                    refine XS.iload X130.here hx rfl (hb hby at_439) rfl ?_
                    show Steps p.tables e below (T130.setTop (mkF m 441 #[.val (.long p0), .second, .val (.long p1), .second, .val (.int p2), .val (.int p3), .val (.int p4), .val (.int p5), .val (.int c8), .val (.int c9), .val (.int c10), .val (.int c11), .val (.int c12), .val (.int c13), .val (.int c14), .val (.int c15), .val (.int c16), .val (.int c17), .val (.int c18), .val (.int c19), .val (.int c20), .val (.int c21), .val (.int c22), .val (.int c23), .val (.int c24), .val (.ref s25), .val (.ref s26), .val (.ref s27), .val (.ref s28), .val (.ref b29), .val (.ref b30), .val (.int (((p5.toUInt32 >>> ((7 : Int32) &&& 31).toUInt32).toInt32) &&& (3 : Int32))), .unset] [(.int c13), (.int c12), (.int c10)])) _
                    refine XS.iload X130.here hx rfl (hb hby at_441) rfl ?_
                    show Steps p.tables e below (T130.setTop (mkF m 443 #[.val (.long p0), .second, .val (.long p1), .second, .val (.int p2), .val (.int p3), .val (.int p4), .val (.int p5), .val (.int c8), .val (.int c9), .val (.int c10), .val (.int c11), .val (.int c12), .val (.int c13), .val (.int c14), .val (.int c15), .val (.int c16), .val (.int c17), .val (.int c18), .val (.int c19), .val (.int c20), .val (.int c21), .val (.int c22), .val (.int c23), .val (.int c24), .val (.ref s25), .val (.ref s26), .val (.ref s27), .val (.ref s28), .val (.ref b29), .val (.ref b30), .val (.int (((p5.toUInt32 >>> ((7 : Int32) &&& 31).toUInt32).toInt32) &&& (3 : Int32))), .unset] [(.int c18), (.int c13), (.int c12), (.int c10)])) _
                    refine XS.iload X130.here hx rfl (hb hby at_443) rfl ?_
                    show Steps p.tables e below (T130.setTop (mkF m 445 #[.val (.long p0), .second, .val (.long p1), .second, .val (.int p2), .val (.int p3), .val (.int p4), .val (.int p5), .val (.int c8), .val (.int c9), .val (.int c10), .val (.int c11), .val (.int c12), .val (.int c13), .val (.int c14), .val (.int c15), .val (.int c16), .val (.int c17), .val (.int c18), .val (.int c19), .val (.int c20), .val (.int c21), .val (.int c22), .val (.int c23), .val (.int c24), .val (.ref s25), .val (.ref s26), .val (.ref s27), .val (.ref s28), .val (.ref b29), .val (.ref b30), .val (.int (((p5.toUInt32 >>> ((7 : Int32) &&& 31).toUInt32).toInt32) &&& (3 : Int32))), .unset] [(.int c16), (.int c18), (.int c13), (.int c12), (.int c10)])) _
                    refine XS.iload X130.here hx rfl (hb hby at_445) rfl ?_
                    show Steps p.tables e below (T130.setTop (mkF m 447 #[.val (.long p0), .second, .val (.long p1), .second, .val (.int p2), .val (.int p3), .val (.int p4), .val (.int p5), .val (.int c8), .val (.int c9), .val (.int c10), .val (.int c11), .val (.int c12), .val (.int c13), .val (.int c14), .val (.int c15), .val (.int c16), .val (.int c17), .val (.int c18), .val (.int c19), .val (.int c20), .val (.int c21), .val (.int c22), .val (.int c23), .val (.int c24), .val (.ref s25), .val (.ref s26), .val (.ref s27), .val (.ref s28), .val (.ref b29), .val (.ref b30), .val (.int (((p5.toUInt32 >>> ((7 : Int32) &&& 31).toUInt32).toInt32) &&& (3 : Int32))), .unset] [(.int c17), (.int c16), (.int c18), (.int c13), (.int c12), (.int c10)])) _
                    refine st148 _ ?_
                    show Steps p.tables e below (T148.setTop (mkF m 450 #[.val (.long p0), .second, .val (.long p1), .second, .val (.int p2), .val (.int p3), .val (.int p4), .val (.int p5), .val (.int c8), .val (.int c9), .val (.int c10), .val (.int c11), .val (.int c12), .val (.int c13), .val (.int c14), .val (.int c15), .val (.int c16), .val (.int c17), .val (.int c18), .val (.int c19), .val (.int c20), .val (.int c21), .val (.int c22), .val (.int c23), .val (.int c24), .val (.ref s25), .val (.ref s26), .val (.ref s27), .val (.ref s28), .val (.ref b29), .val (.ref b30), .val (.int (((p5.toUInt32 >>> ((7 : Int32) &&& 31).toUInt32).toInt32) &&& (3 : Int32))), .unset] [(.int (1 : Int32))])) _
                    refine XS.ifNo X148.here hx rfl (hb hby at_450) rfl ((if0 _ _).trans (feq (by decide)).1) ?_
                    show Steps p.tables e below (T148.setTop (mkF m 453 #[.val (.long p0), .second, .val (.long p1), .second, .val (.int p2), .val (.int p3), .val (.int p4), .val (.int p5), .val (.int c8), .val (.int c9), .val (.int c10), .val (.int c11), .val (.int c12), .val (.int c13), .val (.int c14), .val (.int c15), .val (.int c16), .val (.int c17), .val (.int c18), .val (.int c19), .val (.int c20), .val (.int c21), .val (.int c22), .val (.int c23), .val (.int c24), .val (.ref s25), .val (.ref s26), .val (.ref s27), .val (.ref s28), .val (.ref b29), .val (.ref b30), .val (.int (((p5.toUInt32 >>> ((7 : Int32) &&& 31).toUInt32).toInt32) &&& (3 : Int32))), .unset] [])) _
                    refine XS.iload X148.here hx rfl (hb hby at_453) rfl ?_
                    show Steps p.tables e below (T148.setTop (mkF m 455 #[.val (.long p0), .second, .val (.long p1), .second, .val (.int p2), .val (.int p3), .val (.int p4), .val (.int p5), .val (.int c8), .val (.int c9), .val (.int c10), .val (.int c11), .val (.int c12), .val (.int c13), .val (.int c14), .val (.int c15), .val (.int c16), .val (.int c17), .val (.int c18), .val (.int c19), .val (.int c20), .val (.int c21), .val (.int c22), .val (.int c23), .val (.int c24), .val (.ref s25), .val (.ref s26), .val (.ref s27), .val (.ref s28), .val (.ref b29), .val (.ref b30), .val (.int (((p5.toUInt32 >>> ((7 : Int32) &&& 31).toUInt32).toInt32) &&& (3 : Int32))), .unset] [(.int p2)])) _
                    refine XS.iload X148.here hx rfl (hb hby at_455) rfl ?_
                    show Steps p.tables e below (T148.setTop (mkF m 457 #[.val (.long p0), .second, .val (.long p1), .second, .val (.int p2), .val (.int p3), .val (.int p4), .val (.int p5), .val (.int c8), .val (.int c9), .val (.int c10), .val (.int c11), .val (.int c12), .val (.int c13), .val (.int c14), .val (.int c15), .val (.int c16), .val (.int c17), .val (.int c18), .val (.int c19), .val (.int c20), .val (.int c21), .val (.int c22), .val (.int c23), .val (.int c24), .val (.ref s25), .val (.ref s26), .val (.ref s27), .val (.ref s28), .val (.ref b29), .val (.ref b30), .val (.int (((p5.toUInt32 >>> ((7 : Int32) &&& 31).toUInt32).toInt32) &&& (3 : Int32))), .unset] [(.int c22), (.int p2)])) _
                    refine XS.icmpNo X148.here hx rfl (hb hby at_457) rfl (teq q2).2 ?_
                    show Steps p.tables e below (T148.setTop (mkF m 460 #[.val (.long p0), .second, .val (.long p1), .second, .val (.int p2), .val (.int p3), .val (.int p4), .val (.int p5), .val (.int c8), .val (.int c9), .val (.int c10), .val (.int c11), .val (.int c12), .val (.int c13), .val (.int c14), .val (.int c15), .val (.int c16), .val (.int c17), .val (.int c18), .val (.int c19), .val (.int c20), .val (.int c21), .val (.int c22), .val (.int c23), .val (.int c24), .val (.ref s25), .val (.ref s26), .val (.ref s27), .val (.ref s28), .val (.ref b29), .val (.ref b30), .val (.int (((p5.toUInt32 >>> ((7 : Int32) &&& 31).toUInt32).toInt32) &&& (3 : Int32))), .unset] [])) _
                    refine XS.iload X148.here hx rfl (hb hby at_460) rfl ?_
                    show Steps p.tables e below (T148.setTop (mkF m 462 #[.val (.long p0), .second, .val (.long p1), .second, .val (.int p2), .val (.int p3), .val (.int p4), .val (.int p5), .val (.int c8), .val (.int c9), .val (.int c10), .val (.int c11), .val (.int c12), .val (.int c13), .val (.int c14), .val (.int c15), .val (.int c16), .val (.int c17), .val (.int c18), .val (.int c19), .val (.int c20), .val (.int c21), .val (.int c22), .val (.int c23), .val (.int c24), .val (.ref s25), .val (.ref s26), .val (.ref s27), .val (.ref s28), .val (.ref b29), .val (.ref b30), .val (.int (((p5.toUInt32 >>> ((7 : Int32) &&& 31).toUInt32).toInt32) &&& (3 : Int32))), .unset] [(.int p3)])) _
                    refine XS.iload X148.here hx rfl (hb hby at_462) rfl ?_
                    show Steps p.tables e below (T148.setTop (mkF m 464 #[.val (.long p0), .second, .val (.long p1), .second, .val (.int p2), .val (.int p3), .val (.int p4), .val (.int p5), .val (.int c8), .val (.int c9), .val (.int c10), .val (.int c11), .val (.int c12), .val (.int c13), .val (.int c14), .val (.int c15), .val (.int c16), .val (.int c17), .val (.int c18), .val (.int c19), .val (.int c20), .val (.int c21), .val (.int c22), .val (.int c23), .val (.int c24), .val (.ref s25), .val (.ref s26), .val (.ref s27), .val (.ref s28), .val (.ref b29), .val (.ref b30), .val (.int (((p5.toUInt32 >>> ((7 : Int32) &&& 31).toUInt32).toInt32) &&& (3 : Int32))), .unset] [(.int c23), (.int p3)])) _
                    refine XS.icmpNo X148.here hx rfl (hb hby at_464) rfl (teq q3).2 ?_
                    show Steps p.tables e below (T148.setTop (mkF m 467 #[.val (.long p0), .second, .val (.long p1), .second, .val (.int p2), .val (.int p3), .val (.int p4), .val (.int p5), .val (.int c8), .val (.int c9), .val (.int c10), .val (.int c11), .val (.int c12), .val (.int c13), .val (.int c14), .val (.int c15), .val (.int c16), .val (.int c17), .val (.int c18), .val (.int c19), .val (.int c20), .val (.int c21), .val (.int c22), .val (.int c23), .val (.int c24), .val (.ref s25), .val (.ref s26), .val (.ref s27), .val (.ref s28), .val (.ref b29), .val (.ref b30), .val (.int (((p5.toUInt32 >>> ((7 : Int32) &&& 31).toUInt32).toInt32) &&& (3 : Int32))), .unset] [])) _
                    refine XS.iload X148.here hx rfl (hb hby at_467) rfl ?_
                    show Steps p.tables e below (T148.setTop (mkF m 469 #[.val (.long p0), .second, .val (.long p1), .second, .val (.int p2), .val (.int p3), .val (.int p4), .val (.int p5), .val (.int c8), .val (.int c9), .val (.int c10), .val (.int c11), .val (.int c12), .val (.int c13), .val (.int c14), .val (.int c15), .val (.int c16), .val (.int c17), .val (.int c18), .val (.int c19), .val (.int c20), .val (.int c21), .val (.int c22), .val (.int c23), .val (.int c24), .val (.ref s25), .val (.ref s26), .val (.ref s27), .val (.ref s28), .val (.ref b29), .val (.ref b30), .val (.int (((p5.toUInt32 >>> ((7 : Int32) &&& 31).toUInt32).toInt32) &&& (3 : Int32))), .unset] [(.int c11)])) _
                    refine XS.iload X148.here hx rfl (hb hby at_469) rfl ?_
                    show Steps p.tables e below (T148.setTop (mkF m 471 #[.val (.long p0), .second, .val (.long p1), .second, .val (.int p2), .val (.int p3), .val (.int p4), .val (.int p5), .val (.int c8), .val (.int c9), .val (.int c10), .val (.int c11), .val (.int c12), .val (.int c13), .val (.int c14), .val (.int c15), .val (.int c16), .val (.int c17), .val (.int c18), .val (.int c19), .val (.int c20), .val (.int c21), .val (.int c22), .val (.int c23), .val (.int c24), .val (.ref s25), .val (.ref s26), .val (.ref s27), .val (.ref s28), .val (.ref b29), .val (.ref b30), .val (.int (((p5.toUInt32 >>> ((7 : Int32) &&& 31).toUInt32).toInt32) &&& (3 : Int32))), .unset] [(.int c14), (.int c11)])) _
                    refine XS.iload X148.here hx rfl (hb hby at_471) rfl ?_
                    show Steps p.tables e below (T148.setTop (mkF m 473 #[.val (.long p0), .second, .val (.long p1), .second, .val (.int p2), .val (.int p3), .val (.int p4), .val (.int p5), .val (.int c8), .val (.int c9), .val (.int c10), .val (.int c11), .val (.int c12), .val (.int c13), .val (.int c14), .val (.int c15), .val (.int c16), .val (.int c17), .val (.int c18), .val (.int c19), .val (.int c20), .val (.int c21), .val (.int c22), .val (.int c23), .val (.int c24), .val (.ref s25), .val (.ref s26), .val (.ref s27), .val (.ref s28), .val (.ref b29), .val (.ref b30), .val (.int (((p5.toUInt32 >>> ((7 : Int32) &&& 31).toUInt32).toInt32) &&& (3 : Int32))), .unset] [(.int c15), (.int c14), (.int c11)])) _
                    refine XS.iload X148.here hx rfl (hb hby at_473) rfl ?_
                    show Steps p.tables e below (T148.setTop (mkF m 475 #[.val (.long p0), .second, .val (.long p1), .second, .val (.int p2), .val (.int p3), .val (.int p4), .val (.int p5), .val (.int c8), .val (.int c9), .val (.int c10), .val (.int c11), .val (.int c12), .val (.int c13), .val (.int c14), .val (.int c15), .val (.int c16), .val (.int c17), .val (.int c18), .val (.int c19), .val (.int c20), .val (.int c21), .val (.int c22), .val (.int c23), .val (.int c24), .val (.ref s25), .val (.ref s26), .val (.ref s27), .val (.ref s28), .val (.ref b29), .val (.ref b30), .val (.int (((p5.toUInt32 >>> ((7 : Int32) &&& 31).toUInt32).toInt32) &&& (3 : Int32))), .unset] [(.int c21), (.int c15), (.int c14), (.int c11)])) _
                    refine XS.iload X148.here hx rfl (hb hby at_475) rfl ?_
                    show Steps p.tables e below (T148.setTop (mkF m 477 #[.val (.long p0), .second, .val (.long p1), .second, .val (.int p2), .val (.int p3), .val (.int p4), .val (.int p5), .val (.int c8), .val (.int c9), .val (.int c10), .val (.int c11), .val (.int c12), .val (.int c13), .val (.int c14), .val (.int c15), .val (.int c16), .val (.int c17), .val (.int c18), .val (.int c19), .val (.int c20), .val (.int c21), .val (.int c22), .val (.int c23), .val (.int c24), .val (.ref s25), .val (.ref s26), .val (.ref s27), .val (.ref s28), .val (.ref b29), .val (.ref b30), .val (.int (((p5.toUInt32 >>> ((7 : Int32) &&& 31).toUInt32).toInt32) &&& (3 : Int32))), .unset] [(.int c19), (.int c21), (.int c15), (.int c14), (.int c11)])) _
                    refine XS.iload X148.here hx rfl (hb hby at_477) rfl ?_
                    show Steps p.tables e below (T148.setTop (mkF m 479 #[.val (.long p0), .second, .val (.long p1), .second, .val (.int p2), .val (.int p3), .val (.int p4), .val (.int p5), .val (.int c8), .val (.int c9), .val (.int c10), .val (.int c11), .val (.int c12), .val (.int c13), .val (.int c14), .val (.int c15), .val (.int c16), .val (.int c17), .val (.int c18), .val (.int c19), .val (.int c20), .val (.int c21), .val (.int c22), .val (.int c23), .val (.int c24), .val (.ref s25), .val (.ref s26), .val (.ref s27), .val (.ref s28), .val (.ref b29), .val (.ref b30), .val (.int (((p5.toUInt32 >>> ((7 : Int32) &&& 31).toUInt32).toInt32) &&& (3 : Int32))), .unset] [(.int c20), (.int c19), (.int c21), (.int c15), (.int c14), (.int c11)])) _
                    refine st149 _ ?_
                    show Steps p.tables e below (T149.setTop (mkF m 482 #[.val (.long p0), .second, .val (.long p1), .second, .val (.int p2), .val (.int p3), .val (.int p4), .val (.int p5), .val (.int c8), .val (.int c9), .val (.int c10), .val (.int c11), .val (.int c12), .val (.int c13), .val (.int c14), .val (.int c15), .val (.int c16), .val (.int c17), .val (.int c18), .val (.int c19), .val (.int c20), .val (.int c21), .val (.int c22), .val (.int c23), .val (.int c24), .val (.ref s25), .val (.ref s26), .val (.ref s27), .val (.ref s28), .val (.ref b29), .val (.ref b30), .val (.int (((p5.toUInt32 >>> ((7 : Int32) &&& 31).toUInt32).toInt32) &&& (3 : Int32))), .unset] [(.int (1 : Int32))])) _
                    refine XS.ifNo X149.here hx rfl (hb hby at_482) rfl ((if0 _ _).trans (feq (by decide)).1) ?_
                    show Steps p.tables e below (T149.setTop (mkF m 485 #[.val (.long p0), .second, .val (.long p1), .second, .val (.int p2), .val (.int p3), .val (.int p4), .val (.int p5), .val (.int c8), .val (.int c9), .val (.int c10), .val (.int c11), .val (.int c12), .val (.int c13), .val (.int c14), .val (.int c15), .val (.int c16), .val (.int c17), .val (.int c18), .val (.int c19), .val (.int c20), .val (.int c21), .val (.int c22), .val (.int c23), .val (.int c24), .val (.ref s25), .val (.ref s26), .val (.ref s27), .val (.ref s28), .val (.ref b29), .val (.ref b30), .val (.int (((p5.toUInt32 >>> ((7 : Int32) &&& 31).toUInt32).toInt32) &&& (3 : Int32))), .unset] [])) _
                    refine XS.iload X149.here hx rfl (hb hby at_485) rfl ?_
                    show Steps p.tables e below (T149.setTop (mkF m 487 #[.val (.long p0), .second, .val (.long p1), .second, .val (.int p2), .val (.int p3), .val (.int p4), .val (.int p5), .val (.int c8), .val (.int c9), .val (.int c10), .val (.int c11), .val (.int c12), .val (.int c13), .val (.int c14), .val (.int c15), .val (.int c16), .val (.int c17), .val (.int c18), .val (.int c19), .val (.int c20), .val (.int c21), .val (.int c22), .val (.int c23), .val (.int c24), .val (.ref s25), .val (.ref s26), .val (.ref s27), .val (.ref s28), .val (.ref b29), .val (.ref b30), .val (.int (((p5.toUInt32 >>> ((7 : Int32) &&& 31).toUInt32).toInt32) &&& (3 : Int32))), .unset] [(.int p4)])) _
                    refine XS.iload X149.here hx rfl (hb hby at_487) rfl ?_
                    show Steps p.tables e below (T149.setTop (mkF m 489 #[.val (.long p0), .second, .val (.long p1), .second, .val (.int p2), .val (.int p3), .val (.int p4), .val (.int p5), .val (.int c8), .val (.int c9), .val (.int c10), .val (.int c11), .val (.int c12), .val (.int c13), .val (.int c14), .val (.int c15), .val (.int c16), .val (.int c17), .val (.int c18), .val (.int c19), .val (.int c20), .val (.int c21), .val (.int c22), .val (.int c23), .val (.int c24), .val (.ref s25), .val (.ref s26), .val (.ref s27), .val (.ref s28), .val (.ref b29), .val (.ref b30), .val (.int (((p5.toUInt32 >>> ((7 : Int32) &&& 31).toUInt32).toInt32) &&& (3 : Int32))), .unset] [(.int c24), (.int p4)])) _
                    refine XS.icmpNo X149.here hx rfl (hb hby at_489) rfl (teq q5).2 ?_
                    show Steps p.tables e below (T149.setTop (mkF m 492 #[.val (.long p0), .second, .val (.long p1), .second, .val (.int p2), .val (.int p3), .val (.int p4), .val (.int p5), .val (.int c8), .val (.int c9), .val (.int c10), .val (.int c11), .val (.int c12), .val (.int c13), .val (.int c14), .val (.int c15), .val (.int c16), .val (.int c17), .val (.int c18), .val (.int c19), .val (.int c20), .val (.int c21), .val (.int c22), .val (.int c23), .val (.int c24), .val (.ref s25), .val (.ref s26), .val (.ref s27), .val (.ref s28), .val (.ref b29), .val (.ref b30), .val (.int (((p5.toUInt32 >>> ((7 : Int32) &&& 31).toUInt32).toInt32) &&& (3 : Int32))), .unset] [])) _
                    refine XS.iconst X149.here hx rfl (hb hby at_492) ?_
                    show Steps p.tables e below (T149.setTop (mkF m 493 #[.val (.long p0), .second, .val (.long p1), .second, .val (.int p2), .val (.int p3), .val (.int p4), .val (.int p5), .val (.int c8), .val (.int c9), .val (.int c10), .val (.int c11), .val (.int c12), .val (.int c13), .val (.int c14), .val (.int c15), .val (.int c16), .val (.int c17), .val (.int c18), .val (.int c19), .val (.int c20), .val (.int c21), .val (.int c22), .val (.int c23), .val (.int c24), .val (.ref s25), .val (.ref s26), .val (.ref s27), .val (.ref s28), .val (.ref b29), .val (.ref b30), .val (.int (((p5.toUInt32 >>> ((7 : Int32) &&& 31).toUInt32).toInt32) &&& (3 : Int32))), .unset] [(.int (1 : Int32))])) _
                    refine XS.goto X149.here hx rfl (pc0 := 493) (pc' := 497) rfl (hb hby at_493) (by decide) (by decide) ?_
                    exact hk
                  · skip
                    refine ⟨T149, _, _, 0, own_up X149 (by decide) (by decide), eh149, own_ext (Keep.refl h130 []), N149, Or.inr ⟨rfl, fun q => q5 q.2.2.2.2⟩, fun target hk => ?_⟩
                    show Steps p.tables e below (T130.setTop (mkF m 435 #[.val (.long p0), .second, .val (.long p1), .second, .val (.int p2), .val (.int p3), .val (.int p4), .val (.int p5), .val (.int c8), .val (.int c9), .val (.int c10), .val (.int c11), .val (.int c12), .val (.int c13), .val (.int c14), .val (.int c15), .val (.int c16), .val (.int c17), .val (.int c18), .val (.int c19), .val (.int c20), .val (.int c21), .val (.int c22), .val (.int c23), .val (.int c24), .val (.ref s25), .val (.ref s26), .val (.ref s27), .val (.ref s28), .val (.ref b29), .val (.ref b30), .val (.int (((p5.toUInt32 >>> ((7 : Int32) &&& 31).toUInt32).toInt32) &&& (3 : Int32))), .unset] [])) _
                    refine XS.iload X130.here hx rfl (hb hby at_435) rfl ?_
                    show Steps p.tables e below (T130.setTop (mkF m 437 #[.val (.long p0), .second, .val (.long p1), .second, .val (.int p2), .val (.int p3), .val (.int p4), .val (.int p5), .val (.int c8), .val (.int c9), .val (.int c10), .val (.int c11), .val (.int c12), .val (.int c13), .val (.int c14), .val (.int c15), .val (.int c16), .val (.int c17), .val (.int c18), .val (.int c19), .val (.int c20), .val (.int c21), .val (.int c22), .val (.int c23), .val (.int c24), .val (.ref s25), .val (.ref s26), .val (.ref s27), .val (.ref s28), .val (.ref b29), .val (.ref b30), .val (.int (((p5.toUInt32 >>> ((7 : Int32) &&& 31).toUInt32).toInt32) &&& (3 : Int32))), .unset] [(.int c10)])) _
                    refine XS.iload X130.here hx rfl (hb hby at_437) rfl ?_
                    show Steps p.tables e below (T130.setTop (mkF m 439 #[.val (.long p0), .second, .val (.long p1), .second, .val (.int p2), .val (.int p3), .val (.int p4), .val (.int p5), .val (.int c8), .val (.int c9), .val (.int c10), .val (.int c11), .val (.int c12), .val (.int c13), .val (.int c14), .val (.int c15), .val (.int c16), .val (.int c17), .val (.int c18), .val (.int c19), .val (.int c20), .val (.int c21), .val (.int c22), .val (.int c23), .val (.int c24), .val (.ref s25), .val (.ref s26), .val (.ref s27), .val (.ref s28), .val (.ref b29), .val (.ref b30), .val (.int (((p5.toUInt32 >>> ((7 : Int32) &&& 31).toUInt32).toInt32) &&& (3 : Int32))), .unset] [(.int c12), (.int c10)])) _
                    refine XS.iload X130.here hx rfl (hb hby at_439) rfl ?_
                    show Steps p.tables e below (T130.setTop (mkF m 441 #[.val (.long p0), .second, .val (.long p1), .second, .val (.int p2), .val (.int p3), .val (.int p4), .val (.int p5), .val (.int c8), .val (.int c9), .val (.int c10), .val (.int c11), .val (.int c12), .val (.int c13), .val (.int c14), .val (.int c15), .val (.int c16), .val (.int c17), .val (.int c18), .val (.int c19), .val (.int c20), .val (.int c21), .val (.int c22), .val (.int c23), .val (.int c24), .val (.ref s25), .val (.ref s26), .val (.ref s27), .val (.ref s28), .val (.ref b29), .val (.ref b30), .val (.int (((p5.toUInt32 >>> ((7 : Int32) &&& 31).toUInt32).toInt32) &&& (3 : Int32))), .unset] [(.int c13), (.int c12), (.int c10)])) _
                    refine XS.iload X130.here hx rfl (hb hby at_441) rfl ?_
                    show Steps p.tables e below (T130.setTop (mkF m 443 #[.val (.long p0), .second, .val (.long p1), .second, .val (.int p2), .val (.int p3), .val (.int p4), .val (.int p5), .val (.int c8), .val (.int c9), .val (.int c10), .val (.int c11), .val (.int c12), .val (.int c13), .val (.int c14), .val (.int c15), .val (.int c16), .val (.int c17), .val (.int c18), .val (.int c19), .val (.int c20), .val (.int c21), .val (.int c22), .val (.int c23), .val (.int c24), .val (.ref s25), .val (.ref s26), .val (.ref s27), .val (.ref s28), .val (.ref b29), .val (.ref b30), .val (.int (((p5.toUInt32 >>> ((7 : Int32) &&& 31).toUInt32).toInt32) &&& (3 : Int32))), .unset] [(.int c18), (.int c13), (.int c12), (.int c10)])) _
                    refine XS.iload X130.here hx rfl (hb hby at_443) rfl ?_
                    show Steps p.tables e below (T130.setTop (mkF m 445 #[.val (.long p0), .second, .val (.long p1), .second, .val (.int p2), .val (.int p3), .val (.int p4), .val (.int p5), .val (.int c8), .val (.int c9), .val (.int c10), .val (.int c11), .val (.int c12), .val (.int c13), .val (.int c14), .val (.int c15), .val (.int c16), .val (.int c17), .val (.int c18), .val (.int c19), .val (.int c20), .val (.int c21), .val (.int c22), .val (.int c23), .val (.int c24), .val (.ref s25), .val (.ref s26), .val (.ref s27), .val (.ref s28), .val (.ref b29), .val (.ref b30), .val (.int (((p5.toUInt32 >>> ((7 : Int32) &&& 31).toUInt32).toInt32) &&& (3 : Int32))), .unset] [(.int c16), (.int c18), (.int c13), (.int c12), (.int c10)])) _
                    refine XS.iload X130.here hx rfl (hb hby at_445) rfl ?_
                    show Steps p.tables e below (T130.setTop (mkF m 447 #[.val (.long p0), .second, .val (.long p1), .second, .val (.int p2), .val (.int p3), .val (.int p4), .val (.int p5), .val (.int c8), .val (.int c9), .val (.int c10), .val (.int c11), .val (.int c12), .val (.int c13), .val (.int c14), .val (.int c15), .val (.int c16), .val (.int c17), .val (.int c18), .val (.int c19), .val (.int c20), .val (.int c21), .val (.int c22), .val (.int c23), .val (.int c24), .val (.ref s25), .val (.ref s26), .val (.ref s27), .val (.ref s28), .val (.ref b29), .val (.ref b30), .val (.int (((p5.toUInt32 >>> ((7 : Int32) &&& 31).toUInt32).toInt32) &&& (3 : Int32))), .unset] [(.int c17), (.int c16), (.int c18), (.int c13), (.int c12), (.int c10)])) _
                    refine st148 _ ?_
                    show Steps p.tables e below (T148.setTop (mkF m 450 #[.val (.long p0), .second, .val (.long p1), .second, .val (.int p2), .val (.int p3), .val (.int p4), .val (.int p5), .val (.int c8), .val (.int c9), .val (.int c10), .val (.int c11), .val (.int c12), .val (.int c13), .val (.int c14), .val (.int c15), .val (.int c16), .val (.int c17), .val (.int c18), .val (.int c19), .val (.int c20), .val (.int c21), .val (.int c22), .val (.int c23), .val (.int c24), .val (.ref s25), .val (.ref s26), .val (.ref s27), .val (.ref s28), .val (.ref b29), .val (.ref b30), .val (.int (((p5.toUInt32 >>> ((7 : Int32) &&& 31).toUInt32).toInt32) &&& (3 : Int32))), .unset] [(.int (1 : Int32))])) _
                    refine XS.ifNo X148.here hx rfl (hb hby at_450) rfl ((if0 _ _).trans (feq (by decide)).1) ?_
                    show Steps p.tables e below (T148.setTop (mkF m 453 #[.val (.long p0), .second, .val (.long p1), .second, .val (.int p2), .val (.int p3), .val (.int p4), .val (.int p5), .val (.int c8), .val (.int c9), .val (.int c10), .val (.int c11), .val (.int c12), .val (.int c13), .val (.int c14), .val (.int c15), .val (.int c16), .val (.int c17), .val (.int c18), .val (.int c19), .val (.int c20), .val (.int c21), .val (.int c22), .val (.int c23), .val (.int c24), .val (.ref s25), .val (.ref s26), .val (.ref s27), .val (.ref s28), .val (.ref b29), .val (.ref b30), .val (.int (((p5.toUInt32 >>> ((7 : Int32) &&& 31).toUInt32).toInt32) &&& (3 : Int32))), .unset] [])) _
                    refine XS.iload X148.here hx rfl (hb hby at_453) rfl ?_
                    show Steps p.tables e below (T148.setTop (mkF m 455 #[.val (.long p0), .second, .val (.long p1), .second, .val (.int p2), .val (.int p3), .val (.int p4), .val (.int p5), .val (.int c8), .val (.int c9), .val (.int c10), .val (.int c11), .val (.int c12), .val (.int c13), .val (.int c14), .val (.int c15), .val (.int c16), .val (.int c17), .val (.int c18), .val (.int c19), .val (.int c20), .val (.int c21), .val (.int c22), .val (.int c23), .val (.int c24), .val (.ref s25), .val (.ref s26), .val (.ref s27), .val (.ref s28), .val (.ref b29), .val (.ref b30), .val (.int (((p5.toUInt32 >>> ((7 : Int32) &&& 31).toUInt32).toInt32) &&& (3 : Int32))), .unset] [(.int p2)])) _
                    refine XS.iload X148.here hx rfl (hb hby at_455) rfl ?_
                    show Steps p.tables e below (T148.setTop (mkF m 457 #[.val (.long p0), .second, .val (.long p1), .second, .val (.int p2), .val (.int p3), .val (.int p4), .val (.int p5), .val (.int c8), .val (.int c9), .val (.int c10), .val (.int c11), .val (.int c12), .val (.int c13), .val (.int c14), .val (.int c15), .val (.int c16), .val (.int c17), .val (.int c18), .val (.int c19), .val (.int c20), .val (.int c21), .val (.int c22), .val (.int c23), .val (.int c24), .val (.ref s25), .val (.ref s26), .val (.ref s27), .val (.ref s28), .val (.ref b29), .val (.ref b30), .val (.int (((p5.toUInt32 >>> ((7 : Int32) &&& 31).toUInt32).toInt32) &&& (3 : Int32))), .unset] [(.int c22), (.int p2)])) _
                    refine XS.icmpNo X148.here hx rfl (hb hby at_457) rfl (teq q2).2 ?_
                    show Steps p.tables e below (T148.setTop (mkF m 460 #[.val (.long p0), .second, .val (.long p1), .second, .val (.int p2), .val (.int p3), .val (.int p4), .val (.int p5), .val (.int c8), .val (.int c9), .val (.int c10), .val (.int c11), .val (.int c12), .val (.int c13), .val (.int c14), .val (.int c15), .val (.int c16), .val (.int c17), .val (.int c18), .val (.int c19), .val (.int c20), .val (.int c21), .val (.int c22), .val (.int c23), .val (.int c24), .val (.ref s25), .val (.ref s26), .val (.ref s27), .val (.ref s28), .val (.ref b29), .val (.ref b30), .val (.int (((p5.toUInt32 >>> ((7 : Int32) &&& 31).toUInt32).toInt32) &&& (3 : Int32))), .unset] [])) _
                    refine XS.iload X148.here hx rfl (hb hby at_460) rfl ?_
                    show Steps p.tables e below (T148.setTop (mkF m 462 #[.val (.long p0), .second, .val (.long p1), .second, .val (.int p2), .val (.int p3), .val (.int p4), .val (.int p5), .val (.int c8), .val (.int c9), .val (.int c10), .val (.int c11), .val (.int c12), .val (.int c13), .val (.int c14), .val (.int c15), .val (.int c16), .val (.int c17), .val (.int c18), .val (.int c19), .val (.int c20), .val (.int c21), .val (.int c22), .val (.int c23), .val (.int c24), .val (.ref s25), .val (.ref s26), .val (.ref s27), .val (.ref s28), .val (.ref b29), .val (.ref b30), .val (.int (((p5.toUInt32 >>> ((7 : Int32) &&& 31).toUInt32).toInt32) &&& (3 : Int32))), .unset] [(.int p3)])) _
                    refine XS.iload X148.here hx rfl (hb hby at_462) rfl ?_
                    show Steps p.tables e below (T148.setTop (mkF m 464 #[.val (.long p0), .second, .val (.long p1), .second, .val (.int p2), .val (.int p3), .val (.int p4), .val (.int p5), .val (.int c8), .val (.int c9), .val (.int c10), .val (.int c11), .val (.int c12), .val (.int c13), .val (.int c14), .val (.int c15), .val (.int c16), .val (.int c17), .val (.int c18), .val (.int c19), .val (.int c20), .val (.int c21), .val (.int c22), .val (.int c23), .val (.int c24), .val (.ref s25), .val (.ref s26), .val (.ref s27), .val (.ref s28), .val (.ref b29), .val (.ref b30), .val (.int (((p5.toUInt32 >>> ((7 : Int32) &&& 31).toUInt32).toInt32) &&& (3 : Int32))), .unset] [(.int c23), (.int p3)])) _
                    refine XS.icmpNo X148.here hx rfl (hb hby at_464) rfl (teq q3).2 ?_
                    show Steps p.tables e below (T148.setTop (mkF m 467 #[.val (.long p0), .second, .val (.long p1), .second, .val (.int p2), .val (.int p3), .val (.int p4), .val (.int p5), .val (.int c8), .val (.int c9), .val (.int c10), .val (.int c11), .val (.int c12), .val (.int c13), .val (.int c14), .val (.int c15), .val (.int c16), .val (.int c17), .val (.int c18), .val (.int c19), .val (.int c20), .val (.int c21), .val (.int c22), .val (.int c23), .val (.int c24), .val (.ref s25), .val (.ref s26), .val (.ref s27), .val (.ref s28), .val (.ref b29), .val (.ref b30), .val (.int (((p5.toUInt32 >>> ((7 : Int32) &&& 31).toUInt32).toInt32) &&& (3 : Int32))), .unset] [])) _
                    refine XS.iload X148.here hx rfl (hb hby at_467) rfl ?_
                    show Steps p.tables e below (T148.setTop (mkF m 469 #[.val (.long p0), .second, .val (.long p1), .second, .val (.int p2), .val (.int p3), .val (.int p4), .val (.int p5), .val (.int c8), .val (.int c9), .val (.int c10), .val (.int c11), .val (.int c12), .val (.int c13), .val (.int c14), .val (.int c15), .val (.int c16), .val (.int c17), .val (.int c18), .val (.int c19), .val (.int c20), .val (.int c21), .val (.int c22), .val (.int c23), .val (.int c24), .val (.ref s25), .val (.ref s26), .val (.ref s27), .val (.ref s28), .val (.ref b29), .val (.ref b30), .val (.int (((p5.toUInt32 >>> ((7 : Int32) &&& 31).toUInt32).toInt32) &&& (3 : Int32))), .unset] [(.int c11)])) _
                    refine XS.iload X148.here hx rfl (hb hby at_469) rfl ?_
                    show Steps p.tables e below (T148.setTop (mkF m 471 #[.val (.long p0), .second, .val (.long p1), .second, .val (.int p2), .val (.int p3), .val (.int p4), .val (.int p5), .val (.int c8), .val (.int c9), .val (.int c10), .val (.int c11), .val (.int c12), .val (.int c13), .val (.int c14), .val (.int c15), .val (.int c16), .val (.int c17), .val (.int c18), .val (.int c19), .val (.int c20), .val (.int c21), .val (.int c22), .val (.int c23), .val (.int c24), .val (.ref s25), .val (.ref s26), .val (.ref s27), .val (.ref s28), .val (.ref b29), .val (.ref b30), .val (.int (((p5.toUInt32 >>> ((7 : Int32) &&& 31).toUInt32).toInt32) &&& (3 : Int32))), .unset] [(.int c14), (.int c11)])) _
                    refine XS.iload X148.here hx rfl (hb hby at_471) rfl ?_
                    show Steps p.tables e below (T148.setTop (mkF m 473 #[.val (.long p0), .second, .val (.long p1), .second, .val (.int p2), .val (.int p3), .val (.int p4), .val (.int p5), .val (.int c8), .val (.int c9), .val (.int c10), .val (.int c11), .val (.int c12), .val (.int c13), .val (.int c14), .val (.int c15), .val (.int c16), .val (.int c17), .val (.int c18), .val (.int c19), .val (.int c20), .val (.int c21), .val (.int c22), .val (.int c23), .val (.int c24), .val (.ref s25), .val (.ref s26), .val (.ref s27), .val (.ref s28), .val (.ref b29), .val (.ref b30), .val (.int (((p5.toUInt32 >>> ((7 : Int32) &&& 31).toUInt32).toInt32) &&& (3 : Int32))), .unset] [(.int c15), (.int c14), (.int c11)])) _
                    refine XS.iload X148.here hx rfl (hb hby at_473) rfl ?_
                    show Steps p.tables e below (T148.setTop (mkF m 475 #[.val (.long p0), .second, .val (.long p1), .second, .val (.int p2), .val (.int p3), .val (.int p4), .val (.int p5), .val (.int c8), .val (.int c9), .val (.int c10), .val (.int c11), .val (.int c12), .val (.int c13), .val (.int c14), .val (.int c15), .val (.int c16), .val (.int c17), .val (.int c18), .val (.int c19), .val (.int c20), .val (.int c21), .val (.int c22), .val (.int c23), .val (.int c24), .val (.ref s25), .val (.ref s26), .val (.ref s27), .val (.ref s28), .val (.ref b29), .val (.ref b30), .val (.int (((p5.toUInt32 >>> ((7 : Int32) &&& 31).toUInt32).toInt32) &&& (3 : Int32))), .unset] [(.int c21), (.int c15), (.int c14), (.int c11)])) _
                    refine XS.iload X148.here hx rfl (hb hby at_475) rfl ?_
                    show Steps p.tables e below (T148.setTop (mkF m 477 #[.val (.long p0), .second, .val (.long p1), .second, .val (.int p2), .val (.int p3), .val (.int p4), .val (.int p5), .val (.int c8), .val (.int c9), .val (.int c10), .val (.int c11), .val (.int c12), .val (.int c13), .val (.int c14), .val (.int c15), .val (.int c16), .val (.int c17), .val (.int c18), .val (.int c19), .val (.int c20), .val (.int c21), .val (.int c22), .val (.int c23), .val (.int c24), .val (.ref s25), .val (.ref s26), .val (.ref s27), .val (.ref s28), .val (.ref b29), .val (.ref b30), .val (.int (((p5.toUInt32 >>> ((7 : Int32) &&& 31).toUInt32).toInt32) &&& (3 : Int32))), .unset] [(.int c19), (.int c21), (.int c15), (.int c14), (.int c11)])) _
                    refine XS.iload X148.here hx rfl (hb hby at_477) rfl ?_
                    show Steps p.tables e below (T148.setTop (mkF m 479 #[.val (.long p0), .second, .val (.long p1), .second, .val (.int p2), .val (.int p3), .val (.int p4), .val (.int p5), .val (.int c8), .val (.int c9), .val (.int c10), .val (.int c11), .val (.int c12), .val (.int c13), .val (.int c14), .val (.int c15), .val (.int c16), .val (.int c17), .val (.int c18), .val (.int c19), .val (.int c20), .val (.int c21), .val (.int c22), .val (.int c23), .val (.int c24), .val (.ref s25), .val (.ref s26), .val (.ref s27), .val (.ref s28), .val (.ref b29), .val (.ref b30), .val (.int (((p5.toUInt32 >>> ((7 : Int32) &&& 31).toUInt32).toInt32) &&& (3 : Int32))), .unset] [(.int c20), (.int c19), (.int c21), (.int c15), (.int c14), (.int c11)])) _
                    refine st149 _ ?_
                    show Steps p.tables e below (T149.setTop (mkF m 482 #[.val (.long p0), .second, .val (.long p1), .second, .val (.int p2), .val (.int p3), .val (.int p4), .val (.int p5), .val (.int c8), .val (.int c9), .val (.int c10), .val (.int c11), .val (.int c12), .val (.int c13), .val (.int c14), .val (.int c15), .val (.int c16), .val (.int c17), .val (.int c18), .val (.int c19), .val (.int c20), .val (.int c21), .val (.int c22), .val (.int c23), .val (.int c24), .val (.ref s25), .val (.ref s26), .val (.ref s27), .val (.ref s28), .val (.ref b29), .val (.ref b30), .val (.int (((p5.toUInt32 >>> ((7 : Int32) &&& 31).toUInt32).toInt32) &&& (3 : Int32))), .unset] [(.int (1 : Int32))])) _
                    refine XS.ifNo X149.here hx rfl (hb hby at_482) rfl ((if0 _ _).trans (feq (by decide)).1) ?_
                    show Steps p.tables e below (T149.setTop (mkF m 485 #[.val (.long p0), .second, .val (.long p1), .second, .val (.int p2), .val (.int p3), .val (.int p4), .val (.int p5), .val (.int c8), .val (.int c9), .val (.int c10), .val (.int c11), .val (.int c12), .val (.int c13), .val (.int c14), .val (.int c15), .val (.int c16), .val (.int c17), .val (.int c18), .val (.int c19), .val (.int c20), .val (.int c21), .val (.int c22), .val (.int c23), .val (.int c24), .val (.ref s25), .val (.ref s26), .val (.ref s27), .val (.ref s28), .val (.ref b29), .val (.ref b30), .val (.int (((p5.toUInt32 >>> ((7 : Int32) &&& 31).toUInt32).toInt32) &&& (3 : Int32))), .unset] [])) _
                    refine XS.iload X149.here hx rfl (hb hby at_485) rfl ?_
                    show Steps p.tables e below (T149.setTop (mkF m 487 #[.val (.long p0), .second, .val (.long p1), .second, .val (.int p2), .val (.int p3), .val (.int p4), .val (.int p5), .val (.int c8), .val (.int c9), .val (.int c10), .val (.int c11), .val (.int c12), .val (.int c13), .val (.int c14), .val (.int c15), .val (.int c16), .val (.int c17), .val (.int c18), .val (.int c19), .val (.int c20), .val (.int c21), .val (.int c22), .val (.int c23), .val (.int c24), .val (.ref s25), .val (.ref s26), .val (.ref s27), .val (.ref s28), .val (.ref b29), .val (.ref b30), .val (.int (((p5.toUInt32 >>> ((7 : Int32) &&& 31).toUInt32).toInt32) &&& (3 : Int32))), .unset] [(.int p4)])) _
                    refine XS.iload X149.here hx rfl (hb hby at_487) rfl ?_
                    show Steps p.tables e below (T149.setTop (mkF m 489 #[.val (.long p0), .second, .val (.long p1), .second, .val (.int p2), .val (.int p3), .val (.int p4), .val (.int p5), .val (.int c8), .val (.int c9), .val (.int c10), .val (.int c11), .val (.int c12), .val (.int c13), .val (.int c14), .val (.int c15), .val (.int c16), .val (.int c17), .val (.int c18), .val (.int c19), .val (.int c20), .val (.int c21), .val (.int c22), .val (.int c23), .val (.int c24), .val (.ref s25), .val (.ref s26), .val (.ref s27), .val (.ref s28), .val (.ref b29), .val (.ref b30), .val (.int (((p5.toUInt32 >>> ((7 : Int32) &&& 31).toUInt32).toInt32) &&& (3 : Int32))), .unset] [(.int c24), (.int p4)])) _
                    refine XS.icmpYes X149.here hx rfl (pc0 := 489) (pc' := 496) rfl (hb hby at_489) rfl (feq q5).2 (by decide) (by decide) ?_
                    show Steps p.tables e below (T149.setTop (mkF m 496 #[.val (.long p0), .second, .val (.long p1), .second, .val (.int p2), .val (.int p3), .val (.int p4), .val (.int p5), .val (.int c8), .val (.int c9), .val (.int c10), .val (.int c11), .val (.int c12), .val (.int c13), .val (.int c14), .val (.int c15), .val (.int c16), .val (.int c17), .val (.int c18), .val (.int c19), .val (.int c20), .val (.int c21), .val (.int c22), .val (.int c23), .val (.int c24), .val (.ref s25), .val (.ref s26), .val (.ref s27), .val (.ref s28), .val (.ref b29), .val (.ref b30), .val (.int (((p5.toUInt32 >>> ((7 : Int32) &&& 31).toUInt32).toInt32) &&& (3 : Int32))), .unset] [])) _
                    refine XS.iconst X149.here hx rfl (hb hby at_496) ?_
                    exact hk
                · skip
                  refine ⟨T149, _, _, 0, own_up X149 (by decide) (by decide), eh149, own_ext (Keep.refl h130 []), N149, Or.inr ⟨rfl, fun q => q4 q.2.2.2.1⟩, fun target hk => ?_⟩
                  show Steps p.tables e below (T130.setTop (mkF m 435 #[.val (.long p0), .second, .val (.long p1), .second, .val (.int p2), .val (.int p3), .val (.int p4), .val (.int p5), .val (.int c8), .val (.int c9), .val (.int c10), .val (.int c11), .val (.int c12), .val (.int c13), .val (.int c14), .val (.int c15), .val (.int c16), .val (.int c17), .val (.int c18), .val (.int c19), .val (.int c20), .val (.int c21), .val (.int c22), .val (.int c23), .val (.int c24), .val (.ref s25), .val (.ref s26), .val (.ref s27), .val (.ref s28), .val (.ref b29), .val (.ref b30), .val (.int (((p5.toUInt32 >>> ((7 : Int32) &&& 31).toUInt32).toInt32) &&& (3 : Int32))), .unset] [])) _
                  refine XS.iload X130.here hx rfl (hb hby at_435) rfl ?_
                  show Steps p.tables e below (T130.setTop (mkF m 437 #[.val (.long p0), .second, .val (.long p1), .second, .val (.int p2), .val (.int p3), .val (.int p4), .val (.int p5), .val (.int c8), .val (.int c9), .val (.int c10), .val (.int c11), .val (.int c12), .val (.int c13), .val (.int c14), .val (.int c15), .val (.int c16), .val (.int c17), .val (.int c18), .val (.int c19), .val (.int c20), .val (.int c21), .val (.int c22), .val (.int c23), .val (.int c24), .val (.ref s25), .val (.ref s26), .val (.ref s27), .val (.ref s28), .val (.ref b29), .val (.ref b30), .val (.int (((p5.toUInt32 >>> ((7 : Int32) &&& 31).toUInt32).toInt32) &&& (3 : Int32))), .unset] [(.int c10)])) _
                  refine XS.iload X130.here hx rfl (hb hby at_437) rfl ?_
                  show Steps p.tables e below (T130.setTop (mkF m 439 #[.val (.long p0), .second, .val (.long p1), .second, .val (.int p2), .val (.int p3), .val (.int p4), .val (.int p5), .val (.int c8), .val (.int c9), .val (.int c10), .val (.int c11), .val (.int c12), .val (.int c13), .val (.int c14), .val (.int c15), .val (.int c16), .val (.int c17), .val (.int c18), .val (.int c19), .val (.int c20), .val (.int c21), .val (.int c22), .val (.int c23), .val (.int c24), .val (.ref s25), .val (.ref s26), .val (.ref s27), .val (.ref s28), .val (.ref b29), .val (.ref b30), .val (.int (((p5.toUInt32 >>> ((7 : Int32) &&& 31).toUInt32).toInt32) &&& (3 : Int32))), .unset] [(.int c12), (.int c10)])) _
                  refine XS.iload X130.here hx rfl (hb hby at_439) rfl ?_
                  show Steps p.tables e below (T130.setTop (mkF m 441 #[.val (.long p0), .second, .val (.long p1), .second, .val (.int p2), .val (.int p3), .val (.int p4), .val (.int p5), .val (.int c8), .val (.int c9), .val (.int c10), .val (.int c11), .val (.int c12), .val (.int c13), .val (.int c14), .val (.int c15), .val (.int c16), .val (.int c17), .val (.int c18), .val (.int c19), .val (.int c20), .val (.int c21), .val (.int c22), .val (.int c23), .val (.int c24), .val (.ref s25), .val (.ref s26), .val (.ref s27), .val (.ref s28), .val (.ref b29), .val (.ref b30), .val (.int (((p5.toUInt32 >>> ((7 : Int32) &&& 31).toUInt32).toInt32) &&& (3 : Int32))), .unset] [(.int c13), (.int c12), (.int c10)])) _
                  refine XS.iload X130.here hx rfl (hb hby at_441) rfl ?_
                  show Steps p.tables e below (T130.setTop (mkF m 443 #[.val (.long p0), .second, .val (.long p1), .second, .val (.int p2), .val (.int p3), .val (.int p4), .val (.int p5), .val (.int c8), .val (.int c9), .val (.int c10), .val (.int c11), .val (.int c12), .val (.int c13), .val (.int c14), .val (.int c15), .val (.int c16), .val (.int c17), .val (.int c18), .val (.int c19), .val (.int c20), .val (.int c21), .val (.int c22), .val (.int c23), .val (.int c24), .val (.ref s25), .val (.ref s26), .val (.ref s27), .val (.ref s28), .val (.ref b29), .val (.ref b30), .val (.int (((p5.toUInt32 >>> ((7 : Int32) &&& 31).toUInt32).toInt32) &&& (3 : Int32))), .unset] [(.int c18), (.int c13), (.int c12), (.int c10)])) _
                  refine XS.iload X130.here hx rfl (hb hby at_443) rfl ?_
                  show Steps p.tables e below (T130.setTop (mkF m 445 #[.val (.long p0), .second, .val (.long p1), .second, .val (.int p2), .val (.int p3), .val (.int p4), .val (.int p5), .val (.int c8), .val (.int c9), .val (.int c10), .val (.int c11), .val (.int c12), .val (.int c13), .val (.int c14), .val (.int c15), .val (.int c16), .val (.int c17), .val (.int c18), .val (.int c19), .val (.int c20), .val (.int c21), .val (.int c22), .val (.int c23), .val (.int c24), .val (.ref s25), .val (.ref s26), .val (.ref s27), .val (.ref s28), .val (.ref b29), .val (.ref b30), .val (.int (((p5.toUInt32 >>> ((7 : Int32) &&& 31).toUInt32).toInt32) &&& (3 : Int32))), .unset] [(.int c16), (.int c18), (.int c13), (.int c12), (.int c10)])) _
                  refine XS.iload X130.here hx rfl (hb hby at_445) rfl ?_
                  show Steps p.tables e below (T130.setTop (mkF m 447 #[.val (.long p0), .second, .val (.long p1), .second, .val (.int p2), .val (.int p3), .val (.int p4), .val (.int p5), .val (.int c8), .val (.int c9), .val (.int c10), .val (.int c11), .val (.int c12), .val (.int c13), .val (.int c14), .val (.int c15), .val (.int c16), .val (.int c17), .val (.int c18), .val (.int c19), .val (.int c20), .val (.int c21), .val (.int c22), .val (.int c23), .val (.int c24), .val (.ref s25), .val (.ref s26), .val (.ref s27), .val (.ref s28), .val (.ref b29), .val (.ref b30), .val (.int (((p5.toUInt32 >>> ((7 : Int32) &&& 31).toUInt32).toInt32) &&& (3 : Int32))), .unset] [(.int c17), (.int c16), (.int c18), (.int c13), (.int c12), (.int c10)])) _
                  refine st148 _ ?_
                  show Steps p.tables e below (T148.setTop (mkF m 450 #[.val (.long p0), .second, .val (.long p1), .second, .val (.int p2), .val (.int p3), .val (.int p4), .val (.int p5), .val (.int c8), .val (.int c9), .val (.int c10), .val (.int c11), .val (.int c12), .val (.int c13), .val (.int c14), .val (.int c15), .val (.int c16), .val (.int c17), .val (.int c18), .val (.int c19), .val (.int c20), .val (.int c21), .val (.int c22), .val (.int c23), .val (.int c24), .val (.ref s25), .val (.ref s26), .val (.ref s27), .val (.ref s28), .val (.ref b29), .val (.ref b30), .val (.int (((p5.toUInt32 >>> ((7 : Int32) &&& 31).toUInt32).toInt32) &&& (3 : Int32))), .unset] [(.int (1 : Int32))])) _
                  refine XS.ifNo X148.here hx rfl (hb hby at_450) rfl ((if0 _ _).trans (feq (by decide)).1) ?_
                  show Steps p.tables e below (T148.setTop (mkF m 453 #[.val (.long p0), .second, .val (.long p1), .second, .val (.int p2), .val (.int p3), .val (.int p4), .val (.int p5), .val (.int c8), .val (.int c9), .val (.int c10), .val (.int c11), .val (.int c12), .val (.int c13), .val (.int c14), .val (.int c15), .val (.int c16), .val (.int c17), .val (.int c18), .val (.int c19), .val (.int c20), .val (.int c21), .val (.int c22), .val (.int c23), .val (.int c24), .val (.ref s25), .val (.ref s26), .val (.ref s27), .val (.ref s28), .val (.ref b29), .val (.ref b30), .val (.int (((p5.toUInt32 >>> ((7 : Int32) &&& 31).toUInt32).toInt32) &&& (3 : Int32))), .unset] [])) _
                  refine XS.iload X148.here hx rfl (hb hby at_453) rfl ?_
                  show Steps p.tables e below (T148.setTop (mkF m 455 #[.val (.long p0), .second, .val (.long p1), .second, .val (.int p2), .val (.int p3), .val (.int p4), .val (.int p5), .val (.int c8), .val (.int c9), .val (.int c10), .val (.int c11), .val (.int c12), .val (.int c13), .val (.int c14), .val (.int c15), .val (.int c16), .val (.int c17), .val (.int c18), .val (.int c19), .val (.int c20), .val (.int c21), .val (.int c22), .val (.int c23), .val (.int c24), .val (.ref s25), .val (.ref s26), .val (.ref s27), .val (.ref s28), .val (.ref b29), .val (.ref b30), .val (.int (((p5.toUInt32 >>> ((7 : Int32) &&& 31).toUInt32).toInt32) &&& (3 : Int32))), .unset] [(.int p2)])) _
                  refine XS.iload X148.here hx rfl (hb hby at_455) rfl ?_
                  show Steps p.tables e below (T148.setTop (mkF m 457 #[.val (.long p0), .second, .val (.long p1), .second, .val (.int p2), .val (.int p3), .val (.int p4), .val (.int p5), .val (.int c8), .val (.int c9), .val (.int c10), .val (.int c11), .val (.int c12), .val (.int c13), .val (.int c14), .val (.int c15), .val (.int c16), .val (.int c17), .val (.int c18), .val (.int c19), .val (.int c20), .val (.int c21), .val (.int c22), .val (.int c23), .val (.int c24), .val (.ref s25), .val (.ref s26), .val (.ref s27), .val (.ref s28), .val (.ref b29), .val (.ref b30), .val (.int (((p5.toUInt32 >>> ((7 : Int32) &&& 31).toUInt32).toInt32) &&& (3 : Int32))), .unset] [(.int c22), (.int p2)])) _
                  refine XS.icmpNo X148.here hx rfl (hb hby at_457) rfl (teq q2).2 ?_
                  show Steps p.tables e below (T148.setTop (mkF m 460 #[.val (.long p0), .second, .val (.long p1), .second, .val (.int p2), .val (.int p3), .val (.int p4), .val (.int p5), .val (.int c8), .val (.int c9), .val (.int c10), .val (.int c11), .val (.int c12), .val (.int c13), .val (.int c14), .val (.int c15), .val (.int c16), .val (.int c17), .val (.int c18), .val (.int c19), .val (.int c20), .val (.int c21), .val (.int c22), .val (.int c23), .val (.int c24), .val (.ref s25), .val (.ref s26), .val (.ref s27), .val (.ref s28), .val (.ref b29), .val (.ref b30), .val (.int (((p5.toUInt32 >>> ((7 : Int32) &&& 31).toUInt32).toInt32) &&& (3 : Int32))), .unset] [])) _
                  refine XS.iload X148.here hx rfl (hb hby at_460) rfl ?_
                  show Steps p.tables e below (T148.setTop (mkF m 462 #[.val (.long p0), .second, .val (.long p1), .second, .val (.int p2), .val (.int p3), .val (.int p4), .val (.int p5), .val (.int c8), .val (.int c9), .val (.int c10), .val (.int c11), .val (.int c12), .val (.int c13), .val (.int c14), .val (.int c15), .val (.int c16), .val (.int c17), .val (.int c18), .val (.int c19), .val (.int c20), .val (.int c21), .val (.int c22), .val (.int c23), .val (.int c24), .val (.ref s25), .val (.ref s26), .val (.ref s27), .val (.ref s28), .val (.ref b29), .val (.ref b30), .val (.int (((p5.toUInt32 >>> ((7 : Int32) &&& 31).toUInt32).toInt32) &&& (3 : Int32))), .unset] [(.int p3)])) _
                  refine XS.iload X148.here hx rfl (hb hby at_462) rfl ?_
                  show Steps p.tables e below (T148.setTop (mkF m 464 #[.val (.long p0), .second, .val (.long p1), .second, .val (.int p2), .val (.int p3), .val (.int p4), .val (.int p5), .val (.int c8), .val (.int c9), .val (.int c10), .val (.int c11), .val (.int c12), .val (.int c13), .val (.int c14), .val (.int c15), .val (.int c16), .val (.int c17), .val (.int c18), .val (.int c19), .val (.int c20), .val (.int c21), .val (.int c22), .val (.int c23), .val (.int c24), .val (.ref s25), .val (.ref s26), .val (.ref s27), .val (.ref s28), .val (.ref b29), .val (.ref b30), .val (.int (((p5.toUInt32 >>> ((7 : Int32) &&& 31).toUInt32).toInt32) &&& (3 : Int32))), .unset] [(.int c23), (.int p3)])) _
                  refine XS.icmpNo X148.here hx rfl (hb hby at_464) rfl (teq q3).2 ?_
                  show Steps p.tables e below (T148.setTop (mkF m 467 #[.val (.long p0), .second, .val (.long p1), .second, .val (.int p2), .val (.int p3), .val (.int p4), .val (.int p5), .val (.int c8), .val (.int c9), .val (.int c10), .val (.int c11), .val (.int c12), .val (.int c13), .val (.int c14), .val (.int c15), .val (.int c16), .val (.int c17), .val (.int c18), .val (.int c19), .val (.int c20), .val (.int c21), .val (.int c22), .val (.int c23), .val (.int c24), .val (.ref s25), .val (.ref s26), .val (.ref s27), .val (.ref s28), .val (.ref b29), .val (.ref b30), .val (.int (((p5.toUInt32 >>> ((7 : Int32) &&& 31).toUInt32).toInt32) &&& (3 : Int32))), .unset] [])) _
                  refine XS.iload X148.here hx rfl (hb hby at_467) rfl ?_
                  show Steps p.tables e below (T148.setTop (mkF m 469 #[.val (.long p0), .second, .val (.long p1), .second, .val (.int p2), .val (.int p3), .val (.int p4), .val (.int p5), .val (.int c8), .val (.int c9), .val (.int c10), .val (.int c11), .val (.int c12), .val (.int c13), .val (.int c14), .val (.int c15), .val (.int c16), .val (.int c17), .val (.int c18), .val (.int c19), .val (.int c20), .val (.int c21), .val (.int c22), .val (.int c23), .val (.int c24), .val (.ref s25), .val (.ref s26), .val (.ref s27), .val (.ref s28), .val (.ref b29), .val (.ref b30), .val (.int (((p5.toUInt32 >>> ((7 : Int32) &&& 31).toUInt32).toInt32) &&& (3 : Int32))), .unset] [(.int c11)])) _
                  refine XS.iload X148.here hx rfl (hb hby at_469) rfl ?_
                  show Steps p.tables e below (T148.setTop (mkF m 471 #[.val (.long p0), .second, .val (.long p1), .second, .val (.int p2), .val (.int p3), .val (.int p4), .val (.int p5), .val (.int c8), .val (.int c9), .val (.int c10), .val (.int c11), .val (.int c12), .val (.int c13), .val (.int c14), .val (.int c15), .val (.int c16), .val (.int c17), .val (.int c18), .val (.int c19), .val (.int c20), .val (.int c21), .val (.int c22), .val (.int c23), .val (.int c24), .val (.ref s25), .val (.ref s26), .val (.ref s27), .val (.ref s28), .val (.ref b29), .val (.ref b30), .val (.int (((p5.toUInt32 >>> ((7 : Int32) &&& 31).toUInt32).toInt32) &&& (3 : Int32))), .unset] [(.int c14), (.int c11)])) _
                  refine XS.iload X148.here hx rfl (hb hby at_471) rfl ?_
                  show Steps p.tables e below (T148.setTop (mkF m 473 #[.val (.long p0), .second, .val (.long p1), .second, .val (.int p2), .val (.int p3), .val (.int p4), .val (.int p5), .val (.int c8), .val (.int c9), .val (.int c10), .val (.int c11), .val (.int c12), .val (.int c13), .val (.int c14), .val (.int c15), .val (.int c16), .val (.int c17), .val (.int c18), .val (.int c19), .val (.int c20), .val (.int c21), .val (.int c22), .val (.int c23), .val (.int c24), .val (.ref s25), .val (.ref s26), .val (.ref s27), .val (.ref s28), .val (.ref b29), .val (.ref b30), .val (.int (((p5.toUInt32 >>> ((7 : Int32) &&& 31).toUInt32).toInt32) &&& (3 : Int32))), .unset] [(.int c15), (.int c14), (.int c11)])) _
                  refine XS.iload X148.here hx rfl (hb hby at_473) rfl ?_
                  show Steps p.tables e below (T148.setTop (mkF m 475 #[.val (.long p0), .second, .val (.long p1), .second, .val (.int p2), .val (.int p3), .val (.int p4), .val (.int p5), .val (.int c8), .val (.int c9), .val (.int c10), .val (.int c11), .val (.int c12), .val (.int c13), .val (.int c14), .val (.int c15), .val (.int c16), .val (.int c17), .val (.int c18), .val (.int c19), .val (.int c20), .val (.int c21), .val (.int c22), .val (.int c23), .val (.int c24), .val (.ref s25), .val (.ref s26), .val (.ref s27), .val (.ref s28), .val (.ref b29), .val (.ref b30), .val (.int (((p5.toUInt32 >>> ((7 : Int32) &&& 31).toUInt32).toInt32) &&& (3 : Int32))), .unset] [(.int c21), (.int c15), (.int c14), (.int c11)])) _
                  refine XS.iload X148.here hx rfl (hb hby at_475) rfl ?_
                  show Steps p.tables e below (T148.setTop (mkF m 477 #[.val (.long p0), .second, .val (.long p1), .second, .val (.int p2), .val (.int p3), .val (.int p4), .val (.int p5), .val (.int c8), .val (.int c9), .val (.int c10), .val (.int c11), .val (.int c12), .val (.int c13), .val (.int c14), .val (.int c15), .val (.int c16), .val (.int c17), .val (.int c18), .val (.int c19), .val (.int c20), .val (.int c21), .val (.int c22), .val (.int c23), .val (.int c24), .val (.ref s25), .val (.ref s26), .val (.ref s27), .val (.ref s28), .val (.ref b29), .val (.ref b30), .val (.int (((p5.toUInt32 >>> ((7 : Int32) &&& 31).toUInt32).toInt32) &&& (3 : Int32))), .unset] [(.int c19), (.int c21), (.int c15), (.int c14), (.int c11)])) _
                  refine XS.iload X148.here hx rfl (hb hby at_477) rfl ?_
                  show Steps p.tables e below (T148.setTop (mkF m 479 #[.val (.long p0), .second, .val (.long p1), .second, .val (.int p2), .val (.int p3), .val (.int p4), .val (.int p5), .val (.int c8), .val (.int c9), .val (.int c10), .val (.int c11), .val (.int c12), .val (.int c13), .val (.int c14), .val (.int c15), .val (.int c16), .val (.int c17), .val (.int c18), .val (.int c19), .val (.int c20), .val (.int c21), .val (.int c22), .val (.int c23), .val (.int c24), .val (.ref s25), .val (.ref s26), .val (.ref s27), .val (.ref s28), .val (.ref b29), .val (.ref b30), .val (.int (((p5.toUInt32 >>> ((7 : Int32) &&& 31).toUInt32).toInt32) &&& (3 : Int32))), .unset] [(.int c20), (.int c19), (.int c21), (.int c15), (.int c14), (.int c11)])) _
                  refine st149 _ ?_
                  show Steps p.tables e below (T149.setTop (mkF m 482 #[.val (.long p0), .second, .val (.long p1), .second, .val (.int p2), .val (.int p3), .val (.int p4), .val (.int p5), .val (.int c8), .val (.int c9), .val (.int c10), .val (.int c11), .val (.int c12), .val (.int c13), .val (.int c14), .val (.int c15), .val (.int c16), .val (.int c17), .val (.int c18), .val (.int c19), .val (.int c20), .val (.int c21), .val (.int c22), .val (.int c23), .val (.int c24), .val (.ref s25), .val (.ref s26), .val (.ref s27), .val (.ref s28), .val (.ref b29), .val (.ref b30), .val (.int (((p5.toUInt32 >>> ((7 : Int32) &&& 31).toUInt32).toInt32) &&& (3 : Int32))), .unset] [(.int (0 : Int32))])) _
                  refine XS.ifYes X149.here hx rfl (pc0 := 482) (pc' := 496) rfl (hb hby at_482) rfl ((if0 _ _).trans (teq rfl).1) (by decide) (by decide) ?_
                  show Steps p.tables e below (T149.setTop (mkF m 496 #[.val (.long p0), .second, .val (.long p1), .second, .val (.int p2), .val (.int p3), .val (.int p4), .val (.int p5), .val (.int c8), .val (.int c9), .val (.int c10), .val (.int c11), .val (.int c12), .val (.int c13), .val (.int c14), .val (.int c15), .val (.int c16), .val (.int c17), .val (.int c18), .val (.int c19), .val (.int c20), .val (.int c21), .val (.int c22), .val (.int c23), .val (.int c24), .val (.ref s25), .val (.ref s26), .val (.ref s27), .val (.ref s28), .val (.ref b29), .val (.ref b30), .val (.int (((p5.toUInt32 >>> ((7 : Int32) &&& 31).toUInt32).toInt32) &&& (3 : Int32))), .unset] [])) _
                  refine XS.iconst X149.here hx rfl (hb hby at_496) ?_
                  exact hk
              · skip
                refine ⟨T148, _, _, 0, own_up X148 (by decide) (by decide), eh148, own_ext (Keep.refl h130 []), N148, Or.inr ⟨rfl, fun q => q3 q.2.2.1⟩, fun target hk => ?_⟩
                show Steps p.tables e below (T130.setTop (mkF m 435 #[.val (.long p0), .second, .val (.long p1), .second, .val (.int p2), .val (.int p3), .val (.int p4), .val (.int p5), .val (.int c8), .val (.int c9), .val (.int c10), .val (.int c11), .val (.int c12), .val (.int c13), .val (.int c14), .val (.int c15), .val (.int c16), .val (.int c17), .val (.int c18), .val (.int c19), .val (.int c20), .val (.int c21), .val (.int c22), .val (.int c23), .val (.int c24), .val (.ref s25), .val (.ref s26), .val (.ref s27), .val (.ref s28), .val (.ref b29), .val (.ref b30), .val (.int (((p5.toUInt32 >>> ((7 : Int32) &&& 31).toUInt32).toInt32) &&& (3 : Int32))), .unset] [])) _
                refine XS.iload X130.here hx rfl (hb hby at_435) rfl ?_
                show Steps p.tables e below (T130.setTop (mkF m 437 #[.val (.long p0), .second, .val (.long p1), .second, .val (.int p2), .val (.int p3), .val (.int p4), .val (.int p5), .val (.int c8), .val (.int c9), .val (.int c10), .val (.int c11), .val (.int c12), .val (.int c13), .val (.int c14), .val (.int c15), .val (.int c16), .val (.int c17), .val (.int c18), .val (.int c19), .val (.int c20), .val (.int c21), .val (.int c22), .val (.int c23), .val (.int c24), .val (.ref s25), .val (.ref s26), .val (.ref s27), .val (.ref s28), .val (.ref b29), .val (.ref b30), .val (.int (((p5.toUInt32 >>> ((7 : Int32) &&& 31).toUInt32).toInt32) &&& (3 : Int32))), .unset] [(.int c10)])) _
                refine XS.iload X130.here hx rfl (hb hby at_437) rfl ?_
                show Steps p.tables e below (T130.setTop (mkF m 439 #[.val (.long p0), .second, .val (.long p1), .second, .val (.int p2), .val (.int p3), .val (.int p4), .val (.int p5), .val (.int c8), .val (.int c9), .val (.int c10), .val (.int c11), .val (.int c12), .val (.int c13), .val (.int c14), .val (.int c15), .val (.int c16), .val (.int c17), .val (.int c18), .val (.int c19), .val (.int c20), .val (.int c21), .val (.int c22), .val (.int c23), .val (.int c24), .val (.ref s25), .val (.ref s26), .val (.ref s27), .val (.ref s28), .val (.ref b29), .val (.ref b30), .val (.int (((p5.toUInt32 >>> ((7 : Int32) &&& 31).toUInt32).toInt32) &&& (3 : Int32))), .unset] [(.int c12), (.int c10)])) _
                refine XS.iload X130.here hx rfl (hb hby at_439) rfl ?_
                show Steps p.tables e below (T130.setTop (mkF m 441 #[.val (.long p0), .second, .val (.long p1), .second, .val (.int p2), .val (.int p3), .val (.int p4), .val (.int p5), .val (.int c8), .val (.int c9), .val (.int c10), .val (.int c11), .val (.int c12), .val (.int c13), .val (.int c14), .val (.int c15), .val (.int c16), .val (.int c17), .val (.int c18), .val (.int c19), .val (.int c20), .val (.int c21), .val (.int c22), .val (.int c23), .val (.int c24), .val (.ref s25), .val (.ref s26), .val (.ref s27), .val (.ref s28), .val (.ref b29), .val (.ref b30), .val (.int (((p5.toUInt32 >>> ((7 : Int32) &&& 31).toUInt32).toInt32) &&& (3 : Int32))), .unset] [(.int c13), (.int c12), (.int c10)])) _
                refine XS.iload X130.here hx rfl (hb hby at_441) rfl ?_
                show Steps p.tables e below (T130.setTop (mkF m 443 #[.val (.long p0), .second, .val (.long p1), .second, .val (.int p2), .val (.int p3), .val (.int p4), .val (.int p5), .val (.int c8), .val (.int c9), .val (.int c10), .val (.int c11), .val (.int c12), .val (.int c13), .val (.int c14), .val (.int c15), .val (.int c16), .val (.int c17), .val (.int c18), .val (.int c19), .val (.int c20), .val (.int c21), .val (.int c22), .val (.int c23), .val (.int c24), .val (.ref s25), .val (.ref s26), .val (.ref s27), .val (.ref s28), .val (.ref b29), .val (.ref b30), .val (.int (((p5.toUInt32 >>> ((7 : Int32) &&& 31).toUInt32).toInt32) &&& (3 : Int32))), .unset] [(.int c18), (.int c13), (.int c12), (.int c10)])) _
                refine XS.iload X130.here hx rfl (hb hby at_443) rfl ?_
                show Steps p.tables e below (T130.setTop (mkF m 445 #[.val (.long p0), .second, .val (.long p1), .second, .val (.int p2), .val (.int p3), .val (.int p4), .val (.int p5), .val (.int c8), .val (.int c9), .val (.int c10), .val (.int c11), .val (.int c12), .val (.int c13), .val (.int c14), .val (.int c15), .val (.int c16), .val (.int c17), .val (.int c18), .val (.int c19), .val (.int c20), .val (.int c21), .val (.int c22), .val (.int c23), .val (.int c24), .val (.ref s25), .val (.ref s26), .val (.ref s27), .val (.ref s28), .val (.ref b29), .val (.ref b30), .val (.int (((p5.toUInt32 >>> ((7 : Int32) &&& 31).toUInt32).toInt32) &&& (3 : Int32))), .unset] [(.int c16), (.int c18), (.int c13), (.int c12), (.int c10)])) _
                refine XS.iload X130.here hx rfl (hb hby at_445) rfl ?_
                show Steps p.tables e below (T130.setTop (mkF m 447 #[.val (.long p0), .second, .val (.long p1), .second, .val (.int p2), .val (.int p3), .val (.int p4), .val (.int p5), .val (.int c8), .val (.int c9), .val (.int c10), .val (.int c11), .val (.int c12), .val (.int c13), .val (.int c14), .val (.int c15), .val (.int c16), .val (.int c17), .val (.int c18), .val (.int c19), .val (.int c20), .val (.int c21), .val (.int c22), .val (.int c23), .val (.int c24), .val (.ref s25), .val (.ref s26), .val (.ref s27), .val (.ref s28), .val (.ref b29), .val (.ref b30), .val (.int (((p5.toUInt32 >>> ((7 : Int32) &&& 31).toUInt32).toInt32) &&& (3 : Int32))), .unset] [(.int c17), (.int c16), (.int c18), (.int c13), (.int c12), (.int c10)])) _
                refine st148 _ ?_
                show Steps p.tables e below (T148.setTop (mkF m 450 #[.val (.long p0), .second, .val (.long p1), .second, .val (.int p2), .val (.int p3), .val (.int p4), .val (.int p5), .val (.int c8), .val (.int c9), .val (.int c10), .val (.int c11), .val (.int c12), .val (.int c13), .val (.int c14), .val (.int c15), .val (.int c16), .val (.int c17), .val (.int c18), .val (.int c19), .val (.int c20), .val (.int c21), .val (.int c22), .val (.int c23), .val (.int c24), .val (.ref s25), .val (.ref s26), .val (.ref s27), .val (.ref s28), .val (.ref b29), .val (.ref b30), .val (.int (((p5.toUInt32 >>> ((7 : Int32) &&& 31).toUInt32).toInt32) &&& (3 : Int32))), .unset] [(.int (1 : Int32))])) _
                refine XS.ifNo X148.here hx rfl (hb hby at_450) rfl ((if0 _ _).trans (feq (by decide)).1) ?_
                show Steps p.tables e below (T148.setTop (mkF m 453 #[.val (.long p0), .second, .val (.long p1), .second, .val (.int p2), .val (.int p3), .val (.int p4), .val (.int p5), .val (.int c8), .val (.int c9), .val (.int c10), .val (.int c11), .val (.int c12), .val (.int c13), .val (.int c14), .val (.int c15), .val (.int c16), .val (.int c17), .val (.int c18), .val (.int c19), .val (.int c20), .val (.int c21), .val (.int c22), .val (.int c23), .val (.int c24), .val (.ref s25), .val (.ref s26), .val (.ref s27), .val (.ref s28), .val (.ref b29), .val (.ref b30), .val (.int (((p5.toUInt32 >>> ((7 : Int32) &&& 31).toUInt32).toInt32) &&& (3 : Int32))), .unset] [])) _
                refine XS.iload X148.here hx rfl (hb hby at_453) rfl ?_
                show Steps p.tables e below (T148.setTop (mkF m 455 #[.val (.long p0), .second, .val (.long p1), .second, .val (.int p2), .val (.int p3), .val (.int p4), .val (.int p5), .val (.int c8), .val (.int c9), .val (.int c10), .val (.int c11), .val (.int c12), .val (.int c13), .val (.int c14), .val (.int c15), .val (.int c16), .val (.int c17), .val (.int c18), .val (.int c19), .val (.int c20), .val (.int c21), .val (.int c22), .val (.int c23), .val (.int c24), .val (.ref s25), .val (.ref s26), .val (.ref s27), .val (.ref s28), .val (.ref b29), .val (.ref b30), .val (.int (((p5.toUInt32 >>> ((7 : Int32) &&& 31).toUInt32).toInt32) &&& (3 : Int32))), .unset] [(.int p2)])) _
                refine XS.iload X148.here hx rfl (hb hby at_455) rfl ?_
                show Steps p.tables e below (T148.setTop (mkF m 457 #[.val (.long p0), .second, .val (.long p1), .second, .val (.int p2), .val (.int p3), .val (.int p4), .val (.int p5), .val (.int c8), .val (.int c9), .val (.int c10), .val (.int c11), .val (.int c12), .val (.int c13), .val (.int c14), .val (.int c15), .val (.int c16), .val (.int c17), .val (.int c18), .val (.int c19), .val (.int c20), .val (.int c21), .val (.int c22), .val (.int c23), .val (.int c24), .val (.ref s25), .val (.ref s26), .val (.ref s27), .val (.ref s28), .val (.ref b29), .val (.ref b30), .val (.int (((p5.toUInt32 >>> ((7 : Int32) &&& 31).toUInt32).toInt32) &&& (3 : Int32))), .unset] [(.int c22), (.int p2)])) _
                refine XS.icmpNo X148.here hx rfl (hb hby at_457) rfl (teq q2).2 ?_
                show Steps p.tables e below (T148.setTop (mkF m 460 #[.val (.long p0), .second, .val (.long p1), .second, .val (.int p2), .val (.int p3), .val (.int p4), .val (.int p5), .val (.int c8), .val (.int c9), .val (.int c10), .val (.int c11), .val (.int c12), .val (.int c13), .val (.int c14), .val (.int c15), .val (.int c16), .val (.int c17), .val (.int c18), .val (.int c19), .val (.int c20), .val (.int c21), .val (.int c22), .val (.int c23), .val (.int c24), .val (.ref s25), .val (.ref s26), .val (.ref s27), .val (.ref s28), .val (.ref b29), .val (.ref b30), .val (.int (((p5.toUInt32 >>> ((7 : Int32) &&& 31).toUInt32).toInt32) &&& (3 : Int32))), .unset] [])) _
                refine XS.iload X148.here hx rfl (hb hby at_460) rfl ?_
                show Steps p.tables e below (T148.setTop (mkF m 462 #[.val (.long p0), .second, .val (.long p1), .second, .val (.int p2), .val (.int p3), .val (.int p4), .val (.int p5), .val (.int c8), .val (.int c9), .val (.int c10), .val (.int c11), .val (.int c12), .val (.int c13), .val (.int c14), .val (.int c15), .val (.int c16), .val (.int c17), .val (.int c18), .val (.int c19), .val (.int c20), .val (.int c21), .val (.int c22), .val (.int c23), .val (.int c24), .val (.ref s25), .val (.ref s26), .val (.ref s27), .val (.ref s28), .val (.ref b29), .val (.ref b30), .val (.int (((p5.toUInt32 >>> ((7 : Int32) &&& 31).toUInt32).toInt32) &&& (3 : Int32))), .unset] [(.int p3)])) _
                refine XS.iload X148.here hx rfl (hb hby at_462) rfl ?_
                show Steps p.tables e below (T148.setTop (mkF m 464 #[.val (.long p0), .second, .val (.long p1), .second, .val (.int p2), .val (.int p3), .val (.int p4), .val (.int p5), .val (.int c8), .val (.int c9), .val (.int c10), .val (.int c11), .val (.int c12), .val (.int c13), .val (.int c14), .val (.int c15), .val (.int c16), .val (.int c17), .val (.int c18), .val (.int c19), .val (.int c20), .val (.int c21), .val (.int c22), .val (.int c23), .val (.int c24), .val (.ref s25), .val (.ref s26), .val (.ref s27), .val (.ref s28), .val (.ref b29), .val (.ref b30), .val (.int (((p5.toUInt32 >>> ((7 : Int32) &&& 31).toUInt32).toInt32) &&& (3 : Int32))), .unset] [(.int c23), (.int p3)])) _
                refine XS.icmpYes X148.here hx rfl (pc0 := 464) (pc' := 496) rfl (hb hby at_464) rfl (feq q3).2 (by decide) (by decide) ?_
                show Steps p.tables e below (T148.setTop (mkF m 496 #[.val (.long p0), .second, .val (.long p1), .second, .val (.int p2), .val (.int p3), .val (.int p4), .val (.int p5), .val (.int c8), .val (.int c9), .val (.int c10), .val (.int c11), .val (.int c12), .val (.int c13), .val (.int c14), .val (.int c15), .val (.int c16), .val (.int c17), .val (.int c18), .val (.int c19), .val (.int c20), .val (.int c21), .val (.int c22), .val (.int c23), .val (.int c24), .val (.ref s25), .val (.ref s26), .val (.ref s27), .val (.ref s28), .val (.ref b29), .val (.ref b30), .val (.int (((p5.toUInt32 >>> ((7 : Int32) &&& 31).toUInt32).toInt32) &&& (3 : Int32))), .unset] [])) _
                refine XS.iconst X148.here hx rfl (hb hby at_496) ?_
                exact hk
            · skip
              refine ⟨T148, _, _, 0, own_up X148 (by decide) (by decide), eh148, own_ext (Keep.refl h130 []), N148, Or.inr ⟨rfl, fun q => q2 q.2.1⟩, fun target hk => ?_⟩
              show Steps p.tables e below (T130.setTop (mkF m 435 #[.val (.long p0), .second, .val (.long p1), .second, .val (.int p2), .val (.int p3), .val (.int p4), .val (.int p5), .val (.int c8), .val (.int c9), .val (.int c10), .val (.int c11), .val (.int c12), .val (.int c13), .val (.int c14), .val (.int c15), .val (.int c16), .val (.int c17), .val (.int c18), .val (.int c19), .val (.int c20), .val (.int c21), .val (.int c22), .val (.int c23), .val (.int c24), .val (.ref s25), .val (.ref s26), .val (.ref s27), .val (.ref s28), .val (.ref b29), .val (.ref b30), .val (.int (((p5.toUInt32 >>> ((7 : Int32) &&& 31).toUInt32).toInt32) &&& (3 : Int32))), .unset] [])) _
              refine XS.iload X130.here hx rfl (hb hby at_435) rfl ?_
              show Steps p.tables e below (T130.setTop (mkF m 437 #[.val (.long p0), .second, .val (.long p1), .second, .val (.int p2), .val (.int p3), .val (.int p4), .val (.int p5), .val (.int c8), .val (.int c9), .val (.int c10), .val (.int c11), .val (.int c12), .val (.int c13), .val (.int c14), .val (.int c15), .val (.int c16), .val (.int c17), .val (.int c18), .val (.int c19), .val (.int c20), .val (.int c21), .val (.int c22), .val (.int c23), .val (.int c24), .val (.ref s25), .val (.ref s26), .val (.ref s27), .val (.ref s28), .val (.ref b29), .val (.ref b30), .val (.int (((p5.toUInt32 >>> ((7 : Int32) &&& 31).toUInt32).toInt32) &&& (3 : Int32))), .unset] [(.int c10)])) _
              refine XS.iload X130.here hx rfl (hb hby at_437) rfl ?_
              show Steps p.tables e below (T130.setTop (mkF m 439 #[.val (.long p0), .second, .val (.long p1), .second, .val (.int p2), .val (.int p3), .val (.int p4), .val (.int p5), .val (.int c8), .val (.int c9), .val (.int c10), .val (.int c11), .val (.int c12), .val (.int c13), .val (.int c14), .val (.int c15), .val (.int c16), .val (.int c17), .val (.int c18), .val (.int c19), .val (.int c20), .val (.int c21), .val (.int c22), .val (.int c23), .val (.int c24), .val (.ref s25), .val (.ref s26), .val (.ref s27), .val (.ref s28), .val (.ref b29), .val (.ref b30), .val (.int (((p5.toUInt32 >>> ((7 : Int32) &&& 31).toUInt32).toInt32) &&& (3 : Int32))), .unset] [(.int c12), (.int c10)])) _
              refine XS.iload X130.here hx rfl (hb hby at_439) rfl ?_
              show Steps p.tables e below (T130.setTop (mkF m 441 #[.val (.long p0), .second, .val (.long p1), .second, .val (.int p2), .val (.int p3), .val (.int p4), .val (.int p5), .val (.int c8), .val (.int c9), .val (.int c10), .val (.int c11), .val (.int c12), .val (.int c13), .val (.int c14), .val (.int c15), .val (.int c16), .val (.int c17), .val (.int c18), .val (.int c19), .val (.int c20), .val (.int c21), .val (.int c22), .val (.int c23), .val (.int c24), .val (.ref s25), .val (.ref s26), .val (.ref s27), .val (.ref s28), .val (.ref b29), .val (.ref b30), .val (.int (((p5.toUInt32 >>> ((7 : Int32) &&& 31).toUInt32).toInt32) &&& (3 : Int32))), .unset] [(.int c13), (.int c12), (.int c10)])) _
              refine XS.iload X130.here hx rfl (hb hby at_441) rfl ?_
              show Steps p.tables e below (T130.setTop (mkF m 443 #[.val (.long p0), .second, .val (.long p1), .second, .val (.int p2), .val (.int p3), .val (.int p4), .val (.int p5), .val (.int c8), .val (.int c9), .val (.int c10), .val (.int c11), .val (.int c12), .val (.int c13), .val (.int c14), .val (.int c15), .val (.int c16), .val (.int c17), .val (.int c18), .val (.int c19), .val (.int c20), .val (.int c21), .val (.int c22), .val (.int c23), .val (.int c24), .val (.ref s25), .val (.ref s26), .val (.ref s27), .val (.ref s28), .val (.ref b29), .val (.ref b30), .val (.int (((p5.toUInt32 >>> ((7 : Int32) &&& 31).toUInt32).toInt32) &&& (3 : Int32))), .unset] [(.int c18), (.int c13), (.int c12), (.int c10)])) _
              refine XS.iload X130.here hx rfl (hb hby at_443) rfl ?_
              show Steps p.tables e below (T130.setTop (mkF m 445 #[.val (.long p0), .second, .val (.long p1), .second, .val (.int p2), .val (.int p3), .val (.int p4), .val (.int p5), .val (.int c8), .val (.int c9), .val (.int c10), .val (.int c11), .val (.int c12), .val (.int c13), .val (.int c14), .val (.int c15), .val (.int c16), .val (.int c17), .val (.int c18), .val (.int c19), .val (.int c20), .val (.int c21), .val (.int c22), .val (.int c23), .val (.int c24), .val (.ref s25), .val (.ref s26), .val (.ref s27), .val (.ref s28), .val (.ref b29), .val (.ref b30), .val (.int (((p5.toUInt32 >>> ((7 : Int32) &&& 31).toUInt32).toInt32) &&& (3 : Int32))), .unset] [(.int c16), (.int c18), (.int c13), (.int c12), (.int c10)])) _
              refine XS.iload X130.here hx rfl (hb hby at_445) rfl ?_
              show Steps p.tables e below (T130.setTop (mkF m 447 #[.val (.long p0), .second, .val (.long p1), .second, .val (.int p2), .val (.int p3), .val (.int p4), .val (.int p5), .val (.int c8), .val (.int c9), .val (.int c10), .val (.int c11), .val (.int c12), .val (.int c13), .val (.int c14), .val (.int c15), .val (.int c16), .val (.int c17), .val (.int c18), .val (.int c19), .val (.int c20), .val (.int c21), .val (.int c22), .val (.int c23), .val (.int c24), .val (.ref s25), .val (.ref s26), .val (.ref s27), .val (.ref s28), .val (.ref b29), .val (.ref b30), .val (.int (((p5.toUInt32 >>> ((7 : Int32) &&& 31).toUInt32).toInt32) &&& (3 : Int32))), .unset] [(.int c17), (.int c16), (.int c18), (.int c13), (.int c12), (.int c10)])) _
              refine st148 _ ?_
              show Steps p.tables e below (T148.setTop (mkF m 450 #[.val (.long p0), .second, .val (.long p1), .second, .val (.int p2), .val (.int p3), .val (.int p4), .val (.int p5), .val (.int c8), .val (.int c9), .val (.int c10), .val (.int c11), .val (.int c12), .val (.int c13), .val (.int c14), .val (.int c15), .val (.int c16), .val (.int c17), .val (.int c18), .val (.int c19), .val (.int c20), .val (.int c21), .val (.int c22), .val (.int c23), .val (.int c24), .val (.ref s25), .val (.ref s26), .val (.ref s27), .val (.ref s28), .val (.ref b29), .val (.ref b30), .val (.int (((p5.toUInt32 >>> ((7 : Int32) &&& 31).toUInt32).toInt32) &&& (3 : Int32))), .unset] [(.int (1 : Int32))])) _
              refine XS.ifNo X148.here hx rfl (hb hby at_450) rfl ((if0 _ _).trans (feq (by decide)).1) ?_
              show Steps p.tables e below (T148.setTop (mkF m 453 #[.val (.long p0), .second, .val (.long p1), .second, .val (.int p2), .val (.int p3), .val (.int p4), .val (.int p5), .val (.int c8), .val (.int c9), .val (.int c10), .val (.int c11), .val (.int c12), .val (.int c13), .val (.int c14), .val (.int c15), .val (.int c16), .val (.int c17), .val (.int c18), .val (.int c19), .val (.int c20), .val (.int c21), .val (.int c22), .val (.int c23), .val (.int c24), .val (.ref s25), .val (.ref s26), .val (.ref s27), .val (.ref s28), .val (.ref b29), .val (.ref b30), .val (.int (((p5.toUInt32 >>> ((7 : Int32) &&& 31).toUInt32).toInt32) &&& (3 : Int32))), .unset] [])) _
              refine XS.iload X148.here hx rfl (hb hby at_453) rfl ?_
              show Steps p.tables e below (T148.setTop (mkF m 455 #[.val (.long p0), .second, .val (.long p1), .second, .val (.int p2), .val (.int p3), .val (.int p4), .val (.int p5), .val (.int c8), .val (.int c9), .val (.int c10), .val (.int c11), .val (.int c12), .val (.int c13), .val (.int c14), .val (.int c15), .val (.int c16), .val (.int c17), .val (.int c18), .val (.int c19), .val (.int c20), .val (.int c21), .val (.int c22), .val (.int c23), .val (.int c24), .val (.ref s25), .val (.ref s26), .val (.ref s27), .val (.ref s28), .val (.ref b29), .val (.ref b30), .val (.int (((p5.toUInt32 >>> ((7 : Int32) &&& 31).toUInt32).toInt32) &&& (3 : Int32))), .unset] [(.int p2)])) _
              refine XS.iload X148.here hx rfl (hb hby at_455) rfl ?_
              show Steps p.tables e below (T148.setTop (mkF m 457 #[.val (.long p0), .second, .val (.long p1), .second, .val (.int p2), .val (.int p3), .val (.int p4), .val (.int p5), .val (.int c8), .val (.int c9), .val (.int c10), .val (.int c11), .val (.int c12), .val (.int c13), .val (.int c14), .val (.int c15), .val (.int c16), .val (.int c17), .val (.int c18), .val (.int c19), .val (.int c20), .val (.int c21), .val (.int c22), .val (.int c23), .val (.int c24), .val (.ref s25), .val (.ref s26), .val (.ref s27), .val (.ref s28), .val (.ref b29), .val (.ref b30), .val (.int (((p5.toUInt32 >>> ((7 : Int32) &&& 31).toUInt32).toInt32) &&& (3 : Int32))), .unset] [(.int c22), (.int p2)])) _
              refine XS.icmpYes X148.here hx rfl (pc0 := 457) (pc' := 496) rfl (hb hby at_457) rfl (feq q2).2 (by decide) (by decide) ?_
              show Steps p.tables e below (T148.setTop (mkF m 496 #[.val (.long p0), .second, .val (.long p1), .second, .val (.int p2), .val (.int p3), .val (.int p4), .val (.int p5), .val (.int c8), .val (.int c9), .val (.int c10), .val (.int c11), .val (.int c12), .val (.int c13), .val (.int c14), .val (.int c15), .val (.int c16), .val (.int c17), .val (.int c18), .val (.int c19), .val (.int c20), .val (.int c21), .val (.int c22), .val (.int c23), .val (.int c24), .val (.ref s25), .val (.ref s26), .val (.ref s27), .val (.ref s28), .val (.ref b29), .val (.ref b30), .val (.int (((p5.toUInt32 >>> ((7 : Int32) &&& 31).toUInt32).toInt32) &&& (3 : Int32))), .unset] [])) _
              refine XS.iconst X148.here hx rfl (hb hby at_496) ?_
              exact hk
          · skip
            refine ⟨T148, _, _, 0, own_up X148 (by decide) (by decide), eh148, own_ext (Keep.refl h130 []), N148, Or.inr ⟨rfl, fun q => q1 q.1⟩, fun target hk => ?_⟩
            show Steps p.tables e below (T130.setTop (mkF m 435 #[.val (.long p0), .second, .val (.long p1), .second, .val (.int p2), .val (.int p3), .val (.int p4), .val (.int p5), .val (.int c8), .val (.int c9), .val (.int c10), .val (.int c11), .val (.int c12), .val (.int c13), .val (.int c14), .val (.int c15), .val (.int c16), .val (.int c17), .val (.int c18), .val (.int c19), .val (.int c20), .val (.int c21), .val (.int c22), .val (.int c23), .val (.int c24), .val (.ref s25), .val (.ref s26), .val (.ref s27), .val (.ref s28), .val (.ref b29), .val (.ref b30), .val (.int (((p5.toUInt32 >>> ((7 : Int32) &&& 31).toUInt32).toInt32) &&& (3 : Int32))), .unset] [])) _
            refine XS.iload X130.here hx rfl (hb hby at_435) rfl ?_
            show Steps p.tables e below (T130.setTop (mkF m 437 #[.val (.long p0), .second, .val (.long p1), .second, .val (.int p2), .val (.int p3), .val (.int p4), .val (.int p5), .val (.int c8), .val (.int c9), .val (.int c10), .val (.int c11), .val (.int c12), .val (.int c13), .val (.int c14), .val (.int c15), .val (.int c16), .val (.int c17), .val (.int c18), .val (.int c19), .val (.int c20), .val (.int c21), .val (.int c22), .val (.int c23), .val (.int c24), .val (.ref s25), .val (.ref s26), .val (.ref s27), .val (.ref s28), .val (.ref b29), .val (.ref b30), .val (.int (((p5.toUInt32 >>> ((7 : Int32) &&& 31).toUInt32).toInt32) &&& (3 : Int32))), .unset] [(.int c10)])) _
            refine XS.iload X130.here hx rfl (hb hby at_437) rfl ?_
            show Steps p.tables e below (T130.setTop (mkF m 439 #[.val (.long p0), .second, .val (.long p1), .second, .val (.int p2), .val (.int p3), .val (.int p4), .val (.int p5), .val (.int c8), .val (.int c9), .val (.int c10), .val (.int c11), .val (.int c12), .val (.int c13), .val (.int c14), .val (.int c15), .val (.int c16), .val (.int c17), .val (.int c18), .val (.int c19), .val (.int c20), .val (.int c21), .val (.int c22), .val (.int c23), .val (.int c24), .val (.ref s25), .val (.ref s26), .val (.ref s27), .val (.ref s28), .val (.ref b29), .val (.ref b30), .val (.int (((p5.toUInt32 >>> ((7 : Int32) &&& 31).toUInt32).toInt32) &&& (3 : Int32))), .unset] [(.int c12), (.int c10)])) _
            refine XS.iload X130.here hx rfl (hb hby at_439) rfl ?_
            show Steps p.tables e below (T130.setTop (mkF m 441 #[.val (.long p0), .second, .val (.long p1), .second, .val (.int p2), .val (.int p3), .val (.int p4), .val (.int p5), .val (.int c8), .val (.int c9), .val (.int c10), .val (.int c11), .val (.int c12), .val (.int c13), .val (.int c14), .val (.int c15), .val (.int c16), .val (.int c17), .val (.int c18), .val (.int c19), .val (.int c20), .val (.int c21), .val (.int c22), .val (.int c23), .val (.int c24), .val (.ref s25), .val (.ref s26), .val (.ref s27), .val (.ref s28), .val (.ref b29), .val (.ref b30), .val (.int (((p5.toUInt32 >>> ((7 : Int32) &&& 31).toUInt32).toInt32) &&& (3 : Int32))), .unset] [(.int c13), (.int c12), (.int c10)])) _
            refine XS.iload X130.here hx rfl (hb hby at_441) rfl ?_
            show Steps p.tables e below (T130.setTop (mkF m 443 #[.val (.long p0), .second, .val (.long p1), .second, .val (.int p2), .val (.int p3), .val (.int p4), .val (.int p5), .val (.int c8), .val (.int c9), .val (.int c10), .val (.int c11), .val (.int c12), .val (.int c13), .val (.int c14), .val (.int c15), .val (.int c16), .val (.int c17), .val (.int c18), .val (.int c19), .val (.int c20), .val (.int c21), .val (.int c22), .val (.int c23), .val (.int c24), .val (.ref s25), .val (.ref s26), .val (.ref s27), .val (.ref s28), .val (.ref b29), .val (.ref b30), .val (.int (((p5.toUInt32 >>> ((7 : Int32) &&& 31).toUInt32).toInt32) &&& (3 : Int32))), .unset] [(.int c18), (.int c13), (.int c12), (.int c10)])) _
            refine XS.iload X130.here hx rfl (hb hby at_443) rfl ?_
            show Steps p.tables e below (T130.setTop (mkF m 445 #[.val (.long p0), .second, .val (.long p1), .second, .val (.int p2), .val (.int p3), .val (.int p4), .val (.int p5), .val (.int c8), .val (.int c9), .val (.int c10), .val (.int c11), .val (.int c12), .val (.int c13), .val (.int c14), .val (.int c15), .val (.int c16), .val (.int c17), .val (.int c18), .val (.int c19), .val (.int c20), .val (.int c21), .val (.int c22), .val (.int c23), .val (.int c24), .val (.ref s25), .val (.ref s26), .val (.ref s27), .val (.ref s28), .val (.ref b29), .val (.ref b30), .val (.int (((p5.toUInt32 >>> ((7 : Int32) &&& 31).toUInt32).toInt32) &&& (3 : Int32))), .unset] [(.int c16), (.int c18), (.int c13), (.int c12), (.int c10)])) _
            refine XS.iload X130.here hx rfl (hb hby at_445) rfl ?_
            show Steps p.tables e below (T130.setTop (mkF m 447 #[.val (.long p0), .second, .val (.long p1), .second, .val (.int p2), .val (.int p3), .val (.int p4), .val (.int p5), .val (.int c8), .val (.int c9), .val (.int c10), .val (.int c11), .val (.int c12), .val (.int c13), .val (.int c14), .val (.int c15), .val (.int c16), .val (.int c17), .val (.int c18), .val (.int c19), .val (.int c20), .val (.int c21), .val (.int c22), .val (.int c23), .val (.int c24), .val (.ref s25), .val (.ref s26), .val (.ref s27), .val (.ref s28), .val (.ref b29), .val (.ref b30), .val (.int (((p5.toUInt32 >>> ((7 : Int32) &&& 31).toUInt32).toInt32) &&& (3 : Int32))), .unset] [(.int c17), (.int c16), (.int c18), (.int c13), (.int c12), (.int c10)])) _
            refine st148 _ ?_
            show Steps p.tables e below (T148.setTop (mkF m 450 #[.val (.long p0), .second, .val (.long p1), .second, .val (.int p2), .val (.int p3), .val (.int p4), .val (.int p5), .val (.int c8), .val (.int c9), .val (.int c10), .val (.int c11), .val (.int c12), .val (.int c13), .val (.int c14), .val (.int c15), .val (.int c16), .val (.int c17), .val (.int c18), .val (.int c19), .val (.int c20), .val (.int c21), .val (.int c22), .val (.int c23), .val (.int c24), .val (.ref s25), .val (.ref s26), .val (.ref s27), .val (.ref s28), .val (.ref b29), .val (.ref b30), .val (.int (((p5.toUInt32 >>> ((7 : Int32) &&& 31).toUInt32).toInt32) &&& (3 : Int32))), .unset] [(.int (0 : Int32))])) _
            refine XS.ifYes X148.here hx rfl (pc0 := 450) (pc' := 496) rfl (hb hby at_450) rfl ((if0 _ _).trans (teq rfl).1) (by decide) (by decide) ?_
            show Steps p.tables e below (T148.setTop (mkF m 496 #[.val (.long p0), .second, .val (.long p1), .second, .val (.int p2), .val (.int p3), .val (.int p4), .val (.int p5), .val (.int c8), .val (.int c9), .val (.int c10), .val (.int c11), .val (.int c12), .val (.int c13), .val (.int c14), .val (.int c15), .val (.int c16), .val (.int c17), .val (.int c18), .val (.int c19), .val (.int c20), .val (.int c21), .val (.int c22), .val (.int c23), .val (.int c24), .val (.ref s25), .val (.ref s26), .val (.ref s27), .val (.ref s28), .val (.ref b29), .val (.ref b30), .val (.int (((p5.toUInt32 >>> ((7 : Int32) &&& 31).toUInt32).toInt32) &&& (3 : Int32))), .unset] [])) _
            refine XS.iconst X148.here hx rfl (hb hby at_496) ?_
            exact hk
        have Z150 : n0 ≤ h147.size := Nat.le_trans Z137 E147.1
        have K151 : Keep h0 h147 [] := K138.ext E147
        have f152 := (own_Str.ext E147 f140)
        have f153 := (own_Str.ext E147 f141)
        have f154 := (own_Str.ext E147 f142)
        have f155 := (own_Str.ext E147 f143)
        have f156 := (f139.ext E147)
        have G29 := Fs.ext E147 F29'
        have G30 := Fs.ext E147 F30
        have f158 := (E29.ext E147)
        obtain ⟨cq157, kq157, q157a, q157b, q157c⟩ := isOf hZ e147 f158
        obtain ⟨v157, vmx157, ⟨T157, L157, k157, n157⟩, -, X157, ⟨Lc157, hQ157, l157, y157, z157⟩, st157⟩ := X147.virtualBack hx (y := (⟨"com/example/ample_search/amplesearch/analysis/Token", "equals", "(Ljava/lang/Object;)Z"⟩ : MethodName)) (z := (⟨"com/example/ample_search/amplesearch/analysis/Token", "equals", "(Ljava/lang/Object;)Z"⟩ : MethodName)) hown (mvT hZ (hw _ (List.mem_of_getElem? (i := 55) rfl))) (mvT hZ (hw _ (List.mem_of_getElem? (i := 56) rfl))) (notFace_of_selects (args := #[]) (mvT hZ (hw _ (List.mem_of_getElem? (i := 58) rfl)))) (mvT hZ (hw _ (List.mem_of_getElem? (i := 58) rfl))) (mvT hZ (hw _ (List.mem_of_getElem? (i := 57) rfl))) (by decide) (backOf (W := 0) (rm10 l Z a0 hw [] b29 b30 s25 s26 s27 s28 (own_mkS c10 c12 c13) (own_mkS c11 c14 c15) (own_mkS c18 c16 c17) (own_mkS c21 c19 c20) p2 p3 p4 c22 c23 c24 G1 h147 n0 Z150 G29 G30 f152 f153 f154 f155 O2 P5 f156) hZ (hw _ (List.mem_of_getElem? (i := 59) rfl)) (hw _ (List.mem_of_getElem? (i := 37) rfl)) (by decide) (by decide)) q157a q157c (g := (mkF m 503 #[.val (.long p0), .second, .val (.long p1), .second, .val (.int p2), .val (.int p3), .val (.int p4), .val (.int p5), .val (.int c8), .val (.int c9), .val (.int c10), .val (.int c11), .val (.int c12), .val (.int c13), .val (.int c14), .val (.int c15), .val (.int c16), .val (.int c17), .val (.int c18), .val (.int c19), .val (.int c20), .val (.int c21), .val (.int c22), .val (.int c23), .val (.int c24), .val (.ref s25), .val (.ref s26), .val (.ref s27), .val (.ref s28), .val (.ref b29), .val (.ref b30), .val (.int (((p5.toUInt32 >>> ((7 : Int32) &&& 31).toUInt32).toInt32) &&& (3 : Int32))), .val (.int c32)] [(.ref b30), (.ref b29)])) rfl (by rw [hml]; rfl) (Steps.refl _) (argsL := [(.ref b30)]) (rest := []) (lenOf own_pd1 rfl) rfl (by show 2 * 0 + _ ≤ _; exact Nat.le_of_eq rfl) (hb hby at_503) (fun _ _ => ⟨rfl, e147, (by decide : 14 + 0 ≤ _), (by decide : 42 + 0 ≤ _)⟩)
        dsimp only [Pt.U, Pt.locs, Pt.cells, Pt.slots] at X157 l157 y157 z157 st157 hQ157
        subst l157 y157 z157
        obtain ⟨z157, rfl, hz157, Nq157, eh157⟩ := hQ157
        have N157 := Fr.app N147 Nq157
        have hq1 : z157 = c32 := by
          rcases hz157 with ⟨rfl, a⟩ | ⟨rfl, a⟩ <;> rcases hc32 with ⟨rfl, b⟩ | ⟨rfl, b⟩
          · rfl
          · exact absurd a b
          · exact absurd b a
          · rfl
        have f160 := (E30.ext E147)
        obtain ⟨cq159, kq159, q159a, q159b, q159c⟩ := isOf hZ eh157 f160
        obtain ⟨v159, vmx159, ⟨T159, L159, k159, n159⟩, -, X159, ⟨Lc159, hQ159, l159, y159, z159⟩, st159⟩ := X157.virtualBack hx (y := (⟨"com/example/ample_search/amplesearch/analysis/Token", "equals", "(Ljava/lang/Object;)Z"⟩ : MethodName)) (z := (⟨"com/example/ample_search/amplesearch/analysis/Token", "equals", "(Ljava/lang/Object;)Z"⟩ : MethodName)) hown (mvT hZ (hw _ (List.mem_of_getElem? (i := 55) rfl))) (mvT hZ (hw _ (List.mem_of_getElem? (i := 56) rfl))) (notFace_of_selects (args := #[]) (mvT hZ (hw _ (List.mem_of_getElem? (i := 58) rfl)))) (mvT hZ (hw _ (List.mem_of_getElem? (i := 58) rfl))) (mvT hZ (hw _ (List.mem_of_getElem? (i := 57) rfl))) (by decide) (backOf (W := 0) (rm10 l Z a0 hw [] b30 b29 s27 s28 s25 s26 (own_mkS c18 c16 c17) (own_mkS c21 c19 c20) (own_mkS c10 c12 c13) (own_mkS c11 c14 c15) c22 c23 c24 p2 p3 p4 G1 h147 n0 Z150 G30 G29 f154 f155 f152 f153 O2 P5 f156) hZ (hw _ (List.mem_of_getElem? (i := 59) rfl)) (hw _ (List.mem_of_getElem? (i := 37) rfl)) (by decide) (by decide)) q159a q159c (g := (mkF m 515 #[.val (.long p0), .second, .val (.long p1), .second, .val (.int p2), .val (.int p3), .val (.int p4), .val (.int p5), .val (.int c8), .val (.int c9), .val (.int c10), .val (.int c11), .val (.int c12), .val (.int c13), .val (.int c14), .val (.int c15), .val (.int c16), .val (.int c17), .val (.int c18), .val (.int c19), .val (.int c20), .val (.int c21), .val (.int c22), .val (.int c23), .val (.int c24), .val (.ref s25), .val (.ref s26), .val (.ref s27), .val (.ref s28), .val (.ref b29), .val (.ref b30), .val (.int (((p5.toUInt32 >>> ((7 : Int32) &&& 31).toUInt32).toInt32) &&& (3 : Int32))), .val (.int c32)] [(.ref b29), (.ref b30)])) rfl (by rw [hml]; rfl) (Steps.refl _) (argsL := [(.ref b29)]) (rest := []) (lenOf own_pd1 rfl) rfl (by show 2 * 0 + _ ≤ _; exact Nat.le_of_eq rfl) (hb hby at_515) (fun _ _ => ⟨rfl, eh157, (by decide : 14 + 0 ≤ _), (by decide : 42 + 0 ≤ _)⟩)
        dsimp only [Pt.U, Pt.locs, Pt.cells, Pt.slots] at X159 l159 y159 z159 st159 hQ159
        subst l159 y159 z159
        obtain ⟨z159, rfl, hz159, Nq159, eh159⟩ := hQ159
        have N159 := Fr.app N157 Nq159
        have hq2 : z159 = c32 := by
          rcases hz159 with ⟨rfl, a⟩ | ⟨rfl, a⟩ <;> rcases hc32 with ⟨rfl, b⟩ | ⟨rfl, b⟩
          · rfl
          · exact absurd ⟨a.1.symm, a.2.1.symm, a.2.2.1.symm, a.2.2.2.1.symm, a.2.2.2.2.symm⟩ b
          · exact absurd ⟨b.1.symm, b.2.1.symm, b.2.2.1.symm, b.2.2.2.1.symm, b.2.2.2.2.symm⟩ a
          · rfl
        obtain ⟨fs, hr, hrun, hended, hW, hsame⟩ := X159.leave (v := some (.int (1 : Int32))) (fun h => by rw [hret0] at h; cases h)
        refine ⟨_, _, pre0 _ ?_, hrun, hended, _, _, rfl, ?_, ⟨_, rfl⟩, hW, hsame.mono (by decide) (by decide)⟩
        · show Steps p.tables e below (s₁.setTop (mkF m 0 #[.val (.long p0), .second, .val (.long p1), .second, .val (.int p2), .val (.int p3), .val (.int p4), .val (.int p5), .unset, .unset, .unset, .unset, .unset, .unset, .unset, .unset, .unset, .unset, .unset, .unset, .unset, .unset, .unset, .unset, .unset, .unset, .unset, .unset, .unset, .unset, .unset, .unset, .unset] [])) _
          refine st89 _ ?_
          show Steps p.tables e below (s₁.setTop (mkF m 12 #[.val (.long p0), .second, .val (.long p1), .second, .val (.int p2), .val (.int p3), .val (.int p4), .val (.int p5), .unset, .unset, .unset, .unset, .unset, .unset, .unset, .unset, .unset, .unset, .unset, .unset, .unset, .unset, .unset, .unset, .unset, .unset, .unset, .unset, .unset, .unset, .unset, .unset, .unset] [(.int c8)])) _
          refine XS.istore X0.here hx rfl (hb hby at_12) rfl (l' := #[.val (.long p0), .second, .val (.long p1), .second, .val (.int p2), .val (.int p3), .val (.int p4), .val (.int p5), .val (.int c8), .unset, .unset, .unset, .unset, .unset, .unset, .unset, .unset, .unset, .unset, .unset, .unset, .unset, .unset, .unset, .unset, .unset, .unset, .unset, .unset, .unset, .unset, .unset, .unset]) rfl ?_
          show Steps p.tables e below (s₁.setTop (mkF m 14 #[.val (.long p0), .second, .val (.long p1), .second, .val (.int p2), .val (.int p3), .val (.int p4), .val (.int p5), .val (.int c8), .unset, .unset, .unset, .unset, .unset, .unset, .unset, .unset, .unset, .unset, .unset, .unset, .unset, .unset, .unset, .unset, .unset, .unset, .unset, .unset, .unset, .unset, .unset, .unset] [])) _
          refine st90 _ ?_
          show Steps p.tables e below (s₁.setTop (mkF m 27 #[.val (.long p0), .second, .val (.long p1), .second, .val (.int p2), .val (.int p3), .val (.int p4), .val (.int p5), .val (.int c8), .unset, .unset, .unset, .unset, .unset, .unset, .unset, .unset, .unset, .unset, .unset, .unset, .unset, .unset, .unset, .unset, .unset, .unset, .unset, .unset, .unset, .unset, .unset, .unset] [(.int c9)])) _
          refine XS.istore X0.here hx rfl (hb hby at_27) rfl (l' := #[.val (.long p0), .second, .val (.long p1), .second, .val (.int p2), .val (.int p3), .val (.int p4), .val (.int p5), .val (.int c8), .val (.int c9), .unset, .unset, .unset, .unset, .unset, .unset, .unset, .unset, .unset, .unset, .unset, .unset, .unset, .unset, .unset, .unset, .unset, .unset, .unset, .unset, .unset, .unset, .unset]) rfl ?_
          show Steps p.tables e below (s₁.setTop (mkF m 29 #[.val (.long p0), .second, .val (.long p1), .second, .val (.int p2), .val (.int p3), .val (.int p4), .val (.int p5), .val (.int c8), .val (.int c9), .unset, .unset, .unset, .unset, .unset, .unset, .unset, .unset, .unset, .unset, .unset, .unset, .unset, .unset, .unset, .unset, .unset, .unset, .unset, .unset, .unset, .unset, .unset] [])) _
          refine st91 _ ?_
          show Steps p.tables e below (s₁.setTop (mkF m 37 #[.val (.long p0), .second, .val (.long p1), .second, .val (.int p2), .val (.int p3), .val (.int p4), .val (.int p5), .val (.int c8), .val (.int c9), .unset, .unset, .unset, .unset, .unset, .unset, .unset, .unset, .unset, .unset, .unset, .unset, .unset, .unset, .unset, .unset, .unset, .unset, .unset, .unset, .unset, .unset, .unset] [(.int c10)])) _
          refine XS.istore X0.here hx rfl (hb hby at_37) rfl (l' := #[.val (.long p0), .second, .val (.long p1), .second, .val (.int p2), .val (.int p3), .val (.int p4), .val (.int p5), .val (.int c8), .val (.int c9), .val (.int c10), .unset, .unset, .unset, .unset, .unset, .unset, .unset, .unset, .unset, .unset, .unset, .unset, .unset, .unset, .unset, .unset, .unset, .unset, .unset, .unset, .unset, .unset]) rfl ?_
          show Steps p.tables e below (s₁.setTop (mkF m 39 #[.val (.long p0), .second, .val (.long p1), .second, .val (.int p2), .val (.int p3), .val (.int p4), .val (.int p5), .val (.int c8), .val (.int c9), .val (.int c10), .unset, .unset, .unset, .unset, .unset, .unset, .unset, .unset, .unset, .unset, .unset, .unset, .unset, .unset, .unset, .unset, .unset, .unset, .unset, .unset, .unset, .unset] [])) _
          refine st92 _ ?_
          show Steps p.tables e below (s₁.setTop (mkF m 47 #[.val (.long p0), .second, .val (.long p1), .second, .val (.int p2), .val (.int p3), .val (.int p4), .val (.int p5), .val (.int c8), .val (.int c9), .val (.int c10), .unset, .unset, .unset, .unset, .unset, .unset, .unset, .unset, .unset, .unset, .unset, .unset, .unset, .unset, .unset, .unset, .unset, .unset, .unset, .unset, .unset, .unset] [(.int c11)])) _
          refine XS.istore X0.here hx rfl (hb hby at_47) rfl (l' := #[.val (.long p0), .second, .val (.long p1), .second, .val (.int p2), .val (.int p3), .val (.int p4), .val (.int p5), .val (.int c8), .val (.int c9), .val (.int c10), .val (.int c11), .unset, .unset, .unset, .unset, .unset, .unset, .unset, .unset, .unset, .unset, .unset, .unset, .unset, .unset, .unset, .unset, .unset, .unset, .unset, .unset, .unset]) rfl ?_
          show Steps p.tables e below (s₁.setTop (mkF m 49 #[.val (.long p0), .second, .val (.long p1), .second, .val (.int p2), .val (.int p3), .val (.int p4), .val (.int p5), .val (.int c8), .val (.int c9), .val (.int c10), .val (.int c11), .unset, .unset, .unset, .unset, .unset, .unset, .unset, .unset, .unset, .unset, .unset, .unset, .unset, .unset, .unset, .unset, .unset, .unset, .unset, .unset, .unset] [])) _
          refine st93 _ ?_
          show Steps p.tables e below (s₁.setTop (mkF m 56 #[.val (.long p0), .second, .val (.long p1), .second, .val (.int p2), .val (.int p3), .val (.int p4), .val (.int p5), .val (.int c8), .val (.int c9), .val (.int c10), .val (.int c11), .unset, .unset, .unset, .unset, .unset, .unset, .unset, .unset, .unset, .unset, .unset, .unset, .unset, .unset, .unset, .unset, .unset, .unset, .unset, .unset, .unset] [(.int c12)])) _
          refine XS.istore X0.here hx rfl (hb hby at_56) rfl (l' := #[.val (.long p0), .second, .val (.long p1), .second, .val (.int p2), .val (.int p3), .val (.int p4), .val (.int p5), .val (.int c8), .val (.int c9), .val (.int c10), .val (.int c11), .val (.int c12), .unset, .unset, .unset, .unset, .unset, .unset, .unset, .unset, .unset, .unset, .unset, .unset, .unset, .unset, .unset, .unset, .unset, .unset, .unset, .unset]) rfl ?_
          show Steps p.tables e below (s₁.setTop (mkF m 58 #[.val (.long p0), .second, .val (.long p1), .second, .val (.int p2), .val (.int p3), .val (.int p4), .val (.int p5), .val (.int c8), .val (.int c9), .val (.int c10), .val (.int c11), .val (.int c12), .unset, .unset, .unset, .unset, .unset, .unset, .unset, .unset, .unset, .unset, .unset, .unset, .unset, .unset, .unset, .unset, .unset, .unset, .unset, .unset] [])) _
          refine st94 _ ?_
          show Steps p.tables e below (s₁.setTop (mkF m 68 #[.val (.long p0), .second, .val (.long p1), .second, .val (.int p2), .val (.int p3), .val (.int p4), .val (.int p5), .val (.int c8), .val (.int c9), .val (.int c10), .val (.int c11), .val (.int c12), .unset, .unset, .unset, .unset, .unset, .unset, .unset, .unset, .unset, .unset, .unset, .unset, .unset, .unset, .unset, .unset, .unset, .unset, .unset, .unset] [(.int c13)])) _
          refine XS.istore X0.here hx rfl (hb hby at_68) rfl (l' := #[.val (.long p0), .second, .val (.long p1), .second, .val (.int p2), .val (.int p3), .val (.int p4), .val (.int p5), .val (.int c8), .val (.int c9), .val (.int c10), .val (.int c11), .val (.int c12), .val (.int c13), .unset, .unset, .unset, .unset, .unset, .unset, .unset, .unset, .unset, .unset, .unset, .unset, .unset, .unset, .unset, .unset, .unset, .unset, .unset]) rfl ?_
          show Steps p.tables e below (s₁.setTop (mkF m 70 #[.val (.long p0), .second, .val (.long p1), .second, .val (.int p2), .val (.int p3), .val (.int p4), .val (.int p5), .val (.int c8), .val (.int c9), .val (.int c10), .val (.int c11), .val (.int c12), .val (.int c13), .unset, .unset, .unset, .unset, .unset, .unset, .unset, .unset, .unset, .unset, .unset, .unset, .unset, .unset, .unset, .unset, .unset, .unset, .unset] [])) _
          refine st95 _ ?_
          show Steps p.tables e below (s₁.setTop (mkF m 80 #[.val (.long p0), .second, .val (.long p1), .second, .val (.int p2), .val (.int p3), .val (.int p4), .val (.int p5), .val (.int c8), .val (.int c9), .val (.int c10), .val (.int c11), .val (.int c12), .val (.int c13), .unset, .unset, .unset, .unset, .unset, .unset, .unset, .unset, .unset, .unset, .unset, .unset, .unset, .unset, .unset, .unset, .unset, .unset, .unset] [(.int c14)])) _
          refine XS.istore X0.here hx rfl (hb hby at_80) rfl (l' := #[.val (.long p0), .second, .val (.long p1), .second, .val (.int p2), .val (.int p3), .val (.int p4), .val (.int p5), .val (.int c8), .val (.int c9), .val (.int c10), .val (.int c11), .val (.int c12), .val (.int c13), .val (.int c14), .unset, .unset, .unset, .unset, .unset, .unset, .unset, .unset, .unset, .unset, .unset, .unset, .unset, .unset, .unset, .unset, .unset, .unset]) rfl ?_
          show Steps p.tables e below (s₁.setTop (mkF m 82 #[.val (.long p0), .second, .val (.long p1), .second, .val (.int p2), .val (.int p3), .val (.int p4), .val (.int p5), .val (.int c8), .val (.int c9), .val (.int c10), .val (.int c11), .val (.int c12), .val (.int c13), .val (.int c14), .unset, .unset, .unset, .unset, .unset, .unset, .unset, .unset, .unset, .unset, .unset, .unset, .unset, .unset, .unset, .unset, .unset, .unset] [])) _
          refine st96 _ ?_
          show Steps p.tables e below (s₁.setTop (mkF m 92 #[.val (.long p0), .second, .val (.long p1), .second, .val (.int p2), .val (.int p3), .val (.int p4), .val (.int p5), .val (.int c8), .val (.int c9), .val (.int c10), .val (.int c11), .val (.int c12), .val (.int c13), .val (.int c14), .unset, .unset, .unset, .unset, .unset, .unset, .unset, .unset, .unset, .unset, .unset, .unset, .unset, .unset, .unset, .unset, .unset, .unset] [(.int c15)])) _
          refine XS.istore X0.here hx rfl (hb hby at_92) rfl (l' := #[.val (.long p0), .second, .val (.long p1), .second, .val (.int p2), .val (.int p3), .val (.int p4), .val (.int p5), .val (.int c8), .val (.int c9), .val (.int c10), .val (.int c11), .val (.int c12), .val (.int c13), .val (.int c14), .val (.int c15), .unset, .unset, .unset, .unset, .unset, .unset, .unset, .unset, .unset, .unset, .unset, .unset, .unset, .unset, .unset, .unset, .unset]) rfl ?_
          show Steps p.tables e below (s₁.setTop (mkF m 94 #[.val (.long p0), .second, .val (.long p1), .second, .val (.int p2), .val (.int p3), .val (.int p4), .val (.int p5), .val (.int c8), .val (.int c9), .val (.int c10), .val (.int c11), .val (.int c12), .val (.int c13), .val (.int c14), .val (.int c15), .unset, .unset, .unset, .unset, .unset, .unset, .unset, .unset, .unset, .unset, .unset, .unset, .unset, .unset, .unset, .unset, .unset] [])) _
          refine st97 _ ?_
          show Steps p.tables e below (s₁.setTop (mkF m 111 #[.val (.long p0), .second, .val (.long p1), .second, .val (.int p2), .val (.int p3), .val (.int p4), .val (.int p5), .val (.int c8), .val (.int c9), .val (.int c10), .val (.int c11), .val (.int c12), .val (.int c13), .val (.int c14), .val (.int c15), .unset, .unset, .unset, .unset, .unset, .unset, .unset, .unset, .unset, .unset, .unset, .unset, .unset, .unset, .unset, .unset, .unset] [(.int c16)])) _
          refine XS.istore X0.here hx rfl (hb hby at_111) rfl (l' := #[.val (.long p0), .second, .val (.long p1), .second, .val (.int p2), .val (.int p3), .val (.int p4), .val (.int p5), .val (.int c8), .val (.int c9), .val (.int c10), .val (.int c11), .val (.int c12), .val (.int c13), .val (.int c14), .val (.int c15), .val (.int c16), .unset, .unset, .unset, .unset, .unset, .unset, .unset, .unset, .unset, .unset, .unset, .unset, .unset, .unset, .unset, .unset]) rfl ?_
          show Steps p.tables e below (s₁.setTop (mkF m 113 #[.val (.long p0), .second, .val (.long p1), .second, .val (.int p2), .val (.int p3), .val (.int p4), .val (.int p5), .val (.int c8), .val (.int c9), .val (.int c10), .val (.int c11), .val (.int c12), .val (.int c13), .val (.int c14), .val (.int c15), .val (.int c16), .unset, .unset, .unset, .unset, .unset, .unset, .unset, .unset, .unset, .unset, .unset, .unset, .unset, .unset, .unset, .unset] [])) _
          refine st98 _ ?_
          show Steps p.tables e below (s₁.setTop (mkF m 133 #[.val (.long p0), .second, .val (.long p1), .second, .val (.int p2), .val (.int p3), .val (.int p4), .val (.int p5), .val (.int c8), .val (.int c9), .val (.int c10), .val (.int c11), .val (.int c12), .val (.int c13), .val (.int c14), .val (.int c15), .val (.int c16), .unset, .unset, .unset, .unset, .unset, .unset, .unset, .unset, .unset, .unset, .unset, .unset, .unset, .unset, .unset, .unset] [(.int c17)])) _
          refine XS.istore X0.here hx rfl (hb hby at_133) rfl (l' := #[.val (.long p0), .second, .val (.long p1), .second, .val (.int p2), .val (.int p3), .val (.int p4), .val (.int p5), .val (.int c8), .val (.int c9), .val (.int c10), .val (.int c11), .val (.int c12), .val (.int c13), .val (.int c14), .val (.int c15), .val (.int c16), .val (.int c17), .unset, .unset, .unset, .unset, .unset, .unset, .unset, .unset, .unset, .unset, .unset, .unset, .unset, .unset, .unset]) rfl ?_
          show Steps p.tables e below (s₁.setTop (mkF m 135 #[.val (.long p0), .second, .val (.long p1), .second, .val (.int p2), .val (.int p3), .val (.int p4), .val (.int p5), .val (.int c8), .val (.int c9), .val (.int c10), .val (.int c11), .val (.int c12), .val (.int c13), .val (.int c14), .val (.int c15), .val (.int c16), .val (.int c17), .unset, .unset, .unset, .unset, .unset, .unset, .unset, .unset, .unset, .unset, .unset, .unset, .unset, .unset, .unset] [])) _
          refine st99 _ ?_
          show Steps p.tables e below (s₁.setTop (mkF m 154 #[.val (.long p0), .second, .val (.long p1), .second, .val (.int p2), .val (.int p3), .val (.int p4), .val (.int p5), .val (.int c8), .val (.int c9), .val (.int c10), .val (.int c11), .val (.int c12), .val (.int c13), .val (.int c14), .val (.int c15), .val (.int c16), .val (.int c17), .unset, .unset, .unset, .unset, .unset, .unset, .unset, .unset, .unset, .unset, .unset, .unset, .unset, .unset, .unset] [(.int c18)])) _
          refine XS.istore X0.here hx rfl (hb hby at_154) rfl (l' := #[.val (.long p0), .second, .val (.long p1), .second, .val (.int p2), .val (.int p3), .val (.int p4), .val (.int p5), .val (.int c8), .val (.int c9), .val (.int c10), .val (.int c11), .val (.int c12), .val (.int c13), .val (.int c14), .val (.int c15), .val (.int c16), .val (.int c17), .val (.int c18), .unset, .unset, .unset, .unset, .unset, .unset, .unset, .unset, .unset, .unset, .unset, .unset, .unset, .unset]) rfl ?_
          show Steps p.tables e below (s₁.setTop (mkF m 156 #[.val (.long p0), .second, .val (.long p1), .second, .val (.int p2), .val (.int p3), .val (.int p4), .val (.int p5), .val (.int c8), .val (.int c9), .val (.int c10), .val (.int c11), .val (.int c12), .val (.int c13), .val (.int c14), .val (.int c15), .val (.int c16), .val (.int c17), .val (.int c18), .unset, .unset, .unset, .unset, .unset, .unset, .unset, .unset, .unset, .unset, .unset, .unset, .unset, .unset] [])) _
          refine st100 _ ?_
          show Steps p.tables e below (s₁.setTop (mkF m 176 #[.val (.long p0), .second, .val (.long p1), .second, .val (.int p2), .val (.int p3), .val (.int p4), .val (.int p5), .val (.int c8), .val (.int c9), .val (.int c10), .val (.int c11), .val (.int c12), .val (.int c13), .val (.int c14), .val (.int c15), .val (.int c16), .val (.int c17), .val (.int c18), .unset, .unset, .unset, .unset, .unset, .unset, .unset, .unset, .unset, .unset, .unset, .unset, .unset, .unset] [(.int c19)])) _
          refine XS.istore X0.here hx rfl (hb hby at_176) rfl (l' := #[.val (.long p0), .second, .val (.long p1), .second, .val (.int p2), .val (.int p3), .val (.int p4), .val (.int p5), .val (.int c8), .val (.int c9), .val (.int c10), .val (.int c11), .val (.int c12), .val (.int c13), .val (.int c14), .val (.int c15), .val (.int c16), .val (.int c17), .val (.int c18), .val (.int c19), .unset, .unset, .unset, .unset, .unset, .unset, .unset, .unset, .unset, .unset, .unset, .unset, .unset]) rfl ?_
          show Steps p.tables e below (s₁.setTop (mkF m 178 #[.val (.long p0), .second, .val (.long p1), .second, .val (.int p2), .val (.int p3), .val (.int p4), .val (.int p5), .val (.int c8), .val (.int c9), .val (.int c10), .val (.int c11), .val (.int c12), .val (.int c13), .val (.int c14), .val (.int c15), .val (.int c16), .val (.int c17), .val (.int c18), .val (.int c19), .unset, .unset, .unset, .unset, .unset, .unset, .unset, .unset, .unset, .unset, .unset, .unset, .unset] [])) _
          refine st101 _ ?_
          show Steps p.tables e below (s₁.setTop (mkF m 198 #[.val (.long p0), .second, .val (.long p1), .second, .val (.int p2), .val (.int p3), .val (.int p4), .val (.int p5), .val (.int c8), .val (.int c9), .val (.int c10), .val (.int c11), .val (.int c12), .val (.int c13), .val (.int c14), .val (.int c15), .val (.int c16), .val (.int c17), .val (.int c18), .val (.int c19), .unset, .unset, .unset, .unset, .unset, .unset, .unset, .unset, .unset, .unset, .unset, .unset, .unset] [(.int c20)])) _
          refine XS.istore X0.here hx rfl (hb hby at_198) rfl (l' := #[.val (.long p0), .second, .val (.long p1), .second, .val (.int p2), .val (.int p3), .val (.int p4), .val (.int p5), .val (.int c8), .val (.int c9), .val (.int c10), .val (.int c11), .val (.int c12), .val (.int c13), .val (.int c14), .val (.int c15), .val (.int c16), .val (.int c17), .val (.int c18), .val (.int c19), .val (.int c20), .unset, .unset, .unset, .unset, .unset, .unset, .unset, .unset, .unset, .unset, .unset, .unset]) rfl ?_
          show Steps p.tables e below (s₁.setTop (mkF m 200 #[.val (.long p0), .second, .val (.long p1), .second, .val (.int p2), .val (.int p3), .val (.int p4), .val (.int p5), .val (.int c8), .val (.int c9), .val (.int c10), .val (.int c11), .val (.int c12), .val (.int c13), .val (.int c14), .val (.int c15), .val (.int c16), .val (.int c17), .val (.int c18), .val (.int c19), .val (.int c20), .unset, .unset, .unset, .unset, .unset, .unset, .unset, .unset, .unset, .unset, .unset, .unset] [])) _
          refine st102 _ ?_
          show Steps p.tables e below (s₁.setTop (mkF m 219 #[.val (.long p0), .second, .val (.long p1), .second, .val (.int p2), .val (.int p3), .val (.int p4), .val (.int p5), .val (.int c8), .val (.int c9), .val (.int c10), .val (.int c11), .val (.int c12), .val (.int c13), .val (.int c14), .val (.int c15), .val (.int c16), .val (.int c17), .val (.int c18), .val (.int c19), .val (.int c20), .unset, .unset, .unset, .unset, .unset, .unset, .unset, .unset, .unset, .unset, .unset, .unset] [(.int c21)])) _
          refine XS.istore X0.here hx rfl (hb hby at_219) rfl (l' := #[.val (.long p0), .second, .val (.long p1), .second, .val (.int p2), .val (.int p3), .val (.int p4), .val (.int p5), .val (.int c8), .val (.int c9), .val (.int c10), .val (.int c11), .val (.int c12), .val (.int c13), .val (.int c14), .val (.int c15), .val (.int c16), .val (.int c17), .val (.int c18), .val (.int c19), .val (.int c20), .val (.int c21), .unset, .unset, .unset, .unset, .unset, .unset, .unset, .unset, .unset, .unset, .unset]) rfl ?_
          show Steps p.tables e below (s₁.setTop (mkF m 221 #[.val (.long p0), .second, .val (.long p1), .second, .val (.int p2), .val (.int p3), .val (.int p4), .val (.int p5), .val (.int c8), .val (.int c9), .val (.int c10), .val (.int c11), .val (.int c12), .val (.int c13), .val (.int c14), .val (.int c15), .val (.int c16), .val (.int c17), .val (.int c18), .val (.int c19), .val (.int c20), .val (.int c21), .unset, .unset, .unset, .unset, .unset, .unset, .unset, .unset, .unset, .unset, .unset] [])) _
          refine st103 _ ?_
          show Steps p.tables e below (s₁.setTop (mkF m 239 #[.val (.long p0), .second, .val (.long p1), .second, .val (.int p2), .val (.int p3), .val (.int p4), .val (.int p5), .val (.int c8), .val (.int c9), .val (.int c10), .val (.int c11), .val (.int c12), .val (.int c13), .val (.int c14), .val (.int c15), .val (.int c16), .val (.int c17), .val (.int c18), .val (.int c19), .val (.int c20), .val (.int c21), .unset, .unset, .unset, .unset, .unset, .unset, .unset, .unset, .unset, .unset, .unset] [(.int c22)])) _
          refine XS.istore X0.here hx rfl (hb hby at_239) rfl (l' := #[.val (.long p0), .second, .val (.long p1), .second, .val (.int p2), .val (.int p3), .val (.int p4), .val (.int p5), .val (.int c8), .val (.int c9), .val (.int c10), .val (.int c11), .val (.int c12), .val (.int c13), .val (.int c14), .val (.int c15), .val (.int c16), .val (.int c17), .val (.int c18), .val (.int c19), .val (.int c20), .val (.int c21), .val (.int c22), .unset, .unset, .unset, .unset, .unset, .unset, .unset, .unset, .unset, .unset]) rfl ?_
          show Steps p.tables e below (s₁.setTop (mkF m 241 #[.val (.long p0), .second, .val (.long p1), .second, .val (.int p2), .val (.int p3), .val (.int p4), .val (.int p5), .val (.int c8), .val (.int c9), .val (.int c10), .val (.int c11), .val (.int c12), .val (.int c13), .val (.int c14), .val (.int c15), .val (.int c16), .val (.int c17), .val (.int c18), .val (.int c19), .val (.int c20), .val (.int c21), .val (.int c22), .unset, .unset, .unset, .unset, .unset, .unset, .unset, .unset, .unset, .unset] [])) _
          refine st104 _ ?_
          show Steps p.tables e below (s₁.setTop (mkF m 262 #[.val (.long p0), .second, .val (.long p1), .second, .val (.int p2), .val (.int p3), .val (.int p4), .val (.int p5), .val (.int c8), .val (.int c9), .val (.int c10), .val (.int c11), .val (.int c12), .val (.int c13), .val (.int c14), .val (.int c15), .val (.int c16), .val (.int c17), .val (.int c18), .val (.int c19), .val (.int c20), .val (.int c21), .val (.int c22), .unset, .unset, .unset, .unset, .unset, .unset, .unset, .unset, .unset, .unset] [(.int c23)])) _
          refine XS.istore X0.here hx rfl (hb hby at_262) rfl (l' := #[.val (.long p0), .second, .val (.long p1), .second, .val (.int p2), .val (.int p3), .val (.int p4), .val (.int p5), .val (.int c8), .val (.int c9), .val (.int c10), .val (.int c11), .val (.int c12), .val (.int c13), .val (.int c14), .val (.int c15), .val (.int c16), .val (.int c17), .val (.int c18), .val (.int c19), .val (.int c20), .val (.int c21), .val (.int c22), .val (.int c23), .unset, .unset, .unset, .unset, .unset, .unset, .unset, .unset, .unset]) rfl ?_
          show Steps p.tables e below (s₁.setTop (mkF m 264 #[.val (.long p0), .second, .val (.long p1), .second, .val (.int p2), .val (.int p3), .val (.int p4), .val (.int p5), .val (.int c8), .val (.int c9), .val (.int c10), .val (.int c11), .val (.int c12), .val (.int c13), .val (.int c14), .val (.int c15), .val (.int c16), .val (.int c17), .val (.int c18), .val (.int c19), .val (.int c20), .val (.int c21), .val (.int c22), .val (.int c23), .unset, .unset, .unset, .unset, .unset, .unset, .unset, .unset, .unset] [])) _
          refine st105 _ ?_
          show Steps p.tables e below (s₁.setTop (mkF m 285 #[.val (.long p0), .second, .val (.long p1), .second, .val (.int p2), .val (.int p3), .val (.int p4), .val (.int p5), .val (.int c8), .val (.int c9), .val (.int c10), .val (.int c11), .val (.int c12), .val (.int c13), .val (.int c14), .val (.int c15), .val (.int c16), .val (.int c17), .val (.int c18), .val (.int c19), .val (.int c20), .val (.int c21), .val (.int c22), .val (.int c23), .unset, .unset, .unset, .unset, .unset, .unset, .unset, .unset, .unset] [(.int c24)])) _
          refine XS.istore X0.here hx rfl (hb hby at_285) rfl (l' := #[.val (.long p0), .second, .val (.long p1), .second, .val (.int p2), .val (.int p3), .val (.int p4), .val (.int p5), .val (.int c8), .val (.int c9), .val (.int c10), .val (.int c11), .val (.int c12), .val (.int c13), .val (.int c14), .val (.int c15), .val (.int c16), .val (.int c17), .val (.int c18), .val (.int c19), .val (.int c20), .val (.int c21), .val (.int c22), .val (.int c23), .val (.int c24), .unset, .unset, .unset, .unset, .unset, .unset, .unset, .unset]) rfl ?_
          show Steps p.tables e below (s₁.setTop (mkF m 287 #[.val (.long p0), .second, .val (.long p1), .second, .val (.int p2), .val (.int p3), .val (.int p4), .val (.int p5), .val (.int c8), .val (.int c9), .val (.int c10), .val (.int c11), .val (.int c12), .val (.int c13), .val (.int c14), .val (.int c15), .val (.int c16), .val (.int c17), .val (.int c18), .val (.int c19), .val (.int c20), .val (.int c21), .val (.int c22), .val (.int c23), .val (.int c24), .unset, .unset, .unset, .unset, .unset, .unset, .unset, .unset] [])) _
          refine XS.iload X0.here hx rfl (hb hby at_287) rfl ?_
          show Steps p.tables e below (s₁.setTop (mkF m 289 #[.val (.long p0), .second, .val (.long p1), .second, .val (.int p2), .val (.int p3), .val (.int p4), .val (.int p5), .val (.int c8), .val (.int c9), .val (.int c10), .val (.int c11), .val (.int c12), .val (.int c13), .val (.int c14), .val (.int c15), .val (.int c16), .val (.int c17), .val (.int c18), .val (.int c19), .val (.int c20), .val (.int c21), .val (.int c22), .val (.int c23), .val (.int c24), .unset, .unset, .unset, .unset, .unset, .unset, .unset, .unset] [(.int c10)])) _
          refine XS.iload X0.here hx rfl (hb hby at_289) rfl ?_
          show Steps p.tables e below (s₁.setTop (mkF m 291 #[.val (.long p0), .second, .val (.long p1), .second, .val (.int p2), .val (.int p3), .val (.int p4), .val (.int p5), .val (.int c8), .val (.int c9), .val (.int c10), .val (.int c11), .val (.int c12), .val (.int c13), .val (.int c14), .val (.int c15), .val (.int c16), .val (.int c17), .val (.int c18), .val (.int c19), .val (.int c20), .val (.int c21), .val (.int c22), .val (.int c23), .val (.int c24), .unset, .unset, .unset, .unset, .unset, .unset, .unset, .unset] [(.int c12), (.int c10)])) _
          refine XS.iload X0.here hx rfl (hb hby at_291) rfl ?_
          show Steps p.tables e below (s₁.setTop (mkF m 293 #[.val (.long p0), .second, .val (.long p1), .second, .val (.int p2), .val (.int p3), .val (.int p4), .val (.int p5), .val (.int c8), .val (.int c9), .val (.int c10), .val (.int c11), .val (.int c12), .val (.int c13), .val (.int c14), .val (.int c15), .val (.int c16), .val (.int c17), .val (.int c18), .val (.int c19), .val (.int c20), .val (.int c21), .val (.int c22), .val (.int c23), .val (.int c24), .unset, .unset, .unset, .unset, .unset, .unset, .unset, .unset] [(.int c13), (.int c12), (.int c10)])) _
          refine st106 _ ?_
          show Steps p.tables e below (T106.setTop (mkF m 296 #[.val (.long p0), .second, .val (.long p1), .second, .val (.int p2), .val (.int p3), .val (.int p4), .val (.int p5), .val (.int c8), .val (.int c9), .val (.int c10), .val (.int c11), .val (.int c12), .val (.int c13), .val (.int c14), .val (.int c15), .val (.int c16), .val (.int c17), .val (.int c18), .val (.int c19), .val (.int c20), .val (.int c21), .val (.int c22), .val (.int c23), .val (.int c24), .unset, .unset, .unset, .unset, .unset, .unset, .unset, .unset] [(.ref s25)])) _
          refine XS.astore X106.here hx rfl (hb hby at_296) rfl rfl (l' := #[.val (.long p0), .second, .val (.long p1), .second, .val (.int p2), .val (.int p3), .val (.int p4), .val (.int p5), .val (.int c8), .val (.int c9), .val (.int c10), .val (.int c11), .val (.int c12), .val (.int c13), .val (.int c14), .val (.int c15), .val (.int c16), .val (.int c17), .val (.int c18), .val (.int c19), .val (.int c20), .val (.int c21), .val (.int c22), .val (.int c23), .val (.int c24), .val (.ref s25), .unset, .unset, .unset, .unset, .unset, .unset, .unset]) rfl ?_
          show Steps p.tables e below (T106.setTop (mkF m 298 #[.val (.long p0), .second, .val (.long p1), .second, .val (.int p2), .val (.int p3), .val (.int p4), .val (.int p5), .val (.int c8), .val (.int c9), .val (.int c10), .val (.int c11), .val (.int c12), .val (.int c13), .val (.int c14), .val (.int c15), .val (.int c16), .val (.int c17), .val (.int c18), .val (.int c19), .val (.int c20), .val (.int c21), .val (.int c22), .val (.int c23), .val (.int c24), .val (.ref s25), .unset, .unset, .unset, .unset, .unset, .unset, .unset] [])) _
          refine XS.iload X106.here hx rfl (hb hby at_298) rfl ?_
          show Steps p.tables e below (T106.setTop (mkF m 300 #[.val (.long p0), .second, .val (.long p1), .second, .val (.int p2), .val (.int p3), .val (.int p4), .val (.int p5), .val (.int c8), .val (.int c9), .val (.int c10), .val (.int c11), .val (.int c12), .val (.int c13), .val (.int c14), .val (.int c15), .val (.int c16), .val (.int c17), .val (.int c18), .val (.int c19), .val (.int c20), .val (.int c21), .val (.int c22), .val (.int c23), .val (.int c24), .val (.ref s25), .unset, .unset, .unset, .unset, .unset, .unset, .unset] [(.int c11)])) _
          refine XS.iload X106.here hx rfl (hb hby at_300) rfl ?_
          show Steps p.tables e below (T106.setTop (mkF m 302 #[.val (.long p0), .second, .val (.long p1), .second, .val (.int p2), .val (.int p3), .val (.int p4), .val (.int p5), .val (.int c8), .val (.int c9), .val (.int c10), .val (.int c11), .val (.int c12), .val (.int c13), .val (.int c14), .val (.int c15), .val (.int c16), .val (.int c17), .val (.int c18), .val (.int c19), .val (.int c20), .val (.int c21), .val (.int c22), .val (.int c23), .val (.int c24), .val (.ref s25), .unset, .unset, .unset, .unset, .unset, .unset, .unset] [(.int c14), (.int c11)])) _
          refine XS.iload X106.here hx rfl (hb hby at_302) rfl ?_
          show Steps p.tables e below (T106.setTop (mkF m 304 #[.val (.long p0), .second, .val (.long p1), .second, .val (.int p2), .val (.int p3), .val (.int p4), .val (.int p5), .val (.int c8), .val (.int c9), .val (.int c10), .val (.int c11), .val (.int c12), .val (.int c13), .val (.int c14), .val (.int c15), .val (.int c16), .val (.int c17), .val (.int c18), .val (.int c19), .val (.int c20), .val (.int c21), .val (.int c22), .val (.int c23), .val (.int c24), .val (.ref s25), .unset, .unset, .unset, .unset, .unset, .unset, .unset] [(.int c15), (.int c14), (.int c11)])) _
          refine st110 _ ?_
          show Steps p.tables e below (T110.setTop (mkF m 307 #[.val (.long p0), .second, .val (.long p1), .second, .val (.int p2), .val (.int p3), .val (.int p4), .val (.int p5), .val (.int c8), .val (.int c9), .val (.int c10), .val (.int c11), .val (.int c12), .val (.int c13), .val (.int c14), .val (.int c15), .val (.int c16), .val (.int c17), .val (.int c18), .val (.int c19), .val (.int c20), .val (.int c21), .val (.int c22), .val (.int c23), .val (.int c24), .val (.ref s25), .unset, .unset, .unset, .unset, .unset, .unset, .unset] [(.ref s26)])) _
          refine XS.astore X110.here hx rfl (hb hby at_307) rfl rfl (l' := #[.val (.long p0), .second, .val (.long p1), .second, .val (.int p2), .val (.int p3), .val (.int p4), .val (.int p5), .val (.int c8), .val (.int c9), .val (.int c10), .val (.int c11), .val (.int c12), .val (.int c13), .val (.int c14), .val (.int c15), .val (.int c16), .val (.int c17), .val (.int c18), .val (.int c19), .val (.int c20), .val (.int c21), .val (.int c22), .val (.int c23), .val (.int c24), .val (.ref s25), .val (.ref s26), .unset, .unset, .unset, .unset, .unset, .unset]) rfl ?_
          show Steps p.tables e below (T110.setTop (mkF m 309 #[.val (.long p0), .second, .val (.long p1), .second, .val (.int p2), .val (.int p3), .val (.int p4), .val (.int p5), .val (.int c8), .val (.int c9), .val (.int c10), .val (.int c11), .val (.int c12), .val (.int c13), .val (.int c14), .val (.int c15), .val (.int c16), .val (.int c17), .val (.int c18), .val (.int c19), .val (.int c20), .val (.int c21), .val (.int c22), .val (.int c23), .val (.int c24), .val (.ref s25), .val (.ref s26), .unset, .unset, .unset, .unset, .unset, .unset] [])) _
          refine XS.iload X110.here hx rfl (hb hby at_309) rfl ?_
          show Steps p.tables e below (T110.setTop (mkF m 311 #[.val (.long p0), .second, .val (.long p1), .second, .val (.int p2), .val (.int p3), .val (.int p4), .val (.int p5), .val (.int c8), .val (.int c9), .val (.int c10), .val (.int c11), .val (.int c12), .val (.int c13), .val (.int c14), .val (.int c15), .val (.int c16), .val (.int c17), .val (.int c18), .val (.int c19), .val (.int c20), .val (.int c21), .val (.int c22), .val (.int c23), .val (.int c24), .val (.ref s25), .val (.ref s26), .unset, .unset, .unset, .unset, .unset, .unset] [(.int c18)])) _
          refine XS.iload X110.here hx rfl (hb hby at_311) rfl ?_
          show Steps p.tables e below (T110.setTop (mkF m 313 #[.val (.long p0), .second, .val (.long p1), .second, .val (.int p2), .val (.int p3), .val (.int p4), .val (.int p5), .val (.int c8), .val (.int c9), .val (.int c10), .val (.int c11), .val (.int c12), .val (.int c13), .val (.int c14), .val (.int c15), .val (.int c16), .val (.int c17), .val (.int c18), .val (.int c19), .val (.int c20), .val (.int c21), .val (.int c22), .val (.int c23), .val (.int c24), .val (.ref s25), .val (.ref s26), .unset, .unset, .unset, .unset, .unset, .unset] [(.int c16), (.int c18)])) _
          refine XS.iload X110.here hx rfl (hb hby at_313) rfl ?_
          show Steps p.tables e below (T110.setTop (mkF m 315 #[.val (.long p0), .second, .val (.long p1), .second, .val (.int p2), .val (.int p3), .val (.int p4), .val (.int p5), .val (.int c8), .val (.int c9), .val (.int c10), .val (.int c11), .val (.int c12), .val (.int c13), .val (.int c14), .val (.int c15), .val (.int c16), .val (.int c17), .val (.int c18), .val (.int c19), .val (.int c20), .val (.int c21), .val (.int c22), .val (.int c23), .val (.int c24), .val (.ref s25), .val (.ref s26), .unset, .unset, .unset, .unset, .unset, .unset] [(.int c17), (.int c16), (.int c18)])) _
          refine st114 _ ?_
          show Steps p.tables e below (T114.setTop (mkF m 318 #[.val (.long p0), .second, .val (.long p1), .second, .val (.int p2), .val (.int p3), .val (.int p4), .val (.int p5), .val (.int c8), .val (.int c9), .val (.int c10), .val (.int c11), .val (.int c12), .val (.int c13), .val (.int c14), .val (.int c15), .val (.int c16), .val (.int c17), .val (.int c18), .val (.int c19), .val (.int c20), .val (.int c21), .val (.int c22), .val (.int c23), .val (.int c24), .val (.ref s25), .val (.ref s26), .unset, .unset, .unset, .unset, .unset, .unset] [(.ref s27)])) _
          refine XS.astore X114.here hx rfl (hb hby at_318) rfl rfl (l' := #[.val (.long p0), .second, .val (.long p1), .second, .val (.int p2), .val (.int p3), .val (.int p4), .val (.int p5), .val (.int c8), .val (.int c9), .val (.int c10), .val (.int c11), .val (.int c12), .val (.int c13), .val (.int c14), .val (.int c15), .val (.int c16), .val (.int c17), .val (.int c18), .val (.int c19), .val (.int c20), .val (.int c21), .val (.int c22), .val (.int c23), .val (.int c24), .val (.ref s25), .val (.ref s26), .val (.ref s27), .unset, .unset, .unset, .unset, .unset]) rfl ?_
          show Steps p.tables e below (T114.setTop (mkF m 320 #[.val (.long p0), .second, .val (.long p1), .second, .val (.int p2), .val (.int p3), .val (.int p4), .val (.int p5), .val (.int c8), .val (.int c9), .val (.int c10), .val (.int c11), .val (.int c12), .val (.int c13), .val (.int c14), .val (.int c15), .val (.int c16), .val (.int c17), .val (.int c18), .val (.int c19), .val (.int c20), .val (.int c21), .val (.int c22), .val (.int c23), .val (.int c24), .val (.ref s25), .val (.ref s26), .val (.ref s27), .unset, .unset, .unset, .unset, .unset] [])) _
          refine XS.iload X114.here hx rfl (hb hby at_320) rfl ?_
          show Steps p.tables e below (T114.setTop (mkF m 322 #[.val (.long p0), .second, .val (.long p1), .second, .val (.int p2), .val (.int p3), .val (.int p4), .val (.int p5), .val (.int c8), .val (.int c9), .val (.int c10), .val (.int c11), .val (.int c12), .val (.int c13), .val (.int c14), .val (.int c15), .val (.int c16), .val (.int c17), .val (.int c18), .val (.int c19), .val (.int c20), .val (.int c21), .val (.int c22), .val (.int c23), .val (.int c24), .val (.ref s25), .val (.ref s26), .val (.ref s27), .unset, .unset, .unset, .unset, .unset] [(.int c21)])) _
          refine XS.iload X114.here hx rfl (hb hby at_322) rfl ?_
          show Steps p.tables e below (T114.setTop (mkF m 324 #[.val (.long p0), .second, .val (.long p1), .second, .val (.int p2), .val (.int p3), .val (.int p4), .val (.int p5), .val (.int c8), .val (.int c9), .val (.int c10), .val (.int c11), .val (.int c12), .val (.int c13), .val (.int c14), .val (.int c15), .val (.int c16), .val (.int c17), .val (.int c18), .val (.int c19), .val (.int c20), .val (.int c21), .val (.int c22), .val (.int c23), .val (.int c24), .val (.ref s25), .val (.ref s26), .val (.ref s27), .unset, .unset, .unset, .unset, .unset] [(.int c19), (.int c21)])) _
          refine XS.iload X114.here hx rfl (hb hby at_324) rfl ?_
          show Steps p.tables e below (T114.setTop (mkF m 326 #[.val (.long p0), .second, .val (.long p1), .second, .val (.int p2), .val (.int p3), .val (.int p4), .val (.int p5), .val (.int c8), .val (.int c9), .val (.int c10), .val (.int c11), .val (.int c12), .val (.int c13), .val (.int c14), .val (.int c15), .val (.int c16), .val (.int c17), .val (.int c18), .val (.int c19), .val (.int c20), .val (.int c21), .val (.int c22), .val (.int c23), .val (.int c24), .val (.ref s25), .val (.ref s26), .val (.ref s27), .unset, .unset, .unset, .unset, .unset] [(.int c20), (.int c19), (.int c21)])) _
          refine st118 _ ?_
          show Steps p.tables e below (T118.setTop (mkF m 329 #[.val (.long p0), .second, .val (.long p1), .second, .val (.int p2), .val (.int p3), .val (.int p4), .val (.int p5), .val (.int c8), .val (.int c9), .val (.int c10), .val (.int c11), .val (.int c12), .val (.int c13), .val (.int c14), .val (.int c15), .val (.int c16), .val (.int c17), .val (.int c18), .val (.int c19), .val (.int c20), .val (.int c21), .val (.int c22), .val (.int c23), .val (.int c24), .val (.ref s25), .val (.ref s26), .val (.ref s27), .unset, .unset, .unset, .unset, .unset] [(.ref s28)])) _
          refine XS.astore X118.here hx rfl (hb hby at_329) rfl rfl (l' := #[.val (.long p0), .second, .val (.long p1), .second, .val (.int p2), .val (.int p3), .val (.int p4), .val (.int p5), .val (.int c8), .val (.int c9), .val (.int c10), .val (.int c11), .val (.int c12), .val (.int c13), .val (.int c14), .val (.int c15), .val (.int c16), .val (.int c17), .val (.int c18), .val (.int c19), .val (.int c20), .val (.int c21), .val (.int c22), .val (.int c23), .val (.int c24), .val (.ref s25), .val (.ref s26), .val (.ref s27), .val (.ref s28), .unset, .unset, .unset, .unset]) rfl ?_
          show Steps p.tables e below (T118.setTop (mkF m 331 #[.val (.long p0), .second, .val (.long p1), .second, .val (.int p2), .val (.int p3), .val (.int p4), .val (.int p5), .val (.int c8), .val (.int c9), .val (.int c10), .val (.int c11), .val (.int c12), .val (.int c13), .val (.int c14), .val (.int c15), .val (.int c16), .val (.int c17), .val (.int c18), .val (.int c19), .val (.int c20), .val (.int c21), .val (.int c22), .val (.int c23), .val (.int c24), .val (.ref s25), .val (.ref s26), .val (.ref s27), .val (.ref s28), .unset, .unset, .unset, .unset] [])) _
          refine st121 _ ?_
          show Steps p.tables e below (T121.setTop (mkF m 348 #[.val (.long p0), .second, .val (.long p1), .second, .val (.int p2), .val (.int p3), .val (.int p4), .val (.int p5), .val (.int c8), .val (.int c9), .val (.int c10), .val (.int c11), .val (.int c12), .val (.int c13), .val (.int c14), .val (.int c15), .val (.int c16), .val (.int c17), .val (.int c18), .val (.int c19), .val (.int c20), .val (.int c21), .val (.int c22), .val (.int c23), .val (.int c24), .val (.ref s25), .val (.ref s26), .val (.ref s27), .val (.ref s28), .unset, .unset, .unset, .unset] [(.ref b29)])) _
          refine XS.astore X121.here hx rfl (hb hby at_348) rfl rfl (l' := #[.val (.long p0), .second, .val (.long p1), .second, .val (.int p2), .val (.int p3), .val (.int p4), .val (.int p5), .val (.int c8), .val (.int c9), .val (.int c10), .val (.int c11), .val (.int c12), .val (.int c13), .val (.int c14), .val (.int c15), .val (.int c16), .val (.int c17), .val (.int c18), .val (.int c19), .val (.int c20), .val (.int c21), .val (.int c22), .val (.int c23), .val (.int c24), .val (.ref s25), .val (.ref s26), .val (.ref s27), .val (.ref s28), .val (.ref b29), .unset, .unset, .unset]) rfl ?_
          show Steps p.tables e below (T121.setTop (mkF m 350 #[.val (.long p0), .second, .val (.long p1), .second, .val (.int p2), .val (.int p3), .val (.int p4), .val (.int p5), .val (.int c8), .val (.int c9), .val (.int c10), .val (.int c11), .val (.int c12), .val (.int c13), .val (.int c14), .val (.int c15), .val (.int c16), .val (.int c17), .val (.int c18), .val (.int c19), .val (.int c20), .val (.int c21), .val (.int c22), .val (.int c23), .val (.int c24), .val (.ref s25), .val (.ref s26), .val (.ref s27), .val (.ref s28), .val (.ref b29), .unset, .unset, .unset] [])) _
          refine st130 _ ?_
          show Steps p.tables e below (T130.setTop (mkF m 367 #[.val (.long p0), .second, .val (.long p1), .second, .val (.int p2), .val (.int p3), .val (.int p4), .val (.int p5), .val (.int c8), .val (.int c9), .val (.int c10), .val (.int c11), .val (.int c12), .val (.int c13), .val (.int c14), .val (.int c15), .val (.int c16), .val (.int c17), .val (.int c18), .val (.int c19), .val (.int c20), .val (.int c21), .val (.int c22), .val (.int c23), .val (.int c24), .val (.ref s25), .val (.ref s26), .val (.ref s27), .val (.ref s28), .val (.ref b29), .unset, .unset, .unset] [(.ref b30)])) _
          refine XS.astore X130.here hx rfl (hb hby at_367) rfl rfl (l' := #[.val (.long p0), .second, .val (.long p1), .second, .val (.int p2), .val (.int p3), .val (.int p4), .val (.int p5), .val (.int c8), .val (.int c9), .val (.int c10), .val (.int c11), .val (.int c12), .val (.int c13), .val (.int c14), .val (.int c15), .val (.int c16), .val (.int c17), .val (.int c18), .val (.int c19), .val (.int c20), .val (.int c21), .val (.int c22), .val (.int c23), .val (.int c24), .val (.ref s25), .val (.ref s26), .val (.ref s27), .val (.ref s28), .val (.ref b29), .val (.ref b30), .unset, .unset]) rfl ?_
          show Steps p.tables e below (T130.setTop (mkF m 369 #[.val (.long p0), .second, .val (.long p1), .second, .val (.int p2), .val (.int p3), .val (.int p4), .val (.int p5), .val (.int c8), .val (.int c9), .val (.int c10), .val (.int c11), .val (.int c12), .val (.int c13), .val (.int c14), .val (.int c15), .val (.int c16), .val (.int c17), .val (.int c18), .val (.int c19), .val (.int c20), .val (.int c21), .val (.int c22), .val (.int c23), .val (.int c24), .val (.ref s25), .val (.ref s26), .val (.ref s27), .val (.ref s28), .val (.ref b29), .val (.ref b30), .unset, .unset] [])) _
          refine XS.iload X130.here hx rfl (hb hby at_369) rfl ?_
          show Steps p.tables e below (T130.setTop (mkF m 371 #[.val (.long p0), .second, .val (.long p1), .second, .val (.int p2), .val (.int p3), .val (.int p4), .val (.int p5), .val (.int c8), .val (.int c9), .val (.int c10), .val (.int c11), .val (.int c12), .val (.int c13), .val (.int c14), .val (.int c15), .val (.int c16), .val (.int c17), .val (.int c18), .val (.int c19), .val (.int c20), .val (.int c21), .val (.int c22), .val (.int c23), .val (.int c24), .val (.ref s25), .val (.ref s26), .val (.ref s27), .val (.ref s28), .val (.ref b29), .val (.ref b30), .unset, .unset] [(.int p5)])) _
          refine XS.bipush X130.here hx rfl (hb hby at_371) ?_
          show Steps p.tables e below (T130.setTop (mkF m 373 #[.val (.long p0), .second, .val (.long p1), .second, .val (.int p2), .val (.int p3), .val (.int p4), .val (.int p5), .val (.int c8), .val (.int c9), .val (.int c10), .val (.int c11), .val (.int c12), .val (.int c13), .val (.int c14), .val (.int c15), .val (.int c16), .val (.int c17), .val (.int c18), .val (.int c19), .val (.int c20), .val (.int c21), .val (.int c22), .val (.int c23), .val (.int c24), .val (.ref s25), .val (.ref s26), .val (.ref s27), .val (.ref s28), .val (.ref b29), .val (.ref b30), .unset, .unset] [(.int (7 : Int32)), (.int p5)])) _
          refine XS.iushr X130.here hx rfl (hb hby at_373) rfl ?_
          show Steps p.tables e below (T130.setTop (mkF m 374 #[.val (.long p0), .second, .val (.long p1), .second, .val (.int p2), .val (.int p3), .val (.int p4), .val (.int p5), .val (.int c8), .val (.int c9), .val (.int c10), .val (.int c11), .val (.int c12), .val (.int c13), .val (.int c14), .val (.int c15), .val (.int c16), .val (.int c17), .val (.int c18), .val (.int c19), .val (.int c20), .val (.int c21), .val (.int c22), .val (.int c23), .val (.int c24), .val (.ref s25), .val (.ref s26), .val (.ref s27), .val (.ref s28), .val (.ref b29), .val (.ref b30), .unset, .unset] [(.int ((p5.toUInt32 >>> ((7 : Int32) &&& 31).toUInt32).toInt32))])) _
          refine XS.iconst X130.here hx rfl (hb hby at_374) ?_
          show Steps p.tables e below (T130.setTop (mkF m 375 #[.val (.long p0), .second, .val (.long p1), .second, .val (.int p2), .val (.int p3), .val (.int p4), .val (.int p5), .val (.int c8), .val (.int c9), .val (.int c10), .val (.int c11), .val (.int c12), .val (.int c13), .val (.int c14), .val (.int c15), .val (.int c16), .val (.int c17), .val (.int c18), .val (.int c19), .val (.int c20), .val (.int c21), .val (.int c22), .val (.int c23), .val (.int c24), .val (.ref s25), .val (.ref s26), .val (.ref s27), .val (.ref s28), .val (.ref b29), .val (.ref b30), .unset, .unset] [(.int (3 : Int32)), (.int ((p5.toUInt32 >>> ((7 : Int32) &&& 31).toUInt32).toInt32))])) _
          refine XS.iand X130.here hx rfl (hb hby at_375) rfl ?_
          show Steps p.tables e below (T130.setTop (mkF m 376 #[.val (.long p0), .second, .val (.long p1), .second, .val (.int p2), .val (.int p3), .val (.int p4), .val (.int p5), .val (.int c8), .val (.int c9), .val (.int c10), .val (.int c11), .val (.int c12), .val (.int c13), .val (.int c14), .val (.int c15), .val (.int c16), .val (.int c17), .val (.int c18), .val (.int c19), .val (.int c20), .val (.int c21), .val (.int c22), .val (.int c23), .val (.int c24), .val (.ref s25), .val (.ref s26), .val (.ref s27), .val (.ref s28), .val (.ref b29), .val (.ref b30), .unset, .unset] [(.int (((p5.toUInt32 >>> ((7 : Int32) &&& 31).toUInt32).toInt32) &&& (3 : Int32)))])) _
          refine XS.istore X130.here hx rfl (hb hby at_376) rfl (l' := #[.val (.long p0), .second, .val (.long p1), .second, .val (.int p2), .val (.int p3), .val (.int p4), .val (.int p5), .val (.int c8), .val (.int c9), .val (.int c10), .val (.int c11), .val (.int c12), .val (.int c13), .val (.int c14), .val (.int c15), .val (.int c16), .val (.int c17), .val (.int c18), .val (.int c19), .val (.int c20), .val (.int c21), .val (.int c22), .val (.int c23), .val (.int c24), .val (.ref s25), .val (.ref s26), .val (.ref s27), .val (.ref s28), .val (.ref b29), .val (.ref b30), .val (.int (((p5.toUInt32 >>> ((7 : Int32) &&& 31).toUInt32).toInt32) &&& (3 : Int32))), .unset]) rfl ?_
          show Steps p.tables e below (T130.setTop (mkF m 378 #[.val (.long p0), .second, .val (.long p1), .second, .val (.int p2), .val (.int p3), .val (.int p4), .val (.int p5), .val (.int c8), .val (.int c9), .val (.int c10), .val (.int c11), .val (.int c12), .val (.int c13), .val (.int c14), .val (.int c15), .val (.int c16), .val (.int c17), .val (.int c18), .val (.int c19), .val (.int c20), .val (.int c21), .val (.int c22), .val (.int c23), .val (.int c24), .val (.ref s25), .val (.ref s26), .val (.ref s27), .val (.ref s28), .val (.ref b29), .val (.ref b30), .val (.int (((p5.toUInt32 >>> ((7 : Int32) &&& 31).toUInt32).toInt32) &&& (3 : Int32))), .unset] [])) _
          refine XS.iload X130.here hx rfl (hb hby at_378) rfl ?_
          show Steps p.tables e below (T130.setTop (mkF m 380 #[.val (.long p0), .second, .val (.long p1), .second, .val (.int p2), .val (.int p3), .val (.int p4), .val (.int p5), .val (.int c8), .val (.int c9), .val (.int c10), .val (.int c11), .val (.int c12), .val (.int c13), .val (.int c14), .val (.int c15), .val (.int c16), .val (.int c17), .val (.int c18), .val (.int c19), .val (.int c20), .val (.int c21), .val (.int c22), .val (.int c23), .val (.int c24), .val (.ref s25), .val (.ref s26), .val (.ref s27), .val (.ref s28), .val (.ref b29), .val (.ref b30), .val (.int (((p5.toUInt32 >>> ((7 : Int32) &&& 31).toUInt32).toInt32) &&& (3 : Int32))), .unset] [(.int (((p5.toUInt32 >>> ((7 : Int32) &&& 31).toUInt32).toInt32) &&& (3 : Int32)))])) _
          refine XS.iconst X130.here hx rfl (hb hby at_380) ?_
          show Steps p.tables e below (T130.setTop (mkF m 381 #[.val (.long p0), .second, .val (.long p1), .second, .val (.int p2), .val (.int p3), .val (.int p4), .val (.int p5), .val (.int c8), .val (.int c9), .val (.int c10), .val (.int c11), .val (.int c12), .val (.int c13), .val (.int c14), .val (.int c15), .val (.int c16), .val (.int c17), .val (.int c18), .val (.int c19), .val (.int c20), .val (.int c21), .val (.int c22), .val (.int c23), .val (.int c24), .val (.ref s25), .val (.ref s26), .val (.ref s27), .val (.ref s28), .val (.ref b29), .val (.ref b30), .val (.int (((p5.toUInt32 >>> ((7 : Int32) &&& 31).toUInt32).toInt32) &&& (3 : Int32))), .unset] [(.int (1 : Int32)), (.int (((p5.toUInt32 >>> ((7 : Int32) &&& 31).toUInt32).toInt32) &&& (3 : Int32)))])) _
          refine XS.icmpYes X130.here hx rfl (pc0 := 381) (pc' := 399) rfl (hb hby at_381) rfl (feq hm1).2 (by decide) (by decide) ?_
          show Steps p.tables e below (T130.setTop (mkF m 399 #[.val (.long p0), .second, .val (.long p1), .second, .val (.int p2), .val (.int p3), .val (.int p4), .val (.int p5), .val (.int c8), .val (.int c9), .val (.int c10), .val (.int c11), .val (.int c12), .val (.int c13), .val (.int c14), .val (.int c15), .val (.int c16), .val (.int c17), .val (.int c18), .val (.int c19), .val (.int c20), .val (.int c21), .val (.int c22), .val (.int c23), .val (.int c24), .val (.ref s25), .val (.ref s26), .val (.ref s27), .val (.ref s28), .val (.ref b29), .val (.ref b30), .val (.int (((p5.toUInt32 >>> ((7 : Int32) &&& 31).toUInt32).toInt32) &&& (3 : Int32))), .unset] [])) _
          refine XS.iload X130.here hx rfl (hb hby at_399) rfl ?_
          show Steps p.tables e below (T130.setTop (mkF m 401 #[.val (.long p0), .second, .val (.long p1), .second, .val (.int p2), .val (.int p3), .val (.int p4), .val (.int p5), .val (.int c8), .val (.int c9), .val (.int c10), .val (.int c11), .val (.int c12), .val (.int c13), .val (.int c14), .val (.int c15), .val (.int c16), .val (.int c17), .val (.int c18), .val (.int c19), .val (.int c20), .val (.int c21), .val (.int c22), .val (.int c23), .val (.int c24), .val (.ref s25), .val (.ref s26), .val (.ref s27), .val (.ref s28), .val (.ref b29), .val (.ref b30), .val (.int (((p5.toUInt32 >>> ((7 : Int32) &&& 31).toUInt32).toInt32) &&& (3 : Int32))), .unset] [(.int (((p5.toUInt32 >>> ((7 : Int32) &&& 31).toUInt32).toInt32) &&& (3 : Int32)))])) _
          refine XS.iconst X130.here hx rfl (hb hby at_401) ?_
          show Steps p.tables e below (T130.setTop (mkF m 402 #[.val (.long p0), .second, .val (.long p1), .second, .val (.int p2), .val (.int p3), .val (.int p4), .val (.int p5), .val (.int c8), .val (.int c9), .val (.int c10), .val (.int c11), .val (.int c12), .val (.int c13), .val (.int c14), .val (.int c15), .val (.int c16), .val (.int c17), .val (.int c18), .val (.int c19), .val (.int c20), .val (.int c21), .val (.int c22), .val (.int c23), .val (.int c24), .val (.ref s25), .val (.ref s26), .val (.ref s27), .val (.ref s28), .val (.ref b29), .val (.ref b30), .val (.int (((p5.toUInt32 >>> ((7 : Int32) &&& 31).toUInt32).toInt32) &&& (3 : Int32))), .unset] [(.int (2 : Int32)), (.int (((p5.toUInt32 >>> ((7 : Int32) &&& 31).toUInt32).toInt32) &&& (3 : Int32)))])) _
          refine XS.icmpYes X130.here hx rfl (pc0 := 402) (pc' := 421) rfl (hb hby at_402) rfl (feq hm2).2 (by decide) (by decide) ?_
          show Steps p.tables e below (T130.setTop (mkF m 421 #[.val (.long p0), .second, .val (.long p1), .second, .val (.int p2), .val (.int p3), .val (.int p4), .val (.int p5), .val (.int c8), .val (.int c9), .val (.int c10), .val (.int c11), .val (.int c12), .val (.int c13), .val (.int c14), .val (.int c15), .val (.int c16), .val (.int c17), .val (.int c18), .val (.int c19), .val (.int c20), .val (.int c21), .val (.int c22), .val (.int c23), .val (.int c24), .val (.ref s25), .val (.ref s26), .val (.ref s27), .val (.ref s28), .val (.ref b29), .val (.ref b30), .val (.int (((p5.toUInt32 >>> ((7 : Int32) &&& 31).toUInt32).toInt32) &&& (3 : Int32))), .unset] [])) _
          refine XS.iload X130.here hx rfl (hb hby at_421) rfl ?_
          show Steps p.tables e below (T130.setTop (mkF m 423 #[.val (.long p0), .second, .val (.long p1), .second, .val (.int p2), .val (.int p3), .val (.int p4), .val (.int p5), .val (.int c8), .val (.int c9), .val (.int c10), .val (.int c11), .val (.int c12), .val (.int c13), .val (.int c14), .val (.int c15), .val (.int c16), .val (.int c17), .val (.int c18), .val (.int c19), .val (.int c20), .val (.int c21), .val (.int c22), .val (.int c23), .val (.int c24), .val (.ref s25), .val (.ref s26), .val (.ref s27), .val (.ref s28), .val (.ref b29), .val (.ref b30), .val (.int (((p5.toUInt32 >>> ((7 : Int32) &&& 31).toUInt32).toInt32) &&& (3 : Int32))), .unset] [(.int (((p5.toUInt32 >>> ((7 : Int32) &&& 31).toUInt32).toInt32) &&& (3 : Int32)))])) _
          refine XS.iconst X130.here hx rfl (hb hby at_423) ?_
          show Steps p.tables e below (T130.setTop (mkF m 424 #[.val (.long p0), .second, .val (.long p1), .second, .val (.int p2), .val (.int p3), .val (.int p4), .val (.int p5), .val (.int c8), .val (.int c9), .val (.int c10), .val (.int c11), .val (.int c12), .val (.int c13), .val (.int c14), .val (.int c15), .val (.int c16), .val (.int c17), .val (.int c18), .val (.int c19), .val (.int c20), .val (.int c21), .val (.int c22), .val (.int c23), .val (.int c24), .val (.ref s25), .val (.ref s26), .val (.ref s27), .val (.ref s28), .val (.ref b29), .val (.ref b30), .val (.int (((p5.toUInt32 >>> ((7 : Int32) &&& 31).toUInt32).toInt32) &&& (3 : Int32))), .unset] [(.int (3 : Int32)), (.int (((p5.toUInt32 >>> ((7 : Int32) &&& 31).toUInt32).toInt32) &&& (3 : Int32)))])) _
          refine XS.icmpYes X130.here hx rfl (pc0 := 424) (pc' := 435) rfl (hb hby at_424) rfl (feq hm3).2 (by decide) (by decide) ?_
          show Steps p.tables e below (T130.setTop (mkF m 435 #[.val (.long p0), .second, .val (.long p1), .second, .val (.int p2), .val (.int p3), .val (.int p4), .val (.int p5), .val (.int c8), .val (.int c9), .val (.int c10), .val (.int c11), .val (.int c12), .val (.int c13), .val (.int c14), .val (.int c15), .val (.int c16), .val (.int c17), .val (.int c18), .val (.int c19), .val (.int c20), .val (.int c21), .val (.int c22), .val (.int c23), .val (.int c24), .val (.ref s25), .val (.ref s26), .val (.ref s27), .val (.ref s28), .val (.ref b29), .val (.ref b30), .val (.int (((p5.toUInt32 >>> ((7 : Int32) &&& 31).toUInt32).toInt32) &&& (3 : Int32))), .unset] [])) _
          refine st147 _ ?_
          show Steps p.tables e below (T147.setTop (mkF m 497 #[.val (.long p0), .second, .val (.long p1), .second, .val (.int p2), .val (.int p3), .val (.int p4), .val (.int p5), .val (.int c8), .val (.int c9), .val (.int c10), .val (.int c11), .val (.int c12), .val (.int c13), .val (.int c14), .val (.int c15), .val (.int c16), .val (.int c17), .val (.int c18), .val (.int c19), .val (.int c20), .val (.int c21), .val (.int c22), .val (.int c23), .val (.int c24), .val (.ref s25), .val (.ref s26), .val (.ref s27), .val (.ref s28), .val (.ref b29), .val (.ref b30), .val (.int (((p5.toUInt32 >>> ((7 : Int32) &&& 31).toUInt32).toInt32) &&& (3 : Int32))), .unset] [(.int c32)])) _
          refine XS.istore X147.here hx rfl (hb hby at_497) rfl (l' := #[.val (.long p0), .second, .val (.long p1), .second, .val (.int p2), .val (.int p3), .val (.int p4), .val (.int p5), .val (.int c8), .val (.int c9), .val (.int c10), .val (.int c11), .val (.int c12), .val (.int c13), .val (.int c14), .val (.int c15), .val (.int c16), .val (.int c17), .val (.int c18), .val (.int c19), .val (.int c20), .val (.int c21), .val (.int c22), .val (.int c23), .val (.int c24), .val (.ref s25), .val (.ref s26), .val (.ref s27), .val (.ref s28), .val (.ref b29), .val (.ref b30), .val (.int (((p5.toUInt32 >>> ((7 : Int32) &&& 31).toUInt32).toInt32) &&& (3 : Int32))), .val (.int c32)]) rfl ?_
          show Steps p.tables e below (T147.setTop (mkF m 499 #[.val (.long p0), .second, .val (.long p1), .second, .val (.int p2), .val (.int p3), .val (.int p4), .val (.int p5), .val (.int c8), .val (.int c9), .val (.int c10), .val (.int c11), .val (.int c12), .val (.int c13), .val (.int c14), .val (.int c15), .val (.int c16), .val (.int c17), .val (.int c18), .val (.int c19), .val (.int c20), .val (.int c21), .val (.int c22), .val (.int c23), .val (.int c24), .val (.ref s25), .val (.ref s26), .val (.ref s27), .val (.ref s28), .val (.ref b29), .val (.ref b30), .val (.int (((p5.toUInt32 >>> ((7 : Int32) &&& 31).toUInt32).toInt32) &&& (3 : Int32))), .val (.int c32)] [])) _
          refine XS.aload X147.here hx rfl (hb hby at_499) rfl rfl ?_
          show Steps p.tables e below (T147.setTop (mkF m 501 #[.val (.long p0), .second, .val (.long p1), .second, .val (.int p2), .val (.int p3), .val (.int p4), .val (.int p5), .val (.int c8), .val (.int c9), .val (.int c10), .val (.int c11), .val (.int c12), .val (.int c13), .val (.int c14), .val (.int c15), .val (.int c16), .val (.int c17), .val (.int c18), .val (.int c19), .val (.int c20), .val (.int c21), .val (.int c22), .val (.int c23), .val (.int c24), .val (.ref s25), .val (.ref s26), .val (.ref s27), .val (.ref s28), .val (.ref b29), .val (.ref b30), .val (.int (((p5.toUInt32 >>> ((7 : Int32) &&& 31).toUInt32).toInt32) &&& (3 : Int32))), .val (.int c32)] [(.ref b29)])) _
          refine XS.aload X147.here hx rfl (hb hby at_501) rfl rfl ?_
          show Steps p.tables e below (T147.setTop (mkF m 503 #[.val (.long p0), .second, .val (.long p1), .second, .val (.int p2), .val (.int p3), .val (.int p4), .val (.int p5), .val (.int c8), .val (.int c9), .val (.int c10), .val (.int c11), .val (.int c12), .val (.int c13), .val (.int c14), .val (.int c15), .val (.int c16), .val (.int c17), .val (.int c18), .val (.int c19), .val (.int c20), .val (.int c21), .val (.int c22), .val (.int c23), .val (.int c24), .val (.ref s25), .val (.ref s26), .val (.ref s27), .val (.ref s28), .val (.ref b29), .val (.ref b30), .val (.int (((p5.toUInt32 >>> ((7 : Int32) &&& 31).toUInt32).toInt32) &&& (3 : Int32))), .val (.int c32)] [(.ref b30), (.ref b29)])) _
          refine st157.trans ?_
          show Steps p.tables e below (T157.setTop (mkF m 506 #[.val (.long p0), .second, .val (.long p1), .second, .val (.int p2), .val (.int p3), .val (.int p4), .val (.int p5), .val (.int c8), .val (.int c9), .val (.int c10), .val (.int c11), .val (.int c12), .val (.int c13), .val (.int c14), .val (.int c15), .val (.int c16), .val (.int c17), .val (.int c18), .val (.int c19), .val (.int c20), .val (.int c21), .val (.int c22), .val (.int c23), .val (.int c24), .val (.ref s25), .val (.ref s26), .val (.ref s27), .val (.ref s28), .val (.ref b29), .val (.ref b30), .val (.int (((p5.toUInt32 >>> ((7 : Int32) &&& 31).toUInt32).toInt32) &&& (3 : Int32))), .val (.int c32)] [(.int z157)])) _
          refine XS.iload X157.here hx rfl (hb hby at_506) rfl ?_
          show Steps p.tables e below (T157.setTop (mkF m 508 #[.val (.long p0), .second, .val (.long p1), .second, .val (.int p2), .val (.int p3), .val (.int p4), .val (.int p5), .val (.int c8), .val (.int c9), .val (.int c10), .val (.int c11), .val (.int c12), .val (.int c13), .val (.int c14), .val (.int c15), .val (.int c16), .val (.int c17), .val (.int c18), .val (.int c19), .val (.int c20), .val (.int c21), .val (.int c22), .val (.int c23), .val (.int c24), .val (.ref s25), .val (.ref s26), .val (.ref s27), .val (.ref s28), .val (.ref b29), .val (.ref b30), .val (.int (((p5.toUInt32 >>> ((7 : Int32) &&& 31).toUInt32).toInt32) &&& (3 : Int32))), .val (.int c32)] [(.int c32), (.int z157)])) _
          refine XS.icmpNo X157.here hx rfl (hb hby at_508) rfl (teq hq1).2 ?_
          show Steps p.tables e below (T157.setTop (mkF m 511 #[.val (.long p0), .second, .val (.long p1), .second, .val (.int p2), .val (.int p3), .val (.int p4), .val (.int p5), .val (.int c8), .val (.int c9), .val (.int c10), .val (.int c11), .val (.int c12), .val (.int c13), .val (.int c14), .val (.int c15), .val (.int c16), .val (.int c17), .val (.int c18), .val (.int c19), .val (.int c20), .val (.int c21), .val (.int c22), .val (.int c23), .val (.int c24), .val (.ref s25), .val (.ref s26), .val (.ref s27), .val (.ref s28), .val (.ref b29), .val (.ref b30), .val (.int (((p5.toUInt32 >>> ((7 : Int32) &&& 31).toUInt32).toInt32) &&& (3 : Int32))), .val (.int c32)] [])) _
          refine XS.aload X157.here hx rfl (hb hby at_511) rfl rfl ?_
          show Steps p.tables e below (T157.setTop (mkF m 513 #[.val (.long p0), .second, .val (.long p1), .second, .val (.int p2), .val (.int p3), .val (.int p4), .val (.int p5), .val (.int c8), .val (.int c9), .val (.int c10), .val (.int c11), .val (.int c12), .val (.int c13), .val (.int c14), .val (.int c15), .val (.int c16), .val (.int c17), .val (.int c18), .val (.int c19), .val (.int c20), .val (.int c21), .val (.int c22), .val (.int c23), .val (.int c24), .val (.ref s25), .val (.ref s26), .val (.ref s27), .val (.ref s28), .val (.ref b29), .val (.ref b30), .val (.int (((p5.toUInt32 >>> ((7 : Int32) &&& 31).toUInt32).toInt32) &&& (3 : Int32))), .val (.int c32)] [(.ref b30)])) _
          refine XS.aload X157.here hx rfl (hb hby at_513) rfl rfl ?_
          show Steps p.tables e below (T157.setTop (mkF m 515 #[.val (.long p0), .second, .val (.long p1), .second, .val (.int p2), .val (.int p3), .val (.int p4), .val (.int p5), .val (.int c8), .val (.int c9), .val (.int c10), .val (.int c11), .val (.int c12), .val (.int c13), .val (.int c14), .val (.int c15), .val (.int c16), .val (.int c17), .val (.int c18), .val (.int c19), .val (.int c20), .val (.int c21), .val (.int c22), .val (.int c23), .val (.int c24), .val (.ref s25), .val (.ref s26), .val (.ref s27), .val (.ref s28), .val (.ref b29), .val (.ref b30), .val (.int (((p5.toUInt32 >>> ((7 : Int32) &&& 31).toUInt32).toInt32) &&& (3 : Int32))), .val (.int c32)] [(.ref b29), (.ref b30)])) _
          refine st159.trans ?_
          show Steps p.tables e below (T159.setTop (mkF m 518 #[.val (.long p0), .second, .val (.long p1), .second, .val (.int p2), .val (.int p3), .val (.int p4), .val (.int p5), .val (.int c8), .val (.int c9), .val (.int c10), .val (.int c11), .val (.int c12), .val (.int c13), .val (.int c14), .val (.int c15), .val (.int c16), .val (.int c17), .val (.int c18), .val (.int c19), .val (.int c20), .val (.int c21), .val (.int c22), .val (.int c23), .val (.int c24), .val (.ref s25), .val (.ref s26), .val (.ref s27), .val (.ref s28), .val (.ref b29), .val (.ref b30), .val (.int (((p5.toUInt32 >>> ((7 : Int32) &&& 31).toUInt32).toInt32) &&& (3 : Int32))), .val (.int c32)] [(.int z159)])) _
          refine XS.iload X159.here hx rfl (hb hby at_518) rfl ?_
          show Steps p.tables e below (T159.setTop (mkF m 520 #[.val (.long p0), .second, .val (.long p1), .second, .val (.int p2), .val (.int p3), .val (.int p4), .val (.int p5), .val (.int c8), .val (.int c9), .val (.int c10), .val (.int c11), .val (.int c12), .val (.int c13), .val (.int c14), .val (.int c15), .val (.int c16), .val (.int c17), .val (.int c18), .val (.int c19), .val (.int c20), .val (.int c21), .val (.int c22), .val (.int c23), .val (.int c24), .val (.ref s25), .val (.ref s26), .val (.ref s27), .val (.ref s28), .val (.ref b29), .val (.ref b30), .val (.int (((p5.toUInt32 >>> ((7 : Int32) &&& 31).toUInt32).toInt32) &&& (3 : Int32))), .val (.int c32)] [(.int c32), (.int z159)])) _
          refine XS.icmpNo X159.here hx rfl (hb hby at_520) rfl (teq hq2).2 ?_
          show Steps p.tables e below (T159.setTop (mkF m 523 #[.val (.long p0), .second, .val (.long p1), .second, .val (.int p2), .val (.int p3), .val (.int p4), .val (.int p5), .val (.int c8), .val (.int c9), .val (.int c10), .val (.int c11), .val (.int c12), .val (.int c13), .val (.int c14), .val (.int c15), .val (.int c16), .val (.int c17), .val (.int c18), .val (.int c19), .val (.int c20), .val (.int c21), .val (.int c22), .val (.int c23), .val (.int c24), .val (.ref s25), .val (.ref s26), .val (.ref s27), .val (.ref s28), .val (.ref b29), .val (.ref b30), .val (.int (((p5.toUInt32 >>> ((7 : Int32) &&& 31).toUInt32).toInt32) &&& (3 : Int32))), .val (.int c32)] [])) _
          refine XS.iconst X159.here hx rfl (hb hby at_523) ?_
          show Steps p.tables e below (T159.setTop (mkF m 524 #[.val (.long p0), .second, .val (.long p1), .second, .val (.int p2), .val (.int p3), .val (.int p4), .val (.int p5), .val (.int c8), .val (.int c9), .val (.int c10), .val (.int c11), .val (.int c12), .val (.int c13), .val (.int c14), .val (.int c15), .val (.int c16), .val (.int c17), .val (.int c18), .val (.int c19), .val (.int c20), .val (.int c21), .val (.int c22), .val (.int c23), .val (.int c24), .val (.ref s25), .val (.ref s26), .val (.ref s27), .val (.ref s28), .val (.ref b29), .val (.ref b30), .val (.int (((p5.toUInt32 >>> ((7 : Int32) &&& 31).toUInt32).toInt32) &&& (3 : Int32))), .val (.int c32)] [(.int (1 : Int32))])) _
          refine XS.goto X159.here hx rfl (pc0 := 524) (pc' := 528) rfl (hb hby at_524) (by decide) (by decide) ?_
          show Steps p.tables e below (T159.setTop (mkF m 528 #[.val (.long p0), .second, .val (.long p1), .second, .val (.int p2), .val (.int p3), .val (.int p4), .val (.int p5), .val (.int c8), .val (.int c9), .val (.int c10), .val (.int c11), .val (.int c12), .val (.int c13), .val (.int c14), .val (.int c15), .val (.int c16), .val (.int c17), .val (.int c18), .val (.int c19), .val (.int c20), .val (.int c21), .val (.int c22), .val (.int c23), .val (.int c24), .val (.ref s25), .val (.ref s26), .val (.ref s27), .val (.ref s28), .val (.ref b29), .val (.ref b30), .val (.int (((p5.toUInt32 >>> ((7 : Int32) &&& 31).toUInt32).toInt32) &&& (3 : Int32))), .val (.int c32)] [(.int (1 : Int32))])) _
          exact retN X159 hx (t := .boolean) hret0 (by simp) (hb hby at_528) hr
        · show Q0 n0 _ T159.heap _
          rw [eh159]
          exact ⟨rfl, N159⟩
set_option maxRecDepth 65536 in
set_option maxHeartbeats 40000000 in
theorem comes_1 {Post : Tables → Env → Array Value → State → Outcome → State → Prop} (hpost : ∀ tb e args s v u, (limb_1_1.after args s (.returned v) u = true ∧ limb_1_2.after args s (.returned v) u = true ∧ True) → FrameEnd s (.returned v) u (Jvm.fieldLocs frame_1_writes args s ++ Jvm.arrayLocs frame_1_arrays args s ++ Jvm.staticLocs frame_1_statics s) 40 192 → Post tb e args s (.returned v) u) :
    ArmFor flags0 classFile x code maxLocals ret World_1 tables_1 room_1 Calls_1 rest_1 Pre_1 Post := by
  intro l hfl _ _ p e ha hc hk s m args below hf hA hF happ hP
  obtain ⟨hcalls, hrest, hpre⟩ := hP
  obtain ⟨-, -, -, hnamed, -, -, -, hat⟩ := (Spec.applies_iff hf).mp happ
  obtain ⟨hg, hn⟩ := and_e (Cond.before_iff.mp (show (Jvm.Cond.and given_1 narrow_1).before args s = true from hpre))
  obtain ⟨g0, r0⟩ := and_e hg
  obtain ⟨g1, r1⟩ := and_e r0
  obtain ⟨g2, r2⟩ := and_e r1
  obtain ⟨g3, r3⟩ := and_e r2
  obtain ⟨g4, r4⟩ := and_e r3
  obtain ⟨g5, r5⟩ := and_e r4
  obtain ⟨w0, w1, w2, w3, w4, w5, rfl⟩ : ∃ w0 w1 w2 w3 w4 w5 : Value, args = #[w0, w1, w2, w3, w4, w5] := by
    have hs : args.size = 6 := by simpa [Cond.value, given_1] using g0
    obtain ⟨L⟩ := args
    match L, hs with
    | [w0, w1, w2, w3, w4, w5], _ => exact ⟨w0, w1, w2, w3, w4, w5, rfl⟩
  have hw := fun d (hd : d ∈ tables_1) => atoms_spec (ws := Jvm.Cond.code x code maxLocals ret :: tables_1) hat d (List.mem_cons_of_mem _ hd)
  have hfit : Fit s := fun {y c} hc i hi => by
    obtain ⟨ha, rfl⟩ := Array.getElem?_eq_some_iff.mp hc
    have q := List.all_eq_true.mp ((Array.all_eq_true_iff_forall_mem.mp hF) _ (Array.getElem_mem ha)) i (List.mem_range.mpr hi)
    simpa [Array.getElem?_eq_getElem hi] using q
  obtain ⟨hsets, hown0⟩ := atoms_of _ (rest_1_c_eq ▸ (show rest_1_c.before _ s = true from hrest))
  have hr0 := Cond.before_iff.mp hown0
  obtain ⟨i0, ei0⟩ := isL_v g1
  obtain rfl : w0 = (.long i0) := Option.some.inj ei0
  obtain ⟨i1, ei1⟩ := isL_v g2
  obtain rfl : w1 = (.long i1) := Option.some.inj ei1
  obtain ⟨i2, ei2⟩ := is_v g3
  obtain rfl : w2 = (.int i2) := Option.some.inj ei2
  obtain ⟨i3, ei3⟩ := is_v g4
  obtain rfl : w3 = (.int i3) := Option.some.inj ei3
  obtain ⟨i4, ei4⟩ := is_v g5
  obtain rfl : w4 = (.int i4) := Option.some.inj ei4
  obtain ⟨i5, ei5⟩ := is_v r5
  obtain rfl : w5 = (.int i5) := Option.some.inj ei5
  have n5 := not_v (Cond.before_iff.mp (hsets _ (List.mem_of_getElem? (i := 2) rfl)))
  obtain ⟨G1, e10⟩ := is_v (Cond.before_iff.mp (hsets _ (List.mem_of_getElem? (i := 1) rfl)))
  have S12 : Sta s s.heap "java/lang/String" "COMPACT_STRINGS" "Z" (.int G1) := Sta.start e10 (Or.inl (hsets _ (List.mem_of_getElem? (i := 0) rfl)))
  have c17 : ¬ (G1 = (0 : Int32)) := gotF (Cond.eq_ints e10 (Term.int_eval (0))) n5
  obtain ⟨n, o, h1, h2, h3, _, L, rfl, ⟨rfl, N⟩, hq⟩ := rm0 l s _ hw tables_1 i0 i1 i2 i3 i4 i5 G1 s.heap s.heap.size (Nat.le_refl _) S12 c17 (Old.start s) p e ha hc hk s m _ below hf ((Spec.applies_iff_loose hf).mp happ).1 ⟨rfl, State.Warmed39.refl s, rfl⟩ trivial
  refine ⟨n, _, h1, h2, h3, hpost _ _ _ _ _ _ ⟨Cond.after_iff.mpr rfl, Cond.after_iff.mpr (eq_i res_at (Term.int_eval (1)) rfl), trivial⟩ ⟨hq.1, hq.2.1, (hq.2.2.sift fun y hy => Or.inr (N y hy)).mono (by decide) (by decide)⟩⟩
theorem main_1_1 : Claimed_1_1 := comes_1 fun _ _ _ _ _ _ h hF => ⟨h.1, hF⟩
theorem main_1_2 : Claimed_1_2 := comes_1 fun _ _ _ _ _ _ h hF => ⟨h.2.1, hF⟩
end Jvm.Pilot.@@N@@
namespace Jvm.Pilot.@@N@@
open Jvm Jvm.ClassFile Sem Op Lib Jvm.Free Jvm.Stand Jvm.Pilot.@@N@@.Jvm.D
/-! MADE BY PROGRAM (witnessworld.py) out of the Statement's table words and the real class files: 20 classes; the members and pool entries that the words name. The judged class is class 1, her method 3. -/
namespace start1
open Jvm.ClassFile
def u (s : String) : CpInfo := .utf8 (stringToUtf16 s)
/-- a pool by its gaps: so many unusable entries, then the entry; so many at the end -/
def gap : Nat → List CpInfo → List CpInfo
  | 0, r => r
  | n + 1, r => .unusable :: gap n r
def poolList (es : List (Nat × CpInfo)) (last : Nat) : List CpInfo := es.foldr (fun e r => gap e.1 (e.2 :: r)) (gap last [])
def pool (es : List (Nat × CpInfo)) (last : Nat) : Array CpInfo := ⟨poolList es last⟩
def fileOf (pool : Array CpInfo) (this : Nat) (attrs : Array Attribute := #[]) (ms : Array MethodInfo := #[]) (fl : Nat := 33) (sup : Nat := 0) (ifs : Array Nat := #[]) (fds : Array FieldInfo := #[]) : ClassFile where
  minorVersion := 0
  majorVersion := 65
  constantPool := pool
  accessFlags := fl
  thisClass := this
  superClass := sup
  interfaces := ifs
  fields := fds
  methods := ms
  attributes := attrs
def plain (name : String) (sup : Option ClassId) : Class where
  name := name
  kind := .ordinary
  loader := none
  accessFlags := 33
  super := sup
  interfaces := #[]
  cf := none
  fields := #[]
  methods := #[]
  instanceTypes := #[]
  staticTypes := #[]
  resolved := #[]
  callSites := []
  init := .initialized
  statics := none
  mirror := none

def pool0 : Array CpInfo := pool [(5, u "<init>"), (0, u "()V"), (1, .class_ 10), (1, u "java/lang/Object")] 113

def k0c0 : Code := { maxStack := 0, maxLocals := 1, code := object_method_1_code, exceptionTable := #[], attributes := #[] }
def k0m0 : Method := { name := "<init>", desc := "()V", sig := { parameters := [], returnType := none }, accessFlags := 1, code := some k0c0 }
/-- java/lang/Object -/
def k0 : Class := { plain "java/lang/Object" none with
  accessFlags := 33
  interfaces := #[]
  cf := some (fileOf pool0 8 #[] #[{ accessFlags := 1, nameIndex := 5, descriptorIndex := 6, attributes := #[] }] 33 0 #[] #[])
  fields := #[]
  methods := #[k0m0]
  instanceTypes := #[]
  staticTypes := #[]
  resolved := Array.replicate 124 none
  statics := none }

def pool1 : Array CpInfo := pool [(2, .class_ 4), (1, u "java/lang/Object"), (0, u "<init>"), (0, u "()V"), (0, .class_ 8), (0, u "java/lang/String"), (0, .methodref 7 10), (0, .nameAndType 5 11), (0, u "([C)V"), (0, .long 255), (1, .methodref 15 16), (0, .class_ 17), (0, .nameAndType 18 19), (0, u "com/example/ample_search/amplesearch/analysis/TokenEqualsPinLaw"), (0, u "mk"), (0, u "(ICC)Ljava/lang/String;"), (0, .class_ 21), (0, u "com/example/ample_search/amplesearch/analysis/Token"), (0, .methodref 20 23), (0, .nameAndType 5 24), (0, u "(Ljava/lang/String;IILjava/lang/String;I)V"), (0, .methodref 20 26), (0, .nameAndType 27 28), (0, u "equals"), (0, u "(Ljava/lang/Object;)Z"), (0, .methodref 15 30), (0, .nameAndType 31 32), (0, u "same"), (0, u "(ICCICC)Z"), (3, u "law"), (0, u "(JJIIII)Z")] 2

def k1m0 : Method := { name := "<init>", desc := "()V", sig := { parameters := [], returnType := none }, accessFlags := 1, code := none }
def k1c1 : Code := { maxStack := 6, maxLocals := 3, code := method_2_code, exceptionTable := #[], attributes := #[] }
def k1m1 : Method := { name := "mk", desc := "(ICC)Ljava/lang/String;", sig := { parameters := [.int, .char, .char], returnType := some (.object "java/lang/String") }, accessFlags := 10, code := some k1c1 }
def k1c2 : Code := { maxStack := 2, maxLocals := 6, code := method_3_code, exceptionTable := #[], attributes := #[] }
def k1m2 : Method := { name := "same", desc := "(ICCICC)Z", sig := { parameters := [.int, .char, .char, .int, .char, .char], returnType := some .boolean }, accessFlags := 10, code := some k1c2 }
def k1c3 : Code := { maxStack := 7, maxLocals := 33, code := code, exceptionTable := #[], attributes := #[] }
def k1m3 : Method := { name := "law", desc := "(JJIIII)Z", sig := { parameters := [.long, .long, .int, .int, .int, .int], returnType := some .boolean }, accessFlags := 9, code := some k1c3 }
/-- com/example/ample_search/amplesearch/analysis/TokenEqualsPinLaw -/
def k1 : Class := { plain "com/example/ample_search/amplesearch/analysis/TokenEqualsPinLaw" (some 0) with
  accessFlags := 49
  interfaces := #[]
  cf := some (fileOf pool1 15 #[] #[{ accessFlags := 1, nameIndex := 5, descriptorIndex := 6, attributes := #[] }, { accessFlags := 10, nameIndex := 18, descriptorIndex := 19, attributes := #[] }, { accessFlags := 10, nameIndex := 31, descriptorIndex := 32, attributes := #[] }, { accessFlags := 9, nameIndex := 36, descriptorIndex := 37, attributes := #[] }] 49 2 #[] #[])
  fields := #[]
  methods := #[k1m0, k1m1, k1m2, k1m3]
  instanceTypes := #[]
  staticTypes := #[]
  resolved := Array.replicate 40 none
  statics := none }

def pool2 : Array CpInfo := pool [(1, .class_ 2), (0, u "java/io/Serializable"), (0, .class_ 4), (0, u "java/lang/Object")] 2

/-- java/io/Serializable -/
def k2 : Class := { plain "java/io/Serializable" (some 0) with
  accessFlags := 1537
  interfaces := #[]
  cf := some (fileOf pool2 1 #[] #[] 1537 3 #[] #[])
  fields := #[]
  methods := #[]
  instanceTypes := #[]
  staticTypes := #[]
  resolved := Array.replicate 7 none
  statics := none }

def pool3 : Array CpInfo := pool [(1, .class_ 2), (0, u "java/lang/Comparable"), (0, .class_ 4), (0, u "java/lang/Object")] 7

/-- java/lang/Comparable -/
def k3 : Class := { plain "java/lang/Comparable" (some 0) with
  accessFlags := 1537
  interfaces := #[]
  cf := some (fileOf pool3 1 #[] #[] 1537 3 #[] #[])
  fields := #[]
  methods := #[]
  instanceTypes := #[]
  staticTypes := #[]
  resolved := Array.replicate 12 none
  statics := none }

def pool4 : Array CpInfo := pool [(2, .class_ 4), (1, u "java/lang/CharSequence"), (42, .class_ 48), (0, u "java/lang/CharSequence$1CodePointIterator"), (10, .class_ 60), (0, u "java/lang/CharSequence$1CharIterator"), (5, .class_ 67), (0, u "java/lang/Object")] 63

/-- java/lang/CharSequence -/
def k4 : Class := { plain "java/lang/CharSequence" (some 0) with
  accessFlags := 1537
  interfaces := #[]
  cf := some (fileOf pool4 2 #[.nestMembers #[47, 59]] #[] 1537 66 #[] #[])
  fields := #[]
  methods := #[]
  instanceTypes := #[]
  staticTypes := #[]
  resolved := Array.replicate 131 none
  statics := none }

def pool5 : Array CpInfo := pool [(1, .class_ 2), (0, u "java/lang/constant/Constable"), (0, .class_ 4), (0, u "java/lang/Object")] 6

/-- java/lang/constant/Constable -/
def k5 : Class := { plain "java/lang/constant/Constable" (some 0) with
  accessFlags := 1537
  interfaces := #[]
  cf := some (fileOf pool5 1 #[] #[] 1537 3 #[] #[])
  fields := #[]
  methods := #[]
  instanceTypes := #[]
  staticTypes := #[]
  resolved := Array.replicate 11 none
  statics := none }

def pool6 : Array CpInfo := pool [(1, .class_ 2), (0, u "java/lang/constant/ConstantDesc"), (0, .class_ 4), (0, u "java/lang/Object")] 32

/-- java/lang/constant/ConstantDesc -/
def k6 : Class := { plain "java/lang/constant/ConstantDesc" (some 0) with
  accessFlags := 1537
  interfaces := #[]
  cf := some (fileOf pool6 1 #[] #[] 1537 3 #[] #[])
  fields := #[]
  methods := #[]
  instanceTypes := #[]
  staticTypes := #[]
  resolved := Array.replicate 37 none
  statics := none }

def pool7 : Array CpInfo := pool [(1, .methodref 2 3), (0, .class_ 4), (0, .nameAndType 5 6), (0, u "java/lang/Object"), (0, u "<init>"), (0, u "()V"), (2, .fieldref 10 11), (0, .class_ 12), (0, .nameAndType 13 14), (0, u "java/lang/String"), (0, u "value"), (0, u "[B"), (0, .fieldref 10 16), (0, .nameAndType 17 18), (0, u "coder"), (0, u "B"), (2, u "hash"), (0, u "I"), (2, u "hashIsZero"), (0, u "Z"), (0, .methodref 10 28), (0, .nameAndType 5 29), (0, u "([CIILjava/lang/Void;)V"), (8, .fieldref 10 39), (0, .nameAndType 40 26), (0, u "COMPACT_STRINGS"), (1, .class_ 44), (1, u "java/lang/StringUTF16"), (0, u "compress"), (1, .methodref 42 48), (0, .nameAndType 49 50), (0, u "coderFromArrayLen"), (0, u "([BI)B"), (56, .class_ 109), (1, u "java/lang/StringLatin1"), (67, .methodref 42 178), (0, .nameAndType 45 179), (0, u "([CII)[B"), (361, .methodref 107 542), (0, .nameAndType 543 544), (0, u "equals"), (0, u "([B[B)Z"), (28, u "(Ljava/lang/Object;)Z"), (1, .class_ 576), (0, u "java/lang/CharSequence"), (22, u "CASE_INSENSITIVE_ORDER"), (0, u "Ljava/util/Comparator;"), (409, u "([C)V"), (90, u "serialPersistentFields"), (0, u "[Ljava/io/ObjectStreamField;"), (0, .class_ 1104), (0, u "java/lang/String$CaseInsensitiveComparator"), (1, .class_ 1107), (0, u "java/io/Serializable"), (0, .class_ 1109), (0, u "java/lang/Comparable"), (0, .class_ 1111), (0, u "java/lang/constant/Constable"), (0, .class_ 1113), (0, u "java/lang/constant/ConstantDesc"), (2, u "serialVersionUID"), (0, u "J"), (3, u "REPL"), (0, u "C"), (2, u "LATIN1"), (1, u "UTF16")] 323

def k7m0 : Method := { name := "<init>", desc := "()V", sig := { parameters := [], returnType := none }, accessFlags := 1, code := none }
def k7c1 : Code := { maxStack := 5, maxLocals := 2, code := jdk_42_method_3_code, exceptionTable := #[], attributes := #[] }
def k7m1 : Method := { name := "<init>", desc := "([C)V", sig := { parameters := [(.array .char)], returnType := none }, accessFlags := 1, code := some k7c1 }
def k7c2 : Code := { maxStack := 2, maxLocals := 3, code := jdk_42_method_66_code, exceptionTable := #[], attributes := #[] }
def k7m2 : Method := { name := "equals", desc := "(Ljava/lang/Object;)Z", sig := { parameters := [(.object "java/lang/Object")], returnType := some .boolean }, accessFlags := 1, code := some k7c2 }
def k7c3 : Code := { maxStack := 4, maxLocals := 6, code := jdk_42_method_149_code, exceptionTable := #[], attributes := #[] }
def k7m3 : Method := { name := "<init>", desc := "([CIILjava/lang/Void;)V", sig := { parameters := [(.array .char), .int, .int, (.object "java/lang/Void")], returnType := none }, accessFlags := 2, code := some k7c3 }
/-- java/lang/String -/
def k7 : Class := { plain "java/lang/String" (some 0) with
  accessFlags := 49
  interfaces := #[2, 3, 4, 5, 6]
  cf := some (fileOf pool7 10 #[.nestMembers #[1103]] #[{ accessFlags := 1, nameIndex := 5, descriptorIndex := 6, attributes := #[] }, { accessFlags := 1, nameIndex := 5, descriptorIndex := 1010, attributes := #[] }, { accessFlags := 1, nameIndex := 543, descriptorIndex := 573, attributes := #[] }, { accessFlags := 2, nameIndex := 5, descriptorIndex := 29, attributes := #[] }] 49 2 #[1106, 1108, 575, 1110, 1112] #[{ accessFlags := 18, nameIndex := 13, descriptorIndex := 14, attributes := #[] }, { accessFlags := 18, nameIndex := 17, descriptorIndex := 18, attributes := #[] }, { accessFlags := 2, nameIndex := 21, descriptorIndex := 22, attributes := #[] }, { accessFlags := 2, nameIndex := 25, descriptorIndex := 26, attributes := #[] }, { accessFlags := 26, nameIndex := 1116, descriptorIndex := 1117, attributes := #[] }, { accessFlags := 24, nameIndex := 40, descriptorIndex := 26, attributes := #[] }, { accessFlags := 26, nameIndex := 1101, descriptorIndex := 1102, attributes := #[] }, { accessFlags := 26, nameIndex := 1121, descriptorIndex := 1122, attributes := #[] }, { accessFlags := 25, nameIndex := 599, descriptorIndex := 600, attributes := #[] }, { accessFlags := 24, nameIndex := 1125, descriptorIndex := 18, attributes := #[] }, { accessFlags := 24, nameIndex := 1127, descriptorIndex := 18, attributes := #[] }])
  fields := #[{ name := "value", type := (.array .byte), accessFlags := 18, slot := 0, constantValue := 0 }, { name := "coder", type := .byte, accessFlags := 18, slot := 1, constantValue := 0 }, { name := "hash", type := .int, accessFlags := 2, slot := 2, constantValue := 0 }, { name := "hashIsZero", type := .boolean, accessFlags := 2, slot := 3, constantValue := 0 }, { name := "serialVersionUID", type := .long, accessFlags := 26, slot := 0, constantValue := 0 }, { name := "COMPACT_STRINGS", type := .boolean, accessFlags := 24, slot := 1, constantValue := 0 }, { name := "serialPersistentFields", type := (.array (.object "java/io/ObjectStreamField")), accessFlags := 26, slot := 2, constantValue := 0 }, { name := "REPL", type := .char, accessFlags := 26, slot := 3, constantValue := 0 }, { name := "CASE_INSENSITIVE_ORDER", type := (.object "java/util/Comparator"), accessFlags := 25, slot := 4, constantValue := 0 }, { name := "LATIN1", type := .byte, accessFlags := 24, slot := 5, constantValue := 0 }, { name := "UTF16", type := .byte, accessFlags := 24, slot := 6, constantValue := 0 }]
  methods := #[k7m0, k7m1, k7m2, k7m3]
  instanceTypes := #[(.array .byte), .byte, .int, .boolean]
  staticTypes := #[.long, .boolean, (.array (.object "java/io/ObjectStreamField")), .char, (.object "java/util/Comparator"), .byte, .byte]
  resolved := Array.replicate 1451 none
  statics := some 0 }

def pool8 : Array CpInfo := pool [(6, .class_ 8), (1, u "java/lang/Object"), (0, u "<init>"), (0, u "()V"), (1, .class_ 14), (1, u "java/lang/StringUTF16"), (31, u "$assertionsDisabled"), (0, u "Z"), (13, u "HI_BYTE_SHIFT"), (0, u "I"), (2, u "LO_BYTE_SHIFT"), (49, .methodref 12 116), (0, .nameAndType 117 118), (0, u "compress"), (0, u "([CI[BII)I"), (3, u "([CII)[B"), (138, u "coderFromArrayLen"), (0, u "([BI)B"), (106, .class_ 371), (1, u "java/lang/StringUTF16$LinesSpliterator"), (58, u "MAX_LENGTH"), (196, .class_ 628), (0, u "java/lang/StringUTF16$CodePointsSpliterator"), (0, .class_ 630), (0, u "java/lang/StringUTF16$CharsSpliterator")] 4

def k8m0 : Method := { name := "<init>", desc := "()V", sig := { parameters := [], returnType := none }, accessFlags := 0, code := none }
def k8c1 : Code := { maxStack := 2, maxLocals := 2, code := jdk_52_method_15_code, exceptionTable := #[], attributes := #[] }
def k8m1 : Method := { name := "coderFromArrayLen", desc := "([BI)B", sig := { parameters := [(.array .byte), .int], returnType := some .byte }, accessFlags := 8, code := some k8c1 }
def k8c2 : Code := { maxStack := 5, maxLocals := 6, code := jdk_52_method_16_code, exceptionTable := #[], attributes := #[] }
def k8m2 : Method := { name := "compress", desc := "([CII)[B", sig := { parameters := [(.array .char), .int, .int], returnType := some (.array .byte) }, accessFlags := 9, code := some k8c2 }
def k8c3 : Code := { maxStack := 3, maxLocals := 7, code := jdk_52_method_21_code, exceptionTable := #[], attributes := #[] }
def k8m3 : Method := { name := "compress", desc := "([CI[BII)I", sig := { parameters := [(.array .char), .int, (.array .byte), .int, .int], returnType := some .int }, accessFlags := 9, code := some k8c3 }
/-- java/lang/StringUTF16 -/
def k8 : Class := { plain "java/lang/StringUTF16" (some 0) with
  accessFlags := 48
  interfaces := #[]
  cf := some (fileOf pool8 12 #[.nestMembers #[627, 629, 369]] #[{ accessFlags := 0, nameIndex := 9, descriptorIndex := 10, attributes := #[] }, { accessFlags := 8, nameIndex := 261, descriptorIndex := 262, attributes := #[] }, { accessFlags := 9, nameIndex := 117, descriptorIndex := 122, attributes := #[] }, { accessFlags := 9, nameIndex := 117, descriptorIndex := 118, attributes := #[] }] 48 6 #[] #[{ accessFlags := 26, nameIndex := 61, descriptorIndex := 62, attributes := #[] }, { accessFlags := 26, nameIndex := 65, descriptorIndex := 62, attributes := #[] }, { accessFlags := 24, nameIndex := 430, descriptorIndex := 62, attributes := #[] }, { accessFlags := 4120, nameIndex := 46, descriptorIndex := 47, attributes := #[] }])
  fields := #[{ name := "HI_BYTE_SHIFT", type := .int, accessFlags := 26, slot := 0, constantValue := 0 }, { name := "LO_BYTE_SHIFT", type := .int, accessFlags := 26, slot := 1, constantValue := 0 }, { name := "MAX_LENGTH", type := .int, accessFlags := 24, slot := 2, constantValue := 0 }, { name := "$assertionsDisabled", type := .boolean, accessFlags := 4120, slot := 3, constantValue := 0 }]
  methods := #[k8m0, k8m1, k8m2, k8m3]
  instanceTypes := #[]
  staticTypes := #[.int, .int, .int, .boolean]
  resolved := Array.replicate 635 none
  statics := none }

def pool9 : Array CpInfo := pool [(1, .methodref 2 3), (0, .class_ 4), (0, .nameAndType 5 6), (0, u "java/lang/Object"), (0, u "<init>"), (0, u "()V"), (0, .fieldref 8 9), (0, .class_ 10), (0, .nameAndType 11 12), (0, u "com/example/ample_search/amplesearch/analysis/Token"), (0, u "term"), (0, u "Ljava/lang/String;"), (0, .fieldref 8 14), (0, .nameAndType 15 16), (0, u "startOffset"), (0, u "I"), (0, .fieldref 8 18), (0, .nameAndType 19 16), (0, u "endOffset"), (0, .fieldref 8 21), (0, .nameAndType 22 12), (0, u "type"), (0, .fieldref 8 24), (0, .nameAndType 25 16), (0, u "position"), (2, u "(Ljava/lang/String;IILjava/lang/String;I)V"), (0, .methodref 30 31), (0, .class_ 32), (0, .nameAndType 33 34), (0, u "java/lang/String"), (0, u "equals"), (0, u "(Ljava/lang/Object;)Z")] 44

def k9c0 : Code := { maxStack := 2, maxLocals := 6, code := prog_12_method_1_code, exceptionTable := #[], attributes := #[] }
def k9m0 : Method := { name := "<init>", desc := "(Ljava/lang/String;IILjava/lang/String;I)V", sig := { parameters := [(.object "java/lang/String"), .int, .int, (.object "java/lang/String"), .int], returnType := none }, accessFlags := 1, code := some k9c0 }
def k9c1 : Code := { maxStack := 2, maxLocals := 3, code := prog_12_method_9_code, exceptionTable := #[], attributes := #[] }
def k9m1 : Method := { name := "equals", desc := "(Ljava/lang/Object;)Z", sig := { parameters := [(.object "java/lang/Object")], returnType := some .boolean }, accessFlags := 1, code := some k9c1 }
/-- com/example/ample_search/amplesearch/analysis/Token -/
def k9 : Class := { plain "com/example/ample_search/amplesearch/analysis/Token" (some 0) with
  accessFlags := 49
  interfaces := #[]
  cf := some (fileOf pool9 8 #[] #[{ accessFlags := 1, nameIndex := 5, descriptorIndex := 28, attributes := #[] }, { accessFlags := 1, nameIndex := 33, descriptorIndex := 34, attributes := #[] }] 49 2 #[] #[{ accessFlags := 18, nameIndex := 11, descriptorIndex := 12, attributes := #[] }, { accessFlags := 18, nameIndex := 15, descriptorIndex := 16, attributes := #[] }, { accessFlags := 18, nameIndex := 19, descriptorIndex := 16, attributes := #[] }, { accessFlags := 18, nameIndex := 22, descriptorIndex := 12, attributes := #[] }, { accessFlags := 18, nameIndex := 25, descriptorIndex := 16, attributes := #[] }])
  fields := #[{ name := "term", type := (.object "java/lang/String"), accessFlags := 18, slot := 0, constantValue := 0 }, { name := "startOffset", type := .int, accessFlags := 18, slot := 1, constantValue := 0 }, { name := "endOffset", type := .int, accessFlags := 18, slot := 2, constantValue := 0 }, { name := "type", type := (.object "java/lang/String"), accessFlags := 18, slot := 3, constantValue := 0 }, { name := "position", type := .int, accessFlags := 18, slot := 4, constantValue := 0 }]
  methods := #[k9m0, k9m1]
  instanceTypes := #[(.object "java/lang/String"), .int, .int, (.object "java/lang/String"), .int]
  staticTypes := #[]
  resolved := Array.replicate 79 none
  statics := none }

def pool10 : Array CpInfo := pool [(4, .class_ 6), (1, u "java/lang/Object"), (0, u "<init>"), (0, u "()V"), (5, .class_ 16), (1, u "java/lang/StringLatin1"), (104, u "$assertionsDisabled"), (0, u "Z"), (98, .class_ 223), (1, u "java/lang/StringLatin1$LinesSpliterator"), (57, u "equals"), (0, u "([B[B)Z"), (107, .class_ 391), (0, u "java/lang/StringLatin1$CharsSpliterator")] 3

def k10m0 : Method := { name := "<init>", desc := "()V", sig := { parameters := [], returnType := none }, accessFlags := 0, code := none }
def k10c1 : Code := { maxStack := 3, maxLocals := 3, code := jdk_43_method_13_code, exceptionTable := #[], attributes := #[] }
def k10m1 : Method := { name := "equals", desc := "([B[B)Z", sig := { parameters := [(.array .byte), (.array .byte)], returnType := some .boolean }, accessFlags := 9, code := some k10c1 }
/-- java/lang/StringLatin1 -/
def k10 : Class := { plain "java/lang/StringLatin1" (some 0) with
  accessFlags := 48
  interfaces := #[]
  cf := some (fileOf pool10 14 #[.nestMembers #[390, 221]] #[{ accessFlags := 0, nameIndex := 7, descriptorIndex := 8, attributes := #[] }, { accessFlags := 9, nameIndex := 281, descriptorIndex := 282, attributes := #[] }] 48 4 #[] #[{ accessFlags := 4120, nameIndex := 121, descriptorIndex := 122, attributes := #[] }])
  fields := #[{ name := "$assertionsDisabled", type := .boolean, accessFlags := 4120, slot := 0, constantValue := 0 }]
  methods := #[k10m0, k10m1]
  instanceTypes := #[]
  staticTypes := #[.boolean]
  resolved := Array.replicate 395 none
  statics := none }

def pool11 : Array CpInfo := pool [(2, .class_ 4), (1, u "java/lang/Object"), (0, u "<init>"), (0, u "()V"), (17, .class_ 26), (1, u "jdk/internal/util/Preconditions"), (28, .class_ 56), (0, u "jdk/internal/util/Preconditions$4"), (57, .class_ 115), (0, u "jdk/internal/util/Preconditions$1"), (7, u "SIOOBE_FORMATTER"), (0, u "Ljava/util/function/BiFunction;"), (0, .class_ 126), (0, u "jdk/internal/util/Preconditions$2"), (3, u "AIOOBE_FORMATTER"), (0, .class_ 132), (0, u "jdk/internal/util/Preconditions$3"), (3, u "IOOBE_FORMATTER")] 57

def k11m0 : Method := { name := "<init>", desc := "()V", sig := { parameters := [], returnType := none }, accessFlags := 1, code := none }
/-- jdk/internal/util/Preconditions -/
def k11 : Class := { plain "jdk/internal/util/Preconditions" (some 0) with
  accessFlags := 33
  interfaces := #[]
  cf := some (fileOf pool11 24 #[.nestMembers #[55, 131, 125, 114]] #[{ accessFlags := 1, nameIndex := 5, descriptorIndex := 6, attributes := #[] }] 33 2 #[] #[{ accessFlags := 25, nameIndex := 123, descriptorIndex := 124, attributes := #[] }, { accessFlags := 25, nameIndex := 130, descriptorIndex := 124, attributes := #[] }, { accessFlags := 25, nameIndex := 136, descriptorIndex := 124, attributes := #[] }])
  fields := #[{ name := "SIOOBE_FORMATTER", type := (.object "java/util/function/BiFunction"), accessFlags := 25, slot := 0, constantValue := 0 }, { name := "AIOOBE_FORMATTER", type := (.object "java/util/function/BiFunction"), accessFlags := 25, slot := 1, constantValue := 0 }, { name := "IOOBE_FORMATTER", type := (.object "java/util/function/BiFunction"), accessFlags := 25, slot := 2, constantValue := 0 }]
  methods := #[k11m0]
  instanceTypes := #[]
  staticTypes := #[(.object "java/util/function/BiFunction"), (.object "java/util/function/BiFunction"), (.object "java/util/function/BiFunction")]
  resolved := Array.replicate 194 none
  statics := some 1 }

def pool12 : Array CpInfo := pool [(9, u "<init>"), (6, .class_ 18), (1, u "java/lang/Object"), (0, u "()V"), (1, .class_ 23), (1, u "jdk/internal/util/ArraysSupport"), (0, u "LOG2_ARRAY_LONG_INDEX_SCALE"), (0, u "I"), (2, u "U"), (0, u "Ljdk/internal/misc/Unsafe;"), (8, u "BIG_ENDIAN"), (0, u "Z"), (8, u "LOG2_BYTE_BIT_SIZE"), (4, u "LOG2_ARRAY_INT_INDEX_SCALE"), (54, u "JLA"), (0, u "Ljdk/internal/access/JavaLangAccess;"), (11, u "LOG2_ARRAY_BOOLEAN_INDEX_SCALE"), (9, u "LOG2_ARRAY_BYTE_INDEX_SCALE"), (5, u "LOG2_ARRAY_CHAR_INDEX_SCALE"), (5, u "LOG2_ARRAY_SHORT_INDEX_SCALE"), (18, u "LOG2_ARRAY_FLOAT_INDEX_SCALE"), (24, u "LOG2_ARRAY_DOUBLE_INDEX_SCALE"), (89, u "T_BOOLEAN"), (2, u "T_CHAR"), (1, u "T_FLOAT"), (1, u "T_DOUBLE"), (1, u "T_BYTE"), (1, u "T_SHORT"), (1, u "T_INT"), (1, u "T_LONG"), (1, u "SOFT_MAX_ARRAY_LENGTH")] 83

def k12m0 : Method := { name := "<init>", desc := "()V", sig := { parameters := [], returnType := none }, accessFlags := 2, code := none }
/-- jdk/internal/util/ArraysSupport -/
def k12 : Class := { plain "jdk/internal/util/ArraysSupport" (some 0) with
  accessFlags := 33
  interfaces := #[]
  cf := some (fileOf pool12 21 #[] #[{ accessFlags := 2, nameIndex := 9, descriptorIndex := 19, attributes := #[] }] 33 16 #[] #[{ accessFlags := 24, nameIndex := 28, descriptorIndex := 29, attributes := #[] }, { accessFlags := 26, nameIndex := 38, descriptorIndex := 39, attributes := #[] }, { accessFlags := 25, nameIndex := 121, descriptorIndex := 25, attributes := #[] }, { accessFlags := 25, nameIndex := 131, descriptorIndex := 25, attributes := #[] }, { accessFlags := 25, nameIndex := 137, descriptorIndex := 25, attributes := #[] }, { accessFlags := 25, nameIndex := 143, descriptorIndex := 25, attributes := #[] }, { accessFlags := 25, nameIndex := 53, descriptorIndex := 25, attributes := #[] }, { accessFlags := 25, nameIndex := 24, descriptorIndex := 25, attributes := #[] }, { accessFlags := 25, nameIndex := 162, descriptorIndex := 25, attributes := #[] }, { accessFlags := 25, nameIndex := 187, descriptorIndex := 25, attributes := #[] }, { accessFlags := 26, nameIndex := 48, descriptorIndex := 25, attributes := #[] }, { accessFlags := 25, nameIndex := 277, descriptorIndex := 25, attributes := #[] }, { accessFlags := 25, nameIndex := 280, descriptorIndex := 25, attributes := #[] }, { accessFlags := 25, nameIndex := 282, descriptorIndex := 25, attributes := #[] }, { accessFlags := 25, nameIndex := 284, descriptorIndex := 25, attributes := #[] }, { accessFlags := 25, nameIndex := 286, descriptorIndex := 25, attributes := #[] }, { accessFlags := 25, nameIndex := 288, descriptorIndex := 25, attributes := #[] }, { accessFlags := 25, nameIndex := 290, descriptorIndex := 25, attributes := #[] }, { accessFlags := 25, nameIndex := 292, descriptorIndex := 25, attributes := #[] }, { accessFlags := 26, nameIndex := 108, descriptorIndex := 109, attributes := #[] }, { accessFlags := 25, nameIndex := 294, descriptorIndex := 25, attributes := #[] }])
  fields := #[{ name := "U", type := (.object "jdk/internal/misc/Unsafe"), accessFlags := 24, slot := 0, constantValue := 0 }, { name := "BIG_ENDIAN", type := .boolean, accessFlags := 26, slot := 1, constantValue := 0 }, { name := "LOG2_ARRAY_BOOLEAN_INDEX_SCALE", type := .int, accessFlags := 25, slot := 2, constantValue := 0 }, { name := "LOG2_ARRAY_BYTE_INDEX_SCALE", type := .int, accessFlags := 25, slot := 3, constantValue := 0 }, { name := "LOG2_ARRAY_CHAR_INDEX_SCALE", type := .int, accessFlags := 25, slot := 4, constantValue := 0 }, { name := "LOG2_ARRAY_SHORT_INDEX_SCALE", type := .int, accessFlags := 25, slot := 5, constantValue := 0 }, { name := "LOG2_ARRAY_INT_INDEX_SCALE", type := .int, accessFlags := 25, slot := 6, constantValue := 0 }, { name := "LOG2_ARRAY_LONG_INDEX_SCALE", type := .int, accessFlags := 25, slot := 7, constantValue := 0 }, { name := "LOG2_ARRAY_FLOAT_INDEX_SCALE", type := .int, accessFlags := 25, slot := 8, constantValue := 0 }, { name := "LOG2_ARRAY_DOUBLE_INDEX_SCALE", type := .int, accessFlags := 25, slot := 9, constantValue := 0 }, { name := "LOG2_BYTE_BIT_SIZE", type := .int, accessFlags := 26, slot := 10, constantValue := 0 }, { name := "T_BOOLEAN", type := .int, accessFlags := 25, slot := 11, constantValue := 0 }, { name := "T_CHAR", type := .int, accessFlags := 25, slot := 12, constantValue := 0 }, { name := "T_FLOAT", type := .int, accessFlags := 25, slot := 13, constantValue := 0 }, { name := "T_DOUBLE", type := .int, accessFlags := 25, slot := 14, constantValue := 0 }, { name := "T_BYTE", type := .int, accessFlags := 25, slot := 15, constantValue := 0 }, { name := "T_SHORT", type := .int, accessFlags := 25, slot := 16, constantValue := 0 }, { name := "T_INT", type := .int, accessFlags := 25, slot := 17, constantValue := 0 }, { name := "T_LONG", type := .int, accessFlags := 25, slot := 18, constantValue := 0 }, { name := "JLA", type := (.object "jdk/internal/access/JavaLangAccess"), accessFlags := 26, slot := 19, constantValue := 0 }, { name := "SOFT_MAX_ARRAY_LENGTH", type := .int, accessFlags := 25, slot := 20, constantValue := 0 }]
  methods := #[k12m0]
  instanceTypes := #[]
  staticTypes := #[(.object "jdk/internal/misc/Unsafe"), .boolean, .int, .int, .int, .int, .int, .int, .int, .int, .int, .int, .int, .int, .int, .int, .int, .int, .int, (.object "jdk/internal/access/JavaLangAccess"), .int]
  resolved := Array.replicate 378 none
  statics := none }

def pool13 : Array CpInfo := pool [(1, u "java/lang/Cloneable"), (0, .class_ 1), (0, u "java/lang/Object"), (0, .class_ 3)] 3

/-- java/lang/Cloneable -/
def k13 : Class := { plain "java/lang/Cloneable" (some 0) with
  accessFlags := 1537
  interfaces := #[]
  cf := some (fileOf pool13 2 #[] #[] 1537 4 #[] #[])
  fields := #[]
  methods := #[]
  instanceTypes := #[]
  staticTypes := #[]
  resolved := Array.replicate 8 none
  statics := none }

/-- the primitive byte -/
def k14 : Class := { plain "byte" none with kind := .primitive 'B', accessFlags := 0x411 }
/-- [B -/
def k15 : Class := { plain "[B" (some 0) with kind := .array 14 .byte, interfaces := #[13, 2], accessFlags := 1041 }

/-- the primitive char -/
def k16 : Class := { plain "char" none with kind := .primitive 'C', accessFlags := 0x411 }
/-- [C -/
def k17 : Class := { plain "[C" (some 0) with kind := .array 16 .char, interfaces := #[13, 2], accessFlags := 1041 }

/-- the primitive int -/
def k18 : Class := { plain "int" none with kind := .primitive 'I', accessFlags := 0x411 }
/-- [I -/
def k19 : Class := { plain "[I" (some 0) with kind := .array 18 .int, interfaces := #[13, 2], accessFlags := 1041 }

def heap : Heap := #[{ cls := 7, slots := #[.long 0, .int 1, .null, .int 0, .null, .int 0, .int 0], vm := .statics 7 },
  { cls := 11, slots := #[.null, .null, .null], vm := .statics 11 }]
def classes : Array Class := #[k0, k1, k2, k3, k4, k5, k6, k7, k8, k9, k10, k11, k12, k13, k14, k15, k16, k17, k18, k19]
def interned : List (Array UInt16 × Addr) := []
def slotsUsed : Nat := 10
def theMethod : MethodId := ⟨1, 3⟩
def args0 : Array Value := #[.long 5, .long 3, .int 7, .int 9, .int 1, .int 0]
def aboutOver (below : List Frame) : State where
  vm := { classes := classes, interned := interned.toArray }
  heap := heap
  slotsUsed := slotsUsed
  threads := #[{ frames := .invoking theMethod args0 :: below }]
def below0 : List Frame := [.native { method := ⟨0, 0⟩, args := #[] }]
def about1 : State := aboutOver below0
def p0 : Program := .bare "" "" ""
def e0 : Env := launch0.env 0 0 0
theorem w_frames : about1.frames = Frame.invoking theMethod args0 :: below0 := rfl
set_option maxRecDepth 65536 in
theorem w_args : argsFit about1.vm theMethod args0 = true := by decide +kernel
set_option maxRecDepth 65536 in
theorem w_heap : heapFits about1 = true := by decide +kernel
set_option maxRecDepth 65536 in
theorem w_runnable : about1.curStatus? = some .runnable := by decide +kernel
set_option maxRecDepth 65536 in
theorem w_alone : about1.alone = true := by decide +kernel
set_option maxRecDepth 65536 in
theorem w_named : about1.methodNamed? x = some theMethod := by decide +kernel
set_option maxRecDepth 65536 in
theorem w_hears : about1.hears theMethod below0 = true := by decide +kernel
set_option maxRecDepth 65536 in
theorem w_ripe : about1.ripe theMethod args0 below0 = true := by decide +kernel
theorem w_running : about1.status = .running := rfl
set_option maxRecDepth 65536 in
theorem w_room : about1.hasRoom e0.platform room_1 = true :=
  launch0.hasRoom_least _ room_1 (by decide +kernel) (by decide +kernel) (by decide +kernel) (by decide +kernel) (by decide +kernel) (by decide +kernel)
theorem allAtoms_all (ts : List Jvm.Cond) (a : Array Jvm.Value) (st : Jvm.State) : (allAtoms ts).before a st = ts.all (fun c => c.before a st) := by
  induction ts with
  | nil => rfl
  | cons c t ih =>
    show (Jvm.Cond.and c (allAtoms t)).before a st = _
    rw [Jvm.Cond.before_and, ih, List.all_cons]
def words1 : List Jvm.Cond := Jvm.Cond.code x code maxLocals ret :: tables_1
/-- a 'code' word, met by the world's own term for the bytes: nothing is compared byte by byte -/
theorem code_word {y : MethodName} {bytes : ByteArray} {mx : Nat} {rt : Option FieldType} {a : Array Value} {s : State} {m : MethodId} {meth : Method} {c : Code} (h1 : s.methodNamed? y = some m) (h2 : s.vm.method? m = some meth) (h3 : meth.code = some c) (h4 : c.code = bytes)
    (h5 : (c.maxLocals == mx && c.exceptionTable.isEmpty && decide (c.maxStack ≤ mostOperands) && decide (meth.sig.returnType = rt) && !meth.locks && decide (parseMethodDescriptor y.desc = some meth.sig)) = true) : (Jvm.Cond.code y bytes mx rt).before a s = true := by
  simp only [Bool.and_eq_true, beq_iff_eq, Bool.not_eq_true', decide_eq_true_eq] at h5
  obtain ⟨⟨⟨⟨⟨g1, g2⟩, g3⟩, g4⟩, g5⟩, g6⟩ := h5
  simp [Cond.before, Cond.holds, Cond.value, h1, h2, h3, h4, g1, g2, g3, g4, g5, g6]
def isCode : Jvm.Cond → Bool
  | .code _ _ _ _ => true
  | _ => false
theorem all_split {L : List Jvm.Cond} {P : Jvm.Cond → Bool} (h1 : L.all (fun c => isCode c || P c) = true) (h2 : ∀ c ∈ L.filter isCode, P c = true) : L.all P = true := by
  refine List.all_eq_true.mpr fun c hc => ?_
  have h := List.all_eq_true.mp h1 c hc
  rcases Bool.eq_false_or_eq_true (isCode c) with hi | hi
  · exact h2 c (List.mem_filter.mpr ⟨hc, hi⟩)
  · simpa [hi] using h
set_option maxRecDepth 65536 in
theorem w_c0 : (Jvm.Cond.code x code maxLocals ret).before args0 about1 = true := code_word (m := ⟨1, 3⟩) (meth := k1m3) (c := k1c3) (by decide +kernel) rfl rfl rfl (by decide +kernel)
set_option maxRecDepth 65536 in
theorem w_c1 : (Jvm.Cond.code ({ cls := "com/example/ample_search/amplesearch/analysis/TokenEqualsPinLaw", name := "mk", desc := "(ICC)Ljava/lang/String;" } : Jvm.MethodName) method_2_code (3 : Nat) (Option.some (Jvm.ClassFile.FieldType.object "java/lang/String"))).before args0 about1 = true := code_word (m := ⟨1, 1⟩) (meth := k1m1) (c := k1c1) (by decide +kernel) rfl rfl rfl (by decide +kernel)
set_option maxRecDepth 65536 in
theorem w_c2 : (Jvm.Cond.code ({ cls := "java/lang/String", name := "<init>", desc := "([C)V" } : Jvm.MethodName) jdk_42_method_3_code (2 : Nat) (Option.none : Option Jvm.ClassFile.FieldType)).before args0 about1 = true := code_word (m := ⟨7, 1⟩) (meth := k7m1) (c := k7c1) (by decide +kernel) rfl rfl rfl (by decide +kernel)
set_option maxRecDepth 65536 in
theorem w_c3 : (Jvm.Cond.code ({ cls := "java/lang/String", name := "<init>", desc := "([CIILjava/lang/Void;)V" } : Jvm.MethodName) jdk_42_method_149_code (6 : Nat) (Option.none : Option Jvm.ClassFile.FieldType)).before args0 about1 = true := code_word (m := ⟨7, 3⟩) (meth := k7m3) (c := k7c3) (by decide +kernel) rfl rfl rfl (by decide +kernel)
set_option maxRecDepth 65536 in
theorem w_c4 : (Jvm.Cond.code ({ cls := "java/lang/Object", name := "<init>", desc := "()V" } : Jvm.MethodName) object_method_1_code (1 : Nat) (Option.none : Option Jvm.ClassFile.FieldType)).before args0 about1 = true := code_word (m := ⟨0, 0⟩) (meth := k0m0) (c := k0c0) (by decide +kernel) rfl rfl rfl (by decide +kernel)
set_option maxRecDepth 65536 in
theorem w_c5 : (Jvm.Cond.code ({ cls := "java/lang/StringUTF16", name := "compress", desc := "([CII)[B" } : Jvm.MethodName) jdk_52_method_16_code (6 : Nat) (Option.some (Jvm.ClassFile.FieldType.array Jvm.ClassFile.FieldType.byte))).before args0 about1 = true := code_word (m := ⟨8, 2⟩) (meth := k8m2) (c := k8c2) (by decide +kernel) rfl rfl rfl (by decide +kernel)
set_option maxRecDepth 65536 in
theorem w_c6 : (Jvm.Cond.code ({ cls := "java/lang/StringUTF16", name := "compress", desc := "([CI[BII)I" } : Jvm.MethodName) jdk_52_method_21_code (7 : Nat) (Option.some Jvm.ClassFile.FieldType.int)).before args0 about1 = true := code_word (m := ⟨8, 3⟩) (meth := k8m3) (c := k8c3) (by decide +kernel) rfl rfl rfl (by decide +kernel)
set_option maxRecDepth 65536 in
theorem w_c7 : (Jvm.Cond.code ({ cls := "java/lang/StringUTF16", name := "coderFromArrayLen", desc := "([BI)B" } : Jvm.MethodName) jdk_52_method_15_code (2 : Nat) (Option.some Jvm.ClassFile.FieldType.byte)).before args0 about1 = true := code_word (m := ⟨8, 1⟩) (meth := k8m1) (c := k8c1) (by decide +kernel) rfl rfl rfl (by decide +kernel)
set_option maxRecDepth 65536 in
theorem w_c8 : (Jvm.Cond.code ({ cls := "com/example/ample_search/amplesearch/analysis/Token", name := "<init>", desc := "(Ljava/lang/String;IILjava/lang/String;I)V" } : Jvm.MethodName) prog_12_method_1_code (6 : Nat) (Option.none : Option Jvm.ClassFile.FieldType)).before args0 about1 = true := code_word (m := ⟨9, 0⟩) (meth := k9m0) (c := k9c0) (by decide +kernel) rfl rfl rfl (by decide +kernel)
set_option maxRecDepth 65536 in
theorem w_c9 : (Jvm.Cond.code ({ cls := "com/example/ample_search/amplesearch/analysis/TokenEqualsPinLaw", name := "same", desc := "(ICCICC)Z" } : Jvm.MethodName) method_3_code (6 : Nat) (Option.some Jvm.ClassFile.FieldType.boolean)).before args0 about1 = true := code_word (m := ⟨1, 2⟩) (meth := k1m2) (c := k1c2) (by decide +kernel) rfl rfl rfl (by decide +kernel)
set_option maxRecDepth 65536 in
theorem w_c10 : (Jvm.Cond.code ({ cls := "com/example/ample_search/amplesearch/analysis/Token", name := "equals", desc := "(Ljava/lang/Object;)Z" } : Jvm.MethodName) prog_12_method_9_code (3 : Nat) (Option.some Jvm.ClassFile.FieldType.boolean)).before args0 about1 = true := code_word (m := ⟨9, 1⟩) (meth := k9m1) (c := k9c1) (by decide +kernel) rfl rfl rfl (by decide +kernel)
set_option maxRecDepth 65536 in
theorem w_c11 : (Jvm.Cond.code ({ cls := "java/lang/String", name := "equals", desc := "(Ljava/lang/Object;)Z" } : Jvm.MethodName) jdk_42_method_66_code (3 : Nat) (Option.some Jvm.ClassFile.FieldType.boolean)).before args0 about1 = true := code_word (m := ⟨7, 2⟩) (meth := k7m2) (c := k7c2) (by decide +kernel) rfl rfl rfl (by decide +kernel)
set_option maxRecDepth 65536 in
theorem w_c12 : (Jvm.Cond.code ({ cls := "java/lang/StringLatin1", name := "equals", desc := "([B[B)Z" } : Jvm.MethodName) jdk_43_method_13_code (3 : Nat) (Option.some Jvm.ClassFile.FieldType.boolean)).before args0 about1 = true := code_word (m := ⟨10, 1⟩) (meth := k10m1) (c := k10c1) (by decide +kernel) rfl rfl rfl (by decide +kernel)
def codes1 : List Jvm.Cond := [Jvm.Cond.code x code maxLocals ret, Jvm.Cond.code ({ cls := "com/example/ample_search/amplesearch/analysis/TokenEqualsPinLaw", name := "mk", desc := "(ICC)Ljava/lang/String;" } : Jvm.MethodName) method_2_code (3 : Nat) (Option.some (Jvm.ClassFile.FieldType.object "java/lang/String")), Jvm.Cond.code ({ cls := "java/lang/String", name := "<init>", desc := "([C)V" } : Jvm.MethodName) jdk_42_method_3_code (2 : Nat) (Option.none : Option Jvm.ClassFile.FieldType), Jvm.Cond.code ({ cls := "java/lang/String", name := "<init>", desc := "([CIILjava/lang/Void;)V" } : Jvm.MethodName) jdk_42_method_149_code (6 : Nat) (Option.none : Option Jvm.ClassFile.FieldType), Jvm.Cond.code ({ cls := "java/lang/Object", name := "<init>", desc := "()V" } : Jvm.MethodName) object_method_1_code (1 : Nat) (Option.none : Option Jvm.ClassFile.FieldType), Jvm.Cond.code ({ cls := "java/lang/StringUTF16", name := "compress", desc := "([CII)[B" } : Jvm.MethodName) jdk_52_method_16_code (6 : Nat) (Option.some (Jvm.ClassFile.FieldType.array Jvm.ClassFile.FieldType.byte)), Jvm.Cond.code ({ cls := "java/lang/StringUTF16", name := "compress", desc := "([CI[BII)I" } : Jvm.MethodName) jdk_52_method_21_code (7 : Nat) (Option.some Jvm.ClassFile.FieldType.int), Jvm.Cond.code ({ cls := "java/lang/StringUTF16", name := "coderFromArrayLen", desc := "([BI)B" } : Jvm.MethodName) jdk_52_method_15_code (2 : Nat) (Option.some Jvm.ClassFile.FieldType.byte), Jvm.Cond.code ({ cls := "com/example/ample_search/amplesearch/analysis/Token", name := "<init>", desc := "(Ljava/lang/String;IILjava/lang/String;I)V" } : Jvm.MethodName) prog_12_method_1_code (6 : Nat) (Option.none : Option Jvm.ClassFile.FieldType), Jvm.Cond.code ({ cls := "com/example/ample_search/amplesearch/analysis/TokenEqualsPinLaw", name := "same", desc := "(ICCICC)Z" } : Jvm.MethodName) method_3_code (6 : Nat) (Option.some Jvm.ClassFile.FieldType.boolean), Jvm.Cond.code ({ cls := "com/example/ample_search/amplesearch/analysis/Token", name := "equals", desc := "(Ljava/lang/Object;)Z" } : Jvm.MethodName) prog_12_method_9_code (3 : Nat) (Option.some Jvm.ClassFile.FieldType.boolean), Jvm.Cond.code ({ cls := "java/lang/String", name := "equals", desc := "(Ljava/lang/Object;)Z" } : Jvm.MethodName) jdk_42_method_66_code (3 : Nat) (Option.some Jvm.ClassFile.FieldType.boolean), Jvm.Cond.code ({ cls := "java/lang/StringLatin1", name := "equals", desc := "([B[B)Z" } : Jvm.MethodName) jdk_43_method_13_code (3 : Nat) (Option.some Jvm.ClassFile.FieldType.boolean)]
set_option maxRecDepth 65536 in
theorem codes_eq : words1.filter isCode = codes1 := rfl
theorem w_codes : ∀ c ∈ words1.filter isCode, c.before args0 about1 = true := by
  rw [codes_eq]
  intro c hc
  simp only [codes1, List.mem_cons, List.not_mem_nil, or_false] at hc
  rcases hc with rfl | rfl | rfl | rfl | rfl | rfl | rfl | rfl | rfl | rfl | rfl | rfl | rfl
  · exact w_c0
  · exact w_c1
  · exact w_c2
  · exact w_c3
  · exact w_c4
  · exact w_c5
  · exact w_c6
  · exact w_c7
  · exact w_c8
  · exact w_c9
  · exact w_c10
  · exact w_c11
  · exact w_c12
set_option maxRecDepth 65536 in
theorem w_t1 : (words1.take 24).all (fun c => isCode c || c.before args0 about1) = true := by decide +kernel
set_option maxRecDepth 65536 in
theorem w_t2 : ((words1.drop 24).take 24).all (fun c => isCode c || c.before args0 about1) = true := by decide +kernel
set_option maxRecDepth 65536 in
theorem w_t3 : (((words1.drop 24).drop 24).take 24).all (fun c => isCode c || c.before args0 about1) = true := by decide +kernel
set_option maxRecDepth 65536 in
theorem w_t4 : (((words1.drop 24).drop 24).drop 24).all (fun c => isCode c || c.before args0 about1) = true := by decide +kernel
theorem w_tables : (allAtoms (Jvm.Cond.code x code maxLocals ret :: tables_1)).before args0 about1 = true := by
  rw [allAtoms_all]
  show words1.all (fun c => c.before args0 about1) = true
  refine all_split ?_ w_codes
  rw [← List.take_append_drop 24 words1, List.all_append, w_t1, ← List.take_append_drop 24 (words1.drop 24), List.all_append, w_t2, ← List.take_append_drop 24 ((words1.drop 24).drop 24), List.all_append, w_t3, w_t4]
  rfl
set_option maxRecDepth 65536 in
theorem w_rest : rest_1_c.before args0 about1 = true := by decide +kernel
set_option maxRecDepth 65536 in
theorem w_case : (Jvm.Cond.and given_1 narrow_1).before args0 about1 = true := by decide +kernel
theorem w_applies : (headSpec (Jvm.Cond.code x code maxLocals ret :: tables_1) room_1).applies x e0.platform about1 = true :=
  (Spec.applies_iff w_frames).mpr ⟨w_running, w_runnable, w_alone, w_named, w_hears, w_ripe, w_room, w_tables⟩
theorem atStart : AtStart classFile x code maxLocals ret World_1 tables_1 room_1 Calls_1 rest_1 Pre_1 launch0 p0 e0 about1 theMethod args0 below0 :=
  ⟨lists_1, trivial, launch0.admits_env _ _ _, launch0.least_env, fairChoices_fair.cas, fairChoices_fair.clock, w_frames, w_args, w_heap, w_applies, trivial, w_rest, w_case⟩
end start1
theorem witness_1 : WitnessClaimed_1 := ⟨start1.p0, start1.e0, start1.about1, start1.theMethod, start1.args0, start1.below0, start1.atStart⟩
end Jvm.Pilot.@@N@@
