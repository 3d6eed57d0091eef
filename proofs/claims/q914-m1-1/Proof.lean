import JvmDerived
import JvmDerived.Pilot.@@N@@Statement
import JvmDerived.Pilot.@@N@@Code
set_option linter.unusedVariables false
set_option linter.unusedSimpArgs false
namespace Jvm.RoadKit
open Sem ClassFile Op Lib Jvm.Stand Jvm.Free Jvm.LawKit
section New
variable {p : Program} {l : Launch} {e : Env} {R : Room} {s : State} {m : MethodId} {args : Array Value} {below : List Frame} {meth : Method} {c : Code} {T : State} {locs : List Loc} {cells slots : Nat}
theorem retI (X : Stand p l e R s m args below meth c T locs cells slots) (hx : p.tables.exec = Jvm.exec) {pc : Nat} {Ls : Array Slot} {z : Int32} {rest : List Value} (hret : meth.sig.returnType = some .int) (hd : decode c.code pc = .ok (.ireturn, 1)) {fs : List Frame}
    (hl : ∀ (f : JFrame) (acts : List Action), f.method = m → f.locked = none → f.entered = [] → (doReturn e (T.setTop f) acts (some (.int z))).1 = T.setFrames fs) : Steps p.tables e below (T.setTop (mkF m pc Ls (.int z :: rest))) (T.setFrames fs) := by
  have hm' : T.vm.method? m = some meth := X.method'
  have hn : narrow .int (.int z) = .int z := rfl
  show Steps p.tables e below (T.setTop { method := m, pc := pc, locals := Ls, stack := _ :: rest, locked := none }) _
  jvm_step X.here [X.here.top, hx, hd, hm', hret, hn]
  first | (intro acts; rw [hl _ acts rfl rfl rfl]) | rw [hl _ _ rfl rfl rfl]
  exact Steps.refl _
theorem retJ (X : Stand p l e R s m args below meth c T locs cells slots) (hx : p.tables.exec = Jvm.exec) {pc : Nat} {Ls : Array Slot} {z : Int64} {rest : List Value} (hret : meth.sig.returnType = some .long) (hd : decode c.code pc = .ok (.lreturn, 1)) {fs : List Frame}
    (hl : ∀ (f : JFrame) (acts : List Action), f.method = m → f.locked = none → f.entered = [] → (doReturn e (T.setTop f) acts (some (.long z))).1 = T.setFrames fs) : Steps p.tables e below (T.setTop (mkF m pc Ls (.long z :: rest))) (T.setFrames fs) := by
  have hm' : T.vm.method? m = some meth := X.method'
  have hn : narrow .long (.long z) = .long z := rfl
  show Steps p.tables e below (T.setTop { method := m, pc := pc, locals := Ls, stack := _ :: rest, locked := none }) _
  jvm_step X.here [X.here.top, hx, hd, hm', hret, hn]
  first | (intro acts; rw [hl _ acts rfl rfl rfl]) | rw [hl _ _ rfl rfl rfl]
  exact Steps.refl _
theorem retD (X : Stand p l e R s m args below meth c T locs cells slots) (hx : p.tables.exec = Jvm.exec) {pc : Nat} {Ls : Array Slot} {z : UInt64} {rest : List Value} (hret : meth.sig.returnType = some .double) (hd : decode c.code pc = .ok (.dreturn, 1)) {fs : List Frame}
    (hl : ∀ (f : JFrame) (acts : List Action), f.method = m → f.locked = none → f.entered = [] → (doReturn e (T.setTop f) acts (some (.double z))).1 = T.setFrames fs) : Steps p.tables e below (T.setTop (mkF m pc Ls (.double z :: rest))) (T.setFrames fs) := by
  have hm' : T.vm.method? m = some meth := X.method'
  have hn : narrow .double (.double z) = .double z := rfl
  show Steps p.tables e below (T.setTop { method := m, pc := pc, locals := Ls, stack := _ :: rest, locked := none }) _
  jvm_step X.here [X.here.top, hx, hd, hm', hret, hn]
  first | (intro acts; rw [hl _ acts rfl rfl rfl]) | rw [hl _ _ rfl rfl rfl]
  exact Steps.refl _
theorem retR (X : Stand p l e R s m args below meth c T locs cells slots) (hx : p.tables.exec = Jvm.exec) {pc : Nat} {Ls : Array Slot} {w : Value} {t : FieldType} {rest : List Value} (hret : meth.sig.returnType = some t) (hn : narrow t w = w) (ht : t.isReference = true) (hw : w.isRef = true) (hd : decode c.code pc = .ok (.areturn, 1)) {fs : List Frame}
    (hl : ∀ (f : JFrame) (acts : List Action), f.method = m → f.locked = none → f.entered = [] → (doReturn e (T.setTop f) acts (some w)).1 = T.setFrames fs) : Steps p.tables e below (T.setTop (mkF m pc Ls (w :: rest))) (T.setFrames fs) := by
  have hm' : T.vm.method? m = some meth := X.method'
  show Steps p.tables e below (T.setTop { method := m, pc := pc, locals := Ls, stack := _ :: rest, locked := none }) _
  jvm_step X.here [X.here.top, hx, hd, hm', hret, hn, hw]
  try (refine ⟨ht, ?_⟩)
  first | (intro acts; rw [hl _ acts rfl rfl rfl]) | rw [hl _ _ rfl rfl rfl]
  exact Steps.refl _
theorem own_up (X : Stand p l e R s m args below meth c T locs cells slots) {k n : Nat} (h1 : cells ≤ k) (h2 : slots ≤ n) : Stand p l e R s m args below meth c T locs k n :=
  ⟨X.admits, X.cas, X.clock, X.frames, X.room, X.hears, X.method, X.code, X.here, X.tail, X.warmed, X.limits, X.bytes, X.same.mono h1 h2⟩
theorem own_ext {h h' : Heap} (K : Keep h h' []) : Ext h h' := ⟨K.1, fun a c q => K.2.1 a c q nin0⟩
theorem own_narR {v : Value} {ty : FieldType} (h : v.isRef = true) (ht : ty.isReference = true) : narrow ty v = v := by
  rcases ref_cases h with rfl | ⟨a, rfl⟩ <;> cases ty <;> first | rfl | (simp [FieldType.isReference] at ht)
theorem own_fitR {v : Value} {ty : FieldType} (h : v.isRef = true) (ht : ty.isReference = true) : fits ty v = true := by
  rcases ref_cases h with rfl | ⟨a, rfl⟩ <;> cases ty <;> first | rfl | (simp [FieldType.isReference] at ht)
theorem own_wmono {s t : State} {o : Outcome} {L : List Loc} {k n k' n' : Nat} (h : ReturnedEndW s o t L k n) (hk : k ≤ k') (hn : n ≤ n') : ReturnedEndW s o t L k' n' := ⟨h.1, h.2.1, h.2.2.1, h.2.2.2.mono hk hn⟩
theorem own_chr {Z s T : State} {EL : List (String × Nat)} {h0 H : Heap} (hh : s.heap = h0) (e : T.heap = H) (c : CHr Z EL s.vm h0 T.vm H) : CHr Z EL s.vm s.heap T.vm T.heap := by subst hh e; exact c
theorem own_nb0 : nar .boolean 0 = 0 := by decide
theorem own_nb1 : nar .boolean 1 = 1 := by decide
end New
end Jvm.RoadKit
/- laws to paste: Road.backV, Road.eqW, Road.lenW, Road.codOf (cut by pick.py; bodies as the Statement names them) -/
namespace Jvm.Pilot.@@N@@
namespace StrChars
open Jvm Sem ClassFile Op Lib Jvm.Stand Jvm.Free.XT Jvm.Free.ALB Jvm.Free.JM Jvm.Free
open Jvm.Lib.Cold (StaticIs)
/-- a char array whose places are chars -/
def Ch (a : Addr) (A : Cell) (U : State) : Prop := Arr .char a A U ∧ Typed .char A
theorem Ch.mv {a : Addr} {A : Cell} {U U' : State} (h : Ch a A U) (hal : U.vm.Alike U'.vm) (hh : U'.heap = U.heap) : Ch a A U' := ⟨h.1.mv hal hh, h.2⟩
theorem Ch.keep {a : Addr} {A : Cell} {U U' : State} (h : Ch a A U) (hal : U.vm.Alike U'.vm) (hk : U'.heap[a]? = some A) : Ch a A U' := ⟨h.1.keep hal hk, h.2⟩
/-- what place i of a char[]'s cell holds -/
def cv (A : Cell) (i : Nat) : Int32 := match A.slots[i]? with | some (.int x) => x | _ => 0
theorem Ch.get {a : Addr} {A : Cell} {U : State} (h : Ch a A U) {i : Nat} (hi : i < A.slots.size) : A.slots[i]? = some (.int (cv A i)) := by
  have e := Array.getElem?_eq_getElem hi
  have f := h.2 i _ e
  unfold cv; rw [e]
  generalize A.slots[i] = v at f
  cases v <;> simp [fits] at f ⊢
/-- the byte that i2b leaves of a char -/
def lo8 (x : Int32) : Int32 := x.toInt8.toInt32
theorem fits_lo8 (y : Int32) : fits .byte (.int (lo8 y)) = true := by
  have h1 := y.toInt8.le_toInt
  have h2 := y.toInt8.toInt_lt
  simp only [lo8, fits, Bool.and_eq_true, decide_eq_true_eq, Int32.le_iff_toInt_le, Int8.toInt_toInt32, show (-128 : Int32).toInt = -128 from by decide, show (127 : Int32).toInt = 127 from by decide]
  omega
/-- A' is A but that each place j of lo .. hi - 1 holds f j -/
def Laid (A A' : Cell) (lo hi : Nat) (f : Nat → Value) : Prop := A'.cls = A.cls ∧ A'.vm = A.vm ∧ A'.slots.size = A.slots.size ∧ ∀ i, A'.slots[i]? = if lo ≤ i ∧ i < hi then some (f i) else A.slots[i]?
theorem Laid.zero (A : Cell) (lo : Nat) (f : Nat → Value) : Laid A A lo (lo + 0) f := ⟨rfl, rfl, rfl, fun i => by rw [if_neg (by omega)]⟩
theorem Laid.step {A Ak : Cell} {lo k : Nat} {f : Nat → Value} {v : Value} (h : Laid A Ak lo k f) (hlo : lo ≤ k) (hk : k < Ak.slots.size) (hv : v = f k) : Laid A (Ak.setSlot k v) lo (k + 1) f := by
  refine ⟨h.1, h.2.1, by simpa [Cell.setSlot] using h.2.2.1, fun i => ?_⟩
  by_cases e : k = i
  · subst e; rw [Cell.slots_setSlot_self v hk, if_pos (by omega), hv]
  · rw [Cell.slots_setSlot_ne v e, h.2.2.2 i]
    by_cases q : lo ≤ i ∧ i < k
    · rw [if_pos q, if_pos (by omega)]
    · rw [if_neg q, if_neg (by omega)]
def U16 : String := "java/lang/StringUTF16"
namespace Cmp5
def yN : MethodName := ⟨"java/lang/StringUTF16", "compress", "([CI[BII)I"⟩
abbrev yB : ByteArray := jdk_52_method_21_code
theorem d0 : decode yB 0 = .ok (.iconst 0, 1) := by decide +kernel
theorem d1 : decode yB 1 = .ok (.istore 5, 2) := by decide +kernel
theorem d3 : decode yB 3 = .ok (.iload 5, 2) := by decide +kernel
theorem d5 : decode yB 5 = .ok (.iload 4, 2) := by decide +kernel
theorem d7 : decode yB 7 = .ok (.if_icmp (.ge) 37, 3) := by decide +kernel
theorem d10 : decode yB 10 = .ok (.aload_n 0, 1) := by decide +kernel
theorem d11 : decode yB 11 = .ok (.iload_n 1, 1) := by decide +kernel
theorem d12 : decode yB 12 = .ok (.caload, 1) := by decide +kernel
theorem d13 : decode yB 13 = .ok (.istore 6, 2) := by decide +kernel
theorem d15 : decode yB 15 = .ok (.iload 6, 2) := by decide +kernel
theorem d17 : decode yB 17 = .ok (.sipush 255, 3) := by decide +kernel
theorem d20 : decode yB 20 = .ok (.if_icmp (.le) 6, 3) := by decide +kernel
theorem d26 : decode yB 26 = .ok (.aload_n 2, 1) := by decide +kernel
theorem d27 : decode yB 27 = .ok (.iload_n 3, 1) := by decide +kernel
theorem d28 : decode yB 28 = .ok (.iload 6, 2) := by decide +kernel
theorem d30 : decode yB 30 = .ok (.i2b, 1) := by decide +kernel
theorem d31 : decode yB 31 = .ok (.bastore, 1) := by decide +kernel
theorem d32 : decode yB 32 = .ok (.iinc 1 1, 3) := by decide +kernel
theorem d35 : decode yB 35 = .ok (.iinc 3 1, 3) := by decide +kernel
theorem d38 : decode yB 38 = .ok (.iinc 5 1, 3) := by decide +kernel
theorem d41 : decode yB 41 = .ok (.goto (-38), 3) := by decide +kernel
theorem d44 : decode yB 44 = .ok (.iload 4, 2) := by decide +kernel
theorem d46 : decode yB 46 = .ok (.ireturn, 1) := by decide +kernel
def site : List Cond := []
def tab : Cond := tabOf yN yB 7 (some .int) site
def P (b : Addr) (A : Cell) (d : Addr) (B : Cell) (o q len : Nat) (args : Array Value) (s : State) : Prop := args = #[.ref b, .int (Int32.ofNat o), .ref d, .int (Int32.ofNat q), .int (Int32.ofNat len)] ∧ Ch b A s ∧ Arr .byte d B s ∧ b ≠ d ∧ o + len ≤ A.slots.size ∧ q + len ≤ B.slots.size ∧ ∀ i, i < len → ¬ 255 < cv A (o + i)
def E (b : Addr) (A : Cell) (d : Addr) (B : Cell) (o q len : Nat) (r : Option Value) (s u : State) : Prop := r = some (.int (Int32.ofNat len)) ∧ ∃ B', Put d B' s u ∧ Laid B B' q (q + len) (fun j => Value.int (lo8 (cv A (o + (j - q)))))
/-- no char of the range above 255: len; the places written hold each char's low byte -/
theorem law (l : Launch) (b : Addr) (A : Cell) (d : Addr) (B : Cell) (o q len : Nat) : Law l yN 5 5 0 0 yB 7 (some .int) site (P b A d B o q len) (E b A d B o q len) (copyLocs d q len) 0 0 := by
  refine Law.of_walk (plainFor_of_name (by decide +kernel)) (by decide +kernel) (by decide +kernel) (by decide) (fun _ _ h => by rw [h.1]; rfl) (fun _ U U' hal hh h => ⟨h.1, h.2.1.mv hal hh, h.2.2.1.mv hal hh, h.2.2.2⟩) (fun r U U' V V' h1 hal h2 h => ⟨h.1, h.2.elim fun B' q => ⟨B', q.1.mv h1 h2, q.2⟩⟩) ?_
  intro p e s m args below meth c s₁ X0 hexec hbytes hml hret hlk hnm hown hh0 W hP
  obtain ⟨rfl, hA, hB, hne, l1, l2, hp⟩ := hP
  have c1 : Steps p.tables e below (s₁.setTop (entryFrame m #[.ref b, .int (Int32.ofNat o), .ref d, .int (Int32.ofNat q), .int (Int32.ofNat len)] 7)) (s₁.setTop (mkF m 0 #[.val (.ref b), .val (.int (Int32.ofNat o)), .val (.ref d), .val (.int (Int32.ofNat q)), .val (.int (Int32.ofNat len)), .unset, .unset] [])) := entry rfl
  have hA0 := hA.1.mv X0.warmed.alike hh0
  have hB0 := hB.mv X0.warmed.alike hh0
  have a31 := hA.1.2.2.2
  have c2 : Steps p.tables e below (s₁.setTop (entryFrame m #[.ref b, .int (Int32.ofNat o), .ref d, .int (Int32.ofNat q), .int (Int32.ofNat len)] 7)) (s₁.setTop (mkF m 3 #[.val (.ref b), .val (.int (Int32.ofNat o)), .val (.ref d), .val (.int (Int32.ofNat q)), .val (.int (Int32.ofNat len)), .val (.int 0), .unset] [])) := c1.trans (by
    refine iconstV X0.here hexec rfl 0 (hb hbytes d0) (by decide) ?_
    refine XS.istore X0.here hexec rfl (hb hbytes d1) rfl rfl ?_
    exact Steps.refl _)
  have loop : ∀ (r i : Nat), i + r = len → ∀ (z : Slot), (z = .unset ∨ ∃ w, z = .val w ∧ w.category = 1) → ∀ (Tl : State) (Bk : Cell), Stand p l e { frames := 0, locals := 0, cells := 0, slots := 0 } s m #[.ref b, .int (Int32.ofNat o), .ref d, .int (Int32.ofNat q), .int (Int32.ofNat len)] below meth c Tl ([] ++ copyLocs d q i) 0 0 → Put d Bk s₁ Tl → Laid B Bk q (q + i) (fun j => Value.int (lo8 (cv A (o + (j - q))))) →
      Steps p.tables e below (s₁.setTop (entryFrame m #[.ref b, .int (Int32.ofNat o), .ref d, .int (Int32.ofNat q), .int (Int32.ofNat len)] 7)) (Tl.setTop (mkF m 3 #[.val (.ref b), .val (.int (Int32.ofNat (o + i))), .val (.ref d), .val (.int (Int32.ofNat (q + i))), .val (.int (Int32.ofNat len)), .val (.int (Int32.ofNat i)), z] [])) → ∃ (T' : State) (B' : Cell) (z' : Slot), Stand p l e { frames := 0, locals := 0, cells := 0, slots := 0 } s m #[.ref b, .int (Int32.ofNat o), .ref d, .int (Int32.ofNat q), .int (Int32.ofNat len)] below meth c T' ([] ++ copyLocs d q len) 0 0 ∧ Put d B' s₁ T' ∧ Laid B B' q (q + len) (fun j => Value.int (lo8 (cv A (o + (j - q))))) ∧
      Steps p.tables e below (s₁.setTop (entryFrame m #[.ref b, .int (Int32.ofNat o), .ref d, .int (Int32.ofNat q), .int (Int32.ofNat len)] 7)) (T'.setTop (mkF m 3 #[.val (.ref b), .val (.int (Int32.ofNat (o + len))), .val (.ref d), .val (.int (Int32.ofNat (q + len))), .val (.int (Int32.ofNat len)), .val (.int (Int32.ofNat len)), z'] [])) := by
    intro r
    induction r with
    | zero =>
      intro i hi z hz Tl Bk Xl pl fl cl
      have hil : i = len := by omega
      rw [hil] at Xl fl cl
      exact ⟨Tl, Bk, z, Xl, pl, fl, cl⟩
    | succ r ih =>
      intro i hi z hz Tl Bk Xl pl fl cl
      have all := X0.warmed.alike.symm.trans Xl.warmed.alike
      have hAl := hA0.keep all (pl.other hne hA0.1)
      have hBk := hB0.like all pl.1 fl.1 fl.2.1 fl.2.2.1
      have hlt : q + i < Bk.slots.size := by rw [fl.2.2.1]; omega
      have c3 : Steps p.tables e below (s₁.setTop (entryFrame m #[.ref b, .int (Int32.ofNat o), .ref d, .int (Int32.ofNat q), .int (Int32.ofNat len)] 7)) (Tl.setTop (mkF m 12 #[.val (.ref b), .val (.int (Int32.ofNat (o + i))), .val (.ref d), .val (.int (Int32.ofNat (q + i))), .val (.int (Int32.ofNat len)), .val (.int (Int32.ofNat i)), z] [.int (Int32.ofNat (o + i)), .ref b])) := cl.trans (by
        refine XS.iload Xl.here hexec rfl (hb hbytes d3) rfl ?_
        refine XS.iload Xl.here hexec rfl (hb hbytes d5) rfl ?_
        refine XS.icmpNo Xl.here hexec rfl (hb hbytes d7) rfl (ii_ge_f (lt32 (by omega) (by omega))) ?_
        refine XS.aloadN Xl.here hexec rfl (hb hbytes d10) rfl rfl ?_
        refine XS.iloadN Xl.here hexec rfl (hb hbytes d11) rfl ?_
        exact Steps.refl _)
      have c4 : Steps p.tables e below (s₁.setTop (entryFrame m #[.ref b, .int (Int32.ofNat o), .ref d, .int (Int32.ofNat q), .int (Int32.ofNat len)] 7)) (Tl.setTop (mkF m 13 #[.val (.ref b), .val (.int (Int32.ofNat (o + i))), .val (.ref d), .val (.int (Int32.ofNat (q + i))), .val (.int (Int32.ofNat len)), .val (.int (Int32.ofNat i)), z] [.int (cv A (o + i))])) := c3.trans (by
        refine Xl.aget hexec hAl rfl (hA.get (i := o + i) (by omega)) rfl rfl (hb hbytes d12) ?_
        exact Steps.refl _)
      have c5 : Steps p.tables e below (s₁.setTop (entryFrame m #[.ref b, .int (Int32.ofNat o), .ref d, .int (Int32.ofNat q), .int (Int32.ofNat len)] 7)) (Tl.setTop (mkF m 15 #[.val (.ref b), .val (.int (Int32.ofNat (o + i))), .val (.ref d), .val (.int (Int32.ofNat (q + i))), .val (.int (Int32.ofNat len)), .val (.int (Int32.ofNat i)), .val (.int (cv A (o + i)))] [])) := c4.trans (by
        refine XS.istoreS Xl.here hexec rfl (hb hbytes d13) rfl rfl hz ?_
        exact Steps.refl _)
      have c6 : Steps p.tables e below (s₁.setTop (entryFrame m #[.ref b, .int (Int32.ofNat o), .ref d, .int (Int32.ofNat q), .int (Int32.ofNat len)] 7)) (Tl.setTop (mkF m 31 #[.val (.ref b), .val (.int (Int32.ofNat (o + i))), .val (.ref d), .val (.int (Int32.ofNat (q + i))), .val (.int (Int32.ofNat len)), .val (.int (Int32.ofNat i)), .val (.int (cv A (o + i)))] [.int (lo8 (cv A (o + i))), .int (Int32.ofNat (q + i)), .ref d])) := c5.trans (by
        refine XS.iload Xl.here hexec rfl (hb hbytes d15) rfl ?_
        refine sipushV Xl.here hexec rfl 255 (hb hbytes d17) (by decide) ?_
        refine XS.icmpYes Xl.here hexec rfl (pc0 := 20) rfl (hb hbytes d20) rfl (ii_le_t (hp i (by omega))) (by decide) rfl ?_
        refine XS.aloadN Xl.here hexec rfl (hb hbytes d26) rfl rfl ?_
        refine XS.iloadN Xl.here hexec rfl (hb hbytes d27) rfl ?_
        refine XS.iload Xl.here hexec rfl (hb hbytes d28) rfl ?_
        refine i2b Xl.here hexec rfl (hb hbytes d30) rfl ?_
        exact Steps.refl _)
      obtain ⟨T7, X7, p7, st7⟩ := Xl.aput hexec hBk rfl hlt rfl (fits_lo8 (cv A (o + i))) (g := (mkF m 31 #[.val (.ref b), .val (.int (Int32.ofNat (o + i))), .val (.ref d), .val (.int (Int32.ofNat (q + i))), .val (.int (Int32.ofNat len)), .val (.int (Int32.ofNat i)), .val (.int (cv A (o + i)))] [.int (lo8 (cv A (o + i))), .int (Int32.ofNat (q + i)), .ref d])) rfl (rest := []) rfl (hb hbytes d31)
      have c8 : Steps p.tables e below (s₁.setTop (entryFrame m #[.ref b, .int (Int32.ofNat o), .ref d, .int (Int32.ofNat q), .int (Int32.ofNat len)] 7)) (T7.setTop (mkF m 32 #[.val (.ref b), .val (.int (Int32.ofNat (o + i))), .val (.ref d), .val (.int (Int32.ofNat (q + i))), .val (.int (Int32.ofNat len)), .val (.int (Int32.ofNat i)), .val (.int (cv A (o + i)))] [])) := c6.trans (st7 _ (Steps.refl _))
      have c9 : Steps p.tables e below (s₁.setTop (entryFrame m #[.ref b, .int (Int32.ofNat o), .ref d, .int (Int32.ofNat q), .int (Int32.ofNat len)] 7)) (T7.setTop (mkF m 3 #[.val (.ref b), .val (.int (Int32.ofNat (o + i) + 1)), .val (.ref d), .val (.int (Int32.ofNat (q + i) + 1)), .val (.int (Int32.ofNat len)), .val (.int (Int32.ofNat i + 1)), .val (.int (cv A (o + i)))] [])) := c8.trans (by
        refine iincV X7.here hexec rfl 1 (hb hbytes d32) (by decide) rfl rfl ?_
        refine iincV X7.here hexec rfl 1 (hb hbytes d35) (by decide) rfl rfl ?_
        refine iincV X7.here hexec rfl 1 (hb hbytes d38) (by decide) rfl rfl ?_
        refine XS.goto X7.here hexec rfl (pc0 := 41) rfl (hb hbytes d41) (by decide) rfl ?_
        exact Steps.refl _)
      have c10 : Steps p.tables e below (s₁.setTop (entryFrame m #[.ref b, .int (Int32.ofNat o), .ref d, .int (Int32.ofNat q), .int (Int32.ofNat len)] 7)) (T7.setTop (mkF m 3 #[.val (.ref b), .val (.int (Int32.ofNat (o + (i + 1)))), .val (.ref d), .val (.int (Int32.ofNat (q + (i + 1)))), .val (.int (Int32.ofNat len)), .val (.int (Int32.ofNat (i + 1))), .val (.int (cv A (o + i)))] [])) := by
        have := c9
        rw [succ32, succ32, succ32] at this
        exact this
      exact ih (i + 1) (by omega) _ (Or.inr ⟨_, rfl, rfl⟩) T7 _ (by rw [copyLocs_step, ← List.append_assoc]; exact X7) (pl.trans p7) (fl.step (by omega) hlt (by simp)) c10
  obtain ⟨T9, B9, z9, X9, p9, f9, g9⟩ := loop len 0 (by omega) .unset (Or.inl rfl) s₁ B (by simpa [copyLocs] using X0) ⟨hB0.1, fun _ _ => rfl, rfl⟩ (Laid.zero _ _ _) c2
  have c11 : Steps p.tables e below (s₁.setTop (entryFrame m #[.ref b, .int (Int32.ofNat o), .ref d, .int (Int32.ofNat q), .int (Int32.ofNat len)] 7)) (T9.setTop (mkF m 46 #[.val (.ref b), .val (.int (Int32.ofNat (o + len))), .val (.ref d), .val (.int (Int32.ofNat (q + len))), .val (.int (Int32.ofNat len)), .val (.int (Int32.ofNat len)), z9] [.int (Int32.ofNat len)])) := g9.trans (by
    refine XS.iload X9.here hexec rfl (hb hbytes d3) rfl ?_
    refine XS.iload X9.here hexec rfl (hb hbytes d5) rfl ?_
    refine XS.icmpYes X9.here hexec rfl (pc0 := 7) rfl (hb hbytes d7) rfl (ii_ge_t (nlt32 (by omega) (Nat.le_refl _))) (by decide) rfl ?_
    refine XS.iload X9.here hexec rfl (hb hbytes d44) rfl ?_
    exact Steps.refl _)
  exact ⟨T9, some (.int (Int32.ofNat len)), _, _, _, X9, by simp, rfl, rfl, (fun h => by cases h), ⟨rfl, B9, p9.from hh0, f9⟩, fun fs hl => c11.trans (X9.ireturnOut hexec hret rfl (Or.inl rfl) (hb hbytes d46) hl)⟩
end Cmp5
namespace Cmp3
def yN : MethodName := ⟨"java/lang/StringUTF16", "compress", "([CII)[B"⟩
abbrev yB : ByteArray := jdk_52_method_16_code
theorem d0 : decode yB 0 = .ok (.iload_n 2, 1) := by decide +kernel
theorem d1 : decode yB 1 = .ok (.newarray .byte, 2) := by decide +kernel
theorem d3 : decode yB 3 = .ok (.astore_n 3, 1) := by decide +kernel
theorem d4 : decode yB 4 = .ok (.aload_n 0, 1) := by decide +kernel
theorem d5 : decode yB 5 = .ok (.iload_n 1, 1) := by decide +kernel
theorem d6 : decode yB 6 = .ok (.aload_n 3, 1) := by decide +kernel
theorem d7 : decode yB 7 = .ok (.iconst 0, 1) := by decide +kernel
theorem d8 : decode yB 8 = .ok (.iload_n 2, 1) := by decide +kernel
theorem d9 : decode yB 9 = .ok (.invokestatic 115, 3) := by decide +kernel
theorem d12 : decode yB 12 = .ok (.istore 4, 2) := by decide +kernel
theorem d14 : decode yB 14 = .ok (.iload 4, 2) := by decide +kernel
theorem d16 : decode yB 16 = .ok (.iload_n 2, 1) := by decide +kernel
theorem d17 : decode yB 17 = .ok (.if_icmp (.eq) 40, 3) := by decide +kernel
theorem d57 : decode yB 57 = .ok (.aload_n 3, 1) := by decide +kernel
theorem d58 : decode yB 58 = .ok (.areturn, 1) := by decide +kernel
def site : List Cond := [.arrayClass .byte, Cmp5.tab] ++ staticW U16 115 Cmp5.yN
def tab : Cond := tabOf yN yB 6 (some (.array .byte)) site
def P (b : Addr) (A : Cell) (o len : Nat) (args : Array Value) (s : State) : Prop := args = #[.ref b, .int (Int32.ofNat o), .int (Int32.ofNat len)] ∧ Ch b A s ∧ o + len ≤ A.slots.size ∧ len ≤ 536870912 ∧ ∀ i, i < len → ¬ 255 < cv A (o + i)
def E (b : Addr) (A : Cell) (o len : Nat) (r : Option Value) (s u : State) : Prop := NewArr .byte "[B" len (fun j => .int (lo8 (cv A (o + j)))) r s u ∧ u.heap.size = s.heap.size + 1
/-- no char of the range above 255: a new byte[] of their low bytes -/
theorem law (l : Launch) (b : Addr) (A : Cell) (o len : Nat) : Law l yN 3 3 1 18 yB 6 (some (.array .byte)) site (P b A o len) (E b A o len) [] 1 len := by
  refine Law.of_walk (plainFor_of_name (by decide +kernel)) (by decide +kernel) (by decide +kernel) (by decide) (fun _ _ h => by rw [h.1]; rfl) (fun _ U U' hal hh h => ⟨h.1, h.2.1.mv hal hh, h.2.2⟩) (fun r U U' V V' h1 hal h2 h => ⟨NewArr.mv r U U' V V' h1 hal h2 h.1, by rw [h1, h2]; exact h.2⟩) ?_
  intro p e s m args below meth c s₁ X0 hexec hbytes hml hret hlk hnm hown hh0 W hP
  obtain ⟨rfl, hA, l1, l2, hp⟩ := hP
  have a31 := hA.1.2.2.2
  have c1 : Steps p.tables e below (s₁.setTop (entryFrame m #[.ref b, .int (Int32.ofNat o), .int (Int32.ofNat len)] 6)) (s₁.setTop (mkF m 0 #[.val (.ref b), .val (.int (Int32.ofNat o)), .val (.int (Int32.ofNat len)), .unset, .unset, .unset] [])) := entry rfl
  have c2 : Steps p.tables e below (s₁.setTop (entryFrame m #[.ref b, .int (Int32.ofNat o), .int (Int32.ofNat len)] 6)) (s₁.setTop (mkF m 1 #[.val (.ref b), .val (.int (Int32.ofNat o)), .val (.int (Int32.ofNat len)), .unset, .unset, .unset] [.int (Int32.ofNat len)])) := c1.trans (by
    refine XS.iloadN X0.here hexec rfl (hb hbytes d0) rfl ?_
    exact Steps.refl _)
  obtain ⟨T3, B3, X3, ba3, bs3, bv3, bh3, bf3, st3⟩ := X0.anew hexec (atype := .byte) (wk W (.arrayClass .byte)) rfl (by show len * 1 ≤ _; omega) (by omega) (g := (mkF m 1 #[.val (.ref b), .val (.int (Int32.ofNat o)), .val (.int (Int32.ofNat len)), .unset, .unset, .unset] [.int (Int32.ofNat len)])) rfl (hb hbytes d1) (rest := []) rfl (Nat.le_refl _) (by show 0 + len ≤ len; omega)
  rw [hh0] at ba3 st3
  have kp3 : XT.Kept s T3 := (XT.Kept.of_eq hh0).push bh3
  have hA3 := hA.keep X3.warmed.alike (kp3 _ _ hA.1.1)
  have hne : b ≠ s.heap.size := hA.1.ne
  have c4 : Steps p.tables e below (s₁.setTop (entryFrame m #[.ref b, .int (Int32.ofNat o), .int (Int32.ofNat len)] 6)) (T3.setTop (mkF m 3 #[.val (.ref b), .val (.int (Int32.ofNat o)), .val (.int (Int32.ofNat len)), .unset, .unset, .unset] [.ref s.heap.size])) := c2.trans (st3 _ (Steps.refl _))
  have c5 : Steps p.tables e below (s₁.setTop (entryFrame m #[.ref b, .int (Int32.ofNat o), .int (Int32.ofNat len)] 6)) (T3.setTop (mkF m 9 #[.val (.ref b), .val (.int (Int32.ofNat o)), .val (.int (Int32.ofNat len)), .val (.ref s.heap.size), .unset, .unset] [.int (Int32.ofNat len), .int 0, .ref s.heap.size, .int (Int32.ofNat o), .ref b])) := c4.trans (by
    refine XS.astoreN X3.here hexec rfl (hb hbytes d3) rfl rfl rfl ?_
    refine XS.aloadN X3.here hexec rfl (hb hbytes d4) rfl rfl ?_
    refine XS.iloadN X3.here hexec rfl (hb hbytes d5) rfl ?_
    refine XS.aloadN X3.here hexec rfl (hb hbytes d6) rfl rfl ?_
    refine iconstV X3.here hexec rfl 0 (hb hbytes d7) (by decide) ?_
    refine XS.iloadN X3.here hexec rfl (hb hbytes d8) rfl ?_
    exact Steps.refl _)
  obtain ⟨v6, T6, X6, E6, g6⟩ := X3.callS hexec (Cmp5.law l b A s.heap.size B3 o 0 len) hown (wks W (staticW U16 115 Cmp5.yN)) (wk W Cmp5.tab) (W := 0) (Nat.le_of_ble_eq_true rfl) (Nat.le_of_ble_eq_true rfl) (Nat.le_refl _) (by show 0 + len + 0 ≤ len; omega) (g := (mkF m 9 #[.val (.ref b), .val (.int (Int32.ofNat o)), .val (.int (Int32.ofNat len)), .val (.ref s.heap.size), .unset, .unset] [.int (Int32.ofNat len), .int (Int32.ofNat 0), .ref s.heap.size, .int (Int32.ofNat o), .ref b])) rfl (by rw [hml]; rfl) c5 (argsL := [.ref b, .int (Int32.ofNat o), .ref s.heap.size, .int (Int32.ofNat 0), .int (Int32.ofNat len)]) (rest := []) rfl rfl (by show 2 * 0 + 0 ≤ _; decide) (hb hbytes d9) (⟨rfl, hA3, ba3, hne, l1, by rw [bs3]; simp, hp⟩)
  obtain ⟨rfl, B6, p6, f6⟩ := E6
  have c7 : Steps p.tables e below (s₁.setTop (entryFrame m #[.ref b, .int (Int32.ofNat o), .int (Int32.ofNat len)] 6)) (T6.setTop (mkF m 12 #[.val (.ref b), .val (.int (Int32.ofNat o)), .val (.int (Int32.ofNat len)), .val (.ref s.heap.size), .unset, .unset] [.int (Int32.ofNat len)])) := g6
  have c8 : Steps p.tables e below (s₁.setTop (entryFrame m #[.ref b, .int (Int32.ofNat o), .int (Int32.ofNat len)] 6)) (T6.setTop (mkF m 58 #[.val (.ref b), .val (.int (Int32.ofNat o)), .val (.int (Int32.ofNat len)), .val (.ref s.heap.size), .val (.int (Int32.ofNat len)), .unset] [.ref s.heap.size])) := c7.trans (by
    refine XS.istore X6.here hexec rfl (hb hbytes d12) rfl rfl ?_
    refine XS.iload X6.here hexec rfl (hb hbytes d14) rfl ?_
    refine XS.iloadN X6.here hexec rfl (hb hbytes d16) rfl ?_
    refine XS.icmpYes X6.here hexec rfl (pc0 := 17) rfl (hb hbytes d17) rfl (ii_eq_t rfl) (by decide) rfl ?_
    refine XS.aloadN X6.here hexec rfl (hb hbytes d57) rfl rfl ?_
    exact Steps.refl _)
  have X8 := X6.wide (L' := []) (cells' := 1) (slots' := len) (fun x hx hlt => by
    simp only [List.nil_append, copyLocs, List.mem_map, List.mem_range] at hx
    obtain ⟨i, -, rfl⟩ := hx
    exact absurd hlt (Nat.lt_irrefl _)) (Nat.le_refl _) (by omega)
  exact ⟨T6, some (.ref s.heap.size), _, _, _, X8, rfl, rfl, rfl, (fun h => by cases h), ⟨⟨rfl, B6, ba3.like (X3.warmed.alike.symm.trans X6.warmed.alike) p6.1 f6.1 f6.2.1 f6.2.2.1, f6.2.1.trans bv3, by rw [X6.warmed.alike.findClass, f6.1]; exact bf3, by rw [f6.2.2.1, bs3]; simp, fun j hj => by rw [f6.2.2.2 j, if_pos (by omega)]; rfl, kp3.put p6 (Nat.le_refl _)⟩, by rw [p6.2.2, bh3, hh0]; simp⟩, fun fs hl => c8.trans (X8.areturnOut hexec rfl hret rfl (hb hbytes d58) hl)⟩
end Cmp3
namespace CodL
def yN : MethodName := ⟨"java/lang/StringUTF16", "coderFromArrayLen", "([BI)B"⟩
abbrev yB : ByteArray := jdk_52_method_15_code
theorem d0 : decode yB 0 = .ok (.iload_n 1, 1) := by decide +kernel
theorem d1 : decode yB 1 = .ok (.aload_n 0, 1) := by decide +kernel
theorem d2 : decode yB 2 = .ok (.arraylength, 1) := by decide +kernel
theorem d3 : decode yB 3 = .ok (.isub, 1) := by decide +kernel
theorem d4 : decode yB 4 = .ok (.bipush 31, 2) := by decide +kernel
theorem d6 : decode yB 6 = .ok (.iushr, 1) := by decide +kernel
theorem d7 : decode yB 7 = .ok (.i2b, 1) := by decide +kernel
theorem d8 : decode yB 8 = .ok (.ireturn, 1) := by decide +kernel
def site : List Cond := []
def tab : Cond := tabOf yN yB 2 (some .byte) site
def P (d : Addr) (B : Cell) (args : Array Value) (s : State) : Prop := args = #[.ref d, .int (Int32.ofNat B.slots.size)] ∧ Arr .byte d B s
def E (r : Option Value) (s u : State) : Prop := XT.PureE (some (.int 0)) r s u
/-- an array as long as the number of chars: LATIN1 -/
theorem law (l : Launch) (d : Addr) (B : Cell) : Law l yN 2 2 0 0 yB 2 (some .byte) site (P d B) E [] 0 0 := by
  refine Law.of_walk (plainFor_of_name (by decide +kernel)) (by decide +kernel) (by decide +kernel) (by decide) (fun _ _ h => by rw [h.1]; rfl) (fun _ U U' hal hh h => ⟨h.1, h.2.mv hal hh⟩) (fun r U U' V V' h1 hal h2 h => XT.PureE.mv r U U' V V' h1 hal h2 h) ?_
  intro p e s m args below meth c s₁ X0 hexec hbytes hml hret hlk hnm hown hh0 W hP
  obtain ⟨rfl, hB⟩ := hP
  have hB0 := hB.mv X0.warmed.alike hh0
  have c1 : Steps p.tables e below (s₁.setTop (entryFrame m #[.ref d, .int (Int32.ofNat B.slots.size)] 2)) (s₁.setTop (mkF m 0 #[.val (.ref d), .val (.int (Int32.ofNat B.slots.size))] [])) := entry rfl
  have c2 : Steps p.tables e below (s₁.setTop (entryFrame m #[.ref d, .int (Int32.ofNat B.slots.size)] 2)) (s₁.setTop (mkF m 2 #[.val (.ref d), .val (.int (Int32.ofNat B.slots.size))] [.ref d, .int (Int32.ofNat B.slots.size)])) := c1.trans (by
    refine XS.iloadN X0.here hexec rfl (hb hbytes d0) rfl ?_
    refine XS.aloadN X0.here hexec rfl (hb hbytes d1) rfl rfl ?_
    exact Steps.refl _)
  have c3 : Steps p.tables e below (s₁.setTop (entryFrame m #[.ref d, .int (Int32.ofNat B.slots.size)] 2)) (s₁.setTop (mkF m 8 #[.val (.ref d), .val (.int (Int32.ofNat B.slots.size))] [.int (lo8 (ushr (Int32.ofNat B.slots.size - Int32.ofNat B.slots.size) 31))])) := c2.trans (by
    refine X0.alen hexec hB0 rfl rfl (hb hbytes d2) ?_
    refine XS.isub X0.here hexec rfl (hb hbytes d3) rfl ?_
    refine bipushV X0.here hexec rfl 31 (hb hbytes d4) (by decide) ?_
    refine iushr X0.here hexec rfl (hb hbytes d6) rfl ?_
    refine i2b X0.here hexec rfl (hb hbytes d7) rfl ?_
    exact Steps.refl _)
  have e0 : lo8 (ushr (Int32.ofNat B.slots.size - Int32.ofNat B.slots.size) 31) = 0 := by rw [Int32.sub_self]; decide
  rw [e0] at c3
  exact ⟨s₁, some (.int 0), _, _, _, X0, rfl, rfl, rfl, (fun h => by cases h), ⟨rfl, hh0⟩, fun fs hl => c3.trans (X0.ireturnOut hexec hret rfl (Or.inr (Or.inr (Or.inl rfl))) (hb hbytes d8) hl)⟩
end CodL
/-- the String at a is Latin-1 over a new byte[] (the heap's one new cell): the low bytes of the len chars of A from o on; every cell but a is kept -/
def Got (a : Addr) (D : Cell) (fV fC : Field) (A : Cell) (o len : Nat) (r : Option Value) (s u : State) : Prop := r = none ∧ ∃ D' V : Cell, Blank "java/lang/String" a D' u ∧ Same D D' [fV.slot, fC.slot] ∧ D'.slots[fV.slot]? = some (.ref s.heap.size) ∧ D'.slots[fC.slot]? = some (.int 0) ∧ Arr .byte s.heap.size V u ∧ V.vm = .none ∧ u.vm.findClass "[B" = some V.cls ∧ V.slots.size = len ∧ (∀ j, j < len → V.slots[j]? = some (.int (lo8 (cv A (o + j))))) ∧ (∀ (y : Addr) (c : Cell), y ≠ a → s.heap[y]? = some c → u.heap[y]? = some c) ∧ u.heap.size = s.heap.size + 1
theorem Got.mv {a : Addr} {D A : Cell} {fV fC : Field} {o len : Nat} : ∀ r (U U' V V' : State), U'.heap = U.heap → V.vm.Alike V'.vm → V'.heap = V.heap → Got a D fV fC A o len r U V → Got a D fV fC A o len r U' V' :=
  fun r U U' V V' h1 hal h2 ⟨e0, D', X, a1, a2, a3, a4, a5, a6, a7, a8, a9, a10, a11⟩ => ⟨e0, D', X, a1.mv hal h2, a2, by rw [h1]; exact a3, a4, by rw [h1]; exact a5.mv hal h2, a6, by rw [hal.findClass]; exact a7, a8, a9, by rw [h1, h2]; exact a10, by rw [h1, h2]; exact a11⟩
namespace New4
def yN : MethodName := ⟨"java/lang/String", "<init>", "([CIILjava/lang/Void;)V"⟩
abbrev yB : ByteArray := jdk_42_method_149_code
theorem d0 : decode yB 0 = .ok (.aload_n 0, 1) := by decide +kernel
theorem d1 : decode yB 1 = .ok (.invokespecial 1, 3) := by decide +kernel
theorem d4 : decode yB 4 = .ok (.iload_n 3, 1) := by decide +kernel
theorem d5 : decode yB 5 = .ok (.ifCond (.ne) 22, 3) := by decide +kernel
theorem d27 : decode yB 27 = .ok (.getstatic 38, 3) := by decide +kernel
theorem d30 : decode yB 30 = .ok (.ifCond (.eq) 28, 3) := by decide +kernel
theorem d33 : decode yB 33 = .ok (.aload_n 1, 1) := by decide +kernel
theorem d34 : decode yB 34 = .ok (.iload_n 2, 1) := by decide +kernel
theorem d35 : decode yB 35 = .ok (.iload_n 3, 1) := by decide +kernel
theorem d36 : decode yB 36 = .ok (.invokestatic 177, 3) := by decide +kernel
theorem d39 : decode yB 39 = .ok (.astore 5, 2) := by decide +kernel
theorem d41 : decode yB 41 = .ok (.aload_n 0, 1) := by decide +kernel
theorem d42 : decode yB 42 = .ok (.aload 5, 2) := by decide +kernel
theorem d44 : decode yB 44 = .ok (.iload_n 3, 1) := by decide +kernel
theorem d45 : decode yB 45 = .ok (.invokestatic 47, 3) := by decide +kernel
theorem d48 : decode yB 48 = .ok (.putfield 15, 3) := by decide +kernel
theorem d51 : decode yB 51 = .ok (.aload_n 0, 1) := by decide +kernel
theorem d52 : decode yB 52 = .ok (.aload 5, 2) := by decide +kernel
theorem d54 : decode yB 54 = .ok (.putfield 9, 3) := by decide +kernel
theorem d57 : decode yB 57 = .ok (.return_, 1) := by decide +kernel
def site : List Cond := [.fieldLink "java/lang/String" 38 "java/lang/String" "COMPACT_STRINGS" "Z", Cmp3.tab, CodL.tab, .laysFinal "java/lang/String" "java/lang/String" "value" "[B", .fieldLink "java/lang/String" 9 "java/lang/String" "value" "[B", .laysFinal "java/lang/String" "java/lang/String" "coder" "B", .fieldLink "java/lang/String" 15 "java/lang/String" "coder" "B"] ++ objW "java/lang/String" 1 ++ staticW "java/lang/String" 177 Cmp3.yN ++ staticW "java/lang/String" 47 CodL.yN
def tab : Cond := tabOf yN yB 6 none site
def P (a : Addr) (D : Cell) (fV fC : Field) (b : Addr) (A : Cell) (z : Int32) (o len : Nat) (args : Array Value) (s : State) : Prop := args = #[.ref a, .ref b, .int (Int32.ofNat o), .int (Int32.ofNat len), .null] ∧ Blank "java/lang/String" a D s ∧ Found "java/lang/String" "value" "[B" fV s ∧ Found "java/lang/String" "coder" "B" fC s ∧ Ch b A s ∧ StaticIs s "java/lang/String" "COMPACT_STRINGS" "Z" (.int z) ∧ ¬ z = 0 ∧ 0 < len ∧ o + len ≤ A.slots.size ∧ len ≤ 536870912 ∧ ∀ i, i < len → ¬ 255 < cv A (o + i)
def E (a : Addr) (D : Cell) (fV fC : Field) (A : Cell) (o len : Nat) (r : Option Value) (s u : State) : Prop := Got a D fV fC A o len r s u
/-- len > 0, no char of the range above 255: a Latin-1 String of their low bytes -/
theorem law (l : Launch) (a : Addr) (D : Cell) (fV fC : Field) (b : Addr) (A : Cell) (z : Int32) (o len : Nat) : Law l yN 5 4 2 35 yB 6 none site (P a D fV fC b A z o len) (E a D fV fC A o len) [⟨a, fC.slot⟩, ⟨a, fV.slot⟩] 1 len := by
  refine Law.of_walk (plainFor_of_name (by decide +kernel)) (by decide +kernel) (by decide +kernel) (by decide) (fun _ _ h => by rw [h.1]; rfl) (fun _ U U' hal hh h => ⟨h.1, h.2.1.mv hal hh, h.2.2.1.al hal, h.2.2.2.1.al hal, h.2.2.2.2.1.mv hal hh, h.2.2.2.2.2.1.there hal hh, h.2.2.2.2.2.2⟩) (fun r U U' V V' h1 hal h2 h => Got.mv r U U' V V' h1 hal h2 h) ?_
  intro p e s m args below meth c s₁ X0 hexec hbytes hml hret hlk hnm hown hh0 W hP
  obtain ⟨rfl, hB, f1, f2, hA, s1, hz, l0, l1, l2, hp⟩ := hP
  have a31 := hA.1.2.2.2
  have c1 : Steps p.tables e below (s₁.setTop (entryFrame m #[.ref a, .ref b, .int (Int32.ofNat o), .int (Int32.ofNat len), .null] 6)) (s₁.setTop (mkF m 0 #[.val (.ref a), .val (.ref b), .val (.int (Int32.ofNat o)), .val (.int (Int32.ofNat len)), .val .null, .unset] [])) := entry rfl
  have c2 : Steps p.tables e below (s₁.setTop (entryFrame m #[.ref a, .ref b, .int (Int32.ofNat o), .int (Int32.ofNat len), .null] 6)) (s₁.setTop (mkF m 1 #[.val (.ref a), .val (.ref b), .val (.int (Int32.ofNat o)), .val (.int (Int32.ofNat len)), .val .null, .unset] [.ref a])) := c1.trans (by
    refine XS.aloadN X0.here hexec rfl (hb hbytes d0) rfl rfl ?_
    exact Steps.refl _)
  obtain ⟨T3, X3, q3, st3⟩ := X0.oinit hexec hown (wks W (objW "java/lang/String" 1)) (g := (mkF m 1 #[.val (.ref a), .val (.ref b), .val (.int (Int32.ofNat o)), .val (.int (Int32.ofNat len)), .val .null, .unset] [.ref a])) rfl (by rw [hml]; rfl) (rest := []) rfl (hb hbytes d1) (W := 0) (by show 2 * 0 + 0 ≤ _; decide) (Nat.le_of_ble_eq_true rfl) (Nat.le_of_ble_eq_true rfl)
  have hh3 := q3.trans hh0
  have c4 : Steps p.tables e below (s₁.setTop (entryFrame m #[.ref a, .ref b, .int (Int32.ofNat o), .int (Int32.ofNat len), .null] 6)) (T3.setTop (mkF m 27 #[.val (.ref a), .val (.ref b), .val (.int (Int32.ofNat o)), .val (.int (Int32.ofNat len)), .val .null, .unset] [])) := (c2.trans (st3 _ (Steps.refl _))).trans (by
    refine XS.iloadN X3.here hexec rfl (hb hbytes d4) rfl ?_
    refine XS.ifYes X3.here hexec rfl (pc0 := 5) rfl (hb hbytes d5) rfl (i0_ne_t (nz32 (by omega) l0)) (by decide) rfl ?_
    exact Steps.refl _)
  obtain ⟨T5, X5, q5, st5⟩ := X3.sget hexec hown (wk W (.fieldLink "java/lang/String" 38 "java/lang/String" "COMPACT_STRINGS" "Z")) s1 (fun _ _ h => by rw [hh3]; exact h) (g := (mkF m 27 #[.val (.ref a), .val (.ref b), .val (.int (Int32.ofNat o)), .val (.int (Int32.ofNat len)), .val .null, .unset] [])) rfl (hb hbytes d27)
  have hh5 := q5.trans hh3
  have c6 : Steps p.tables e below (s₁.setTop (entryFrame m #[.ref a, .ref b, .int (Int32.ofNat o), .int (Int32.ofNat len), .null] 6)) (T5.setTop (mkF m 30 #[.val (.ref a), .val (.ref b), .val (.int (Int32.ofNat o)), .val (.int (Int32.ofNat len)), .val .null, .unset] [.int z])) := c4.trans (st5 _ (Steps.refl _))
  have c7 : Steps p.tables e below (s₁.setTop (entryFrame m #[.ref a, .ref b, .int (Int32.ofNat o), .int (Int32.ofNat len), .null] 6)) (T5.setTop (mkF m 36 #[.val (.ref a), .val (.ref b), .val (.int (Int32.ofNat o)), .val (.int (Int32.ofNat len)), .val .null, .unset] [.int (Int32.ofNat len), .int (Int32.ofNat o), .ref b])) := c6.trans (by
    refine XS.ifNo X5.here hexec rfl (hb hbytes d30) rfl (i0_eq_f hz) ?_
    refine XS.aloadN X5.here hexec rfl (hb hbytes d33) rfl rfl ?_
    refine XS.iloadN X5.here hexec rfl (hb hbytes d34) rfl ?_
    refine XS.iloadN X5.here hexec rfl (hb hbytes d35) rfl ?_
    exact Steps.refl _)
  obtain ⟨v8, T8, X8, E8, g8⟩ := X5.callS hexec (Cmp3.law l b A o len) hown (wks W (staticW "java/lang/String" 177 Cmp3.yN)) (wk W Cmp3.tab) (W := 0) (Nat.le_of_ble_eq_true rfl) (Nat.le_of_ble_eq_true rfl) (Nat.le_refl _) (by show 0 + len ≤ len; omega) (g := (mkF m 36 #[.val (.ref a), .val (.ref b), .val (.int (Int32.ofNat o)), .val (.int (Int32.ofNat len)), .val .null, .unset] [.int (Int32.ofNat len), .int (Int32.ofNat o), .ref b])) rfl (by rw [hml]; rfl) c7 (argsL := [.ref b, .int (Int32.ofNat o), .int (Int32.ofNat len)]) (rest := []) rfl rfl (by show 2 * 0 + 0 ≤ _; decide) (hb hbytes d36) (⟨rfl, hA.mv X5.warmed.alike hh5, l1, l2, hp⟩)
  obtain ⟨e8, z8⟩ := E8
  obtain ⟨rfl, N, n1, n2, n3, n4, n5, n6⟩ := NewArr.mv _ T5 s _ _ hh5.symm (Vm.Alike.refl _) rfl e8
  rw [hh5] at z8
  have hB1 := hB.keep X8.warmed.alike (n6 _ _ hB.1)
  have hne : s.heap.size ≠ a := (Nat.ne_of_lt (Array.getElem?_eq_some_iff.mp hB.1).1).symm
  have c9 : Steps p.tables e below (s₁.setTop (entryFrame m #[.ref a, .ref b, .int (Int32.ofNat o), .int (Int32.ofNat len), .null] 6)) (T8.setTop (mkF m 39 #[.val (.ref a), .val (.ref b), .val (.int (Int32.ofNat o)), .val (.int (Int32.ofNat len)), .val .null, .unset] [.ref s.heap.size])) := g8
  have c10 : Steps p.tables e below (s₁.setTop (entryFrame m #[.ref a, .ref b, .int (Int32.ofNat o), .int (Int32.ofNat len), .null] 6)) (T8.setTop (mkF m 45 #[.val (.ref a), .val (.ref b), .val (.int (Int32.ofNat o)), .val (.int (Int32.ofNat len)), .val .null, .val (.ref s.heap.size)] [.int (Int32.ofNat N.slots.size), .ref s.heap.size, .ref a])) := by
    have hc : Steps p.tables e below (s₁.setTop (entryFrame m #[.ref a, .ref b, .int (Int32.ofNat o), .int (Int32.ofNat len), .null] 6)) (T8.setTop (mkF m 45 #[.val (.ref a), .val (.ref b), .val (.int (Int32.ofNat o)), .val (.int (Int32.ofNat len)), .val .null, .val (.ref s.heap.size)] [.int (Int32.ofNat len), .ref s.heap.size, .ref a])) := c9.trans (by
      refine XS.astore X8.here hexec rfl (hb hbytes d39) rfl rfl rfl ?_
      refine XS.aloadN X8.here hexec rfl (hb hbytes d41) rfl rfl ?_
      refine XS.aload X8.here hexec rfl (hb hbytes d42) rfl rfl ?_
      refine XS.iloadN X8.here hexec rfl (hb hbytes d44) rfl ?_
      exact Steps.refl _)
    rw [n4]; exact hc
  obtain ⟨v11, T11, X11, E11, g11⟩ := X8.callS hexec (CodL.law l s.heap.size N) hown (wks W (staticW "java/lang/String" 47 CodL.yN)) (wk W CodL.tab) (W := 1) (Nat.le_of_ble_eq_true rfl) (Nat.le_of_ble_eq_true rfl) (Nat.le_refl _) (by show 0 + len + 0 ≤ len; omega) (g := (mkF m 45 #[.val (.ref a), .val (.ref b), .val (.int (Int32.ofNat o)), .val (.int (Int32.ofNat len)), .val .null, .val (.ref s.heap.size)] [.int (Int32.ofNat N.slots.size), .ref s.heap.size, .ref a])) rfl (by rw [hml]; rfl) c10 (argsL := [.ref s.heap.size, .int (Int32.ofNat N.slots.size)]) (rest := [.ref a]) rfl rfl (by show 2 * 0 + (1 + 0) ≤ _; decide) (hb hbytes d45) (⟨rfl, n1⟩)
  obtain ⟨rfl, q11⟩ := E11
  have hB11 := hB1.mv (X8.warmed.alike.symm.trans X11.warmed.alike) q11
  have c12 : Steps p.tables e below (s₁.setTop (entryFrame m #[.ref a, .ref b, .int (Int32.ofNat o), .int (Int32.ofNat len), .null] 6)) (T11.setTop (mkF m 48 #[.val (.ref a), .val (.ref b), .val (.int (Int32.ofNat o)), .val (.int (Int32.ofNat len)), .val .null, .val (.ref s.heap.size)] [.int 0, .ref a])) := g11
  obtain ⟨T13, X13, p13, bl13, sl13, st13⟩ := X11.finit hexec hown (wk W (.fieldLink "java/lang/String" 15 "java/lang/String" "coder" "B")) (Or.inr ⟨_, (wk W (.laysFinal "java/lang/String" "java/lang/String" "coder" "B"))⟩) (Or.inl ⟨rfl, hnm⟩) f2 (Or.inl rfl) hB11 (t := .byte) (by decide +kernel) rfl (g := (mkF m 48 #[.val (.ref a), .val (.ref b), .val (.int (Int32.ofNat o)), .val (.int (Int32.ofNat len)), .val .null, .val (.ref s.heap.size)] [.int 0, .ref a])) rfl (rest := []) rfl (hb hbytes d48)
  have c14 : Steps p.tables e below (s₁.setTop (entryFrame m #[.ref a, .ref b, .int (Int32.ofNat o), .int (Int32.ofNat len), .null] 6)) (T13.setTop (mkF m 54 #[.val (.ref a), .val (.ref b), .val (.int (Int32.ofNat o)), .val (.int (Int32.ofNat len)), .val .null, .val (.ref s.heap.size)] [.ref s.heap.size, .ref a])) := (c12.trans (st13 _ (Steps.refl _))).trans (by
    refine XS.aloadN X13.here hexec rfl (hb hbytes d51) rfl rfl ?_
    refine XS.aload X13.here hexec rfl (hb hbytes d52) rfl rfl ?_
    exact Steps.refl _)
  obtain ⟨T15, X15, p15, bl15, sl15, st15⟩ := X13.finit hexec hown (wk W (.fieldLink "java/lang/String" 9 "java/lang/String" "value" "[B")) (Or.inr ⟨_, (wk W (.laysFinal "java/lang/String" "java/lang/String" "value" "[B"))⟩) (Or.inl ⟨rfl, hnm⟩) f1 (Or.inl rfl) bl13 (t := (.array .byte)) (by decide +kernel) rfl (g := (mkF m 54 #[.val (.ref a), .val (.ref b), .val (.int (Int32.ofNat o)), .val (.int (Int32.ofNat len)), .val .null, .val (.ref s.heap.size)] [.ref s.heap.size, .ref a])) rfl (rest := []) rfl (hb hbytes d54)
  have c16 : Steps p.tables e below (s₁.setTop (entryFrame m #[.ref a, .ref b, .int (Int32.ofNat o), .int (Int32.ofNat len), .null] 6)) (T15.setTop (mkF m 57 #[.val (.ref a), .val (.ref b), .val (.int (Int32.ofNat o)), .val (.int (Int32.ofNat len)), .val .null, .val (.ref s.heap.size)] [])) := c14.trans (st15 _ (Steps.refl _))
  have ap := apart (Or.inr ⟨_, (wk W (.laysFinal "java/lang/String" "java/lang/String" "value" "[B"))⟩) (Or.inr ⟨_, (wk W (.laysFinal "java/lang/String" "java/lang/String" "coder" "B"))⟩) f1 f2 (t₁ := .array .byte) (t₂ := .byte) (by decide +kernel) (by decide +kernel) (by decide)
  have al := X8.warmed.alike.symm.trans X15.warmed.alike
  have n7 : T11.heap[s.heap.size]? = some N := by rw [q11]; exact n1.1
  exact ⟨T15, none, _, _, _, X15, by simp, rfl, by omega, (fun _ => rfl), ⟨rfl, _, N, bl15, ((Same.refl D _).set _ (by simp)).set _ (by simp), sl15, (Cell.slots_setSlot_ne _ ap).trans sl13, n1.keep al (p15.other hne (p13.other hne n7)), n2, by rw [al.findClass]; exact n3, n4, n5, fun y c h1 h2 => p15.other h1 (p13.other h1 (by rw [q11]; exact n6 y c h2)), by rw [p15.2.2, p13.2.2, q11]; exact z8⟩, fun fs hl => c16.trans (X15.returnOut hexec hret (hb hbytes d57) hl)⟩
end New4
namespace New1
def yN : MethodName := ⟨"java/lang/String", "<init>", "([C)V"⟩
abbrev yB : ByteArray := jdk_42_method_3_code
theorem d0 : decode yB 0 = .ok (.aload_n 0, 1) := by decide +kernel
theorem d1 : decode yB 1 = .ok (.aload_n 1, 1) := by decide +kernel
theorem d2 : decode yB 2 = .ok (.iconst 0, 1) := by decide +kernel
theorem d3 : decode yB 3 = .ok (.aload_n 1, 1) := by decide +kernel
theorem d4 : decode yB 4 = .ok (.arraylength, 1) := by decide +kernel
theorem d5 : decode yB 5 = .ok (.aconst_null, 1) := by decide +kernel
theorem d6 : decode yB 6 = .ok (.invokespecial 27, 3) := by decide +kernel
theorem d9 : decode yB 9 = .ok (.return_, 1) := by decide +kernel
def site : List Cond := [New4.tab] ++ initW "java/lang/String" 27 New4.yN
def tab : Cond := tabOf yN yB 2 none site
def P (a : Addr) (D : Cell) (fV fC : Field) (b : Addr) (A : Cell) (z : Int32) (args : Array Value) (s : State) : Prop := args = #[.ref a, .ref b] ∧ Blank "java/lang/String" a D s ∧ Found "java/lang/String" "value" "[B" fV s ∧ Found "java/lang/String" "coder" "B" fC s ∧ Ch b A s ∧ StaticIs s "java/lang/String" "COMPACT_STRINGS" "Z" (.int z) ∧ ¬ z = 0 ∧ 0 < A.slots.size ∧ A.slots.size ≤ 536870912 ∧ ∀ i, i < A.slots.size → ¬ 255 < cv A i
def E (a : Addr) (D : Cell) (fV fC : Field) (A : Cell) (r : Option Value) (s u : State) : Prop := Got a D fV fC A 0 A.slots.size r s u
/-- new String(chars), not empty, no char above 255: a Latin-1 String of their low bytes -/
theorem law (l : Launch) (a : Addr) (D : Cell) (fV fC : Field) (b : Addr) (A : Cell) (z : Int32) : Law l yN 2 1 3 52 yB 2 none site (P a D fV fC b A z) (E a D fV fC A) [⟨a, fC.slot⟩, ⟨a, fV.slot⟩] 1 A.slots.size := by
  refine Law.of_walk (plainFor_of_name (by decide +kernel)) (by decide +kernel) (by decide +kernel) (by decide) (fun _ _ h => by rw [h.1]; rfl) (fun _ U U' hal hh h => ⟨h.1, h.2.1.mv hal hh, h.2.2.1.al hal, h.2.2.2.1.al hal, h.2.2.2.2.1.mv hal hh, h.2.2.2.2.2.1.there hal hh, h.2.2.2.2.2.2⟩) (fun r U U' V V' h1 hal h2 h => Got.mv r U U' V V' h1 hal h2 h) ?_
  intro p e s m args below meth c s₁ X0 hexec hbytes hml hret hlk hnm hown hh0 W hP
  obtain ⟨rfl, hB, f1, f2, hA, s1, hz, l0, l2, hp⟩ := hP
  have c1 : Steps p.tables e below (s₁.setTop (entryFrame m #[.ref a, .ref b] 2)) (s₁.setTop (mkF m 0 #[.val (.ref a), .val (.ref b)] [])) := entry rfl
  have c2 : Steps p.tables e below (s₁.setTop (entryFrame m #[.ref a, .ref b] 2)) (s₁.setTop (mkF m 6 #[.val (.ref a), .val (.ref b)] [.null, .int (Int32.ofNat A.slots.size), .int 0, .ref b, .ref a])) := c1.trans (by
    refine XS.aloadN X0.here hexec rfl (hb hbytes d0) rfl rfl ?_
    refine XS.aloadN X0.here hexec rfl (hb hbytes d1) rfl rfl ?_
    refine iconstV X0.here hexec rfl 0 (hb hbytes d2) (by decide) ?_
    refine XS.aloadN X0.here hexec rfl (hb hbytes d3) rfl rfl ?_
    refine X0.alen hexec (hA.1.mv X0.warmed.alike hh0) rfl rfl (hb hbytes d4) ?_
    refine XS.aconstNull X0.here hexec rfl (hb hbytes d5) ?_
    exact Steps.refl _)
  obtain ⟨v3, T3, X3, E3, g3⟩ := X0.callN hexec (New4.law l a D fV fC b A z 0 A.slots.size) rfl hown (wks W (initW "java/lang/String" 27 New4.yN)) (W New4.tab (by simp only [site, List.mem_cons, List.mem_append, true_or, or_true])) (W := 0) (Nat.le_of_ble_eq_true rfl) (Nat.le_of_ble_eq_true rfl) (Nat.le_refl _) (by show 0 + A.slots.size ≤ A.slots.size; omega) (g := (mkF m 6 #[.val (.ref a), .val (.ref b)] [.null, .int (Int32.ofNat A.slots.size), .int (Int32.ofNat 0), .ref b, .ref a])) rfl (by rw [hml]; rfl) c2 (argsL := [.ref b, .int (Int32.ofNat 0), .int (Int32.ofNat A.slots.size), .null]) (rest := []) rfl rfl (by show 2 * 0 + 0 ≤ _; decide) (hb hbytes d6) (⟨rfl, hB.mv X0.warmed.alike hh0, f1.al X0.warmed.alike, f2.al X0.warmed.alike, hA.mv X0.warmed.alike hh0, s1.there X0.warmed.alike hh0, hz, l0, by omega, l2, fun i hi => by rw [Nat.zero_add]; exact hp i hi⟩)
  have e0 := Got.mv _ s₁ s _ _ hh0.symm (Vm.Alike.refl _) rfl E3
  obtain rfl := e0.1
  have c4 : Steps p.tables e below (s₁.setTop (entryFrame m #[.ref a, .ref b] 2)) (T3.setTop (mkF m 9 #[.val (.ref a), .val (.ref b)] [])) := g3
  exact ⟨T3, none, _, _, _, X3, by simp, rfl, by omega, (fun _ => rfl), e0, fun fs hl => c4.trans (X3.returnOut hexec hret (hb hbytes d9) hl)⟩
theorem pays {l : Launch} {R : Room} {p : Program} {e : Env} {below : List Frame} {s : State} {sargs : Array Value} {len W : Nat} (a : Addr) (D : Cell) (fV fC : Field) (b : Addr) (A : Cell) (z : Int32) (htab : tab.before sargs s = true) (hfr : 4 ≤ R.frames) (hlo : W + 65 ≤ R.locals) :
    Back l R p e below s sargs yN len W (fun A₁ a₁ => A₁.cells + 1 ≤ R.cells ∧ A₁.slots + A.slots.size ≤ R.slots ∧ P a D fV fC b A z a₁ A₁.U) (fun A₁ _ v₁ B₁ => E a D fV fC A v₁ A₁.U B₁.U ∧ B₁.locs = A₁.locs ++ [⟨a, fC.slot⟩, ⟨a, fV.slot⟩] ∧ B₁.cells = A₁.cells + 1 ∧ B₁.slots = A₁.slots + A.slots.size) :=
  (law l a D fV fC b A z).pays htab hfr (by omega)
end New1
/-- the byte, read back as charAt reads it, is the char -/
theorem lo8_mask {x : Int32} (h0 : ¬ x < 0) (h1 : ¬ 255 < x) : lo8 x &&& 255 = x := by
  have t : ∀ k : Fin 256, lo8 (Int32.ofNat k.val) &&& 255 = Int32.ofNat k.val := by decide +kernel
  rw [Int32.lt_iff_toInt_lt] at h0 h1
  have e0 : (0 : Int32).toInt = 0 := rfl
  have e1 : (255 : Int32).toInt = 255 := rfl
  obtain ⟨k, hk⟩ : ∃ k : Nat, x.toInt = k := ⟨x.toInt.toNat, by omega⟩
  have hx : x = Int32.ofNat k := Int32.toInt_inj.mp (by rw [hk, Int32.toInt_ofNat_small (by omega)])
  rw [hx]
  exact t ⟨k, by omega⟩
end StrChars
namespace StrChars.Road
open Jvm Sem ClassFile Op Lib Jvm.Stand Jvm.Free Jvm.Free.XT
open Jvm.Lib.Cold (StaticIs)
abbrev ST : String := "java/lang/String"
/-- every table word that New1's law asks, flat -/
abbrev words : List Jvm.Cond := [.code New1.yN New1.yB 2 none, .initialized ST, .methodLink ST 27 New4.yN, .instanceMethod New4.yN,
  .code New4.yN New4.yB 6 none, .fieldLink ST 38 ST "COMPACT_STRINGS" "Z", .laysFinal ST ST "value" "[B", .fieldLink ST 9 ST "value" "[B", .laysFinal ST ST "coder" "B", .fieldLink ST 15 ST "coder" "B",
  .methodLink ST 1 Lib.objectInit, .instanceMethod Lib.objectInit, .code Lib.objectInit ⟨#[0xb1]⟩ 1 none, .methodLink ST 177 Cmp3.yN, .static Cmp3.yN, .methodLink ST 47 CodL.yN, .static CodL.yN,
  .code Cmp3.yN Cmp3.yB 6 (some (.array .byte)), .initialized U16, .arrayClass .byte, .methodLink U16 115 Cmp5.yN, .static Cmp5.yN, .code Cmp5.yN Cmp5.yB 7 (some .int), .code CodL.yN CodL.yB 2 (some .byte)]
theorem tab_of {a : Array Value} {s : State} (h : ∀ w ∈ words, w.before a s = true) : New1.tab.before a s = true := by
  have h5 : Cmp5.tab.before a s = true := unparts (wk h (.code Cmp5.yN Cmp5.yB 7 (some .int))) (wks h (.initialized Cmp5.yN.cls :: Cmp5.site))
  have hc : CodL.tab.before a s = true := unparts (wk h (.code CodL.yN CodL.yB 2 (some .byte))) (wks h (.initialized CodL.yN.cls :: CodL.site))
  have q5 : ∀ w ∈ Cmp5.tab :: words, w.before a s = true := fun w hw => (List.mem_cons.mp hw).elim (fun e => e ▸ h5) (h w)
  have h3 : Cmp3.tab.before a s = true := unparts (wk q5 (.code Cmp3.yN Cmp3.yB 6 (some (.array .byte)))) (wks q5 (.initialized Cmp3.yN.cls :: Cmp3.site))
  have q3 : ∀ w ∈ Cmp3.tab :: CodL.tab :: words, w.before a s = true := fun w hw => (List.mem_cons.mp hw).elim (fun e => e ▸ h3) fun hw => (List.mem_cons.mp hw).elim (fun e => e ▸ hc) (h w)
  have h4 : New4.tab.before a s = true := unparts (wk q3 (.code New4.yN New4.yB 6 none)) (wks q3 (.initialized New4.yN.cls :: New4.site))
  have q4 : ∀ w ∈ New4.tab :: words, w.before a s = true := fun w hw => (List.mem_cons.mp hw).elim (fun e => e ▸ h4) (h w)
  exact unparts (wk q4 (.code New1.yN New1.yB 2 none)) (wks q4 (.initialized New1.yN.cls :: New1.site))
/-- the words ride from the start Z to the walk's own state -/
theorem moved {Z s : State} {a0 args : Array Value} (hZ : Z.Warmed39 s.vm) (hw : ∀ d ∈ words, d.before a0 Z = true) : ∀ d ∈ words, d.before args s = true := fun d hd => by
  have q := hw d hd
  have t : ∀ d ∈ words, d = .arrayClass .byte ∨ (d.onTables && d.keepsFace) = true := by decide +kernel
  rcases t d hd with rfl | t
  · exact RoadKit.mvA hZ q
  · exact RoadKit.mv hZ q t
/-- WHAT COMES BACK, over the tables of the start Z: h the heap at the call, h' behind it -/
def Q (Z : State) (x : Addr) (A : Cell) (h : Heap) (v : Option Value) (h' : Heap) (L : List Loc) : Prop := v = none ∧ (∀ y ∈ L, y.base = x) ∧ RoadKit.Keep h h' [x] ∧ h'.size = h.size + 1 ∧ RoadKit.Exa Z h' x ST ∧ RoadKit.Fld Z h' x ST "value" "[B" (.ref h.size) ∧ RoadKit.Fld Z h' x ST "coder" "B" (.int 0) ∧
  (∃ V : Cell, RoadKit.Arr Z h' h.size V .byte ∧ V.vm = .none ∧ Z.vm.findClass "[B" = some V.cls ∧ V.slots.size = A.slots.size ∧ ∀ j, j < A.slots.size → V.slots[j]? = some (.int (lo8 (cv A j)))) ∧
  ∀ (O n d : String) (w : Value), RoadKit.Fld Z h x O n d w → RoadKit.slotOf Z O n d ≠ RoadKit.slotOf Z ST "value" "[B" → RoadKit.slotOf Z O n d ≠ RoadKit.slotOf Z ST "coder" "B" → RoadKit.Fld Z h' x O n d w
/-- **new String(chars) AT A CALL, IN THE ROAD'S FORM**: for specialBack behind newO: x the fresh String, b the char[] with the cell A -/
theorem back {p : Program} {l : Launch} {e : Env} {R : Room} {s : State} {args : Array Value} {below : List Frame} {len W : Nat} {Z : State} {a0 : Array Value} {h : Heap} (hZ : Z.Warmed39 s.vm) (hw : ∀ d ∈ words, d.before a0 Z = true) {kI : Nat} (wi : (Jvm.Cond.instantiable ST kI).before a0 Z = true)
    {x b : Addr} {A : Cell} {z : Int32} {v0 c0 : Value} (E : RoadKit.Exa Z h x ST) (V : RoadKit.Fld Z h x ST "value" "[B" v0) (C : RoadKit.Fld Z h x ST "coder" "B" c0) (K : RoadKit.Arr Z h b A .char) (hty : Typed .char A) (S : RoadKit.Sta Z h ST "COMPACT_STRINGS" "Z" (.int z)) (hz : ¬ z = 0)
    (l0 : 0 < A.slots.size) (l2 : A.slots.size ≤ 536870912) (hp : ∀ i, i < A.slots.size → ¬ 255 < cv A i) (hfr : 4 ≤ R.frames) (hlo : W + 65 ≤ R.locals) :
    Back l R p e below s args New1.yN len W (fun P a => a = #[.ref x, .ref b] ∧ P.U.heap = h ∧ P.cells + 1 ≤ R.cells ∧ P.slots + A.slots.size ≤ R.slots)
      (fun P _ v B => ∃ L, Q Z x A h v B.U.heap L ∧ B.locs = P.locs ++ L ∧ B.cells = P.cells + 1 ∧ B.slots = P.slots + A.slots.size) := by
  intro m meth c P g ig mk a X hg hsize hdg hW hn hp'
  obtain ⟨rfl, rfl, r1, r2⟩ := hp'
  have al : Z.vm.Alike P.U.vm := hZ.alike.trans X.warmed.alike
  obtain ⟨D, cfV, kV, iV, fV, hD, gV, stV, knV, obV, asV, slV⟩ := id V
  obtain ⟨D', cfC, kC, iC, fC, hD', gC, stC, -, -, asC, slC⟩ := id C
  cases hD.symm.trans hD'
  obtain ⟨D2, kD, e1, e2, e3, e4, e5⟩ := id E
  cases hD.symm.trans e1
  obtain ⟨c2, k2, i1, i2, i3, -⟩ := Cond.instantiable_spec wi
  cases e2.symm.trans i1
  cases e3.symm.trans i2
  obtain ⟨kU, u1, u2⟩ := al.2.2 _ _ e3
  have hB : Blank ST x D P.U := ⟨hD, ⟨knV, fun q hq => by rw [hq] at obV; cases obV⟩, by rw [al.findClass]; exact e2, kU, u1, by rw [u2]; exact i3, by rw [u2]; exact e5 i3⟩
  have F1 : Found ST "value" "[B" fV P.U := ⟨SBG.found_only al ⟨cfV, kV, iV, gV⟩, stV⟩
  have F2 : Found ST "coder" "B" fC P.U := ⟨SBG.found_only al ⟨cfC, kC, iC, gC⟩, stC⟩
  have hA : Ch b A P.U := ⟨⟨K.1, State.isArrayOf_alike al K.2.1, K.2.2, by omega⟩, hty⟩
  have hS : StaticIs P.U ST "COMPACT_STRINGS" "Z" (.int z) := by
    obtain ⟨cfS, iS, kS, fS, st, cS, t1, t2, t3, t4, t5, t6, t7⟩ := S
    exact StaticIs.there (s := { Z with heap := P.U.heap }) ⟨cfS, iS, kS, fS, st, cS, t1, t2, t3, t4, t5, (fun q => by rw [q] at t6; cases t6), t7⟩ al rfl
  obtain ⟨v, B, X', ⟨⟨hv, E', V', q1, q2, q3, q4, q5, q6, q7, q8, q9, q10, q11⟩, hl, hc, hs⟩, st⟩ := New1.pays x D fV fC b A z (tab_of (moved hZ hw)) hfr hlo m meth c P g ig mk _ X hg hsize hdg hW hn ⟨r1, r2, rfl, hB, F1, F2, hA, hS, hz, l0, l2, hp⟩
  have al' : Z.vm.Alike B.U.vm := hZ.alike.trans X'.warmed.alike
  have hsz : E'.slots.size = D.slots.size := by
    obtain ⟨-, -, -, kB, w1, w2, w3⟩ := q1
    obtain ⟨kB', y1, y2⟩ := al'.2.2 _ _ e3
    rw [q2.2.1] at w1
    cases w1.symm.trans y1
    rw [w3, e5 i3, y2]
  refine ⟨v, B, X', ⟨_, ⟨hv, ?_, ⟨by omega, fun y cy hy hn' => q10 y cy (by simpa using hn') hy, fun y cy hy => ?_⟩, q11, ⟨E', _, q1.1, by rw [q2.2.1]; exact e2, by rw [q2.2.1]; exact e3, by rw [q2.1]; exact obV, fun _ => by rw [hsz]; exact e5 i3⟩,
    ⟨E', cfV, kV, iV, fV, q1.1, gV, stV, by rw [q2.1]; exact knV, by rw [q2.1]; exact obV, by rw [q2.2.1]; exact asV, q3⟩, ⟨E', cfC, kC, iC, fC, q1.1, gC, stC, by rw [q2.1]; exact knV, by rw [q2.1]; exact obV, by rw [q2.2.1]; exact asC, q4⟩,
    ⟨V', ⟨q5.1, State.isArrayOf_alike al'.symm q5.2.1, q5.2.2.1⟩, q6, by rw [← al'.findClass]; exact q7, q8, fun j hj => by have := q9 j hj; rwa [Nat.zero_add] at this⟩, fun O n d w F n1 n2 => ?_⟩, hl, hc, hs⟩, st⟩
  · intro y hy
    simp only [List.mem_cons, List.not_mem_nil, or_false] at hy
    rcases hy with rfl | rfl <;> rfl
  · by_cases q : y = x
    · subst q
      cases hD.symm.trans hy
      exact ⟨E', q1.1, q2.2.1, q2.1, hsz⟩
    · exact ⟨cy, q10 y cy q hy, rfl, rfl, rfl⟩
  · obtain ⟨D3, cf, k, i, f, g1, g2, g3, g4, g5, g6, g7⟩ := F
    cases hD.symm.trans g1
    simp only [RoadKit.slotOf, g2, gV, gC, Option.map_some, Option.getD_some] at n1 n2
    exact ⟨E', cf, k, i, f, q1.1, g2, g3, by rw [q2.1]; exact g4, by rw [q2.1]; exact g5, by rw [q2.2.1]; exact g6, by rw [q2.2.2 f.slot (by simp [n1, n2])]; exact g7⟩
end StrChars.Road
namespace StrChars.Road
open Jvm Sem ClassFile Op Lib Jvm.Stand Jvm.Free Jvm.Free.XT
/-- WHAT COMES BACK, the byte[] as a list of values -/
def QA (Z : State) (x : Addr) (zn : Int32) (cs : List Int32) (h : Heap) (v : Option Value) (h' : Heap) (L : List Loc) : Prop := v = none ∧ (∀ y ∈ L, y.base = x) ∧ RoadKit.Keep h h' [x] ∧ h'.size = h.size + 1 ∧ RoadKit.Exa Z h' x ST ∧ RoadKit.Fld Z h' x ST "value" "[B" (.ref h.size) ∧ RoadKit.Fld Z h' x ST "coder" "B" (.int 0) ∧
  (∃ kb, Z.vm.findClass "[B" = some kb ∧ RoadKit.Arv Z h' h.size kb .byte zn (cs.map fun c => .int (lo8 c)) (.int 0)) ∧
  ∀ (O n d : String) (w : Value), RoadKit.Fld Z h x O n d w → RoadKit.slotOf Z O n d ≠ RoadKit.slotOf Z ST "value" "[B" → RoadKit.slotOf Z O n d ≠ RoadKit.slotOf Z ST "coder" "B" → RoadKit.Fld Z h' x O n d w
/-- **new String(chars) AT A CALL, THE ARRAYS AS LISTS**: the char[] at b holds cs, not empty, no char above 255 -/
theorem backArv {p : Program} {l : Launch} {e : Env} {R : Room} {s : State} {args : Array Value} {below : List Frame} {len W : Nat} {Z : State} {a0 : Array Value} {h : Heap} (hZ : Z.Warmed39 s.vm) (hw : ∀ d ∈ words, d.before a0 Z = true) {kI : Nat} (wi : (Jvm.Cond.instantiable ST kI).before a0 Z = true)
    {x b : Addr} {k : ClassId} {zn z : Int32} {cs : List Int32} {dv v0 c0 : Value} (E : RoadKit.Exa Z h x ST) (V : RoadKit.Fld Z h x ST "value" "[B" v0) (C : RoadKit.Fld Z h x ST "coder" "B" c0) (K : RoadKit.Arv Z h b k .char zn (cs.map Value.int) dv) (S : RoadKit.Sta Z h ST "COMPACT_STRINGS" "Z" (.int z)) (hz : ¬ z = 0)
    (hlen : zn.toNatClampNeg = cs.length) (h0 : 0 < cs.length) (hbig : cs.length ≤ 536870912) (hall : ∀ c ∈ cs, ¬ 255 < c) (hfr : 4 ≤ R.frames) (hlo : W + 65 ≤ R.locals) :
    Back l R p e below s args New1.yN len W (fun P a => a = #[.ref x, .ref b] ∧ P.U.heap = h ∧ P.cells + 1 ≤ R.cells ∧ P.slots + cs.length ≤ R.slots)
      (fun P _ v B => ∃ L, QA Z x zn cs h v B.U.heap L ∧ B.locs = P.locs ++ L ∧ B.cells = P.cells + 1 ∧ B.slots = P.slots + cs.length) := by
  obtain ⟨A, K1, K2, K3, K4, K5, K6⟩ := K
  have e : A.slots.size = cs.length := K3.trans hlen
  have hat : ∀ (i : Nat) (hi : i < cs.length), A.slots[i]? = some (.int cs[i]) := fun i hi => by rw [K5 i (by omega)]; simp [List.getD_eq_getElem?_getD, hi]
  have hcv : ∀ (i : Nat) (hi : i < cs.length), cv A i = cs[i] := fun i hi => by unfold cv; rw [hat i hi]
  have hty : Typed .char A := fun i v hv => by
    have hi : i < A.slots.size := (Array.getElem?_eq_some_iff.mp hv).1
    have q := K5 i hi
    rw [hv] at q
    rw [Option.some.inj q]
    exact K6 i hi
  refine Back.mono (back hZ hw wi E V C K1 hty S hz (by omega) (by omega) (fun i hi => by rw [hcv i (by omega)]; exact hall _ (List.getElem_mem _)) hfr hlo) (fun P a hp => ⟨hp.1, hp.2.1, hp.2.2.1, by rw [e]; exact hp.2.2.2⟩) (fun P a v B hp hq => ?_)
  obtain ⟨L, ⟨q1, q2, q3, q4, q5, q6, q7, ⟨V', v1, v2, v3, v4, v5⟩, q9⟩, hl, hc, hs⟩ := hq
  refine ⟨L, ⟨q1, q2, q3, q4, q5, q6, q7, ⟨V'.cls, v3, V', v1, rfl, by rw [v4, e, hlen], K4, fun i hi => ?_, fun i hi => ?_⟩, q9⟩, hl, hc, by rw [hs, e]⟩
  · have hi' : i < cs.length := by omega
    rw [v5 i (by omega), hcv i hi']; simp [List.getD_eq_getElem?_getD, hi']
  · have hi' : i < cs.length := by omega
    simp only [List.getD_eq_getElem?_getD, List.getElem?_map, List.getElem?_eq_getElem hi', Option.map_some, Option.getD_some]
    exact fits_lo8 _
end StrChars.Road
namespace StrChars.Road
open Jvm Sem ClassFile Op Lib Jvm.Stand Jvm.Free Jvm.Free.XT
/-- WHAT COMES BACK, in the writer's own shape -/
def QV (Z : State) (x : Addr) (N : Int32) (bs : List Int32) (h : Heap) (n0 : Nat) (v : Option Value) (h' : Heap) (L : List Loc) : Prop := v = none ∧ RoadKit.Fr n0 L ∧ RoadKit.Keep h h' [x] ∧ RoadKit.Exa Z h' x ST ∧ RoadKit.Fld Z h' x ST "coder" "B" (.int 0) ∧
  ∃ (t : Addr) (kb : ClassId), n0 ≤ t ∧ h.size ≤ t ∧ ¬ t = x ∧ RoadKit.Fld Z h' x ST "value" "[B" (.ref t) ∧ RoadKit.Arv Z h' t kb .byte N (bs.map Value.int) (.int 0)
/-- **new String(chars) AT A CALL, FOR THE WRITER**: a char[] of n known ints, each 0 to 255 -/
theorem backV {p : Program} {l : Launch} {e : Env} {R : Room} {s : State} {args : Array Value} {below : List Frame} {len W : Nat} {Z : State} {a0 : Array Value} {h : Heap} (hZ : Z.Warmed39 s.vm) (hw : ∀ d ∈ words, d.before a0 Z = true) {kI : Nat} (wi : (Jvm.Cond.instantiable ST kI).before a0 Z = true)
    {x b : Addr} {kC : ClassId} {cs bs : List Int32} {d v0 c0 : Value} {z N : Int32} {n n0 : Nat} (hx0 : n0 ≤ x) (hh0 : n0 ≤ h.size) (E : RoadKit.Exa Z h x ST) (V : RoadKit.Fld Z h x ST "value" "[B" v0) (C : RoadKit.Fld Z h x ST "coder" "B" c0) (K : RoadKit.Arv Z h b kC .char N (cs.map Value.int) d) (S : RoadKit.Sta Z h ST "COMPACT_STRINGS" "Z" (.int z)) (hz : ¬ z = 0)
    (hn : cs.length = n) (hN : N = Int32.ofNat n) (l0 : 0 < n) (l2 : n ≤ 4000) (hp : ∀ c ∈ cs, ¬ c < 0 ∧ ¬ (255 : Int32) < c) (hb : bs = cs.map (fun c => c.toInt8.toInt32)) (hfr : 4 ≤ R.frames) (hlo : W + 65 ≤ R.locals) :
    Back l R p e below s args (⟨"java/lang/String", "<init>", "([C)V"⟩ : MethodName) len W (fun P a => a = #[.ref x, .ref b] ∧ P.U.heap = h ∧ P.cells + 1 ≤ R.cells ∧ P.slots + n ≤ R.slots)
      (fun P _ v B => ∃ L, QV Z x N bs h n0 v B.U.heap L ∧ B.locs = P.locs ++ L ∧ B.cells = P.cells + 1 ∧ B.slots = P.slots + n) := by
  subst hn hN hb
  refine Back.mono (backArv hZ hw wi E V C K S hz (n32 (by omega)) l0 (by omega) (fun c hc => (hp c hc).2) hfr hlo) (fun P a hp => hp) (fun P a v B hp hq => ?_)
  obtain ⟨L, ⟨q1, q2, q3, q4, q5, q6, q7, ⟨kb, v1, v2⟩, q9⟩, hl, hc, hs⟩ := hq
  exact ⟨L, ⟨q1, fun y hy => by rw [q2 y hy]; exact hx0, q3, q5, q7, h.size, kb, hh0, Nat.le_refl _, Nat.ne_of_gt E.lt, q6, by rw [List.map_map]; exact v2⟩, hl, hc, hs⟩
end StrChars.Road
namespace StrChars
open Jvm Sem ClassFile Op Lib Jvm.Stand Jvm.Free.XT Jvm.Free.ALB Jvm.Free.JM Jvm.Free
open Jvm.Lib.Cold (StaticIs)
def hi8 (x : Int32) : Int32 := lo8 (x >>> ((8 : Int32) &&& 31))
/-- what StringUTF16.getChar makes of two bytes -/
def pairCh (u v : Int32) : Int32 := (((u &&& 255) <<< ((0 : Int32) &&& 31)) ||| ((v &&& 255) <<< ((8 : Int32) &&& 31))).toUInt32.toUInt16.toUInt32.toInt32
theorem shr0 (c : Int32) : c >>> ((0 : Int32) &&& 31) = c := by
  have e : ((0 : Int32) &&& 31) = 0 := by decide
  rw [e]
  apply Int32.toBitVec_inj.mp
  rw [Int32.toBitVec_shiftRight]
  have e1 : ((0 : Int32).toBitVec.smod 32) = 0#32 := by decide
  rw [e1, BitVec.sshiftRight_eq']
  exact BitVec.sshiftRight_zero
theorem lo8_and (x : Int32) : (lo8 x &&& 255).toBitVec.toNat = x.toBitVec.toNat % 256 := by
  have h : (lo8 x).toBitVec = (x.toBitVec.signExtend 8).signExtend 32 := by rw [lo8, Int8.toBitVec_toInt32, Int32.toBitVec_toInt8]
  rw [Int32.toBitVec_and, BitVec.toNat_and, h]
  have e : ((x.toBitVec.signExtend 8).signExtend 32).toNat % 256 = x.toBitVec.toNat % 256 := by
    rw [BitVec.toNat_signExtend]
    have hlt := x.toBitVec.isLt
    simp only [BitVec.toNat_setWidth, BitVec.toNat_signExtend]
    split <;> split <;> omega
  rw [← e]
  exact Nat.and_two_pow_sub_one_eq_mod _ 8
theorem pair_says {c : Int32} (h0 : ¬ c < 0) (h1 : ¬ 65535 < c) : pairCh (lo8 c) (hi8 c) = c := by
  rw [Int32.lt_iff_toInt_lt] at h0 h1
  have e0 : (0 : Int32).toInt = 0 := rfl
  have e1 : (65535 : Int32).toInt = 65535 := rfl
  have hc : c.toInt = c.toBitVec.toNat := by
    have := c.toBitVec.isLt
    have e : c.toInt = c.toBitVec.toInt := rfl
    rw [e] at h0 h1
    rw [e]
    rw [BitVec.toInt_eq_toNat_cond] at h0 h1 ⊢
    split at h0 <;> split <;> omega
  have hn : c.toBitVec.toNat < 65536 := by omega
  have a1 := lo8_and c
  have a2 : (hi8 c &&& 255).toBitVec.toNat = c.toBitVec.toNat / 256 := by
    rw [hi8, lo8_and]
    have e : ((8 : Int32) &&& 31) = 8 := by decide
    rw [e, Int32.toBitVec_shiftRight]
    have e2 : ((8 : Int32).toBitVec.smod 32) = 8#32 := by decide
    rw [e2, BitVec.sshiftRight_eq', BitVec.toNat_sshiftRight_of_msb_false (by rw [BitVec.msb_eq_false_iff_two_mul_lt]; omega)]
    show c.toBitVec.toNat >>> 8 % 256 = _
    rw [Nat.shiftRight_eq_div_pow]
    omega
  unfold pairCh
  apply Int32.toBitVec_inj.mp
  apply BitVec.eq_of_toNat_eq
  have f0 : ((0 : Int32) &&& 31) = 0 := by decide
  have f8 : ((8 : Int32) &&& 31) = 8 := by decide
  rw [f0, f8]
  have g : (((lo8 c &&& 255) <<< (0 : Int32)) ||| ((hi8 c &&& 255) <<< (8 : Int32))).toBitVec.toNat = c.toBitVec.toNat := by
    rw [Int32.toBitVec_or, Int32.toBitVec_shiftLeft, Int32.toBitVec_shiftLeft]
    have s0 : ((0 : Int32).toBitVec.smod 32) = 0#32 := by decide
    have s8 : ((8 : Int32).toBitVec.smod 32) = 8#32 := by decide
    rw [s0, s8, BitVec.toNat_or]
    simp only [BitVec.shiftLeft_eq', BitVec.toNat_shiftLeft, a1, a2]
    show (c.toBitVec.toNat % 256) <<< 0 % 2 ^ 32 ||| (c.toBitVec.toNat / 256) <<< 8 % 2 ^ 32 = _
    rw [Nat.shiftLeft_zero, Nat.mod_eq_of_lt (show c.toBitVec.toNat % 256 < 2 ^ 32 by omega), Nat.mod_eq_of_lt (show (c.toBitVec.toNat / 256) <<< 8 < 2 ^ 32 by rw [Nat.shiftLeft_eq]; omega), Nat.or_comm, ← Nat.shiftLeft_add_eq_or_of_lt (by omega), Nat.shiftLeft_eq]
    omega
  show BitVec.toNat (((((lo8 c &&& 255) <<< (0 : Int32)) ||| ((hi8 c &&& 255) <<< (8 : Int32))).toBitVec.setWidth 16).setWidth 32) = _
  rw [BitVec.toNat_setWidth, BitVec.toNat_setWidth, g]
  omega
end StrChars
namespace StrChars
open Jvm Sem ClassFile Op Lib Jvm.Stand Jvm.Free.XT Jvm.Free.ALB Jvm.Free.JM Jvm.Free
open Jvm.Lib.Cold (StaticIs)
theorem shr1 {n : Nat} (h : 2 * n < 2 ^ 31) : Int32.ofNat (2 * n) >>> ((1 : Int32) &&& 31) = Int32.ofNat n := by
  have e : ((1 : Int32) &&& 31) = 1 := by decide
  rw [e]
  apply Int32.toBitVec_inj.mp
  rw [Int32.toBitVec_shiftRight]
  have e1 : ((1 : Int32).toBitVec.smod 32) = 1#32 := by decide
  have hm : (BitVec.ofNat 32 (2 * n)).toNat = 2 * n := by rw [BitVec.toNat_ofNat, Nat.mod_eq_of_lt (by omega)]
  rw [e1, BitVec.sshiftRight_eq']
  apply BitVec.eq_of_toNat_eq
  show ((BitVec.ofNat 32 (2 * n)).sshiftRight 1).toNat = (BitVec.ofNat 32 n).toNat
  rw [BitVec.toNat_sshiftRight_of_msb_false (by rw [BitVec.msb_eq_false_iff_two_mul_lt, hm]; omega), hm, BitVec.toNat_ofNat, Nat.shiftRight_eq_div_pow]
  omega
/-- the array's cell V codes the n chars f 0 .. f (n - 1) by the coder cd, as the JDK does: coder 1 just where some char is above 255 -/
def Cod (cd : Int32) (n : Nat) (f : Nat → Int32) (V : Cell) : Prop := (cd = 0 ∧ V.slots.size = n ∧ ∀ j, j < n → V.slots[j]? = some (.int (lo8 (f j))) ∧ ¬ 255 < f j) ∨ (cd = 1 ∧ V.slots.size = 2 * n ∧ (∀ j, j < n → V.slots[2 * j]? = some (.int (lo8 (f j))) ∧ V.slots[2 * j + 1]? = some (.int (hi8 (f j)))) ∧ ∃ j, j < n ∧ 255 < f j)
theorem Cod.cd {cd : Int32} {n : Nat} {f : Nat → Int32} {V : Cell} (h : Cod cd n f V) : cd = 0 ∨ cd = 1 := h.imp (fun q => q.1) fun q => q.1
theorem Cod.len {cd : Int32} {n : Nat} {f : Nat → Int32} {V : Cell} (h : Cod cd n f V) (hs : V.slots.size < 2 ^ 31) : Int32.ofNat V.slots.size >>> (cd &&& 31) = Int32.ofNat n := by
  rcases h with ⟨rfl, h, -⟩ | ⟨rfl, h, -⟩
  · rw [shr0, h]
  · rw [h, shr1 (by omega)]
/-- **x is a String of the n chars f 0 .. f (n - 1)**, Latin-1 or UTF-16; its array at t has the cell V -/
def Txt (x t : Addr) (V : Cell) (cd : Int32) (n : Nat) (f : Nat → Int32) (U : State) : Prop := Exact "java/lang/String" x U ∧ Has x "java/lang/String" "value" "[B" (.ref t) U ∧ Has x "java/lang/String" "coder" "B" (.int cd) U ∧ XT.Arr .byte t V U ∧ Cod cd n f V ∧ ∀ j, j < n → ¬ f j < 0 ∧ ¬ 65535 < f j
theorem Txt.mv {x t : Addr} {V : Cell} {cd : Int32} {n : Nat} {f : Nat → Int32} {U U' : State} (h : Txt x t V cd n f U) (hal : U.vm.Alike U'.vm) (hh : U'.heap = U.heap) : Txt x t V cd n f U' := ⟨h.1.mv hal hh, h.2.1.mv hal hh, h.2.2.1.mv hal hh, h.2.2.2.1.mv hal hh, h.2.2.2.2⟩
namespace Cdr
def yN : MethodName := ⟨"java/lang/String", "coder", "()B"⟩
abbrev yB : ByteArray := jdk_42_method_152_code
theorem d0 : decode yB 0 = .ok (.getstatic 38, 3) := by decide +kernel
theorem d3 : decode yB 3 = .ok (.ifCond (.eq) 10, 3) := by decide +kernel
theorem d6 : decode yB 6 = .ok (.aload_n 0, 1) := by decide +kernel
theorem d7 : decode yB 7 = .ok (.getfield 15, 3) := by decide +kernel
theorem d10 : decode yB 10 = .ok (.goto 4, 3) := by decide +kernel
theorem d14 : decode yB 14 = .ok (.ireturn, 1) := by decide +kernel
def site : List Cond := [.fieldLink "java/lang/String" 38 "java/lang/String" "COMPACT_STRINGS" "Z", .fieldLink "java/lang/String" 15 "java/lang/String" "coder" "B"]
def tab : Cond := tabOf yN yB 1 (some .byte) site
def P (x : Addr) (cd z : Int32) (args : Array Value) (s : State) : Prop := args = #[.ref x] ∧ Has x "java/lang/String" "coder" "B" (.int cd) s ∧ (cd = 0 ∨ cd = 1) ∧ StaticIs s "java/lang/String" "COMPACT_STRINGS" "Z" (.int z) ∧ ¬ z = 0
def E (cd : Int32) (r : Option Value) (s u : State) : Prop := XT.PureE (some (.int cd)) r s u
theorem law (l : Launch) (x : Addr) (cd z : Int32) : Law l yN 1 0 0 0 yB 1 (some .byte) site (P x cd z) (E cd) [] 0 0 := by
  refine Law.of_walk (plainFor_of_name (by decide +kernel)) (by decide +kernel) (by decide +kernel) (by decide) (fun _ _ h => by rw [h.1]; rfl) (fun _ U U' hal hh h => ⟨h.1, h.2.1.mv hal hh, h.2.2.1, h.2.2.2.1.there hal hh, h.2.2.2.2⟩) (fun r U U' V V' h1 hal h2 h => XT.PureE.mv r U U' V V' h1 hal h2 h) ?_
  intro p e s m args below meth c s₁ X0 hexec hbytes hml hret hlk hnm hown hh0 W hP
  obtain ⟨rfl, hx, hc, s1, hz⟩ := hP
  have c1 : Steps p.tables e below (s₁.setTop (entryFrame m #[.ref x] 1)) (s₁.setTop (mkF m 0 #[.val (.ref x)] [])) := entry rfl
  obtain ⟨T2, X2, q2, st2⟩ := X0.sget hexec hown (wk W (.fieldLink "java/lang/String" 38 "java/lang/String" "COMPACT_STRINGS" "Z")) s1 (fun _ _ h => by rw [hh0]; exact h) (g := (mkF m 0 #[.val (.ref x)] [])) rfl (hb hbytes d0)
  have hh2 := q2.trans hh0
  have c3 : Steps p.tables e below (s₁.setTop (entryFrame m #[.ref x] 1)) (T2.setTop (mkF m 7 #[.val (.ref x)] [.ref x])) := (c1.trans (st2 _ (Steps.refl _))).trans (by
    refine XS.ifNo X2.here hexec rfl (hb hbytes d3) rfl (i0_eq_f hz) ?_
    refine XS.aloadN X2.here hexec rfl (hb hbytes d6) rfl rfl ?_
    exact Steps.refl _)
  obtain ⟨T4, X4, q4, st4⟩ := X2.hget hexec hown (wk W (.fieldLink "java/lang/String" 15 "java/lang/String" "coder" "B")) (hx.mv X2.warmed.alike hh2) (g := (mkF m 7 #[.val (.ref x)] [.ref x])) rfl (rest := []) rfl (hb hbytes d7)
  have c5 : Steps p.tables e below (s₁.setTop (entryFrame m #[.ref x] 1)) (T4.setTop (mkF m 14 #[.val (.ref x)] [.int cd])) := (c3.trans (st4 _ (Steps.refl _))).trans (by
    refine XS.goto X4.here hexec rfl (pc0 := 10) rfl (hb hbytes d10) (by decide) rfl ?_
    exact Steps.refl _)
  exact ⟨T4, some (.int cd), _, _, _, X4, rfl, rfl, rfl, (fun h => by cases h), ⟨rfl, q4.trans hh2⟩, fun fs hl => c5.trans (X4.ireturnOut hexec hret (by rcases hc with rfl | rfl <;> rfl) (Or.inr (Or.inr (Or.inl rfl))) (hb hbytes d14) hl)⟩
end Cdr
namespace Len
def yN : MethodName := ⟨"java/lang/String", "length", "()I"⟩
abbrev yB : ByteArray := jdk_42_method_54_code
theorem d0 : decode yB 0 = .ok (.aload_n 0, 1) := by decide +kernel
theorem d1 : decode yB 1 = .ok (.getfield 9, 3) := by decide +kernel
theorem d4 : decode yB 4 = .ok (.arraylength, 1) := by decide +kernel
theorem d5 : decode yB 5 = .ok (.aload_n 0, 1) := by decide +kernel
theorem d6 : decode yB 6 = .ok (.invokevirtual 335, 3) := by decide +kernel
theorem d9 : decode yB 9 = .ok (.ishr, 1) := by decide +kernel
theorem d10 : decode yB 10 = .ok (.ireturn, 1) := by decide +kernel
def site : List Cond := [.fieldLink "java/lang/String" 9 "java/lang/String" "value" "[B", Cdr.tab] ++ virtW "java/lang/String" 335 "java/lang/String" Cdr.yN Cdr.yN
def tab : Cond := tabOf yN yB 1 (some .int) site
def P (x t : Addr) (V : Cell) (cd : Int32) (n : Nat) (f : Nat → Int32) (z : Int32) (args : Array Value) (s : State) : Prop := args = #[.ref x] ∧ Txt x t V cd n f s ∧ StaticIs s "java/lang/String" "COMPACT_STRINGS" "Z" (.int z) ∧ ¬ z = 0
def E (n : Nat) (r : Option Value) (s u : State) : Prop := XT.PureE (some (.int (Int32.ofNat n))) r s u
/-- length() of a String of n chars, in either coding -/
theorem law (l : Launch) (x t : Addr) (V : Cell) (cd : Int32) (n : Nat) (f : Nat → Int32) (z : Int32) : Law l yN 1 0 1 13 yB 1 (some .int) site (P x t V cd n f z) (E n) [] 0 0 := by
  refine Law.of_walk (plainFor_of_name (by decide +kernel)) (by decide +kernel) (by decide +kernel) (by decide) (fun _ _ h => by rw [h.1]; rfl) (fun _ U U' hal hh h => ⟨h.1, h.2.1.mv hal hh, h.2.2.1.there hal hh, h.2.2.2⟩) (fun r U U' V V' h1 hal h2 h => XT.PureE.mv r U U' V V' h1 hal h2 h) ?_
  intro p e s m args below meth c s₁ X0 hexec hbytes hml hret hlk hnm hown hh0 W hP
  obtain ⟨rfl, hx, s1, hz⟩ := hP
  have v31 := hx.2.2.2.1.2.2.2
  have c1 : Steps p.tables e below (s₁.setTop (entryFrame m #[.ref x] 1)) (s₁.setTop (mkF m 1 #[.val (.ref x)] [.ref x])) := Steps.trans (entry rfl) (by
    show Steps p.tables e below (s₁.setTop (mkF m 0 #[.val (.ref x)] [])) _
    refine XS.aloadN X0.here hexec rfl (hb hbytes d0) rfl rfl ?_
    exact Steps.refl _)
  obtain ⟨T2, X2, q2, st2⟩ := X0.hget hexec hown (wk W (.fieldLink "java/lang/String" 9 "java/lang/String" "value" "[B")) (hx.mv X0.warmed.alike hh0).2.1 (g := (mkF m 1 #[.val (.ref x)] [.ref x])) rfl (rest := []) rfl (hb hbytes d1)
  have hh2 := q2.trans hh0
  have hx2 := hx.mv X2.warmed.alike hh2
  have c3 : Steps p.tables e below (s₁.setTop (entryFrame m #[.ref x] 1)) (T2.setTop (mkF m 6 #[.val (.ref x)] [.ref x, .int (Int32.ofNat V.slots.size)])) := (c1.trans (st2 _ (Steps.refl _))).trans (by
    refine X2.alen hexec hx2.2.2.2.1 rfl rfl (hb hbytes d4) ?_
    refine XS.aloadN X2.here hexec rfl (hb hbytes d5) rfl rfl ?_
    exact Steps.refl _)
  obtain ⟨v4, T4, X4, E4, g4⟩ := X2.callV hexec (Cdr.law l x cd z) hown (wks W (virtW "java/lang/String" 335 "java/lang/String" Cdr.yN Cdr.yN)) rfl (by decide) (wk W Cdr.tab) (W := 1) (Nat.le_of_ble_eq_true rfl) (Nat.le_of_ble_eq_true rfl) (Nat.le_refl _) (Nat.le_refl _) (hx2.1.fc X2.warmed.alike) hx2.1.is (g := (mkF m 6 #[.val (.ref x)] [.ref x, .int (Int32.ofNat V.slots.size)])) rfl (by rw [hml]; rfl) c3 (argsL := []) (rest := [.int (Int32.ofNat V.slots.size)]) rfl rfl (by show 2 * 0 + (1 + 0) ≤ _; decide) (hb hbytes d6) (⟨rfl, hx2.2.2.1, hx.2.2.2.2.1.cd, s1.there X2.warmed.alike hh2, hz⟩)
  obtain ⟨rfl, q4⟩ := E4
  have c5 : Steps p.tables e below (s₁.setTop (entryFrame m #[.ref x] 1)) (T4.setTop (mkF m 10 #[.val (.ref x)] [.int (Int32.ofNat V.slots.size >>> (cd &&& 31))])) := Steps.trans g4 (by
    refine ishr X4.here hexec rfl (hb hbytes d9) rfl ?_
    exact Steps.refl _)
  rw [hx.2.2.2.2.1.len v31] at c5
  exact ⟨T4, some (.int (Int32.ofNat n)), _, _, _, X4, rfl, rfl, rfl, (fun h => by cases h), ⟨rfl, q4.trans hh2⟩, fun fs hl => c5.trans (X4.ireturnOut hexec hret rfl (Or.inl rfl) (hb hbytes d10) hl)⟩
theorem pays {l : Launch} {R : Room} {p : Program} {e : Env} {below : List Frame} {s : State} {sargs : Array Value} {len W : Nat} (x t : Addr) (V : Cell) (cd : Int32) (n : Nat) (f : Nat → Int32) (z : Int32) (htab : tab.before sargs s = true) (hfr : 2 ≤ R.frames) (hlo : W + 25 ≤ R.locals) :
    Back l R p e below s sargs yN len W (fun A₁ a₁ => A₁.cells + 0 ≤ R.cells ∧ A₁.slots + 0 ≤ R.slots ∧ P x t V cd n f z a₁ A₁.U) (fun A₁ _ v₁ B₁ => E n v₁ A₁.U B₁.U ∧ B₁.locs = A₁.locs ++ [] ∧ B₁.cells = A₁.cells + 0 ∧ B₁.slots = A₁.slots + 0) :=
  (law l x t V cd n f z).pays htab hfr (by omega)
end Len
end StrChars
namespace StrChars.Road
open Jvm Sem ClassFile Op Lib Jvm.Stand Jvm.Free Jvm.Free.XT
open Jvm.Lib.Cold (StaticIs)
theorem consq {a : Array Value} {s : State} {c : Jvm.Cond} {L : List Jvm.Cond} (h0 : c.before a s = true) (h : ∀ w ∈ L, w.before a s = true) : ∀ w ∈ c :: L, w.before a s = true := fun w hw => (List.mem_cons.mp hw).elim (fun e => e ▸ h0) (h w)
/-- the words of String.length(), either coding -/
abbrev wordsLen : List Jvm.Cond := [.code Len.yN Len.yB 1 (some .int), .initialized ST, .fieldLink ST 9 ST "value" "[B", .fieldLink ST 38 ST "COMPACT_STRINGS" "Z", .fieldLink ST 15 ST "coder" "B", .code Cdr.yN Cdr.yB 1 (some .byte), .methodLink ST 335 Cdr.yN, .declares Cdr.yN, .selects ST Cdr.yN Cdr.yN, .instanceMethod Cdr.yN]
theorem tabLen_of {a : Array Value} {s : State} (h : ∀ w ∈ wordsLen, w.before a s = true) : Len.tab.before a s = true := by
  have hc : Cdr.tab.before a s = true := unparts (wk h (.code Cdr.yN Cdr.yB 1 (some .byte))) (wks h (.initialized Cdr.yN.cls :: Cdr.site))
  have q := consq hc h
  exact unparts (wk q (.code Len.yN Len.yB 1 (some .int))) (wks q (.initialized Len.yN.cls :: Len.site))
theorem movedLen {Z s : State} {a0 args : Array Value} (hZ : Z.Warmed39 s.vm) (hw : ∀ d ∈ wordsLen, d.before a0 Z = true) : ∀ d ∈ wordsLen, d.before args s = true := fun d hd => by
  have q := hw d hd
  have t : ∀ d ∈ wordsLen, d = .arrayClass .byte ∨ (d.onTables && d.keepsFace) = true := by decide +kernel
  rcases t d hd with rfl | t
  · exact RoadKit.mvA hZ q
  · exact RoadKit.mv hZ q t
/-- the bytes of the chars cs, low before high -/
def wideBytes : List Int32 → List Value
  | [] => []
  | c :: cs => .int (lo8 c) :: .int (hi8 c) :: wideBytes cs
theorem wide_lo (d : Value) : ∀ (cs : List Int32) (j : Nat), j < cs.length → (wideBytes cs).getD (2 * j) d = .int (lo8 (cs.getD j 0))
  | [], j, h => absurd h (Nat.not_lt_zero j)
  | c :: cs, 0, _ => rfl
  | c :: cs, j + 1, h => by
    have q := wide_lo d cs j (by simpa using h)
    rw [show 2 * (j + 1) = 2 * j + 1 + 1 from by omega]
    simpa [wideBytes] using q
theorem wide_hi (d : Value) : ∀ (cs : List Int32) (j : Nat), j < cs.length → (wideBytes cs).getD (2 * j + 1) d = .int (hi8 (cs.getD j 0))
  | [], j, h => absurd h (Nat.not_lt_zero j)
  | c :: cs, 0, _ => rfl
  | c :: cs, j + 1, h => by
    have q := wide_hi d cs j (by simpa using h)
    rw [show 2 * (j + 1) + 1 = 2 * j + 1 + 1 + 1 from by omega]
    simpa [wideBytes] using q
theorem low_at (d : Value) (cs : List Int32) (j : Nat) (h : j < cs.length) : (cs.map fun c => Value.int (lo8 c)).getD j d = .int (lo8 (cs.getD j 0)) := by
  simp [List.getD_eq_getElem?_getD, h]
/-- an array of N2 bytes vs codes the chars cs by the coder cd -/
def CodA (cs : List Int32) (cd N2 : Int32) (vs : List Value) : Prop := (cd = 0 ∧ N2 = Int32.ofNat cs.length ∧ vs = (cs.map fun c => Value.int (lo8 c)) ∧ ∀ c ∈ cs, ¬ 255 < c) ∨ (cd = 1 ∧ N2 = Int32.ofNat (2 * cs.length) ∧ vs = wideBytes cs ∧ ∃ c ∈ cs, 255 < c)
theorem CodA.cod {cs : List Int32} {cd N2 : Int32} {vs : List Value} {V : Cell} (h : CodA cs cd N2 vs) (hn : 2 * cs.length < 2 ^ 31) (hs : V.slots.size = N2.toNatClampNeg) (hv : RoadKit.Has V vs (.int 0)) : Cod cd cs.length (fun j => cs.getD j 0) V := by
  rcases h with ⟨rfl, rfl, rfl, h⟩ | ⟨rfl, rfl, rfl, c, hc, hw⟩
  · rw [n32 (by omega)] at hs
    exact Or.inl ⟨rfl, hs, fun j hj => ⟨by rw [hv j (by omega), low_at _ _ _ hj], by
      have e : cs.getD j 0 = cs[j] := by simp [List.getD_eq_getElem?_getD, hj]
      show ¬ 255 < cs.getD j 0
      rw [e]; exact h _ (List.getElem_mem _)⟩⟩
  · rw [n32 (by omega)] at hs
    obtain ⟨j, hj, rfl⟩ := List.getElem_of_mem hc
    exact Or.inr ⟨rfl, hs, fun j hj => ⟨by rw [hv _ (by omega), wide_lo _ _ _ hj], by rw [hv _ (by omega), wide_hi _ _ _ hj]⟩, j, hj, by
      have e : cs.getD j 0 = cs[j] := by simp [List.getD_eq_getElem?_getD, hj]
      show 255 < cs.getD j 0
      rw [e]; exact hw⟩
/-- an object of exactly java/lang/String, its two fields found: as the laws ask it -/
theorem strObj {Z U : State} {a0 : Array Value} {kI : Nat} (wi : (Jvm.Cond.instantiable ST kI).before a0 Z = true) (al : Z.vm.Alike U.vm) {x : Addr} {v0 c0 : Value} (E : RoadKit.Exa Z U.heap x ST) (V : RoadKit.Fld Z U.heap x ST "value" "[B" v0) (C : RoadKit.Fld Z U.heap x ST "coder" "B" c0) :
    ∃ (D : Cell) (fV fC : Field), Blank ST x D U ∧ Found ST "value" "[B" fV U ∧ Found ST "coder" "B" fC U ∧ D.slots[fV.slot]? = some v0 ∧ D.slots[fC.slot]? = some c0 ∧ RoadKit.slotOf Z ST "value" "[B" = fV.slot ∧ RoadKit.slotOf Z ST "coder" "B" = fC.slot := by
  obtain ⟨D, cfV, kV, iV, fV, hD, gV, stV, knV, obV, asV, slV⟩ := V
  obtain ⟨D', cfC, kC, iC, fC, hD', gC, stC, -, -, asC, slC⟩ := C
  cases hD.symm.trans hD'
  obtain ⟨D2, kD, e1, e2, e3, e4, e5⟩ := E
  cases hD.symm.trans e1
  obtain ⟨c2, k2, i1, i2, i3, -⟩ := Cond.instantiable_spec wi
  cases e2.symm.trans i1
  cases e3.symm.trans i2
  obtain ⟨kU, u1, u2⟩ := al.2.2 _ _ e3
  exact ⟨D, fV, fC, ⟨hD, ⟨knV, fun q hq => by rw [hq] at obV; cases obV⟩, by rw [al.findClass]; exact e2, kU, u1, by rw [u2]; exact i3, by rw [u2]; exact e5 i3⟩, ⟨SBG.found_only al ⟨cfV, kV, iV, gV⟩, stV⟩, ⟨SBG.found_only al ⟨cfC, kC, iC, gC⟩, stC⟩, slV, slC, by simp [RoadKit.slotOf, gV], by simp [RoadKit.slotOf, gC]⟩
theorem sta_is {Z U : State} (al : Z.vm.Alike U.vm) {C n d : String} {v : Value} (S : RoadKit.Sta Z U.heap C n d v) : StaticIs U C n d v := by
  obtain ⟨cfS, iS, kS, fS, st, cS, t1, t2, t3, t4, t5, t6, t7⟩ := S
  exact StaticIs.there (s := { Z with heap := U.heap }) ⟨cfS, iS, kS, fS, st, cS, t1, t2, t3, t4, t5, (fun q => by rw [q] at t6; cases t6), t7⟩ al rfl
/-- **length() OF SUCH A STRING** -/
theorem lenW {p : Program} {l : Launch} {e : Env} {R : Room} {s : State} {args : Array Value} {below : List Frame} {len W : Nat} {Z : State} {a0 : Array Value} {h : Heap} (hZ : Z.Warmed39 s.vm) (hw : ∀ d ∈ wordsLen, d.before a0 Z = true) {kI : Nat} (wi : (Jvm.Cond.instantiable ST kI).before a0 Z = true)
    {x t : Addr} {kb : ClassId} {cs : List Int32} {cd N2 z : Int32} {vs : List Value} (E : RoadKit.Exa Z h x ST) (V : RoadKit.Fld Z h x ST "value" "[B" (.ref t)) (C : RoadKit.Fld Z h x ST "coder" "B" (.int cd)) (K : RoadKit.Arv Z h t kb .byte N2 vs (.int 0)) (hc : CodA cs cd N2 vs) (hb : ∀ c ∈ cs, ¬ c < 0 ∧ ¬ (65535 : Int32) < c)
    (S : RoadKit.Sta Z h ST "COMPACT_STRINGS" "Z" (.int z)) (hz : ¬ z = 0) (l2 : cs.length ≤ 4000) (hfr : 2 ≤ R.frames) (hlo : W + 25 ≤ R.locals) :
    Back l R p e below s args (⟨"java/lang/String", "length", "()I"⟩ : MethodName) len W (fun P a => a = #[.ref x] ∧ P.U.heap = h ∧ P.cells + 0 ≤ R.cells ∧ P.slots + 0 ≤ R.slots)
      (fun P _ v B => ∃ L, (v = some (.int (Int32.ofNat cs.length)) ∧ L = [] ∧ B.U.heap = h) ∧ B.locs = P.locs ++ L ∧ B.cells = P.cells + 0 ∧ B.slots = P.slots + 0) := by
  obtain ⟨A, K1, K2, K3, K4, K5, K6⟩ := K
  have hcod := hc.cod (by omega) K3 K5
  intro m meth c P g ig mk a X hg hsize hdg hW hn hp'
  obtain ⟨rfl, rfl, r1, r2⟩ := hp'
  have al : Z.vm.Alike P.U.vm := hZ.alike.trans X.warmed.alike
  obtain ⟨D, fV, fC, hB, F1, F2, g1, g2, -, -⟩ := strObj wi al E V C
  have hx : Txt x t A cd cs.length (fun j => cs.getD j 0) P.U := ⟨⟨_, hB.2.2.1, D, hB.1, rfl, by cases q : D.vm <;> first | rfl | exact absurd q (hB.2.1.2 _)⟩, Has.of hB F1 g1, Has.of hB F2 g2, ⟨K1.1, State.isArrayOf_alike al K1.2.1, K1.2.2, by rcases hcod with ⟨-, q, -⟩ | ⟨-, q, -⟩ <;> omega⟩, hcod, fun j hj => by
    have e : cs.getD j 0 = cs[j] := by simp [List.getD_eq_getElem?_getD, hj]
    show ¬ cs.getD j 0 < 0 ∧ ¬ 65535 < cs.getD j 0
    rw [e]; exact hb _ (List.getElem_mem _)⟩
  obtain ⟨v, B, X', ⟨⟨hv, hh⟩, hl, hk, hs⟩, st⟩ := Len.pays x t A cd cs.length (fun j => cs.getD j 0) z (tabLen_of (movedLen hZ hw)) hfr hlo m meth c P g ig mk _ X hg hsize hdg hW hn ⟨r1, r2, rfl, hx, sta_is al S, hz⟩
  exact ⟨v, B, X', ⟨[], ⟨hv, rfl, hh⟩, hl, hk, hs⟩, st⟩
end StrChars.Road
namespace StrChars
open Jvm Sem ClassFile Op Lib Jvm.Stand Jvm.Free.XT Jvm.Free.ALB Jvm.Free.JM Jvm.Free
open Jvm.Lib.Cold (StaticIs)
/-- what place i of a byte[]'s cell holds -/
def yv (A : Cell) (i : Nat) : Int32 := match A.slots[i]? with | some (.int x) => x | _ => 0
theorem yv_get {a : Addr} {A : Cell} {U : State} (h : XT.Arr .byte a A U) (ht : Typed .byte A) {i : Nat} (hi : i < A.slots.size) : A.slots[i]? = some (.int (yv A i)) := by
  have e := Array.getElem?_eq_getElem hi
  have f := ht i _ e
  unfold yv; rw [e]
  generalize A.slots[i] = v at f
  cases v <;> simp [fits] at f ⊢
/-- the two arrays are equal, place for place -/
def EqC (A B : Cell) : Prop := A.slots.size = B.slots.size ∧ ∀ i, i < A.slots.size → yv A i = yv B i
/-- a boolean that says whether p -/
def Says01 (q : Prop) (r : Option Value) (s u : State) : Prop := ∃ v : Int32, r = some (.int v) ∧ u.heap = s.heap ∧ ((v = 1 ∧ q) ∨ (v = 0 ∧ ¬ q))
theorem Says01.mv {q : Prop} : ∀ r (U U' V V' : State), U'.heap = U.heap → V.vm.Alike V'.vm → V'.heap = V.heap → Says01 q r U V → Says01 q r U' V' :=
  fun r U U' V V' h1 _ h2 ⟨v, a, b, c⟩ => ⟨v, a, by rw [h1, h2]; exact b, c⟩
namespace LEq
def yN : MethodName := ⟨"java/lang/StringLatin1", "equals", "([B[B)Z"⟩
abbrev yB : ByteArray := jdk_43_method_13_code
theorem d0 : decode yB 0 = .ok (.aload_n 0, 1) := by decide +kernel
theorem d1 : decode yB 1 = .ok (.arraylength, 1) := by decide +kernel
theorem d2 : decode yB 2 = .ok (.aload_n 1, 1) := by decide +kernel
theorem d3 : decode yB 3 = .ok (.arraylength, 1) := by decide +kernel
theorem d4 : decode yB 4 = .ok (.if_icmp (.ne) 30, 3) := by decide +kernel
theorem d7 : decode yB 7 = .ok (.iconst 0, 1) := by decide +kernel
theorem d8 : decode yB 8 = .ok (.istore_n 2, 1) := by decide +kernel
theorem d9 : decode yB 9 = .ok (.iload_n 2, 1) := by decide +kernel
theorem d10 : decode yB 10 = .ok (.aload_n 0, 1) := by decide +kernel
theorem d11 : decode yB 11 = .ok (.arraylength, 1) := by decide +kernel
theorem d12 : decode yB 12 = .ok (.if_icmp (.ge) 20, 3) := by decide +kernel
theorem d15 : decode yB 15 = .ok (.aload_n 0, 1) := by decide +kernel
theorem d16 : decode yB 16 = .ok (.iload_n 2, 1) := by decide +kernel
theorem d17 : decode yB 17 = .ok (.baload, 1) := by decide +kernel
theorem d18 : decode yB 18 = .ok (.aload_n 1, 1) := by decide +kernel
theorem d19 : decode yB 19 = .ok (.iload_n 2, 1) := by decide +kernel
theorem d20 : decode yB 20 = .ok (.baload, 1) := by decide +kernel
theorem d21 : decode yB 21 = .ok (.if_icmp (.eq) 5, 3) := by decide +kernel
theorem d24 : decode yB 24 = .ok (.iconst 0, 1) := by decide +kernel
theorem d25 : decode yB 25 = .ok (.ireturn, 1) := by decide +kernel
theorem d26 : decode yB 26 = .ok (.iinc 2 1, 3) := by decide +kernel
theorem d29 : decode yB 29 = .ok (.goto (-20), 3) := by decide +kernel
theorem d32 : decode yB 32 = .ok (.iconst 1, 1) := by decide +kernel
theorem d33 : decode yB 33 = .ok (.ireturn, 1) := by decide +kernel
theorem d34 : decode yB 34 = .ok (.iconst 0, 1) := by decide +kernel
theorem d35 : decode yB 35 = .ok (.ireturn, 1) := by decide +kernel
def site : List Cond := []
def tab : Cond := tabOf yN yB 3 (some .boolean) site
def P (a : Addr) (A : Cell) (b : Addr) (B : Cell) (args : Array Value) (s : State) : Prop := args = #[.ref a, .ref b] ∧ XT.Arr .byte a A s ∧ Typed .byte A ∧ XT.Arr .byte b B s ∧ Typed .byte B
/-- whether two byte[] are equal, place for place -/
theorem law (l : Launch) (a : Addr) (A : Cell) (b : Addr) (B : Cell) : Law l yN 2 2 0 0 yB 3 (some .boolean) site (P a A b B) (Says01 (EqC A B)) [] 0 0 := by
  refine Law.of_walk (plainFor_of_name (by decide +kernel)) (by decide +kernel) (by decide +kernel) (by decide) (fun _ _ h => by rw [h.1]; rfl) (fun _ U U' hal hh h => ⟨h.1, h.2.1.mv hal hh, h.2.2.1, h.2.2.2.1.mv hal hh, h.2.2.2.2⟩) (fun r U U' V V' h1 hal h2 h => Says01.mv r U U' V V' h1 hal h2 h) ?_
  intro p e s m args below meth c s₁ X0 hexec hbytes hml hret hlk hnm hown hh0 W hP
  obtain ⟨rfl, hA, tA, hB, tB⟩ := hP
  have a31 := hA.2.2.2
  have b31 := hB.2.2.2
  have hA0 := hA.mv X0.warmed.alike hh0
  have hB0 := hB.mv X0.warmed.alike hh0
  have c1 : Steps p.tables e below (s₁.setTop (entryFrame m #[.ref a, .ref b] 3)) (s₁.setTop (mkF m 0 #[.val (.ref a), .val (.ref b), .unset] [])) := entry rfl
  have c2 : Steps p.tables e below (s₁.setTop (entryFrame m #[.ref a, .ref b] 3)) (s₁.setTop (mkF m 4 #[.val (.ref a), .val (.ref b), .unset] [.int (Int32.ofNat B.slots.size), .int (Int32.ofNat A.slots.size)])) := c1.trans (by
    refine XS.aloadN X0.here hexec rfl (hb hbytes d0) rfl rfl ?_
    refine X0.alen hexec hA0 rfl rfl (hb hbytes d1) ?_
    refine XS.aloadN X0.here hexec rfl (hb hbytes d2) rfl rfl ?_
    refine X0.alen hexec hB0 rfl rfl (hb hbytes d3) ?_
    exact Steps.refl _)
  by_cases hs : A.slots.size = B.slots.size
  · have c3 : Steps p.tables e below (s₁.setTop (entryFrame m #[.ref a, .ref b] 3)) (s₁.setTop (mkF m 9 #[.val (.ref a), .val (.ref b), .val (.int 0)] [])) := c2.trans (by
      refine XS.icmpNo X0.here hexec rfl (hb hbytes d4) rfl (ii_ne_f (by rw [hs])) ?_
      refine iconstV X0.here hexec rfl 0 (hb hbytes d7) (by decide) ?_
      refine XS.istoreN X0.here hexec rfl (hb hbytes d8) rfl rfl ?_
      exact Steps.refl _)
    have loop : ∀ (r i : Nat), i + r = A.slots.size → (∀ j, j < i → yv A j = yv B j) → Steps p.tables e below (s₁.setTop (entryFrame m #[.ref a, .ref b] 3)) (s₁.setTop (mkF m 9 #[.val (.ref a), .val (.ref b), .val (.int (Int32.ofNat i))] [])) → ∃ (pc : Nat) (Ls : Array Slot) (v : Int32), (pc = 25 ∨ pc = 33) ∧ ((v = 1 ∧ EqC A B) ∨ (v = 0 ∧ ¬ EqC A B)) ∧ Steps p.tables e below (s₁.setTop (entryFrame m #[.ref a, .ref b] 3)) (s₁.setTop (mkF m pc Ls [.int v])) := by
      intro r
      induction r with
      | zero =>
        intro i hi he cl
        exact ⟨33, _, 1, Or.inr rfl, Or.inl ⟨rfl, hs, fun j hj => he j (by omega)⟩, cl.trans (by
          refine XS.iloadN X0.here hexec rfl (hb hbytes d9) rfl ?_
          refine XS.aloadN X0.here hexec rfl (hb hbytes d10) rfl rfl ?_
          refine X0.alen hexec hA0 rfl rfl (hb hbytes d11) ?_
          refine XS.icmpYes X0.here hexec rfl (pc0 := 12) rfl (hb hbytes d12) rfl (ii_ge_t (nlt32 (by omega) (by omega))) (by decide) rfl ?_
          refine iconstV X0.here hexec rfl 1 (hb hbytes d32) (by decide) ?_
          exact Steps.refl _)⟩
      | succ r ih =>
        intro i hi he cl
        have c4 : Steps p.tables e below (s₁.setTop (entryFrame m #[.ref a, .ref b] 3)) (s₁.setTop (mkF m 21 #[.val (.ref a), .val (.ref b), .val (.int (Int32.ofNat i))] [.int (yv B i), .int (yv A i)])) := cl.trans (by
          refine XS.iloadN X0.here hexec rfl (hb hbytes d9) rfl ?_
          refine XS.aloadN X0.here hexec rfl (hb hbytes d10) rfl rfl ?_
          refine X0.alen hexec hA0 rfl rfl (hb hbytes d11) ?_
          refine XS.icmpNo X0.here hexec rfl (hb hbytes d12) rfl (ii_ge_f (lt32 (by omega) (by omega))) ?_
          refine XS.aloadN X0.here hexec rfl (hb hbytes d15) rfl rfl ?_
          refine XS.iloadN X0.here hexec rfl (hb hbytes d16) rfl ?_
          refine X0.aget hexec hA0 rfl (yv_get hA tA (i := i) (by omega)) rfl rfl (hb hbytes d17) ?_
          refine XS.aloadN X0.here hexec rfl (hb hbytes d18) rfl rfl ?_
          refine XS.iloadN X0.here hexec rfl (hb hbytes d19) rfl ?_
          refine X0.aget hexec hB0 rfl (yv_get hB tB (i := i) (by omega)) rfl rfl (hb hbytes d20) ?_
          exact Steps.refl _)
        by_cases hv : yv A i = yv B i
        · have c5 : Steps p.tables e below (s₁.setTop (entryFrame m #[.ref a, .ref b] 3)) (s₁.setTop (mkF m 9 #[.val (.ref a), .val (.ref b), .val (.int (Int32.ofNat i + 1))] [])) := c4.trans (by
            refine XS.icmpYes X0.here hexec rfl (pc0 := 21) rfl (hb hbytes d21) rfl (ii_eq_t hv) (by decide) rfl ?_
            refine iincV X0.here hexec rfl 1 (hb hbytes d26) (by decide) rfl rfl ?_
            refine XS.goto X0.here hexec rfl (pc0 := 29) rfl (hb hbytes d29) (by decide) rfl ?_
            exact Steps.refl _)
          rw [succ32] at c5
          exact ih (i + 1) (by omega) (fun j hj => by
            by_cases e : j = i
            · rw [e]; exact hv
            · exact he j (by omega)) c5
        · exact ⟨25, _, 0, Or.inl rfl, Or.inr ⟨rfl, fun q => hv (q.2 i (by omega))⟩, c4.trans (by
            refine XS.icmpNo X0.here hexec rfl (hb hbytes d21) rfl (ii_eq_f hv) ?_
            refine iconstV X0.here hexec rfl 0 (hb hbytes d24) (by decide) ?_
            exact Steps.refl _)⟩
    obtain ⟨pc, Ls, v, hpc, hv, cz⟩ := loop A.slots.size 0 (by omega) (fun j hj => absurd hj (Nat.not_lt_zero j)) c3
    have nv : narrow .boolean (.int v) = .int v := by rcases hv with ⟨rfl, -⟩ | ⟨rfl, -⟩ <;> rfl
    rcases hpc with rfl | rfl
    · exact ⟨s₁, some (.int v), _, _, _, X0, rfl, rfl, rfl, (fun h => by cases h), ⟨v, rfl, hh0, hv⟩, fun fs hl => cz.trans (X0.ireturnOut hexec hret nv (Or.inr (Or.inl rfl)) (hb hbytes d25) hl)⟩
    · exact ⟨s₁, some (.int v), _, _, _, X0, rfl, rfl, rfl, (fun h => by cases h), ⟨v, rfl, hh0, hv⟩, fun fs hl => cz.trans (X0.ireturnOut hexec hret nv (Or.inr (Or.inl rfl)) (hb hbytes d33) hl)⟩
  · have c3 : Steps p.tables e below (s₁.setTop (entryFrame m #[.ref a, .ref b] 3)) (s₁.setTop (mkF m 35 #[.val (.ref a), .val (.ref b), .unset] [.int 0])) := c2.trans (by
      refine XS.icmpYes X0.here hexec rfl (pc0 := 4) rfl (hb hbytes d4) rfl (ii_ne_t (ne32 a31 b31 hs)) (by decide) rfl ?_
      refine iconstV X0.here hexec rfl 0 (hb hbytes d34) (by decide) ?_
      exact Steps.refl _)
    exact ⟨s₁, some (.int 0), _, _, _, X0, rfl, rfl, rfl, (fun h => by cases h), ⟨0, rfl, hh0, Or.inr ⟨rfl, fun q => hs q.1⟩⟩, fun fs hl => c3.trans (X0.ireturnOut hexec hret rfl (Or.inr (Or.inl rfl)) (hb hbytes d35) hl)⟩
end LEq
theorem Cod.ty {cd : Int32} {n : Nat} {f : Nat → Int32} {V : Cell} (h : Cod cd n f V) : Typed .byte V := fun i v hv => by
  have hi : i < V.slots.size := (Array.getElem?_eq_some_iff.mp hv).1
  rcases h with ⟨-, k1, k2⟩ | ⟨-, k1, k2, -⟩
  · rw [(k2 i (by omega)).1] at hv; cases hv; exact fits_lo8 _
  · rcases Nat.mod_two_eq_zero_or_one i with e | e
    · obtain ⟨j, rfl⟩ : ∃ j, i = 2 * j := ⟨i / 2, by omega⟩
      rw [(k2 j (by omega)).1] at hv; cases hv; exact fits_lo8 _
    · obtain ⟨j, rfl⟩ : ∃ j, i = 2 * j + 1 := ⟨i / 2, by omega⟩
      rw [(k2 j (by omega)).2] at hv; cases hv; exact fits_lo8 _
/-- the same text -/
def SameT (n : Nat) (f : Nat → Int32) (k : Nat) (g : Nat → Int32) : Prop := n = k ∧ ∀ j, j < n → f j = g j
theorem lo8_inj {x y : Int32} (h0 : ¬ x < 0) (h1 : ¬ 255 < x) (k0 : ¬ y < 0) (k1 : ¬ 255 < y) (h : lo8 x = lo8 y) : x = y := by
  rw [← lo8_mask h0 h1, ← lo8_mask k0 k1, h]
/-- arrays coded by one coder are equal just where the texts are -/
theorem Cod.eqv {cd : Int32} {n k : Nat} {f g : Nat → Int32} {V V' : Cell} (h : Cod cd n f V) (h' : Cod cd k g V') (hf : ∀ j, j < n → ¬ f j < 0 ∧ ¬ 65535 < f j) (hg : ∀ j, j < k → ¬ g j < 0 ∧ ¬ 65535 < g j) : EqC V V' ↔ SameT n f k g := by
  have yvv : ∀ {W : Cell} {i : Nat} {x : Int32}, W.slots[i]? = some (.int x) → yv W i = x := fun q => by unfold yv; rw [q]
  rcases h with ⟨rfl, k1, k2⟩ | ⟨rfl, k1, k2, -⟩
  · rcases h' with ⟨-, m1, m2⟩ | ⟨e, -⟩
    · constructor
      · rintro ⟨e1, e2⟩
        refine ⟨by omega, fun j hj => ?_⟩
        have q := e2 j (by omega)
        rw [yvv (k2 j hj).1, yvv (m2 j (by omega)).1] at q
        exact lo8_inj (hf j hj).1 (k2 j hj).2 (hg j (by omega)).1 (m2 j (by omega)).2 q
      · rintro ⟨rfl, e2⟩
        refine ⟨by omega, fun j hj => ?_⟩
        rw [yvv (k2 j (by omega)).1, yvv (m2 j (by omega)).1, e2 j (by omega)]
    · exact absurd e (by decide)
  · rcases h' with ⟨e, -⟩ | ⟨-, m1, m2, -⟩
    · exact absurd e (by decide)
    · constructor
      · rintro ⟨e1, e2⟩
        refine ⟨by omega, fun j hj => ?_⟩
        have q1 := e2 (2 * j) (by omega)
        have q2 := e2 (2 * j + 1) (by omega)
        rw [yvv (k2 j hj).1, yvv (m2 j (by omega)).1] at q1
        rw [yvv (k2 j hj).2, yvv (m2 j (by omega)).2] at q2
        rw [← pair_says (hf j hj).1 (hf j hj).2, ← pair_says (hg j (by omega)).1 (hg j (by omega)).2, q1, q2]
      · rintro ⟨rfl, e2⟩
        refine ⟨by omega, fun i hi => ?_⟩
        rcases Nat.mod_two_eq_zero_or_one i with e | e
        · obtain ⟨j, rfl⟩ : ∃ j, i = 2 * j := ⟨i / 2, by omega⟩
          rw [yvv (k2 j (by omega)).1, yvv (m2 j (by omega)).1, e2 j (by omega)]
        · obtain ⟨j, rfl⟩ : ∃ j, i = 2 * j + 1 := ⟨i / 2, by omega⟩
          rw [yvv (k2 j (by omega)).2, yvv (m2 j (by omega)).2, e2 j (by omega)]
/-- two codings differ: so do the texts -/
theorem Cod.dif {cd cd' : Int32} {n k : Nat} {f g : Nat → Int32} {V V' : Cell} (h : Cod cd n f V) (h' : Cod cd' k g V') (hne : ¬ cd = cd') : ¬ SameT n f k g := by
  rintro ⟨rfl, e⟩
  rcases h with ⟨rfl, -, k2⟩ | ⟨rfl, -, -, j, hj, hw⟩
  · rcases h' with ⟨rfl, -⟩ | ⟨-, -, -, j, hj, hw⟩
    · exact hne rfl
    · exact (k2 j hj).2 (by rw [e j hj]; exact hw)
  · rcases h' with ⟨-, -, m2⟩ | ⟨rfl, -⟩
    · exact (m2 j hj).2 (by rw [← e j hj]; exact hw)
    · exact hne rfl
/-- an object of exactly C is an instance of C -/
theorem cinst {p : Program} {l : Launch} {e : Env} {R : Room} {s : State} {m : MethodId} {args : Array Value} {below : List Frame} {meth : Method} {c : Code} {T : State} {locs : List Loc} {cells slots : Nat} (X : Stand p l e R s m args below meth c T locs cells slots) (hexec : p.tables.exec = Jvm.exec) {own C : String} {index : Nat} (hown : s.vm.findClass own = some m.cls) (hlink : (Cond.classLink own index C).before args s = true) {a : Addr} (hE : Exact C a T)
    {g : JFrame} (hg : g.method = m) {rest : List Value} (hstack : g.stack = .ref a :: rest) (hdg : decode c.code g.pc = .ok (.instanceof index, 3)) :
    ∃ T', Stand p l e R s m args below meth c T' locs cells slots ∧ T'.heap = T.heap ∧ ∀ target, Steps p.tables e below (T'.setTop { g with pc := g.pc + 3, stack := .int 1 :: rest }) target → Steps p.tables e below (T.setTop g) target := by
  obtain ⟨cB, h1, D, h2, h3, h4⟩ := hE
  have h1' : s.vm.findClass C = some cB := by rw [← X.warmed.alike.findClass]; exact h1
  obtain ⟨vm', X', st⟩ := X.instanceofYes hexec hown hlink h2 h4 h1' (by rw [h3]; exact Jvm.Free.SB.assignable_self _ _) hg hstack hdg
  exact ⟨_, X', rfl, st⟩
theorem cself {p : Program} {l : Launch} {e : Env} {R : Room} {s : State} {m : MethodId} {args : Array Value} {below : List Frame} {meth : Method} {c : Code} {T : State} {locs : List Loc} {cells slots : Nat} (X : Stand p l e R s m args below meth c T locs cells slots) (hexec : p.tables.exec = Jvm.exec) {own C : String} {index : Nat} (hown : s.vm.findClass own = some m.cls) (hlink : (Cond.classLink own index C).before args s = true) {a : Addr} (hE : Exact C a T)
    {g : JFrame} (hg : g.method = m) {rest : List Value} (hstack : g.stack = .ref a :: rest) (hdg : decode c.code g.pc = .ok (.checkcast index, 3)) :
    ∃ T', Stand p l e R s m args below meth c T' locs cells slots ∧ T'.heap = T.heap ∧ ∀ target, Steps p.tables e below (T'.setTop { g with pc := g.pc + 3, stack := .ref a :: rest }) target → Steps p.tables e below (T.setTop g) target := by
  obtain ⟨cB, h1, D, h2, h3, h4⟩ := hE
  have h1' : s.vm.findClass C = some cB := by rw [← X.warmed.alike.findClass]; exact h1
  obtain ⟨vm', X', st⟩ := X.checkcastYes hexec hown hlink h2 h4 h1' (by rw [h3]; exact Jvm.Free.SB.assignable_self _ _) hg hstack hdg
  exact ⟨_, X', rfl, fun t h => st t (by rw [← hstack] at h; exact h)⟩
namespace SEq
def yN : MethodName := ⟨"java/lang/String", "equals", "(Ljava/lang/Object;)Z"⟩
abbrev yB : ByteArray := jdk_42_method_66_code
theorem d0 : decode yB 0 = .ok (.aload_n 0, 1) := by decide +kernel
theorem d1 : decode yB 1 = .ok (.aload_n 1, 1) := by decide +kernel
theorem d2 : decode yB 2 = .ok (.if_acmp (.ne) 5, 3) := by decide +kernel
theorem d5 : decode yB 5 = .ok (.iconst 1, 1) := by decide +kernel
theorem d6 : decode yB 6 = .ok (.ireturn, 1) := by decide +kernel
theorem d7 : decode yB 7 = .ok (.aload_n 1, 1) := by decide +kernel
theorem d8 : decode yB 8 = .ok (.instanceof 10, 3) := by decide +kernel
theorem d11 : decode yB 11 = .ok (.ifCond (.eq) 43, 3) := by decide +kernel
theorem d14 : decode yB 14 = .ok (.aload_n 1, 1) := by decide +kernel
theorem d15 : decode yB 15 = .ok (.checkcast 10, 3) := by decide +kernel
theorem d18 : decode yB 18 = .ok (.astore_n 2, 1) := by decide +kernel
theorem d19 : decode yB 19 = .ok (.getstatic 38, 3) := by decide +kernel
theorem d22 : decode yB 22 = .ok (.ifCond (.eq) 14, 3) := by decide +kernel
theorem d25 : decode yB 25 = .ok (.aload_n 0, 1) := by decide +kernel
theorem d26 : decode yB 26 = .ok (.getfield 15, 3) := by decide +kernel
theorem d29 : decode yB 29 = .ok (.aload_n 2, 1) := by decide +kernel
theorem d30 : decode yB 30 = .ok (.getfield 15, 3) := by decide +kernel
theorem d33 : decode yB 33 = .ok (.if_icmp (.ne) 21, 3) := by decide +kernel
theorem d36 : decode yB 36 = .ok (.aload_n 0, 1) := by decide +kernel
theorem d37 : decode yB 37 = .ok (.getfield 9, 3) := by decide +kernel
theorem d40 : decode yB 40 = .ok (.aload_n 2, 1) := by decide +kernel
theorem d41 : decode yB 41 = .ok (.getfield 9, 3) := by decide +kernel
theorem d44 : decode yB 44 = .ok (.invokestatic 541, 3) := by decide +kernel
theorem d47 : decode yB 47 = .ok (.ifCond (.eq) 7, 3) := by decide +kernel
theorem d50 : decode yB 50 = .ok (.iconst 1, 1) := by decide +kernel
theorem d51 : decode yB 51 = .ok (.goto 4, 3) := by decide +kernel
theorem d54 : decode yB 54 = .ok (.iconst 0, 1) := by decide +kernel
theorem d55 : decode yB 55 = .ok (.ireturn, 1) := by decide +kernel
def site : List Cond := [.classLink "java/lang/String" 10 "java/lang/String", .fieldLink "java/lang/String" 38 "java/lang/String" "COMPACT_STRINGS" "Z", .fieldLink "java/lang/String" 15 "java/lang/String" "coder" "B", .fieldLink "java/lang/String" 9 "java/lang/String" "value" "[B", LEq.tab] ++ staticW "java/lang/String" 541 LEq.yN
def tab : Cond := tabOf yN yB 3 (some .boolean) site
def P (x t : Addr) (V : Cell) (cd : Int32) (n : Nat) (f : Nat → Int32) (y t' : Addr) (V' : Cell) (cd' : Int32) (k : Nat) (g : Nat → Int32) (z : Int32) (args : Array Value) (s : State) : Prop := args = #[.ref x, .ref y] ∧ Txt x t V cd n f s ∧ Txt y t' V' cd' k g s ∧ StaticIs s "java/lang/String" "COMPACT_STRINGS" "Z" (.int z) ∧ ¬ z = 0
/-- equals(Object) of two Strings: whether the texts are the same -/
theorem law (l : Launch) (x t : Addr) (V : Cell) (cd : Int32) (n : Nat) (f : Nat → Int32) (y t' : Addr) (V' : Cell) (cd' : Int32) (k : Nat) (g : Nat → Int32) (z : Int32) : Law l yN 2 1 1 14 yB 3 (some .boolean) site (P x t V cd n f y t' V' cd' k g z) (Says01 (SameT n f k g)) [] 0 0 := by
  refine Law.of_walk (plainFor_of_name (by decide +kernel)) (by decide +kernel) (by decide +kernel) (by decide) (fun _ _ h => by rw [h.1]; rfl) (fun _ U U' hal hh h => ⟨h.1, h.2.1.mv hal hh, h.2.2.1.mv hal hh, h.2.2.2.1.there hal hh, h.2.2.2.2⟩) (fun r U U' V V' h1 hal h2 h => Says01.mv r U U' V V' h1 hal h2 h) ?_
  intro p e s m args below meth c s₁ X0 hexec hbytes hml hret hlk hnm hown hh0 W hP
  obtain ⟨rfl, hx, hy, s1, hz⟩ := hP
  have c1 : Steps p.tables e below (s₁.setTop (entryFrame m #[.ref x, .ref y] 3)) (s₁.setTop (mkF m 2 #[.val (.ref x), .val (.ref y), .unset] [.ref y, .ref x])) := Steps.trans (entry rfl) (by
    show Steps p.tables e below (s₁.setTop (mkF m 0 #[.val (.ref x), .val (.ref y), .unset] [])) _
    refine XS.aloadN X0.here hexec rfl (hb hbytes d0) rfl rfl ?_
    refine XS.aloadN X0.here hexec rfl (hb hbytes d1) rfl rfl ?_
    exact Steps.refl _)
  by_cases hxy : x = y
  · have c2 : Steps p.tables e below (s₁.setTop (entryFrame m #[.ref x, .ref y] 3)) (s₁.setTop (mkF m 6 #[.val (.ref x), .val (.ref y), .unset] [.int 1])) := c1.trans (by
      refine acmpNo X0.here hexec rfl (hb hbytes d2) rfl rfl rfl (by simp [acmp, hxy]) ?_
      refine iconstV X0.here hexec rfl 1 (hb hbytes d5) (by decide) ?_
      exact Steps.refl _)
    subst hxy
    have ec : cd = cd' := by
      obtain ⟨D, fd, a1, a2, a3⟩ := hx.2.2.1
      obtain ⟨D', fd', b1, b2, b3⟩ := hy.2.2.1
      cases a1.symm.trans b1
      obtain ⟨q1, q2, q3, q4⟩ := a2.1
      obtain ⟨r1, r2, r3, r4⟩ := b2.1
      cases q4.symm.trans r4
      cases a3.symm.trans b3; rfl
    have et : t = t' := by
      obtain ⟨D, fd, a1, a2, a3⟩ := hx.2.1
      obtain ⟨D', fd', b1, b2, b3⟩ := hy.2.1
      cases a1.symm.trans b1
      obtain ⟨q1, q2, q3, q4⟩ := a2.1
      obtain ⟨r1, r2, r3, r4⟩ := b2.1
      cases q4.symm.trans r4
      cases a3.symm.trans b3; rfl
    subst ec et
    have ev : V = V' := by cases hx.2.2.2.1.1.symm.trans hy.2.2.2.1.1; rfl
    subst ev
    have hs : SameT n f k g := (Cod.eqv hx.2.2.2.2.1 hy.2.2.2.2.1 hx.2.2.2.2.2 hy.2.2.2.2.2).mp ⟨rfl, fun _ _ => rfl⟩
    exact ⟨s₁, some (.int 1), _, _, _, X0, rfl, rfl, rfl, (fun h => by cases h), ⟨1, rfl, hh0, Or.inl ⟨rfl, hs⟩⟩, fun fs hl => c2.trans (X0.ireturnOut hexec hret rfl (Or.inr (Or.inl rfl)) (hb hbytes d6) hl)⟩
  · have c2 : Steps p.tables e below (s₁.setTop (entryFrame m #[.ref x, .ref y] 3)) (s₁.setTop (mkF m 8 #[.val (.ref x), .val (.ref y), .unset] [.ref y])) := c1.trans (by
      refine acmpYes X0.here hexec rfl (pc0 := 2) rfl (hb hbytes d2) rfl rfl rfl (by simp [acmp, hxy]) (by decide) rfl ?_
      refine XS.aloadN X0.here hexec rfl (hb hbytes d7) rfl rfl ?_
      exact Steps.refl _)
    obtain ⟨T3, X3, q3, st3⟩ := cinst X0 hexec hown (wk W (.classLink "java/lang/String" 10 "java/lang/String")) (hy.mv X0.warmed.alike hh0).1 (g := (mkF m 8 #[.val (.ref x), .val (.ref y), .unset] [.ref y])) rfl (rest := []) rfl (hb hbytes d8)
    have hh3 := q3.trans hh0
    have c4 : Steps p.tables e below (s₁.setTop (entryFrame m #[.ref x, .ref y] 3)) (T3.setTop (mkF m 15 #[.val (.ref x), .val (.ref y), .unset] [.ref y])) := (c2.trans (st3 _ (Steps.refl _))).trans (by
      refine XS.ifNo X3.here hexec rfl (hb hbytes d11) rfl (i0_eq_f (by decide)) ?_
      refine XS.aloadN X3.here hexec rfl (hb hbytes d14) rfl rfl ?_
      exact Steps.refl _)
    obtain ⟨T5, X5, q5, st5⟩ := cself X3 hexec hown (wk W (.classLink "java/lang/String" 10 "java/lang/String")) (hy.mv X3.warmed.alike hh3).1 (g := (mkF m 15 #[.val (.ref x), .val (.ref y), .unset] [.ref y])) rfl (rest := []) rfl (hb hbytes d15)
    have hh5 := q5.trans hh3
    have c6 : Steps p.tables e below (s₁.setTop (entryFrame m #[.ref x, .ref y] 3)) (T5.setTop (mkF m 19 #[.val (.ref x), .val (.ref y), .val (.ref y)] [])) := (c4.trans (st5 _ (Steps.refl _))).trans (by
      refine XS.astoreN X5.here hexec rfl (hb hbytes d18) rfl rfl rfl ?_
      exact Steps.refl _)
    obtain ⟨T7, X7, q7, st7⟩ := X5.sget hexec hown (wk W (.fieldLink "java/lang/String" 38 "java/lang/String" "COMPACT_STRINGS" "Z")) s1 (fun _ _ h => by rw [hh5]; exact h) (g := (mkF m 19 #[.val (.ref x), .val (.ref y), .val (.ref y)] [])) rfl (hb hbytes d19)
    have hh7 := q7.trans hh5
    have c8 : Steps p.tables e below (s₁.setTop (entryFrame m #[.ref x, .ref y] 3)) (T7.setTop (mkF m 26 #[.val (.ref x), .val (.ref y), .val (.ref y)] [.ref x])) := (c6.trans (st7 _ (Steps.refl _))).trans (by
      refine XS.ifNo X7.here hexec rfl (hb hbytes d22) rfl (i0_eq_f hz) ?_
      refine XS.aloadN X7.here hexec rfl (hb hbytes d25) rfl rfl ?_
      exact Steps.refl _)
    obtain ⟨T9, X9, q9, st9⟩ := X7.hget hexec hown (wk W (.fieldLink "java/lang/String" 15 "java/lang/String" "coder" "B")) (hx.mv X7.warmed.alike hh7).2.2.1 (g := (mkF m 26 #[.val (.ref x), .val (.ref y), .val (.ref y)] [.ref x])) rfl (rest := []) rfl (hb hbytes d26)
    have hh9 := q9.trans hh7
    have c10 : Steps p.tables e below (s₁.setTop (entryFrame m #[.ref x, .ref y] 3)) (T9.setTop (mkF m 30 #[.val (.ref x), .val (.ref y), .val (.ref y)] [.ref y, .int cd])) := (c8.trans (st9 _ (Steps.refl _))).trans (by
      refine XS.aloadN X9.here hexec rfl (hb hbytes d29) rfl rfl ?_
      exact Steps.refl _)
    obtain ⟨T11, X11, q11, st11⟩ := X9.hget hexec hown (wk W (.fieldLink "java/lang/String" 15 "java/lang/String" "coder" "B")) (hy.mv X9.warmed.alike hh9).2.2.1 (g := (mkF m 30 #[.val (.ref x), .val (.ref y), .val (.ref y)] [.ref y, .int cd])) rfl (rest := [.int cd]) rfl (hb hbytes d30)
    have hh11 := q11.trans hh9
    have c12 : Steps p.tables e below (s₁.setTop (entryFrame m #[.ref x, .ref y] 3)) (T11.setTop (mkF m 33 #[.val (.ref x), .val (.ref y), .val (.ref y)] [.int cd', .int cd])) := c10.trans (st11 _ (Steps.refl _))
    by_cases hcd : cd = cd'
    · subst hcd
      have c13 : Steps p.tables e below (s₁.setTop (entryFrame m #[.ref x, .ref y] 3)) (T11.setTop (mkF m 37 #[.val (.ref x), .val (.ref y), .val (.ref y)] [.ref x])) := c12.trans (by
        refine XS.icmpNo X11.here hexec rfl (hb hbytes d33) rfl (ii_ne_f rfl) ?_
        refine XS.aloadN X11.here hexec rfl (hb hbytes d36) rfl rfl ?_
        exact Steps.refl _)
      obtain ⟨T14, X14, q14, st14⟩ := X11.hget hexec hown (wk W (.fieldLink "java/lang/String" 9 "java/lang/String" "value" "[B")) (hx.mv X11.warmed.alike hh11).2.1 (g := (mkF m 37 #[.val (.ref x), .val (.ref y), .val (.ref y)] [.ref x])) rfl (rest := []) rfl (hb hbytes d37)
      have hh14 := q14.trans hh11
      have c15 : Steps p.tables e below (s₁.setTop (entryFrame m #[.ref x, .ref y] 3)) (T14.setTop (mkF m 41 #[.val (.ref x), .val (.ref y), .val (.ref y)] [.ref y, .ref t])) := (c13.trans (st14 _ (Steps.refl _))).trans (by
        refine XS.aloadN X14.here hexec rfl (hb hbytes d40) rfl rfl ?_
        exact Steps.refl _)
      obtain ⟨T16, X16, q16, st16⟩ := X14.hget hexec hown (wk W (.fieldLink "java/lang/String" 9 "java/lang/String" "value" "[B")) (hy.mv X14.warmed.alike hh14).2.1 (g := (mkF m 41 #[.val (.ref x), .val (.ref y), .val (.ref y)] [.ref y, .ref t])) rfl (rest := [.ref t]) rfl (hb hbytes d41)
      have hh16 := q16.trans hh14
      have c17 : Steps p.tables e below (s₁.setTop (entryFrame m #[.ref x, .ref y] 3)) (T16.setTop (mkF m 44 #[.val (.ref x), .val (.ref y), .val (.ref y)] [.ref t', .ref t])) := c15.trans (st16 _ (Steps.refl _))
      obtain ⟨v18, T18, X18, E18, g18⟩ := X16.callS hexec (LEq.law l t V t' V') hown (wks W (staticW "java/lang/String" 541 LEq.yN)) (wk W LEq.tab) (W := 0) (Nat.le_of_ble_eq_true rfl) (Nat.le_of_ble_eq_true rfl) (Nat.le_refl _) (Nat.le_refl _) (g := (mkF m 44 #[.val (.ref x), .val (.ref y), .val (.ref y)] [.ref t', .ref t])) rfl (by rw [hml]; rfl) c17 (argsL := [.ref t, .ref t']) (rest := []) rfl rfl (by show 2 * 0 + 0 ≤ _; decide) (hb hbytes d44) (⟨rfl, hx.2.2.2.1.mv X16.warmed.alike hh16, hx.2.2.2.2.1.ty, hy.2.2.2.1.mv X16.warmed.alike hh16, hy.2.2.2.2.1.ty⟩)
      obtain ⟨v, rfl, q18, hv⟩ := E18
      have iff := Cod.eqv hx.2.2.2.2.1 hy.2.2.2.2.1 hx.2.2.2.2.2 hy.2.2.2.2.2
      rcases hv with ⟨rfl, he⟩ | ⟨rfl, he⟩
      · have c19 : Steps p.tables e below (s₁.setTop (entryFrame m #[.ref x, .ref y] 3)) (T18.setTop (mkF m 55 #[.val (.ref x), .val (.ref y), .val (.ref y)] [.int 1])) := Steps.trans g18 (by
          refine XS.ifNo X18.here hexec rfl (hb hbytes d47) rfl (i0_eq_f (by decide)) ?_
          refine iconstV X18.here hexec rfl 1 (hb hbytes d50) (by decide) ?_
          refine XS.goto X18.here hexec rfl (pc0 := 51) rfl (hb hbytes d51) (by decide) rfl ?_
          exact Steps.refl _)
        exact ⟨T18, some (.int 1), _, _, _, X18, rfl, rfl, rfl, (fun h => by cases h), ⟨1, rfl, q18.trans hh16, Or.inl ⟨rfl, iff.mp he⟩⟩, fun fs hl => c19.trans (X18.ireturnOut hexec hret rfl (Or.inr (Or.inl rfl)) (hb hbytes d55) hl)⟩
      · have c19 : Steps p.tables e below (s₁.setTop (entryFrame m #[.ref x, .ref y] 3)) (T18.setTop (mkF m 55 #[.val (.ref x), .val (.ref y), .val (.ref y)] [.int 0])) := Steps.trans g18 (by
          refine XS.ifYes X18.here hexec rfl (pc0 := 47) rfl (hb hbytes d47) rfl (i0_eq_t rfl) (by decide) rfl ?_
          refine iconstV X18.here hexec rfl 0 (hb hbytes d54) (by decide) ?_
          exact Steps.refl _)
        exact ⟨T18, some (.int 0), _, _, _, X18, rfl, rfl, rfl, (fun h => by cases h), ⟨0, rfl, q18.trans hh16, Or.inr ⟨rfl, fun q => he (iff.mpr q)⟩⟩, fun fs hl => c19.trans (X18.ireturnOut hexec hret rfl (Or.inr (Or.inl rfl)) (hb hbytes d55) hl)⟩
    · have c13 : Steps p.tables e below (s₁.setTop (entryFrame m #[.ref x, .ref y] 3)) (T11.setTop (mkF m 55 #[.val (.ref x), .val (.ref y), .val (.ref y)] [.int 0])) := c12.trans (by
        refine XS.icmpYes X11.here hexec rfl (pc0 := 33) rfl (hb hbytes d33) rfl (ii_ne_t hcd) (by decide) rfl ?_
        refine iconstV X11.here hexec rfl 0 (hb hbytes d54) (by decide) ?_
        exact Steps.refl _)
      exact ⟨T11, some (.int 0), _, _, _, X11, rfl, rfl, rfl, (fun h => by cases h), ⟨0, rfl, hh11, Or.inr ⟨rfl, Cod.dif hx.2.2.2.2.1 hy.2.2.2.2.1 hcd⟩⟩, fun fs hl => c13.trans (X11.ireturnOut hexec hret rfl (Or.inr (Or.inl rfl)) (hb hbytes d55) hl)⟩
theorem pays {l : Launch} {R : Room} {p : Program} {e : Env} {below : List Frame} {s : State} {sargs : Array Value} {len W : Nat} (x t : Addr) (V : Cell) (cd : Int32) (n : Nat) (f : Nat → Int32) (y t' : Addr) (V' : Cell) (cd' : Int32) (k : Nat) (g : Nat → Int32) (z : Int32) (htab : tab.before sargs s = true) (hfr : 2 ≤ R.frames) (hlo : W + 28 ≤ R.locals) :
    Back l R p e below s sargs yN len W (fun A₁ a₁ => A₁.cells + 0 ≤ R.cells ∧ A₁.slots + 0 ≤ R.slots ∧ P x t V cd n f y t' V' cd' k g z a₁ A₁.U) (fun A₁ _ v₁ B₁ => Says01 (SameT n f k g) v₁ A₁.U B₁.U ∧ B₁.locs = A₁.locs ++ [] ∧ B₁.cells = A₁.cells + 0 ∧ B₁.slots = A₁.slots + 0) :=
  (law l x t V cd n f y t' V' cd' k g z).pays htab hfr (by omega)
end SEq
end StrChars
namespace StrChars.Road
open Jvm Sem ClassFile Op Lib Jvm.Stand Jvm.Free Jvm.Free.XT
open Jvm.Lib.Cold (StaticIs)
/-- the words of String.equals(Object) -/
abbrev wordsEq : List Jvm.Cond := [.code SEq.yN SEq.yB 3 (some .boolean), .initialized ST, .classLink ST 10 ST, .fieldLink ST 38 ST "COMPACT_STRINGS" "Z", .fieldLink ST 15 ST "coder" "B", .fieldLink ST 9 ST "value" "[B", .methodLink ST 541 LEq.yN, .static LEq.yN, .code LEq.yN LEq.yB 3 (some .boolean), .initialized "java/lang/StringLatin1"]
theorem tabEq_of {a : Array Value} {s : State} (h : ∀ w ∈ wordsEq, w.before a s = true) : SEq.tab.before a s = true := by
  have hl : LEq.tab.before a s = true := unparts (wk h (.code LEq.yN LEq.yB 3 (some .boolean))) (wks h (.initialized LEq.yN.cls :: LEq.site))
  have q := consq hl h
  exact unparts (wk q (.code SEq.yN SEq.yB 3 (some .boolean))) (wks q (.initialized SEq.yN.cls :: SEq.site))
theorem movedEq {Z s : State} {a0 args : Array Value} (hZ : Z.Warmed39 s.vm) (hw : ∀ d ∈ wordsEq, d.before a0 Z = true) : ∀ d ∈ wordsEq, d.before args s = true := fun d hd => by
  have t : ∀ d ∈ wordsEq, (d.onTables && d.keepsFace) = true := by decide +kernel
  exact RoadKit.mv hZ (hw d hd) (t d hd)
/-- the road's facts of a String, as the laws ask it -/
theorem txt_of {Z U : State} {a0 : Array Value} {kI : Nat} (wi : (Jvm.Cond.instantiable ST kI).before a0 Z = true) (al : Z.vm.Alike U.vm) {x t : Addr} {kb : ClassId} {cs : List Int32} {cd N2 : Int32} {vs : List Value} (E : RoadKit.Exa Z U.heap x ST) (V : RoadKit.Fld Z U.heap x ST "value" "[B" (.ref t)) (C : RoadKit.Fld Z U.heap x ST "coder" "B" (.int cd)) (K : RoadKit.Arv Z U.heap t kb .byte N2 vs (.int 0)) (hc : CodA cs cd N2 vs) (hb : ∀ c ∈ cs, ¬ c < 0 ∧ ¬ (65535 : Int32) < c) (l2 : cs.length ≤ 4000) :
    ∃ A, Txt x t A cd cs.length (fun j => cs.getD j 0) U := by
  obtain ⟨A, K1, K2, K3, K4, K5, K6⟩ := K
  have hcod := hc.cod (by omega) K3 K5
  obtain ⟨D, fV, fC, hB, F1, F2, g1, g2, -, -⟩ := strObj wi al E V C
  exact ⟨A, ⟨_, hB.2.2.1, D, hB.1, rfl, by cases q : D.vm <;> first | rfl | exact absurd q (hB.2.1.2 _)⟩, Has.of hB F1 g1, Has.of hB F2 g2, ⟨K1.1, State.isArrayOf_alike al K1.2.1, K1.2.2, by rcases hcod with ⟨-, q, -⟩ | ⟨-, q, -⟩ <;> omega⟩, hcod, fun j hj => by
    have e : cs.getD j 0 = cs[j] := by simp [List.getD_eq_getElem?_getD, hj]
    show ¬ cs.getD j 0 < 0 ∧ ¬ 65535 < cs.getD j 0
    rw [e]; exact hb _ (List.getElem_mem _)⟩
theorem same_list (cs ds : List Int32) : SameT cs.length (fun j => cs.getD j 0) ds.length (fun j => ds.getD j 0) ↔ cs = ds := by
  constructor
  · rintro ⟨e, q⟩
    refine List.ext_getElem e fun j h1 h2 => ?_
    have := q j h1
    simpa [List.getD_eq_getElem?_getD, h1, h2] using this
  · rintro rfl
    exact ⟨rfl, fun _ _ => rfl⟩
/-- **equals(Object) OF TWO SUCH STRINGS**: 1 just where the chars are the same -/
theorem eqW {p : Program} {l : Launch} {e : Env} {R : Room} {s : State} {args : Array Value} {below : List Frame} {len W : Nat} {Z : State} {a0 : Array Value} {h : Heap} (hZ : Z.Warmed39 s.vm) (hw : ∀ d ∈ wordsEq, d.before a0 Z = true) {kI : Nat} (wi : (Jvm.Cond.instantiable ST kI).before a0 Z = true)
    {x t : Addr} {kb : ClassId} {cs : List Int32} {cd N2 : Int32} {vs : List Value} (E : RoadKit.Exa Z h x ST) (V : RoadKit.Fld Z h x ST "value" "[B" (.ref t)) (C : RoadKit.Fld Z h x ST "coder" "B" (.int cd)) (K : RoadKit.Arv Z h t kb .byte N2 vs (.int 0)) (hc : CodA cs cd N2 vs) (hb : ∀ c ∈ cs, ¬ c < 0 ∧ ¬ (65535 : Int32) < c) (l2 : cs.length ≤ 4000)
    {y t' : Addr} {kb' : ClassId} {ds : List Int32} {cd' N2' : Int32} {vs' : List Value} (E' : RoadKit.Exa Z h y ST) (V' : RoadKit.Fld Z h y ST "value" "[B" (.ref t')) (C' : RoadKit.Fld Z h y ST "coder" "B" (.int cd')) (K' : RoadKit.Arv Z h t' kb' .byte N2' vs' (.int 0)) (hc' : CodA ds cd' N2' vs') (hb' : ∀ c ∈ ds, ¬ c < 0 ∧ ¬ (65535 : Int32) < c) (l2' : ds.length ≤ 4000)
    {z : Int32} (S : RoadKit.Sta Z h ST "COMPACT_STRINGS" "Z" (.int z)) (hz : ¬ z = 0) (hfr : 2 ≤ R.frames) (hlo : W + 28 ≤ R.locals) :
    Back l R p e below s args (⟨"java/lang/String", "equals", "(Ljava/lang/Object;)Z"⟩ : MethodName) len W (fun P a => a = #[.ref x, .ref y] ∧ P.U.heap = h ∧ P.cells + 0 ≤ R.cells ∧ P.slots + 0 ≤ R.slots)
      (fun P _ v B => ∃ L, (((v = some (.int 1) ∧ cs = ds) ∨ (v = some (.int 0) ∧ ¬ cs = ds)) ∧ L = [] ∧ B.U.heap = h) ∧ B.locs = P.locs ++ L ∧ B.cells = P.cells + 0 ∧ B.slots = P.slots + 0) := by
  intro m meth c P g ig mk a X hg hsize hdg hW hn hp'
  obtain ⟨rfl, rfl, r1, r2⟩ := hp'
  have al : Z.vm.Alike P.U.vm := hZ.alike.trans X.warmed.alike
  obtain ⟨A, hx⟩ := txt_of wi al E V C K hc hb l2
  obtain ⟨A', hy⟩ := txt_of wi al E' V' C' K' hc' hb' l2'
  obtain ⟨v, B, X', ⟨⟨w, hv, hh, hq⟩, hl, hk, hs⟩, st⟩ := SEq.pays x t A cd cs.length (fun j => cs.getD j 0) y t' A' cd' ds.length (fun j => ds.getD j 0) z (tabEq_of (movedEq hZ hw)) hfr hlo m meth c P g ig mk _ X hg hsize hdg hW hn ⟨r1, r2, rfl, hx, hy, sta_is al S, hz⟩
  refine ⟨v, B, X', ⟨[], ⟨?_, rfl, hh⟩, hl, hk, hs⟩, st⟩
  rcases hq with ⟨rfl, q⟩ | ⟨rfl, q⟩
  · exact Or.inl ⟨hv, (same_list cs ds).mp q⟩
  · exact Or.inr ⟨hv, fun e => q ((same_list cs ds).mpr e)⟩
end StrChars.Road
namespace StrChars.Road
open Jvm Sem ClassFile Op Lib Jvm.Stand Jvm.Free Jvm.Free.XT
open Jvm.Lib.Cold (StaticIs)
/-- what backV says of its String, as the contracts of this text ask it: cs's low bytes, coder 0 -/
theorem codOf {cs : List Int32} {n : Nat} (hn : cs.length = n) (hb : ∀ c ∈ cs, ¬ 255 < c) : CodA cs 0 (Int32.ofNat n) ((cs.map lo8).map Value.int) := Or.inl ⟨rfl, by rw [hn], by simp [List.map_map, Function.comp_def], hb⟩
end StrChars.Road
end Jvm.Pilot.@@N@@
namespace Jvm.Pilot.@@N@@
open Jvm Jvm.ClassFile Sem Op Lib Jvm.Free Jvm.Stand Jvm.LawKit Jvm.RoadKit Bundle Jvm.Pilot.@@N@@.Jvm.D
theorem and255_chars (x : Int32) : ¬ nar .char ((x &&& (255 : Int32)).toUInt32.toUInt16.toUInt32.toInt32) < 0 ∧ ¬ (255 : Int32) < nar .char ((x &&& (255 : Int32)).toUInt32.toUInt16.toUInt32.toInt32) := by
  have t : ∀ k : Fin 256, ¬ nar .char ((Int32.ofNat k.val).toUInt32.toUInt16.toUInt32.toInt32) < 0 ∧ ¬ (255 : Int32) < nar .char ((Int32.ofNat k.val).toUInt32.toUInt16.toUInt32.toInt32) := by decide +kernel
  have h : (x &&& 255).toBitVec.toNat < 256 := by
    simp only [Int32.toBitVec_and, BitVec.toNat_and]
    exact Nat.lt_succ_of_le Nat.and_le_right
  have e : (x &&& 255) = Int32.ofNat (x &&& 255).toBitVec.toNat := by
    apply Int32.toBitVec_inj.mp
    show _ = BitVec.ofNat 32 _
    rw [BitVec.ofNat_toNat]; simp
  rw [e]
  exact t ⟨_, h⟩
theorem up (cs : List Int32) (h : ∀ c ∈ cs, ¬ c < 0 ∧ ¬ (255 : Int32) < c) : ∀ c ∈ cs, ¬ c < 0 ∧ ¬ (65535 : Int32) < c := fun c hc => ⟨(h c hc).1, fun q => (h c hc).2 (by rw [Int32.lt_iff_toInt_lt] at q ⊢; have e1 : (65535 : Int32).toInt = 65535 := rfl; have e2 : (255 : Int32).toInt = 255 := rfl; omega)⟩
def own_Str (Z : State) (h : Heap) (x : Addr) (cs : List Int32) : Prop := (∀ c ∈ cs, ¬ c < 0 ∧ ¬ (255 : Int32) < c) ∧ cs.length ≤ 4000 ∧ Exa Z h x "java/lang/String" ∧ Fld Z h x "java/lang/String" "coder" "B" (.int 0) ∧ ∃ (t : Addr) (kb : ClassId), Fld Z h x "java/lang/String" "value" "[B" (.ref t) ∧ Arv Z h t kb .byte (Int32.ofNat cs.length) ((cs.map fun c => c.toInt8.toInt32).map Value.int) (.int 0)
theorem own_Str.ext {Z : State} {h h' : Heap} {x : Addr} {cs : List Int32} (E : Ext h h') (S : own_Str Z h x cs) : own_Str Z h' x cs := by
  obtain ⟨h1, h2, h3, h4, t, kb, h5, h6⟩ := S
  exact ⟨h1, h2, h3.ext E, h4.ext E, t, kb, h5.ext E, h6.ext E⟩
theorem own_narc {c : Int32} (h : ¬ c < 0 ∧ ¬ (255 : Int32) < c) : nar .char c = c := by
  have e : c = Int32.ofNat c.toInt.toNat := by
    apply Int32.toInt_inj.mp
    rw [Int32.toInt_ofNat_of_lt]
    · have := h.1; rw [Int32.lt_iff_toInt_lt] at this; have e0 : (0 : Int32).toInt = 0 := rfl; omega
    · have := h.2; rw [Int32.lt_iff_toInt_lt] at this; have e0 : (255 : Int32).toInt = 255 := rfl; omega
  have hk : c.toInt.toNat < 256 := by
    have := h.2; rw [Int32.lt_iff_toInt_lt] at this; have e0 : (255 : Int32).toInt = 255 := rfl; omega
  have t : ∀ k : Fin 256, nar .char (Int32.ofNat k.val) = Int32.ofNat k.val := by decide +kernel
  rw [e]; exact t ⟨_, hk⟩
theorem own_no {Z : State} {a0 : Array Value} {C S K : String} {n : Nat} (w : (Jvm.Cond.superclass C S).before a0 Z = true) (wo : (Jvm.Cond.noSuperclass S).before a0 Z = true) (wi : (Jvm.Cond.instantiable K n).before a0 Z = true) (hn : C ≠ K) (ho : S ≠ K) : ∃ c t, Z.vm.findClass C = some c ∧ Z.vm.findClass K = some t ∧ Z.vm.assignable c t = false := by
  obtain ⟨c2, k2, i1, i2, i3, i4, -⟩ := Cond.instantiable_spec wi
  obtain ⟨c, h0⟩ := found_sup w
  obtain ⟨p, k, kp, h1, h2, h3, h4, h5, -, h7⟩ := Cond.superclass_spec h0 w
  obtain ⟨co, ko, o1, o2, o3, -, -⟩ := Cond.noSuperclass_spec wo
  cases h1.symm.trans o1
  have ne := ids_ne h0 i1 hn
  have ne2 := ids_ne o1 i1 ho
  have hif : k2.isInterface = false := by simp at i4; exact i4.1
  refine ⟨c, c2, h0, i1, ?_⟩
  show Z.vm.assignableAux (255 + 1) c c2 = false
  have q : ∀ fuel, Z.vm.isSubclassAux fuel c c2 = false := by
    intro fuel
    cases fuel with
    | zero => rfl
    | succ f =>
      cases f with
      | zero => simp [Vm.isSubclassAux, ne, h2, h4]
      | succ g => simp [Vm.isSubclassAux, ne, ne2, h2, h4, o2, o3]
  simp [Vm.assignableAux, ne, h2, i2, h5, i3, hif, Vm.isSubclass, q]
theorem own_toI {n : Nat} (h : n < 2147483648) : (Int32.ofNat n).toInt = n := Int32.toInt_ofNat_of_lt h
theorem own_clamp {n : Nat} (h : n < 2147483648) : (Int32.ofNat n).toNatClampNeg = n := by rw [Int32.toNatClampNeg, own_toI h]; omega
theorem own_nn {n : Nat} (h : n < 2147483648) : ¬ Int32.ofNat n < 0 := by rw [Int32.lt_iff_toInt_lt, own_toI h]; have e0 : (0 : Int32).toInt = 0 := rfl; omega
theorem own_lt {a b : Nat} (h : a < 2147483648) (h' : b < 2147483648) : Int32.ofNat a < Int32.ofNat b ↔ a < b := by rw [Int32.lt_iff_toInt_lt, own_toI h, own_toI h']; omega
theorem own_eq {a b : Nat} (h : a < 2147483648) (h' : b < 2147483648) : Int32.ofNat a = Int32.ofNat b ↔ a = b := by rw [← Int32.toInt_inj, own_toI h, own_toI h']; omega
theorem own_addN {a b : Nat} (h : a + b < 2147483648) : Int32.ofNat a + Int32.ofNat b = Int32.ofNat (a + b) := by
  apply Int32.toInt_inj.mp
  have q := c_iadd (Int32.ofNat a) (Int32.ofNat b)
  have r := rng32 (Int32.ofNat a + Int32.ofNat b)
  rw [own_toI (by omega), own_toI (by omega)] at q
  rw [own_toI h]; omega
theorem own_subN {a b : Nat} (hb : b ≤ a) (h : a < 2147483648) : Int32.ofNat a - Int32.ofNat b = Int32.ofNat (a - b) := by
  apply Int32.toInt_inj.mp
  have q := c_isub (Int32.ofNat a) (Int32.ofNat b)
  have r := rng32 (Int32.ofNat a - Int32.ofNat b)
  rw [own_toI (by omega), own_toI (by omega)] at q
  rw [own_toI (by omega)]; omega
abbrev own_by (cs : List Int32) : List Value := (cs.map fun c => c.toInt8.toInt32).map Value.int
theorem own_us (cs : List Int32) (i : Nat) : ((List.range (cs.length - i)).map fun t => (own_by cs).getD (i + t) (.int 0)) = own_by (cs.drop i) := by
  apply List.ext_getElem
  · simp [own_by]
  · intro k h1 h2
    simp only [List.length_map, List.length_range] at h1
    have h3 : i + k < cs.length := by omega
    simp [own_by, List.getD_eq_getElem?_getD, h3]
theorem own_slice (cs : List Int32) (i j : Nat) (h : i + j ≤ cs.length) : ((List.range j).map fun t => cs.getD (i + t) 0) = (cs.drop i).take j := by
  apply List.ext_getElem
  · simp; omega
  · intro k h1 h2
    simp only [List.length_map, List.length_range] at h1
    have h3 : i + k < cs.length := by omega
    simp [List.getD_eq_getElem?_getD, h3]
theorem own_pd0 : parseMethodDescriptor "([CIILjava/lang/Void;)V" = some ⟨[(.array .char), .int, .int, (.object "java/lang/Void")], none⟩ := by decide +kernel
theorem own_pd1 : parseMethodDescriptor "(IIILjava/util/function/BiFunction;)I" = some ⟨[.int, .int, .int, (.object "java/util/function/BiFunction")], some .int⟩ := by decide +kernel
theorem own_pd2 : parseMethodDescriptor "(II)V" = some ⟨[.int, .int], none⟩ := by decide +kernel
theorem own_pd3 : parseMethodDescriptor "(II)I" = some ⟨[.int, .int], some .int⟩ := by decide +kernel
theorem own_pd4 : parseMethodDescriptor "([BII)[B" = some ⟨[(.array .byte), .int, .int], some (.array .byte)⟩ := by decide +kernel
theorem own_pd5 : parseMethodDescriptor "([BB)V" = some ⟨[(.array .byte), .byte], none⟩ := by decide +kernel
theorem own_pd6 : parseMethodDescriptor "()I" = some ⟨[], some .int⟩ := by decide +kernel
theorem own_pd7 : parseMethodDescriptor "(III)V" = some ⟨[.int, .int, .int], none⟩ := by decide +kernel
theorem own_pd8 : parseMethodDescriptor "()Z" = some ⟨[], some .boolean⟩ := by decide +kernel
theorem own_pd9 : parseMethodDescriptor "([BII)Ljava/lang/String;" = some ⟨[(.array .byte), .int, .int], some (.object "java/lang/String")⟩ := by decide +kernel
theorem own_pd10 : parseMethodDescriptor "(II)Ljava/lang/String;" = some ⟨[.int, .int], some (.object "java/lang/String")⟩ := by decide +kernel
theorem own_pd11 : parseMethodDescriptor "()V" = some ⟨[], none⟩ := by decide +kernel
theorem own_pd12 : parseMethodDescriptor "([C)V" = some ⟨[(.array .char)], none⟩ := by decide +kernel
theorem own_pd13 : parseMethodDescriptor "(I)Ljava/lang/String;" = some ⟨[.int], some (.object "java/lang/String")⟩ := by decide +kernel
theorem own_pd14 : parseMethodDescriptor "([CII)Ljava/lang/String;" = some ⟨[(.array .char), .int, .int], some (.object "java/lang/String")⟩ := by decide +kernel
theorem own_pd15 : parseMethodDescriptor "(Ljava/lang/String;Ljava/lang/String;Ljava/lang/String;Ljava/lang/String;)V" = some ⟨[(.object "java/lang/String"), (.object "java/lang/String"), (.object "java/lang/String"), (.object "java/lang/String")], none⟩ := by decide +kernel
theorem own_pd16 : parseMethodDescriptor "()Ljava/lang/String;" = some ⟨[], some (.object "java/lang/String")⟩ := by decide +kernel
theorem own_pd17 : parseMethodDescriptor "(Ljava/lang/Object;)Z" = some ⟨[(.object "java/lang/Object")], some .boolean⟩ := by decide +kernel
abbrev EL : List (String × Nat) := consts_1
theorem own_EL {Z : State} {a0 : Array Value} (hw : ∀ d ∈ tables_1, d.before a0 Z = true) : EW Z a0 EL := (EW.cons (text := "") (hw _ (List.mem_of_getElem? (i := 40) rfl)) (by decide) (EW.cons (text := "") (hw _ (List.mem_of_getElem? (i := 18) rfl)) (by decide) (EW.cons (text := "") (hw _ (List.mem_of_getElem? (i := 132) rfl)) (by decide) EW.nil)))
theorem own_wS {Z : State} {a0 : Array Value} (hw : ∀ d ∈ tables_1, d.before a0 Z = true) : ∀ d ∈ Bundle.stringAtoms, d.before a0 Z = true := fun d hd => hw d ((by decide +kernel : ∀ d ∈ Bundle.stringAtoms, d ∈ tables_1) d hd)
theorem own_mem40 : (("com/example/test_rollback/testrollback/CounterColumnPinLaw", 20) : String × Nat) ∈ EL := List.mem_of_getElem? (i := 0) rfl
theorem own_mem18 : (("java/lang/String", 7) : String × Nat) ∈ EL := List.mem_of_getElem? (i := 1) rfl
theorem own_mem132 : (("java/lang/StringLatin1", 151) : String × Nat) ∈ EL := List.mem_of_getElem? (i := 2) rfl
theorem own_safeNull {Z : State} {a0 : Array Value} {EL : List (String × Nat)} {vm : Vm} {h : Heap} {x : Addr} (hal : Z.vm.Alike vm) (E : Exa Z h x "java/lang/String") (F : Fld Z h x "java/lang/String" "value" "[B" .null) : Safe Z EL vm h x := fun B => by
  obtain ⟨cell, cf, k, i, f, f1, f2, -, -, -, -, f7⟩ := F
  obtain ⟨p, -, u, a, -, q, -, G, rfl | rfl⟩ := B
  · cases (show h[q.sa]? = some q.sC from G.ha).symm.trans f1
    obtain ⟨cS, ⟨⟨-, -, -, ⟨c1, k1, i1, g1, -⟩, -, -, -, v1, -⟩, -⟩, -⟩ := G
    obtain ⟨k3, e3⟩ := ff_back (U := Wst Z vm h) hal g1
    have e4 := e3.symm.trans f2
    simp only [Option.some.injEq, Prod.mk.injEq] at e4
    rw [e4.2.2.2, f7] at v1
    cases v1
  · obtain ⟨cell', k', e1, e2, e3, -, -⟩ := E
    cases (show h[q.sd]? = some q.SA from G.hd).symm.trans e1
    obtain ⟨cS, -, -, g, -⟩ := G
    have g' : vm.findClass "[B" = some q.SA.cls := g
    rw [hal.findClass] at g'
    exact ids_ne g' e2 (by decide) rfl
theorem d3_0 : decode jdk_42_method_149_code 0 = .ok (.aload_n 0, 1) := by decide +kernel
theorem d3_1 : decode jdk_42_method_149_code 1 = .ok (.invokespecial 1, 3) := by decide +kernel
theorem d3_4 : decode jdk_42_method_149_code 4 = .ok (.iload_n 3, 1) := by decide +kernel
theorem d3_5 : decode jdk_42_method_149_code 5 = .ok (.ifCond .ne 22, 3) := by decide +kernel
theorem d3_8 : decode jdk_42_method_149_code 8 = .ok (.aload_n 0, 1) := by decide +kernel
theorem d3_9 : decode jdk_42_method_149_code 9 = .ok (.ldc 7, 2) := by decide +kernel
theorem d3_11 : decode jdk_42_method_149_code 11 = .ok (.getfield 9, 3) := by decide +kernel
theorem d3_14 : decode jdk_42_method_149_code 14 = .ok (.putfield 9, 3) := by decide +kernel
theorem d3_17 : decode jdk_42_method_149_code 17 = .ok (.aload_n 0, 1) := by decide +kernel
theorem d3_18 : decode jdk_42_method_149_code 18 = .ok (.ldc 7, 2) := by decide +kernel
theorem d3_20 : decode jdk_42_method_149_code 20 = .ok (.getfield 15, 3) := by decide +kernel
theorem d3_23 : decode jdk_42_method_149_code 23 = .ok (.putfield 15, 3) := by decide +kernel
theorem d3_26 : decode jdk_42_method_149_code 26 = .ok (.return_, 1) := by decide +kernel
theorem own_nbyte0 : nar .byte (0 : Int32) = 0 := by decide
def QE (Z : State) (x : Addr) (h0 : Heap) (n0 : Nat) (v : Option Value) (h : Heap) (L : List Loc) : Prop := v = none ∧ Fr n0 L ∧ Keep h0 h [x] ∧ own_Str Z h x []
theorem own_pn_rmE2 : plainName "java/lang/String" = true := by first | (simp [plainName, overriddenIn]; done) | decide +kernel
theorem own_ef_rmE2 (m : MethodId) (x : Addr) (b : Addr) : entryFrame m #[(.ref x), (.ref b), (.int (0 : Int32)), (.int (0 : Int32)), .null] 6 = (mkF m 0 #[.val (.ref x), .val (.ref b), .val (.int (0 : Int32)), .val (.int (0 : Int32)), .val .null, .unset] []) := by first | (simp [entryFrame, mkF, argsToLocals, Value.category]; done) | rfl
set_option maxRecDepth 65536 in
set_option maxHeartbeats 40000000 in
theorem rmE2 (l : Launch) (Z : State) (a0 : Array Value) (hw : ∀ d ∈ tables_1, d.before a0 Z = true) (ws : List Jvm.Cond) (x : Addr) (b : Addr) (h0 : Heap) (n0 : Nat) (Z0 : n0 ≤ h0.size) (E1 : Exa Z h0 x "java/lang/String") (F1 : Fld Z h0 x "java/lang/String" "value" "[B" .null) (F2 : Fld Z h0 x "java/lang/String" "coder" "B" (.int (0 : Int32))) (ge1 : n0 ≤ x) :
    MetFree l (⟨"java/lang/String", "<init>", "([CIILjava/lang/Void;)V"⟩ : MethodName) (head1 (Jvm.Cond.code (⟨"java/lang/String", "<init>", "([CIILjava/lang/Void;)V"⟩ : MethodName) jdk_42_method_149_code 6 none :: ws) ({ frames := 1, cells := 4, slots := 8, locals := 12 } : Room)) (fun a U => a = #[(.ref x), (.ref b), (.int (0 : Int32)), (.int (0 : Int32)), .null] ∧ Z.Warmed39 U.vm ∧ U.heap = h0 ∧ CHv Z EL U.vm h0) (fun _ _ _ _ _ => True) (fun _ U o U' => ∃ v L, o = .returned v ∧ QE Z x h0 n0 v U'.heap L ∧ CHr Z EL U.vm U.heap U'.vm U'.heap ∧ ReturnedEndW U o U' L ({ frames := 1, cells := 4, slots := 8, locals := 12 } : Room).cells ({ frames := 1, cells := 4, slots := 8, locals := 12 } : Room).slots) := by
  refine MetFree.of_bodySF (plainFor_of_name own_pn_rmE2) hisR ?_
  intro p e s m args below meth c s₁ Bd hml0 hP hK
  obtain ⟨hargs, hZ, hh, hC0⟩ := hP
  have hx := Bd.exec
  have hby := Bd.bytes
  have hml : c.maxLocals = 6 := hml0
  have hown : s.vm.findClass "java/lang/String" = some m.cls := findClass_of_methodNamed Bd.named
  have hnm := (name_of_methodNamed Bd.named Bd.method).1
  have hlock : meth.locks = false := Bd.notSynchronized
  have hret0 := Bd.returns
  have hZ : Z.Warmed39 (s.setVm s.vm).vm := hZ
  have hown : (s.setVm s.vm).vm.findClass "java/lang/String" = some m.cls := hown
  have hEL := own_EL hw
  have hwS := own_wS hw
  have C0 := CHr.refl hC0
  have X0 : Stand p l e ({ frames := 1, cells := 4, slots := 8, locals := 12 } : Room) (s.setVm s.vm) m args below meth c s₁ [] 0 0 := Stand.of_body Bd
  have e0 : s₁.heap = h0 := by rw [← hh, Bd.state]; rfl
  have N0 := Fr.nil n0
  have pre0 : ∀ t, Steps p.tables e below (s₁.setTop (mkF m 0 #[.val (.ref x), .val (.ref b), .val (.int (0 : Int32)), .val (.int (0 : Int32)), .val .null, .unset] [])) t → Steps p.tables e below (s₁.setTop (entryFrame m args 6)) t := fun t k => castTop (by rw [hargs]; exact own_ef_rmE2 m x b) k
  have hS0 := (State.WarmedH.refl s).since 0
  clear Bd
  obtain ⟨T1, X1, e1, st1⟩ := initO X0 hx hZ hown (hw _ (List.mem_of_getElem? (i := 15) rfl)) (hw _ (List.mem_of_getElem? (i := 16) rfl)) (hw _ (List.mem_of_getElem? (i := 17) rfl)) e0 (g := (mkF m 1 #[.val (.ref x), .val (.ref b), .val (.int (0 : Int32)), .val (.int (0 : Int32)), .val .null, .unset] [(.ref x)])) rfl (by rw [hml]; rfl) rfl (hb hby d3_1) (by decide) (W := 0) (by show 2 * 0 + _ ≤ _; exact Nat.le_of_eq rfl) (by decide)
  obtain ⟨a2, T2, h2, k12, b2, kl2, X2, e2, E2, hS2, hkk2, hZ2, hown2, fe2, fc2, fv2, fa2, la2, lb2, CR2, hL2, hne2, st2⟩ := ldcCH (s := s) (vm0 := s.vm) X1 hx hZ hown (hw _ (List.mem_of_getElem? (i := 18) rfl)) hwS e1 hS0 (Nat.zero_le _) hEL (own_mem18) C0.1 (vs := ([] : List Value)) (z := (0 : Int32)) ⟨by decide, by decide⟩ (by decide) rfl (g := (mkF m 9 #[.val (.ref x), .val (.ref b), .val (.int (0 : Int32)), .val (.int (0 : Int32)), .val .null, .unset] [(.ref x)])) rfl (hb hby d3_9) (n := 0) (by decide) (by decide) (by decide) (by decide)
  have Z3 : n0 ≤ h2.size := Nat.le_trans Z0 E2.1
  have K4 : Keep h0 h2 [x] := (Keep.refl h0 [x]).ext E2
  have C5 := (C0.trans CR2)
  have sx2 := (CR2.safe E1.lt (own_safeNull (a0 := a0) hZ.alike E1 F1))
  obtain ⟨T6, X6, e6, st6⟩ := getF X2 hx hZ2 hown2 (host := "") (Or.inl (hw _ (List.mem_of_getElem? (i := 24) rfl))) Via.refl e2 fv2 (g := (mkF m 11 #[.val (.ref x), .val (.ref b), .val (.int (0 : Int32)), .val (.int (0 : Int32)), .val .null, .unset] [(.ref a2), (.ref x)])) rfl rfl (hb hby d3_11)
  have f7 := (F1.ext E2)
  have f8 := (E1.ext E2)
  obtain ⟨T9, h9, X9, e9, W9, st9⟩ := putF X6 hx hZ2 hown2 (host := "") (Or.inl (hw _ (List.mem_of_getElem? (i := 24) rfl))) Via.refl e6 f7 f8 (Or.inr ⟨(hw _ (List.mem_of_getElem? (i := 20) rfl)), rfl, hnm⟩) (hw _ (List.mem_of_getElem? (i := 6) rfl)) (ty := (.array .byte)) (by decide) rfl rfl (g := (mkF m 14 #[.val (.ref x), .val (.ref b), .val (.int (0 : Int32)), .val (.int (0 : Int32)), .val .null, .unset] [(.ref b2), (.ref x)])) rfl rfl (hb hby d3_14)
  have Z10 : n0 ≤ h9.size := Nat.le_trans Z3 (Keep.of_wr W9).1
  have hk11 := Nat.le_trans hkk2 ((Keep.of_wr W9).1 : _ ≤ h9.size)
  have K12 : Keep h0 h9 [x] := K4.wr W9 (Or.inl (List.mem_of_getElem? (i := 0) rfl))
  have N9 := Fr.snoc X9 N0 ge1
  have C13 := (C5.trans (CHr.wr W9 sx2 C5.1))
  have f14 := f7.same W9
  obtain ⟨a15, T15, h15, k115, b15, kl15, X15, e15, E15, hS15, hkk15, hZ15, hown15, fe15, fc15, fv15, fa15, la15, lb15, CR15, hL15, hne15, st15⟩ := ldcCH (s := s) (vm0 := T2.vm) X9 hx hZ2 hown2 (hw _ (List.mem_of_getElem? (i := 18) rfl)) hwS e9 hS2 hk11 hEL (own_mem18) C13.1 (vs := ([] : List Value)) (z := (0 : Int32)) ⟨by decide, by decide⟩ (by decide) rfl (g := (mkF m 18 #[.val (.ref x), .val (.ref b), .val (.int (0 : Int32)), .val (.int (0 : Int32)), .val .null, .unset] [(.ref x)])) rfl (hb hby d3_18) (n := 0) (by decide) (by decide) (by decide) (by decide)
  have Z16 : n0 ≤ h15.size := Nat.le_trans Z10 E15.1
  have K17 : Keep h0 h15 [x] := K12.ext E15
  have C18 := (C13.trans CR15)
  obtain ⟨T19, X19, e19, st19⟩ := getF X15 hx hZ15 hown15 (host := "") (Or.inl (hw _ (List.mem_of_getElem? (i := 25) rfl))) Via.refl e15 fc15 (g := (mkF m 20 #[.val (.ref x), .val (.ref b), .val (.int (0 : Int32)), .val (.int (0 : Int32)), .val .null, .unset] [(.ref a15), (.ref x)])) rfl rfl (hb hby d3_20)
  have f20 := (((F2.ext E2).other W9 (Or.inr (slot_ne (Or.inr (hw _ (List.mem_of_getElem? (i := 21) rfl))) (Or.inr (hw _ (List.mem_of_getElem? (i := 20) rfl))) (by decide) (t := .byte) (t' := (.array .byte)) (by decide) (by decide)))).ext E15)
  have f21 := ((f8.wr W9).ext E15)
  have hn22 : narrow .byte (.int (0 : Int32)) = .int (nar .byte (0 : Int32)) := rfl
  obtain ⟨T22, h22, X22, e22, W22, st22⟩ := putFN X19 hx hZ15 hown15 (hw _ (List.mem_of_getElem? (i := 25) rfl)) Via.refl e19 f20 f21 (Or.inr ⟨(hw _ (List.mem_of_getElem? (i := 21) rfl)), rfl, hnm⟩) (hw _ (List.mem_of_getElem? (i := 6) rfl)) (ty := .byte) (v' := (.int (nar .byte (0 : Int32)))) (by decide) rfl (fits_nar_byte _) (g := (mkF m 23 #[.val (.ref x), .val (.ref b), .val (.int (0 : Int32)), .val (.int (0 : Int32)), .val .null, .unset] [(.int (0 : Int32)), (.ref x)])) rfl rfl (hb hby d3_23)
  have Z23 : n0 ≤ h22.size := Nat.le_trans Z16 (Keep.of_wr W22).1
  have hk24 := Nat.le_trans hkk15 ((Keep.of_wr W22).1 : _ ≤ h22.size)
  have K25 : Keep h0 h22 [x] := K17.wr W22 (Or.inl (List.mem_of_getElem? (i := 0) rfl))
  have N22 := Fr.snoc X22 N9 ge1
  have C26 := (C18.trans (CHr.wr W22 (CR15.safe (f8.wr W9).lt (Safe.wr W9 sx2 C5.1 sx2)) C18.1))
  have f27 := f20.same W22
  have f28 := (((fa2.other W9 (Ne.symm (hne2 x sx2).2)).ext E15).other W22 (Ne.symm (hne2 x sx2).2))
  have f29 := (f21.wr W22)
  have f30 := ((f14.ext E15).other W22 (Or.inr (slot_ne (Or.inr (hw _ (List.mem_of_getElem? (i := 20) rfl))) (Or.inr (hw _ (List.mem_of_getElem? (i := 21) rfl))) (by decide) (t := (.array .byte)) (t' := .byte) (by decide) (by decide))))
  obtain ⟨fs, hr, hrun, hended, hW⟩ := Stand.leaveW (s := s) (vm₁ := T15.vm) X22 hS15 (by rw [e22]; exact hk24) (v := none) (fun _ => rfl)
  refine ⟨_, _, pre0 _ ?_, hrun, hended, _, _, rfl, ?_, own_chr (T := T22) hh e22 (C26.trans (CHv.at (s := s) (vm0 := T15.vm) X22 hZ15 hEL C26.1)), own_wmono hW (by decide) (by decide)⟩
  · show Steps p.tables e below (s₁.setTop (mkF m 0 #[.val (.ref x), .val (.ref b), .val (.int (0 : Int32)), .val (.int (0 : Int32)), .val .null, .unset] [])) _
    refine XS.aloadN X0.here hx rfl (hb hby d3_0) rfl rfl ?_
    show Steps p.tables e below (s₁.setTop (mkF m 1 #[.val (.ref x), .val (.ref b), .val (.int (0 : Int32)), .val (.int (0 : Int32)), .val .null, .unset] [(.ref x)])) _
    refine st1 _ ?_
    show Steps p.tables e below (T1.setTop (mkF m 4 #[.val (.ref x), .val (.ref b), .val (.int (0 : Int32)), .val (.int (0 : Int32)), .val .null, .unset] [])) _
    refine XS.iloadN X1.here hx rfl (hb hby d3_4) rfl ?_
    show Steps p.tables e below (T1.setTop (mkF m 5 #[.val (.ref x), .val (.ref b), .val (.int (0 : Int32)), .val (.int (0 : Int32)), .val .null, .unset] [(.int (0 : Int32))])) _
    refine XS.ifNo X1.here hx rfl (hb hby d3_5) rfl ((if0 _ _).trans (teq rfl).2) ?_
    show Steps p.tables e below (T1.setTop (mkF m 8 #[.val (.ref x), .val (.ref b), .val (.int (0 : Int32)), .val (.int (0 : Int32)), .val .null, .unset] [])) _
    refine XS.aloadN X1.here hx rfl (hb hby d3_8) rfl rfl ?_
    show Steps p.tables e below (T1.setTop (mkF m 9 #[.val (.ref x), .val (.ref b), .val (.int (0 : Int32)), .val (.int (0 : Int32)), .val .null, .unset] [(.ref x)])) _
    refine st2 _ ?_
    show Steps p.tables e below (T2.setTop (mkF m 11 #[.val (.ref x), .val (.ref b), .val (.int (0 : Int32)), .val (.int (0 : Int32)), .val .null, .unset] [(.ref a2), (.ref x)])) _
    refine st6 _ ?_
    show Steps p.tables e below (T6.setTop (mkF m 14 #[.val (.ref x), .val (.ref b), .val (.int (0 : Int32)), .val (.int (0 : Int32)), .val .null, .unset] [(.ref b2), (.ref x)])) _
    refine st9 _ ?_
    show Steps p.tables e below (T9.setTop (mkF m 17 #[.val (.ref x), .val (.ref b), .val (.int (0 : Int32)), .val (.int (0 : Int32)), .val .null, .unset] [])) _
    refine XS.aloadN X9.here hx rfl (hb hby d3_17) rfl rfl ?_
    show Steps p.tables e below (T9.setTop (mkF m 18 #[.val (.ref x), .val (.ref b), .val (.int (0 : Int32)), .val (.int (0 : Int32)), .val .null, .unset] [(.ref x)])) _
    refine st15 _ ?_
    show Steps p.tables e below (T15.setTop (mkF m 20 #[.val (.ref x), .val (.ref b), .val (.int (0 : Int32)), .val (.int (0 : Int32)), .val .null, .unset] [(.ref a15), (.ref x)])) _
    refine st19 _ ?_
    show Steps p.tables e below (T19.setTop (mkF m 23 #[.val (.ref x), .val (.ref b), .val (.int (0 : Int32)), .val (.int (0 : Int32)), .val .null, .unset] [(.int (0 : Int32)), (.ref x)])) _
    refine st22 _ ?_
    show Steps p.tables e below (T22.setTop (mkF m 26 #[.val (.ref x), .val (.ref b), .val (.int (0 : Int32)), .val (.int (0 : Int32)), .val .null, .unset] [])) _
    exact X22.returnOut hx hret0 (hb hby d3_26) hr
  · show QE Z x h0 n0 _ T22.heap _
    rw [e22]
    exact ⟨rfl, N22, K25, by decide, by decide, f29, own_nbyte0 ▸ f27, b2, kl2, f30, f28⟩
theorem d2_0 : decode jdk_42_method_3_code 0 = .ok (.aload_n 0, 1) := by decide +kernel
theorem d2_1 : decode jdk_42_method_3_code 1 = .ok (.aload_n 1, 1) := by decide +kernel
theorem d2_2 : decode jdk_42_method_3_code 2 = .ok (.iconst 0, 1) := by decide +kernel
theorem d2_3 : decode jdk_42_method_3_code 3 = .ok (.aload_n 1, 1) := by decide +kernel
theorem d2_4 : decode jdk_42_method_3_code 4 = .ok (.arraylength, 1) := by decide +kernel
theorem d2_5 : decode jdk_42_method_3_code 5 = .ok (.aconst_null, 1) := by decide +kernel
theorem d2_6 : decode jdk_42_method_3_code 6 = .ok (.invokespecial 27, 3) := by decide +kernel
theorem d2_9 : decode jdk_42_method_3_code 9 = .ok (.return_, 1) := by decide +kernel
theorem own_pn_rmE1 : plainName "java/lang/String" = true := by first | (simp [plainName, overriddenIn]; done) | decide +kernel
theorem own_ef_rmE1 (m : MethodId) (x : Addr) (b : Addr) : entryFrame m #[(.ref x), (.ref b)] 2 = (mkF m 0 #[.val (.ref x), .val (.ref b)] []) := by first | (simp [entryFrame, mkF, argsToLocals, Value.category]; done) | rfl
set_option maxRecDepth 65536 in
set_option maxHeartbeats 40000000 in
theorem rmE1 (l : Launch) (Z : State) (a0 : Array Value) (hw : ∀ d ∈ tables_1, d.before a0 Z = true) (ws : List Jvm.Cond) (x : Addr) (b : Addr) (kb : ClassId) (h0 : Heap) (n0 : Nat) (Z0 : n0 ≤ h0.size) (E1 : Exa Z h0 x "java/lang/String") (F1 : Fld Z h0 x "java/lang/String" "value" "[B" .null) (F2 : Fld Z h0 x "java/lang/String" "coder" "B" (.int (0 : Int32))) (ge1 : n0 ≤ x) (VB : Arv Z h0 b kb .char (0 : Int32) [] (.int (0 : Int32))) :
    MetFree l (⟨"java/lang/String", "<init>", "([C)V"⟩ : MethodName) (head1 (Jvm.Cond.code (⟨"java/lang/String", "<init>", "([C)V"⟩ : MethodName) jdk_42_method_3_code 2 none :: ws) ({ frames := 2, cells := 4, slots := 8, locals := 29 } : Room)) (fun a U => a = #[(.ref x), (.ref b)] ∧ Z.Warmed39 U.vm ∧ U.heap = h0 ∧ CHv Z EL U.vm h0) (fun _ _ _ _ _ => True) (fun _ U o U' => ∃ v L, o = .returned v ∧ QE Z x h0 n0 v U'.heap L ∧ CHr Z EL U.vm U.heap U'.vm U'.heap ∧ ReturnedEndW U o U' L ({ frames := 2, cells := 4, slots := 8, locals := 29 } : Room).cells ({ frames := 2, cells := 4, slots := 8, locals := 29 } : Room).slots) := by
  refine MetFree.of_bodySF (plainFor_of_name own_pn_rmE1) hisR ?_
  intro p e s m args below meth c s₁ Bd hml0 hP hK
  obtain ⟨hargs, hZ, hh, hC0⟩ := hP
  have hx := Bd.exec
  have hby := Bd.bytes
  have hml : c.maxLocals = 2 := hml0
  have hown : s.vm.findClass "java/lang/String" = some m.cls := findClass_of_methodNamed Bd.named
  have hnm := (name_of_methodNamed Bd.named Bd.method).1
  have hlock : meth.locks = false := Bd.notSynchronized
  have hret0 := Bd.returns
  have hZ : Z.Warmed39 (s.setVm s.vm).vm := hZ
  have hown : (s.setVm s.vm).vm.findClass "java/lang/String" = some m.cls := hown
  have hEL := own_EL hw
  have hwS := own_wS hw
  have C0 := CHr.refl hC0
  have X0 : Stand p l e ({ frames := 2, cells := 4, slots := 8, locals := 29 } : Room) (s.setVm s.vm) m args below meth c s₁ [] 0 0 := Stand.of_body Bd
  have e0 : s₁.heap = h0 := by rw [← hh, Bd.state]; rfl
  have N0 := Fr.nil n0
  have pre0 : ∀ t, Steps p.tables e below (s₁.setTop (mkF m 0 #[.val (.ref x), .val (.ref b)] [])) t → Steps p.tables e below (s₁.setTop (entryFrame m args 2)) t := fun t k => castTop (by rw [hargs]; exact own_ef_rmE1 m x b) k
  have hS0 := (State.WarmedH.refl s).since 0
  clear Bd
  obtain ⟨cl31, Ar31, -, S31, M31, -, -⟩ := id VB
  obtain ⟨v32, vmx32, ⟨T32, L32, k32, n32⟩, -, Xq32, hSq32, hgr32, ⟨Lc32, hQ32, l32, y32, z32, CR32⟩, st32⟩ := X0.specialBackS hx (y := (⟨"java/lang/String", "<init>", "([CIILjava/lang/Void;)V"⟩ : MethodName)) rfl hown (mvT hZ (hw _ (List.mem_of_getElem? (i := 11) rfl))) (mvT hZ (hw _ (List.mem_of_getElem? (i := 12) rfl))) (mvT hZ (hw _ (List.mem_of_getElem? (i := 14) rfl))) (by decide) (backOfSH (s := s) (vm0 := s.vm) (W := 0) (rmE2 l Z a0 hw [] x b h0 n0 Z0 E1 F1 F2 ge1) hZ (hw _ (List.mem_of_getElem? (i := 14) rfl)) (hw _ (List.mem_of_getElem? (i := 7) rfl)) (by decide) (by decide) hEL C0.1) (g := (mkF m 6 #[.val (.ref x), .val (.ref b)] [.null, (.int (0 : Int32)), (.int (0 : Int32)), (.ref b), (.ref x)])) rfl (by rw [hml]; rfl) (Steps.refl _) (a := x) (argsL := [(.ref b), (.int (0 : Int32)), (.int (0 : Int32)), .null]) (rest := []) (lenOf own_pd0 rfl) rfl (by show 2 * 0 + _ ≤ _; exact Nat.le_of_eq rfl) (hb hby d2_6) (fun _ _ => ⟨rfl, e0, (by decide : 0 + 4 ≤ _), (by decide : 0 + 8 ≤ _)⟩)
  dsimp only [Pt.U, Pt.locs, Pt.cells, Pt.slots] at Xq32 hSq32 hgr32 l32 y32 z32 st32 hQ32 CR32
  subst l32 y32 z32
  obtain ⟨X32, hS32, hZ32, hown32⟩ := rebS (s := s) (vm0 := s.vm) hS0 (by rw [e0]; exact (Nat.zero_le _)) Xq32 hSq32 hgr32 hZ hown
  obtain ⟨rfl, Nq32, K32, S32⟩ := hQ32
  have N32 := Fr.app N0 Nq32
  have Z33 : n0 ≤ T32.heap.size := Nat.le_trans Z0 K32.1
  have K34 : Keep h0 T32.heap [x] := (Keep.refl h0 [x]).trans K32 (allS (Or.inl (List.mem_of_getElem? (i := 0) rfl)) all0)
  have C35 := (C0.trans CR32)
  obtain ⟨fs, hr, hrun, hended, hW⟩ := Stand.leaveW (s := s) (vm₁ := T32.vm) X32 hS32 (by rw [show T32.heap = _ from rfl]; exact (Nat.le_refl _)) (v := none) (fun _ => rfl)
  refine ⟨_, _, pre0 _ ?_, hrun, hended, _, _, rfl, ?_, own_chr (T := T32) hh rfl (C35.trans (CHv.at (s := s) (vm0 := T32.vm) X32 hZ32 hEL C35.1)), own_wmono hW (by decide) (by decide)⟩
  · show Steps p.tables e below (s₁.setTop (mkF m 0 #[.val (.ref x), .val (.ref b)] [])) _
    refine XS.aloadN X0.here hx rfl (hb hby d2_0) rfl rfl ?_
    show Steps p.tables e below (s₁.setTop (mkF m 1 #[.val (.ref x), .val (.ref b)] [(.ref x)])) _
    refine XS.aloadN X0.here hx rfl (hb hby d2_1) rfl rfl ?_
    show Steps p.tables e below (s₁.setTop (mkF m 2 #[.val (.ref x), .val (.ref b)] [(.ref b), (.ref x)])) _
    refine XS.iconst X0.here hx rfl (hb hby d2_2) ?_
    show Steps p.tables e below (s₁.setTop (mkF m 3 #[.val (.ref x), .val (.ref b)] [(.int (0 : Int32)), (.ref b), (.ref x)])) _
    refine XS.aloadN X0.here hx rfl (hb hby d2_3) rfl rfl ?_
    show Steps p.tables e below (s₁.setTop (mkF m 4 #[.val (.ref x), .val (.ref b)] [(.ref b), (.int (0 : Int32)), (.ref b), (.ref x)])) _
    refine X0.arraylength hx (by rw [e0]; exact Ar31.1) (State.isArrayOf_alike hZ.alike Ar31.2.1) (g := (mkF m 4 #[.val (.ref x), .val (.ref b)] [(.ref b), (.int (0 : Int32)), (.ref b), (.ref x)])) rfl rfl (hb hby d2_4) _ ?_
    rw [len_of S31 M31]
    show Steps p.tables e below (s₁.setTop (mkF m 5 #[.val (.ref x), .val (.ref b)] [(.int (0 : Int32)), (.int (0 : Int32)), (.ref b), (.ref x)])) _
    refine XS.aconstNull X0.here hx rfl (hb hby d2_5) ?_
    show Steps p.tables e below (s₁.setTop (mkF m 6 #[.val (.ref x), .val (.ref b)] [.null, (.int (0 : Int32)), (.int (0 : Int32)), (.ref b), (.ref x)])) _
    refine st32.trans ?_
    show Steps p.tables e below (T32.setTop (mkF m 9 #[.val (.ref x), .val (.ref b)] [])) _
    exact X32.returnOut hx hret0 (hb hby d2_9) hr
  · show QE Z x h0 n0 _ T32.heap _
    exact ⟨rfl, N32, K34, S32⟩
theorem d22_0 : decode jdk_29_method_69_code 0 = .ok (.iload_n 0, 1) := by decide +kernel
theorem d22_1 : decode jdk_29_method_69_code 1 = .ok (.iload_n 1, 1) := by decide +kernel
theorem d22_2 : decode jdk_29_method_69_code 2 = .ok (.if_icmp .gt 7, 3) := by decide +kernel
theorem d22_5 : decode jdk_29_method_69_code 5 = .ok (.iload_n 0, 1) := by decide +kernel
theorem d22_6 : decode jdk_29_method_69_code 6 = .ok (.goto 4, 3) := by decide +kernel
theorem d22_9 : decode jdk_29_method_69_code 9 = .ok (.iload_n 1, 1) := by decide +kernel
theorem d22_10 : decode jdk_29_method_69_code 10 = .ok (.ireturn, 1) := by decide +kernel
def QMin (p0 p1 : Int32) (h0 : Heap) (n0 : Nat) (v : Option Value) (h : Heap) (L : List Loc) : Prop := v = some (.int (if p1 < p0 then p1 else p0)) ∧ Fr n0 L ∧ h = h0
theorem own_ef_rmMin (m : MethodId) (p0 : Int32) (p1 : Int32) : entryFrame m #[(.int p0), (.int p1)] 2 = (mkF m 0 #[.val (.int p0), .val (.int p1)] []) := by first | (simp [entryFrame, mkF, argsToLocals, Value.category]; done) | rfl
set_option maxRecDepth 65536 in
set_option maxHeartbeats 40000000 in
theorem rmMin (l : Launch) (Z : State) (a0 : Array Value) (hw : ∀ d ∈ tables_1, d.before a0 Z = true) (ws : List Jvm.Cond) (p0 : Int32) (p1 : Int32) (h0 : Heap) (n0 : Nat) (Z0 : n0 ≤ h0.size) :
    MetFree l (⟨"java/lang/Math", "min", "(II)I"⟩ : MethodName) (head1 (Jvm.Cond.code (⟨"java/lang/Math", "min", "(II)I"⟩ : MethodName) jdk_29_method_69_code 2 (some .int) :: ws) ({ frames := 0, cells := 0, slots := 0, locals := 0 } : Room)) (fun a U => a = #[(.int p0), (.int p1)] ∧ Z.Warmed39 U.vm ∧ U.heap = h0) (fun _ _ _ _ _ => True) (fun _ U o U' => ∃ v L, o = .returned v ∧ QMin p0 p1 h0 n0 v U'.heap L ∧ FrameEnd U o U' L ({ frames := 0, cells := 0, slots := 0, locals := 0 } : Room).cells ({ frames := 0, cells := 0, slots := 0, locals := 0 } : Room).slots) := by
  refine MetFree.of_bodySF (Jvm.Free.JP.mathPlain rfl (by decide +kernel)) hisR ?_
  intro p e s m args below meth c s₁ Bd hml0 hP hK
  obtain ⟨hargs, hZ, hh⟩ := hP
  have hx := Bd.exec
  have hby := Bd.bytes
  have hml : c.maxLocals = 2 := hml0
  have hown : s.vm.findClass "java/lang/Math" = some m.cls := findClass_of_methodNamed Bd.named
  have hnm := (name_of_methodNamed Bd.named Bd.method).1
  have hlock : meth.locks = false := Bd.notSynchronized
  have hret0 := Bd.returns
  have X0 : Stand p l e ({ frames := 0, cells := 0, slots := 0, locals := 0 } : Room) s m args below meth c s₁ [] 0 0 := Stand.of_body Bd
  have e0 : s₁.heap = h0 := by rw [← hh, Bd.state]; rfl
  have N0 := Fr.nil n0
  have pre0 : ∀ t, Steps p.tables e below (s₁.setTop (mkF m 0 #[.val (.int p0), .val (.int p1)] [])) t → Steps p.tables e below (s₁.setTop (entryFrame m args 2)) t := fun t k => castTop (by rw [hargs]; exact own_ef_rmMin m p0 p1) k
  clear Bd
  by_cases hc : p1 < p0
  · skip
    obtain ⟨fs, hr, hrun, hended, hW, hsame⟩ := X0.leave (v := some (.int p1)) (fun h => by rw [hret0] at h; cases h)
    refine ⟨_, _, pre0 _ ?_, hrun, hended, _, _, rfl, ?_, ⟨_, rfl⟩, hW, hsame.mono (by decide) (by decide)⟩
    · show Steps p.tables e below (s₁.setTop (mkF m 0 #[.val (.int p0), .val (.int p1)] [])) _
      refine XS.iloadN X0.here hx rfl (hb hby d22_0) rfl ?_
      show Steps p.tables e below (s₁.setTop (mkF m 1 #[.val (.int p0), .val (.int p1)] [(.int p0)])) _
      refine XS.iloadN X0.here hx rfl (hb hby d22_1) rfl ?_
      show Steps p.tables e below (s₁.setTop (mkF m 2 #[.val (.int p0), .val (.int p1)] [(.int p1), (.int p0)])) _
      refine XS.icmpYes X0.here hx rfl (pc0 := 2) (pc' := 9) rfl (hb hby d22_2) rfl (tlt hc).2.2.1 (by decide) (by decide) ?_
      show Steps p.tables e below (s₁.setTop (mkF m 9 #[.val (.int p0), .val (.int p1)] [])) _
      refine XS.iloadN X0.here hx rfl (hb hby d22_9) rfl ?_
      show Steps p.tables e below (s₁.setTop (mkF m 10 #[.val (.int p0), .val (.int p1)] [(.int p1)])) _
      exact retI X0 hx hret0 (hb hby d22_10) hr
    · show QMin p0 p1 h0 n0 _ s₁.heap _
      rw [e0]
      exact ⟨by rw [if_pos hc], N0, rfl⟩
  · skip
    obtain ⟨fs, hr, hrun, hended, hW, hsame⟩ := X0.leave (v := some (.int p0)) (fun h => by rw [hret0] at h; cases h)
    refine ⟨_, _, pre0 _ ?_, hrun, hended, _, _, rfl, ?_, ⟨_, rfl⟩, hW, hsame.mono (by decide) (by decide)⟩
    · show Steps p.tables e below (s₁.setTop (mkF m 0 #[.val (.int p0), .val (.int p1)] [])) _
      refine XS.iloadN X0.here hx rfl (hb hby d22_0) rfl ?_
      show Steps p.tables e below (s₁.setTop (mkF m 1 #[.val (.int p0), .val (.int p1)] [(.int p0)])) _
      refine XS.iloadN X0.here hx rfl (hb hby d22_1) rfl ?_
      show Steps p.tables e below (s₁.setTop (mkF m 2 #[.val (.int p0), .val (.int p1)] [(.int p1), (.int p0)])) _
      refine XS.icmpNo X0.here hx rfl (hb hby d22_2) rfl (flt hc).2.2.1 ?_
      show Steps p.tables e below (s₁.setTop (mkF m 5 #[.val (.int p0), .val (.int p1)] [])) _
      refine XS.iloadN X0.here hx rfl (hb hby d22_5) rfl ?_
      show Steps p.tables e below (s₁.setTop (mkF m 6 #[.val (.int p0), .val (.int p1)] [(.int p0)])) _
      refine XS.goto X0.here hx rfl (pc0 := 6) (pc' := 10) rfl (hb hby d22_6) (by decide) (by decide) ?_
      show Steps p.tables e below (s₁.setTop (mkF m 10 #[.val (.int p0), .val (.int p1)] [(.int p0)])) _
      exact retI X0 hx hret0 (hb hby d22_10) hr
    · show QMin p0 p1 h0 n0 _ s₁.heap _
      rw [e0]
      exact ⟨by rw [if_neg hc], N0, rfl⟩
theorem d16_0 : decode jdk_41_method_12_code 0 = .ok (.iload_n 0, 1) := by decide +kernel
theorem d16_1 : decode jdk_41_method_12_code 1 = .ok (.ifCond .lt 13, 3) := by decide +kernel
theorem d16_4 : decode jdk_41_method_12_code 4 = .ok (.iload_n 0, 1) := by decide +kernel
theorem d16_5 : decode jdk_41_method_12_code 5 = .ok (.iload_n 1, 1) := by decide +kernel
theorem d16_6 : decode jdk_41_method_12_code 6 = .ok (.if_icmp .gt 8, 3) := by decide +kernel
theorem d16_9 : decode jdk_41_method_12_code 9 = .ok (.iload_n 1, 1) := by decide +kernel
theorem d16_10 : decode jdk_41_method_12_code 10 = .ok (.iload_n 2, 1) := by decide +kernel
theorem d16_11 : decode jdk_41_method_12_code 11 = .ok (.if_icmp .le 11, 3) := by decide +kernel
theorem d16_22 : decode jdk_41_method_12_code 22 = .ok (.iload_n 0, 1) := by decide +kernel
theorem d16_23 : decode jdk_41_method_12_code 23 = .ok (.ireturn, 1) := by decide +kernel
def QCft (p0 : Int32) (h0 : Heap) (n0 : Nat) (v : Option Value) (h : Heap) (L : List Loc) : Prop := v = some (.int p0) ∧ Fr n0 L ∧ h = h0
theorem own_pn_rmCft : plainName "jdk/internal/util/Preconditions" = true := by first | (simp [plainName, overriddenIn]; done) | decide +kernel
theorem own_ef_rmCft (m : MethodId) (p0 : Int32) (p1 : Int32) (p2 : Int32) (v3 : Value) (h_v3 : v3.isRef = true) : entryFrame m #[(.int p0), (.int p1), (.int p2), v3] 4 = (mkF m 0 #[.val (.int p0), .val (.int p1), .val (.int p2), .val v3] []) := by rcases ref_cases h_v3 with rfl | ⟨_, rfl⟩ <;> first | (simp [entryFrame, mkF, argsToLocals, Value.category]; done) | rfl
set_option maxRecDepth 65536 in
set_option maxHeartbeats 40000000 in
theorem rmCft (l : Launch) (Z : State) (a0 : Array Value) (hw : ∀ d ∈ tables_1, d.before a0 Z = true) (ws : List Jvm.Cond) (p0 : Int32) (p1 : Int32) (p2 : Int32) (v3 : Value) (h0 : Heap) (n0 : Nat) (Z0 : n0 ≤ h0.size) (h3 : v3.isRef = true) (q1 : ¬ p0 < 0) (q2 : ¬ p1 < p0) (q3 : ¬ p2 < p1) :
    MetFree l (⟨"jdk/internal/util/Preconditions", "checkFromToIndex", "(IIILjava/util/function/BiFunction;)I"⟩ : MethodName) (head1 (Jvm.Cond.code (⟨"jdk/internal/util/Preconditions", "checkFromToIndex", "(IIILjava/util/function/BiFunction;)I"⟩ : MethodName) jdk_41_method_12_code 4 (some .int) :: ws) ({ frames := 0, cells := 0, slots := 0, locals := 0 } : Room)) (fun a U => a = #[(.int p0), (.int p1), (.int p2), v3] ∧ Z.Warmed39 U.vm ∧ U.heap = h0) (fun _ _ _ _ _ => True) (fun _ U o U' => ∃ v L, o = .returned v ∧ QCft p0 h0 n0 v U'.heap L ∧ FrameEnd U o U' L ({ frames := 0, cells := 0, slots := 0, locals := 0 } : Room).cells ({ frames := 0, cells := 0, slots := 0, locals := 0 } : Room).slots) := by
  refine MetFree.of_bodySF (plainFor_of_name own_pn_rmCft) hisR ?_
  intro p e s m args below meth c s₁ Bd hml0 hP hK
  obtain ⟨hargs, hZ, hh⟩ := hP
  have hx := Bd.exec
  have hby := Bd.bytes
  have hml : c.maxLocals = 4 := hml0
  have hown : s.vm.findClass "jdk/internal/util/Preconditions" = some m.cls := findClass_of_methodNamed Bd.named
  have hnm := (name_of_methodNamed Bd.named Bd.method).1
  have hlock : meth.locks = false := Bd.notSynchronized
  have hret0 := Bd.returns
  have X0 : Stand p l e ({ frames := 0, cells := 0, slots := 0, locals := 0 } : Room) s m args below meth c s₁ [] 0 0 := Stand.of_body Bd
  have e0 : s₁.heap = h0 := by rw [← hh, Bd.state]; rfl
  have N0 := Fr.nil n0
  have pre0 : ∀ t, Steps p.tables e below (s₁.setTop (mkF m 0 #[.val (.int p0), .val (.int p1), .val (.int p2), .val v3] [])) t → Steps p.tables e below (s₁.setTop (entryFrame m args 4)) t := fun t k => castTop (by rw [hargs]; exact own_ef_rmCft m p0 p1 p2 v3 h3) k
  clear Bd
  obtain ⟨fs, hr, hrun, hended, hW, hsame⟩ := X0.leave (v := some (.int p0)) (fun h => by rw [hret0] at h; cases h)
  refine ⟨_, _, pre0 _ ?_, hrun, hended, _, _, rfl, ?_, ⟨_, rfl⟩, hW, hsame.mono (by decide) (by decide)⟩
  · show Steps p.tables e below (s₁.setTop (mkF m 0 #[.val (.int p0), .val (.int p1), .val (.int p2), .val v3] [])) _
    refine XS.iloadN X0.here hx rfl (hb hby d16_0) rfl ?_
    show Steps p.tables e below (s₁.setTop (mkF m 1 #[.val (.int p0), .val (.int p1), .val (.int p2), .val v3] [(.int p0)])) _
    refine XS.ifNo X0.here hx rfl (hb hby d16_1) rfl ((if0 _ _).trans (flt q1).1) ?_
    show Steps p.tables e below (s₁.setTop (mkF m 4 #[.val (.int p0), .val (.int p1), .val (.int p2), .val v3] [])) _
    refine XS.iloadN X0.here hx rfl (hb hby d16_4) rfl ?_
    show Steps p.tables e below (s₁.setTop (mkF m 5 #[.val (.int p0), .val (.int p1), .val (.int p2), .val v3] [(.int p0)])) _
    refine XS.iloadN X0.here hx rfl (hb hby d16_5) rfl ?_
    show Steps p.tables e below (s₁.setTop (mkF m 6 #[.val (.int p0), .val (.int p1), .val (.int p2), .val v3] [(.int p1), (.int p0)])) _
    refine XS.icmpNo X0.here hx rfl (hb hby d16_6) rfl (flt q2).2.2.1 ?_
    show Steps p.tables e below (s₁.setTop (mkF m 9 #[.val (.int p0), .val (.int p1), .val (.int p2), .val v3] [])) _
    refine XS.iloadN X0.here hx rfl (hb hby d16_9) rfl ?_
    show Steps p.tables e below (s₁.setTop (mkF m 10 #[.val (.int p0), .val (.int p1), .val (.int p2), .val v3] [(.int p1)])) _
    refine XS.iloadN X0.here hx rfl (hb hby d16_10) rfl ?_
    show Steps p.tables e below (s₁.setTop (mkF m 11 #[.val (.int p0), .val (.int p1), .val (.int p2), .val v3] [(.int p2), (.int p1)])) _
    refine XS.icmpYes X0.here hx rfl (pc0 := 11) (pc' := 22) rfl (hb hby d16_11) rfl (flt q3).2.2.2 (by decide) (by decide) ?_
    show Steps p.tables e below (s₁.setTop (mkF m 22 #[.val (.int p0), .val (.int p1), .val (.int p2), .val v3] [])) _
    refine XS.iloadN X0.here hx rfl (hb hby d16_22) rfl ?_
    show Steps p.tables e below (s₁.setTop (mkF m 23 #[.val (.int p0), .val (.int p1), .val (.int p2), .val v3] [(.int p0)])) _
    exact retI X0 hx hret0 (hb hby d16_23) hr
  · show QCft p0 h0 n0 _ s₁.heap _
    rw [e0]
    exact ⟨rfl, N0, rfl⟩
theorem d15_0 : decode jdk_42_method_158_code 0 = .ok (.iload_n 0, 1) := by decide +kernel
theorem d15_1 : decode jdk_42_method_158_code 1 = .ok (.iload_n 1, 1) := by decide +kernel
theorem d15_2 : decode jdk_42_method_158_code 2 = .ok (.iload_n 2, 1) := by decide +kernel
theorem d15_3 : decode jdk_42_method_158_code 3 = .ok (.getstatic 1053, 3) := by decide +kernel
theorem d15_6 : decode jdk_42_method_158_code 6 = .ok (.invokestatic 1062, 3) := by decide +kernel
theorem d15_9 : decode jdk_42_method_158_code 9 = .ok (.pop, 1) := by decide +kernel
theorem d15_10 : decode jdk_42_method_158_code 10 = .ok (.return_, 1) := by decide +kernel
def QCbe (h0 : Heap) (n0 : Nat) (v : Option Value) (h : Heap) (L : List Loc) : Prop := v = none ∧ Fr n0 L ∧ h = h0
theorem own_pn_rmCbe : plainName "java/lang/String" = true := by first | (simp [plainName, overriddenIn]; done) | decide +kernel
theorem own_ef_rmCbe (m : MethodId) (p0 : Int32) (p1 : Int32) (p2 : Int32) : entryFrame m #[(.int p0), (.int p1), (.int p2)] 3 = (mkF m 0 #[.val (.int p0), .val (.int p1), .val (.int p2)] []) := by first | (simp [entryFrame, mkF, argsToLocals, Value.category]; done) | rfl
set_option maxRecDepth 65536 in
set_option maxHeartbeats 40000000 in
theorem rmCbe (l : Launch) (Z : State) (a0 : Array Value) (hw : ∀ d ∈ tables_1, d.before a0 Z = true) (ws : List Jvm.Cond) (p0 : Int32) (p1 : Int32) (p2 : Int32) (G3 : Value) (h0 : Heap) (n0 : Nat) (Z0 : n0 ≤ h0.size) (O4 : Sta Z Z.heap "jdk/internal/util/Preconditions" "SIOOBE_FORMATTER" "Ljava/util/function/BiFunction;" G3) (rG3 : G3.isRef = true) (X00 : Old Z n0 h0) (q1 : ¬ p0 < 0) (q2 : ¬ p1 < p0) (q3 : ¬ p2 < p1) :
    MetFree l (⟨"java/lang/String", "checkBoundsBeginEnd", "(III)V"⟩ : MethodName) (head1 (Jvm.Cond.code (⟨"java/lang/String", "checkBoundsBeginEnd", "(III)V"⟩ : MethodName) jdk_42_method_158_code 3 none :: ws) ({ frames := 1, cells := 0, slots := 0, locals := 18 } : Room)) (fun a U => a = #[(.int p0), (.int p1), (.int p2)] ∧ Z.Warmed39 U.vm ∧ U.heap = h0) (fun _ _ _ _ _ => True) (fun _ U o U' => ∃ v L, o = .returned v ∧ QCbe h0 n0 v U'.heap L ∧ FrameEnd U o U' L ({ frames := 1, cells := 0, slots := 0, locals := 18 } : Room).cells ({ frames := 1, cells := 0, slots := 0, locals := 18 } : Room).slots) := by
  refine MetFree.of_bodySF (plainFor_of_name own_pn_rmCbe) hisR ?_
  intro p e s m args below meth c s₁ Bd hml0 hP hK
  obtain ⟨hargs, hZ, hh⟩ := hP
  have hx := Bd.exec
  have hby := Bd.bytes
  have hml : c.maxLocals = 3 := hml0
  have hown : s.vm.findClass "java/lang/String" = some m.cls := findClass_of_methodNamed Bd.named
  have hnm := (name_of_methodNamed Bd.named Bd.method).1
  have hlock : meth.locks = false := Bd.notSynchronized
  have hret0 := Bd.returns
  have X0 : Stand p l e ({ frames := 1, cells := 0, slots := 0, locals := 18 } : Room) s m args below meth c s₁ [] 0 0 := Stand.of_body Bd
  have e0 : s₁.heap = h0 := by rw [← hh, Bd.state]; rfl
  have N0 := Fr.nil n0
  have pre0 : ∀ t, Steps p.tables e below (s₁.setTop (mkF m 0 #[.val (.int p0), .val (.int p1), .val (.int p2)] [])) t → Steps p.tables e below (s₁.setTop (entryFrame m args 3)) t := fun t k => castTop (by rw [hargs]; exact own_ef_rmCbe m p0 p1 p2) k
  clear Bd
  obtain ⟨T36, X36, e36, st36⟩ := getS2 X0 hx hZ hown (host := "") (Or.inl (hw _ (List.mem_of_getElem? (i := 87) rfl))) Via.refl e0 (O4.ext X00.2) (g := (mkF m 3 #[.val (.int p0), .val (.int p1), .val (.int p2)] [(.int p2), (.int p1), (.int p0)])) rfl (hb hby d15_3)
  obtain ⟨v37, vmx37, ⟨T37, L37, k37, n37⟩, -, X37, ⟨Lc37, hQ37, l37, y37, z37⟩, st37⟩ := Jvm.LawKit.callS X36 hx (y := (⟨"jdk/internal/util/Preconditions", "checkFromToIndex", "(IIILjava/util/function/BiFunction;)I"⟩ : MethodName)) hown (mvT hZ (hw _ (List.mem_of_getElem? (i := 89) rfl))) (mvT hZ (hw _ (List.mem_of_getElem? (i := 90) rfl))) (mvT hZ (hw _ (List.mem_of_getElem? (i := 88) rfl))) (mvT hZ (hw _ (List.mem_of_getElem? (i := 91) rfl))) (by decide) (backOf (W := 0) (rmCft l Z a0 hw [] p0 p1 p2 G3 h0 n0 Z0 rG3 q1 q2 q3) hZ (hw _ (List.mem_of_getElem? (i := 91) rfl)) (hw _ (List.mem_of_getElem? (i := 88) rfl)) (by decide) (by decide)) (g := (mkF m 6 #[.val (.int p0), .val (.int p1), .val (.int p2)] [G3, (.int p2), (.int p1), (.int p0)])) rfl (by rw [hml]; rfl) (argsL := [(.int p0), (.int p1), (.int p2), G3]) (rest := []) (lenOf own_pd1 rfl) rfl (by show 2 * 0 + _ ≤ _; exact Nat.le_of_eq rfl) (hb hby d15_6) (fun _ _ => ⟨rfl, e36, (by decide : 0 + 0 ≤ _), (by decide : 0 + 0 ≤ _)⟩)
  dsimp only [Pt.U, Pt.locs, Pt.cells, Pt.slots] at X37 l37 y37 z37 st37 hQ37
  subst l37 y37 z37
  obtain ⟨rfl, Nq37, eh37⟩ := hQ37
  have N37 := Fr.app N0 Nq37
  obtain ⟨fs, hr, hrun, hended, hW, hsame⟩ := X37.leave (v := none) (fun _ => rfl)
  refine ⟨_, _, pre0 _ ?_, hrun, hended, _, _, rfl, ?_, ⟨_, rfl⟩, hW, hsame.mono (by decide) (by decide)⟩
  · show Steps p.tables e below (s₁.setTop (mkF m 0 #[.val (.int p0), .val (.int p1), .val (.int p2)] [])) _
    refine XS.iloadN X0.here hx rfl (hb hby d15_0) rfl ?_
    show Steps p.tables e below (s₁.setTop (mkF m 1 #[.val (.int p0), .val (.int p1), .val (.int p2)] [(.int p0)])) _
    refine XS.iloadN X0.here hx rfl (hb hby d15_1) rfl ?_
    show Steps p.tables e below (s₁.setTop (mkF m 2 #[.val (.int p0), .val (.int p1), .val (.int p2)] [(.int p1), (.int p0)])) _
    refine XS.iloadN X0.here hx rfl (hb hby d15_2) rfl ?_
    show Steps p.tables e below (s₁.setTop (mkF m 3 #[.val (.int p0), .val (.int p1), .val (.int p2)] [(.int p2), (.int p1), (.int p0)])) _
    refine st36 _ ?_
    show Steps p.tables e below (T36.setTop (mkF m 6 #[.val (.int p0), .val (.int p1), .val (.int p2)] [G3, (.int p2), (.int p1), (.int p0)])) _
    refine st37 _ ?_
    show Steps p.tables e below (T37.setTop (mkF m 9 #[.val (.int p0), .val (.int p1), .val (.int p2)] [(.int p0)])) _
    refine XS.pop X37.here hx rfl (hb hby d15_9) rfl rfl ?_
    show Steps p.tables e below (T37.setTop (mkF m 10 #[.val (.int p0), .val (.int p1), .val (.int p2)] [])) _
    exact X37.returnOut hx hret0 (hb hby d15_10) hr
  · show QCbe h0 n0 _ T37.heap _
    rw [eh37]
    exact ⟨rfl, N37, rfl⟩
theorem d17_0 : decode jdk_42_method_154_code 0 = .ok (.getstatic 38, 3) := by decide +kernel
theorem d17_3 : decode jdk_42_method_154_code 3 = .ok (.ifCond .eq 14, 3) := by decide +kernel
theorem d17_6 : decode jdk_42_method_154_code 6 = .ok (.aload_n 0, 1) := by decide +kernel
theorem d17_7 : decode jdk_42_method_154_code 7 = .ok (.getfield 15, 3) := by decide +kernel
theorem d17_10 : decode jdk_42_method_154_code 10 = .ok (.ifCond .ne 7, 3) := by decide +kernel
theorem d17_13 : decode jdk_42_method_154_code 13 = .ok (.iconst 1, 1) := by decide +kernel
theorem d17_14 : decode jdk_42_method_154_code 14 = .ok (.goto 4, 3) := by decide +kernel
theorem d17_18 : decode jdk_42_method_154_code 18 = .ok (.ireturn, 1) := by decide +kernel
def QIsL (h0 : Heap) (n0 : Nat) (v : Option Value) (h : Heap) (L : List Loc) : Prop := v = some (.int 1) ∧ Fr n0 L ∧ h = h0
theorem own_pn_rmIsL : plainName "java/lang/String" = true := by first | (simp [plainName, overriddenIn]; done) | decide +kernel
theorem own_ef_rmIsL (m : MethodId) (a1 : Addr) : entryFrame m #[(.ref a1)] 1 = (mkF m 0 #[.val (.ref a1)] []) := by first | (simp [entryFrame, mkF, argsToLocals, Value.category]; done) | rfl
set_option maxRecDepth 65536 in
set_option maxHeartbeats 40000000 in
theorem rmIsL (l : Launch) (Z : State) (a0 : Array Value) (hw : ∀ d ∈ tables_1, d.before a0 Z = true) (ws : List Jvm.Cond) (a1 : Addr) (G1 : Int32) (h0 : Heap) (n0 : Nat) (Z0 : n0 ≤ h0.size) (O2 : Sta Z Z.heap "java/lang/String" "COMPACT_STRINGS" "Z" (.int G1)) (P5 : ¬ (G1 = (0 : Int32))) (X00 : Old Z n0 h0) (F : Fld Z h0 a1 "java/lang/String" "coder" "B" (.int (0 : Int32))) :
    MetFree l (⟨"java/lang/String", "isLatin1", "()Z"⟩ : MethodName) (head1 (Jvm.Cond.code (⟨"java/lang/String", "isLatin1", "()Z"⟩ : MethodName) jdk_42_method_154_code 1 (some .boolean) :: ws) ({ frames := 0, cells := 0, slots := 0, locals := 0 } : Room)) (fun a U => a = #[(.ref a1)] ∧ Z.Warmed39 U.vm ∧ U.heap = h0) (fun _ _ _ _ _ => True) (fun _ U o U' => ∃ v L, o = .returned v ∧ QIsL h0 n0 v U'.heap L ∧ FrameEnd U o U' L ({ frames := 0, cells := 0, slots := 0, locals := 0 } : Room).cells ({ frames := 0, cells := 0, slots := 0, locals := 0 } : Room).slots) := by
  refine MetFree.of_bodySF (plainFor_of_name own_pn_rmIsL) hisR ?_
  intro p e s m args below meth c s₁ Bd hml0 hP hK
  obtain ⟨hargs, hZ, hh⟩ := hP
  have hx := Bd.exec
  have hby := Bd.bytes
  have hml : c.maxLocals = 1 := hml0
  have hown : s.vm.findClass "java/lang/String" = some m.cls := findClass_of_methodNamed Bd.named
  have hnm := (name_of_methodNamed Bd.named Bd.method).1
  have hlock : meth.locks = false := Bd.notSynchronized
  have hret0 := Bd.returns
  have X0 : Stand p l e ({ frames := 0, cells := 0, slots := 0, locals := 0 } : Room) s m args below meth c s₁ [] 0 0 := Stand.of_body Bd
  have e0 : s₁.heap = h0 := by rw [← hh, Bd.state]; rfl
  have N0 := Fr.nil n0
  have pre0 : ∀ t, Steps p.tables e below (s₁.setTop (mkF m 0 #[.val (.ref a1)] [])) t → Steps p.tables e below (s₁.setTop (entryFrame m args 1)) t := fun t k => castTop (by rw [hargs]; exact own_ef_rmIsL m a1) k
  clear Bd
  obtain ⟨T38, X38, e38, st38⟩ := getS2 X0 hx hZ hown (host := "") (Or.inl (hw _ (List.mem_of_getElem? (i := 26) rfl))) Via.refl e0 (O2.ext X00.2) (g := (mkF m 0 #[.val (.ref a1)] [])) rfl (hb hby d17_0)
  obtain ⟨T39, X39, e39, st39⟩ := getF X38 hx hZ hown (host := "") (Or.inl (hw _ (List.mem_of_getElem? (i := 25) rfl))) Via.refl e38 F (g := (mkF m 7 #[.val (.ref a1)] [(.ref a1)])) rfl rfl (hb hby d17_7)
  obtain ⟨fs, hr, hrun, hended, hW, hsame⟩ := X39.leave (v := some (.int (1 : Int32))) (fun h => by rw [hret0] at h; cases h)
  refine ⟨_, _, pre0 _ ?_, hrun, hended, _, _, rfl, ?_, ⟨_, rfl⟩, hW, hsame.mono (by decide) (by decide)⟩
  · show Steps p.tables e below (s₁.setTop (mkF m 0 #[.val (.ref a1)] [])) _
    refine st38 _ ?_
    show Steps p.tables e below (T38.setTop (mkF m 3 #[.val (.ref a1)] [(.int G1)])) _
    refine XS.ifNo X38.here hx rfl (hb hby d17_3) rfl ((if0 _ _).trans (feq P5).1) ?_
    show Steps p.tables e below (T38.setTop (mkF m 6 #[.val (.ref a1)] [])) _
    refine XS.aloadN X38.here hx rfl (hb hby d17_6) rfl rfl ?_
    show Steps p.tables e below (T38.setTop (mkF m 7 #[.val (.ref a1)] [(.ref a1)])) _
    refine st39 _ ?_
    show Steps p.tables e below (T39.setTop (mkF m 10 #[.val (.ref a1)] [(.int (0 : Int32))])) _
    refine XS.ifNo X39.here hx rfl (hb hby d17_10) rfl ((if0 _ _).trans (teq rfl).2) ?_
    show Steps p.tables e below (T39.setTop (mkF m 13 #[.val (.ref a1)] [])) _
    refine XS.iconst X39.here hx rfl (hb hby d17_13) ?_
    show Steps p.tables e below (T39.setTop (mkF m 14 #[.val (.ref a1)] [(.int (1 : Int32))])) _
    refine XS.goto X39.here hx rfl (pc0 := 14) (pc' := 18) rfl (hb hby d17_14) (by decide) (by decide) ?_
    show Steps p.tables e below (T39.setTop (mkF m 18 #[.val (.ref a1)] [(.int (1 : Int32))])) _
    exact retN X39 hx (t := .boolean) hret0 (by simp) (hb hby d17_18) hr
  · show QIsL h0 n0 _ T39.heap _
    rw [e39]
    exact ⟨rfl, N0, rfl⟩
theorem d23_0 : decode jdk_42_method_151_code 0 = .ok (.aload_n 0, 1) := by decide +kernel
theorem d23_1 : decode jdk_42_method_151_code 1 = .ok (.invokespecial 1, 3) := by decide +kernel
theorem d23_4 : decode jdk_42_method_151_code 4 = .ok (.aload_n 0, 1) := by decide +kernel
theorem d23_5 : decode jdk_42_method_151_code 5 = .ok (.aload_n 1, 1) := by decide +kernel
theorem d23_6 : decode jdk_42_method_151_code 6 = .ok (.putfield 9, 3) := by decide +kernel
theorem d23_9 : decode jdk_42_method_151_code 9 = .ok (.aload_n 0, 1) := by decide +kernel
theorem d23_10 : decode jdk_42_method_151_code 10 = .ok (.iload_n 2, 1) := by decide +kernel
theorem d23_11 : decode jdk_42_method_151_code 11 = .ok (.putfield 15, 3) := by decide +kernel
theorem d23_14 : decode jdk_42_method_151_code 14 = .ok (.return_, 1) := by decide +kernel
def QBB (Z : State) (x b : Addr) (h0 : Heap) (n0 : Nat) (v : Option Value) (h : Heap) (L : List Loc) : Prop := v = none ∧ Fr n0 L ∧ Keep h0 h [x] ∧ Exa Z h x "java/lang/String" ∧ Fld Z h x "java/lang/String" "coder" "B" (.int 0) ∧ Fld Z h x "java/lang/String" "value" "[B" (.ref b)
theorem own_pn_rmBB : plainName "java/lang/String" = true := by first | (simp [plainName, overriddenIn]; done) | decide +kernel
theorem own_ef_rmBB (m : MethodId) (x : Addr) (b : Addr) : entryFrame m #[(.ref x), (.ref b), (.int (0 : Int32))] 3 = (mkF m 0 #[.val (.ref x), .val (.ref b), .val (.int (0 : Int32))] []) := by first | (simp [entryFrame, mkF, argsToLocals, Value.category]; done) | rfl
set_option maxRecDepth 65536 in
set_option maxHeartbeats 40000000 in
theorem rmBB (l : Launch) (Z : State) (a0 : Array Value) (hw : ∀ d ∈ tables_1, d.before a0 Z = true) (ws : List Jvm.Cond) (x : Addr) (b : Addr) (u1 : Value) (u2 : Value) (h0 : Heap) (n0 : Nat) (Z0 : n0 ≤ h0.size) (E1 : Exa Z h0 x "java/lang/String") (F1 : Fld Z h0 x "java/lang/String" "value" "[B" u1) (F2 : Fld Z h0 x "java/lang/String" "coder" "B" u2) (ge1 : n0 ≤ x) :
    MetFree l (⟨"java/lang/String", "<init>", "([BB)V"⟩ : MethodName) (head1 (Jvm.Cond.code (⟨"java/lang/String", "<init>", "([BB)V"⟩ : MethodName) jdk_42_method_151_code 3 none :: ws) ({ frames := 1, cells := 0, slots := 0, locals := 12 } : Room)) (fun a U => a = #[(.ref x), (.ref b), (.int (0 : Int32))] ∧ Z.Warmed39 U.vm ∧ U.heap = h0) (fun _ _ _ _ _ => True) (fun _ U o U' => ∃ v L, o = .returned v ∧ QBB Z x b h0 n0 v U'.heap L ∧ FrameEnd U o U' L ({ frames := 1, cells := 0, slots := 0, locals := 12 } : Room).cells ({ frames := 1, cells := 0, slots := 0, locals := 12 } : Room).slots) := by
  refine MetFree.of_bodySF (plainFor_of_name own_pn_rmBB) hisR ?_
  intro p e s m args below meth c s₁ Bd hml0 hP hK
  obtain ⟨hargs, hZ, hh⟩ := hP
  have hx := Bd.exec
  have hby := Bd.bytes
  have hml : c.maxLocals = 3 := hml0
  have hown : s.vm.findClass "java/lang/String" = some m.cls := findClass_of_methodNamed Bd.named
  have hnm := (name_of_methodNamed Bd.named Bd.method).1
  have hlock : meth.locks = false := Bd.notSynchronized
  have hret0 := Bd.returns
  have X0 : Stand p l e ({ frames := 1, cells := 0, slots := 0, locals := 12 } : Room) s m args below meth c s₁ [] 0 0 := Stand.of_body Bd
  have e0 : s₁.heap = h0 := by rw [← hh, Bd.state]; rfl
  have N0 := Fr.nil n0
  have pre0 : ∀ t, Steps p.tables e below (s₁.setTop (mkF m 0 #[.val (.ref x), .val (.ref b), .val (.int (0 : Int32))] [])) t → Steps p.tables e below (s₁.setTop (entryFrame m args 3)) t := fun t k => castTop (by rw [hargs]; exact own_ef_rmBB m x b) k
  clear Bd
  obtain ⟨T40, X40, e40, st40⟩ := initO X0 hx hZ hown (hw _ (List.mem_of_getElem? (i := 15) rfl)) (hw _ (List.mem_of_getElem? (i := 16) rfl)) (hw _ (List.mem_of_getElem? (i := 17) rfl)) e0 (g := (mkF m 1 #[.val (.ref x), .val (.ref b), .val (.int (0 : Int32))] [(.ref x)])) rfl (by rw [hml]; rfl) rfl (hb hby d23_1) (by decide) (W := 0) (by show 2 * 0 + _ ≤ _; exact Nat.le_of_eq rfl) (by decide)
  obtain ⟨T41, h41, X41, e41, W41, st41⟩ := putF X40 hx hZ hown (host := "") (Or.inl (hw _ (List.mem_of_getElem? (i := 24) rfl))) Via.refl e40 F1 E1 (Or.inr ⟨(hw _ (List.mem_of_getElem? (i := 20) rfl)), rfl, hnm⟩) (hw _ (List.mem_of_getElem? (i := 6) rfl)) (ty := (.array .byte)) (by decide) rfl rfl (g := (mkF m 6 #[.val (.ref x), .val (.ref b), .val (.int (0 : Int32))] [(.ref b), (.ref x)])) rfl rfl (hb hby d23_6)
  have Z42 : n0 ≤ h41.size := Nat.le_trans Z0 (Keep.of_wr W41).1
  have K43 : Keep h0 h41 [x] := (Keep.refl h0 [x]).wr W41 (Or.inl (List.mem_of_getElem? (i := 0) rfl))
  have N41 := Fr.snoc X41 N0 ge1
  have f44 := F1.same W41
  have f45 := (F2.other W41 (Or.inr (slot_ne (Or.inr (hw _ (List.mem_of_getElem? (i := 21) rfl))) (Or.inr (hw _ (List.mem_of_getElem? (i := 20) rfl))) (by decide) (t := .byte) (t' := (.array .byte)) (by decide) (by decide))))
  have f46 := (E1.wr W41)
  have hn47 : narrow .byte (.int (0 : Int32)) = .int (nar .byte (0 : Int32)) := rfl
  obtain ⟨T47, h47, X47, e47, W47, st47⟩ := putFN X41 hx hZ hown (hw _ (List.mem_of_getElem? (i := 25) rfl)) Via.refl e41 f45 f46 (Or.inr ⟨(hw _ (List.mem_of_getElem? (i := 21) rfl)), rfl, hnm⟩) (hw _ (List.mem_of_getElem? (i := 6) rfl)) (ty := .byte) (v' := (.int (nar .byte (0 : Int32)))) (by decide) rfl (fits_nar_byte _) (g := (mkF m 11 #[.val (.ref x), .val (.ref b), .val (.int (0 : Int32))] [(.int (0 : Int32)), (.ref x)])) rfl rfl (hb hby d23_11)
  have Z48 : n0 ≤ h47.size := Nat.le_trans Z42 (Keep.of_wr W47).1
  have K49 : Keep h0 h47 [x] := K43.wr W47 (Or.inl (List.mem_of_getElem? (i := 0) rfl))
  have N47 := Fr.snoc X47 N41 ge1
  have f50 := f45.same W47
  have f51 := (f46.wr W47)
  have f52 := (f44.other W47 (Or.inr (slot_ne (Or.inr (hw _ (List.mem_of_getElem? (i := 20) rfl))) (Or.inr (hw _ (List.mem_of_getElem? (i := 21) rfl))) (by decide) (t := (.array .byte)) (t' := .byte) (by decide) (by decide))))
  obtain ⟨fs, hr, hrun, hended, hW, hsame⟩ := X47.leave (v := none) (fun _ => rfl)
  refine ⟨_, _, pre0 _ ?_, hrun, hended, _, _, rfl, ?_, ⟨_, rfl⟩, hW, hsame.mono (by decide) (by decide)⟩
  · show Steps p.tables e below (s₁.setTop (mkF m 0 #[.val (.ref x), .val (.ref b), .val (.int (0 : Int32))] [])) _
    refine XS.aloadN X0.here hx rfl (hb hby d23_0) rfl rfl ?_
    show Steps p.tables e below (s₁.setTop (mkF m 1 #[.val (.ref x), .val (.ref b), .val (.int (0 : Int32))] [(.ref x)])) _
    refine st40 _ ?_
    show Steps p.tables e below (T40.setTop (mkF m 4 #[.val (.ref x), .val (.ref b), .val (.int (0 : Int32))] [])) _
    refine XS.aloadN X40.here hx rfl (hb hby d23_4) rfl rfl ?_
    show Steps p.tables e below (T40.setTop (mkF m 5 #[.val (.ref x), .val (.ref b), .val (.int (0 : Int32))] [(.ref x)])) _
    refine XS.aloadN X40.here hx rfl (hb hby d23_5) rfl rfl ?_
    show Steps p.tables e below (T40.setTop (mkF m 6 #[.val (.ref x), .val (.ref b), .val (.int (0 : Int32))] [(.ref b), (.ref x)])) _
    refine st41 _ ?_
    show Steps p.tables e below (T41.setTop (mkF m 9 #[.val (.ref x), .val (.ref b), .val (.int (0 : Int32))] [])) _
    refine XS.aloadN X41.here hx rfl (hb hby d23_9) rfl rfl ?_
    show Steps p.tables e below (T41.setTop (mkF m 10 #[.val (.ref x), .val (.ref b), .val (.int (0 : Int32))] [(.ref x)])) _
    refine XS.iloadN X41.here hx rfl (hb hby d23_10) rfl ?_
    show Steps p.tables e below (T41.setTop (mkF m 11 #[.val (.ref x), .val (.ref b), .val (.int (0 : Int32))] [(.int (0 : Int32)), (.ref x)])) _
    refine st47 _ ?_
    show Steps p.tables e below (T47.setTop (mkF m 14 #[.val (.ref x), .val (.ref b), .val (.int (0 : Int32))] [])) _
    exact X47.returnOut hx hret0 (hb hby d23_14) hr
  · show QBB Z x b h0 n0 _ T47.heap _
    rw [e47]
    exact ⟨rfl, N47, K49, f51, (own_nbyte0 ▸ f50), f52⟩
theorem d21_0 : decode jdk_65_method_131_code 0 = .ok (.iload_n 1, 1) := by decide +kernel
theorem d21_1 : decode jdk_65_method_131_code 1 = .ok (.iload_n 0, 1) := by decide +kernel
theorem d21_2 : decode jdk_65_method_131_code 2 = .ok (.if_icmp .ge 35, 3) := by decide +kernel
theorem d21_37 : decode jdk_65_method_131_code 37 = .ok (.return_, 1) := by decide +kernel
def QChl (h0 : Heap) (n0 : Nat) (v : Option Value) (h : Heap) (L : List Loc) : Prop := v = none ∧ Fr n0 L ∧ h = h0
theorem own_pn_rmChl : plainName "java/util/Arrays" = true := by first | (simp [plainName, overriddenIn]; done) | decide +kernel
theorem own_ef_rmChl (m : MethodId) (p0 : Int32) (p1 : Int32) : entryFrame m #[(.int p0), (.int p1)] 2 = (mkF m 0 #[.val (.int p0), .val (.int p1)] []) := by first | (simp [entryFrame, mkF, argsToLocals, Value.category]; done) | rfl
set_option maxRecDepth 65536 in
set_option maxHeartbeats 40000000 in
theorem rmChl (l : Launch) (Z : State) (a0 : Array Value) (hw : ∀ d ∈ tables_1, d.before a0 Z = true) (ws : List Jvm.Cond) (p0 : Int32) (p1 : Int32) (h0 : Heap) (n0 : Nat) (Z0 : n0 ≤ h0.size) (q1 : ¬ p1 < p0) :
    MetFree l (⟨"java/util/Arrays", "checkLength", "(II)V"⟩ : MethodName) (head1 (Jvm.Cond.code (⟨"java/util/Arrays", "checkLength", "(II)V"⟩ : MethodName) jdk_65_method_131_code 2 none :: ws) ({ frames := 0, cells := 0, slots := 0, locals := 0 } : Room)) (fun a U => a = #[(.int p0), (.int p1)] ∧ Z.Warmed39 U.vm ∧ U.heap = h0) (fun _ _ _ _ _ => True) (fun _ U o U' => ∃ v L, o = .returned v ∧ QChl h0 n0 v U'.heap L ∧ FrameEnd U o U' L ({ frames := 0, cells := 0, slots := 0, locals := 0 } : Room).cells ({ frames := 0, cells := 0, slots := 0, locals := 0 } : Room).slots) := by
  refine MetFree.of_bodySF (plainFor_of_name own_pn_rmChl) hisR ?_
  intro p e s m args below meth c s₁ Bd hml0 hP hK
  obtain ⟨hargs, hZ, hh⟩ := hP
  have hx := Bd.exec
  have hby := Bd.bytes
  have hml : c.maxLocals = 2 := hml0
  have hown : s.vm.findClass "java/util/Arrays" = some m.cls := findClass_of_methodNamed Bd.named
  have hnm := (name_of_methodNamed Bd.named Bd.method).1
  have hlock : meth.locks = false := Bd.notSynchronized
  have hret0 := Bd.returns
  have X0 : Stand p l e ({ frames := 0, cells := 0, slots := 0, locals := 0 } : Room) s m args below meth c s₁ [] 0 0 := Stand.of_body Bd
  have e0 : s₁.heap = h0 := by rw [← hh, Bd.state]; rfl
  have N0 := Fr.nil n0
  have pre0 : ∀ t, Steps p.tables e below (s₁.setTop (mkF m 0 #[.val (.int p0), .val (.int p1)] [])) t → Steps p.tables e below (s₁.setTop (entryFrame m args 2)) t := fun t k => castTop (by rw [hargs]; exact own_ef_rmChl m p0 p1) k
  clear Bd
  obtain ⟨fs, hr, hrun, hended, hW, hsame⟩ := X0.leave (v := none) (fun _ => rfl)
  refine ⟨_, _, pre0 _ ?_, hrun, hended, _, _, rfl, ?_, ⟨_, rfl⟩, hW, hsame.mono (by decide) (by decide)⟩
  · show Steps p.tables e below (s₁.setTop (mkF m 0 #[.val (.int p0), .val (.int p1)] [])) _
    refine XS.iloadN X0.here hx rfl (hb hby d21_0) rfl ?_
    show Steps p.tables e below (s₁.setTop (mkF m 1 #[.val (.int p0), .val (.int p1)] [(.int p1)])) _
    refine XS.iloadN X0.here hx rfl (hb hby d21_1) rfl ?_
    show Steps p.tables e below (s₁.setTop (mkF m 2 #[.val (.int p0), .val (.int p1)] [(.int p0), (.int p1)])) _
    refine XS.icmpYes X0.here hx rfl (pc0 := 2) (pc' := 37) rfl (hb hby d21_2) rfl (flt q1).2.1 (by decide) (by decide) ?_
    show Steps p.tables e below (s₁.setTop (mkF m 37 #[.val (.int p0), .val (.int p1)] [])) _
    exact X0.returnOut hx hret0 (hb hby d21_37) hr
  · show QChl h0 n0 _ s₁.heap _
    rw [e0]
    exact ⟨rfl, N0, rfl⟩
theorem d20_0 : decode jdk_65_method_133_code 0 = .ok (.iload_n 1, 1) := by decide +kernel
theorem d20_1 : decode jdk_65_method_133_code 1 = .ok (.iload_n 2, 1) := by decide +kernel
theorem d20_2 : decode jdk_65_method_133_code 2 = .ok (.invokestatic 343, 3) := by decide +kernel
theorem d20_5 : decode jdk_65_method_133_code 5 = .ok (.iload_n 2, 1) := by decide +kernel
theorem d20_6 : decode jdk_65_method_133_code 6 = .ok (.iload_n 1, 1) := by decide +kernel
theorem d20_7 : decode jdk_65_method_133_code 7 = .ok (.isub, 1) := by decide +kernel
theorem d20_8 : decode jdk_65_method_133_code 8 = .ok (.istore_n 3, 1) := by decide +kernel
theorem d20_9 : decode jdk_65_method_133_code 9 = .ok (.iload_n 3, 1) := by decide +kernel
theorem d20_10 : decode jdk_65_method_133_code 10 = .ok (.newarray .byte, 2) := by decide +kernel
theorem d20_12 : decode jdk_65_method_133_code 12 = .ok (.astore 4, 2) := by decide +kernel
theorem d20_14 : decode jdk_65_method_133_code 14 = .ok (.aload_n 0, 1) := by decide +kernel
theorem d20_15 : decode jdk_65_method_133_code 15 = .ok (.iload_n 1, 1) := by decide +kernel
theorem d20_16 : decode jdk_65_method_133_code 16 = .ok (.aload 4, 2) := by decide +kernel
theorem d20_18 : decode jdk_65_method_133_code 18 = .ok (.iconst 0, 1) := by decide +kernel
theorem d20_19 : decode jdk_65_method_133_code 19 = .ok (.aload_n 0, 1) := by decide +kernel
theorem d20_20 : decode jdk_65_method_133_code 20 = .ok (.arraylength, 1) := by decide +kernel
theorem d20_21 : decode jdk_65_method_133_code 21 = .ok (.iload_n 1, 1) := by decide +kernel
theorem d20_22 : decode jdk_65_method_133_code 22 = .ok (.isub, 1) := by decide +kernel
theorem d20_23 : decode jdk_65_method_133_code 23 = .ok (.iload_n 3, 1) := by decide +kernel
theorem d20_24 : decode jdk_65_method_133_code 24 = .ok (.invokestatic 304, 3) := by decide +kernel
theorem d20_27 : decode jdk_65_method_133_code 27 = .ok (.invokestatic 150, 3) := by decide +kernel
theorem d20_30 : decode jdk_65_method_133_code 30 = .ok (.aload 4, 2) := by decide +kernel
theorem d20_32 : decode jdk_65_method_133_code 32 = .ok (.areturn, 1) := by decide +kernel
def QCor (Z : State) (cs : List Int32) (i : Nat) (h0 : Heap) (n0 : Nat) (v : Option Value) (h : Heap) (L : List Loc) : Prop := ∃ (b : Addr) (kb : ClassId), v = some (.ref b) ∧ Fr n0 L ∧ Ext h0 h ∧ h0.size ≤ b ∧ Arv Z h b kb .byte (Int32.ofNat (cs.length - i)) (own_by (cs.drop i)) (.int 0)
theorem own_pn_rmCorb : plainName "java/util/Arrays" = true := by first | (simp [plainName, overriddenIn]; done) | decide +kernel
theorem own_ef_rmCorb (m : MethodId) (b1 : Addr) (p1 : Int32) (p2 : Int32) : entryFrame m #[(.ref b1), (.int p1), (.int p2)] 5 = (mkF m 0 #[.val (.ref b1), .val (.int p1), .val (.int p2), .unset, .unset] []) := by first | (simp [entryFrame, mkF, argsToLocals, Value.category]; done) | rfl
set_option maxRecDepth 65536 in
set_option maxHeartbeats 40000000 in
theorem rmCorb (l : Launch) (Z : State) (a0 : Array Value) (hw : ∀ d ∈ tables_1, d.before a0 Z = true) (ws : List Jvm.Cond) (b1 : Addr) (kb1 : ClassId) (cs : List Int32) (i : Nat) (p1 : Int32) (p2 : Int32) (h0 : Heap) (n0 : Nat) (Z0 : n0 ≤ h0.size) (VB : Arv Z h0 b1 kb1 .byte (Int32.ofNat cs.length) (own_by cs) (.int 0)) (l2 : cs.length ≤ 4000) (hi : i ≤ cs.length) (hcap : cs.length - i ≤ 16) (e1 : p1 = Int32.ofNat i) (e2 : p2 = Int32.ofNat cs.length) :
    MetFree l (⟨"java/util/Arrays", "copyOfRangeByte", "([BII)[B"⟩ : MethodName) (head1 (Jvm.Cond.code (⟨"java/util/Arrays", "copyOfRangeByte", "([BII)[B"⟩ : MethodName) jdk_65_method_133_code 5 (some (.array .byte)) :: ws) ({ frames := 1, cells := 1, slots := 16, locals := 40 } : Room)) (fun a U => a = #[(.ref b1), (.int p1), (.int p2)] ∧ Z.Warmed39 U.vm ∧ U.heap = h0) (fun _ _ _ _ _ => True) (fun _ U o U' => ∃ v L, o = .returned v ∧ QCor Z cs i h0 n0 v U'.heap L ∧ FrameEnd U o U' L ({ frames := 1, cells := 1, slots := 16, locals := 40 } : Room).cells ({ frames := 1, cells := 1, slots := 16, locals := 40 } : Room).slots) := by
  refine MetFree.of_bodySF (plainFor_of_name own_pn_rmCorb) hisR ?_
  intro p e s m args below meth c s₁ Bd hml0 hP hK
  obtain ⟨hargs, hZ, hh⟩ := hP
  have hx := Bd.exec
  have hby := Bd.bytes
  have hml : c.maxLocals = 5 := hml0
  have hown : s.vm.findClass "java/util/Arrays" = some m.cls := findClass_of_methodNamed Bd.named
  have hnm := (name_of_methodNamed Bd.named Bd.method).1
  have hlock : meth.locks = false := Bd.notSynchronized
  have hret0 := Bd.returns
  have X0 : Stand p l e ({ frames := 1, cells := 1, slots := 16, locals := 40 } : Room) s m args below meth c s₁ [] 0 0 := Stand.of_body Bd
  have e0 : s₁.heap = h0 := by rw [← hh, Bd.state]; rfl
  have N0 := Fr.nil n0
  have pre0 : ∀ t, Steps p.tables e below (s₁.setTop (mkF m 0 #[.val (.ref b1), .val (.int p1), .val (.int p2), .unset, .unset] [])) t → Steps p.tables e below (s₁.setTop (entryFrame m args 5)) t := fun t k => castTop (by rw [hargs]; exact own_ef_rmCorb m b1 p1 p2) k
  clear Bd
  have es : p2 - p1 = (Int32.ofNat (cs.length - i)) := by rw [e1, e2]; exact own_subN hi (by omega)
  obtain ⟨v53, vmx53, ⟨T53, L53, k53, n53⟩, -, X53, ⟨Lc53, hQ53, l53, y53, z53⟩, st53⟩ := Jvm.LawKit.callS X0 hx (y := (⟨"java/util/Arrays", "checkLength", "(II)V"⟩ : MethodName)) hown (mvT hZ (hw _ (List.mem_of_getElem? (i := 109) rfl))) (mvT hZ (hw _ (List.mem_of_getElem? (i := 110) rfl))) (mvT hZ (hw _ (List.mem_of_getElem? (i := 104) rfl))) (mvT hZ (hw _ (List.mem_of_getElem? (i := 111) rfl))) (by decide) (backOf (W := 0) (rmChl l Z a0 hw [] p1 p2 h0 n0 Z0 (by rw [e1, e2, own_lt (by omega) (by omega)]; omega)) hZ (hw _ (List.mem_of_getElem? (i := 111) rfl)) (hw _ (List.mem_of_getElem? (i := 104) rfl)) (by decide) (by decide)) (g := (mkF m 2 #[.val (.ref b1), .val (.int p1), .val (.int p2), .unset, .unset] [(.int p2), (.int p1)])) rfl (by rw [hml]; rfl) (argsL := [(.int p1), (.int p2)]) (rest := []) (lenOf own_pd2 rfl) rfl (by show 2 * 0 + _ ≤ _; exact Nat.le_of_eq rfl) (hb hby d20_2) (fun _ _ => ⟨rfl, e0, (by decide : 0 + 0 ≤ _), (by decide : 0 + 0 ≤ _)⟩)
  dsimp only [Pt.U, Pt.locs, Pt.cells, Pt.slots] at X53 l53 y53 z53 st53 hQ53
  subst l53 y53 z53
  obtain ⟨rfl, Nq53, eh53⟩ := hQ53
  have N53 := Fr.app N0 Nq53
  have st54 : ∀ target, Steps p.tables e below (T53.setTop (mkF m 9 #[.val (.ref b1), .val (.int p1), .val (.int p2), .val (.int (Int32.ofNat (cs.length - i))), .unset] [])) target → Steps p.tables e below (T53.setTop (mkF m 9 #[.val (.ref b1), .val (.int p1), .val (.int p2), .val (.int (p2 - p1)), .unset] [])) target := by
    rw [es]
    intro target hk
    exact hk
  obtain ⟨T55, h55, k55, X55, e55, E55, A55, st55⟩ := newP X53 hx hZ (hw _ (List.mem_of_getElem? (i := 19) rfl)) eh53 (g := (mkF m 10 #[.val (.ref b1), .val (.int p1), .val (.int p2), .val (.int (Int32.ofNat (cs.length - i))), .unset] [(.int (Int32.ofNat (cs.length - i)))])) rfl (hb hby d20_10) rfl (own_nn (by omega)) (cap := 16) (by rw [own_clamp (by omega)]; exact hcap) (by decide) (by decide) (by decide)
  obtain ⟨b55, g55⟩ : ∃ z, z = h0.size := ⟨_, rfl⟩
  rw [← g55] at A55 st55
  have ge_b55 : n0 ≤ b55 := Nat.le_trans Z0 (Nat.le_of_eq g55.symm)
  have sz_b55 : h0.size ≤ b55 := Nat.le_trans (Keep.refl h0 []).1 (Nat.le_of_eq g55.symm)
  have Z56 : n0 ≤ h55.size := Nat.le_trans Z0 E55.1
  have K57 : Keep h0 h55 [] := (Keep.refl h0 []).ext E55
  have V55 : Arv Z h55 b55 k55 .byte (Int32.ofNat (cs.length - i)) [] (.int (0 : Int32)) := Arv.new A55 (own_nn (by omega))
  have VN := (V55).pad (pad_rep [] (.int (0 : Int32)) (cs.length - i))
  have f58 := (VB.ext E55)
  obtain ⟨cl59, Ar59, -, S59, M59, -, -⟩ := id f58
  obtain ⟨v60, vmx60, ⟨T60, L60, k60, n60⟩, -, X60, ⟨Lc60, hQ60, l60, y60, z60⟩, st60⟩ := Jvm.LawKit.callS X55 hx (y := (⟨"java/lang/Math", "min", "(II)I"⟩ : MethodName)) hown (mvT hZ (hw _ (List.mem_of_getElem? (i := 112) rfl))) (mvT hZ (hw _ (List.mem_of_getElem? (i := 113) rfl))) (mvT hZ (hw _ (List.mem_of_getElem? (i := 114) rfl))) (mvT hZ (hw _ (List.mem_of_getElem? (i := 115) rfl))) (by decide) (backOf (W := 4) (rmMin l Z a0 hw [] ((Int32.ofNat cs.length) - p1) (Int32.ofNat (cs.length - i)) h55 n0 Z56 ) hZ (hw _ (List.mem_of_getElem? (i := 115) rfl)) (hw _ (List.mem_of_getElem? (i := 114) rfl)) (by decide) (by decide)) (g := (mkF m 24 #[.val (.ref b1), .val (.int p1), .val (.int p2), .val (.int (Int32.ofNat (cs.length - i))), .val (.ref b55)] [(.int (Int32.ofNat (cs.length - i))), (.int ((Int32.ofNat cs.length) - p1)), (.int (0 : Int32)), (.ref b55), (.int p1), (.ref b1)])) rfl (by rw [hml]; rfl) (argsL := [(.int ((Int32.ofNat cs.length) - p1)), (.int (Int32.ofNat (cs.length - i)))]) (rest := [(.int (0 : Int32)), (.ref b55), (.int p1), (.ref b1)]) (lenOf own_pd3 rfl) rfl (by show 2 * 0 + _ ≤ _; exact Nat.le_of_eq rfl) (hb hby d20_24) (fun _ _ => ⟨rfl, e55, (by decide : 1 + 0 ≤ _), (by decide : 16 + 0 ≤ _)⟩)
  dsimp only [Pt.U, Pt.locs, Pt.cells, Pt.slots] at X60 l60 y60 z60 st60 hQ60
  subst l60 y60 z60
  obtain ⟨rfl, Nq60, eh60⟩ := hQ60
  have N60 := Fr.app N53 Nq60
  have em : (if (Int32.ofNat (cs.length - i)) < (Int32.ofNat cs.length - p1) then (Int32.ofNat (cs.length - i)) else (Int32.ofNat cs.length - p1)) = (Int32.ofNat (cs.length - i)) := by rw [e1, own_subN hi (by omega)]; split <;> rfl
  have st61 : ∀ target, Steps p.tables e below (T60.setTop (mkF m 27 #[.val (.ref b1), .val (.int p1), .val (.int p2), .val (.int (Int32.ofNat (cs.length - i))), .val (.ref b55)] [(.int (Int32.ofNat (cs.length - i))), (.int (0 : Int32)), (.ref b55), (.int p1), (.ref b1)])) target → Steps p.tables e below (T60.setTop (mkF m 27 #[.val (.ref b1), .val (.int p1), .val (.int p2), .val (.int (Int32.ofNat (cs.length - i))), .val (.ref b55)] [(.int (if (Int32.ofNat (cs.length - i)) < (Int32.ofNat cs.length - p1) then (Int32.ofNat (cs.length - i)) else (Int32.ofNat cs.length - p1))), (.int (0 : Int32)), (.ref b55), (.int p1), (.ref b1)])) target := by
    rw [em]
    intro target hk
    exact hk
  obtain ⟨T62, h62, L62, X62, e62, N62, K62, V62, st62⟩ := cpA X60 hx hZ hown (hw _ (List.mem_of_getElem? (i := 116) rfl)) (hw _ (List.mem_of_getElem? (i := 119) rfl)) (hw _ (List.mem_of_getElem? (i := 117) rfl)) (hw _ (List.mem_of_getElem? (i := 118) rfl)) eh60 f58 VN (Or.inl ⟨rfl, rfl⟩) (sp := p1) (dp := (0 : Int32)) (nn := (Int32.ofNat (cs.length - i))) (by rw [e1]; exact own_nn (by omega)) (by decide) (own_nn (by omega)) (by rw [e1, own_clamp (by omega), own_clamp (by omega), own_clamp (by omega)]; omega) (by rw [own_clamp (by omega)]; exact Nat.le_of_eq (Nat.zero_add _)) rfl (by rw [own_clamp (by omega)]; simp) N60 ge_b55 (g := (mkF m 27 #[.val (.ref b1), .val (.int p1), .val (.int p2), .val (.int (Int32.ofNat (cs.length - i))), .val (.ref b55)] [(.int (Int32.ofNat (cs.length - i))), (.int (0 : Int32)), (.ref b55), (.int p1), (.ref b1)])) rfl (by rw [hml]; rfl) rfl (hb hby d20_27) (by decide) (W := 0) (by show 2 * 0 + _ ≤ _; exact Nat.le_of_eq rfl) (by decide)
  have Z63 : n0 ≤ h62.size := Nat.le_trans Z56 K62.1
  have K64 : Keep h0 h62 [] := K57.trans K62 (allS (Or.inr sz_b55) all0)
  have VF : Arv Z h62 b55 k55 .byte (Int32.ofNat (cs.length - i)) (own_by (cs.drop i)) (.int 0) := by
    have q := V62
    rw [e1, own_clamp (by omega : i < 2147483648), own_clamp (by omega : cs.length - i < 2147483648)] at q
    have z : (0 : Int32).toNatClampNeg = 0 := by decide
    rw [z, own_us] at q
    simpa using q
  obtain ⟨fs, hr, hrun, hended, hW, hsame⟩ := X62.leave (v := some (.ref b55)) (fun h => by rw [hret0] at h; cases h)
  refine ⟨_, _, pre0 _ ?_, hrun, hended, _, _, rfl, ?_, ⟨_, rfl⟩, hW, hsame.mono (by decide) (by decide)⟩
  · show Steps p.tables e below (s₁.setTop (mkF m 0 #[.val (.ref b1), .val (.int p1), .val (.int p2), .unset, .unset] [])) _
    refine XS.iloadN X0.here hx rfl (hb hby d20_0) rfl ?_
    show Steps p.tables e below (s₁.setTop (mkF m 1 #[.val (.ref b1), .val (.int p1), .val (.int p2), .unset, .unset] [(.int p1)])) _
    refine XS.iloadN X0.here hx rfl (hb hby d20_1) rfl ?_
    show Steps p.tables e below (s₁.setTop (mkF m 2 #[.val (.ref b1), .val (.int p1), .val (.int p2), .unset, .unset] [(.int p2), (.int p1)])) _
    refine st53 _ ?_
    show Steps p.tables e below (T53.setTop (mkF m 5 #[.val (.ref b1), .val (.int p1), .val (.int p2), .unset, .unset] [])) _
    refine XS.iloadN X53.here hx rfl (hb hby d20_5) rfl ?_
    show Steps p.tables e below (T53.setTop (mkF m 6 #[.val (.ref b1), .val (.int p1), .val (.int p2), .unset, .unset] [(.int p2)])) _
    refine XS.iloadN X53.here hx rfl (hb hby d20_6) rfl ?_
    show Steps p.tables e below (T53.setTop (mkF m 7 #[.val (.ref b1), .val (.int p1), .val (.int p2), .unset, .unset] [(.int p1), (.int p2)])) _
    refine XS.isub X53.here hx rfl (hb hby d20_7) rfl ?_
    show Steps p.tables e below (T53.setTop (mkF m 8 #[.val (.ref b1), .val (.int p1), .val (.int p2), .unset, .unset] [(.int (p2 - p1))])) _
    refine XS.istoreN X53.here hx rfl (hb hby d20_8) rfl (l' := #[.val (.ref b1), .val (.int p1), .val (.int p2), .val (.int (p2 - p1)), .unset]) rfl ?_
    show Steps p.tables e below (T53.setTop (mkF m 9 #[.val (.ref b1), .val (.int p1), .val (.int p2), .val (.int (p2 - p1)), .unset] [])) _
    refine st54 _ ?_
    show Steps p.tables e below (T53.setTop (mkF m 9 #[.val (.ref b1), .val (.int p1), .val (.int p2), .val (.int (Int32.ofNat (cs.length - i))), .unset] [])) _
    refine XS.iloadN X53.here hx rfl (hb hby d20_9) rfl ?_
    show Steps p.tables e below (T53.setTop (mkF m 10 #[.val (.ref b1), .val (.int p1), .val (.int p2), .val (.int (Int32.ofNat (cs.length - i))), .unset] [(.int (Int32.ofNat (cs.length - i)))])) _
    refine st55 _ ?_
    show Steps p.tables e below (T55.setTop (mkF m 12 #[.val (.ref b1), .val (.int p1), .val (.int p2), .val (.int (Int32.ofNat (cs.length - i))), .unset] [(.ref b55)])) _
    refine XS.astore X55.here hx rfl (hb hby d20_12) rfl rfl (l' := #[.val (.ref b1), .val (.int p1), .val (.int p2), .val (.int (Int32.ofNat (cs.length - i))), .val (.ref b55)]) rfl ?_
    show Steps p.tables e below (T55.setTop (mkF m 14 #[.val (.ref b1), .val (.int p1), .val (.int p2), .val (.int (Int32.ofNat (cs.length - i))), .val (.ref b55)] [])) _
    refine XS.aloadN X55.here hx rfl (hb hby d20_14) rfl rfl ?_
    show Steps p.tables e below (T55.setTop (mkF m 15 #[.val (.ref b1), .val (.int p1), .val (.int p2), .val (.int (Int32.ofNat (cs.length - i))), .val (.ref b55)] [(.ref b1)])) _
    refine XS.iloadN X55.here hx rfl (hb hby d20_15) rfl ?_
    show Steps p.tables e below (T55.setTop (mkF m 16 #[.val (.ref b1), .val (.int p1), .val (.int p2), .val (.int (Int32.ofNat (cs.length - i))), .val (.ref b55)] [(.int p1), (.ref b1)])) _
    refine XS.aload X55.here hx rfl (hb hby d20_16) rfl rfl ?_
    show Steps p.tables e below (T55.setTop (mkF m 18 #[.val (.ref b1), .val (.int p1), .val (.int p2), .val (.int (Int32.ofNat (cs.length - i))), .val (.ref b55)] [(.ref b55), (.int p1), (.ref b1)])) _
    refine XS.iconst X55.here hx rfl (hb hby d20_18) ?_
    show Steps p.tables e below (T55.setTop (mkF m 19 #[.val (.ref b1), .val (.int p1), .val (.int p2), .val (.int (Int32.ofNat (cs.length - i))), .val (.ref b55)] [(.int (0 : Int32)), (.ref b55), (.int p1), (.ref b1)])) _
    refine XS.aloadN X55.here hx rfl (hb hby d20_19) rfl rfl ?_
    show Steps p.tables e below (T55.setTop (mkF m 20 #[.val (.ref b1), .val (.int p1), .val (.int p2), .val (.int (Int32.ofNat (cs.length - i))), .val (.ref b55)] [(.ref b1), (.int (0 : Int32)), (.ref b55), (.int p1), (.ref b1)])) _
    refine X55.arraylength hx (by rw [e55]; exact Ar59.1) (State.isArrayOf_alike hZ.alike Ar59.2.1) (g := (mkF m 20 #[.val (.ref b1), .val (.int p1), .val (.int p2), .val (.int (Int32.ofNat (cs.length - i))), .val (.ref b55)] [(.ref b1), (.int (0 : Int32)), (.ref b55), (.int p1), (.ref b1)])) rfl rfl (hb hby d20_20) _ ?_
    rw [len_of S59 M59]
    show Steps p.tables e below (T55.setTop (mkF m 21 #[.val (.ref b1), .val (.int p1), .val (.int p2), .val (.int (Int32.ofNat (cs.length - i))), .val (.ref b55)] [(.int (Int32.ofNat cs.length)), (.int (0 : Int32)), (.ref b55), (.int p1), (.ref b1)])) _
    refine XS.iloadN X55.here hx rfl (hb hby d20_21) rfl ?_
    show Steps p.tables e below (T55.setTop (mkF m 22 #[.val (.ref b1), .val (.int p1), .val (.int p2), .val (.int (Int32.ofNat (cs.length - i))), .val (.ref b55)] [(.int p1), (.int (Int32.ofNat cs.length)), (.int (0 : Int32)), (.ref b55), (.int p1), (.ref b1)])) _
    refine XS.isub X55.here hx rfl (hb hby d20_22) rfl ?_
    show Steps p.tables e below (T55.setTop (mkF m 23 #[.val (.ref b1), .val (.int p1), .val (.int p2), .val (.int (Int32.ofNat (cs.length - i))), .val (.ref b55)] [(.int ((Int32.ofNat cs.length) - p1)), (.int (0 : Int32)), (.ref b55), (.int p1), (.ref b1)])) _
    refine XS.iloadN X55.here hx rfl (hb hby d20_23) rfl ?_
    show Steps p.tables e below (T55.setTop (mkF m 24 #[.val (.ref b1), .val (.int p1), .val (.int p2), .val (.int (Int32.ofNat (cs.length - i))), .val (.ref b55)] [(.int (Int32.ofNat (cs.length - i))), (.int ((Int32.ofNat cs.length) - p1)), (.int (0 : Int32)), (.ref b55), (.int p1), (.ref b1)])) _
    refine st60 _ ?_
    show Steps p.tables e below (T60.setTop (mkF m 27 #[.val (.ref b1), .val (.int p1), .val (.int p2), .val (.int (Int32.ofNat (cs.length - i))), .val (.ref b55)] [(.int (if (Int32.ofNat (cs.length - i)) < (Int32.ofNat cs.length - p1) then (Int32.ofNat (cs.length - i)) else (Int32.ofNat cs.length - p1))), (.int (0 : Int32)), (.ref b55), (.int p1), (.ref b1)])) _
    refine st61 _ ?_
    show Steps p.tables e below (T60.setTop (mkF m 27 #[.val (.ref b1), .val (.int p1), .val (.int p2), .val (.int (Int32.ofNat (cs.length - i))), .val (.ref b55)] [(.int (Int32.ofNat (cs.length - i))), (.int (0 : Int32)), (.ref b55), (.int p1), (.ref b1)])) _
    refine st62 _ ?_
    show Steps p.tables e below (T62.setTop (mkF m 30 #[.val (.ref b1), .val (.int p1), .val (.int p2), .val (.int (Int32.ofNat (cs.length - i))), .val (.ref b55)] [])) _
    refine XS.aload X62.here hx rfl (hb hby d20_30) rfl rfl ?_
    show Steps p.tables e below (T62.setTop (mkF m 32 #[.val (.ref b1), .val (.int p1), .val (.int p2), .val (.int (Int32.ofNat (cs.length - i))), .val (.ref b55)] [(.ref b55)])) _
    exact retR X62 hx hret0 rfl rfl rfl (hb hby d20_32) hr
  · show QCor Z cs i h0 n0 _ T62.heap _
    rw [e62]
    exact ⟨b55, k55, rfl, N62, own_ext K64, sz_b55, VF⟩
theorem d19_0 : decode jdk_65_method_132_code 0 = .ok (.iload_n 1, 1) := by decide +kernel
theorem d19_1 : decode jdk_65_method_132_code 1 = .ok (.ifCond .ne 9, 3) := by decide +kernel
theorem d19_10 : decode jdk_65_method_132_code 10 = .ok (.aload_n 0, 1) := by decide +kernel
theorem d19_11 : decode jdk_65_method_132_code 11 = .ok (.iload_n 1, 1) := by decide +kernel
theorem d19_12 : decode jdk_65_method_132_code 12 = .ok (.iload_n 2, 1) := by decide +kernel
theorem d19_13 : decode jdk_65_method_132_code 13 = .ok (.invokestatic 339, 3) := by decide +kernel
theorem d19_16 : decode jdk_65_method_132_code 16 = .ok (.areturn, 1) := by decide +kernel
theorem own_pn_rmCor : plainName "java/util/Arrays" = true := by first | (simp [plainName, overriddenIn]; done) | decide +kernel
theorem own_ef_rmCor (m : MethodId) (b1 : Addr) (p1 : Int32) (p2 : Int32) : entryFrame m #[(.ref b1), (.int p1), (.int p2)] 3 = (mkF m 0 #[.val (.ref b1), .val (.int p1), .val (.int p2)] []) := by first | (simp [entryFrame, mkF, argsToLocals, Value.category]; done) | rfl
set_option maxRecDepth 65536 in
set_option maxHeartbeats 40000000 in
theorem rmCor (l : Launch) (Z : State) (a0 : Array Value) (hw : ∀ d ∈ tables_1, d.before a0 Z = true) (ws : List Jvm.Cond) (b1 : Addr) (kb1 : ClassId) (cs : List Int32) (i : Nat) (p1 : Int32) (p2 : Int32) (h0 : Heap) (n0 : Nat) (Z0 : n0 ≤ h0.size) (VB : Arv Z h0 b1 kb1 .byte (Int32.ofNat cs.length) (own_by cs) (.int 0)) (l2 : cs.length ≤ 4000) (hi : i ≤ cs.length) (hcap : cs.length - i ≤ 16) (e1 : p1 = Int32.ofNat i) (e2 : p2 = Int32.ofNat cs.length) (i1 : 1 ≤ i) :
    MetFree l (⟨"java/util/Arrays", "copyOfRange", "([BII)[B"⟩ : MethodName) (head1 (Jvm.Cond.code (⟨"java/util/Arrays", "copyOfRange", "([BII)[B"⟩ : MethodName) jdk_65_method_132_code 3 (some (.array .byte)) :: ws) ({ frames := 2, cells := 1, slots := 16, locals := 56 } : Room)) (fun a U => a = #[(.ref b1), (.int p1), (.int p2)] ∧ Z.Warmed39 U.vm ∧ U.heap = h0) (fun _ _ _ _ _ => True) (fun _ U o U' => ∃ v L, o = .returned v ∧ QCor Z cs i h0 n0 v U'.heap L ∧ FrameEnd U o U' L ({ frames := 2, cells := 1, slots := 16, locals := 56 } : Room).cells ({ frames := 2, cells := 1, slots := 16, locals := 56 } : Room).slots) := by
  refine MetFree.of_bodySF (plainFor_of_name own_pn_rmCor) hisR ?_
  intro p e s m args below meth c s₁ Bd hml0 hP hK
  obtain ⟨hargs, hZ, hh⟩ := hP
  have hx := Bd.exec
  have hby := Bd.bytes
  have hml : c.maxLocals = 3 := hml0
  have hown : s.vm.findClass "java/util/Arrays" = some m.cls := findClass_of_methodNamed Bd.named
  have hnm := (name_of_methodNamed Bd.named Bd.method).1
  have hlock : meth.locks = false := Bd.notSynchronized
  have hret0 := Bd.returns
  have X0 : Stand p l e ({ frames := 2, cells := 1, slots := 16, locals := 56 } : Room) s m args below meth c s₁ [] 0 0 := Stand.of_body Bd
  have e0 : s₁.heap = h0 := by rw [← hh, Bd.state]; rfl
  have N0 := Fr.nil n0
  have pre0 : ∀ t, Steps p.tables e below (s₁.setTop (mkF m 0 #[.val (.ref b1), .val (.int p1), .val (.int p2)] [])) t → Steps p.tables e below (s₁.setTop (entryFrame m args 3)) t := fun t k => castTop (by rw [hargs]; exact own_ef_rmCor m b1 p1 p2) k
  clear Bd
  obtain ⟨v65, vmx65, ⟨T65, L65, k65, n65⟩, -, X65, ⟨Lc65, hQ65, l65, y65, z65⟩, st65⟩ := Jvm.LawKit.callS X0 hx (y := (⟨"java/util/Arrays", "copyOfRangeByte", "([BII)[B"⟩ : MethodName)) hown (mvT hZ (hw _ (List.mem_of_getElem? (i := 106) rfl))) (mvT hZ (hw _ (List.mem_of_getElem? (i := 107) rfl))) (mvT hZ (hw _ (List.mem_of_getElem? (i := 104) rfl))) (mvT hZ (hw _ (List.mem_of_getElem? (i := 108) rfl))) (by decide) (backOf (W := 0) (rmCorb l Z a0 hw [] b1 kb1 cs i p1 p2 h0 n0 Z0 VB l2 hi hcap e1 e2) hZ (hw _ (List.mem_of_getElem? (i := 108) rfl)) (hw _ (List.mem_of_getElem? (i := 104) rfl)) (by decide) (by decide)) (g := (mkF m 13 #[.val (.ref b1), .val (.int p1), .val (.int p2)] [(.int p2), (.int p1), (.ref b1)])) rfl (by rw [hml]; rfl) (argsL := [(.ref b1), (.int p1), (.int p2)]) (rest := []) (lenOf own_pd4 rfl) rfl (by show 2 * 0 + _ ≤ _; exact Nat.le_of_eq rfl) (hb hby d19_13) (fun _ _ => ⟨rfl, e0, (by decide : 0 + 1 ≤ _), (by decide : 0 + 16 ≤ _)⟩)
  dsimp only [Pt.U, Pt.locs, Pt.cells, Pt.slots] at X65 l65 y65 z65 st65 hQ65
  subst l65 y65 z65
  obtain ⟨b, kb, rfl, Nq65, E65, szb, VB65⟩ := hQ65
  have N65 := Fr.app N0 Nq65
  have Z66 : n0 ≤ T65.heap.size := Nat.le_trans Z0 E65.1
  have K67 : Keep h0 T65.heap [] := (Keep.refl h0 []).ext E65
  obtain ⟨fs, hr, hrun, hended, hW, hsame⟩ := X65.leave (v := some (.ref b)) (fun h => by rw [hret0] at h; cases h)
  refine ⟨_, _, pre0 _ ?_, hrun, hended, _, _, rfl, ?_, ⟨_, rfl⟩, hW, hsame.mono (by decide) (by decide)⟩
  · show Steps p.tables e below (s₁.setTop (mkF m 0 #[.val (.ref b1), .val (.int p1), .val (.int p2)] [])) _
    refine XS.iloadN X0.here hx rfl (hb hby d19_0) rfl ?_
    show Steps p.tables e below (s₁.setTop (mkF m 1 #[.val (.ref b1), .val (.int p1), .val (.int p2)] [(.int p1)])) _
    refine XS.ifYes X0.here hx rfl (pc0 := 1) (pc' := 10) rfl (hb hby d19_1) rfl ((if0 _ _).trans (feq (by rw [e1]; intro q; exact absurd ((own_eq (b := 0) (by omega) (by omega)).mp q) (by omega))).2) (by decide) (by decide) ?_
    show Steps p.tables e below (s₁.setTop (mkF m 10 #[.val (.ref b1), .val (.int p1), .val (.int p2)] [])) _
    refine XS.aloadN X0.here hx rfl (hb hby d19_10) rfl rfl ?_
    show Steps p.tables e below (s₁.setTop (mkF m 11 #[.val (.ref b1), .val (.int p1), .val (.int p2)] [(.ref b1)])) _
    refine XS.iloadN X0.here hx rfl (hb hby d19_11) rfl ?_
    show Steps p.tables e below (s₁.setTop (mkF m 12 #[.val (.ref b1), .val (.int p1), .val (.int p2)] [(.int p1), (.ref b1)])) _
    refine XS.iloadN X0.here hx rfl (hb hby d19_12) rfl ?_
    show Steps p.tables e below (s₁.setTop (mkF m 13 #[.val (.ref b1), .val (.int p1), .val (.int p2)] [(.int p2), (.int p1), (.ref b1)])) _
    refine st65 _ ?_
    show Steps p.tables e below (T65.setTop (mkF m 16 #[.val (.ref b1), .val (.int p1), .val (.int p2)] [(.ref b)])) _
    exact retR X65 hx hret0 rfl rfl rfl (hb hby d19_16) hr
  · show QCor Z cs i h0 n0 _ T65.heap _
    exact ⟨b, kb, rfl, N65, E65, szb, VB65⟩
theorem d18_0 : decode jdk_43_method_47_code 0 = .ok (.iload_n 2, 1) := by decide +kernel
theorem d18_1 : decode jdk_43_method_47_code 1 = .ok (.ifCond .ne 6, 3) := by decide +kernel
theorem d18_4 : decode jdk_43_method_47_code 4 = .ok (.ldc 151, 2) := by decide +kernel
theorem d18_6 : decode jdk_43_method_47_code 6 = .ok (.areturn, 1) := by decide +kernel
theorem d18_7 : decode jdk_43_method_47_code 7 = .ok (.new 1, 3) := by decide +kernel
theorem d18_10 : decode jdk_43_method_47_code 10 = .ok (.dup, 1) := by decide +kernel
theorem d18_11 : decode jdk_43_method_47_code 11 = .ok (.aload_n 0, 1) := by decide +kernel
theorem d18_12 : decode jdk_43_method_47_code 12 = .ok (.iload_n 1, 1) := by decide +kernel
theorem d18_13 : decode jdk_43_method_47_code 13 = .ok (.iload_n 1, 1) := by decide +kernel
theorem d18_14 : decode jdk_43_method_47_code 14 = .ok (.iload_n 2, 1) := by decide +kernel
theorem d18_15 : decode jdk_43_method_47_code 15 = .ok (.iadd, 1) := by decide +kernel
theorem d18_16 : decode jdk_43_method_47_code 16 = .ok (.invokestatic 232, 3) := by decide +kernel
theorem d18_19 : decode jdk_43_method_47_code 19 = .ok (.iconst 0, 1) := by decide +kernel
theorem d18_20 : decode jdk_43_method_47_code 20 = .ok (.invokespecial 112, 3) := by decide +kernel
theorem d18_23 : decode jdk_43_method_47_code 23 = .ok (.areturn, 1) := by decide +kernel
def QSub (Z : State) (cs : List Int32) (i : Nat) (h0 : Heap) (n0 : Nat) (v : Option Value) (h : Heap) (L : List Loc) : Prop := ∃ b : Addr, v = some (.ref b) ∧ Fr n0 L ∧ Ext h0 h ∧ own_Str Z h b (cs.drop i)
theorem own_pn_rmNS : plainName "java/lang/StringLatin1" = true := by first | (simp [plainName, overriddenIn]; done) | decide +kernel
theorem own_ef_rmNS (m : MethodId) (b1 : Addr) (p1 : Int32) (p2 : Int32) : entryFrame m #[(.ref b1), (.int p1), (.int p2)] 3 = (mkF m 0 #[.val (.ref b1), .val (.int p1), .val (.int p2)] []) := by first | (simp [entryFrame, mkF, argsToLocals, Value.category]; done) | rfl
set_option maxRecDepth 65536 in
set_option maxHeartbeats 40000000 in
theorem rmNS (l : Launch) (Z : State) (a0 : Array Value) (hw : ∀ d ∈ tables_1, d.before a0 Z = true) (ws : List Jvm.Cond) (b1 : Addr) (kb1 : ClassId) (cs : List Int32) (i : Nat) (p1 : Int32) (p2 : Int32) (h0 : Heap) (n0 : Nat) (Z0 : n0 ≤ h0.size) (hp : ∀ c ∈ cs, ¬ c < 0 ∧ ¬ (255 : Int32) < c) (VB : Arv Z h0 b1 kb1 .byte (Int32.ofNat cs.length) (own_by cs) (.int 0)) (l2 : cs.length ≤ 4000) (i1 : 1 ≤ i) (hi : i ≤ cs.length) (hcap : cs.length - i ≤ 16) (e1 : p1 = Int32.ofNat i) (e2 : p2 = Int32.ofNat (cs.length - i)) :
    MetFree l (⟨"java/lang/StringLatin1", "newString", "([BII)Ljava/lang/String;"⟩ : MethodName) (head1 (Jvm.Cond.code (⟨"java/lang/StringLatin1", "newString", "([BII)Ljava/lang/String;"⟩ : MethodName) jdk_43_method_47_code 3 (some (.object "java/lang/String")) :: ws) ({ frames := 3, cells := 2, slots := 20, locals := 80 } : Room)) (fun a U => a = #[(.ref b1), (.int p1), (.int p2)] ∧ Z.Warmed39 U.vm ∧ U.heap = h0 ∧ CHv Z EL U.vm h0) (fun _ _ _ _ _ => True) (fun _ U o U' => ∃ v L, o = .returned v ∧ QSub Z cs i h0 n0 v U'.heap L ∧ CHr Z EL U.vm U.heap U'.vm U'.heap ∧ ReturnedEndW U o U' L ({ frames := 3, cells := 2, slots := 20, locals := 80 } : Room).cells ({ frames := 3, cells := 2, slots := 20, locals := 80 } : Room).slots) := by
  refine MetFree.of_bodySF (plainFor_of_name own_pn_rmNS) hisR ?_
  intro p e s m args below meth c s₁ Bd hml0 hP hK
  obtain ⟨hargs, hZ, hh, hC0⟩ := hP
  have hx := Bd.exec
  have hby := Bd.bytes
  have hml : c.maxLocals = 3 := hml0
  have hown : s.vm.findClass "java/lang/StringLatin1" = some m.cls := findClass_of_methodNamed Bd.named
  have hnm := (name_of_methodNamed Bd.named Bd.method).1
  have hlock : meth.locks = false := Bd.notSynchronized
  have hret0 := Bd.returns
  have hZ : Z.Warmed39 (s.setVm s.vm).vm := hZ
  have hown : (s.setVm s.vm).vm.findClass "java/lang/StringLatin1" = some m.cls := hown
  have hEL := own_EL hw
  have hwS := own_wS hw
  have C0 := CHr.refl hC0
  have X0 : Stand p l e ({ frames := 3, cells := 2, slots := 20, locals := 80 } : Room) (s.setVm s.vm) m args below meth c s₁ [] 0 0 := Stand.of_body Bd
  have e0 : s₁.heap = h0 := by rw [← hh, Bd.state]; rfl
  have N0 := Fr.nil n0
  have pre0 : ∀ t, Steps p.tables e below (s₁.setTop (mkF m 0 #[.val (.ref b1), .val (.int p1), .val (.int p2)] [])) t → Steps p.tables e below (s₁.setTop (entryFrame m args 3)) t := fun t k => castTop (by rw [hargs]; exact own_ef_rmNS m b1 p1 p2) k
  have hS0 := (State.WarmedH.refl s).since 0
  clear Bd
  by_cases hc : p2 = (0 : Int32)
  · skip
    obtain ⟨a68, T68, h68, k168, b68, kl68, X68, e68, E68, hS68, hkk68, hZ68, hown68, fe68, fc68, fv68, fa68, la68, lb68, CR68, hL68, hne68, st68⟩ := ldcCH (s := s) (vm0 := s.vm) X0 hx hZ hown (hw _ (List.mem_of_getElem? (i := 132) rfl)) hwS e0 hS0 (Nat.zero_le _) hEL (own_mem132) C0.1 (vs := ([] : List Value)) (z := (0 : Int32)) ⟨by decide, by decide⟩ (by decide) rfl (g := (mkF m 4 #[.val (.ref b1), .val (.int p1), .val (.int p2)] [])) rfl (hb hby d18_4) (n := 0) (by decide) (by decide) (by decide) (by decide)
    have Z69 : n0 ≤ h68.size := Nat.le_trans Z0 E68.1
    have K70 : Keep h0 h68 [] := (Keep.refl h0 []).ext E68
    have C71 := (C0.trans CR68)
    have hz : cs.length - i = 0 := by rw [e2] at hc; exact (own_eq (b := 0) (by omega) (by omega)).mp hc
    have hd : cs.drop i = [] := List.drop_eq_nil_of_le (by omega)
    obtain ⟨fs, hr, hrun, hended, hW⟩ := Stand.leaveW (s := s) (vm₁ := T68.vm) X68 hS68 (by rw [e68]; exact hkk68) (v := some (.ref a68)) (fun h => by rw [hret0] at h; cases h)
    refine ⟨_, _, pre0 _ ?_, hrun, hended, _, _, rfl, ?_, own_chr (T := T68) hh e68 (C71.trans (CHv.at (s := s) (vm0 := T68.vm) X68 hZ68 hEL C71.1)), own_wmono hW (by decide) (by decide)⟩
    · show Steps p.tables e below (s₁.setTop (mkF m 0 #[.val (.ref b1), .val (.int p1), .val (.int p2)] [])) _
      refine XS.iloadN X0.here hx rfl (hb hby d18_0) rfl ?_
      show Steps p.tables e below (s₁.setTop (mkF m 1 #[.val (.ref b1), .val (.int p1), .val (.int p2)] [(.int p2)])) _
      refine XS.ifNo X0.here hx rfl (hb hby d18_1) rfl ((if0 _ _).trans (teq hc).2) ?_
      show Steps p.tables e below (s₁.setTop (mkF m 4 #[.val (.ref b1), .val (.int p1), .val (.int p2)] [])) _
      refine st68 _ ?_
      show Steps p.tables e below (T68.setTop (mkF m 6 #[.val (.ref b1), .val (.int p1), .val (.int p2)] [(.ref a68)])) _
      exact retR X68 hx hret0 rfl rfl rfl (hb hby d18_6) hr
    · show QSub Z cs i h0 n0 _ T68.heap _
      rw [e68]
      exact ⟨a68, rfl, N0, own_ext K70, by rw [hd]; exact ⟨by decide, by decide, fe68, fc68, b68, kl68, fv68, fa68⟩⟩
  · skip
    obtain ⟨T72, h72, X72, e72, E72, A72, D72, -, st72⟩ := newO X0 hx hZ hown (hw _ (List.mem_of_getElem? (i := 101) rfl)) (hw _ (List.mem_of_getElem? (i := 6) rfl)) (hw _ (List.mem_of_getElem? (i := 7) rfl)) e0 (g := (mkF m 7 #[.val (.ref b1), .val (.int p1), .val (.int p2)] [])) rfl (hb hby d18_7) (by decide) (by decide)
    obtain ⟨b72, g72⟩ : ∃ z, z = h0.size := ⟨_, rfl⟩
    rw [← g72] at A72 D72 st72
    have ge_b72 : n0 ≤ b72 := Nat.le_trans Z0 (Nat.le_of_eq g72.symm)
    have sz_b72 : h0.size ≤ b72 := Nat.le_trans (Keep.refl h0 []).1 (Nat.le_of_eq g72.symm)
    have Z73 : n0 ≤ h72.size := Nat.le_trans Z0 E72.1
    have K74 : Keep h0 h72 [] := (Keep.refl h0 []).ext E72
    have C75 := (C0.trans (CHr.ext E72 C0.1))
    have f76 := (VB.ext E72)
    obtain ⟨v77, vmx77, ⟨T77, L77, k77, n77⟩, -, X77, ⟨Lc77, hQ77, l77, y77, z77⟩, st77⟩ := Jvm.LawKit.callS X72 hx (y := (⟨"java/util/Arrays", "copyOfRange", "([BII)[B"⟩ : MethodName)) hown (mvT hZ (hw _ (List.mem_of_getElem? (i := 102) rfl))) (mvT hZ (hw _ (List.mem_of_getElem? (i := 103) rfl))) (mvT hZ (hw _ (List.mem_of_getElem? (i := 104) rfl))) (mvT hZ (hw _ (List.mem_of_getElem? (i := 105) rfl))) (by decide) (backOf (W := 2) (rmCor l Z a0 hw [] b1 kb1 cs i p1 (p1 + p2) h72 n0 Z73 f76 l2 hi hcap e1 (by rw [e1, e2, own_addN (by omega)]; congr 1; omega) i1) hZ (hw _ (List.mem_of_getElem? (i := 105) rfl)) (hw _ (List.mem_of_getElem? (i := 104) rfl)) (by decide) (by decide)) (g := (mkF m 16 #[.val (.ref b1), .val (.int p1), .val (.int p2)] [(.int (p1 + p2)), (.int p1), (.ref b1), (.ref b72), (.ref b72)])) rfl (by rw [hml]; rfl) (argsL := [(.ref b1), (.int p1), (.int (p1 + p2))]) (rest := [(.ref b72), (.ref b72)]) (lenOf own_pd4 rfl) rfl (by show 2 * 0 + _ ≤ _; exact Nat.le_of_eq rfl) (hb hby d18_16) (fun _ _ => ⟨rfl, e72, (by decide : 1 + 1 ≤ _), (by decide : 4 + 16 ≤ _)⟩)
    dsimp only [Pt.U, Pt.locs, Pt.cells, Pt.slots] at X77 l77 y77 z77 st77 hQ77
    subst l77 y77 z77
    obtain ⟨b, kb, rfl, Nq77, E77, szb, VB77⟩ := hQ77
    have N77 := Fr.app N0 Nq77
    have Z78 : n0 ≤ T77.heap.size := Nat.le_trans Z73 E77.1
    have K79 : Keep h0 T77.heap [] := K74.ext E77
    have C80 := (C75.trans (CHr.ext E77 C75.1))
    have f81 := (A72.ext E77)
    have f82 := ((D72 (Or.inr (hw _ (List.mem_of_getElem? (i := 20) rfl))) (ty := (.array .byte)) (by decide)).ext E77)
    have f83 := ((D72 (Or.inr (hw _ (List.mem_of_getElem? (i := 21) rfl))) (ty := .byte) (by decide)).ext E77)
    have nbx : b ≠ b72 := Nat.ne_of_gt (Nat.lt_of_lt_of_le A72.lt szb)
    obtain ⟨v84, vmx84, ⟨T84, L84, k84, n84⟩, -, X84, ⟨Lc84, hQ84, l84, y84, z84⟩, st84⟩ := X77.specialBack hx (y := (⟨"java/lang/String", "<init>", "([BB)V"⟩ : MethodName)) rfl hown (mvT hZ (hw _ (List.mem_of_getElem? (i := 120) rfl))) (mvT hZ (hw _ (List.mem_of_getElem? (i := 121) rfl))) (mvT hZ (hw _ (List.mem_of_getElem? (i := 122) rfl))) (by decide) (backOf (W := 1) (rmBB l Z a0 hw [] b72 b _ _ T77.heap n0 Z78 f81 f82 f83 ge_b72) hZ (hw _ (List.mem_of_getElem? (i := 122) rfl)) (hw _ (List.mem_of_getElem? (i := 7) rfl)) (by decide) (by decide)) (g := (mkF m 20 #[.val (.ref b1), .val (.int p1), .val (.int p2)] [(.int (0 : Int32)), (.ref b), (.ref b72), (.ref b72)])) rfl (by rw [hml]; rfl) (Steps.refl _) (a := b72) (argsL := [(.ref b), (.int (0 : Int32))]) (rest := [(.ref b72)]) (lenOf own_pd5 rfl) rfl (by show 2 * 0 + _ ≤ _; exact Nat.le_of_eq rfl) (hb hby d18_20) (fun _ _ => ⟨rfl, rfl, (by decide : 2 + 0 ≤ _), (by decide : 20 + 0 ≤ _)⟩)
    dsimp only [Pt.U, Pt.locs, Pt.cells, Pt.slots] at X84 l84 y84 z84 st84 hQ84
    subst l84 y84 z84
    obtain ⟨rfl, Nq84, K84, g1, g2, g3⟩ := hQ84
    have N84 := Fr.app N77 Nq84
    have Z85 : n0 ≤ T84.heap.size := Nat.le_trans Z78 K84.1
    have K86 : Keep h0 T84.heap [] := K79.trans K84 (allS (Or.inr sz_b72) all0)
    have C87 := (C80.trans (CHr.keep K84 (allS (Safe.ext E77 C75.1 (Safe.ext E72 C0.1 (Safe.new (Nat.le_of_eq g72.symm)))) all0) C80.1))
    have f88 := (VB77.keep K84 (ninS nbx nin0))
    obtain ⟨fs, hr, hrun, hended, hW⟩ := Stand.leaveW (s := s) (vm₁ := s.vm) X84 hS0 (by rw [show T84.heap = _ from rfl]; exact (Nat.zero_le _)) (v := some (.ref b72)) (fun h => by rw [hret0] at h; cases h)
    refine ⟨_, _, pre0 _ ?_, hrun, hended, _, _, rfl, ?_, own_chr (T := T84) hh rfl (C87.trans (CHv.at (s := s) (vm0 := s.vm) X84 hZ hEL C87.1)), own_wmono hW (by decide) (by decide)⟩
    · show Steps p.tables e below (s₁.setTop (mkF m 0 #[.val (.ref b1), .val (.int p1), .val (.int p2)] [])) _
      refine XS.iloadN X0.here hx rfl (hb hby d18_0) rfl ?_
      show Steps p.tables e below (s₁.setTop (mkF m 1 #[.val (.ref b1), .val (.int p1), .val (.int p2)] [(.int p2)])) _
      refine XS.ifYes X0.here hx rfl (pc0 := 1) (pc' := 7) rfl (hb hby d18_1) rfl ((if0 _ _).trans (feq hc).2) (by decide) (by decide) ?_
      show Steps p.tables e below (s₁.setTop (mkF m 7 #[.val (.ref b1), .val (.int p1), .val (.int p2)] [])) _
      refine st72 _ ?_
      show Steps p.tables e below (T72.setTop (mkF m 10 #[.val (.ref b1), .val (.int p1), .val (.int p2)] [(.ref b72)])) _
      refine XS.dup X72.here hx rfl (hb hby d18_10) rfl rfl ?_
      show Steps p.tables e below (T72.setTop (mkF m 11 #[.val (.ref b1), .val (.int p1), .val (.int p2)] [(.ref b72), (.ref b72)])) _
      refine XS.aloadN X72.here hx rfl (hb hby d18_11) rfl rfl ?_
      show Steps p.tables e below (T72.setTop (mkF m 12 #[.val (.ref b1), .val (.int p1), .val (.int p2)] [(.ref b1), (.ref b72), (.ref b72)])) _
      refine XS.iloadN X72.here hx rfl (hb hby d18_12) rfl ?_
      show Steps p.tables e below (T72.setTop (mkF m 13 #[.val (.ref b1), .val (.int p1), .val (.int p2)] [(.int p1), (.ref b1), (.ref b72), (.ref b72)])) _
      refine XS.iloadN X72.here hx rfl (hb hby d18_13) rfl ?_
      show Steps p.tables e below (T72.setTop (mkF m 14 #[.val (.ref b1), .val (.int p1), .val (.int p2)] [(.int p1), (.int p1), (.ref b1), (.ref b72), (.ref b72)])) _
      refine XS.iloadN X72.here hx rfl (hb hby d18_14) rfl ?_
      show Steps p.tables e below (T72.setTop (mkF m 15 #[.val (.ref b1), .val (.int p1), .val (.int p2)] [(.int p2), (.int p1), (.int p1), (.ref b1), (.ref b72), (.ref b72)])) _
      refine XS.iadd X72.here hx rfl (hb hby d18_15) rfl ?_
      show Steps p.tables e below (T72.setTop (mkF m 16 #[.val (.ref b1), .val (.int p1), .val (.int p2)] [(.int (p1 + p2)), (.int p1), (.ref b1), (.ref b72), (.ref b72)])) _
      refine st77 _ ?_
      show Steps p.tables e below (T77.setTop (mkF m 19 #[.val (.ref b1), .val (.int p1), .val (.int p2)] [(.ref b), (.ref b72), (.ref b72)])) _
      refine XS.iconst X77.here hx rfl (hb hby d18_19) ?_
      show Steps p.tables e below (T77.setTop (mkF m 20 #[.val (.ref b1), .val (.int p1), .val (.int p2)] [(.int (0 : Int32)), (.ref b), (.ref b72), (.ref b72)])) _
      refine st84.trans ?_
      show Steps p.tables e below (T84.setTop (mkF m 23 #[.val (.ref b1), .val (.int p1), .val (.int p2)] [(.ref b72)])) _
      exact retR X84 hx hret0 rfl rfl rfl (hb hby d18_23) hr
    · show QSub Z cs i h0 n0 _ T84.heap _
      exact ⟨b72, rfl, N84, own_ext K86, fun c q => hp c (List.mem_of_mem_drop q), by rw [List.length_drop]; omega, g1, g2, b, kb, g3, by rw [List.length_drop]; exact f88⟩
theorem d14_0 : decode jdk_42_method_92_code 0 = .ok (.aload_n 0, 1) := by decide +kernel
theorem d14_1 : decode jdk_42_method_92_code 1 = .ok (.invokevirtual 505, 3) := by decide +kernel
theorem d14_4 : decode jdk_42_method_92_code 4 = .ok (.istore_n 3, 1) := by decide +kernel
theorem d14_5 : decode jdk_42_method_92_code 5 = .ok (.iload_n 1, 1) := by decide +kernel
theorem d14_6 : decode jdk_42_method_92_code 6 = .ok (.iload_n 2, 1) := by decide +kernel
theorem d14_7 : decode jdk_42_method_92_code 7 = .ok (.iload_n 3, 1) := by decide +kernel
theorem d14_8 : decode jdk_42_method_92_code 8 = .ok (.invokestatic 521, 3) := by decide +kernel
theorem d14_11 : decode jdk_42_method_92_code 11 = .ok (.iload_n 1, 1) := by decide +kernel
theorem d14_12 : decode jdk_42_method_92_code 12 = .ok (.ifCond .ne 10, 3) := by decide +kernel
theorem d14_22 : decode jdk_42_method_92_code 22 = .ok (.iload_n 2, 1) := by decide +kernel
theorem d14_23 : decode jdk_42_method_92_code 23 = .ok (.iload_n 1, 1) := by decide +kernel
theorem d14_24 : decode jdk_42_method_92_code 24 = .ok (.isub, 1) := by decide +kernel
theorem d14_25 : decode jdk_42_method_92_code 25 = .ok (.istore 4, 2) := by decide +kernel
theorem d14_27 : decode jdk_42_method_92_code 27 = .ok (.aload_n 0, 1) := by decide +kernel
theorem d14_28 : decode jdk_42_method_92_code 28 = .ok (.invokevirtual 492, 3) := by decide +kernel
theorem d14_31 : decode jdk_42_method_92_code 31 = .ok (.ifCond .eq 16, 3) := by decide +kernel
theorem d14_34 : decode jdk_42_method_92_code 34 = .ok (.aload_n 0, 1) := by decide +kernel
theorem d14_35 : decode jdk_42_method_92_code 35 = .ok (.getfield 9, 3) := by decide +kernel
theorem d14_38 : decode jdk_42_method_92_code 38 = .ok (.iload_n 1, 1) := by decide +kernel
theorem d14_39 : decode jdk_42_method_92_code 39 = .ok (.iload 4, 2) := by decide +kernel
theorem d14_41 : decode jdk_42_method_92_code 41 = .ok (.invokestatic 685, 3) := by decide +kernel
theorem d14_44 : decode jdk_42_method_92_code 44 = .ok (.goto 13, 3) := by decide +kernel
theorem d14_57 : decode jdk_42_method_92_code 57 = .ok (.areturn, 1) := by decide +kernel
theorem own_pn_rmSub2 : plainName "java/lang/String" = true := by first | (simp [plainName, overriddenIn]; done) | decide +kernel
theorem own_ef_rmSub2 (m : MethodId) (a1 : Addr) (p1 : Int32) (p2 : Int32) : entryFrame m #[(.ref a1), (.int p1), (.int p2)] 5 = (mkF m 0 #[.val (.ref a1), .val (.int p1), .val (.int p2), .unset, .unset] []) := by first | (simp [entryFrame, mkF, argsToLocals, Value.category]; done) | rfl
set_option maxRecDepth 65536 in
set_option maxHeartbeats 40000000 in
theorem rmSub2 (l : Launch) (Z : State) (a0 : Array Value) (hw : ∀ d ∈ tables_1, d.before a0 Z = true) (ws : List Jvm.Cond) (a1 : Addr) (cs : List Int32) (i : Nat) (p1 : Int32) (p2 : Int32) (G1 : Int32) (G3 : Value) (h0 : Heap) (n0 : Nat) (Z0 : n0 ≤ h0.size) (O2 : Sta Z Z.heap "java/lang/String" "COMPACT_STRINGS" "Z" (.int G1)) (P5 : ¬ (G1 = (0 : Int32))) (X00 : Old Z n0 h0) (O4 : Sta Z Z.heap "jdk/internal/util/Preconditions" "SIOOBE_FORMATTER" "Ljava/util/function/BiFunction;" G3) (rG3 : G3.isRef = true) (S1 : own_Str Z h0 a1 cs) (i1 : 1 ≤ i) (hi : i ≤ cs.length) (hcap : cs.length - i ≤ 16) (e1 : p1 = Int32.ofNat i) (e2 : p2 = Int32.ofNat cs.length) :
    MetFree l (⟨"java/lang/String", "substring", "(II)Ljava/lang/String;"⟩ : MethodName) (head1 (Jvm.Cond.code (⟨"java/lang/String", "substring", "(II)Ljava/lang/String;"⟩ : MethodName) jdk_42_method_92_code 5 (some (.object "java/lang/String")) :: ws) ({ frames := 4, cells := 2, slots := 20, locals := 110 } : Room)) (fun a U => a = #[(.ref a1), (.int p1), (.int p2)] ∧ Z.Warmed39 U.vm ∧ U.heap = h0 ∧ CHv Z EL U.vm h0) (fun _ _ _ _ _ => True) (fun _ U o U' => ∃ v L, o = .returned v ∧ QSub Z cs i h0 n0 v U'.heap L ∧ CHr Z EL U.vm U.heap U'.vm U'.heap ∧ ReturnedEndW U o U' L ({ frames := 4, cells := 2, slots := 20, locals := 110 } : Room).cells ({ frames := 4, cells := 2, slots := 20, locals := 110 } : Room).slots) := by
  refine MetFree.of_bodySF (plainFor_of_name own_pn_rmSub2) hisR ?_
  intro p e s m args below meth c s₁ Bd hml0 hP hK
  obtain ⟨hargs, hZ, hh, hC0⟩ := hP
  have hx := Bd.exec
  have hby := Bd.bytes
  have hml : c.maxLocals = 5 := hml0
  have hown : s.vm.findClass "java/lang/String" = some m.cls := findClass_of_methodNamed Bd.named
  have hnm := (name_of_methodNamed Bd.named Bd.method).1
  have hlock : meth.locks = false := Bd.notSynchronized
  have hret0 := Bd.returns
  have hZ : Z.Warmed39 (s.setVm s.vm).vm := hZ
  have hown : (s.setVm s.vm).vm.findClass "java/lang/String" = some m.cls := hown
  have hEL := own_EL hw
  have hwS := own_wS hw
  have C0 := CHr.refl hC0
  have X0 : Stand p l e ({ frames := 4, cells := 2, slots := 20, locals := 110 } : Room) (s.setVm s.vm) m args below meth c s₁ [] 0 0 := Stand.of_body Bd
  have e0 : s₁.heap = h0 := by rw [← hh, Bd.state]; rfl
  have N0 := Fr.nil n0
  have pre0 : ∀ t, Steps p.tables e below (s₁.setTop (mkF m 0 #[.val (.ref a1), .val (.int p1), .val (.int p2), .unset, .unset] [])) t → Steps p.tables e below (s₁.setTop (entryFrame m args 5)) t := fun t k => castTop (by rw [hargs]; exact own_ef_rmSub2 m a1 p1 p2) k
  have hS0 := (State.WarmedH.refl s).since 0
  clear Bd
  have hln : ∀ d ∈ StrChars.Road.wordsLen, d.before a0 Z = true := fun d hd => hw d ((by decide +kernel : ∀ d ∈ StrChars.Road.wordsLen, d ∈ tables_1) d hd)
  obtain ⟨s1, s2, s3, s4, t1, kb1, s5, s6⟩ := id S1
  obtain ⟨cq89, kq89, q89a, q89b, q89c⟩ := isOf hZ e0 s3
  obtain ⟨v89, vmx89, ⟨T89, L89, k89, n89⟩, -, X89, ⟨Lc89, hQ89, l89, y89, z89⟩, st89⟩ := X0.virtualBack hx (y := (⟨"java/lang/String", "length", "()I"⟩ : MethodName)) (z := (⟨"java/lang/String", "length", "()I"⟩ : MethodName)) hown (mvT hZ (hw _ (List.mem_of_getElem? (i := 78) rfl))) (mvT hZ (hw _ (List.mem_of_getElem? (i := 64) rfl))) (notFace_of_selects (args := #[]) (mvT hZ (hw _ (List.mem_of_getElem? (i := 66) rfl)))) (mvT hZ (hw _ (List.mem_of_getElem? (i := 66) rfl))) (mvT hZ (hw _ (List.mem_of_getElem? (i := 65) rfl))) (by decide) (StrChars.Road.lenW (W := 0) hZ hln (kI := 4) (hw _ (List.mem_of_getElem? (i := 6) rfl)) s3 s5 s4 s6 (StrChars.Road.codOf rfl (fun c hc => (s1 c hc).2)) (up _ s1) (O2.ext X00.2) P5 s2 (by decide) (by decide)) q89a q89c (g := (mkF m 1 #[.val (.ref a1), .val (.int p1), .val (.int p2), .unset, .unset] [(.ref a1)])) rfl (by rw [hml]; rfl) (Steps.refl _) (argsL := []) (rest := []) (lenOf own_pd6 rfl) rfl (by show 2 * 0 + _ ≤ _; exact Nat.le_of_eq rfl) (hb hby d14_1) (fun _ _ => ⟨rfl, e0, (by decide : 0 + 0 ≤ _), (by decide : 0 + 0 ≤ _)⟩)
  dsimp only [Pt.U, Pt.locs, Pt.cells, Pt.slots] at X89 l89 y89 z89 st89 hQ89
  subst l89 y89 z89
  obtain ⟨rfl, rfl, eh89⟩ := hQ89
  have Nq89 : Fr n0 ([] : List Loc) := Fr.nil n0
  have N89 := Fr.app N0 Nq89
  obtain ⟨v90, vmx90, ⟨T90, L90, k90, n90⟩, -, X90, ⟨Lc90, hQ90, l90, y90, z90⟩, st90⟩ := Jvm.LawKit.callS X89 hx (y := (⟨"java/lang/String", "checkBoundsBeginEnd", "(III)V"⟩ : MethodName)) hown (mvT hZ (hw _ (List.mem_of_getElem? (i := 84) rfl))) (mvT hZ (hw _ (List.mem_of_getElem? (i := 85) rfl))) (mvT hZ (hw _ (List.mem_of_getElem? (i := 7) rfl))) (mvT hZ (hw _ (List.mem_of_getElem? (i := 86) rfl))) (by decide) (backOf (W := 0) (rmCbe l Z a0 hw [] p1 p2 (Int32.ofNat cs.length) G3 h0 n0 Z0 O4 rG3 X00 (by rw [e1]; exact own_nn (by omega)) (by rw [e1, e2, own_lt (by omega) (by omega)]; omega) (by rw [e2]; exact fun q => Int32.lt_irrefl q)) hZ (hw _ (List.mem_of_getElem? (i := 86) rfl)) (hw _ (List.mem_of_getElem? (i := 7) rfl)) (by decide) (by decide)) (g := (mkF m 8 #[.val (.ref a1), .val (.int p1), .val (.int p2), .val (.int (Int32.ofNat cs.length)), .unset] [(.int (Int32.ofNat cs.length)), (.int p2), (.int p1)])) rfl (by rw [hml]; rfl) (argsL := [(.int p1), (.int p2), (.int (Int32.ofNat cs.length))]) (rest := []) (lenOf own_pd7 rfl) rfl (by show 2 * 0 + _ ≤ _; exact Nat.le_of_eq rfl) (hb hby d14_8) (fun _ _ => ⟨rfl, eh89, (by decide : 0 + 0 ≤ _), (by decide : 0 + 0 ≤ _)⟩)
  dsimp only [Pt.U, Pt.locs, Pt.cells, Pt.slots] at X90 l90 y90 z90 st90 hQ90
  subst l90 y90 z90
  obtain ⟨rfl, Nq90, eh90⟩ := hQ90
  have N90 := Fr.app N89 Nq90
  obtain ⟨cq91, kq91, q91a, q91b, q91c⟩ := isOf hZ eh90 s3
  obtain ⟨v91, vmx91, ⟨T91, L91, k91, n91⟩, -, X91, ⟨Lc91, hQ91, l91, y91, z91⟩, st91⟩ := X90.virtualBack hx (y := (⟨"java/lang/String", "isLatin1", "()Z"⟩ : MethodName)) (z := (⟨"java/lang/String", "isLatin1", "()Z"⟩ : MethodName)) hown (mvT hZ (hw _ (List.mem_of_getElem? (i := 92) rfl))) (mvT hZ (hw _ (List.mem_of_getElem? (i := 93) rfl))) (notFace_of_selects (args := #[]) (mvT hZ (hw _ (List.mem_of_getElem? (i := 95) rfl)))) (mvT hZ (hw _ (List.mem_of_getElem? (i := 95) rfl))) (mvT hZ (hw _ (List.mem_of_getElem? (i := 94) rfl))) (by decide) (backOf (W := 0) (rmIsL l Z a0 hw [] a1 G1 h0 n0 Z0 O2 P5 X00 s4) hZ (hw _ (List.mem_of_getElem? (i := 96) rfl)) (hw _ (List.mem_of_getElem? (i := 7) rfl)) (by decide) (by decide)) q91a q91c (g := (mkF m 28 #[.val (.ref a1), .val (.int p1), .val (.int p2), .val (.int (Int32.ofNat cs.length)), .val (.int (p2 - p1))] [(.ref a1)])) rfl (by rw [hml]; rfl) (Steps.refl _) (argsL := []) (rest := []) (lenOf own_pd8 rfl) rfl (by show 2 * 0 + _ ≤ _; exact Nat.le_of_eq rfl) (hb hby d14_28) (fun _ _ => ⟨rfl, eh90, (by decide : 0 + 0 ≤ _), (by decide : 0 + 0 ≤ _)⟩)
  dsimp only [Pt.U, Pt.locs, Pt.cells, Pt.slots] at X91 l91 y91 z91 st91 hQ91
  subst l91 y91 z91
  obtain ⟨rfl, Nq91, eh91⟩ := hQ91
  have N91 := Fr.app N90 Nq91
  obtain ⟨T92, X92, e92, st92⟩ := getF X91 hx hZ hown (host := "") (Or.inl (hw _ (List.mem_of_getElem? (i := 24) rfl))) Via.refl eh91 s5 (g := (mkF m 35 #[.val (.ref a1), .val (.int p1), .val (.int p2), .val (.int (Int32.ofNat cs.length)), .val (.int (p2 - p1))] [(.ref a1)])) rfl rfl (hb hby d14_35)
  obtain ⟨v93, vmx93, ⟨T93, L93, k93, n93⟩, -, Xq93, hSq93, hgr93, ⟨Lc93, hQ93, l93, y93, z93, CR93⟩, st93⟩ := callSS X92 hx (y := (⟨"java/lang/StringLatin1", "newString", "([BII)Ljava/lang/String;"⟩ : MethodName)) hown (mvT hZ (hw _ (List.mem_of_getElem? (i := 97) rfl))) (mvT hZ (hw _ (List.mem_of_getElem? (i := 98) rfl))) (mvT hZ (hw _ (List.mem_of_getElem? (i := 99) rfl))) (mvT hZ (hw _ (List.mem_of_getElem? (i := 100) rfl))) (by decide) (backOfSH (s := s) (vm0 := s.vm) (W := 0) (rmNS l Z a0 hw [] t1 kb1 cs i p1 (p2 - p1) h0 n0 Z0 s1 s6 s2 i1 hi hcap e1 (by rw [e1, e2]; exact own_subN hi (by omega))) hZ (hw _ (List.mem_of_getElem? (i := 100) rfl)) (hw _ (List.mem_of_getElem? (i := 99) rfl)) (by decide) (by decide) hEL C0.1) (g := (mkF m 41 #[.val (.ref a1), .val (.int p1), .val (.int p2), .val (.int (Int32.ofNat cs.length)), .val (.int (p2 - p1))] [(.int (p2 - p1)), (.int p1), (.ref t1)])) rfl (by rw [hml]; rfl) (argsL := [(.ref t1), (.int p1), (.int (p2 - p1))]) (rest := []) (lenOf own_pd9 rfl) rfl (by show 2 * 0 + _ ≤ _; exact Nat.le_of_eq rfl) (hb hby d14_41) (fun _ _ => ⟨rfl, e92, (by decide : 0 + 2 ≤ _), (by decide : 0 + 20 ≤ _)⟩)
  dsimp only [Pt.U, Pt.locs, Pt.cells, Pt.slots] at Xq93 hSq93 hgr93 l93 y93 z93 st93 hQ93 CR93
  subst l93 y93 z93
  obtain ⟨X93, hS93, hZ93, hown93⟩ := rebS (s := s) (vm0 := s.vm) hS0 (by rw [e92]; exact (Nat.zero_le _)) Xq93 hSq93 hgr93 hZ hown
  obtain ⟨b, rfl, Nq93, E93, SB⟩ := hQ93
  have N93 := Fr.app N91 Nq93
  have Z94 : n0 ≤ T93.heap.size := Nat.le_trans Z0 E93.1
  have K95 : Keep h0 T93.heap [] := (Keep.refl h0 []).ext E93
  have C96 := (C0.trans CR93)
  obtain ⟨fs, hr, hrun, hended, hW⟩ := Stand.leaveW (s := s) (vm₁ := T93.vm) X93 hS93 (by rw [show T93.heap = _ from rfl]; exact (Nat.le_refl _)) (v := some (.ref b)) (fun h => by rw [hret0] at h; cases h)
  refine ⟨_, _, pre0 _ ?_, hrun, hended, _, _, rfl, ?_, own_chr (T := T93) hh rfl (C96.trans (CHv.at (s := s) (vm0 := T93.vm) X93 hZ93 hEL C96.1)), own_wmono hW (by decide) (by decide)⟩
  · show Steps p.tables e below (s₁.setTop (mkF m 0 #[.val (.ref a1), .val (.int p1), .val (.int p2), .unset, .unset] [])) _
    refine XS.aloadN X0.here hx rfl (hb hby d14_0) rfl rfl ?_
    show Steps p.tables e below (s₁.setTop (mkF m 1 #[.val (.ref a1), .val (.int p1), .val (.int p2), .unset, .unset] [(.ref a1)])) _
    refine st89.trans ?_
    show Steps p.tables e below (T89.setTop (mkF m 4 #[.val (.ref a1), .val (.int p1), .val (.int p2), .unset, .unset] [(.int (Int32.ofNat cs.length))])) _
    refine XS.istoreN X89.here hx rfl (hb hby d14_4) rfl (l' := #[.val (.ref a1), .val (.int p1), .val (.int p2), .val (.int (Int32.ofNat cs.length)), .unset]) rfl ?_
    show Steps p.tables e below (T89.setTop (mkF m 5 #[.val (.ref a1), .val (.int p1), .val (.int p2), .val (.int (Int32.ofNat cs.length)), .unset] [])) _
    refine XS.iloadN X89.here hx rfl (hb hby d14_5) rfl ?_
    show Steps p.tables e below (T89.setTop (mkF m 6 #[.val (.ref a1), .val (.int p1), .val (.int p2), .val (.int (Int32.ofNat cs.length)), .unset] [(.int p1)])) _
    refine XS.iloadN X89.here hx rfl (hb hby d14_6) rfl ?_
    show Steps p.tables e below (T89.setTop (mkF m 7 #[.val (.ref a1), .val (.int p1), .val (.int p2), .val (.int (Int32.ofNat cs.length)), .unset] [(.int p2), (.int p1)])) _
    refine XS.iloadN X89.here hx rfl (hb hby d14_7) rfl ?_
    show Steps p.tables e below (T89.setTop (mkF m 8 #[.val (.ref a1), .val (.int p1), .val (.int p2), .val (.int (Int32.ofNat cs.length)), .unset] [(.int (Int32.ofNat cs.length)), (.int p2), (.int p1)])) _
    refine st90 _ ?_
    show Steps p.tables e below (T90.setTop (mkF m 11 #[.val (.ref a1), .val (.int p1), .val (.int p2), .val (.int (Int32.ofNat cs.length)), .unset] [])) _
    refine XS.iloadN X90.here hx rfl (hb hby d14_11) rfl ?_
    show Steps p.tables e below (T90.setTop (mkF m 12 #[.val (.ref a1), .val (.int p1), .val (.int p2), .val (.int (Int32.ofNat cs.length)), .unset] [(.int p1)])) _
    refine XS.ifYes X90.here hx rfl (pc0 := 12) (pc' := 22) rfl (hb hby d14_12) rfl ((if0 _ _).trans (feq (by rw [e1]; intro q; exact absurd ((own_eq (b := 0) (by omega) (by omega)).mp q) (by omega))).2) (by decide) (by decide) ?_
    show Steps p.tables e below (T90.setTop (mkF m 22 #[.val (.ref a1), .val (.int p1), .val (.int p2), .val (.int (Int32.ofNat cs.length)), .unset] [])) _
    refine XS.iloadN X90.here hx rfl (hb hby d14_22) rfl ?_
    show Steps p.tables e below (T90.setTop (mkF m 23 #[.val (.ref a1), .val (.int p1), .val (.int p2), .val (.int (Int32.ofNat cs.length)), .unset] [(.int p2)])) _
    refine XS.iloadN X90.here hx rfl (hb hby d14_23) rfl ?_
    show Steps p.tables e below (T90.setTop (mkF m 24 #[.val (.ref a1), .val (.int p1), .val (.int p2), .val (.int (Int32.ofNat cs.length)), .unset] [(.int p1), (.int p2)])) _
    refine XS.isub X90.here hx rfl (hb hby d14_24) rfl ?_
    show Steps p.tables e below (T90.setTop (mkF m 25 #[.val (.ref a1), .val (.int p1), .val (.int p2), .val (.int (Int32.ofNat cs.length)), .unset] [(.int (p2 - p1))])) _
    refine XS.istore X90.here hx rfl (hb hby d14_25) rfl (l' := #[.val (.ref a1), .val (.int p1), .val (.int p2), .val (.int (Int32.ofNat cs.length)), .val (.int (p2 - p1))]) rfl ?_
    show Steps p.tables e below (T90.setTop (mkF m 27 #[.val (.ref a1), .val (.int p1), .val (.int p2), .val (.int (Int32.ofNat cs.length)), .val (.int (p2 - p1))] [])) _
    refine XS.aloadN X90.here hx rfl (hb hby d14_27) rfl rfl ?_
    show Steps p.tables e below (T90.setTop (mkF m 28 #[.val (.ref a1), .val (.int p1), .val (.int p2), .val (.int (Int32.ofNat cs.length)), .val (.int (p2 - p1))] [(.ref a1)])) _
    refine st91.trans ?_
    show Steps p.tables e below (T91.setTop (mkF m 31 #[.val (.ref a1), .val (.int p1), .val (.int p2), .val (.int (Int32.ofNat cs.length)), .val (.int (p2 - p1))] [(.int (1 : Int32))])) _
    refine XS.ifNo X91.here hx rfl (hb hby d14_31) rfl ((if0 _ _).trans (feq (by decide)).1) ?_
    show Steps p.tables e below (T91.setTop (mkF m 34 #[.val (.ref a1), .val (.int p1), .val (.int p2), .val (.int (Int32.ofNat cs.length)), .val (.int (p2 - p1))] [])) _
    refine XS.aloadN X91.here hx rfl (hb hby d14_34) rfl rfl ?_
    show Steps p.tables e below (T91.setTop (mkF m 35 #[.val (.ref a1), .val (.int p1), .val (.int p2), .val (.int (Int32.ofNat cs.length)), .val (.int (p2 - p1))] [(.ref a1)])) _
    refine st92 _ ?_
    show Steps p.tables e below (T92.setTop (mkF m 38 #[.val (.ref a1), .val (.int p1), .val (.int p2), .val (.int (Int32.ofNat cs.length)), .val (.int (p2 - p1))] [(.ref t1)])) _
    refine XS.iloadN X92.here hx rfl (hb hby d14_38) rfl ?_
    show Steps p.tables e below (T92.setTop (mkF m 39 #[.val (.ref a1), .val (.int p1), .val (.int p2), .val (.int (Int32.ofNat cs.length)), .val (.int (p2 - p1))] [(.int p1), (.ref t1)])) _
    refine XS.iload X92.here hx rfl (hb hby d14_39) rfl ?_
    show Steps p.tables e below (T92.setTop (mkF m 41 #[.val (.ref a1), .val (.int p1), .val (.int p2), .val (.int (Int32.ofNat cs.length)), .val (.int (p2 - p1))] [(.int (p2 - p1)), (.int p1), (.ref t1)])) _
    refine st93.trans ?_
    show Steps p.tables e below (T93.setTop (mkF m 44 #[.val (.ref a1), .val (.int p1), .val (.int p2), .val (.int (Int32.ofNat cs.length)), .val (.int (p2 - p1))] [(.ref b)])) _
    refine XS.goto X93.here hx rfl (pc0 := 44) (pc' := 57) rfl (hb hby d14_44) (by decide) (by decide) ?_
    show Steps p.tables e below (T93.setTop (mkF m 57 #[.val (.ref a1), .val (.int p1), .val (.int p2), .val (.int (Int32.ofNat cs.length)), .val (.int (p2 - p1))] [(.ref b)])) _
    exact retR X93 hx hret0 rfl rfl rfl (hb hby d14_57) hr
  · show QSub Z cs i h0 n0 _ T93.heap _
    exact ⟨b, rfl, N93, own_ext K95, SB⟩
theorem d13_0 : decode jdk_42_method_91_code 0 = .ok (.aload_n 0, 1) := by decide +kernel
theorem d13_1 : decode jdk_42_method_91_code 1 = .ok (.iload_n 1, 1) := by decide +kernel
theorem d13_2 : decode jdk_42_method_91_code 2 = .ok (.aload_n 0, 1) := by decide +kernel
theorem d13_3 : decode jdk_42_method_91_code 3 = .ok (.invokevirtual 505, 3) := by decide +kernel
theorem d13_6 : decode jdk_42_method_91_code 6 = .ok (.invokevirtual 681, 3) := by decide +kernel
theorem d13_9 : decode jdk_42_method_91_code 9 = .ok (.areturn, 1) := by decide +kernel
theorem own_pn_rmSub1 : plainName "java/lang/String" = true := by first | (simp [plainName, overriddenIn]; done) | decide +kernel
theorem own_ef_rmSub1 (m : MethodId) (a1 : Addr) (p1 : Int32) : entryFrame m #[(.ref a1), (.int p1)] 2 = (mkF m 0 #[.val (.ref a1), .val (.int p1)] []) := by first | (simp [entryFrame, mkF, argsToLocals, Value.category]; done) | rfl
set_option maxRecDepth 65536 in
set_option maxHeartbeats 40000000 in
theorem rmSub1 (l : Launch) (Z : State) (a0 : Array Value) (hw : ∀ d ∈ tables_1, d.before a0 Z = true) (ws : List Jvm.Cond) (a1 : Addr) (cs : List Int32) (i : Nat) (p1 : Int32) (G1 : Int32) (G3 : Value) (h0 : Heap) (n0 : Nat) (Z0 : n0 ≤ h0.size) (O2 : Sta Z Z.heap "java/lang/String" "COMPACT_STRINGS" "Z" (.int G1)) (P5 : ¬ (G1 = (0 : Int32))) (X00 : Old Z n0 h0) (O4 : Sta Z Z.heap "jdk/internal/util/Preconditions" "SIOOBE_FORMATTER" "Ljava/util/function/BiFunction;" G3) (rG3 : G3.isRef = true) (S1 : own_Str Z h0 a1 cs) (i1 : 1 ≤ i) (hi : i ≤ cs.length) (hcap : cs.length - i ≤ 16) (e1 : p1 = Int32.ofNat i) :
    MetFree l (⟨"java/lang/String", "substring", "(I)Ljava/lang/String;"⟩ : MethodName) (head1 (Jvm.Cond.code (⟨"java/lang/String", "substring", "(I)Ljava/lang/String;"⟩ : MethodName) jdk_42_method_91_code 2 (some (.object "java/lang/String")) :: ws) ({ frames := 5, cells := 2, slots := 20, locals := 130 } : Room)) (fun a U => a = #[(.ref a1), (.int p1)] ∧ Z.Warmed39 U.vm ∧ U.heap = h0 ∧ CHv Z EL U.vm h0) (fun _ _ _ _ _ => True) (fun _ U o U' => ∃ v L, o = .returned v ∧ QSub Z cs i h0 n0 v U'.heap L ∧ CHr Z EL U.vm U.heap U'.vm U'.heap ∧ ReturnedEndW U o U' L ({ frames := 5, cells := 2, slots := 20, locals := 130 } : Room).cells ({ frames := 5, cells := 2, slots := 20, locals := 130 } : Room).slots) := by
  refine MetFree.of_bodySF (plainFor_of_name own_pn_rmSub1) hisR ?_
  intro p e s m args below meth c s₁ Bd hml0 hP hK
  obtain ⟨hargs, hZ, hh, hC0⟩ := hP
  have hx := Bd.exec
  have hby := Bd.bytes
  have hml : c.maxLocals = 2 := hml0
  have hown : s.vm.findClass "java/lang/String" = some m.cls := findClass_of_methodNamed Bd.named
  have hnm := (name_of_methodNamed Bd.named Bd.method).1
  have hlock : meth.locks = false := Bd.notSynchronized
  have hret0 := Bd.returns
  have hZ : Z.Warmed39 (s.setVm s.vm).vm := hZ
  have hown : (s.setVm s.vm).vm.findClass "java/lang/String" = some m.cls := hown
  have hEL := own_EL hw
  have hwS := own_wS hw
  have C0 := CHr.refl hC0
  have X0 : Stand p l e ({ frames := 5, cells := 2, slots := 20, locals := 130 } : Room) (s.setVm s.vm) m args below meth c s₁ [] 0 0 := Stand.of_body Bd
  have e0 : s₁.heap = h0 := by rw [← hh, Bd.state]; rfl
  have N0 := Fr.nil n0
  have pre0 : ∀ t, Steps p.tables e below (s₁.setTop (mkF m 0 #[.val (.ref a1), .val (.int p1)] [])) t → Steps p.tables e below (s₁.setTop (entryFrame m args 2)) t := fun t k => castTop (by rw [hargs]; exact own_ef_rmSub1 m a1 p1) k
  have hS0 := (State.WarmedH.refl s).since 0
  clear Bd
  have hln : ∀ d ∈ StrChars.Road.wordsLen, d.before a0 Z = true := fun d hd => hw d ((by decide +kernel : ∀ d ∈ StrChars.Road.wordsLen, d ∈ tables_1) d hd)
  obtain ⟨s1, s2, s3, s4, t1, kb1, s5, s6⟩ := id S1
  obtain ⟨cq97, kq97, q97a, q97b, q97c⟩ := isOf hZ e0 s3
  obtain ⟨v97, vmx97, ⟨T97, L97, k97, n97⟩, -, X97, ⟨Lc97, hQ97, l97, y97, z97⟩, st97⟩ := X0.virtualBack hx (y := (⟨"java/lang/String", "length", "()I"⟩ : MethodName)) (z := (⟨"java/lang/String", "length", "()I"⟩ : MethodName)) hown (mvT hZ (hw _ (List.mem_of_getElem? (i := 78) rfl))) (mvT hZ (hw _ (List.mem_of_getElem? (i := 64) rfl))) (notFace_of_selects (args := #[]) (mvT hZ (hw _ (List.mem_of_getElem? (i := 66) rfl)))) (mvT hZ (hw _ (List.mem_of_getElem? (i := 66) rfl))) (mvT hZ (hw _ (List.mem_of_getElem? (i := 65) rfl))) (by decide) (StrChars.Road.lenW (W := 2) hZ hln (kI := 4) (hw _ (List.mem_of_getElem? (i := 6) rfl)) s3 s5 s4 s6 (StrChars.Road.codOf rfl (fun c hc => (s1 c hc).2)) (up _ s1) (O2.ext X00.2) P5 s2 (by decide) (by decide)) q97a q97c (g := (mkF m 3 #[.val (.ref a1), .val (.int p1)] [(.ref a1), (.int p1), (.ref a1)])) rfl (by rw [hml]; rfl) (Steps.refl _) (argsL := []) (rest := [(.int p1), (.ref a1)]) (lenOf own_pd6 rfl) rfl (by show 2 * 0 + _ ≤ _; exact Nat.le_of_eq rfl) (hb hby d13_3) (fun _ _ => ⟨rfl, e0, (by decide : 0 + 0 ≤ _), (by decide : 0 + 0 ≤ _)⟩)
  dsimp only [Pt.U, Pt.locs, Pt.cells, Pt.slots] at X97 l97 y97 z97 st97 hQ97
  subst l97 y97 z97
  obtain ⟨rfl, rfl, eh97⟩ := hQ97
  have Nq97 : Fr n0 ([] : List Loc) := Fr.nil n0
  have N97 := Fr.app N0 Nq97
  obtain ⟨cq98, kq98, q98a, q98b, q98c⟩ := isOf hZ eh97 s3
  obtain ⟨v98, vmx98, ⟨T98, L98, k98, n98⟩, -, Xq98, hSq98, hgr98, ⟨Lc98, hQ98, l98, y98, z98, CR98⟩, st98⟩ := X97.virtualBackS hx (y := (⟨"java/lang/String", "substring", "(II)Ljava/lang/String;"⟩ : MethodName)) (z := (⟨"java/lang/String", "substring", "(II)Ljava/lang/String;"⟩ : MethodName)) hown (mvT hZ (hw _ (List.mem_of_getElem? (i := 79) rfl))) (mvT hZ (hw _ (List.mem_of_getElem? (i := 80) rfl))) (notFace_of_selects (args := #[]) (mvT hZ (hw _ (List.mem_of_getElem? (i := 82) rfl)))) (mvT hZ (hw _ (List.mem_of_getElem? (i := 82) rfl))) (mvT hZ (hw _ (List.mem_of_getElem? (i := 81) rfl))) (by decide) (backOfSH (s := s) (vm0 := s.vm) (W := 0) (rmSub2 l Z a0 hw [] a1 cs i p1 (Int32.ofNat cs.length) G1 G3 h0 n0 Z0 O2 P5 X00 O4 rG3 S1 i1 hi hcap e1 rfl) hZ (hw _ (List.mem_of_getElem? (i := 83) rfl)) (hw _ (List.mem_of_getElem? (i := 7) rfl)) (by decide) (by decide) hEL C0.1) q98a q98c (g := (mkF m 6 #[.val (.ref a1), .val (.int p1)] [(.int (Int32.ofNat cs.length)), (.int p1), (.ref a1)])) rfl (by rw [hml]; rfl) (Steps.refl _) (argsL := [(.int p1), (.int (Int32.ofNat cs.length))]) (rest := []) (lenOf own_pd10 rfl) rfl (by show 2 * 0 + _ ≤ _; exact Nat.le_of_eq rfl) (hb hby d13_6) (fun _ _ => ⟨rfl, eh97, (by decide : 0 + 2 ≤ _), (by decide : 0 + 20 ≤ _)⟩)
  dsimp only [Pt.U, Pt.locs, Pt.cells, Pt.slots] at Xq98 hSq98 hgr98 l98 y98 z98 st98 hQ98 CR98
  subst l98 y98 z98
  obtain ⟨X98, hS98, hZ98, hown98⟩ := rebS (s := s) (vm0 := s.vm) hS0 (by rw [eh97]; exact (Nat.zero_le _)) Xq98 hSq98 hgr98 hZ hown
  obtain ⟨b, rfl, Nq98, E98, SB⟩ := hQ98
  have N98 := Fr.app N97 Nq98
  have Z99 : n0 ≤ T98.heap.size := Nat.le_trans Z0 E98.1
  have K100 : Keep h0 T98.heap [] := (Keep.refl h0 []).ext E98
  have C101 := (C0.trans CR98)
  obtain ⟨fs, hr, hrun, hended, hW⟩ := Stand.leaveW (s := s) (vm₁ := T98.vm) X98 hS98 (by rw [show T98.heap = _ from rfl]; exact (Nat.le_refl _)) (v := some (.ref b)) (fun h => by rw [hret0] at h; cases h)
  refine ⟨_, _, pre0 _ ?_, hrun, hended, _, _, rfl, ?_, own_chr (T := T98) hh rfl (C101.trans (CHv.at (s := s) (vm0 := T98.vm) X98 hZ98 hEL C101.1)), own_wmono hW (by decide) (by decide)⟩
  · show Steps p.tables e below (s₁.setTop (mkF m 0 #[.val (.ref a1), .val (.int p1)] [])) _
    refine XS.aloadN X0.here hx rfl (hb hby d13_0) rfl rfl ?_
    show Steps p.tables e below (s₁.setTop (mkF m 1 #[.val (.ref a1), .val (.int p1)] [(.ref a1)])) _
    refine XS.iloadN X0.here hx rfl (hb hby d13_1) rfl ?_
    show Steps p.tables e below (s₁.setTop (mkF m 2 #[.val (.ref a1), .val (.int p1)] [(.int p1), (.ref a1)])) _
    refine XS.aloadN X0.here hx rfl (hb hby d13_2) rfl rfl ?_
    show Steps p.tables e below (s₁.setTop (mkF m 3 #[.val (.ref a1), .val (.int p1)] [(.ref a1), (.int p1), (.ref a1)])) _
    refine st97.trans ?_
    show Steps p.tables e below (T97.setTop (mkF m 6 #[.val (.ref a1), .val (.int p1)] [(.int (Int32.ofNat cs.length)), (.int p1), (.ref a1)])) _
    refine st98.trans ?_
    show Steps p.tables e below (T98.setTop (mkF m 9 #[.val (.ref a1), .val (.int p1)] [(.ref b)])) _
    exact retR X98 hx hret0 rfl rfl rfl (hb hby d13_9) hr
  · show QSub Z cs i h0 n0 _ T98.heap _
    exact ⟨b, rfl, N98, own_ext K100, SB⟩
theorem d9_0 : decode jdk_30_method_1_code 0 = .ok (.aload_n 0, 1) := by decide +kernel
theorem d9_1 : decode jdk_30_method_1_code 1 = .ok (.invokespecial 1, 3) := by decide +kernel
theorem d9_4 : decode jdk_30_method_1_code 4 = .ok (.return_, 1) := by decide +kernel
def Qrm9 (h0 : Heap) (n0 : Nat) (v : Option Value) (h : Heap) (L : List Loc) : Prop := v = none ∧ Fr n0 L ∧ h = h0
theorem own_pn_rm9 : plainName "java/lang/Record" = true := by first | (simp [plainName, overriddenIn]; done) | decide +kernel
theorem own_ef_rm9 (m : MethodId) (a1 : Addr) : entryFrame m #[(.ref a1)] 1 = (mkF m 0 #[.val (.ref a1)] []) := by first | (simp [entryFrame, mkF, argsToLocals, Value.category]; done) | rfl
set_option maxRecDepth 65536 in
set_option maxHeartbeats 40000000 in
theorem rm9 (l : Launch) (Z : State) (a0 : Array Value) (hw : ∀ d ∈ tables_1, d.before a0 Z = true) (ws : List Jvm.Cond) (a1 : Addr) (h0 : Heap) (n0 : Nat) (Z0 : n0 ≤ h0.size) :
    MetFree l (⟨"java/lang/Record", "<init>", "()V"⟩ : MethodName) (head1 (Jvm.Cond.code (⟨"java/lang/Record", "<init>", "()V"⟩ : MethodName) jdk_30_method_1_code 1 none :: ws) ({ frames := 1, cells := 0, slots := 0, locals := 12 } : Room)) (fun a U => a = #[(.ref a1)] ∧ Z.Warmed39 U.vm ∧ U.heap = h0) (fun _ _ _ _ _ => True) (fun _ U o U' => ∃ v L, o = .returned v ∧ Qrm9 h0 n0 v U'.heap L ∧ FrameEnd U o U' L ({ frames := 1, cells := 0, slots := 0, locals := 12 } : Room).cells ({ frames := 1, cells := 0, slots := 0, locals := 12 } : Room).slots) := by
  refine MetFree.of_bodySF (plainFor_of_name own_pn_rm9) hisR ?_
  intro p e s m args below meth c s₁ Bd hml0 hP hK
  obtain ⟨hargs, hZ, hh⟩ := hP
  have hx := Bd.exec
  have hby := Bd.bytes
  have hml : c.maxLocals = 1 := hml0
  have hown : s.vm.findClass "java/lang/Record" = some m.cls := findClass_of_methodNamed Bd.named
  have hnm := (name_of_methodNamed Bd.named Bd.method).1
  have hlock : meth.locks = false := Bd.notSynchronized
  have hret0 := Bd.returns
  have X0 : Stand p l e ({ frames := 1, cells := 0, slots := 0, locals := 12 } : Room) s m args below meth c s₁ [] 0 0 := Stand.of_body Bd
  have e0 : s₁.heap = h0 := by rw [← hh, Bd.state]; rfl
  have N0 := Fr.nil n0
  have pre0 : ∀ t, Steps p.tables e below (s₁.setTop (mkF m 0 #[.val (.ref a1)] [])) t → Steps p.tables e below (s₁.setTop (entryFrame m args 1)) t := fun t k => castTop (by rw [hargs]; exact own_ef_rm9 m a1) k
  clear Bd
  obtain ⟨T102, X102, e102, st102⟩ := initO X0 hx hZ hown (hw _ (List.mem_of_getElem? (i := 49) rfl)) (hw _ (List.mem_of_getElem? (i := 16) rfl)) (hw _ (List.mem_of_getElem? (i := 17) rfl)) e0 (g := (mkF m 1 #[.val (.ref a1)] [(.ref a1)])) rfl (by rw [hml]; rfl) rfl (hb hby d9_1) (by decide) (W := 0) (by show 2 * 0 + _ ≤ _; exact Nat.le_of_eq rfl) (by decide)
  obtain ⟨fs, hr, hrun, hended, hW, hsame⟩ := X102.leave (v := none) (fun _ => rfl)
  refine ⟨_, _, pre0 _ ?_, hrun, hended, _, _, rfl, ?_, ⟨_, rfl⟩, hW, hsame.mono (by decide) (by decide)⟩
  · show Steps p.tables e below (s₁.setTop (mkF m 0 #[.val (.ref a1)] [])) _
    refine XS.aloadN X0.here hx rfl (hb hby d9_0) rfl rfl ?_
    show Steps p.tables e below (s₁.setTop (mkF m 1 #[.val (.ref a1)] [(.ref a1)])) _
    refine st102 _ ?_
    show Steps p.tables e below (T102.setTop (mkF m 4 #[.val (.ref a1)] [])) _
    exact X102.returnOut hx hret0 (hb hby d9_4) hr
  · show Qrm9 h0 n0 _ T102.heap _
    rw [e102]
    exact ⟨rfl, N0, rfl⟩
def Fs (Z : State) (h : Heap) (a : Addr) (x1 : Value) (x2 : Value) (x3 : Value) (x4 : Value) : Prop := Exa Z h a "com/example/test_rollback/testrollback/Dialect$Counter" ∧ Fld Z h a "com/example/test_rollback/testrollback/Dialect$Counter" "table" "Ljava/lang/String;" x1 ∧ Fld Z h a "com/example/test_rollback/testrollback/Dialect$Counter" "name" "Ljava/lang/String;" x2 ∧ Fld Z h a "com/example/test_rollback/testrollback/Dialect$Counter" "next" "Ljava/lang/String;" x3 ∧ Fld Z h a "com/example/test_rollback/testrollback/Dialect$Counter" "restart" "Ljava/lang/String;" x4
theorem d8_0 : decode prog_10_method_1_code 0 = .ok (.aload_n 0, 1) := by decide +kernel
theorem d8_1 : decode prog_10_method_1_code 1 = .ok (.invokespecial 1, 3) := by decide +kernel
theorem d8_4 : decode prog_10_method_1_code 4 = .ok (.aload_n 0, 1) := by decide +kernel
theorem d8_5 : decode prog_10_method_1_code 5 = .ok (.aload_n 1, 1) := by decide +kernel
theorem d8_6 : decode prog_10_method_1_code 6 = .ok (.putfield 7, 3) := by decide +kernel
theorem d8_9 : decode prog_10_method_1_code 9 = .ok (.aload_n 0, 1) := by decide +kernel
theorem d8_10 : decode prog_10_method_1_code 10 = .ok (.aload_n 2, 1) := by decide +kernel
theorem d8_11 : decode prog_10_method_1_code 11 = .ok (.putfield 13, 3) := by decide +kernel
theorem d8_14 : decode prog_10_method_1_code 14 = .ok (.aload_n 0, 1) := by decide +kernel
theorem d8_15 : decode prog_10_method_1_code 15 = .ok (.aload_n 3, 1) := by decide +kernel
theorem d8_16 : decode prog_10_method_1_code 16 = .ok (.putfield 16, 3) := by decide +kernel
theorem d8_19 : decode prog_10_method_1_code 19 = .ok (.aload_n 0, 1) := by decide +kernel
theorem d8_20 : decode prog_10_method_1_code 20 = .ok (.aload 4, 2) := by decide +kernel
theorem d8_22 : decode prog_10_method_1_code 22 = .ok (.putfield 19, 3) := by decide +kernel
theorem d8_25 : decode prog_10_method_1_code 25 = .ok (.return_, 1) := by decide +kernel
def Qrm8 (Z : State) (a1 : Addr) (p0 : Value) (p1 : Value) (p2 : Value) (p3 : Value) (h0 : Heap) (n0 : Nat) (v : Option Value) (h : Heap) (L : List Loc) : Prop := v = none ∧ Fr n0 L ∧ Keep h0 h [a1] ∧ Fs Z h a1 p0 p1 p2 p3
theorem own_pn_rm8 : plainName "com/example/test_rollback/testrollback/Dialect$Counter" = true := by first | (simp [plainName, overriddenIn]; done) | decide +kernel
theorem own_ef_rm8 (m : MethodId) (a1 : Addr) (p0 : Value) (p1 : Value) (p2 : Value) (p3 : Value) (h_p0 : p0.isRef = true)  (h_p1 : p1.isRef = true)  (h_p2 : p2.isRef = true)  (h_p3 : p3.isRef = true) : entryFrame m #[(.ref a1), p0, p1, p2, p3] 5 = (mkF m 0 #[.val (.ref a1), .val p0, .val p1, .val p2, .val p3] []) := by rcases ref_cases h_p0 with rfl | ⟨_, rfl⟩ <;> rcases ref_cases h_p1 with rfl | ⟨_, rfl⟩ <;> rcases ref_cases h_p2 with rfl | ⟨_, rfl⟩ <;> rcases ref_cases h_p3 with rfl | ⟨_, rfl⟩ <;> first | (simp [entryFrame, mkF, argsToLocals, Value.category]; done) | rfl
set_option maxRecDepth 65536 in
set_option maxHeartbeats 40000000 in
theorem rm8 (l : Launch) (Z : State) (a0 : Array Value) (hw : ∀ d ∈ tables_1, d.before a0 Z = true) (ws : List Jvm.Cond) (a1 : Addr) (p0 : Value) (p1 : Value) (p2 : Value) (p3 : Value) (u0 : Value) (u1 : Value) (u2 : Value) (u3 : Value) (h0 : Heap) (n0 : Nat) (Z0 : n0 ≤ h0.size) (hr0 : p0.isRef = true) (hr1 : p1.isRef = true) (hr2 : p2.isRef = true) (hr3 : p3.isRef = true) (ge1 : n0 ≤ a1) (F : Fs Z h0 a1 u0 u1 u2 u3) :
    MetFree l (⟨"com/example/test_rollback/testrollback/Dialect$Counter", "<init>", "(Ljava/lang/String;Ljava/lang/String;Ljava/lang/String;Ljava/lang/String;)V"⟩ : MethodName) (head1 (Jvm.Cond.code (⟨"com/example/test_rollback/testrollback/Dialect$Counter", "<init>", "(Ljava/lang/String;Ljava/lang/String;Ljava/lang/String;Ljava/lang/String;)V"⟩ : MethodName) prog_10_method_1_code 5 none :: ws) ({ frames := 2, cells := 0, slots := 0, locals := 24 } : Room)) (fun a U => a = #[(.ref a1), p0, p1, p2, p3] ∧ Z.Warmed39 U.vm ∧ U.heap = h0) (fun _ _ _ _ _ => True) (fun _ U o U' => ∃ v L, o = .returned v ∧ Qrm8 Z a1 p0 p1 p2 p3 h0 n0 v U'.heap L ∧ FrameEnd U o U' L ({ frames := 2, cells := 0, slots := 0, locals := 24 } : Room).cells ({ frames := 2, cells := 0, slots := 0, locals := 24 } : Room).slots) := by
  refine MetFree.of_bodySF (plainFor_of_name own_pn_rm8) hisR ?_
  intro p e s m args below meth c s₁ Bd hml0 hP hK
  obtain ⟨hargs, hZ, hh⟩ := hP
  have hx := Bd.exec
  have hby := Bd.bytes
  have hml : c.maxLocals = 5 := hml0
  have hown : s.vm.findClass "com/example/test_rollback/testrollback/Dialect$Counter" = some m.cls := findClass_of_methodNamed Bd.named
  have hnm := (name_of_methodNamed Bd.named Bd.method).1
  have hlock : meth.locks = false := Bd.notSynchronized
  have hret0 := Bd.returns
  have X0 : Stand p l e ({ frames := 2, cells := 0, slots := 0, locals := 24 } : Room) s m args below meth c s₁ [] 0 0 := Stand.of_body Bd
  have e0 : s₁.heap = h0 := by rw [← hh, Bd.state]; rfl
  have N0 := Fr.nil n0
  have pre0 : ∀ t, Steps p.tables e below (s₁.setTop (mkF m 0 #[.val (.ref a1), .val p0, .val p1, .val p2, .val p3] [])) t → Steps p.tables e below (s₁.setTop (entryFrame m args 5)) t := fun t k => castTop (by rw [hargs]; exact own_ef_rm8 m a1 p0 p1 p2 p3 hr0 hr1 hr2 hr3) k
  clear Bd
  obtain ⟨Ex, F0, F1, F2, F3⟩ := F
  obtain ⟨v103, vmx103, ⟨T103, L103, k103, n103⟩, -, X103, ⟨Lc103, hQ103, l103, y103, z103⟩, st103⟩ := X0.specialBack hx (y := (⟨"java/lang/Record", "<init>", "()V"⟩ : MethodName)) rfl hown (mvT hZ (hw _ (List.mem_of_getElem? (i := 44) rfl))) (mvT hZ (hw _ (List.mem_of_getElem? (i := 45) rfl))) (mvT hZ (hw _ (List.mem_of_getElem? (i := 48) rfl))) (by decide) (backOf (W := 0) (rm9 l Z a0 hw [] a1 h0 n0 Z0) hZ (hw _ (List.mem_of_getElem? (i := 48) rfl)) (hw _ (List.mem_of_getElem? (i := 47) rfl)) (by decide) (by decide)) (g := (mkF m 1 #[.val (.ref a1), .val p0, .val p1, .val p2, .val p3] [(.ref a1)])) rfl (by rw [hml]; rfl) (Steps.refl _) (a := a1) (argsL := []) (rest := []) (lenOf own_pd11 rfl) rfl (by show 2 * 0 + _ ≤ _; exact Nat.le_of_eq rfl) (hb hby d8_1) (fun _ _ => ⟨rfl, e0, (by decide : 0 + 0 ≤ _), (by decide : 0 + 0 ≤ _)⟩)
  dsimp only [Pt.U, Pt.locs, Pt.cells, Pt.slots] at X103 l103 y103 z103 st103 hQ103
  subst l103 y103 z103
  obtain ⟨rfl, Nq103, eh103⟩ := hQ103
  have N103 := Fr.app N0 Nq103
  obtain ⟨T104, h104, X104, e104, W104, st104⟩ := putF X103 hx hZ hown (host := "") (Or.inl (hw _ (List.mem_of_getElem? (i := 50) rfl))) Via.refl eh103 F0 Ex (Or.inr ⟨(hw _ (List.mem_of_getElem? (i := 51) rfl)), rfl, hnm⟩) (hw _ (List.mem_of_getElem? (i := 38) rfl)) (ty := (.object "java/lang/String")) (by decide) (own_narR hr0 (by decide)) (own_fitR hr0 (by decide)) (g := (mkF m 6 #[.val (.ref a1), .val p0, .val p1, .val p2, .val p3] [p0, (.ref a1)])) rfl rfl (hb hby d8_6)
  have Z105 : n0 ≤ h104.size := Nat.le_trans Z0 (Keep.of_wr W104).1
  have K106 : Keep h0 h104 [a1] := (Keep.refl h0 [a1]).wr W104 (Or.inl (List.mem_of_getElem? (i := 0) rfl))
  have N104 := Fr.snoc X104 N103 ge1
  have f107 := F0.same W104
  have f108 := (F1.other W104 (Or.inr (slot_ne (Or.inr (hw _ (List.mem_of_getElem? (i := 53) rfl))) (Or.inr (hw _ (List.mem_of_getElem? (i := 51) rfl))) (by decide) (t := (.object "java/lang/String")) (t' := (.object "java/lang/String")) (by decide) (by decide))))
  have f109 := (Ex.wr W104)
  obtain ⟨T110, h110, X110, e110, W110, st110⟩ := putF X104 hx hZ hown (host := "") (Or.inl (hw _ (List.mem_of_getElem? (i := 52) rfl))) Via.refl e104 f108 f109 (Or.inr ⟨(hw _ (List.mem_of_getElem? (i := 53) rfl)), rfl, hnm⟩) (hw _ (List.mem_of_getElem? (i := 38) rfl)) (ty := (.object "java/lang/String")) (by decide) (own_narR hr1 (by decide)) (own_fitR hr1 (by decide)) (g := (mkF m 11 #[.val (.ref a1), .val p0, .val p1, .val p2, .val p3] [p1, (.ref a1)])) rfl rfl (hb hby d8_11)
  have Z111 : n0 ≤ h110.size := Nat.le_trans Z105 (Keep.of_wr W110).1
  have K112 : Keep h0 h110 [a1] := K106.wr W110 (Or.inl (List.mem_of_getElem? (i := 0) rfl))
  have N110 := Fr.snoc X110 N104 ge1
  have f113 := f108.same W110
  have f114 := ((F2.other W104 (Or.inr (slot_ne (Or.inr (hw _ (List.mem_of_getElem? (i := 55) rfl))) (Or.inr (hw _ (List.mem_of_getElem? (i := 51) rfl))) (by decide) (t := (.object "java/lang/String")) (t' := (.object "java/lang/String")) (by decide) (by decide)))).other W110 (Or.inr (slot_ne (Or.inr (hw _ (List.mem_of_getElem? (i := 55) rfl))) (Or.inr (hw _ (List.mem_of_getElem? (i := 53) rfl))) (by decide) (t := (.object "java/lang/String")) (t' := (.object "java/lang/String")) (by decide) (by decide))))
  have f115 := (f109.wr W110)
  obtain ⟨T116, h116, X116, e116, W116, st116⟩ := putF X110 hx hZ hown (host := "") (Or.inl (hw _ (List.mem_of_getElem? (i := 54) rfl))) Via.refl e110 f114 f115 (Or.inr ⟨(hw _ (List.mem_of_getElem? (i := 55) rfl)), rfl, hnm⟩) (hw _ (List.mem_of_getElem? (i := 38) rfl)) (ty := (.object "java/lang/String")) (by decide) (own_narR hr2 (by decide)) (own_fitR hr2 (by decide)) (g := (mkF m 16 #[.val (.ref a1), .val p0, .val p1, .val p2, .val p3] [p2, (.ref a1)])) rfl rfl (hb hby d8_16)
  have Z117 : n0 ≤ h116.size := Nat.le_trans Z111 (Keep.of_wr W116).1
  have K118 : Keep h0 h116 [a1] := K112.wr W116 (Or.inl (List.mem_of_getElem? (i := 0) rfl))
  have N116 := Fr.snoc X116 N110 ge1
  have f119 := f114.same W116
  have f120 := (((F3.other W104 (Or.inr (slot_ne (Or.inr (hw _ (List.mem_of_getElem? (i := 57) rfl))) (Or.inr (hw _ (List.mem_of_getElem? (i := 51) rfl))) (by decide) (t := (.object "java/lang/String")) (t' := (.object "java/lang/String")) (by decide) (by decide)))).other W110 (Or.inr (slot_ne (Or.inr (hw _ (List.mem_of_getElem? (i := 57) rfl))) (Or.inr (hw _ (List.mem_of_getElem? (i := 53) rfl))) (by decide) (t := (.object "java/lang/String")) (t' := (.object "java/lang/String")) (by decide) (by decide)))).other W116 (Or.inr (slot_ne (Or.inr (hw _ (List.mem_of_getElem? (i := 57) rfl))) (Or.inr (hw _ (List.mem_of_getElem? (i := 55) rfl))) (by decide) (t := (.object "java/lang/String")) (t' := (.object "java/lang/String")) (by decide) (by decide))))
  have f121 := (f115.wr W116)
  obtain ⟨T122, h122, X122, e122, W122, st122⟩ := putF X116 hx hZ hown (host := "") (Or.inl (hw _ (List.mem_of_getElem? (i := 56) rfl))) Via.refl e116 f120 f121 (Or.inr ⟨(hw _ (List.mem_of_getElem? (i := 57) rfl)), rfl, hnm⟩) (hw _ (List.mem_of_getElem? (i := 38) rfl)) (ty := (.object "java/lang/String")) (by decide) (own_narR hr3 (by decide)) (own_fitR hr3 (by decide)) (g := (mkF m 22 #[.val (.ref a1), .val p0, .val p1, .val p2, .val p3] [p3, (.ref a1)])) rfl rfl (hb hby d8_22)
  have Z123 : n0 ≤ h122.size := Nat.le_trans Z117 (Keep.of_wr W122).1
  have K124 : Keep h0 h122 [a1] := K118.wr W122 (Or.inl (List.mem_of_getElem? (i := 0) rfl))
  have N122 := Fr.snoc X122 N116 ge1
  have f125 := f120.same W122
  have f126 := (f121.wr W122)
  have f127 := (((f107.other W110 (Or.inr (slot_ne (Or.inr (hw _ (List.mem_of_getElem? (i := 51) rfl))) (Or.inr (hw _ (List.mem_of_getElem? (i := 53) rfl))) (by decide) (t := (.object "java/lang/String")) (t' := (.object "java/lang/String")) (by decide) (by decide)))).other W116 (Or.inr (slot_ne (Or.inr (hw _ (List.mem_of_getElem? (i := 51) rfl))) (Or.inr (hw _ (List.mem_of_getElem? (i := 55) rfl))) (by decide) (t := (.object "java/lang/String")) (t' := (.object "java/lang/String")) (by decide) (by decide)))).other W122 (Or.inr (slot_ne (Or.inr (hw _ (List.mem_of_getElem? (i := 51) rfl))) (Or.inr (hw _ (List.mem_of_getElem? (i := 57) rfl))) (by decide) (t := (.object "java/lang/String")) (t' := (.object "java/lang/String")) (by decide) (by decide))))
  have f128 := ((f113.other W116 (Or.inr (slot_ne (Or.inr (hw _ (List.mem_of_getElem? (i := 53) rfl))) (Or.inr (hw _ (List.mem_of_getElem? (i := 55) rfl))) (by decide) (t := (.object "java/lang/String")) (t' := (.object "java/lang/String")) (by decide) (by decide)))).other W122 (Or.inr (slot_ne (Or.inr (hw _ (List.mem_of_getElem? (i := 53) rfl))) (Or.inr (hw _ (List.mem_of_getElem? (i := 57) rfl))) (by decide) (t := (.object "java/lang/String")) (t' := (.object "java/lang/String")) (by decide) (by decide))))
  have f129 := (f119.other W122 (Or.inr (slot_ne (Or.inr (hw _ (List.mem_of_getElem? (i := 55) rfl))) (Or.inr (hw _ (List.mem_of_getElem? (i := 57) rfl))) (by decide) (t := (.object "java/lang/String")) (t' := (.object "java/lang/String")) (by decide) (by decide))))
  obtain ⟨fs, hr, hrun, hended, hW, hsame⟩ := X122.leave (v := none) (fun _ => rfl)
  refine ⟨_, _, pre0 _ ?_, hrun, hended, _, _, rfl, ?_, ⟨_, rfl⟩, hW, hsame.mono (by decide) (by decide)⟩
  · show Steps p.tables e below (s₁.setTop (mkF m 0 #[.val (.ref a1), .val p0, .val p1, .val p2, .val p3] [])) _
    refine XS.aloadN X0.here hx rfl (hb hby d8_0) rfl rfl ?_
    show Steps p.tables e below (s₁.setTop (mkF m 1 #[.val (.ref a1), .val p0, .val p1, .val p2, .val p3] [(.ref a1)])) _
    refine st103.trans ?_
    show Steps p.tables e below (T103.setTop (mkF m 4 #[.val (.ref a1), .val p0, .val p1, .val p2, .val p3] [])) _
    refine XS.aloadN X103.here hx rfl (hb hby d8_4) rfl rfl ?_
    show Steps p.tables e below (T103.setTop (mkF m 5 #[.val (.ref a1), .val p0, .val p1, .val p2, .val p3] [(.ref a1)])) _
    refine XS.aloadN X103.here hx rfl (hb hby d8_5) rfl hr0 ?_
    show Steps p.tables e below (T103.setTop (mkF m 6 #[.val (.ref a1), .val p0, .val p1, .val p2, .val p3] [p0, (.ref a1)])) _
    refine st104 _ ?_
    show Steps p.tables e below (T104.setTop (mkF m 9 #[.val (.ref a1), .val p0, .val p1, .val p2, .val p3] [])) _
    refine XS.aloadN X104.here hx rfl (hb hby d8_9) rfl rfl ?_
    show Steps p.tables e below (T104.setTop (mkF m 10 #[.val (.ref a1), .val p0, .val p1, .val p2, .val p3] [(.ref a1)])) _
    refine XS.aloadN X104.here hx rfl (hb hby d8_10) rfl hr1 ?_
    show Steps p.tables e below (T104.setTop (mkF m 11 #[.val (.ref a1), .val p0, .val p1, .val p2, .val p3] [p1, (.ref a1)])) _
    refine st110 _ ?_
    show Steps p.tables e below (T110.setTop (mkF m 14 #[.val (.ref a1), .val p0, .val p1, .val p2, .val p3] [])) _
    refine XS.aloadN X110.here hx rfl (hb hby d8_14) rfl rfl ?_
    show Steps p.tables e below (T110.setTop (mkF m 15 #[.val (.ref a1), .val p0, .val p1, .val p2, .val p3] [(.ref a1)])) _
    refine XS.aloadN X110.here hx rfl (hb hby d8_15) rfl hr2 ?_
    show Steps p.tables e below (T110.setTop (mkF m 16 #[.val (.ref a1), .val p0, .val p1, .val p2, .val p3] [p2, (.ref a1)])) _
    refine st116 _ ?_
    show Steps p.tables e below (T116.setTop (mkF m 19 #[.val (.ref a1), .val p0, .val p1, .val p2, .val p3] [])) _
    refine XS.aloadN X116.here hx rfl (hb hby d8_19) rfl rfl ?_
    show Steps p.tables e below (T116.setTop (mkF m 20 #[.val (.ref a1), .val p0, .val p1, .val p2, .val p3] [(.ref a1)])) _
    refine XS.aload X116.here hx rfl (hb hby d8_20) rfl hr3 ?_
    show Steps p.tables e below (T116.setTop (mkF m 22 #[.val (.ref a1), .val p0, .val p1, .val p2, .val p3] [p3, (.ref a1)])) _
    refine st122 _ ?_
    show Steps p.tables e below (T122.setTop (mkF m 25 #[.val (.ref a1), .val p0, .val p1, .val p2, .val p3] [])) _
    exact X122.returnOut hx hret0 (hb hby d8_25) hr
  · show Qrm8 Z a1 p0 p1 p2 p3 h0 n0 _ T122.heap _
    rw [e122]
    exact ⟨rfl, N122, K124, f126, f127, f128, f129, f125⟩
theorem d1_0 : decode method_3_code 0 = .ok (.iload_n 2, 1) := by decide +kernel
theorem d1_1 : decode method_3_code 1 = .ok (.ifCond .ne 14, 3) := by decide +kernel
theorem d1_4 : decode method_3_code 4 = .ok (.new 13, 3) := by decide +kernel
theorem d1_7 : decode method_3_code 7 = .ok (.dup, 1) := by decide +kernel
theorem d1_8 : decode method_3_code 8 = .ok (.iconst 0, 1) := by decide +kernel
theorem d1_9 : decode method_3_code 9 = .ok (.newarray .char, 2) := by decide +kernel
theorem d1_11 : decode method_3_code 11 = .ok (.invokespecial 15, 3) := by decide +kernel
theorem d1_14 : decode method_3_code 14 = .ok (.areturn, 1) := by decide +kernel
theorem d1_15 : decode method_3_code 15 = .ok (.iload_n 2, 1) := by decide +kernel
theorem d1_16 : decode method_3_code 16 = .ok (.iconst 1, 1) := by decide +kernel
theorem d1_17 : decode method_3_code 17 = .ok (.if_icmp .ne 20, 3) := by decide +kernel
theorem d1_20 : decode method_3_code 20 = .ok (.new 13, 3) := by decide +kernel
theorem d1_23 : decode method_3_code 23 = .ok (.dup, 1) := by decide +kernel
theorem d1_24 : decode method_3_code 24 = .ok (.iconst 1, 1) := by decide +kernel
theorem d1_25 : decode method_3_code 25 = .ok (.newarray .char, 2) := by decide +kernel
theorem d1_27 : decode method_3_code 27 = .ok (.dup, 1) := by decide +kernel
theorem d1_28 : decode method_3_code 28 = .ok (.iconst 0, 1) := by decide +kernel
theorem d1_29 : decode method_3_code 29 = .ok (.aload_n 0, 1) := by decide +kernel
theorem d1_30 : decode method_3_code 30 = .ok (.iload_n 1, 1) := by decide +kernel
theorem d1_31 : decode method_3_code 31 = .ok (.caload, 1) := by decide +kernel
theorem d1_32 : decode method_3_code 32 = .ok (.castore, 1) := by decide +kernel
theorem d1_33 : decode method_3_code 33 = .ok (.invokespecial 15, 3) := by decide +kernel
theorem d1_36 : decode method_3_code 36 = .ok (.areturn, 1) := by decide +kernel
theorem d1_37 : decode method_3_code 37 = .ok (.iload_n 2, 1) := by decide +kernel
theorem d1_38 : decode method_3_code 38 = .ok (.iconst 2, 1) := by decide +kernel
theorem d1_39 : decode method_3_code 39 = .ok (.if_icmp .ne 28, 3) := by decide +kernel
theorem d1_42 : decode method_3_code 42 = .ok (.new 13, 3) := by decide +kernel
theorem d1_45 : decode method_3_code 45 = .ok (.dup, 1) := by decide +kernel
theorem d1_46 : decode method_3_code 46 = .ok (.iconst 2, 1) := by decide +kernel
theorem d1_47 : decode method_3_code 47 = .ok (.newarray .char, 2) := by decide +kernel
theorem d1_49 : decode method_3_code 49 = .ok (.dup, 1) := by decide +kernel
theorem d1_50 : decode method_3_code 50 = .ok (.iconst 0, 1) := by decide +kernel
theorem d1_51 : decode method_3_code 51 = .ok (.aload_n 0, 1) := by decide +kernel
theorem d1_52 : decode method_3_code 52 = .ok (.iload_n 1, 1) := by decide +kernel
theorem d1_53 : decode method_3_code 53 = .ok (.caload, 1) := by decide +kernel
theorem d1_54 : decode method_3_code 54 = .ok (.castore, 1) := by decide +kernel
theorem d1_55 : decode method_3_code 55 = .ok (.dup, 1) := by decide +kernel
theorem d1_56 : decode method_3_code 56 = .ok (.iconst 1, 1) := by decide +kernel
theorem d1_57 : decode method_3_code 57 = .ok (.aload_n 0, 1) := by decide +kernel
theorem d1_58 : decode method_3_code 58 = .ok (.iload_n 1, 1) := by decide +kernel
theorem d1_59 : decode method_3_code 59 = .ok (.iconst 1, 1) := by decide +kernel
theorem d1_60 : decode method_3_code 60 = .ok (.iadd, 1) := by decide +kernel
theorem d1_61 : decode method_3_code 61 = .ok (.caload, 1) := by decide +kernel
theorem d1_62 : decode method_3_code 62 = .ok (.castore, 1) := by decide +kernel
theorem d1_63 : decode method_3_code 63 = .ok (.invokespecial 15, 3) := by decide +kernel
theorem d1_66 : decode method_3_code 66 = .ok (.areturn, 1) := by decide +kernel
theorem d1_67 : decode method_3_code 67 = .ok (.iload_n 2, 1) := by decide +kernel
theorem d1_68 : decode method_3_code 68 = .ok (.iconst 3, 1) := by decide +kernel
theorem d1_69 : decode method_3_code 69 = .ok (.if_icmp .ne 36, 3) := by decide +kernel
theorem d1_72 : decode method_3_code 72 = .ok (.new 13, 3) := by decide +kernel
theorem d1_75 : decode method_3_code 75 = .ok (.dup, 1) := by decide +kernel
theorem d1_76 : decode method_3_code 76 = .ok (.iconst 3, 1) := by decide +kernel
theorem d1_77 : decode method_3_code 77 = .ok (.newarray .char, 2) := by decide +kernel
theorem d1_79 : decode method_3_code 79 = .ok (.dup, 1) := by decide +kernel
theorem d1_80 : decode method_3_code 80 = .ok (.iconst 0, 1) := by decide +kernel
theorem d1_81 : decode method_3_code 81 = .ok (.aload_n 0, 1) := by decide +kernel
theorem d1_82 : decode method_3_code 82 = .ok (.iload_n 1, 1) := by decide +kernel
theorem d1_83 : decode method_3_code 83 = .ok (.caload, 1) := by decide +kernel
theorem d1_84 : decode method_3_code 84 = .ok (.castore, 1) := by decide +kernel
theorem d1_85 : decode method_3_code 85 = .ok (.dup, 1) := by decide +kernel
theorem d1_86 : decode method_3_code 86 = .ok (.iconst 1, 1) := by decide +kernel
theorem d1_87 : decode method_3_code 87 = .ok (.aload_n 0, 1) := by decide +kernel
theorem d1_88 : decode method_3_code 88 = .ok (.iload_n 1, 1) := by decide +kernel
theorem d1_89 : decode method_3_code 89 = .ok (.iconst 1, 1) := by decide +kernel
theorem d1_90 : decode method_3_code 90 = .ok (.iadd, 1) := by decide +kernel
theorem d1_91 : decode method_3_code 91 = .ok (.caload, 1) := by decide +kernel
theorem d1_92 : decode method_3_code 92 = .ok (.castore, 1) := by decide +kernel
theorem d1_93 : decode method_3_code 93 = .ok (.dup, 1) := by decide +kernel
theorem d1_94 : decode method_3_code 94 = .ok (.iconst 2, 1) := by decide +kernel
theorem d1_95 : decode method_3_code 95 = .ok (.aload_n 0, 1) := by decide +kernel
theorem d1_96 : decode method_3_code 96 = .ok (.iload_n 1, 1) := by decide +kernel
theorem d1_97 : decode method_3_code 97 = .ok (.iconst 2, 1) := by decide +kernel
theorem d1_98 : decode method_3_code 98 = .ok (.iadd, 1) := by decide +kernel
theorem d1_99 : decode method_3_code 99 = .ok (.caload, 1) := by decide +kernel
theorem d1_100 : decode method_3_code 100 = .ok (.castore, 1) := by decide +kernel
theorem d1_101 : decode method_3_code 101 = .ok (.invokespecial 15, 3) := by decide +kernel
theorem d1_104 : decode method_3_code 104 = .ok (.areturn, 1) := by decide +kernel
theorem d1_105 : decode method_3_code 105 = .ok (.new 13, 3) := by decide +kernel
theorem d1_108 : decode method_3_code 108 = .ok (.dup, 1) := by decide +kernel
theorem d1_109 : decode method_3_code 109 = .ok (.iconst 4, 1) := by decide +kernel
theorem d1_110 : decode method_3_code 110 = .ok (.newarray .char, 2) := by decide +kernel
theorem d1_112 : decode method_3_code 112 = .ok (.dup, 1) := by decide +kernel
theorem d1_113 : decode method_3_code 113 = .ok (.iconst 0, 1) := by decide +kernel
theorem d1_114 : decode method_3_code 114 = .ok (.aload_n 0, 1) := by decide +kernel
theorem d1_115 : decode method_3_code 115 = .ok (.iload_n 1, 1) := by decide +kernel
theorem d1_116 : decode method_3_code 116 = .ok (.caload, 1) := by decide +kernel
theorem d1_117 : decode method_3_code 117 = .ok (.castore, 1) := by decide +kernel
theorem d1_118 : decode method_3_code 118 = .ok (.dup, 1) := by decide +kernel
theorem d1_119 : decode method_3_code 119 = .ok (.iconst 1, 1) := by decide +kernel
theorem d1_120 : decode method_3_code 120 = .ok (.aload_n 0, 1) := by decide +kernel
theorem d1_121 : decode method_3_code 121 = .ok (.iload_n 1, 1) := by decide +kernel
theorem d1_122 : decode method_3_code 122 = .ok (.iconst 1, 1) := by decide +kernel
theorem d1_123 : decode method_3_code 123 = .ok (.iadd, 1) := by decide +kernel
theorem d1_124 : decode method_3_code 124 = .ok (.caload, 1) := by decide +kernel
theorem d1_125 : decode method_3_code 125 = .ok (.castore, 1) := by decide +kernel
theorem d1_126 : decode method_3_code 126 = .ok (.dup, 1) := by decide +kernel
theorem d1_127 : decode method_3_code 127 = .ok (.iconst 2, 1) := by decide +kernel
theorem d1_128 : decode method_3_code 128 = .ok (.aload_n 0, 1) := by decide +kernel
theorem d1_129 : decode method_3_code 129 = .ok (.iload_n 1, 1) := by decide +kernel
theorem d1_130 : decode method_3_code 130 = .ok (.iconst 2, 1) := by decide +kernel
theorem d1_131 : decode method_3_code 131 = .ok (.iadd, 1) := by decide +kernel
theorem d1_132 : decode method_3_code 132 = .ok (.caload, 1) := by decide +kernel
theorem d1_133 : decode method_3_code 133 = .ok (.castore, 1) := by decide +kernel
theorem d1_134 : decode method_3_code 134 = .ok (.dup, 1) := by decide +kernel
theorem d1_135 : decode method_3_code 135 = .ok (.iconst 3, 1) := by decide +kernel
theorem d1_136 : decode method_3_code 136 = .ok (.aload_n 0, 1) := by decide +kernel
theorem d1_137 : decode method_3_code 137 = .ok (.iload_n 1, 1) := by decide +kernel
theorem d1_138 : decode method_3_code 138 = .ok (.iconst 3, 1) := by decide +kernel
theorem d1_139 : decode method_3_code 139 = .ok (.iadd, 1) := by decide +kernel
theorem d1_140 : decode method_3_code 140 = .ok (.caload, 1) := by decide +kernel
theorem d1_141 : decode method_3_code 141 = .ok (.castore, 1) := by decide +kernel
theorem d1_142 : decode method_3_code 142 = .ok (.invokespecial 15, 3) := by decide +kernel
theorem d1_145 : decode method_3_code 145 = .ok (.areturn, 1) := by decide +kernel
def QP (Z : State) (cs : List Int32) (i j : Nat) (h0 : Heap) (n0 : Nat) (v : Option Value) (h : Heap) (L : List Loc) : Prop := ∃ b : Addr, v = some (.ref b) ∧ Fr n0 L ∧ Ext h0 h ∧ own_Str Z h b ((cs.drop i).take j)
theorem own_at (cs : List Int32) (n : Nat) : (cs.map Value.int).getD n (.int (0 : Int32)) = .int (cs.getD n 0) := by
  rcases Nat.lt_or_ge n cs.length with h | h <;> simp [List.getD_eq_getElem?_getD, h]
theorem own_getB {cs : List Int32} (hp : ∀ c ∈ cs, ¬ c < 0 ∧ ¬ (255 : Int32) < c) (n : Nat) : ¬ (cs.getD n 0) < 0 ∧ ¬ (255 : Int32) < (cs.getD n 0) := by
  rcases Nat.lt_or_ge n cs.length with h | h
  · have e : cs.getD n 0 = cs[n] := by simp [List.getD_eq_getElem?_getD, h]
    rw [e]; exact hp _ (List.getElem_mem _)
  · have e : cs.getD n 0 = 0 := by simp [List.getD_eq_getElem?_getD, h]
    rw [e]; decide
theorem own_pn_rmP : plainName "com/example/test_rollback/testrollback/CounterColumnPinLaw" = true := by first | (simp [plainName, overriddenIn]; done) | decide +kernel
theorem own_ef_rmP (m : MethodId) (a1 : Addr) (p1 : Int32) (p2 : Int32) : entryFrame m #[(.ref a1), (.int p1), (.int p2)] 3 = (mkF m 0 #[.val (.ref a1), .val (.int p1), .val (.int p2)] []) := by first | (simp [entryFrame, mkF, argsToLocals, Value.category]; done) | rfl
set_option maxRecDepth 65536 in
set_option maxHeartbeats 40000000 in
theorem rmP (l : Launch) (Z : State) (a0 : Array Value) (hw : ∀ d ∈ tables_1, d.before a0 Z = true) (ws : List Jvm.Cond) (a1 : Addr) (k1 : ClassId) (cs : List Int32) (i : Nat) (j : Nat) (p1 : Int32) (p2 : Int32) (G1 : Int32) (h0 : Heap) (n0 : Nat) (Z0 : n0 ≤ h0.size) (O2 : Sta Z Z.heap "java/lang/String" "COMPACT_STRINGS" "Z" (.int G1)) (P5 : ¬ (G1 = (0 : Int32))) (X00 : Old Z n0 h0) (VA : Arv Z h0 a1 k1 .char (5 : Int32) (cs.map Value.int) (.int (0 : Int32))) (hl : cs.length = 5) (hp : ∀ c ∈ cs, ¬ c < 0 ∧ ¬ (255 : Int32) < c) (hij : i + j ≤ 5) (hj : j ≤ 4) (e1 : p1 = Int32.ofNat i) (e2 : p2 = Int32.ofNat j) :
    MetFree l (⟨"com/example/test_rollback/testrollback/CounterColumnPinLaw", "part", "([CII)Ljava/lang/String;"⟩ : MethodName) (head1 (Jvm.Cond.code (⟨"com/example/test_rollback/testrollback/CounterColumnPinLaw", "part", "([CII)Ljava/lang/String;"⟩ : MethodName) method_3_code 3 (some (.object "java/lang/String")) :: ws) ({ frames := 4, cells := 6, slots := 16, locals := 90 } : Room)) (fun a U => a = #[(.ref a1), (.int p1), (.int p2)] ∧ Z.Warmed39 U.vm ∧ U.heap = h0 ∧ CHv Z EL U.vm h0) (fun _ _ _ _ _ => True) (fun _ U o U' => ∃ v L, o = .returned v ∧ QP Z cs i j h0 n0 v U'.heap L ∧ CHr Z EL U.vm U.heap U'.vm U'.heap ∧ ReturnedEndW U o U' L ({ frames := 4, cells := 6, slots := 16, locals := 90 } : Room).cells ({ frames := 4, cells := 6, slots := 16, locals := 90 } : Room).slots) := by
  refine MetFree.of_bodySF (plainFor_of_name own_pn_rmP) hisR ?_
  intro p e s m args below meth c s₁ Bd hml0 hP hK
  obtain ⟨hargs, hZ, hh, hC0⟩ := hP
  have hx := Bd.exec
  have hby := Bd.bytes
  have hml : c.maxLocals = 3 := hml0
  have hown : s.vm.findClass "com/example/test_rollback/testrollback/CounterColumnPinLaw" = some m.cls := findClass_of_methodNamed Bd.named
  have hnm := (name_of_methodNamed Bd.named Bd.method).1
  have hlock : meth.locks = false := Bd.notSynchronized
  have hret0 := Bd.returns
  have hZ : Z.Warmed39 (s.setVm s.vm).vm := hZ
  have hown : (s.setVm s.vm).vm.findClass "com/example/test_rollback/testrollback/CounterColumnPinLaw" = some m.cls := hown
  have hEL := own_EL hw
  have hwS := own_wS hw
  have C0 := CHr.refl hC0
  have X0 : Stand p l e ({ frames := 4, cells := 6, slots := 16, locals := 90 } : Room) (s.setVm s.vm) m args below meth c s₁ [] 0 0 := Stand.of_body Bd
  have e0 : s₁.heap = h0 := by rw [← hh, Bd.state]; rfl
  have N0 := Fr.nil n0
  have pre0 : ∀ t, Steps p.tables e below (s₁.setTop (mkF m 0 #[.val (.ref a1), .val (.int p1), .val (.int p2)] [])) t → Steps p.tables e below (s₁.setTop (entryFrame m args 3)) t := fun t k => castTop (by rw [hargs]; exact own_ef_rmP m a1 p1 p2) k
  have hS0 := (State.WarmedH.refl s).since 0
  clear Bd
  have hws : ∀ d ∈ StrChars.Road.words, d.before a0 Z = true := fun d hd => hw d ((by decide +kernel : ∀ d ∈ StrChars.Road.words, d ∈ tables_1) d hd)
  by_cases hj0 : j = 0
  · skip
    obtain ⟨T130, h130, X130, e130, E130, A130, D130, -, st130⟩ := newO X0 hx hZ hown (hw _ (List.mem_of_getElem? (i := 5) rfl)) (hw _ (List.mem_of_getElem? (i := 6) rfl)) (hw _ (List.mem_of_getElem? (i := 7) rfl)) e0 (g := (mkF m 4 #[.val (.ref a1), .val (.int p1), .val (.int p2)] [])) rfl (hb hby d1_4) (by decide) (by decide)
    obtain ⟨b130, g130⟩ : ∃ z, z = h0.size := ⟨_, rfl⟩
    rw [← g130] at A130 D130 st130
    have ge_b130 : n0 ≤ b130 := Nat.le_trans Z0 (Nat.le_of_eq g130.symm)
    have sz_b130 : h0.size ≤ b130 := Nat.le_trans (Keep.refl h0 []).1 (Nat.le_of_eq g130.symm)
    have Z131 : n0 ≤ h130.size := Nat.le_trans Z0 E130.1
    have K132 : Keep h0 h130 [] := (Keep.refl h0 []).ext E130
    have C133 := (C0.trans (CHr.ext E130 C0.1))
    obtain ⟨T134, h134, k134, X134, e134, E134, A134, st134⟩ := newP X130 hx hZ (hw _ (List.mem_of_getElem? (i := 0) rfl)) e130 (g := (mkF m 9 #[.val (.ref a1), .val (.int p1), .val (.int p2)] [(.int (0 : Int32)), (.ref b130), (.ref b130)])) rfl (hb hby d1_9) rfl (by decide) (cap := 0) (by decide) (by decide) (by decide) (by decide)
    obtain ⟨b134, g134⟩ : ∃ z, z = h130.size := ⟨_, rfl⟩
    rw [← g134] at A134 st134
    have ge_b134 : n0 ≤ b134 := Nat.le_trans Z131 (Nat.le_of_eq g134.symm)
    have sz_b134 : h0.size ≤ b134 := Nat.le_trans K132.1 (Nat.le_of_eq g134.symm)
    have Z135 : n0 ≤ h134.size := Nat.le_trans Z131 E134.1
    have K136 : Keep h0 h134 [] := K132.ext E134
    have C137 := (C133.trans (CHr.ext E134 C133.1))
    have V134 : Arv Z h134 b134 k134 .char (0 : Int32) [] (.int (0 : Int32)) := Arv.new A134 (by decide)
    have f138 := (A130.ext E134)
    have f139 := ((D130 (Or.inr (hw _ (List.mem_of_getElem? (i := 20) rfl))) (ty := (.array .byte)) (by decide)).ext E134)
    have f140 := ((D130 (Or.inr (hw _ (List.mem_of_getElem? (i := 21) rfl))) (ty := .byte) (by decide)).ext E134)
    obtain ⟨v141, vmx141, ⟨T141, L141, k141, n141⟩, -, Xq141, hSq141, hgr141, ⟨Lc141, hQ141, l141, y141, z141, CR141⟩, st141⟩ := X134.specialBackS hx (y := (⟨"java/lang/String", "<init>", "([C)V"⟩ : MethodName)) rfl hown (mvT hZ (hw _ (List.mem_of_getElem? (i := 8) rfl))) (mvT hZ (hw _ (List.mem_of_getElem? (i := 9) rfl))) (mvT hZ (hw _ (List.mem_of_getElem? (i := 10) rfl))) (by decide) (backOfSH (s := s) (vm0 := s.vm) (W := 1) (rmE1 l Z a0 hw [] b130 b134 k134 h134 n0 Z135 f138 f139 f140 ge_b130 V134) hZ (hw _ (List.mem_of_getElem? (i := 10) rfl)) (hw _ (List.mem_of_getElem? (i := 7) rfl)) (by decide) (by decide) hEL C137.1) (g := (mkF m 11 #[.val (.ref a1), .val (.int p1), .val (.int p2)] [(.ref b134), (.ref b130), (.ref b130)])) rfl (by rw [hml]; rfl) (Steps.refl _) (a := b130) (argsL := [(.ref b134)]) (rest := [(.ref b130)]) (lenOf own_pd12 rfl) rfl (by show 2 * 0 + _ ≤ _; exact Nat.le_of_eq rfl) (hb hby d1_11) (fun _ _ => ⟨rfl, e134, (by decide : 2 + 4 ≤ _), (by decide : 4 + 8 ≤ _)⟩)
    dsimp only [Pt.U, Pt.locs, Pt.cells, Pt.slots] at Xq141 hSq141 hgr141 l141 y141 z141 st141 hQ141 CR141
    subst l141 y141 z141
    obtain ⟨X141, hS141, hZ141, hown141⟩ := rebS (s := s) (vm0 := s.vm) hS0 (by rw [e134]; exact (Nat.zero_le _)) Xq141 hSq141 hgr141 hZ hown
    obtain ⟨rfl, Nq141, K141, S141⟩ := hQ141
    have N141 := Fr.app N0 Nq141
    have Z142 : n0 ≤ T141.heap.size := Nat.le_trans Z135 K141.1
    have K143 : Keep h0 T141.heap [] := K136.trans K141 (allS (Or.inr sz_b130) all0)
    have C144 := (C137.trans CR141)
    obtain ⟨fs, hr, hrun, hended, hW⟩ := Stand.leaveW (s := s) (vm₁ := T141.vm) X141 hS141 (by rw [show T141.heap = _ from rfl]; exact (Nat.le_refl _)) (v := some (.ref b130)) (fun h => by rw [hret0] at h; cases h)
    refine ⟨_, _, pre0 _ ?_, hrun, hended, _, _, rfl, ?_, own_chr (T := T141) hh rfl (C144.trans (CHv.at (s := s) (vm0 := T141.vm) X141 hZ141 hEL C144.1)), own_wmono hW (by decide) (by decide)⟩
    · show Steps p.tables e below (s₁.setTop (mkF m 0 #[.val (.ref a1), .val (.int p1), .val (.int p2)] [])) _
      refine XS.iloadN X0.here hx rfl (hb hby d1_0) rfl ?_
      show Steps p.tables e below (s₁.setTop (mkF m 1 #[.val (.ref a1), .val (.int p1), .val (.int p2)] [(.int p2)])) _
      refine XS.ifNo X0.here hx rfl (hb hby d1_1) rfl ((if0 _ _).trans (teq (by rw [e2, hj0]; rfl)).2) ?_
      show Steps p.tables e below (s₁.setTop (mkF m 4 #[.val (.ref a1), .val (.int p1), .val (.int p2)] [])) _
      refine st130 _ ?_
      show Steps p.tables e below (T130.setTop (mkF m 7 #[.val (.ref a1), .val (.int p1), .val (.int p2)] [(.ref b130)])) _
      refine XS.dup X130.here hx rfl (hb hby d1_7) rfl rfl ?_
      show Steps p.tables e below (T130.setTop (mkF m 8 #[.val (.ref a1), .val (.int p1), .val (.int p2)] [(.ref b130), (.ref b130)])) _
      refine XS.iconst X130.here hx rfl (hb hby d1_8) ?_
      show Steps p.tables e below (T130.setTop (mkF m 9 #[.val (.ref a1), .val (.int p1), .val (.int p2)] [(.int (0 : Int32)), (.ref b130), (.ref b130)])) _
      refine st134 _ ?_
      show Steps p.tables e below (T134.setTop (mkF m 11 #[.val (.ref a1), .val (.int p1), .val (.int p2)] [(.ref b134), (.ref b130), (.ref b130)])) _
      refine st141.trans ?_
      show Steps p.tables e below (T141.setTop (mkF m 14 #[.val (.ref a1), .val (.int p1), .val (.int p2)] [(.ref b130)])) _
      exact retR X141 hx hret0 rfl rfl rfl (hb hby d1_14) hr
    · show QP Z cs i j h0 n0 _ T141.heap _
      exact ⟨b130, rfl, N141, own_ext K143, by rw [hj0, List.take_zero]; exact S141⟩
  · skip
    by_cases hj1 : j = 1
    · skip
      obtain ⟨T145, h145, X145, e145, E145, A145, D145, -, st145⟩ := newO X0 hx hZ hown (hw _ (List.mem_of_getElem? (i := 5) rfl)) (hw _ (List.mem_of_getElem? (i := 6) rfl)) (hw _ (List.mem_of_getElem? (i := 7) rfl)) e0 (g := (mkF m 20 #[.val (.ref a1), .val (.int p1), .val (.int p2)] [])) rfl (hb hby d1_20) (by decide) (by decide)
      obtain ⟨b145, g145⟩ : ∃ z, z = h0.size := ⟨_, rfl⟩
      rw [← g145] at A145 D145 st145
      have ge_b145 : n0 ≤ b145 := Nat.le_trans Z0 (Nat.le_of_eq g145.symm)
      have sz_b145 : h0.size ≤ b145 := Nat.le_trans (Keep.refl h0 []).1 (Nat.le_of_eq g145.symm)
      have Z146 : n0 ≤ h145.size := Nat.le_trans Z0 E145.1
      have K147 : Keep h0 h145 [] := (Keep.refl h0 []).ext E145
      have C148 := (C0.trans (CHr.ext E145 C0.1))
      obtain ⟨T149, h149, k149, X149, e149, E149, A149, st149⟩ := newP X145 hx hZ (hw _ (List.mem_of_getElem? (i := 0) rfl)) e145 (g := (mkF m 25 #[.val (.ref a1), .val (.int p1), .val (.int p2)] [(.int (1 : Int32)), (.ref b145), (.ref b145)])) rfl (hb hby d1_25) rfl (by decide) (cap := 1) (by decide) (by decide) (by decide) (by decide)
      obtain ⟨b149, g149⟩ : ∃ z, z = h145.size := ⟨_, rfl⟩
      rw [← g149] at A149 st149
      have ge_b149 : n0 ≤ b149 := Nat.le_trans Z146 (Nat.le_of_eq g149.symm)
      have sz_b149 : h0.size ≤ b149 := Nat.le_trans K147.1 (Nat.le_of_eq g149.symm)
      have Z150 : n0 ≤ h149.size := Nat.le_trans Z146 E149.1
      have K151 : Keep h0 h149 [] := K147.ext E149
      have C152 := (C148.trans (CHr.ext E149 C148.1))
      have V149 : Arv Z h149 b149 k149 .char (1 : Int32) [(.int (0 : Int32))] (.int (0 : Int32)) := (Arv.new A149 (by decide)).pad (pad_rep [] (.int (0 : Int32)) 1)
      have ex0 : p1 = Int32.ofNat (i + 0) := by rw [e1]; exact rfl
      have f153 := ((VA.ext E145).ext E149)
      obtain ⟨cl154, Ar154, -, S154, M154, Hs154, -⟩ := id f153
      have hin154 := inb_of S154 (j := p1) (by rw [ex0]; exact ⟨own_nn (by omega), (own_lt (b := 5) (by omega) (by omega)).mpr (by omega)⟩)
      have hat154 : cl154.slots[(p1).toNatClampNeg]? = some (.int (cs.getD (i + 0) 0)) := Has.at Hs154 hin154 (by rw [ex0, own_clamp (by omega)]; exact own_at cs (i + 0))
      obtain ⟨cl155, Ar155, q155, S155, M155, Hs155, G155⟩ := id V149
      obtain ⟨T155, h155, X155, e155, W155, st155⟩ := stC X149 hx hZ e149 Ar155 (j := (0 : Int32)) (inb_of S155 ⟨(by decide), (by decide)⟩) (g := (mkF m 32 #[.val (.ref a1), .val (.int p1), .val (.int p2)] [(.int (cs.getD (i + 0) 0)), (.int (0 : Int32)), (.ref b149), (.ref b149), (.ref b145), (.ref b145)])) rfl rfl (hb hby d1_32)
      have Z156 : n0 ≤ h155.size := Nat.le_trans Z150 (Keep.of_wr W155).1
      have K157 : Keep h0 h155 [] := K151.wr W155 (Or.inr sz_b149)
      have N155 := Fr.snoc X155 N0 ge_b149
      have C158 := (C152.trans (CHr.wr W155 (Safe.ext E149 C148.1 (Safe.new (Nat.le_of_eq g149.symm))) C152.1))
      have V155 : Arv Z h155 b149 k149 .char (1 : Int32) [(.int (nar .char (cs.getD (i + 0) 0)))] (.int (0 : Int32)) := Arv.set Ar155 q155 S155 M155 Hs155 G155 (fits_nar_char _) W155 0 rfl (Nat.le_of_ble_eq_true rfl)
      have hp' : ∀ c ∈ ([(cs.getD (i + 0) 0)] : List Int32), ¬ c < 0 ∧ ¬ (255 : Int32) < c := by
        intro c hc
        simp only [List.mem_cons, List.not_mem_nil, or_false] at hc
        rcases hc with rfl <;> exact own_getB hp _
      have V159 : Arv Z h155 b149 k149 .char (1 : Int32) (([(cs.getD (i + 0) 0)] : List Int32).map Value.int) (.int (0 : Int32)) := by
        have q := V155
        rw [own_narc (own_getB hp (i + 0))] at q
        exact q
      have f160 := ((A145.ext E149).wr W155)
      have f161 := (((D145 (Or.inr (hw _ (List.mem_of_getElem? (i := 20) rfl))) (ty := (.array .byte)) (by decide)).ext E149).other W155 (Or.inl (Nat.ne_of_lt (Nat.lt_of_lt_of_le A145.lt (Nat.le_of_eq g149.symm)))))
      have f162 := (((D145 (Or.inr (hw _ (List.mem_of_getElem? (i := 21) rfl))) (ty := .byte) (by decide)).ext E149).other W155 (Or.inl (Nat.ne_of_lt (Nat.lt_of_lt_of_le A145.lt (Nat.le_of_eq g149.symm)))))
      have f163 := (((X00.ext E145).ext E149).wr W155 ge_b149)
      obtain ⟨v164, vmx164, ⟨T164, L164, k164, n164⟩, -, X164, ⟨Lc164, hQ164, l164, y164, z164⟩, st164⟩ := X155.specialBack hx (y := (⟨"java/lang/String", "<init>", "([C)V"⟩ : MethodName)) rfl hown (mvT hZ (hw _ (List.mem_of_getElem? (i := 8) rfl))) (mvT hZ (hw _ (List.mem_of_getElem? (i := 9) rfl))) (mvT hZ (hw _ (List.mem_of_getElem? (i := 10) rfl))) (by decide) (StrChars.Road.backV (W := 1) hZ hws (kI := 4) (hw _ (List.mem_of_getElem? (i := 6) rfl)) (cs := ([(cs.getD (i + 0) 0)] : List Int32)) (bs := (([(cs.getD (i + 0) 0)] : List Int32)).map (fun c => c.toInt8.toInt32)) (n := 1) ge_b145 Z156 f160 f161 f162 V159 (O2.ext f163.2) P5 rfl rfl (by decide) (by decide) hp' rfl (by decide) (by decide)) (g := (mkF m 33 #[.val (.ref a1), .val (.int p1), .val (.int p2)] [(.ref b149), (.ref b145), (.ref b145)])) rfl (by rw [hml]; rfl) (Steps.refl _) (a := b145) (argsL := [(.ref b149)]) (rest := [(.ref b145)]) (lenOf own_pd12 rfl) rfl (by show 2 * 0 + _ ≤ _; exact Nat.le_of_eq rfl) (hb hby d1_33) (fun _ _ => ⟨rfl, e155, (by decide : 2 + 1 ≤ _), (by decide : 5 + 1 ≤ _)⟩)
      dsimp only [Pt.U, Pt.locs, Pt.cells, Pt.slots] at X164 l164 y164 z164 st164 hQ164
      subst l164 y164 z164
      obtain ⟨rfl, Nq164, K164, fe164, fc164, t164, kb164, u1164, u2164, u3164, fv164, fa164⟩ := hQ164
      have N164 := Fr.app N155 Nq164
      have Z165 : n0 ≤ T164.heap.size := Nat.le_trans Z156 K164.1
      have K166 : Keep h0 T164.heap [] := K157.trans K164 (allS (Or.inr sz_b145) all0)
      have C167 := (C158.trans (CHr.keep K164 (allS (Safe.wr W155 (Safe.ext E149 C148.1 (Safe.new (Nat.le_of_eq g149.symm))) C152.1 (Safe.ext E149 C148.1 (Safe.ext E145 C0.1 (Safe.new (Nat.le_of_eq g145.symm))))) all0) C158.1))
      have hsl : (cs.drop i).take j = ([(cs.getD (i + 0) 0)] : List Int32) := by rw [hj1, ← own_slice cs i 1 (by omega)]; rfl
      obtain ⟨fs, hr, hrun, hended, hW⟩ := Stand.leaveW (s := s) (vm₁ := s.vm) X164 hS0 (by rw [show T164.heap = _ from rfl]; exact (Nat.zero_le _)) (v := some (.ref b145)) (fun h => by rw [hret0] at h; cases h)
      refine ⟨_, _, pre0 _ ?_, hrun, hended, _, _, rfl, ?_, own_chr (T := T164) hh rfl (C167.trans (CHv.at (s := s) (vm0 := s.vm) X164 hZ hEL C167.1)), own_wmono hW (by decide) (by decide)⟩
      · show Steps p.tables e below (s₁.setTop (mkF m 0 #[.val (.ref a1), .val (.int p1), .val (.int p2)] [])) _
        refine XS.iloadN X0.here hx rfl (hb hby d1_0) rfl ?_
        show Steps p.tables e below (s₁.setTop (mkF m 1 #[.val (.ref a1), .val (.int p1), .val (.int p2)] [(.int p2)])) _
        refine XS.ifYes X0.here hx rfl (pc0 := 1) (pc' := 15) rfl (hb hby d1_1) rfl ((if0 _ _).trans (feq (by rw [e2]; intro q; exact hj0 ((own_eq (b := 0) (by omega) (by omega)).mp q))).2) (by decide) (by decide) ?_
        show Steps p.tables e below (s₁.setTop (mkF m 15 #[.val (.ref a1), .val (.int p1), .val (.int p2)] [])) _
        refine XS.iloadN X0.here hx rfl (hb hby d1_15) rfl ?_
        show Steps p.tables e below (s₁.setTop (mkF m 16 #[.val (.ref a1), .val (.int p1), .val (.int p2)] [(.int p2)])) _
        refine XS.iconst X0.here hx rfl (hb hby d1_16) ?_
        show Steps p.tables e below (s₁.setTop (mkF m 17 #[.val (.ref a1), .val (.int p1), .val (.int p2)] [(.int (1 : Int32)), (.int p2)])) _
        refine XS.icmpNo X0.here hx rfl (hb hby d1_17) rfl (teq (by rw [e2, hj1]; rfl)).2 ?_
        show Steps p.tables e below (s₁.setTop (mkF m 20 #[.val (.ref a1), .val (.int p1), .val (.int p2)] [])) _
        refine st145 _ ?_
        show Steps p.tables e below (T145.setTop (mkF m 23 #[.val (.ref a1), .val (.int p1), .val (.int p2)] [(.ref b145)])) _
        refine XS.dup X145.here hx rfl (hb hby d1_23) rfl rfl ?_
        show Steps p.tables e below (T145.setTop (mkF m 24 #[.val (.ref a1), .val (.int p1), .val (.int p2)] [(.ref b145), (.ref b145)])) _
        refine XS.iconst X145.here hx rfl (hb hby d1_24) ?_
        show Steps p.tables e below (T145.setTop (mkF m 25 #[.val (.ref a1), .val (.int p1), .val (.int p2)] [(.int (1 : Int32)), (.ref b145), (.ref b145)])) _
        refine st149 _ ?_
        show Steps p.tables e below (T149.setTop (mkF m 27 #[.val (.ref a1), .val (.int p1), .val (.int p2)] [(.ref b149), (.ref b145), (.ref b145)])) _
        refine XS.dup X149.here hx rfl (hb hby d1_27) rfl rfl ?_
        show Steps p.tables e below (T149.setTop (mkF m 28 #[.val (.ref a1), .val (.int p1), .val (.int p2)] [(.ref b149), (.ref b149), (.ref b145), (.ref b145)])) _
        refine XS.iconst X149.here hx rfl (hb hby d1_28) ?_
        show Steps p.tables e below (T149.setTop (mkF m 29 #[.val (.ref a1), .val (.int p1), .val (.int p2)] [(.int (0 : Int32)), (.ref b149), (.ref b149), (.ref b145), (.ref b145)])) _
        refine XS.aloadN X149.here hx rfl (hb hby d1_29) rfl rfl ?_
        show Steps p.tables e below (T149.setTop (mkF m 30 #[.val (.ref a1), .val (.int p1), .val (.int p2)] [(.ref a1), (.int (0 : Int32)), (.ref b149), (.ref b149), (.ref b145), (.ref b145)])) _
        refine XS.iloadN X149.here hx rfl (hb hby d1_30) rfl ?_
        show Steps p.tables e below (T149.setTop (mkF m 31 #[.val (.ref a1), .val (.int p1), .val (.int p2)] [(.int p1), (.ref a1), (.int (0 : Int32)), (.ref b149), (.ref b149), (.ref b145), (.ref b145)])) _
        refine X149.caload hx (j := p1) (v := (.int (cs.getD (i + 0) 0))) (by rw [e149]; exact Ar154.1) (State.isArrayOf_alike hZ.alike Ar154.2.1) Ar154.2.2 hin154 hat154 (g := (mkF m 31 #[.val (.ref a1), .val (.int p1), .val (.int p2)] [(.int p1), (.ref a1), (.int (0 : Int32)), (.ref b149), (.ref b149), (.ref b145), (.ref b145)])) rfl rfl (hb hby d1_31) _ ?_
        show Steps p.tables e below (T149.setTop (mkF m 32 #[.val (.ref a1), .val (.int p1), .val (.int p2)] [(.int (cs.getD (i + 0) 0)), (.int (0 : Int32)), (.ref b149), (.ref b149), (.ref b145), (.ref b145)])) _
        refine st155 _ ?_
        show Steps p.tables e below (T155.setTop (mkF m 33 #[.val (.ref a1), .val (.int p1), .val (.int p2)] [(.ref b149), (.ref b145), (.ref b145)])) _
        refine st164.trans ?_
        show Steps p.tables e below (T164.setTop (mkF m 36 #[.val (.ref a1), .val (.int p1), .val (.int p2)] [(.ref b145)])) _
        exact retR X164 hx hret0 rfl rfl rfl (hb hby d1_36) hr
      · show QP Z cs i j h0 n0 _ T164.heap _
        exact ⟨b145, rfl, N164, own_ext K166, by rw [hsl]; exact ⟨hp', Nat.le_of_ble_eq_true rfl, fe164, fc164, t164, kb164, fv164, fa164⟩⟩
    · skip
      by_cases hj2 : j = 2
      · skip
        obtain ⟨T168, h168, X168, e168, E168, A168, D168, -, st168⟩ := newO X0 hx hZ hown (hw _ (List.mem_of_getElem? (i := 5) rfl)) (hw _ (List.mem_of_getElem? (i := 6) rfl)) (hw _ (List.mem_of_getElem? (i := 7) rfl)) e0 (g := (mkF m 42 #[.val (.ref a1), .val (.int p1), .val (.int p2)] [])) rfl (hb hby d1_42) (by decide) (by decide)
        obtain ⟨b168, g168⟩ : ∃ z, z = h0.size := ⟨_, rfl⟩
        rw [← g168] at A168 D168 st168
        have ge_b168 : n0 ≤ b168 := Nat.le_trans Z0 (Nat.le_of_eq g168.symm)
        have sz_b168 : h0.size ≤ b168 := Nat.le_trans (Keep.refl h0 []).1 (Nat.le_of_eq g168.symm)
        have Z169 : n0 ≤ h168.size := Nat.le_trans Z0 E168.1
        have K170 : Keep h0 h168 [] := (Keep.refl h0 []).ext E168
        have C171 := (C0.trans (CHr.ext E168 C0.1))
        obtain ⟨T172, h172, k172, X172, e172, E172, A172, st172⟩ := newP X168 hx hZ (hw _ (List.mem_of_getElem? (i := 0) rfl)) e168 (g := (mkF m 47 #[.val (.ref a1), .val (.int p1), .val (.int p2)] [(.int (2 : Int32)), (.ref b168), (.ref b168)])) rfl (hb hby d1_47) rfl (by decide) (cap := 2) (by decide) (by decide) (by decide) (by decide)
        obtain ⟨b172, g172⟩ : ∃ z, z = h168.size := ⟨_, rfl⟩
        rw [← g172] at A172 st172
        have ge_b172 : n0 ≤ b172 := Nat.le_trans Z169 (Nat.le_of_eq g172.symm)
        have sz_b172 : h0.size ≤ b172 := Nat.le_trans K170.1 (Nat.le_of_eq g172.symm)
        have Z173 : n0 ≤ h172.size := Nat.le_trans Z169 E172.1
        have K174 : Keep h0 h172 [] := K170.ext E172
        have C175 := (C171.trans (CHr.ext E172 C171.1))
        have V172 : Arv Z h172 b172 k172 .char (2 : Int32) [(.int (0 : Int32)), (.int (0 : Int32))] (.int (0 : Int32)) := (Arv.new A172 (by decide)).pad (pad_rep [] (.int (0 : Int32)) 2)
        have ex0 : p1 = Int32.ofNat (i + 0) := by rw [e1]; exact rfl
        have f176 := ((VA.ext E168).ext E172)
        obtain ⟨cl177, Ar177, -, S177, M177, Hs177, -⟩ := id f176
        have hin177 := inb_of S177 (j := p1) (by rw [ex0]; exact ⟨own_nn (by omega), (own_lt (b := 5) (by omega) (by omega)).mpr (by omega)⟩)
        have hat177 : cl177.slots[(p1).toNatClampNeg]? = some (.int (cs.getD (i + 0) 0)) := Has.at Hs177 hin177 (by rw [ex0, own_clamp (by omega)]; exact own_at cs (i + 0))
        obtain ⟨cl178, Ar178, q178, S178, M178, Hs178, G178⟩ := id V172
        obtain ⟨T178, h178, X178, e178, W178, st178⟩ := stC X172 hx hZ e172 Ar178 (j := (0 : Int32)) (inb_of S178 ⟨(by decide), (by decide)⟩) (g := (mkF m 54 #[.val (.ref a1), .val (.int p1), .val (.int p2)] [(.int (cs.getD (i + 0) 0)), (.int (0 : Int32)), (.ref b172), (.ref b172), (.ref b168), (.ref b168)])) rfl rfl (hb hby d1_54)
        have Z179 : n0 ≤ h178.size := Nat.le_trans Z173 (Keep.of_wr W178).1
        have K180 : Keep h0 h178 [] := K174.wr W178 (Or.inr sz_b172)
        have N178 := Fr.snoc X178 N0 ge_b172
        have C181 := (C175.trans (CHr.wr W178 (Safe.ext E172 C171.1 (Safe.new (Nat.le_of_eq g172.symm))) C175.1))
        have V178 : Arv Z h178 b172 k172 .char (2 : Int32) [(.int (nar .char (cs.getD (i + 0) 0))), (.int (0 : Int32))] (.int (0 : Int32)) := Arv.set Ar178 q178 S178 M178 Hs178 G178 (fits_nar_char _) W178 0 rfl (Nat.le_of_ble_eq_true rfl)
        have ex1 : (p1 + (1 : Int32)) = Int32.ofNat (i + 1) := by rw [e1]; exact own_addN (b := 1) (by omega)
        have f182 := (f176.other W178 (Nat.ne_of_lt (Nat.lt_of_lt_of_le (VA.ext E168).lt (Nat.le_of_eq g172.symm))))
        obtain ⟨cl183, Ar183, -, S183, M183, Hs183, -⟩ := id f182
        have hin183 := inb_of S183 (j := (p1 + (1 : Int32))) (by rw [ex1]; exact ⟨own_nn (by omega), (own_lt (b := 5) (by omega) (by omega)).mpr (by omega)⟩)
        have hat183 : cl183.slots[((p1 + (1 : Int32))).toNatClampNeg]? = some (.int (cs.getD (i + 1) 0)) := Has.at Hs183 hin183 (by rw [ex1, own_clamp (by omega)]; exact own_at cs (i + 1))
        obtain ⟨cl184, Ar184, q184, S184, M184, Hs184, G184⟩ := id V178
        obtain ⟨T184, h184, X184, e184, W184, st184⟩ := stC X178 hx hZ e178 Ar184 (j := (1 : Int32)) (inb_of S184 ⟨(by decide), (by decide)⟩) (g := (mkF m 62 #[.val (.ref a1), .val (.int p1), .val (.int p2)] [(.int (cs.getD (i + 1) 0)), (.int (1 : Int32)), (.ref b172), (.ref b172), (.ref b168), (.ref b168)])) rfl rfl (hb hby d1_62)
        have Z185 : n0 ≤ h184.size := Nat.le_trans Z179 (Keep.of_wr W184).1
        have K186 : Keep h0 h184 [] := K180.wr W184 (Or.inr sz_b172)
        have N184 := Fr.snoc X184 N178 ge_b172
        have C187 := (C181.trans (CHr.wr W184 (Safe.wr W178 (Safe.ext E172 C171.1 (Safe.new (Nat.le_of_eq g172.symm))) C175.1 (Safe.ext E172 C171.1 (Safe.new (Nat.le_of_eq g172.symm)))) C181.1))
        have V184 : Arv Z h184 b172 k172 .char (2 : Int32) [(.int (nar .char (cs.getD (i + 0) 0))), (.int (nar .char (cs.getD (i + 1) 0)))] (.int (0 : Int32)) := Arv.set Ar184 q184 S184 M184 Hs184 G184 (fits_nar_char _) W184 1 rfl (Nat.le_of_ble_eq_true rfl)
        have hp' : ∀ c ∈ ([(cs.getD (i + 0) 0), (cs.getD (i + 1) 0)] : List Int32), ¬ c < 0 ∧ ¬ (255 : Int32) < c := by
          intro c hc
          simp only [List.mem_cons, List.not_mem_nil, or_false] at hc
          rcases hc with rfl | rfl <;> exact own_getB hp _
        have V188 : Arv Z h184 b172 k172 .char (2 : Int32) (([(cs.getD (i + 0) 0), (cs.getD (i + 1) 0)] : List Int32).map Value.int) (.int (0 : Int32)) := by
          have q := V184
          rw [own_narc (own_getB hp (i + 0)), own_narc (own_getB hp (i + 1))] at q
          exact q
        have f189 := (((A168.ext E172).wr W178).wr W184)
        have f190 := ((((D168 (Or.inr (hw _ (List.mem_of_getElem? (i := 20) rfl))) (ty := (.array .byte)) (by decide)).ext E172).other W178 (Or.inl (Nat.ne_of_lt (Nat.lt_of_lt_of_le A168.lt (Nat.le_of_eq g172.symm))))).other W184 (Or.inl (Nat.ne_of_lt (Nat.lt_of_lt_of_le A168.lt (Nat.le_of_eq g172.symm)))))
        have f191 := ((((D168 (Or.inr (hw _ (List.mem_of_getElem? (i := 21) rfl))) (ty := .byte) (by decide)).ext E172).other W178 (Or.inl (Nat.ne_of_lt (Nat.lt_of_lt_of_le A168.lt (Nat.le_of_eq g172.symm))))).other W184 (Or.inl (Nat.ne_of_lt (Nat.lt_of_lt_of_le A168.lt (Nat.le_of_eq g172.symm)))))
        have f192 := ((((X00.ext E168).ext E172).wr W178 ge_b172).wr W184 ge_b172)
        obtain ⟨v193, vmx193, ⟨T193, L193, k193, n193⟩, -, X193, ⟨Lc193, hQ193, l193, y193, z193⟩, st193⟩ := X184.specialBack hx (y := (⟨"java/lang/String", "<init>", "([C)V"⟩ : MethodName)) rfl hown (mvT hZ (hw _ (List.mem_of_getElem? (i := 8) rfl))) (mvT hZ (hw _ (List.mem_of_getElem? (i := 9) rfl))) (mvT hZ (hw _ (List.mem_of_getElem? (i := 10) rfl))) (by decide) (StrChars.Road.backV (W := 1) hZ hws (kI := 4) (hw _ (List.mem_of_getElem? (i := 6) rfl)) (cs := ([(cs.getD (i + 0) 0), (cs.getD (i + 1) 0)] : List Int32)) (bs := (([(cs.getD (i + 0) 0), (cs.getD (i + 1) 0)] : List Int32)).map (fun c => c.toInt8.toInt32)) (n := 2) ge_b168 Z185 f189 f190 f191 V188 (O2.ext f192.2) P5 rfl rfl (by decide) (by decide) hp' rfl (by decide) (by decide)) (g := (mkF m 63 #[.val (.ref a1), .val (.int p1), .val (.int p2)] [(.ref b172), (.ref b168), (.ref b168)])) rfl (by rw [hml]; rfl) (Steps.refl _) (a := b168) (argsL := [(.ref b172)]) (rest := [(.ref b168)]) (lenOf own_pd12 rfl) rfl (by show 2 * 0 + _ ≤ _; exact Nat.le_of_eq rfl) (hb hby d1_63) (fun _ _ => ⟨rfl, e184, (by decide : 2 + 1 ≤ _), (by decide : 6 + 2 ≤ _)⟩)
        dsimp only [Pt.U, Pt.locs, Pt.cells, Pt.slots] at X193 l193 y193 z193 st193 hQ193
        subst l193 y193 z193
        obtain ⟨rfl, Nq193, K193, fe193, fc193, t193, kb193, u1193, u2193, u3193, fv193, fa193⟩ := hQ193
        have N193 := Fr.app N184 Nq193
        have Z194 : n0 ≤ T193.heap.size := Nat.le_trans Z185 K193.1
        have K195 : Keep h0 T193.heap [] := K186.trans K193 (allS (Or.inr sz_b168) all0)
        have C196 := (C187.trans (CHr.keep K193 (allS (Safe.wr W184 (Safe.wr W178 (Safe.ext E172 C171.1 (Safe.new (Nat.le_of_eq g172.symm))) C175.1 (Safe.ext E172 C171.1 (Safe.new (Nat.le_of_eq g172.symm)))) C181.1 (Safe.wr W178 (Safe.ext E172 C171.1 (Safe.new (Nat.le_of_eq g172.symm))) C175.1 (Safe.ext E172 C171.1 (Safe.ext E168 C0.1 (Safe.new (Nat.le_of_eq g168.symm)))))) all0) C187.1))
        have hsl : (cs.drop i).take j = ([(cs.getD (i + 0) 0), (cs.getD (i + 1) 0)] : List Int32) := by rw [hj2, ← own_slice cs i 2 (by omega)]; rfl
        obtain ⟨fs, hr, hrun, hended, hW⟩ := Stand.leaveW (s := s) (vm₁ := s.vm) X193 hS0 (by rw [show T193.heap = _ from rfl]; exact (Nat.zero_le _)) (v := some (.ref b168)) (fun h => by rw [hret0] at h; cases h)
        refine ⟨_, _, pre0 _ ?_, hrun, hended, _, _, rfl, ?_, own_chr (T := T193) hh rfl (C196.trans (CHv.at (s := s) (vm0 := s.vm) X193 hZ hEL C196.1)), own_wmono hW (by decide) (by decide)⟩
        · show Steps p.tables e below (s₁.setTop (mkF m 0 #[.val (.ref a1), .val (.int p1), .val (.int p2)] [])) _
          refine XS.iloadN X0.here hx rfl (hb hby d1_0) rfl ?_
          show Steps p.tables e below (s₁.setTop (mkF m 1 #[.val (.ref a1), .val (.int p1), .val (.int p2)] [(.int p2)])) _
          refine XS.ifYes X0.here hx rfl (pc0 := 1) (pc' := 15) rfl (hb hby d1_1) rfl ((if0 _ _).trans (feq (by rw [e2]; intro q; exact hj0 ((own_eq (b := 0) (by omega) (by omega)).mp q))).2) (by decide) (by decide) ?_
          show Steps p.tables e below (s₁.setTop (mkF m 15 #[.val (.ref a1), .val (.int p1), .val (.int p2)] [])) _
          refine XS.iloadN X0.here hx rfl (hb hby d1_15) rfl ?_
          show Steps p.tables e below (s₁.setTop (mkF m 16 #[.val (.ref a1), .val (.int p1), .val (.int p2)] [(.int p2)])) _
          refine XS.iconst X0.here hx rfl (hb hby d1_16) ?_
          show Steps p.tables e below (s₁.setTop (mkF m 17 #[.val (.ref a1), .val (.int p1), .val (.int p2)] [(.int (1 : Int32)), (.int p2)])) _
          refine XS.icmpYes X0.here hx rfl (pc0 := 17) (pc' := 37) rfl (hb hby d1_17) rfl (feq (by rw [e2]; intro q; exact hj1 ((own_eq (b := 1) (by omega) (by omega)).mp q))).2 (by decide) (by decide) ?_
          show Steps p.tables e below (s₁.setTop (mkF m 37 #[.val (.ref a1), .val (.int p1), .val (.int p2)] [])) _
          refine XS.iloadN X0.here hx rfl (hb hby d1_37) rfl ?_
          show Steps p.tables e below (s₁.setTop (mkF m 38 #[.val (.ref a1), .val (.int p1), .val (.int p2)] [(.int p2)])) _
          refine XS.iconst X0.here hx rfl (hb hby d1_38) ?_
          show Steps p.tables e below (s₁.setTop (mkF m 39 #[.val (.ref a1), .val (.int p1), .val (.int p2)] [(.int (2 : Int32)), (.int p2)])) _
          refine XS.icmpNo X0.here hx rfl (hb hby d1_39) rfl (teq (by rw [e2, hj2]; rfl)).2 ?_
          show Steps p.tables e below (s₁.setTop (mkF m 42 #[.val (.ref a1), .val (.int p1), .val (.int p2)] [])) _
          refine st168 _ ?_
          show Steps p.tables e below (T168.setTop (mkF m 45 #[.val (.ref a1), .val (.int p1), .val (.int p2)] [(.ref b168)])) _
          refine XS.dup X168.here hx rfl (hb hby d1_45) rfl rfl ?_
          show Steps p.tables e below (T168.setTop (mkF m 46 #[.val (.ref a1), .val (.int p1), .val (.int p2)] [(.ref b168), (.ref b168)])) _
          refine XS.iconst X168.here hx rfl (hb hby d1_46) ?_
          show Steps p.tables e below (T168.setTop (mkF m 47 #[.val (.ref a1), .val (.int p1), .val (.int p2)] [(.int (2 : Int32)), (.ref b168), (.ref b168)])) _
          refine st172 _ ?_
          show Steps p.tables e below (T172.setTop (mkF m 49 #[.val (.ref a1), .val (.int p1), .val (.int p2)] [(.ref b172), (.ref b168), (.ref b168)])) _
          refine XS.dup X172.here hx rfl (hb hby d1_49) rfl rfl ?_
          show Steps p.tables e below (T172.setTop (mkF m 50 #[.val (.ref a1), .val (.int p1), .val (.int p2)] [(.ref b172), (.ref b172), (.ref b168), (.ref b168)])) _
          refine XS.iconst X172.here hx rfl (hb hby d1_50) ?_
          show Steps p.tables e below (T172.setTop (mkF m 51 #[.val (.ref a1), .val (.int p1), .val (.int p2)] [(.int (0 : Int32)), (.ref b172), (.ref b172), (.ref b168), (.ref b168)])) _
          refine XS.aloadN X172.here hx rfl (hb hby d1_51) rfl rfl ?_
          show Steps p.tables e below (T172.setTop (mkF m 52 #[.val (.ref a1), .val (.int p1), .val (.int p2)] [(.ref a1), (.int (0 : Int32)), (.ref b172), (.ref b172), (.ref b168), (.ref b168)])) _
          refine XS.iloadN X172.here hx rfl (hb hby d1_52) rfl ?_
          show Steps p.tables e below (T172.setTop (mkF m 53 #[.val (.ref a1), .val (.int p1), .val (.int p2)] [(.int p1), (.ref a1), (.int (0 : Int32)), (.ref b172), (.ref b172), (.ref b168), (.ref b168)])) _
          refine X172.caload hx (j := p1) (v := (.int (cs.getD (i + 0) 0))) (by rw [e172]; exact Ar177.1) (State.isArrayOf_alike hZ.alike Ar177.2.1) Ar177.2.2 hin177 hat177 (g := (mkF m 53 #[.val (.ref a1), .val (.int p1), .val (.int p2)] [(.int p1), (.ref a1), (.int (0 : Int32)), (.ref b172), (.ref b172), (.ref b168), (.ref b168)])) rfl rfl (hb hby d1_53) _ ?_
          show Steps p.tables e below (T172.setTop (mkF m 54 #[.val (.ref a1), .val (.int p1), .val (.int p2)] [(.int (cs.getD (i + 0) 0)), (.int (0 : Int32)), (.ref b172), (.ref b172), (.ref b168), (.ref b168)])) _
          refine st178 _ ?_
          show Steps p.tables e below (T178.setTop (mkF m 55 #[.val (.ref a1), .val (.int p1), .val (.int p2)] [(.ref b172), (.ref b168), (.ref b168)])) _
          refine XS.dup X178.here hx rfl (hb hby d1_55) rfl rfl ?_
          show Steps p.tables e below (T178.setTop (mkF m 56 #[.val (.ref a1), .val (.int p1), .val (.int p2)] [(.ref b172), (.ref b172), (.ref b168), (.ref b168)])) _
          refine XS.iconst X178.here hx rfl (hb hby d1_56) ?_
          show Steps p.tables e below (T178.setTop (mkF m 57 #[.val (.ref a1), .val (.int p1), .val (.int p2)] [(.int (1 : Int32)), (.ref b172), (.ref b172), (.ref b168), (.ref b168)])) _
          refine XS.aloadN X178.here hx rfl (hb hby d1_57) rfl rfl ?_
          show Steps p.tables e below (T178.setTop (mkF m 58 #[.val (.ref a1), .val (.int p1), .val (.int p2)] [(.ref a1), (.int (1 : Int32)), (.ref b172), (.ref b172), (.ref b168), (.ref b168)])) _
          refine XS.iloadN X178.here hx rfl (hb hby d1_58) rfl ?_
          show Steps p.tables e below (T178.setTop (mkF m 59 #[.val (.ref a1), .val (.int p1), .val (.int p2)] [(.int p1), (.ref a1), (.int (1 : Int32)), (.ref b172), (.ref b172), (.ref b168), (.ref b168)])) _
          refine XS.iconst X178.here hx rfl (hb hby d1_59) ?_
          show Steps p.tables e below (T178.setTop (mkF m 60 #[.val (.ref a1), .val (.int p1), .val (.int p2)] [(.int (1 : Int32)), (.int p1), (.ref a1), (.int (1 : Int32)), (.ref b172), (.ref b172), (.ref b168), (.ref b168)])) _
          refine XS.iadd X178.here hx rfl (hb hby d1_60) rfl ?_
          show Steps p.tables e below (T178.setTop (mkF m 61 #[.val (.ref a1), .val (.int p1), .val (.int p2)] [(.int (p1 + (1 : Int32))), (.ref a1), (.int (1 : Int32)), (.ref b172), (.ref b172), (.ref b168), (.ref b168)])) _
          refine X178.caload hx (j := (p1 + (1 : Int32))) (v := (.int (cs.getD (i + 1) 0))) (by rw [e178]; exact Ar183.1) (State.isArrayOf_alike hZ.alike Ar183.2.1) Ar183.2.2 hin183 hat183 (g := (mkF m 61 #[.val (.ref a1), .val (.int p1), .val (.int p2)] [(.int (p1 + (1 : Int32))), (.ref a1), (.int (1 : Int32)), (.ref b172), (.ref b172), (.ref b168), (.ref b168)])) rfl rfl (hb hby d1_61) _ ?_
          show Steps p.tables e below (T178.setTop (mkF m 62 #[.val (.ref a1), .val (.int p1), .val (.int p2)] [(.int (cs.getD (i + 1) 0)), (.int (1 : Int32)), (.ref b172), (.ref b172), (.ref b168), (.ref b168)])) _
          refine st184 _ ?_
          show Steps p.tables e below (T184.setTop (mkF m 63 #[.val (.ref a1), .val (.int p1), .val (.int p2)] [(.ref b172), (.ref b168), (.ref b168)])) _
          refine st193.trans ?_
          show Steps p.tables e below (T193.setTop (mkF m 66 #[.val (.ref a1), .val (.int p1), .val (.int p2)] [(.ref b168)])) _
          exact retR X193 hx hret0 rfl rfl rfl (hb hby d1_66) hr
        · show QP Z cs i j h0 n0 _ T193.heap _
          exact ⟨b168, rfl, N193, own_ext K195, by rw [hsl]; exact ⟨hp', Nat.le_of_ble_eq_true rfl, fe193, fc193, t193, kb193, fv193, fa193⟩⟩
      · skip
        by_cases hj3 : j = 3
        · skip
          obtain ⟨T197, h197, X197, e197, E197, A197, D197, -, st197⟩ := newO X0 hx hZ hown (hw _ (List.mem_of_getElem? (i := 5) rfl)) (hw _ (List.mem_of_getElem? (i := 6) rfl)) (hw _ (List.mem_of_getElem? (i := 7) rfl)) e0 (g := (mkF m 72 #[.val (.ref a1), .val (.int p1), .val (.int p2)] [])) rfl (hb hby d1_72) (by decide) (by decide)
          obtain ⟨b197, g197⟩ : ∃ z, z = h0.size := ⟨_, rfl⟩
          rw [← g197] at A197 D197 st197
          have ge_b197 : n0 ≤ b197 := Nat.le_trans Z0 (Nat.le_of_eq g197.symm)
          have sz_b197 : h0.size ≤ b197 := Nat.le_trans (Keep.refl h0 []).1 (Nat.le_of_eq g197.symm)
          have Z198 : n0 ≤ h197.size := Nat.le_trans Z0 E197.1
          have K199 : Keep h0 h197 [] := (Keep.refl h0 []).ext E197
          have C200 := (C0.trans (CHr.ext E197 C0.1))
          obtain ⟨T201, h201, k201, X201, e201, E201, A201, st201⟩ := newP X197 hx hZ (hw _ (List.mem_of_getElem? (i := 0) rfl)) e197 (g := (mkF m 77 #[.val (.ref a1), .val (.int p1), .val (.int p2)] [(.int (3 : Int32)), (.ref b197), (.ref b197)])) rfl (hb hby d1_77) rfl (by decide) (cap := 3) (by decide) (by decide) (by decide) (by decide)
          obtain ⟨b201, g201⟩ : ∃ z, z = h197.size := ⟨_, rfl⟩
          rw [← g201] at A201 st201
          have ge_b201 : n0 ≤ b201 := Nat.le_trans Z198 (Nat.le_of_eq g201.symm)
          have sz_b201 : h0.size ≤ b201 := Nat.le_trans K199.1 (Nat.le_of_eq g201.symm)
          have Z202 : n0 ≤ h201.size := Nat.le_trans Z198 E201.1
          have K203 : Keep h0 h201 [] := K199.ext E201
          have C204 := (C200.trans (CHr.ext E201 C200.1))
          have V201 : Arv Z h201 b201 k201 .char (3 : Int32) [(.int (0 : Int32)), (.int (0 : Int32)), (.int (0 : Int32))] (.int (0 : Int32)) := (Arv.new A201 (by decide)).pad (pad_rep [] (.int (0 : Int32)) 3)
          have ex0 : p1 = Int32.ofNat (i + 0) := by rw [e1]; exact rfl
          have f205 := ((VA.ext E197).ext E201)
          obtain ⟨cl206, Ar206, -, S206, M206, Hs206, -⟩ := id f205
          have hin206 := inb_of S206 (j := p1) (by rw [ex0]; exact ⟨own_nn (by omega), (own_lt (b := 5) (by omega) (by omega)).mpr (by omega)⟩)
          have hat206 : cl206.slots[(p1).toNatClampNeg]? = some (.int (cs.getD (i + 0) 0)) := Has.at Hs206 hin206 (by rw [ex0, own_clamp (by omega)]; exact own_at cs (i + 0))
          obtain ⟨cl207, Ar207, q207, S207, M207, Hs207, G207⟩ := id V201
          obtain ⟨T207, h207, X207, e207, W207, st207⟩ := stC X201 hx hZ e201 Ar207 (j := (0 : Int32)) (inb_of S207 ⟨(by decide), (by decide)⟩) (g := (mkF m 84 #[.val (.ref a1), .val (.int p1), .val (.int p2)] [(.int (cs.getD (i + 0) 0)), (.int (0 : Int32)), (.ref b201), (.ref b201), (.ref b197), (.ref b197)])) rfl rfl (hb hby d1_84)
          have Z208 : n0 ≤ h207.size := Nat.le_trans Z202 (Keep.of_wr W207).1
          have K209 : Keep h0 h207 [] := K203.wr W207 (Or.inr sz_b201)
          have N207 := Fr.snoc X207 N0 ge_b201
          have C210 := (C204.trans (CHr.wr W207 (Safe.ext E201 C200.1 (Safe.new (Nat.le_of_eq g201.symm))) C204.1))
          have V207 : Arv Z h207 b201 k201 .char (3 : Int32) [(.int (nar .char (cs.getD (i + 0) 0))), (.int (0 : Int32)), (.int (0 : Int32))] (.int (0 : Int32)) := Arv.set Ar207 q207 S207 M207 Hs207 G207 (fits_nar_char _) W207 0 rfl (Nat.le_of_ble_eq_true rfl)
          have ex1 : (p1 + (1 : Int32)) = Int32.ofNat (i + 1) := by rw [e1]; exact own_addN (b := 1) (by omega)
          have f211 := (f205.other W207 (Nat.ne_of_lt (Nat.lt_of_lt_of_le (VA.ext E197).lt (Nat.le_of_eq g201.symm))))
          obtain ⟨cl212, Ar212, -, S212, M212, Hs212, -⟩ := id f211
          have hin212 := inb_of S212 (j := (p1 + (1 : Int32))) (by rw [ex1]; exact ⟨own_nn (by omega), (own_lt (b := 5) (by omega) (by omega)).mpr (by omega)⟩)
          have hat212 : cl212.slots[((p1 + (1 : Int32))).toNatClampNeg]? = some (.int (cs.getD (i + 1) 0)) := Has.at Hs212 hin212 (by rw [ex1, own_clamp (by omega)]; exact own_at cs (i + 1))
          obtain ⟨cl213, Ar213, q213, S213, M213, Hs213, G213⟩ := id V207
          obtain ⟨T213, h213, X213, e213, W213, st213⟩ := stC X207 hx hZ e207 Ar213 (j := (1 : Int32)) (inb_of S213 ⟨(by decide), (by decide)⟩) (g := (mkF m 92 #[.val (.ref a1), .val (.int p1), .val (.int p2)] [(.int (cs.getD (i + 1) 0)), (.int (1 : Int32)), (.ref b201), (.ref b201), (.ref b197), (.ref b197)])) rfl rfl (hb hby d1_92)
          have Z214 : n0 ≤ h213.size := Nat.le_trans Z208 (Keep.of_wr W213).1
          have K215 : Keep h0 h213 [] := K209.wr W213 (Or.inr sz_b201)
          have N213 := Fr.snoc X213 N207 ge_b201
          have C216 := (C210.trans (CHr.wr W213 (Safe.wr W207 (Safe.ext E201 C200.1 (Safe.new (Nat.le_of_eq g201.symm))) C204.1 (Safe.ext E201 C200.1 (Safe.new (Nat.le_of_eq g201.symm)))) C210.1))
          have V213 : Arv Z h213 b201 k201 .char (3 : Int32) [(.int (nar .char (cs.getD (i + 0) 0))), (.int (nar .char (cs.getD (i + 1) 0))), (.int (0 : Int32))] (.int (0 : Int32)) := Arv.set Ar213 q213 S213 M213 Hs213 G213 (fits_nar_char _) W213 1 rfl (Nat.le_of_ble_eq_true rfl)
          have ex2 : (p1 + (2 : Int32)) = Int32.ofNat (i + 2) := by rw [e1]; exact own_addN (b := 2) (by omega)
          have f217 := (f211.other W213 (Nat.ne_of_lt (Nat.lt_of_lt_of_le (VA.ext E197).lt (Nat.le_of_eq g201.symm))))
          obtain ⟨cl218, Ar218, -, S218, M218, Hs218, -⟩ := id f217
          have hin218 := inb_of S218 (j := (p1 + (2 : Int32))) (by rw [ex2]; exact ⟨own_nn (by omega), (own_lt (b := 5) (by omega) (by omega)).mpr (by omega)⟩)
          have hat218 : cl218.slots[((p1 + (2 : Int32))).toNatClampNeg]? = some (.int (cs.getD (i + 2) 0)) := Has.at Hs218 hin218 (by rw [ex2, own_clamp (by omega)]; exact own_at cs (i + 2))
          obtain ⟨cl219, Ar219, q219, S219, M219, Hs219, G219⟩ := id V213
          obtain ⟨T219, h219, X219, e219, W219, st219⟩ := stC X213 hx hZ e213 Ar219 (j := (2 : Int32)) (inb_of S219 ⟨(by decide), (by decide)⟩) (g := (mkF m 100 #[.val (.ref a1), .val (.int p1), .val (.int p2)] [(.int (cs.getD (i + 2) 0)), (.int (2 : Int32)), (.ref b201), (.ref b201), (.ref b197), (.ref b197)])) rfl rfl (hb hby d1_100)
          have Z220 : n0 ≤ h219.size := Nat.le_trans Z214 (Keep.of_wr W219).1
          have K221 : Keep h0 h219 [] := K215.wr W219 (Or.inr sz_b201)
          have N219 := Fr.snoc X219 N213 ge_b201
          have C222 := (C216.trans (CHr.wr W219 (Safe.wr W213 (Safe.wr W207 (Safe.ext E201 C200.1 (Safe.new (Nat.le_of_eq g201.symm))) C204.1 (Safe.ext E201 C200.1 (Safe.new (Nat.le_of_eq g201.symm)))) C210.1 (Safe.wr W207 (Safe.ext E201 C200.1 (Safe.new (Nat.le_of_eq g201.symm))) C204.1 (Safe.ext E201 C200.1 (Safe.new (Nat.le_of_eq g201.symm))))) C216.1))
          have V219 : Arv Z h219 b201 k201 .char (3 : Int32) [(.int (nar .char (cs.getD (i + 0) 0))), (.int (nar .char (cs.getD (i + 1) 0))), (.int (nar .char (cs.getD (i + 2) 0)))] (.int (0 : Int32)) := Arv.set Ar219 q219 S219 M219 Hs219 G219 (fits_nar_char _) W219 2 rfl (Nat.le_of_ble_eq_true rfl)
          have hp' : ∀ c ∈ ([(cs.getD (i + 0) 0), (cs.getD (i + 1) 0), (cs.getD (i + 2) 0)] : List Int32), ¬ c < 0 ∧ ¬ (255 : Int32) < c := by
            intro c hc
            simp only [List.mem_cons, List.not_mem_nil, or_false] at hc
            rcases hc with rfl | rfl | rfl <;> exact own_getB hp _
          have V223 : Arv Z h219 b201 k201 .char (3 : Int32) (([(cs.getD (i + 0) 0), (cs.getD (i + 1) 0), (cs.getD (i + 2) 0)] : List Int32).map Value.int) (.int (0 : Int32)) := by
            have q := V219
            rw [own_narc (own_getB hp (i + 0)), own_narc (own_getB hp (i + 1)), own_narc (own_getB hp (i + 2))] at q
            exact q
          have f224 := ((((A197.ext E201).wr W207).wr W213).wr W219)
          have f225 := (((((D197 (Or.inr (hw _ (List.mem_of_getElem? (i := 20) rfl))) (ty := (.array .byte)) (by decide)).ext E201).other W207 (Or.inl (Nat.ne_of_lt (Nat.lt_of_lt_of_le A197.lt (Nat.le_of_eq g201.symm))))).other W213 (Or.inl (Nat.ne_of_lt (Nat.lt_of_lt_of_le A197.lt (Nat.le_of_eq g201.symm))))).other W219 (Or.inl (Nat.ne_of_lt (Nat.lt_of_lt_of_le A197.lt (Nat.le_of_eq g201.symm)))))
          have f226 := (((((D197 (Or.inr (hw _ (List.mem_of_getElem? (i := 21) rfl))) (ty := .byte) (by decide)).ext E201).other W207 (Or.inl (Nat.ne_of_lt (Nat.lt_of_lt_of_le A197.lt (Nat.le_of_eq g201.symm))))).other W213 (Or.inl (Nat.ne_of_lt (Nat.lt_of_lt_of_le A197.lt (Nat.le_of_eq g201.symm))))).other W219 (Or.inl (Nat.ne_of_lt (Nat.lt_of_lt_of_le A197.lt (Nat.le_of_eq g201.symm)))))
          have f227 := (((((X00.ext E197).ext E201).wr W207 ge_b201).wr W213 ge_b201).wr W219 ge_b201)
          obtain ⟨v228, vmx228, ⟨T228, L228, k228, n228⟩, -, X228, ⟨Lc228, hQ228, l228, y228, z228⟩, st228⟩ := X219.specialBack hx (y := (⟨"java/lang/String", "<init>", "([C)V"⟩ : MethodName)) rfl hown (mvT hZ (hw _ (List.mem_of_getElem? (i := 8) rfl))) (mvT hZ (hw _ (List.mem_of_getElem? (i := 9) rfl))) (mvT hZ (hw _ (List.mem_of_getElem? (i := 10) rfl))) (by decide) (StrChars.Road.backV (W := 1) hZ hws (kI := 4) (hw _ (List.mem_of_getElem? (i := 6) rfl)) (cs := ([(cs.getD (i + 0) 0), (cs.getD (i + 1) 0), (cs.getD (i + 2) 0)] : List Int32)) (bs := (([(cs.getD (i + 0) 0), (cs.getD (i + 1) 0), (cs.getD (i + 2) 0)] : List Int32)).map (fun c => c.toInt8.toInt32)) (n := 3) ge_b197 Z220 f224 f225 f226 V223 (O2.ext f227.2) P5 rfl rfl (by decide) (by decide) hp' rfl (by decide) (by decide)) (g := (mkF m 101 #[.val (.ref a1), .val (.int p1), .val (.int p2)] [(.ref b201), (.ref b197), (.ref b197)])) rfl (by rw [hml]; rfl) (Steps.refl _) (a := b197) (argsL := [(.ref b201)]) (rest := [(.ref b197)]) (lenOf own_pd12 rfl) rfl (by show 2 * 0 + _ ≤ _; exact Nat.le_of_eq rfl) (hb hby d1_101) (fun _ _ => ⟨rfl, e219, (by decide : 2 + 1 ≤ _), (by decide : 7 + 3 ≤ _)⟩)
          dsimp only [Pt.U, Pt.locs, Pt.cells, Pt.slots] at X228 l228 y228 z228 st228 hQ228
          subst l228 y228 z228
          obtain ⟨rfl, Nq228, K228, fe228, fc228, t228, kb228, u1228, u2228, u3228, fv228, fa228⟩ := hQ228
          have N228 := Fr.app N219 Nq228
          have Z229 : n0 ≤ T228.heap.size := Nat.le_trans Z220 K228.1
          have K230 : Keep h0 T228.heap [] := K221.trans K228 (allS (Or.inr sz_b197) all0)
          have C231 := (C222.trans (CHr.keep K228 (allS (Safe.wr W219 (Safe.wr W213 (Safe.wr W207 (Safe.ext E201 C200.1 (Safe.new (Nat.le_of_eq g201.symm))) C204.1 (Safe.ext E201 C200.1 (Safe.new (Nat.le_of_eq g201.symm)))) C210.1 (Safe.wr W207 (Safe.ext E201 C200.1 (Safe.new (Nat.le_of_eq g201.symm))) C204.1 (Safe.ext E201 C200.1 (Safe.new (Nat.le_of_eq g201.symm))))) C216.1 (Safe.wr W213 (Safe.wr W207 (Safe.ext E201 C200.1 (Safe.new (Nat.le_of_eq g201.symm))) C204.1 (Safe.ext E201 C200.1 (Safe.new (Nat.le_of_eq g201.symm)))) C210.1 (Safe.wr W207 (Safe.ext E201 C200.1 (Safe.new (Nat.le_of_eq g201.symm))) C204.1 (Safe.ext E201 C200.1 (Safe.ext E197 C0.1 (Safe.new (Nat.le_of_eq g197.symm))))))) all0) C222.1))
          have hsl : (cs.drop i).take j = ([(cs.getD (i + 0) 0), (cs.getD (i + 1) 0), (cs.getD (i + 2) 0)] : List Int32) := by rw [hj3, ← own_slice cs i 3 (by omega)]; rfl
          obtain ⟨fs, hr, hrun, hended, hW⟩ := Stand.leaveW (s := s) (vm₁ := s.vm) X228 hS0 (by rw [show T228.heap = _ from rfl]; exact (Nat.zero_le _)) (v := some (.ref b197)) (fun h => by rw [hret0] at h; cases h)
          refine ⟨_, _, pre0 _ ?_, hrun, hended, _, _, rfl, ?_, own_chr (T := T228) hh rfl (C231.trans (CHv.at (s := s) (vm0 := s.vm) X228 hZ hEL C231.1)), own_wmono hW (by decide) (by decide)⟩
          · show Steps p.tables e below (s₁.setTop (mkF m 0 #[.val (.ref a1), .val (.int p1), .val (.int p2)] [])) _
            refine XS.iloadN X0.here hx rfl (hb hby d1_0) rfl ?_
            show Steps p.tables e below (s₁.setTop (mkF m 1 #[.val (.ref a1), .val (.int p1), .val (.int p2)] [(.int p2)])) _
            refine XS.ifYes X0.here hx rfl (pc0 := 1) (pc' := 15) rfl (hb hby d1_1) rfl ((if0 _ _).trans (feq (by rw [e2]; intro q; exact hj0 ((own_eq (b := 0) (by omega) (by omega)).mp q))).2) (by decide) (by decide) ?_
            show Steps p.tables e below (s₁.setTop (mkF m 15 #[.val (.ref a1), .val (.int p1), .val (.int p2)] [])) _
            refine XS.iloadN X0.here hx rfl (hb hby d1_15) rfl ?_
            show Steps p.tables e below (s₁.setTop (mkF m 16 #[.val (.ref a1), .val (.int p1), .val (.int p2)] [(.int p2)])) _
            refine XS.iconst X0.here hx rfl (hb hby d1_16) ?_
            show Steps p.tables e below (s₁.setTop (mkF m 17 #[.val (.ref a1), .val (.int p1), .val (.int p2)] [(.int (1 : Int32)), (.int p2)])) _
            refine XS.icmpYes X0.here hx rfl (pc0 := 17) (pc' := 37) rfl (hb hby d1_17) rfl (feq (by rw [e2]; intro q; exact hj1 ((own_eq (b := 1) (by omega) (by omega)).mp q))).2 (by decide) (by decide) ?_
            show Steps p.tables e below (s₁.setTop (mkF m 37 #[.val (.ref a1), .val (.int p1), .val (.int p2)] [])) _
            refine XS.iloadN X0.here hx rfl (hb hby d1_37) rfl ?_
            show Steps p.tables e below (s₁.setTop (mkF m 38 #[.val (.ref a1), .val (.int p1), .val (.int p2)] [(.int p2)])) _
            refine XS.iconst X0.here hx rfl (hb hby d1_38) ?_
            show Steps p.tables e below (s₁.setTop (mkF m 39 #[.val (.ref a1), .val (.int p1), .val (.int p2)] [(.int (2 : Int32)), (.int p2)])) _
            refine XS.icmpYes X0.here hx rfl (pc0 := 39) (pc' := 67) rfl (hb hby d1_39) rfl (feq (by rw [e2]; intro q; exact hj2 ((own_eq (b := 2) (by omega) (by omega)).mp q))).2 (by decide) (by decide) ?_
            show Steps p.tables e below (s₁.setTop (mkF m 67 #[.val (.ref a1), .val (.int p1), .val (.int p2)] [])) _
            refine XS.iloadN X0.here hx rfl (hb hby d1_67) rfl ?_
            show Steps p.tables e below (s₁.setTop (mkF m 68 #[.val (.ref a1), .val (.int p1), .val (.int p2)] [(.int p2)])) _
            refine XS.iconst X0.here hx rfl (hb hby d1_68) ?_
            show Steps p.tables e below (s₁.setTop (mkF m 69 #[.val (.ref a1), .val (.int p1), .val (.int p2)] [(.int (3 : Int32)), (.int p2)])) _
            refine XS.icmpNo X0.here hx rfl (hb hby d1_69) rfl (teq (by rw [e2, hj3]; rfl)).2 ?_
            show Steps p.tables e below (s₁.setTop (mkF m 72 #[.val (.ref a1), .val (.int p1), .val (.int p2)] [])) _
            refine st197 _ ?_
            show Steps p.tables e below (T197.setTop (mkF m 75 #[.val (.ref a1), .val (.int p1), .val (.int p2)] [(.ref b197)])) _
            refine XS.dup X197.here hx rfl (hb hby d1_75) rfl rfl ?_
            show Steps p.tables e below (T197.setTop (mkF m 76 #[.val (.ref a1), .val (.int p1), .val (.int p2)] [(.ref b197), (.ref b197)])) _
            refine XS.iconst X197.here hx rfl (hb hby d1_76) ?_
            show Steps p.tables e below (T197.setTop (mkF m 77 #[.val (.ref a1), .val (.int p1), .val (.int p2)] [(.int (3 : Int32)), (.ref b197), (.ref b197)])) _
            refine st201 _ ?_
            show Steps p.tables e below (T201.setTop (mkF m 79 #[.val (.ref a1), .val (.int p1), .val (.int p2)] [(.ref b201), (.ref b197), (.ref b197)])) _
            refine XS.dup X201.here hx rfl (hb hby d1_79) rfl rfl ?_
            show Steps p.tables e below (T201.setTop (mkF m 80 #[.val (.ref a1), .val (.int p1), .val (.int p2)] [(.ref b201), (.ref b201), (.ref b197), (.ref b197)])) _
            refine XS.iconst X201.here hx rfl (hb hby d1_80) ?_
            show Steps p.tables e below (T201.setTop (mkF m 81 #[.val (.ref a1), .val (.int p1), .val (.int p2)] [(.int (0 : Int32)), (.ref b201), (.ref b201), (.ref b197), (.ref b197)])) _
            refine XS.aloadN X201.here hx rfl (hb hby d1_81) rfl rfl ?_
            show Steps p.tables e below (T201.setTop (mkF m 82 #[.val (.ref a1), .val (.int p1), .val (.int p2)] [(.ref a1), (.int (0 : Int32)), (.ref b201), (.ref b201), (.ref b197), (.ref b197)])) _
            refine XS.iloadN X201.here hx rfl (hb hby d1_82) rfl ?_
            show Steps p.tables e below (T201.setTop (mkF m 83 #[.val (.ref a1), .val (.int p1), .val (.int p2)] [(.int p1), (.ref a1), (.int (0 : Int32)), (.ref b201), (.ref b201), (.ref b197), (.ref b197)])) _
            refine X201.caload hx (j := p1) (v := (.int (cs.getD (i + 0) 0))) (by rw [e201]; exact Ar206.1) (State.isArrayOf_alike hZ.alike Ar206.2.1) Ar206.2.2 hin206 hat206 (g := (mkF m 83 #[.val (.ref a1), .val (.int p1), .val (.int p2)] [(.int p1), (.ref a1), (.int (0 : Int32)), (.ref b201), (.ref b201), (.ref b197), (.ref b197)])) rfl rfl (hb hby d1_83) _ ?_
            show Steps p.tables e below (T201.setTop (mkF m 84 #[.val (.ref a1), .val (.int p1), .val (.int p2)] [(.int (cs.getD (i + 0) 0)), (.int (0 : Int32)), (.ref b201), (.ref b201), (.ref b197), (.ref b197)])) _
            refine st207 _ ?_
            show Steps p.tables e below (T207.setTop (mkF m 85 #[.val (.ref a1), .val (.int p1), .val (.int p2)] [(.ref b201), (.ref b197), (.ref b197)])) _
            refine XS.dup X207.here hx rfl (hb hby d1_85) rfl rfl ?_
            show Steps p.tables e below (T207.setTop (mkF m 86 #[.val (.ref a1), .val (.int p1), .val (.int p2)] [(.ref b201), (.ref b201), (.ref b197), (.ref b197)])) _
            refine XS.iconst X207.here hx rfl (hb hby d1_86) ?_
            show Steps p.tables e below (T207.setTop (mkF m 87 #[.val (.ref a1), .val (.int p1), .val (.int p2)] [(.int (1 : Int32)), (.ref b201), (.ref b201), (.ref b197), (.ref b197)])) _
            refine XS.aloadN X207.here hx rfl (hb hby d1_87) rfl rfl ?_
            show Steps p.tables e below (T207.setTop (mkF m 88 #[.val (.ref a1), .val (.int p1), .val (.int p2)] [(.ref a1), (.int (1 : Int32)), (.ref b201), (.ref b201), (.ref b197), (.ref b197)])) _
            refine XS.iloadN X207.here hx rfl (hb hby d1_88) rfl ?_
            show Steps p.tables e below (T207.setTop (mkF m 89 #[.val (.ref a1), .val (.int p1), .val (.int p2)] [(.int p1), (.ref a1), (.int (1 : Int32)), (.ref b201), (.ref b201), (.ref b197), (.ref b197)])) _
            refine XS.iconst X207.here hx rfl (hb hby d1_89) ?_
            show Steps p.tables e below (T207.setTop (mkF m 90 #[.val (.ref a1), .val (.int p1), .val (.int p2)] [(.int (1 : Int32)), (.int p1), (.ref a1), (.int (1 : Int32)), (.ref b201), (.ref b201), (.ref b197), (.ref b197)])) _
            refine XS.iadd X207.here hx rfl (hb hby d1_90) rfl ?_
            show Steps p.tables e below (T207.setTop (mkF m 91 #[.val (.ref a1), .val (.int p1), .val (.int p2)] [(.int (p1 + (1 : Int32))), (.ref a1), (.int (1 : Int32)), (.ref b201), (.ref b201), (.ref b197), (.ref b197)])) _
            refine X207.caload hx (j := (p1 + (1 : Int32))) (v := (.int (cs.getD (i + 1) 0))) (by rw [e207]; exact Ar212.1) (State.isArrayOf_alike hZ.alike Ar212.2.1) Ar212.2.2 hin212 hat212 (g := (mkF m 91 #[.val (.ref a1), .val (.int p1), .val (.int p2)] [(.int (p1 + (1 : Int32))), (.ref a1), (.int (1 : Int32)), (.ref b201), (.ref b201), (.ref b197), (.ref b197)])) rfl rfl (hb hby d1_91) _ ?_
            show Steps p.tables e below (T207.setTop (mkF m 92 #[.val (.ref a1), .val (.int p1), .val (.int p2)] [(.int (cs.getD (i + 1) 0)), (.int (1 : Int32)), (.ref b201), (.ref b201), (.ref b197), (.ref b197)])) _
            refine st213 _ ?_
            show Steps p.tables e below (T213.setTop (mkF m 93 #[.val (.ref a1), .val (.int p1), .val (.int p2)] [(.ref b201), (.ref b197), (.ref b197)])) _
            refine XS.dup X213.here hx rfl (hb hby d1_93) rfl rfl ?_
            show Steps p.tables e below (T213.setTop (mkF m 94 #[.val (.ref a1), .val (.int p1), .val (.int p2)] [(.ref b201), (.ref b201), (.ref b197), (.ref b197)])) _
            refine XS.iconst X213.here hx rfl (hb hby d1_94) ?_
            show Steps p.tables e below (T213.setTop (mkF m 95 #[.val (.ref a1), .val (.int p1), .val (.int p2)] [(.int (2 : Int32)), (.ref b201), (.ref b201), (.ref b197), (.ref b197)])) _
            refine XS.aloadN X213.here hx rfl (hb hby d1_95) rfl rfl ?_
            show Steps p.tables e below (T213.setTop (mkF m 96 #[.val (.ref a1), .val (.int p1), .val (.int p2)] [(.ref a1), (.int (2 : Int32)), (.ref b201), (.ref b201), (.ref b197), (.ref b197)])) _
            refine XS.iloadN X213.here hx rfl (hb hby d1_96) rfl ?_
            show Steps p.tables e below (T213.setTop (mkF m 97 #[.val (.ref a1), .val (.int p1), .val (.int p2)] [(.int p1), (.ref a1), (.int (2 : Int32)), (.ref b201), (.ref b201), (.ref b197), (.ref b197)])) _
            refine XS.iconst X213.here hx rfl (hb hby d1_97) ?_
            show Steps p.tables e below (T213.setTop (mkF m 98 #[.val (.ref a1), .val (.int p1), .val (.int p2)] [(.int (2 : Int32)), (.int p1), (.ref a1), (.int (2 : Int32)), (.ref b201), (.ref b201), (.ref b197), (.ref b197)])) _
            refine XS.iadd X213.here hx rfl (hb hby d1_98) rfl ?_
            show Steps p.tables e below (T213.setTop (mkF m 99 #[.val (.ref a1), .val (.int p1), .val (.int p2)] [(.int (p1 + (2 : Int32))), (.ref a1), (.int (2 : Int32)), (.ref b201), (.ref b201), (.ref b197), (.ref b197)])) _
            refine X213.caload hx (j := (p1 + (2 : Int32))) (v := (.int (cs.getD (i + 2) 0))) (by rw [e213]; exact Ar218.1) (State.isArrayOf_alike hZ.alike Ar218.2.1) Ar218.2.2 hin218 hat218 (g := (mkF m 99 #[.val (.ref a1), .val (.int p1), .val (.int p2)] [(.int (p1 + (2 : Int32))), (.ref a1), (.int (2 : Int32)), (.ref b201), (.ref b201), (.ref b197), (.ref b197)])) rfl rfl (hb hby d1_99) _ ?_
            show Steps p.tables e below (T213.setTop (mkF m 100 #[.val (.ref a1), .val (.int p1), .val (.int p2)] [(.int (cs.getD (i + 2) 0)), (.int (2 : Int32)), (.ref b201), (.ref b201), (.ref b197), (.ref b197)])) _
            refine st219 _ ?_
            show Steps p.tables e below (T219.setTop (mkF m 101 #[.val (.ref a1), .val (.int p1), .val (.int p2)] [(.ref b201), (.ref b197), (.ref b197)])) _
            refine st228.trans ?_
            show Steps p.tables e below (T228.setTop (mkF m 104 #[.val (.ref a1), .val (.int p1), .val (.int p2)] [(.ref b197)])) _
            exact retR X228 hx hret0 rfl rfl rfl (hb hby d1_104) hr
          · show QP Z cs i j h0 n0 _ T228.heap _
            exact ⟨b197, rfl, N228, own_ext K230, by rw [hsl]; exact ⟨hp', Nat.le_of_ble_eq_true rfl, fe228, fc228, t228, kb228, fv228, fa228⟩⟩
        · skip
          have hj4 : j = 4 := by omega
          obtain ⟨T232, h232, X232, e232, E232, A232, D232, -, st232⟩ := newO X0 hx hZ hown (hw _ (List.mem_of_getElem? (i := 5) rfl)) (hw _ (List.mem_of_getElem? (i := 6) rfl)) (hw _ (List.mem_of_getElem? (i := 7) rfl)) e0 (g := (mkF m 105 #[.val (.ref a1), .val (.int p1), .val (.int p2)] [])) rfl (hb hby d1_105) (by decide) (by decide)
          obtain ⟨b232, g232⟩ : ∃ z, z = h0.size := ⟨_, rfl⟩
          rw [← g232] at A232 D232 st232
          have ge_b232 : n0 ≤ b232 := Nat.le_trans Z0 (Nat.le_of_eq g232.symm)
          have sz_b232 : h0.size ≤ b232 := Nat.le_trans (Keep.refl h0 []).1 (Nat.le_of_eq g232.symm)
          have Z233 : n0 ≤ h232.size := Nat.le_trans Z0 E232.1
          have K234 : Keep h0 h232 [] := (Keep.refl h0 []).ext E232
          have C235 := (C0.trans (CHr.ext E232 C0.1))
          obtain ⟨T236, h236, k236, X236, e236, E236, A236, st236⟩ := newP X232 hx hZ (hw _ (List.mem_of_getElem? (i := 0) rfl)) e232 (g := (mkF m 110 #[.val (.ref a1), .val (.int p1), .val (.int p2)] [(.int (4 : Int32)), (.ref b232), (.ref b232)])) rfl (hb hby d1_110) rfl (by decide) (cap := 4) (by decide) (by decide) (by decide) (by decide)
          obtain ⟨b236, g236⟩ : ∃ z, z = h232.size := ⟨_, rfl⟩
          rw [← g236] at A236 st236
          have ge_b236 : n0 ≤ b236 := Nat.le_trans Z233 (Nat.le_of_eq g236.symm)
          have sz_b236 : h0.size ≤ b236 := Nat.le_trans K234.1 (Nat.le_of_eq g236.symm)
          have Z237 : n0 ≤ h236.size := Nat.le_trans Z233 E236.1
          have K238 : Keep h0 h236 [] := K234.ext E236
          have C239 := (C235.trans (CHr.ext E236 C235.1))
          have V236 : Arv Z h236 b236 k236 .char (4 : Int32) [(.int (0 : Int32)), (.int (0 : Int32)), (.int (0 : Int32)), (.int (0 : Int32))] (.int (0 : Int32)) := (Arv.new A236 (by decide)).pad (pad_rep [] (.int (0 : Int32)) 4)
          have ex0 : p1 = Int32.ofNat (i + 0) := by rw [e1]; exact rfl
          have f240 := ((VA.ext E232).ext E236)
          obtain ⟨cl241, Ar241, -, S241, M241, Hs241, -⟩ := id f240
          have hin241 := inb_of S241 (j := p1) (by rw [ex0]; exact ⟨own_nn (by omega), (own_lt (b := 5) (by omega) (by omega)).mpr (by omega)⟩)
          have hat241 : cl241.slots[(p1).toNatClampNeg]? = some (.int (cs.getD (i + 0) 0)) := Has.at Hs241 hin241 (by rw [ex0, own_clamp (by omega)]; exact own_at cs (i + 0))
          obtain ⟨cl242, Ar242, q242, S242, M242, Hs242, G242⟩ := id V236
          obtain ⟨T242, h242, X242, e242, W242, st242⟩ := stC X236 hx hZ e236 Ar242 (j := (0 : Int32)) (inb_of S242 ⟨(by decide), (by decide)⟩) (g := (mkF m 117 #[.val (.ref a1), .val (.int p1), .val (.int p2)] [(.int (cs.getD (i + 0) 0)), (.int (0 : Int32)), (.ref b236), (.ref b236), (.ref b232), (.ref b232)])) rfl rfl (hb hby d1_117)
          have Z243 : n0 ≤ h242.size := Nat.le_trans Z237 (Keep.of_wr W242).1
          have K244 : Keep h0 h242 [] := K238.wr W242 (Or.inr sz_b236)
          have N242 := Fr.snoc X242 N0 ge_b236
          have C245 := (C239.trans (CHr.wr W242 (Safe.ext E236 C235.1 (Safe.new (Nat.le_of_eq g236.symm))) C239.1))
          have V242 : Arv Z h242 b236 k236 .char (4 : Int32) [(.int (nar .char (cs.getD (i + 0) 0))), (.int (0 : Int32)), (.int (0 : Int32)), (.int (0 : Int32))] (.int (0 : Int32)) := Arv.set Ar242 q242 S242 M242 Hs242 G242 (fits_nar_char _) W242 0 rfl (Nat.le_of_ble_eq_true rfl)
          have ex1 : (p1 + (1 : Int32)) = Int32.ofNat (i + 1) := by rw [e1]; exact own_addN (b := 1) (by omega)
          have f246 := (f240.other W242 (Nat.ne_of_lt (Nat.lt_of_lt_of_le (VA.ext E232).lt (Nat.le_of_eq g236.symm))))
          obtain ⟨cl247, Ar247, -, S247, M247, Hs247, -⟩ := id f246
          have hin247 := inb_of S247 (j := (p1 + (1 : Int32))) (by rw [ex1]; exact ⟨own_nn (by omega), (own_lt (b := 5) (by omega) (by omega)).mpr (by omega)⟩)
          have hat247 : cl247.slots[((p1 + (1 : Int32))).toNatClampNeg]? = some (.int (cs.getD (i + 1) 0)) := Has.at Hs247 hin247 (by rw [ex1, own_clamp (by omega)]; exact own_at cs (i + 1))
          obtain ⟨cl248, Ar248, q248, S248, M248, Hs248, G248⟩ := id V242
          obtain ⟨T248, h248, X248, e248, W248, st248⟩ := stC X242 hx hZ e242 Ar248 (j := (1 : Int32)) (inb_of S248 ⟨(by decide), (by decide)⟩) (g := (mkF m 125 #[.val (.ref a1), .val (.int p1), .val (.int p2)] [(.int (cs.getD (i + 1) 0)), (.int (1 : Int32)), (.ref b236), (.ref b236), (.ref b232), (.ref b232)])) rfl rfl (hb hby d1_125)
          have Z249 : n0 ≤ h248.size := Nat.le_trans Z243 (Keep.of_wr W248).1
          have K250 : Keep h0 h248 [] := K244.wr W248 (Or.inr sz_b236)
          have N248 := Fr.snoc X248 N242 ge_b236
          have C251 := (C245.trans (CHr.wr W248 (Safe.wr W242 (Safe.ext E236 C235.1 (Safe.new (Nat.le_of_eq g236.symm))) C239.1 (Safe.ext E236 C235.1 (Safe.new (Nat.le_of_eq g236.symm)))) C245.1))
          have V248 : Arv Z h248 b236 k236 .char (4 : Int32) [(.int (nar .char (cs.getD (i + 0) 0))), (.int (nar .char (cs.getD (i + 1) 0))), (.int (0 : Int32)), (.int (0 : Int32))] (.int (0 : Int32)) := Arv.set Ar248 q248 S248 M248 Hs248 G248 (fits_nar_char _) W248 1 rfl (Nat.le_of_ble_eq_true rfl)
          have ex2 : (p1 + (2 : Int32)) = Int32.ofNat (i + 2) := by rw [e1]; exact own_addN (b := 2) (by omega)
          have f252 := (f246.other W248 (Nat.ne_of_lt (Nat.lt_of_lt_of_le (VA.ext E232).lt (Nat.le_of_eq g236.symm))))
          obtain ⟨cl253, Ar253, -, S253, M253, Hs253, -⟩ := id f252
          have hin253 := inb_of S253 (j := (p1 + (2 : Int32))) (by rw [ex2]; exact ⟨own_nn (by omega), (own_lt (b := 5) (by omega) (by omega)).mpr (by omega)⟩)
          have hat253 : cl253.slots[((p1 + (2 : Int32))).toNatClampNeg]? = some (.int (cs.getD (i + 2) 0)) := Has.at Hs253 hin253 (by rw [ex2, own_clamp (by omega)]; exact own_at cs (i + 2))
          obtain ⟨cl254, Ar254, q254, S254, M254, Hs254, G254⟩ := id V248
          obtain ⟨T254, h254, X254, e254, W254, st254⟩ := stC X248 hx hZ e248 Ar254 (j := (2 : Int32)) (inb_of S254 ⟨(by decide), (by decide)⟩) (g := (mkF m 133 #[.val (.ref a1), .val (.int p1), .val (.int p2)] [(.int (cs.getD (i + 2) 0)), (.int (2 : Int32)), (.ref b236), (.ref b236), (.ref b232), (.ref b232)])) rfl rfl (hb hby d1_133)
          have Z255 : n0 ≤ h254.size := Nat.le_trans Z249 (Keep.of_wr W254).1
          have K256 : Keep h0 h254 [] := K250.wr W254 (Or.inr sz_b236)
          have N254 := Fr.snoc X254 N248 ge_b236
          have C257 := (C251.trans (CHr.wr W254 (Safe.wr W248 (Safe.wr W242 (Safe.ext E236 C235.1 (Safe.new (Nat.le_of_eq g236.symm))) C239.1 (Safe.ext E236 C235.1 (Safe.new (Nat.le_of_eq g236.symm)))) C245.1 (Safe.wr W242 (Safe.ext E236 C235.1 (Safe.new (Nat.le_of_eq g236.symm))) C239.1 (Safe.ext E236 C235.1 (Safe.new (Nat.le_of_eq g236.symm))))) C251.1))
          have V254 : Arv Z h254 b236 k236 .char (4 : Int32) [(.int (nar .char (cs.getD (i + 0) 0))), (.int (nar .char (cs.getD (i + 1) 0))), (.int (nar .char (cs.getD (i + 2) 0))), (.int (0 : Int32))] (.int (0 : Int32)) := Arv.set Ar254 q254 S254 M254 Hs254 G254 (fits_nar_char _) W254 2 rfl (Nat.le_of_ble_eq_true rfl)
          have ex3 : (p1 + (3 : Int32)) = Int32.ofNat (i + 3) := by rw [e1]; exact own_addN (b := 3) (by omega)
          have f258 := (f252.other W254 (Nat.ne_of_lt (Nat.lt_of_lt_of_le (VA.ext E232).lt (Nat.le_of_eq g236.symm))))
          obtain ⟨cl259, Ar259, -, S259, M259, Hs259, -⟩ := id f258
          have hin259 := inb_of S259 (j := (p1 + (3 : Int32))) (by rw [ex3]; exact ⟨own_nn (by omega), (own_lt (b := 5) (by omega) (by omega)).mpr (by omega)⟩)
          have hat259 : cl259.slots[((p1 + (3 : Int32))).toNatClampNeg]? = some (.int (cs.getD (i + 3) 0)) := Has.at Hs259 hin259 (by rw [ex3, own_clamp (by omega)]; exact own_at cs (i + 3))
          obtain ⟨cl260, Ar260, q260, S260, M260, Hs260, G260⟩ := id V254
          obtain ⟨T260, h260, X260, e260, W260, st260⟩ := stC X254 hx hZ e254 Ar260 (j := (3 : Int32)) (inb_of S260 ⟨(by decide), (by decide)⟩) (g := (mkF m 141 #[.val (.ref a1), .val (.int p1), .val (.int p2)] [(.int (cs.getD (i + 3) 0)), (.int (3 : Int32)), (.ref b236), (.ref b236), (.ref b232), (.ref b232)])) rfl rfl (hb hby d1_141)
          have Z261 : n0 ≤ h260.size := Nat.le_trans Z255 (Keep.of_wr W260).1
          have K262 : Keep h0 h260 [] := K256.wr W260 (Or.inr sz_b236)
          have N260 := Fr.snoc X260 N254 ge_b236
          have C263 := (C257.trans (CHr.wr W260 (Safe.wr W254 (Safe.wr W248 (Safe.wr W242 (Safe.ext E236 C235.1 (Safe.new (Nat.le_of_eq g236.symm))) C239.1 (Safe.ext E236 C235.1 (Safe.new (Nat.le_of_eq g236.symm)))) C245.1 (Safe.wr W242 (Safe.ext E236 C235.1 (Safe.new (Nat.le_of_eq g236.symm))) C239.1 (Safe.ext E236 C235.1 (Safe.new (Nat.le_of_eq g236.symm))))) C251.1 (Safe.wr W248 (Safe.wr W242 (Safe.ext E236 C235.1 (Safe.new (Nat.le_of_eq g236.symm))) C239.1 (Safe.ext E236 C235.1 (Safe.new (Nat.le_of_eq g236.symm)))) C245.1 (Safe.wr W242 (Safe.ext E236 C235.1 (Safe.new (Nat.le_of_eq g236.symm))) C239.1 (Safe.ext E236 C235.1 (Safe.new (Nat.le_of_eq g236.symm)))))) C257.1))
          have V260 : Arv Z h260 b236 k236 .char (4 : Int32) [(.int (nar .char (cs.getD (i + 0) 0))), (.int (nar .char (cs.getD (i + 1) 0))), (.int (nar .char (cs.getD (i + 2) 0))), (.int (nar .char (cs.getD (i + 3) 0)))] (.int (0 : Int32)) := Arv.set Ar260 q260 S260 M260 Hs260 G260 (fits_nar_char _) W260 3 rfl (Nat.le_of_ble_eq_true rfl)
          have hp' : ∀ c ∈ ([(cs.getD (i + 0) 0), (cs.getD (i + 1) 0), (cs.getD (i + 2) 0), (cs.getD (i + 3) 0)] : List Int32), ¬ c < 0 ∧ ¬ (255 : Int32) < c := by
            intro c hc
            simp only [List.mem_cons, List.not_mem_nil, or_false] at hc
            rcases hc with rfl | rfl | rfl | rfl <;> exact own_getB hp _
          have V264 : Arv Z h260 b236 k236 .char (4 : Int32) (([(cs.getD (i + 0) 0), (cs.getD (i + 1) 0), (cs.getD (i + 2) 0), (cs.getD (i + 3) 0)] : List Int32).map Value.int) (.int (0 : Int32)) := by
            have q := V260
            rw [own_narc (own_getB hp (i + 0)), own_narc (own_getB hp (i + 1)), own_narc (own_getB hp (i + 2)), own_narc (own_getB hp (i + 3))] at q
            exact q
          have f265 := (((((A232.ext E236).wr W242).wr W248).wr W254).wr W260)
          have f266 := ((((((D232 (Or.inr (hw _ (List.mem_of_getElem? (i := 20) rfl))) (ty := (.array .byte)) (by decide)).ext E236).other W242 (Or.inl (Nat.ne_of_lt (Nat.lt_of_lt_of_le A232.lt (Nat.le_of_eq g236.symm))))).other W248 (Or.inl (Nat.ne_of_lt (Nat.lt_of_lt_of_le A232.lt (Nat.le_of_eq g236.symm))))).other W254 (Or.inl (Nat.ne_of_lt (Nat.lt_of_lt_of_le A232.lt (Nat.le_of_eq g236.symm))))).other W260 (Or.inl (Nat.ne_of_lt (Nat.lt_of_lt_of_le A232.lt (Nat.le_of_eq g236.symm)))))
          have f267 := ((((((D232 (Or.inr (hw _ (List.mem_of_getElem? (i := 21) rfl))) (ty := .byte) (by decide)).ext E236).other W242 (Or.inl (Nat.ne_of_lt (Nat.lt_of_lt_of_le A232.lt (Nat.le_of_eq g236.symm))))).other W248 (Or.inl (Nat.ne_of_lt (Nat.lt_of_lt_of_le A232.lt (Nat.le_of_eq g236.symm))))).other W254 (Or.inl (Nat.ne_of_lt (Nat.lt_of_lt_of_le A232.lt (Nat.le_of_eq g236.symm))))).other W260 (Or.inl (Nat.ne_of_lt (Nat.lt_of_lt_of_le A232.lt (Nat.le_of_eq g236.symm)))))
          have f268 := ((((((X00.ext E232).ext E236).wr W242 ge_b236).wr W248 ge_b236).wr W254 ge_b236).wr W260 ge_b236)
          obtain ⟨v269, vmx269, ⟨T269, L269, k269, n269⟩, -, X269, ⟨Lc269, hQ269, l269, y269, z269⟩, st269⟩ := X260.specialBack hx (y := (⟨"java/lang/String", "<init>", "([C)V"⟩ : MethodName)) rfl hown (mvT hZ (hw _ (List.mem_of_getElem? (i := 8) rfl))) (mvT hZ (hw _ (List.mem_of_getElem? (i := 9) rfl))) (mvT hZ (hw _ (List.mem_of_getElem? (i := 10) rfl))) (by decide) (StrChars.Road.backV (W := 1) hZ hws (kI := 4) (hw _ (List.mem_of_getElem? (i := 6) rfl)) (cs := ([(cs.getD (i + 0) 0), (cs.getD (i + 1) 0), (cs.getD (i + 2) 0), (cs.getD (i + 3) 0)] : List Int32)) (bs := (([(cs.getD (i + 0) 0), (cs.getD (i + 1) 0), (cs.getD (i + 2) 0), (cs.getD (i + 3) 0)] : List Int32)).map (fun c => c.toInt8.toInt32)) (n := 4) ge_b232 Z261 f265 f266 f267 V264 (O2.ext f268.2) P5 rfl rfl (by decide) (by decide) hp' rfl (by decide) (by decide)) (g := (mkF m 142 #[.val (.ref a1), .val (.int p1), .val (.int p2)] [(.ref b236), (.ref b232), (.ref b232)])) rfl (by rw [hml]; rfl) (Steps.refl _) (a := b232) (argsL := [(.ref b236)]) (rest := [(.ref b232)]) (lenOf own_pd12 rfl) rfl (by show 2 * 0 + _ ≤ _; exact Nat.le_of_eq rfl) (hb hby d1_142) (fun _ _ => ⟨rfl, e260, (by decide : 2 + 1 ≤ _), (by decide : 8 + 4 ≤ _)⟩)
          dsimp only [Pt.U, Pt.locs, Pt.cells, Pt.slots] at X269 l269 y269 z269 st269 hQ269
          subst l269 y269 z269
          obtain ⟨rfl, Nq269, K269, fe269, fc269, t269, kb269, u1269, u2269, u3269, fv269, fa269⟩ := hQ269
          have N269 := Fr.app N260 Nq269
          have Z270 : n0 ≤ T269.heap.size := Nat.le_trans Z261 K269.1
          have K271 : Keep h0 T269.heap [] := K262.trans K269 (allS (Or.inr sz_b232) all0)
          have C272 := (C263.trans (CHr.keep K269 (allS (Safe.wr W260 (Safe.wr W254 (Safe.wr W248 (Safe.wr W242 (Safe.ext E236 C235.1 (Safe.new (Nat.le_of_eq g236.symm))) C239.1 (Safe.ext E236 C235.1 (Safe.new (Nat.le_of_eq g236.symm)))) C245.1 (Safe.wr W242 (Safe.ext E236 C235.1 (Safe.new (Nat.le_of_eq g236.symm))) C239.1 (Safe.ext E236 C235.1 (Safe.new (Nat.le_of_eq g236.symm))))) C251.1 (Safe.wr W248 (Safe.wr W242 (Safe.ext E236 C235.1 (Safe.new (Nat.le_of_eq g236.symm))) C239.1 (Safe.ext E236 C235.1 (Safe.new (Nat.le_of_eq g236.symm)))) C245.1 (Safe.wr W242 (Safe.ext E236 C235.1 (Safe.new (Nat.le_of_eq g236.symm))) C239.1 (Safe.ext E236 C235.1 (Safe.new (Nat.le_of_eq g236.symm)))))) C257.1 (Safe.wr W254 (Safe.wr W248 (Safe.wr W242 (Safe.ext E236 C235.1 (Safe.new (Nat.le_of_eq g236.symm))) C239.1 (Safe.ext E236 C235.1 (Safe.new (Nat.le_of_eq g236.symm)))) C245.1 (Safe.wr W242 (Safe.ext E236 C235.1 (Safe.new (Nat.le_of_eq g236.symm))) C239.1 (Safe.ext E236 C235.1 (Safe.new (Nat.le_of_eq g236.symm))))) C251.1 (Safe.wr W248 (Safe.wr W242 (Safe.ext E236 C235.1 (Safe.new (Nat.le_of_eq g236.symm))) C239.1 (Safe.ext E236 C235.1 (Safe.new (Nat.le_of_eq g236.symm)))) C245.1 (Safe.wr W242 (Safe.ext E236 C235.1 (Safe.new (Nat.le_of_eq g236.symm))) C239.1 (Safe.ext E236 C235.1 (Safe.ext E232 C0.1 (Safe.new (Nat.le_of_eq g232.symm)))))))) all0) C263.1))
          have hsl : (cs.drop i).take j = ([(cs.getD (i + 0) 0), (cs.getD (i + 1) 0), (cs.getD (i + 2) 0), (cs.getD (i + 3) 0)] : List Int32) := by rw [hj4, ← own_slice cs i 4 (by omega)]; rfl
          obtain ⟨fs, hr, hrun, hended, hW⟩ := Stand.leaveW (s := s) (vm₁ := s.vm) X269 hS0 (by rw [show T269.heap = _ from rfl]; exact (Nat.zero_le _)) (v := some (.ref b232)) (fun h => by rw [hret0] at h; cases h)
          refine ⟨_, _, pre0 _ ?_, hrun, hended, _, _, rfl, ?_, own_chr (T := T269) hh rfl (C272.trans (CHv.at (s := s) (vm0 := s.vm) X269 hZ hEL C272.1)), own_wmono hW (by decide) (by decide)⟩
          · show Steps p.tables e below (s₁.setTop (mkF m 0 #[.val (.ref a1), .val (.int p1), .val (.int p2)] [])) _
            refine XS.iloadN X0.here hx rfl (hb hby d1_0) rfl ?_
            show Steps p.tables e below (s₁.setTop (mkF m 1 #[.val (.ref a1), .val (.int p1), .val (.int p2)] [(.int p2)])) _
            refine XS.ifYes X0.here hx rfl (pc0 := 1) (pc' := 15) rfl (hb hby d1_1) rfl ((if0 _ _).trans (feq (by rw [e2]; intro q; exact hj0 ((own_eq (b := 0) (by omega) (by omega)).mp q))).2) (by decide) (by decide) ?_
            show Steps p.tables e below (s₁.setTop (mkF m 15 #[.val (.ref a1), .val (.int p1), .val (.int p2)] [])) _
            refine XS.iloadN X0.here hx rfl (hb hby d1_15) rfl ?_
            show Steps p.tables e below (s₁.setTop (mkF m 16 #[.val (.ref a1), .val (.int p1), .val (.int p2)] [(.int p2)])) _
            refine XS.iconst X0.here hx rfl (hb hby d1_16) ?_
            show Steps p.tables e below (s₁.setTop (mkF m 17 #[.val (.ref a1), .val (.int p1), .val (.int p2)] [(.int (1 : Int32)), (.int p2)])) _
            refine XS.icmpYes X0.here hx rfl (pc0 := 17) (pc' := 37) rfl (hb hby d1_17) rfl (feq (by rw [e2]; intro q; exact hj1 ((own_eq (b := 1) (by omega) (by omega)).mp q))).2 (by decide) (by decide) ?_
            show Steps p.tables e below (s₁.setTop (mkF m 37 #[.val (.ref a1), .val (.int p1), .val (.int p2)] [])) _
            refine XS.iloadN X0.here hx rfl (hb hby d1_37) rfl ?_
            show Steps p.tables e below (s₁.setTop (mkF m 38 #[.val (.ref a1), .val (.int p1), .val (.int p2)] [(.int p2)])) _
            refine XS.iconst X0.here hx rfl (hb hby d1_38) ?_
            show Steps p.tables e below (s₁.setTop (mkF m 39 #[.val (.ref a1), .val (.int p1), .val (.int p2)] [(.int (2 : Int32)), (.int p2)])) _
            refine XS.icmpYes X0.here hx rfl (pc0 := 39) (pc' := 67) rfl (hb hby d1_39) rfl (feq (by rw [e2]; intro q; exact hj2 ((own_eq (b := 2) (by omega) (by omega)).mp q))).2 (by decide) (by decide) ?_
            show Steps p.tables e below (s₁.setTop (mkF m 67 #[.val (.ref a1), .val (.int p1), .val (.int p2)] [])) _
            refine XS.iloadN X0.here hx rfl (hb hby d1_67) rfl ?_
            show Steps p.tables e below (s₁.setTop (mkF m 68 #[.val (.ref a1), .val (.int p1), .val (.int p2)] [(.int p2)])) _
            refine XS.iconst X0.here hx rfl (hb hby d1_68) ?_
            show Steps p.tables e below (s₁.setTop (mkF m 69 #[.val (.ref a1), .val (.int p1), .val (.int p2)] [(.int (3 : Int32)), (.int p2)])) _
            refine XS.icmpYes X0.here hx rfl (pc0 := 69) (pc' := 105) rfl (hb hby d1_69) rfl (feq (by rw [e2]; intro q; exact hj3 ((own_eq (b := 3) (by omega) (by omega)).mp q))).2 (by decide) (by decide) ?_
            show Steps p.tables e below (s₁.setTop (mkF m 105 #[.val (.ref a1), .val (.int p1), .val (.int p2)] [])) _
            refine st232 _ ?_
            show Steps p.tables e below (T232.setTop (mkF m 108 #[.val (.ref a1), .val (.int p1), .val (.int p2)] [(.ref b232)])) _
            refine XS.dup X232.here hx rfl (hb hby d1_108) rfl rfl ?_
            show Steps p.tables e below (T232.setTop (mkF m 109 #[.val (.ref a1), .val (.int p1), .val (.int p2)] [(.ref b232), (.ref b232)])) _
            refine XS.iconst X232.here hx rfl (hb hby d1_109) ?_
            show Steps p.tables e below (T232.setTop (mkF m 110 #[.val (.ref a1), .val (.int p1), .val (.int p2)] [(.int (4 : Int32)), (.ref b232), (.ref b232)])) _
            refine st236 _ ?_
            show Steps p.tables e below (T236.setTop (mkF m 112 #[.val (.ref a1), .val (.int p1), .val (.int p2)] [(.ref b236), (.ref b232), (.ref b232)])) _
            refine XS.dup X236.here hx rfl (hb hby d1_112) rfl rfl ?_
            show Steps p.tables e below (T236.setTop (mkF m 113 #[.val (.ref a1), .val (.int p1), .val (.int p2)] [(.ref b236), (.ref b236), (.ref b232), (.ref b232)])) _
            refine XS.iconst X236.here hx rfl (hb hby d1_113) ?_
            show Steps p.tables e below (T236.setTop (mkF m 114 #[.val (.ref a1), .val (.int p1), .val (.int p2)] [(.int (0 : Int32)), (.ref b236), (.ref b236), (.ref b232), (.ref b232)])) _
            refine XS.aloadN X236.here hx rfl (hb hby d1_114) rfl rfl ?_
            show Steps p.tables e below (T236.setTop (mkF m 115 #[.val (.ref a1), .val (.int p1), .val (.int p2)] [(.ref a1), (.int (0 : Int32)), (.ref b236), (.ref b236), (.ref b232), (.ref b232)])) _
            refine XS.iloadN X236.here hx rfl (hb hby d1_115) rfl ?_
            show Steps p.tables e below (T236.setTop (mkF m 116 #[.val (.ref a1), .val (.int p1), .val (.int p2)] [(.int p1), (.ref a1), (.int (0 : Int32)), (.ref b236), (.ref b236), (.ref b232), (.ref b232)])) _
            refine X236.caload hx (j := p1) (v := (.int (cs.getD (i + 0) 0))) (by rw [e236]; exact Ar241.1) (State.isArrayOf_alike hZ.alike Ar241.2.1) Ar241.2.2 hin241 hat241 (g := (mkF m 116 #[.val (.ref a1), .val (.int p1), .val (.int p2)] [(.int p1), (.ref a1), (.int (0 : Int32)), (.ref b236), (.ref b236), (.ref b232), (.ref b232)])) rfl rfl (hb hby d1_116) _ ?_
            show Steps p.tables e below (T236.setTop (mkF m 117 #[.val (.ref a1), .val (.int p1), .val (.int p2)] [(.int (cs.getD (i + 0) 0)), (.int (0 : Int32)), (.ref b236), (.ref b236), (.ref b232), (.ref b232)])) _
            refine st242 _ ?_
            show Steps p.tables e below (T242.setTop (mkF m 118 #[.val (.ref a1), .val (.int p1), .val (.int p2)] [(.ref b236), (.ref b232), (.ref b232)])) _
            refine XS.dup X242.here hx rfl (hb hby d1_118) rfl rfl ?_
            show Steps p.tables e below (T242.setTop (mkF m 119 #[.val (.ref a1), .val (.int p1), .val (.int p2)] [(.ref b236), (.ref b236), (.ref b232), (.ref b232)])) _
            refine XS.iconst X242.here hx rfl (hb hby d1_119) ?_
            show Steps p.tables e below (T242.setTop (mkF m 120 #[.val (.ref a1), .val (.int p1), .val (.int p2)] [(.int (1 : Int32)), (.ref b236), (.ref b236), (.ref b232), (.ref b232)])) _
            refine XS.aloadN X242.here hx rfl (hb hby d1_120) rfl rfl ?_
            show Steps p.tables e below (T242.setTop (mkF m 121 #[.val (.ref a1), .val (.int p1), .val (.int p2)] [(.ref a1), (.int (1 : Int32)), (.ref b236), (.ref b236), (.ref b232), (.ref b232)])) _
            refine XS.iloadN X242.here hx rfl (hb hby d1_121) rfl ?_
            show Steps p.tables e below (T242.setTop (mkF m 122 #[.val (.ref a1), .val (.int p1), .val (.int p2)] [(.int p1), (.ref a1), (.int (1 : Int32)), (.ref b236), (.ref b236), (.ref b232), (.ref b232)])) _
            refine XS.iconst X242.here hx rfl (hb hby d1_122) ?_
            show Steps p.tables e below (T242.setTop (mkF m 123 #[.val (.ref a1), .val (.int p1), .val (.int p2)] [(.int (1 : Int32)), (.int p1), (.ref a1), (.int (1 : Int32)), (.ref b236), (.ref b236), (.ref b232), (.ref b232)])) _
            refine XS.iadd X242.here hx rfl (hb hby d1_123) rfl ?_
            show Steps p.tables e below (T242.setTop (mkF m 124 #[.val (.ref a1), .val (.int p1), .val (.int p2)] [(.int (p1 + (1 : Int32))), (.ref a1), (.int (1 : Int32)), (.ref b236), (.ref b236), (.ref b232), (.ref b232)])) _
            refine X242.caload hx (j := (p1 + (1 : Int32))) (v := (.int (cs.getD (i + 1) 0))) (by rw [e242]; exact Ar247.1) (State.isArrayOf_alike hZ.alike Ar247.2.1) Ar247.2.2 hin247 hat247 (g := (mkF m 124 #[.val (.ref a1), .val (.int p1), .val (.int p2)] [(.int (p1 + (1 : Int32))), (.ref a1), (.int (1 : Int32)), (.ref b236), (.ref b236), (.ref b232), (.ref b232)])) rfl rfl (hb hby d1_124) _ ?_
            show Steps p.tables e below (T242.setTop (mkF m 125 #[.val (.ref a1), .val (.int p1), .val (.int p2)] [(.int (cs.getD (i + 1) 0)), (.int (1 : Int32)), (.ref b236), (.ref b236), (.ref b232), (.ref b232)])) _
            refine st248 _ ?_
            show Steps p.tables e below (T248.setTop (mkF m 126 #[.val (.ref a1), .val (.int p1), .val (.int p2)] [(.ref b236), (.ref b232), (.ref b232)])) _
            refine XS.dup X248.here hx rfl (hb hby d1_126) rfl rfl ?_
            show Steps p.tables e below (T248.setTop (mkF m 127 #[.val (.ref a1), .val (.int p1), .val (.int p2)] [(.ref b236), (.ref b236), (.ref b232), (.ref b232)])) _
            refine XS.iconst X248.here hx rfl (hb hby d1_127) ?_
            show Steps p.tables e below (T248.setTop (mkF m 128 #[.val (.ref a1), .val (.int p1), .val (.int p2)] [(.int (2 : Int32)), (.ref b236), (.ref b236), (.ref b232), (.ref b232)])) _
            refine XS.aloadN X248.here hx rfl (hb hby d1_128) rfl rfl ?_
            show Steps p.tables e below (T248.setTop (mkF m 129 #[.val (.ref a1), .val (.int p1), .val (.int p2)] [(.ref a1), (.int (2 : Int32)), (.ref b236), (.ref b236), (.ref b232), (.ref b232)])) _
            refine XS.iloadN X248.here hx rfl (hb hby d1_129) rfl ?_
            show Steps p.tables e below (T248.setTop (mkF m 130 #[.val (.ref a1), .val (.int p1), .val (.int p2)] [(.int p1), (.ref a1), (.int (2 : Int32)), (.ref b236), (.ref b236), (.ref b232), (.ref b232)])) _
            refine XS.iconst X248.here hx rfl (hb hby d1_130) ?_
            show Steps p.tables e below (T248.setTop (mkF m 131 #[.val (.ref a1), .val (.int p1), .val (.int p2)] [(.int (2 : Int32)), (.int p1), (.ref a1), (.int (2 : Int32)), (.ref b236), (.ref b236), (.ref b232), (.ref b232)])) _
            refine XS.iadd X248.here hx rfl (hb hby d1_131) rfl ?_
            show Steps p.tables e below (T248.setTop (mkF m 132 #[.val (.ref a1), .val (.int p1), .val (.int p2)] [(.int (p1 + (2 : Int32))), (.ref a1), (.int (2 : Int32)), (.ref b236), (.ref b236), (.ref b232), (.ref b232)])) _
            refine X248.caload hx (j := (p1 + (2 : Int32))) (v := (.int (cs.getD (i + 2) 0))) (by rw [e248]; exact Ar253.1) (State.isArrayOf_alike hZ.alike Ar253.2.1) Ar253.2.2 hin253 hat253 (g := (mkF m 132 #[.val (.ref a1), .val (.int p1), .val (.int p2)] [(.int (p1 + (2 : Int32))), (.ref a1), (.int (2 : Int32)), (.ref b236), (.ref b236), (.ref b232), (.ref b232)])) rfl rfl (hb hby d1_132) _ ?_
            show Steps p.tables e below (T248.setTop (mkF m 133 #[.val (.ref a1), .val (.int p1), .val (.int p2)] [(.int (cs.getD (i + 2) 0)), (.int (2 : Int32)), (.ref b236), (.ref b236), (.ref b232), (.ref b232)])) _
            refine st254 _ ?_
            show Steps p.tables e below (T254.setTop (mkF m 134 #[.val (.ref a1), .val (.int p1), .val (.int p2)] [(.ref b236), (.ref b232), (.ref b232)])) _
            refine XS.dup X254.here hx rfl (hb hby d1_134) rfl rfl ?_
            show Steps p.tables e below (T254.setTop (mkF m 135 #[.val (.ref a1), .val (.int p1), .val (.int p2)] [(.ref b236), (.ref b236), (.ref b232), (.ref b232)])) _
            refine XS.iconst X254.here hx rfl (hb hby d1_135) ?_
            show Steps p.tables e below (T254.setTop (mkF m 136 #[.val (.ref a1), .val (.int p1), .val (.int p2)] [(.int (3 : Int32)), (.ref b236), (.ref b236), (.ref b232), (.ref b232)])) _
            refine XS.aloadN X254.here hx rfl (hb hby d1_136) rfl rfl ?_
            show Steps p.tables e below (T254.setTop (mkF m 137 #[.val (.ref a1), .val (.int p1), .val (.int p2)] [(.ref a1), (.int (3 : Int32)), (.ref b236), (.ref b236), (.ref b232), (.ref b232)])) _
            refine XS.iloadN X254.here hx rfl (hb hby d1_137) rfl ?_
            show Steps p.tables e below (T254.setTop (mkF m 138 #[.val (.ref a1), .val (.int p1), .val (.int p2)] [(.int p1), (.ref a1), (.int (3 : Int32)), (.ref b236), (.ref b236), (.ref b232), (.ref b232)])) _
            refine XS.iconst X254.here hx rfl (hb hby d1_138) ?_
            show Steps p.tables e below (T254.setTop (mkF m 139 #[.val (.ref a1), .val (.int p1), .val (.int p2)] [(.int (3 : Int32)), (.int p1), (.ref a1), (.int (3 : Int32)), (.ref b236), (.ref b236), (.ref b232), (.ref b232)])) _
            refine XS.iadd X254.here hx rfl (hb hby d1_139) rfl ?_
            show Steps p.tables e below (T254.setTop (mkF m 140 #[.val (.ref a1), .val (.int p1), .val (.int p2)] [(.int (p1 + (3 : Int32))), (.ref a1), (.int (3 : Int32)), (.ref b236), (.ref b236), (.ref b232), (.ref b232)])) _
            refine X254.caload hx (j := (p1 + (3 : Int32))) (v := (.int (cs.getD (i + 3) 0))) (by rw [e254]; exact Ar259.1) (State.isArrayOf_alike hZ.alike Ar259.2.1) Ar259.2.2 hin259 hat259 (g := (mkF m 140 #[.val (.ref a1), .val (.int p1), .val (.int p2)] [(.int (p1 + (3 : Int32))), (.ref a1), (.int (3 : Int32)), (.ref b236), (.ref b236), (.ref b232), (.ref b232)])) rfl rfl (hb hby d1_140) _ ?_
            show Steps p.tables e below (T254.setTop (mkF m 141 #[.val (.ref a1), .val (.int p1), .val (.int p2)] [(.int (cs.getD (i + 3) 0)), (.int (3 : Int32)), (.ref b236), (.ref b236), (.ref b232), (.ref b232)])) _
            refine st260 _ ?_
            show Steps p.tables e below (T260.setTop (mkF m 142 #[.val (.ref a1), .val (.int p1), .val (.int p2)] [(.ref b236), (.ref b232), (.ref b232)])) _
            refine st269.trans ?_
            show Steps p.tables e below (T269.setTop (mkF m 145 #[.val (.ref a1), .val (.int p1), .val (.int p2)] [(.ref b232)])) _
            exact retR X269 hx hret0 rfl rfl rfl (hb hby d1_145) hr
          · show QP Z cs i j h0 n0 _ T269.heap _
            exact ⟨b232, rfl, N269, own_ext K271, by rw [hsl]; exact ⟨hp', Nat.le_of_ble_eq_true rfl, fe269, fc269, t269, kb269, fv269, fa269⟩⟩
theorem d10_0 : decode prog_10_method_6_code 0 = .ok (.aload_n 0, 1) := by decide +kernel
theorem d10_1 : decode prog_10_method_6_code 1 = .ok (.getfield 13, 3) := by decide +kernel
theorem d10_4 : decode prog_10_method_6_code 4 = .ok (.aload_n 0, 1) := by decide +kernel
theorem d10_5 : decode prog_10_method_6_code 5 = .ok (.getfield 7, 3) := by decide +kernel
theorem d10_8 : decode prog_10_method_6_code 8 = .ok (.invokevirtual 36, 3) := by decide +kernel
theorem d10_11 : decode prog_10_method_6_code 11 = .ok (.iconst 1, 1) := by decide +kernel
theorem d10_12 : decode prog_10_method_6_code 12 = .ok (.iadd, 1) := by decide +kernel
theorem d10_13 : decode prog_10_method_6_code 13 = .ok (.invokevirtual 42, 3) := by decide +kernel
theorem d10_16 : decode prog_10_method_6_code 16 = .ok (.areturn, 1) := by decide +kernel
theorem own_pn_rmCol : plainName "com/example/test_rollback/testrollback/Dialect$Counter" = true := by first | (simp [plainName, overriddenIn]; done) | decide +kernel
theorem own_ef_rmCol (m : MethodId) (a1 : Addr) : entryFrame m #[(.ref a1)] 1 = (mkF m 0 #[.val (.ref a1)] []) := by first | (simp [entryFrame, mkF, argsToLocals, Value.category]; done) | rfl
set_option maxRecDepth 65536 in
set_option maxHeartbeats 40000000 in
theorem rmCol (l : Launch) (Z : State) (a0 : Array Value) (hw : ∀ d ∈ tables_1, d.before a0 Z = true) (ws : List Jvm.Cond) (a1 : Addr) (s1 : Addr) (s2 : Addr) (u1 : Value) (u2 : Value) (cs : List Int32) (ts : List Int32) (G1 : Int32) (G3 : Value) (h0 : Heap) (n0 : Nat) (Z0 : n0 ≤ h0.size) (O2 : Sta Z Z.heap "java/lang/String" "COMPACT_STRINGS" "Z" (.int G1)) (P5 : ¬ (G1 = (0 : Int32))) (X00 : Old Z n0 h0) (O4 : Sta Z Z.heap "jdk/internal/util/Preconditions" "SIOOBE_FORMATTER" "Ljava/util/function/BiFunction;" G3) (rG3 : G3.isRef = true) (F : Fs Z h0 a1 (.ref s1) (.ref s2) u1 u2) (S1 : own_Str Z h0 s1 ts) (S2 : own_Str Z h0 s2 cs) (hl : cs.length = 5) (ht : ts.length ≤ 4) :
    MetFree l (⟨"com/example/test_rollback/testrollback/Dialect$Counter", "column", "()Ljava/lang/String;"⟩ : MethodName) (head1 (Jvm.Cond.code (⟨"com/example/test_rollback/testrollback/Dialect$Counter", "column", "()Ljava/lang/String;"⟩ : MethodName) prog_10_method_6_code 1 (some (.object "java/lang/String")) :: ws) ({ frames := 6, cells := 2, slots := 20, locals := 150 } : Room)) (fun a U => a = #[(.ref a1)] ∧ Z.Warmed39 U.vm ∧ U.heap = h0 ∧ CHv Z EL U.vm h0) (fun _ _ _ _ _ => True) (fun _ U o U' => ∃ v L, o = .returned v ∧ QSub Z cs (ts.length + 1) h0 n0 v U'.heap L ∧ CHr Z EL U.vm U.heap U'.vm U'.heap ∧ ReturnedEndW U o U' L ({ frames := 6, cells := 2, slots := 20, locals := 150 } : Room).cells ({ frames := 6, cells := 2, slots := 20, locals := 150 } : Room).slots) := by
  refine MetFree.of_bodySF (plainFor_of_name own_pn_rmCol) hisR ?_
  intro p e s m args below meth c s₁ Bd hml0 hP hK
  obtain ⟨hargs, hZ, hh, hC0⟩ := hP
  have hx := Bd.exec
  have hby := Bd.bytes
  have hml : c.maxLocals = 1 := hml0
  have hown : s.vm.findClass "com/example/test_rollback/testrollback/Dialect$Counter" = some m.cls := findClass_of_methodNamed Bd.named
  have hnm := (name_of_methodNamed Bd.named Bd.method).1
  have hlock : meth.locks = false := Bd.notSynchronized
  have hret0 := Bd.returns
  have hZ : Z.Warmed39 (s.setVm s.vm).vm := hZ
  have hown : (s.setVm s.vm).vm.findClass "com/example/test_rollback/testrollback/Dialect$Counter" = some m.cls := hown
  have hEL := own_EL hw
  have hwS := own_wS hw
  have C0 := CHr.refl hC0
  have X0 : Stand p l e ({ frames := 6, cells := 2, slots := 20, locals := 150 } : Room) (s.setVm s.vm) m args below meth c s₁ [] 0 0 := Stand.of_body Bd
  have e0 : s₁.heap = h0 := by rw [← hh, Bd.state]; rfl
  have N0 := Fr.nil n0
  have pre0 : ∀ t, Steps p.tables e below (s₁.setTop (mkF m 0 #[.val (.ref a1)] [])) t → Steps p.tables e below (s₁.setTop (entryFrame m args 1)) t := fun t k => castTop (by rw [hargs]; exact own_ef_rmCol m a1) k
  have hS0 := (State.WarmedH.refl s).since 0
  clear Bd
  have hln : ∀ d ∈ StrChars.Road.wordsLen, d.before a0 Z = true := fun d hd => hw d ((by decide +kernel : ∀ d ∈ StrChars.Road.wordsLen, d ∈ tables_1) d hd)
  obtain ⟨fE, f1, f2, f3, f4⟩ := F
  obtain ⟨t1, t2, t3, t4, tt, tk, t5, t6⟩ := id S1
  obtain ⟨T273, X273, e273, st273⟩ := getF X0 hx hZ hown (host := "") (Or.inl (hw _ (List.mem_of_getElem? (i := 52) rfl))) Via.refl e0 f2 (g := (mkF m 1 #[.val (.ref a1)] [(.ref a1)])) rfl rfl (hb hby d10_1)
  obtain ⟨T274, X274, e274, st274⟩ := getF X273 hx hZ hown (host := "") (Or.inl (hw _ (List.mem_of_getElem? (i := 50) rfl))) Via.refl e273 f1 (g := (mkF m 5 #[.val (.ref a1)] [(.ref a1), (.ref s2)])) rfl rfl (hb hby d10_5)
  obtain ⟨cq275, kq275, q275a, q275b, q275c⟩ := isOf hZ e274 t3
  obtain ⟨v275, vmx275, ⟨T275, L275, k275, n275⟩, -, X275, ⟨Lc275, hQ275, l275, y275, z275⟩, st275⟩ := X274.virtualBack hx (y := (⟨"java/lang/String", "length", "()I"⟩ : MethodName)) (z := (⟨"java/lang/String", "length", "()I"⟩ : MethodName)) hown (mvT hZ (hw _ (List.mem_of_getElem? (i := 63) rfl))) (mvT hZ (hw _ (List.mem_of_getElem? (i := 64) rfl))) (notFace_of_selects (args := #[]) (mvT hZ (hw _ (List.mem_of_getElem? (i := 66) rfl)))) (mvT hZ (hw _ (List.mem_of_getElem? (i := 66) rfl))) (mvT hZ (hw _ (List.mem_of_getElem? (i := 65) rfl))) (by decide) (StrChars.Road.lenW (W := 1) hZ hln (kI := 4) (hw _ (List.mem_of_getElem? (i := 6) rfl)) t3 t5 t4 t6 (StrChars.Road.codOf rfl (fun c hc => (t1 c hc).2)) (up _ t1) (O2.ext X00.2) P5 t2 (by decide) (by decide)) q275a q275c (g := (mkF m 8 #[.val (.ref a1)] [(.ref s1), (.ref s2)])) rfl (by rw [hml]; rfl) (Steps.refl _) (argsL := []) (rest := [(.ref s2)]) (lenOf own_pd6 rfl) rfl (by show 2 * 0 + _ ≤ _; exact Nat.le_of_eq rfl) (hb hby d10_8) (fun _ _ => ⟨rfl, e274, (by decide : 0 + 0 ≤ _), (by decide : 0 + 0 ≤ _)⟩)
  dsimp only [Pt.U, Pt.locs, Pt.cells, Pt.slots] at X275 l275 y275 z275 st275 hQ275
  subst l275 y275 z275
  obtain ⟨rfl, rfl, eh275⟩ := hQ275
  have Nq275 : Fr n0 ([] : List Loc) := Fr.nil n0
  have N275 := Fr.app N0 Nq275
  obtain ⟨cq276, kq276, q276a, q276b, q276c⟩ := isOf hZ eh275 S2.2.2.1
  obtain ⟨v276, vmx276, ⟨T276, L276, k276, n276⟩, -, Xq276, hSq276, hgr276, ⟨Lc276, hQ276, l276, y276, z276, CR276⟩, st276⟩ := X275.virtualBackS hx (y := (⟨"java/lang/String", "substring", "(I)Ljava/lang/String;"⟩ : MethodName)) (z := (⟨"java/lang/String", "substring", "(I)Ljava/lang/String;"⟩ : MethodName)) hown (mvT hZ (hw _ (List.mem_of_getElem? (i := 73) rfl))) (mvT hZ (hw _ (List.mem_of_getElem? (i := 74) rfl))) (notFace_of_selects (args := #[]) (mvT hZ (hw _ (List.mem_of_getElem? (i := 76) rfl)))) (mvT hZ (hw _ (List.mem_of_getElem? (i := 76) rfl))) (mvT hZ (hw _ (List.mem_of_getElem? (i := 75) rfl))) (by decide) (backOfSH (s := s) (vm0 := s.vm) (W := 0) (rmSub1 l Z a0 hw [] s2 cs (ts.length + 1) ((Int32.ofNat ts.length) + (1 : Int32)) G1 G3 h0 n0 Z0 O2 P5 X00 O4 rG3 S2 (by omega) (by omega) (by omega) (own_addN (b := 1) (by omega))) hZ (hw _ (List.mem_of_getElem? (i := 77) rfl)) (hw _ (List.mem_of_getElem? (i := 7) rfl)) (by decide) (by decide) hEL C0.1) q276a q276c (g := (mkF m 13 #[.val (.ref a1)] [(.int ((Int32.ofNat ts.length) + (1 : Int32))), (.ref s2)])) rfl (by rw [hml]; rfl) (Steps.refl _) (argsL := [(.int ((Int32.ofNat ts.length) + (1 : Int32)))]) (rest := []) (lenOf own_pd13 rfl) rfl (by show 2 * 0 + _ ≤ _; exact Nat.le_of_eq rfl) (hb hby d10_13) (fun _ _ => ⟨rfl, eh275, (by decide : 0 + 2 ≤ _), (by decide : 0 + 20 ≤ _)⟩)
  dsimp only [Pt.U, Pt.locs, Pt.cells, Pt.slots] at Xq276 hSq276 hgr276 l276 y276 z276 st276 hQ276 CR276
  subst l276 y276 z276
  obtain ⟨X276, hS276, hZ276, hown276⟩ := rebS (s := s) (vm0 := s.vm) hS0 (by rw [eh275]; exact (Nat.zero_le _)) Xq276 hSq276 hgr276 hZ hown
  obtain ⟨b, rfl, Nq276, E276, SB⟩ := hQ276
  have N276 := Fr.app N275 Nq276
  have Z277 : n0 ≤ T276.heap.size := Nat.le_trans Z0 E276.1
  have K278 : Keep h0 T276.heap [] := (Keep.refl h0 []).ext E276
  have C279 := (C0.trans CR276)
  obtain ⟨fs, hr, hrun, hended, hW⟩ := Stand.leaveW (s := s) (vm₁ := T276.vm) X276 hS276 (by rw [show T276.heap = _ from rfl]; exact (Nat.le_refl _)) (v := some (.ref b)) (fun h => by rw [hret0] at h; cases h)
  refine ⟨_, _, pre0 _ ?_, hrun, hended, _, _, rfl, ?_, own_chr (T := T276) hh rfl (C279.trans (CHv.at (s := s) (vm0 := T276.vm) X276 hZ276 hEL C279.1)), own_wmono hW (by decide) (by decide)⟩
  · show Steps p.tables e below (s₁.setTop (mkF m 0 #[.val (.ref a1)] [])) _
    refine XS.aloadN X0.here hx rfl (hb hby d10_0) rfl rfl ?_
    show Steps p.tables e below (s₁.setTop (mkF m 1 #[.val (.ref a1)] [(.ref a1)])) _
    refine st273 _ ?_
    show Steps p.tables e below (T273.setTop (mkF m 4 #[.val (.ref a1)] [(.ref s2)])) _
    refine XS.aloadN X273.here hx rfl (hb hby d10_4) rfl rfl ?_
    show Steps p.tables e below (T273.setTop (mkF m 5 #[.val (.ref a1)] [(.ref a1), (.ref s2)])) _
    refine st274 _ ?_
    show Steps p.tables e below (T274.setTop (mkF m 8 #[.val (.ref a1)] [(.ref s1), (.ref s2)])) _
    refine st275.trans ?_
    show Steps p.tables e below (T275.setTop (mkF m 11 #[.val (.ref a1)] [(.int (Int32.ofNat ts.length)), (.ref s2)])) _
    refine XS.iconst X275.here hx rfl (hb hby d10_11) ?_
    show Steps p.tables e below (T275.setTop (mkF m 12 #[.val (.ref a1)] [(.int (1 : Int32)), (.int (Int32.ofNat ts.length)), (.ref s2)])) _
    refine XS.iadd X275.here hx rfl (hb hby d10_12) rfl ?_
    show Steps p.tables e below (T275.setTop (mkF m 13 #[.val (.ref a1)] [(.int ((Int32.ofNat ts.length) + (1 : Int32))), (.ref s2)])) _
    refine st276.trans ?_
    show Steps p.tables e below (T276.setTop (mkF m 16 #[.val (.ref a1)] [(.ref b)])) _
    exact retR X276 hx hret0 rfl rfl rfl (hb hby d10_16) hr
  · show QSub Z cs (ts.length + 1) h0 n0 _ T276.heap _
    exact ⟨b, rfl, N276, own_ext K278, SB⟩
def Q0 (n0 : Nat) (v : Option Value) (h : Heap) (L : List Loc) : Prop := v = some (.int 1) ∧ Fr n0 L
theorem own_k (p1 : Int32) : ∃ j : Nat, j < 5 ∧ ((p1.toUInt32 >>> ((8 : Int32) &&& 31).toUInt32).toInt32) % (5 : Int32) = Int32.ofNat j := by
  have h0 := c_iushr p1 (8 : Int32) 8 (by decide) (by decide)
  generalize ((p1.toUInt32 >>> ((8 : Int32) &&& 31).toUInt32).toInt32) = q at h0 ⊢
  have r := rng32 p1
  have h1 := (c_irem q (5 : Int32) 5 (by decide)).1 (by omega)
  refine ⟨(q % (5 : Int32)).toInt.toNat, by omega, ?_⟩
  apply Int32.toInt_inj.mp
  rw [own_toI (by omega)]; omega
theorem own_B255 (x : Int32) : ¬ nar .char ((x &&& (255 : Int32)).toUInt32.toUInt16.toUInt32.toInt32) < 0 ∧ ¬ (255 : Int32) < nar .char ((x &&& (255 : Int32)).toUInt32.toUInt16.toUInt32.toInt32) := and255_chars x
theorem own_pn_rm0 : plainName "com/example/test_rollback/testrollback/CounterColumnPinLaw" = true := by first | (simp [plainName, overriddenIn]; done) | decide +kernel
theorem own_ef_rm0 (m : MethodId) (p0 : Int32) (p1 : Int32) : entryFrame m #[(.int p0), (.int p1)] maxLocals = (mkF m 0 #[.val (.int p0), .val (.int p1), .unset, .unset, .unset, .unset, .unset, .unset, .unset] []) := by first | (simp [entryFrame, mkF, argsToLocals, Value.category, maxLocals]; done) | rfl
set_option maxRecDepth 65536 in
set_option maxHeartbeats 40000000 in
theorem rm0 (l : Launch) (Z : State) (a0 : Array Value) (hw : ∀ d ∈ tables_1, d.before a0 Z = true) (ws : List Jvm.Cond) (p0 : Int32) (p1 : Int32) (G1 : Int32) (G3 : Value) (h0 : Heap) (n0 : Nat) (Z0 : n0 ≤ h0.size) (O2 : Sta Z Z.heap "java/lang/String" "COMPACT_STRINGS" "Z" (.int G1)) (P5 : ¬ (G1 = (0 : Int32))) (X00 : Old Z n0 h0) (O4 : Sta Z Z.heap "jdk/internal/util/Preconditions" "SIOOBE_FORMATTER" "Ljava/util/function/BiFunction;" G3) (rG3 : G3.isRef = true) :
    MetFree l x (head1 (Jvm.Cond.code x code maxLocals ret :: ws) room_1) (fun a U => a = #[(.int p0), (.int p1)] ∧ Z.Warmed39 U.vm ∧ U.heap = h0 ∧ CHv Z EL U.vm h0) (fun _ _ _ _ _ => True) (fun _ U o U' => ∃ v L, o = .returned v ∧ Q0 n0 v U'.heap L ∧ CHr Z EL U.vm U.heap U'.vm U'.heap ∧ ReturnedEndW U o U' L 40 3264) := by
  refine MetFree.of_bodySF (plainFor_of_name own_pn_rm0) hisR ?_
  intro p e s m args below meth c s₁ Bd hml0 hP hK
  obtain ⟨hargs, hZ, hh, hC0⟩ := hP
  have hx := Bd.exec
  have hby := Bd.bytes
  have hml : c.maxLocals = 9 := hml0
  have hown : s.vm.findClass "com/example/test_rollback/testrollback/CounterColumnPinLaw" = some m.cls := findClass_of_methodNamed Bd.named
  have hnm := (name_of_methodNamed Bd.named Bd.method).1
  have hlock : meth.locks = false := Bd.notSynchronized
  have hret0 := Bd.returns
  have hZ : Z.Warmed39 (s.setVm s.vm).vm := hZ
  have hown : (s.setVm s.vm).vm.findClass "com/example/test_rollback/testrollback/CounterColumnPinLaw" = some m.cls := hown
  have hEL := own_EL hw
  have hwS := own_wS hw
  have C0 := CHr.refl hC0
  have X0 : Stand p l e room_1 (s.setVm s.vm) m args below meth c s₁ [] 0 0 := Stand.of_body Bd
  have e0 : s₁.heap = h0 := by rw [← hh, Bd.state]; rfl
  have N0 := Fr.nil n0
  have pre0 : ∀ t, Steps p.tables e below (s₁.setTop (mkF m 0 #[.val (.int p0), .val (.int p1), .unset, .unset, .unset, .unset, .unset, .unset, .unset] [])) t → Steps p.tables e below (s₁.setTop (entryFrame m args maxLocals)) t := fun t k => castTop (by rw [hargs]; exact own_ef_rm0 m p0 p1) k
  have hS0 := (State.WarmedH.refl s).since 0
  clear Bd
  have hws : ∀ d ∈ StrChars.Road.words, d.before a0 Z = true := fun d hd => hw d ((by decide +kernel : ∀ d ∈ StrChars.Road.words, d ∈ tables_1) d hd)
  have heq : ∀ d ∈ StrChars.Road.wordsEq, d.before a0 Z = true := fun d hd => hw d ((by decide +kernel : ∀ d ∈ StrChars.Road.wordsEq, d ∈ tables_1) d hd)
  obtain ⟨j, hj, ej⟩ := own_k p1
  obtain ⟨T280, h280, lc280, b2, k2, cs, X280, e280, E280, N280, V2, hl, hp, st280⟩ : ∃ (T280 : State) (h280 : Heap) (lc280 : List Loc) (b2 : Addr) (k2 : ClassId) (cs : List Int32), Stand p l e room_1 (s.setVm s.vm) m args below meth c T280 lc280 1 5 ∧ T280.heap = h280 ∧ Ext h0 h280 ∧ Fr n0 lc280 ∧ (Arv Z h280 b2 k2 .char (5 : Int32) (cs.map Value.int) (.int (0 : Int32))) ∧ (cs.length = 5) ∧ (∀ c ∈ cs, ¬ c < 0 ∧ ¬ (255 : Int32) < c) ∧ ∀ target, Steps p.tables e below (T280.setTop (mkF m 70 #[.val (.int p0), .val (.int p1), .val (.ref b2), .val (.int (Int32.ofNat j)), .unset, .unset, .unset, .unset, .unset] [])) target → Steps p.tables e below (s₁.setTop (mkF m 0 #[.val (.int p0), .val (.int p1), .unset, .unset, .unset, .unset, .unset, .unset, .unset] [])) target := by
    obtain ⟨T281, h281, k281, X281, e281, E281, A281, st281⟩ := newP X0 hx hZ (hw _ (List.mem_of_getElem? (i := 0) rfl)) e0 (g := (mkF m 1 #[.val (.int p0), .val (.int p1), .unset, .unset, .unset, .unset, .unset, .unset, .unset] [(.int (5 : Int32))])) rfl (hb hby at_1) rfl (by decide) (cap := 5) (by decide) (by decide) (by decide) (by decide)
    obtain ⟨b281, g281⟩ : ∃ z, z = h0.size := ⟨_, rfl⟩
    rw [← g281] at A281 st281
    have ge_b281 : n0 ≤ b281 := Nat.le_trans Z0 (Nat.le_of_eq g281.symm)
    have sz_b281 : h0.size ≤ b281 := Nat.le_trans (Keep.refl h0 []).1 (Nat.le_of_eq g281.symm)
    have Z282 : n0 ≤ h281.size := Nat.le_trans Z0 E281.1
    have K283 : Keep h0 h281 [] := (Keep.refl h0 []).ext E281
    have V281 : Arv Z h281 b281 k281 .char (5 : Int32) [(.int (0 : Int32)), (.int (0 : Int32)), (.int (0 : Int32)), (.int (0 : Int32)), (.int (0 : Int32))] (.int (0 : Int32)) := (Arv.new A281 (by decide)).pad (pad_rep [] (.int (0 : Int32)) 5)
    obtain ⟨cl284, Ar284, q284, S284, M284, Hs284, G284⟩ := id V281
    obtain ⟨T284, h284, X284, e284, W284, st284⟩ := stC X281 hx hZ e281 Ar284 (j := (0 : Int32)) (inb_of S284 ⟨(by decide), (by decide)⟩) (g := (mkF m 12 #[.val (.int p0), .val (.int p1), .val (.ref b281), .unset, .unset, .unset, .unset, .unset, .unset] [(.int ((p0 &&& (255 : Int32)).toUInt32.toUInt16.toUInt32.toInt32)), (.int (0 : Int32)), (.ref b281)])) rfl rfl (hb hby at_12)
    have Z285 : n0 ≤ h284.size := Nat.le_trans Z282 (Keep.of_wr W284).1
    have K286 : Keep h0 h284 [] := K283.wr W284 (Or.inr sz_b281)
    have N284 := Fr.snoc X284 N0 ge_b281
    have V284 : Arv Z h284 b281 k281 .char (5 : Int32) [(.int (nar .char ((p0 &&& (255 : Int32)).toUInt32.toUInt16.toUInt32.toInt32))), (.int (0 : Int32)), (.int (0 : Int32)), (.int (0 : Int32)), (.int (0 : Int32))] (.int (0 : Int32)) := Arv.set Ar284 q284 S284 M284 Hs284 G284 (fits_nar_char _) W284 0 rfl (Nat.le_of_ble_eq_true rfl)
    obtain ⟨cl287, Ar287, q287, S287, M287, Hs287, G287⟩ := id V284
    obtain ⟨T287, h287, X287, e287, W287, st287⟩ := stC X284 hx hZ e284 Ar287 (j := (1 : Int32)) (inb_of S287 ⟨(by decide), (by decide)⟩) (g := (mkF m 24 #[.val (.int p0), .val (.int p1), .val (.ref b281), .unset, .unset, .unset, .unset, .unset, .unset] [(.int ((((p0.toUInt32 >>> ((8 : Int32) &&& 31).toUInt32).toInt32) &&& (255 : Int32)).toUInt32.toUInt16.toUInt32.toInt32)), (.int (1 : Int32)), (.ref b281)])) rfl rfl (hb hby at_24)
    have Z288 : n0 ≤ h287.size := Nat.le_trans Z285 (Keep.of_wr W287).1
    have K289 : Keep h0 h287 [] := K286.wr W287 (Or.inr sz_b281)
    have N287 := Fr.snoc X287 N284 ge_b281
    have V287 : Arv Z h287 b281 k281 .char (5 : Int32) [(.int (nar .char ((p0 &&& (255 : Int32)).toUInt32.toUInt16.toUInt32.toInt32))), (.int (nar .char ((((p0.toUInt32 >>> ((8 : Int32) &&& 31).toUInt32).toInt32) &&& (255 : Int32)).toUInt32.toUInt16.toUInt32.toInt32))), (.int (0 : Int32)), (.int (0 : Int32)), (.int (0 : Int32))] (.int (0 : Int32)) := Arv.set Ar287 q287 S287 M287 Hs287 G287 (fits_nar_char _) W287 1 rfl (Nat.le_of_ble_eq_true rfl)
    obtain ⟨cl290, Ar290, q290, S290, M290, Hs290, G290⟩ := id V287
    obtain ⟨T290, h290, X290, e290, W290, st290⟩ := stC X287 hx hZ e287 Ar290 (j := (2 : Int32)) (inb_of S290 ⟨(by decide), (by decide)⟩) (g := (mkF m 36 #[.val (.int p0), .val (.int p1), .val (.ref b281), .unset, .unset, .unset, .unset, .unset, .unset] [(.int ((((p0.toUInt32 >>> ((16 : Int32) &&& 31).toUInt32).toInt32) &&& (255 : Int32)).toUInt32.toUInt16.toUInt32.toInt32)), (.int (2 : Int32)), (.ref b281)])) rfl rfl (hb hby at_36)
    have Z291 : n0 ≤ h290.size := Nat.le_trans Z288 (Keep.of_wr W290).1
    have K292 : Keep h0 h290 [] := K289.wr W290 (Or.inr sz_b281)
    have N290 := Fr.snoc X290 N287 ge_b281
    have V290 : Arv Z h290 b281 k281 .char (5 : Int32) [(.int (nar .char ((p0 &&& (255 : Int32)).toUInt32.toUInt16.toUInt32.toInt32))), (.int (nar .char ((((p0.toUInt32 >>> ((8 : Int32) &&& 31).toUInt32).toInt32) &&& (255 : Int32)).toUInt32.toUInt16.toUInt32.toInt32))), (.int (nar .char ((((p0.toUInt32 >>> ((16 : Int32) &&& 31).toUInt32).toInt32) &&& (255 : Int32)).toUInt32.toUInt16.toUInt32.toInt32))), (.int (0 : Int32)), (.int (0 : Int32))] (.int (0 : Int32)) := Arv.set Ar290 q290 S290 M290 Hs290 G290 (fits_nar_char _) W290 2 rfl (Nat.le_of_ble_eq_true rfl)
    obtain ⟨cl293, Ar293, q293, S293, M293, Hs293, G293⟩ := id V290
    obtain ⟨T293, h293, X293, e293, W293, st293⟩ := stC X290 hx hZ e290 Ar293 (j := (3 : Int32)) (inb_of S293 ⟨(by decide), (by decide)⟩) (g := (mkF m 48 #[.val (.int p0), .val (.int p1), .val (.ref b281), .unset, .unset, .unset, .unset, .unset, .unset] [(.int ((((p0.toUInt32 >>> ((24 : Int32) &&& 31).toUInt32).toInt32) &&& (255 : Int32)).toUInt32.toUInt16.toUInt32.toInt32)), (.int (3 : Int32)), (.ref b281)])) rfl rfl (hb hby at_48)
    have Z294 : n0 ≤ h293.size := Nat.le_trans Z291 (Keep.of_wr W293).1
    have K295 : Keep h0 h293 [] := K292.wr W293 (Or.inr sz_b281)
    have N293 := Fr.snoc X293 N290 ge_b281
    have V293 : Arv Z h293 b281 k281 .char (5 : Int32) [(.int (nar .char ((p0 &&& (255 : Int32)).toUInt32.toUInt16.toUInt32.toInt32))), (.int (nar .char ((((p0.toUInt32 >>> ((8 : Int32) &&& 31).toUInt32).toInt32) &&& (255 : Int32)).toUInt32.toUInt16.toUInt32.toInt32))), (.int (nar .char ((((p0.toUInt32 >>> ((16 : Int32) &&& 31).toUInt32).toInt32) &&& (255 : Int32)).toUInt32.toUInt16.toUInt32.toInt32))), (.int (nar .char ((((p0.toUInt32 >>> ((24 : Int32) &&& 31).toUInt32).toInt32) &&& (255 : Int32)).toUInt32.toUInt16.toUInt32.toInt32))), (.int (0 : Int32))] (.int (0 : Int32)) := Arv.set Ar293 q293 S293 M293 Hs293 G293 (fits_nar_char _) W293 3 rfl (Nat.le_of_ble_eq_true rfl)
    obtain ⟨cl296, Ar296, q296, S296, M296, Hs296, G296⟩ := id V293
    obtain ⟨T296, h296, X296, e296, W296, st296⟩ := stC X293 hx hZ e293 Ar296 (j := (4 : Int32)) (inb_of S296 ⟨(by decide), (by decide)⟩) (g := (mkF m 57 #[.val (.int p0), .val (.int p1), .val (.ref b281), .unset, .unset, .unset, .unset, .unset, .unset] [(.int ((p1 &&& (255 : Int32)).toUInt32.toUInt16.toUInt32.toInt32)), (.int (4 : Int32)), (.ref b281)])) rfl rfl (hb hby at_57)
    have Z297 : n0 ≤ h296.size := Nat.le_trans Z294 (Keep.of_wr W296).1
    have K298 : Keep h0 h296 [] := K295.wr W296 (Or.inr sz_b281)
    have N296 := Fr.snoc X296 N293 ge_b281
    have V296 : Arv Z h296 b281 k281 .char (5 : Int32) [(.int (nar .char ((p0 &&& (255 : Int32)).toUInt32.toUInt16.toUInt32.toInt32))), (.int (nar .char ((((p0.toUInt32 >>> ((8 : Int32) &&& 31).toUInt32).toInt32) &&& (255 : Int32)).toUInt32.toUInt16.toUInt32.toInt32))), (.int (nar .char ((((p0.toUInt32 >>> ((16 : Int32) &&& 31).toUInt32).toInt32) &&& (255 : Int32)).toUInt32.toUInt16.toUInt32.toInt32))), (.int (nar .char ((((p0.toUInt32 >>> ((24 : Int32) &&& 31).toUInt32).toInt32) &&& (255 : Int32)).toUInt32.toUInt16.toUInt32.toInt32))), (.int (nar .char ((p1 &&& (255 : Int32)).toUInt32.toUInt16.toUInt32.toInt32)))] (.int (0 : Int32)) := Arv.set Ar296 q296 S296 M296 Hs296 G296 (fits_nar_char _) W296 4 rfl (Nat.le_of_ble_eq_true rfl)
    have st299 : ∀ target, Steps p.tables e below (T296.setTop (mkF m 65 #[.val (.int p0), .val (.int p1), .val (.ref b281), .val (.int (Int32.ofNat j)), .unset, .unset, .unset, .unset, .unset] [])) target → Steps p.tables e below (T296.setTop (mkF m 64 #[.val (.int p0), .val (.int p1), .val (.ref b281), .unset, .unset, .unset, .unset, .unset, .unset] [(.int (((p1.toUInt32 >>> ((8 : Int32) &&& 31).toUInt32).toInt32) % (5 : Int32)))])) target := by
      rw [← ej]
      intro target hk
      show Steps p.tables e below (T296.setTop (mkF m 64 #[.val (.int p0), .val (.int p1), .val (.ref b281), .unset, .unset, .unset, .unset, .unset, .unset] [(.int (((p1.toUInt32 >>> ((8 : Int32) &&& 31).toUInt32).toInt32) % (5 : Int32)))])) _
      refine XS.istoreN X296.here hx rfl (hb hby at_64) rfl (l' := #[.val (.int p0), .val (.int p1), .val (.ref b281), .val (.int (((p1.toUInt32 >>> ((8 : Int32) &&& 31).toUInt32).toInt32) % (5 : Int32))), .unset, .unset, .unset, .unset, .unset]) rfl ?_
      exact hk
    have VM : Arv Z h296 b281 k281 .char (5 : Int32) (([(nar .char ((p0 &&& (255 : Int32)).toUInt32.toUInt16.toUInt32.toInt32)), (nar .char ((((p0.toUInt32 >>> ((8 : Int32) &&& 31).toUInt32).toInt32) &&& (255 : Int32)).toUInt32.toUInt16.toUInt32.toInt32)), (nar .char ((((p0.toUInt32 >>> ((16 : Int32) &&& 31).toUInt32).toInt32) &&& (255 : Int32)).toUInt32.toUInt16.toUInt32.toInt32)), (nar .char ((((p0.toUInt32 >>> ((24 : Int32) &&& 31).toUInt32).toInt32) &&& (255 : Int32)).toUInt32.toUInt16.toUInt32.toInt32)), (nar .char ((p1 &&& (255 : Int32)).toUInt32.toUInt16.toUInt32.toInt32))] : List Int32).map Value.int) (.int (0 : Int32)) := V296
    obtain ⟨cl300, Ar300, q300, S300, M300, Hs300, G300⟩ := id VM
    obtain ⟨T300, h300, X300, e300, W300, st300⟩ := stC X296 hx hZ e296 Ar300 (j := (Int32.ofNat j)) (inb_of S300 ⟨own_nn (by omega), (own_lt (b := 5) (by omega) (by omega)).mpr hj⟩) (g := (mkF m 69 #[.val (.int p0), .val (.int p1), .val (.ref b281), .val (.int (Int32.ofNat j)), .unset, .unset, .unset, .unset, .unset] [(.int (46 : Int32)), (.int (Int32.ofNat j)), (.ref b281)])) rfl rfl (hb hby at_69)
    have Z301 : n0 ≤ h300.size := Nat.le_trans Z297 (Keep.of_wr W300).1
    have K302 : Keep h0 h300 [] := K298.wr W300 (Or.inr sz_b281)
    have N300 := Fr.snoc X300 N296 ge_b281
    have VN : Arv Z h300 b281 k281 .char (5 : Int32) ((([(nar .char ((p0 &&& (255 : Int32)).toUInt32.toUInt16.toUInt32.toInt32)), (nar .char ((((p0.toUInt32 >>> ((8 : Int32) &&& 31).toUInt32).toInt32) &&& (255 : Int32)).toUInt32.toUInt16.toUInt32.toInt32)), (nar .char ((((p0.toUInt32 >>> ((16 : Int32) &&& 31).toUInt32).toInt32) &&& (255 : Int32)).toUInt32.toUInt16.toUInt32.toInt32)), (nar .char ((((p0.toUInt32 >>> ((24 : Int32) &&& 31).toUInt32).toInt32) &&& (255 : Int32)).toUInt32.toUInt16.toUInt32.toInt32)), (nar .char ((p1 &&& (255 : Int32)).toUInt32.toUInt16.toUInt32.toInt32))] : List Int32).set j 46).map Value.int) (.int (0 : Int32)) := by
      have q := Arv.set Ar300 q300 S300 M300 Hs300 G300 (fits_nar_char _) W300 j (own_clamp (by omega)) (by simpa using hj)
      rw [List.map_set]
      exact q
    have hpN : ∀ c ∈ (([(nar .char ((p0 &&& (255 : Int32)).toUInt32.toUInt16.toUInt32.toInt32)), (nar .char ((((p0.toUInt32 >>> ((8 : Int32) &&& 31).toUInt32).toInt32) &&& (255 : Int32)).toUInt32.toUInt16.toUInt32.toInt32)), (nar .char ((((p0.toUInt32 >>> ((16 : Int32) &&& 31).toUInt32).toInt32) &&& (255 : Int32)).toUInt32.toUInt16.toUInt32.toInt32)), (nar .char ((((p0.toUInt32 >>> ((24 : Int32) &&& 31).toUInt32).toInt32) &&& (255 : Int32)).toUInt32.toUInt16.toUInt32.toInt32)), (nar .char ((p1 &&& (255 : Int32)).toUInt32.toUInt16.toUInt32.toInt32))] : List Int32).set j 46), ¬ c < 0 ∧ ¬ (255 : Int32) < c := by
      intro c hc
      rcases List.mem_or_eq_of_mem_set hc with q | rfl
      · simp only [List.mem_cons, List.not_mem_nil, or_false] at q
        rcases q with rfl | rfl | rfl | rfl | rfl <;> exact own_B255 _
      · decide
    refine ⟨T300, _, _, b281, k281, _, own_up X300 (by decide) (by decide), e300, own_ext K302, N300, VN, by simp, hpN, fun target hk => ?_⟩
    show Steps p.tables e below (s₁.setTop (mkF m 0 #[.val (.int p0), .val (.int p1), .unset, .unset, .unset, .unset, .unset, .unset, .unset] [])) _
    refine XS.iconst X0.here hx rfl (hb hby at_0) ?_
    show Steps p.tables e below (s₁.setTop (mkF m 1 #[.val (.int p0), .val (.int p1), .unset, .unset, .unset, .unset, .unset, .unset, .unset] [(.int (5 : Int32))])) _
    refine st281 _ ?_
    show Steps p.tables e below (T281.setTop (mkF m 3 #[.val (.int p0), .val (.int p1), .unset, .unset, .unset, .unset, .unset, .unset, .unset] [(.ref b281)])) _
    refine XS.astoreN X281.here hx rfl (hb hby at_3) rfl rfl (l' := #[.val (.int p0), .val (.int p1), .val (.ref b281), .unset, .unset, .unset, .unset, .unset, .unset]) rfl ?_
    show Steps p.tables e below (T281.setTop (mkF m 4 #[.val (.int p0), .val (.int p1), .val (.ref b281), .unset, .unset, .unset, .unset, .unset, .unset] [])) _
    refine XS.aloadN X281.here hx rfl (hb hby at_4) rfl rfl ?_
    show Steps p.tables e below (T281.setTop (mkF m 5 #[.val (.int p0), .val (.int p1), .val (.ref b281), .unset, .unset, .unset, .unset, .unset, .unset] [(.ref b281)])) _
    refine XS.iconst X281.here hx rfl (hb hby at_5) ?_
    show Steps p.tables e below (T281.setTop (mkF m 6 #[.val (.int p0), .val (.int p1), .val (.ref b281), .unset, .unset, .unset, .unset, .unset, .unset] [(.int (0 : Int32)), (.ref b281)])) _
    refine XS.iloadN X281.here hx rfl (hb hby at_6) rfl ?_
    show Steps p.tables e below (T281.setTop (mkF m 7 #[.val (.int p0), .val (.int p1), .val (.ref b281), .unset, .unset, .unset, .unset, .unset, .unset] [(.int p0), (.int (0 : Int32)), (.ref b281)])) _
    refine XS.sipush X281.here hx rfl (hb hby at_7) ?_
    show Steps p.tables e below (T281.setTop (mkF m 10 #[.val (.int p0), .val (.int p1), .val (.ref b281), .unset, .unset, .unset, .unset, .unset, .unset] [(.int (255 : Int32)), (.int p0), (.int (0 : Int32)), (.ref b281)])) _
    refine XS.iand X281.here hx rfl (hb hby at_10) rfl ?_
    show Steps p.tables e below (T281.setTop (mkF m 11 #[.val (.int p0), .val (.int p1), .val (.ref b281), .unset, .unset, .unset, .unset, .unset, .unset] [(.int (p0 &&& (255 : Int32))), (.int (0 : Int32)), (.ref b281)])) _
    refine XS.i2c X281.here hx rfl (hb hby at_11) rfl ?_
    show Steps p.tables e below (T281.setTop (mkF m 12 #[.val (.int p0), .val (.int p1), .val (.ref b281), .unset, .unset, .unset, .unset, .unset, .unset] [(.int ((p0 &&& (255 : Int32)).toUInt32.toUInt16.toUInt32.toInt32)), (.int (0 : Int32)), (.ref b281)])) _
    refine st284 _ ?_
    show Steps p.tables e below (T284.setTop (mkF m 13 #[.val (.int p0), .val (.int p1), .val (.ref b281), .unset, .unset, .unset, .unset, .unset, .unset] [])) _
    refine XS.aloadN X284.here hx rfl (hb hby at_13) rfl rfl ?_
    show Steps p.tables e below (T284.setTop (mkF m 14 #[.val (.int p0), .val (.int p1), .val (.ref b281), .unset, .unset, .unset, .unset, .unset, .unset] [(.ref b281)])) _
    refine XS.iconst X284.here hx rfl (hb hby at_14) ?_
    show Steps p.tables e below (T284.setTop (mkF m 15 #[.val (.int p0), .val (.int p1), .val (.ref b281), .unset, .unset, .unset, .unset, .unset, .unset] [(.int (1 : Int32)), (.ref b281)])) _
    refine XS.iloadN X284.here hx rfl (hb hby at_15) rfl ?_
    show Steps p.tables e below (T284.setTop (mkF m 16 #[.val (.int p0), .val (.int p1), .val (.ref b281), .unset, .unset, .unset, .unset, .unset, .unset] [(.int p0), (.int (1 : Int32)), (.ref b281)])) _
    refine XS.bipush X284.here hx rfl (hb hby at_16) ?_
    show Steps p.tables e below (T284.setTop (mkF m 18 #[.val (.int p0), .val (.int p1), .val (.ref b281), .unset, .unset, .unset, .unset, .unset, .unset] [(.int (8 : Int32)), (.int p0), (.int (1 : Int32)), (.ref b281)])) _
    refine XS.iushr X284.here hx rfl (hb hby at_18) rfl ?_
    show Steps p.tables e below (T284.setTop (mkF m 19 #[.val (.int p0), .val (.int p1), .val (.ref b281), .unset, .unset, .unset, .unset, .unset, .unset] [(.int ((p0.toUInt32 >>> ((8 : Int32) &&& 31).toUInt32).toInt32)), (.int (1 : Int32)), (.ref b281)])) _
    refine XS.sipush X284.here hx rfl (hb hby at_19) ?_
    show Steps p.tables e below (T284.setTop (mkF m 22 #[.val (.int p0), .val (.int p1), .val (.ref b281), .unset, .unset, .unset, .unset, .unset, .unset] [(.int (255 : Int32)), (.int ((p0.toUInt32 >>> ((8 : Int32) &&& 31).toUInt32).toInt32)), (.int (1 : Int32)), (.ref b281)])) _
    refine XS.iand X284.here hx rfl (hb hby at_22) rfl ?_
    show Steps p.tables e below (T284.setTop (mkF m 23 #[.val (.int p0), .val (.int p1), .val (.ref b281), .unset, .unset, .unset, .unset, .unset, .unset] [(.int (((p0.toUInt32 >>> ((8 : Int32) &&& 31).toUInt32).toInt32) &&& (255 : Int32))), (.int (1 : Int32)), (.ref b281)])) _
    refine XS.i2c X284.here hx rfl (hb hby at_23) rfl ?_
    show Steps p.tables e below (T284.setTop (mkF m 24 #[.val (.int p0), .val (.int p1), .val (.ref b281), .unset, .unset, .unset, .unset, .unset, .unset] [(.int ((((p0.toUInt32 >>> ((8 : Int32) &&& 31).toUInt32).toInt32) &&& (255 : Int32)).toUInt32.toUInt16.toUInt32.toInt32)), (.int (1 : Int32)), (.ref b281)])) _
    refine st287 _ ?_
    show Steps p.tables e below (T287.setTop (mkF m 25 #[.val (.int p0), .val (.int p1), .val (.ref b281), .unset, .unset, .unset, .unset, .unset, .unset] [])) _
    refine XS.aloadN X287.here hx rfl (hb hby at_25) rfl rfl ?_
    show Steps p.tables e below (T287.setTop (mkF m 26 #[.val (.int p0), .val (.int p1), .val (.ref b281), .unset, .unset, .unset, .unset, .unset, .unset] [(.ref b281)])) _
    refine XS.iconst X287.here hx rfl (hb hby at_26) ?_
    show Steps p.tables e below (T287.setTop (mkF m 27 #[.val (.int p0), .val (.int p1), .val (.ref b281), .unset, .unset, .unset, .unset, .unset, .unset] [(.int (2 : Int32)), (.ref b281)])) _
    refine XS.iloadN X287.here hx rfl (hb hby at_27) rfl ?_
    show Steps p.tables e below (T287.setTop (mkF m 28 #[.val (.int p0), .val (.int p1), .val (.ref b281), .unset, .unset, .unset, .unset, .unset, .unset] [(.int p0), (.int (2 : Int32)), (.ref b281)])) _
    refine XS.bipush X287.here hx rfl (hb hby at_28) ?_
    show Steps p.tables e below (T287.setTop (mkF m 30 #[.val (.int p0), .val (.int p1), .val (.ref b281), .unset, .unset, .unset, .unset, .unset, .unset] [(.int (16 : Int32)), (.int p0), (.int (2 : Int32)), (.ref b281)])) _
    refine XS.iushr X287.here hx rfl (hb hby at_30) rfl ?_
    show Steps p.tables e below (T287.setTop (mkF m 31 #[.val (.int p0), .val (.int p1), .val (.ref b281), .unset, .unset, .unset, .unset, .unset, .unset] [(.int ((p0.toUInt32 >>> ((16 : Int32) &&& 31).toUInt32).toInt32)), (.int (2 : Int32)), (.ref b281)])) _
    refine XS.sipush X287.here hx rfl (hb hby at_31) ?_
    show Steps p.tables e below (T287.setTop (mkF m 34 #[.val (.int p0), .val (.int p1), .val (.ref b281), .unset, .unset, .unset, .unset, .unset, .unset] [(.int (255 : Int32)), (.int ((p0.toUInt32 >>> ((16 : Int32) &&& 31).toUInt32).toInt32)), (.int (2 : Int32)), (.ref b281)])) _
    refine XS.iand X287.here hx rfl (hb hby at_34) rfl ?_
    show Steps p.tables e below (T287.setTop (mkF m 35 #[.val (.int p0), .val (.int p1), .val (.ref b281), .unset, .unset, .unset, .unset, .unset, .unset] [(.int (((p0.toUInt32 >>> ((16 : Int32) &&& 31).toUInt32).toInt32) &&& (255 : Int32))), (.int (2 : Int32)), (.ref b281)])) _
    refine XS.i2c X287.here hx rfl (hb hby at_35) rfl ?_
    show Steps p.tables e below (T287.setTop (mkF m 36 #[.val (.int p0), .val (.int p1), .val (.ref b281), .unset, .unset, .unset, .unset, .unset, .unset] [(.int ((((p0.toUInt32 >>> ((16 : Int32) &&& 31).toUInt32).toInt32) &&& (255 : Int32)).toUInt32.toUInt16.toUInt32.toInt32)), (.int (2 : Int32)), (.ref b281)])) _
    refine st290 _ ?_
    show Steps p.tables e below (T290.setTop (mkF m 37 #[.val (.int p0), .val (.int p1), .val (.ref b281), .unset, .unset, .unset, .unset, .unset, .unset] [])) _
    refine XS.aloadN X290.here hx rfl (hb hby at_37) rfl rfl ?_
    show Steps p.tables e below (T290.setTop (mkF m 38 #[.val (.int p0), .val (.int p1), .val (.ref b281), .unset, .unset, .unset, .unset, .unset, .unset] [(.ref b281)])) _
    refine XS.iconst X290.here hx rfl (hb hby at_38) ?_
    show Steps p.tables e below (T290.setTop (mkF m 39 #[.val (.int p0), .val (.int p1), .val (.ref b281), .unset, .unset, .unset, .unset, .unset, .unset] [(.int (3 : Int32)), (.ref b281)])) _
    refine XS.iloadN X290.here hx rfl (hb hby at_39) rfl ?_
    show Steps p.tables e below (T290.setTop (mkF m 40 #[.val (.int p0), .val (.int p1), .val (.ref b281), .unset, .unset, .unset, .unset, .unset, .unset] [(.int p0), (.int (3 : Int32)), (.ref b281)])) _
    refine XS.bipush X290.here hx rfl (hb hby at_40) ?_
    show Steps p.tables e below (T290.setTop (mkF m 42 #[.val (.int p0), .val (.int p1), .val (.ref b281), .unset, .unset, .unset, .unset, .unset, .unset] [(.int (24 : Int32)), (.int p0), (.int (3 : Int32)), (.ref b281)])) _
    refine XS.iushr X290.here hx rfl (hb hby at_42) rfl ?_
    show Steps p.tables e below (T290.setTop (mkF m 43 #[.val (.int p0), .val (.int p1), .val (.ref b281), .unset, .unset, .unset, .unset, .unset, .unset] [(.int ((p0.toUInt32 >>> ((24 : Int32) &&& 31).toUInt32).toInt32)), (.int (3 : Int32)), (.ref b281)])) _
    refine XS.sipush X290.here hx rfl (hb hby at_43) ?_
    show Steps p.tables e below (T290.setTop (mkF m 46 #[.val (.int p0), .val (.int p1), .val (.ref b281), .unset, .unset, .unset, .unset, .unset, .unset] [(.int (255 : Int32)), (.int ((p0.toUInt32 >>> ((24 : Int32) &&& 31).toUInt32).toInt32)), (.int (3 : Int32)), (.ref b281)])) _
    refine XS.iand X290.here hx rfl (hb hby at_46) rfl ?_
    show Steps p.tables e below (T290.setTop (mkF m 47 #[.val (.int p0), .val (.int p1), .val (.ref b281), .unset, .unset, .unset, .unset, .unset, .unset] [(.int (((p0.toUInt32 >>> ((24 : Int32) &&& 31).toUInt32).toInt32) &&& (255 : Int32))), (.int (3 : Int32)), (.ref b281)])) _
    refine XS.i2c X290.here hx rfl (hb hby at_47) rfl ?_
    show Steps p.tables e below (T290.setTop (mkF m 48 #[.val (.int p0), .val (.int p1), .val (.ref b281), .unset, .unset, .unset, .unset, .unset, .unset] [(.int ((((p0.toUInt32 >>> ((24 : Int32) &&& 31).toUInt32).toInt32) &&& (255 : Int32)).toUInt32.toUInt16.toUInt32.toInt32)), (.int (3 : Int32)), (.ref b281)])) _
    refine st293 _ ?_
    show Steps p.tables e below (T293.setTop (mkF m 49 #[.val (.int p0), .val (.int p1), .val (.ref b281), .unset, .unset, .unset, .unset, .unset, .unset] [])) _
    refine XS.aloadN X293.here hx rfl (hb hby at_49) rfl rfl ?_
    show Steps p.tables e below (T293.setTop (mkF m 50 #[.val (.int p0), .val (.int p1), .val (.ref b281), .unset, .unset, .unset, .unset, .unset, .unset] [(.ref b281)])) _
    refine XS.iconst X293.here hx rfl (hb hby at_50) ?_
    show Steps p.tables e below (T293.setTop (mkF m 51 #[.val (.int p0), .val (.int p1), .val (.ref b281), .unset, .unset, .unset, .unset, .unset, .unset] [(.int (4 : Int32)), (.ref b281)])) _
    refine XS.iloadN X293.here hx rfl (hb hby at_51) rfl ?_
    show Steps p.tables e below (T293.setTop (mkF m 52 #[.val (.int p0), .val (.int p1), .val (.ref b281), .unset, .unset, .unset, .unset, .unset, .unset] [(.int p1), (.int (4 : Int32)), (.ref b281)])) _
    refine XS.sipush X293.here hx rfl (hb hby at_52) ?_
    show Steps p.tables e below (T293.setTop (mkF m 55 #[.val (.int p0), .val (.int p1), .val (.ref b281), .unset, .unset, .unset, .unset, .unset, .unset] [(.int (255 : Int32)), (.int p1), (.int (4 : Int32)), (.ref b281)])) _
    refine XS.iand X293.here hx rfl (hb hby at_55) rfl ?_
    show Steps p.tables e below (T293.setTop (mkF m 56 #[.val (.int p0), .val (.int p1), .val (.ref b281), .unset, .unset, .unset, .unset, .unset, .unset] [(.int (p1 &&& (255 : Int32))), (.int (4 : Int32)), (.ref b281)])) _
    refine XS.i2c X293.here hx rfl (hb hby at_56) rfl ?_
    show Steps p.tables e below (T293.setTop (mkF m 57 #[.val (.int p0), .val (.int p1), .val (.ref b281), .unset, .unset, .unset, .unset, .unset, .unset] [(.int ((p1 &&& (255 : Int32)).toUInt32.toUInt16.toUInt32.toInt32)), (.int (4 : Int32)), (.ref b281)])) _
    refine st296 _ ?_
    show Steps p.tables e below (T296.setTop (mkF m 58 #[.val (.int p0), .val (.int p1), .val (.ref b281), .unset, .unset, .unset, .unset, .unset, .unset] [])) _
    refine XS.iloadN X296.here hx rfl (hb hby at_58) rfl ?_
    show Steps p.tables e below (T296.setTop (mkF m 59 #[.val (.int p0), .val (.int p1), .val (.ref b281), .unset, .unset, .unset, .unset, .unset, .unset] [(.int p1)])) _
    refine XS.bipush X296.here hx rfl (hb hby at_59) ?_
    show Steps p.tables e below (T296.setTop (mkF m 61 #[.val (.int p0), .val (.int p1), .val (.ref b281), .unset, .unset, .unset, .unset, .unset, .unset] [(.int (8 : Int32)), (.int p1)])) _
    refine XS.iushr X296.here hx rfl (hb hby at_61) rfl ?_
    show Steps p.tables e below (T296.setTop (mkF m 62 #[.val (.int p0), .val (.int p1), .val (.ref b281), .unset, .unset, .unset, .unset, .unset, .unset] [(.int ((p1.toUInt32 >>> ((8 : Int32) &&& 31).toUInt32).toInt32))])) _
    refine XS.iconst X296.here hx rfl (hb hby at_62) ?_
    show Steps p.tables e below (T296.setTop (mkF m 63 #[.val (.int p0), .val (.int p1), .val (.ref b281), .unset, .unset, .unset, .unset, .unset, .unset] [(.int (5 : Int32)), (.int ((p1.toUInt32 >>> ((8 : Int32) &&& 31).toUInt32).toInt32))])) _
    refine Jvm.RoadKit.iremM (g := (mkF m 63 #[.val (.int p0), .val (.int p1), .val (.ref b281), .unset, .unset, .unset, .unset, .unset, .unset] [(.int (5 : Int32)), (.int ((p1.toUInt32 >>> ((8 : Int32) &&& 31).toUInt32).toInt32))])) X296 hx rfl (hb hby at_63) rfl (by decide) ?_
    show Steps p.tables e below (T296.setTop (mkF m 64 #[.val (.int p0), .val (.int p1), .val (.ref b281), .unset, .unset, .unset, .unset, .unset, .unset] [(.int (((p1.toUInt32 >>> ((8 : Int32) &&& 31).toUInt32).toInt32) % (5 : Int32)))])) _
    refine st299 _ ?_
    show Steps p.tables e below (T296.setTop (mkF m 65 #[.val (.int p0), .val (.int p1), .val (.ref b281), .val (.int (Int32.ofNat j)), .unset, .unset, .unset, .unset, .unset] [])) _
    refine XS.aloadN X296.here hx rfl (hb hby at_65) rfl rfl ?_
    show Steps p.tables e below (T296.setTop (mkF m 66 #[.val (.int p0), .val (.int p1), .val (.ref b281), .val (.int (Int32.ofNat j)), .unset, .unset, .unset, .unset, .unset] [(.ref b281)])) _
    refine XS.iloadN X296.here hx rfl (hb hby at_66) rfl ?_
    show Steps p.tables e below (T296.setTop (mkF m 67 #[.val (.int p0), .val (.int p1), .val (.ref b281), .val (.int (Int32.ofNat j)), .unset, .unset, .unset, .unset, .unset] [(.int (Int32.ofNat j)), (.ref b281)])) _
    refine XS.bipush X296.here hx rfl (hb hby at_67) ?_
    show Steps p.tables e below (T296.setTop (mkF m 69 #[.val (.int p0), .val (.int p1), .val (.ref b281), .val (.int (Int32.ofNat j)), .unset, .unset, .unset, .unset, .unset] [(.int (46 : Int32)), (.int (Int32.ofNat j)), (.ref b281)])) _
    refine st300 _ ?_
    exact hk
  have Z303 : n0 ≤ h280.size := Nat.le_trans Z0 E280.1
  have K304 : Keep h0 h280 [] := (Keep.refl h0 []).ext E280
  have C305 := (C0.trans (CHr.ext E280 C0.1))
  have f306 := (X00.ext E280)
  obtain ⟨v307, vmx307, ⟨T307, L307, k307, n307⟩, -, Xq307, hSq307, hgr307, ⟨Lc307, hQ307, l307, y307, z307, CR307⟩, st307⟩ := callSS X280 hx (y := (⟨"com/example/test_rollback/testrollback/CounterColumnPinLaw", "part", "([CII)Ljava/lang/String;"⟩ : MethodName)) hown (mvT hZ (hw _ (List.mem_of_getElem? (i := 1) rfl))) (mvT hZ (hw _ (List.mem_of_getElem? (i := 2) rfl))) (mvT hZ (hw _ (List.mem_of_getElem? (i := 3) rfl))) (mvT hZ (hw _ (List.mem_of_getElem? (i := 4) rfl))) (by decide) (backOfSH (s := s) (vm0 := s.vm) (W := 0) (rmP l Z a0 hw [] b2 k2 cs (0) (j) (0 : Int32) (Int32.ofNat j) G1 h280 n0 Z303 O2 P5 f306 V2 hl hp (by omega) (by omega) rfl rfl) hZ (hw _ (List.mem_of_getElem? (i := 4) rfl)) (hw _ (List.mem_of_getElem? (i := 3) rfl)) (by decide) (by decide) hEL C305.1) (g := (mkF m 73 #[.val (.int p0), .val (.int p1), .val (.ref b2), .val (.int (Int32.ofNat j)), .unset, .unset, .unset, .unset, .unset] [(.int (Int32.ofNat j)), (.int (0 : Int32)), (.ref b2)])) rfl (by rw [hml]; rfl) (argsL := [(.ref b2), (.int (0 : Int32)), (.int (Int32.ofNat j))]) (rest := []) (lenOf own_pd14 rfl) rfl (by show 2 * 0 + _ ≤ _; exact Nat.le_of_eq rfl) (hb hby at_73) (fun _ _ => ⟨rfl, e280, (by decide : 1 + 6 ≤ _), (by decide : 5 + 16 ≤ _)⟩)
  dsimp only [Pt.U, Pt.locs, Pt.cells, Pt.slots] at Xq307 hSq307 hgr307 l307 y307 z307 st307 hQ307 CR307
  subst l307 y307 z307
  obtain ⟨X307, hS307, hZ307, hown307⟩ := rebS (s := s) (vm0 := s.vm) hS0 (by rw [e280]; exact (Nat.zero_le _)) Xq307 hSq307 hgr307 hZ hown
  obtain ⟨s4, rfl, Nq307, E307, S4⟩ := hQ307
  have N307 := Fr.app N280 Nq307
  have Z308 : n0 ≤ T307.heap.size := Nat.le_trans Z303 E307.1
  have K309 : Keep h0 T307.heap [] := K304.ext E307
  have C310 := (C305.trans CR307)
  have f311 := (V2.ext E307)
  have f312 := (f306.ext E307)
  obtain ⟨v313, vmx313, ⟨T313, L313, k313, n313⟩, -, Xq313, hSq313, hgr313, ⟨Lc313, hQ313, l313, y313, z313, CR313⟩, st313⟩ := callSS X307 hx (y := (⟨"com/example/test_rollback/testrollback/CounterColumnPinLaw", "part", "([CII)Ljava/lang/String;"⟩ : MethodName)) hown307 (mvT hZ307 (hw _ (List.mem_of_getElem? (i := 1) rfl))) (mvT hZ307 (hw _ (List.mem_of_getElem? (i := 2) rfl))) (mvT hZ307 (hw _ (List.mem_of_getElem? (i := 3) rfl))) (mvT hZ307 (hw _ (List.mem_of_getElem? (i := 4) rfl))) (by decide) (backOfSH (s := s) (vm0 := T307.vm) (W := 0) (rmP l Z a0 hw [] b2 k2 cs (j + 1) (4 - j) ((Int32.ofNat j) + (1 : Int32)) ((4 : Int32) - (Int32.ofNat j)) G1 T307.heap n0 Z308 O2 P5 f312 f311 hl hp (by omega) (by omega) (own_addN (b := 1) (by omega)) (own_subN (a := 4) (by omega) (by omega))) hZ307 (hw _ (List.mem_of_getElem? (i := 4) rfl)) (hw _ (List.mem_of_getElem? (i := 3) rfl)) (by decide) (by decide) hEL C310.1) (g := (mkF m 85 #[.val (.int p0), .val (.int p1), .val (.ref b2), .val (.int (Int32.ofNat j)), .val (.ref s4), .unset, .unset, .unset, .unset] [(.int ((4 : Int32) - (Int32.ofNat j))), (.int ((Int32.ofNat j) + (1 : Int32))), (.ref b2)])) rfl (by rw [hml]; rfl) (argsL := [(.ref b2), (.int ((Int32.ofNat j) + (1 : Int32))), (.int ((4 : Int32) - (Int32.ofNat j)))]) (rest := []) (lenOf own_pd14 rfl) rfl (by show 2 * 0 + _ ≤ _; exact Nat.le_of_eq rfl) (hb hby at_85) (fun _ _ => ⟨rfl, rfl, (by decide : 7 + 6 ≤ _), (by decide : 21 + 16 ≤ _)⟩)
  dsimp only [Pt.U, Pt.locs, Pt.cells, Pt.slots] at Xq313 hSq313 hgr313 l313 y313 z313 st313 hQ313 CR313
  subst l313 y313 z313
  obtain ⟨X313, hS313, hZ313, hown313⟩ := rebS (s := s) (vm0 := T307.vm) hS307 (by rw [show T307.heap = _ from rfl]; exact (Nat.le_refl _)) Xq313 hSq313 hgr313 hZ307 hown307
  obtain ⟨s5, rfl, Nq313, E313, S5⟩ := hQ313
  have N313 := Fr.app N307 Nq313
  have Z314 : n0 ≤ T313.heap.size := Nat.le_trans Z308 E313.1
  have K315 : Keep h0 T313.heap [] := K309.ext E313
  have C316 := (C310.trans CR313)
  obtain ⟨T317, h317, lc317, s6, X317, e317, E317, N317, S6, st317⟩ : ∃ (T317 : State) (h317 : Heap) (lc317 : List Loc) (s6 : Addr), Stand p l e room_1 (s.setVm T313.vm) m args below meth c T317 lc317 15 46 ∧ T317.heap = h317 ∧ Ext T313.heap h317 ∧ Fr n0 lc317 ∧ (own_Str Z h317 s6 cs) ∧ ∀ target, Steps p.tables e below (T317.setTop (mkF m 100 #[.val (.int p0), .val (.int p1), .val (.ref b2), .val (.int (Int32.ofNat j)), .val (.ref s4), .val (.ref s5), .val (.ref s6), .unset, .unset] [])) target → Steps p.tables e below (T313.setTop (mkF m 90 #[.val (.int p0), .val (.int p1), .val (.ref b2), .val (.int (Int32.ofNat j)), .val (.ref s4), .val (.ref s5), .unset, .unset, .unset] [])) target := by
    obtain ⟨T318, h318, X318, e318, E318, A318, D318, -, st318⟩ := newO X313 hx hZ313 hown313 (hw _ (List.mem_of_getElem? (i := 5) rfl)) (hw _ (List.mem_of_getElem? (i := 6) rfl)) (hw _ (List.mem_of_getElem? (i := 7) rfl)) rfl (g := (mkF m 90 #[.val (.int p0), .val (.int p1), .val (.ref b2), .val (.int (Int32.ofNat j)), .val (.ref s4), .val (.ref s5), .unset, .unset, .unset] [])) rfl (hb hby at_90) (by decide) (by decide)
    obtain ⟨b318, g318⟩ : ∃ z, z = T313.heap.size := ⟨_, rfl⟩
    rw [← g318] at A318 D318 st318
    have ge_b318 : n0 ≤ b318 := Nat.le_trans Z314 (Nat.le_of_eq g318.symm)
    have sz_b318 : T313.heap.size ≤ b318 := Nat.le_trans (Keep.refl T313.heap []).1 (Nat.le_of_eq g318.symm)
    have Z319 : n0 ≤ h318.size := Nat.le_trans Z314 E318.1
    have hk320 := Nat.le_trans (Nat.le_refl _) (E318.1 : _ ≤ h318.size)
    have K321 : Keep T313.heap h318 [] := (Keep.refl T313.heap []).ext E318
    have f322 := ((f311.ext E313).ext E318)
    have f323 := ((f312.ext E313).ext E318)
    obtain ⟨v324, vmx324, ⟨T324, L324, k324, n324⟩, -, X324, ⟨Lc324, hQ324, l324, y324, z324⟩, st324⟩ := X318.specialBack hx (y := (⟨"java/lang/String", "<init>", "([C)V"⟩ : MethodName)) rfl hown313 (mvT hZ313 (hw _ (List.mem_of_getElem? (i := 8) rfl))) (mvT hZ313 (hw _ (List.mem_of_getElem? (i := 9) rfl))) (mvT hZ313 (hw _ (List.mem_of_getElem? (i := 10) rfl))) (by decide) (StrChars.Road.backV (W := 1) hZ313 hws (kI := 4) (hw _ (List.mem_of_getElem? (i := 6) rfl)) (cs := cs) (bs := cs.map (fun c => c.toInt8.toInt32)) (n := 5) ge_b318 Z319 A318 (D318 (Or.inr (hw _ (List.mem_of_getElem? (i := 20) rfl))) (ty := (.array .byte)) (by decide)) (D318 (Or.inr (hw _ (List.mem_of_getElem? (i := 21) rfl))) (ty := .byte) (by decide)) f322 (O2.ext f323.2) P5 hl rfl (by decide) (by decide) hp rfl (by decide) (by decide)) (g := (mkF m 95 #[.val (.int p0), .val (.int p1), .val (.ref b2), .val (.int (Int32.ofNat j)), .val (.ref s4), .val (.ref s5), .unset, .unset, .unset] [(.ref b2), (.ref b318), (.ref b318)])) rfl (by rw [hml]; rfl) (Steps.refl _) (a := b318) (argsL := [(.ref b2)]) (rest := [(.ref b318)]) (lenOf own_pd12 rfl) rfl (by show 2 * 0 + _ ≤ _; exact Nat.le_of_eq rfl) (hb hby at_95) (fun _ _ => ⟨rfl, e318, (by decide : 14 + 1 ≤ _), (by decide : 41 + 5 ≤ _)⟩)
    dsimp only [Pt.U, Pt.locs, Pt.cells, Pt.slots] at X324 l324 y324 z324 st324 hQ324
    subst l324 y324 z324
    obtain ⟨rfl, Nq324, K324, fe324, fc324, t324, kb324, u1324, u2324, u3324, fv324, fa324⟩ := hQ324
    have N324 := Fr.app N313 Nq324
    have Z325 : n0 ≤ T324.heap.size := Nat.le_trans Z319 K324.1
    have hk326 := Nat.le_trans hk320 (K324.1 : _ ≤ T324.heap.size)
    have K327 : Keep T313.heap T324.heap [] := K321.trans K324 (allS (Or.inr sz_b318) all0)
    refine ⟨T324, _, _, b318, own_up X324 (by decide) (by decide), rfl, own_ext K327, N324, ⟨hp, by omega, fe324, fc324, t324, kb324, fv324, by rw [hl]; exact fa324⟩, fun target hk => ?_⟩
    show Steps p.tables e below (T313.setTop (mkF m 90 #[.val (.int p0), .val (.int p1), .val (.ref b2), .val (.int (Int32.ofNat j)), .val (.ref s4), .val (.ref s5), .unset, .unset, .unset] [])) _
    refine st318 _ ?_
    show Steps p.tables e below (T318.setTop (mkF m 93 #[.val (.int p0), .val (.int p1), .val (.ref b2), .val (.int (Int32.ofNat j)), .val (.ref s4), .val (.ref s5), .unset, .unset, .unset] [(.ref b318)])) _
    refine XS.dup X318.here hx rfl (hb hby at_93) rfl rfl ?_
    show Steps p.tables e below (T318.setTop (mkF m 94 #[.val (.int p0), .val (.int p1), .val (.ref b2), .val (.int (Int32.ofNat j)), .val (.ref s4), .val (.ref s5), .unset, .unset, .unset] [(.ref b318), (.ref b318)])) _
    refine XS.aloadN X318.here hx rfl (hb hby at_94) rfl rfl ?_
    show Steps p.tables e below (T318.setTop (mkF m 95 #[.val (.int p0), .val (.int p1), .val (.ref b2), .val (.int (Int32.ofNat j)), .val (.ref s4), .val (.ref s5), .unset, .unset, .unset] [(.ref b2), (.ref b318), (.ref b318)])) _
    refine st324.trans ?_
    show Steps p.tables e below (T324.setTop (mkF m 98 #[.val (.int p0), .val (.int p1), .val (.ref b2), .val (.int (Int32.ofNat j)), .val (.ref s4), .val (.ref s5), .unset, .unset, .unset] [(.ref b318)])) _
    refine XS.astore X324.here hx rfl (hb hby at_98) rfl rfl (l' := #[.val (.int p0), .val (.int p1), .val (.ref b2), .val (.int (Int32.ofNat j)), .val (.ref s4), .val (.ref s5), .val (.ref b318), .unset, .unset]) rfl ?_
    exact hk
  have Z328 : n0 ≤ h317.size := Nat.le_trans Z314 E317.1
  have hk329 := Nat.le_trans (Nat.le_refl _) (E317.1 : _ ≤ h317.size)
  have K330 : Keep h0 h317 [] := K315.ext E317
  have C331 := (C316.trans (CHr.ext E317 C316.1))
  obtain ⟨T332, h332, lc332, vm332, k1332, b7, u1, u2, X332, e332, E332, N332, hS332, hkk332, hZ332, hown332, CR332, F7, st332⟩ : ∃ (T332 : State) (h332 : Heap) (lc332 : List Loc) (vm332 : Vm) (k1332 : Nat) (b7 : Addr) (u1 : Addr) (u2 : Addr), Stand p l e room_1 (s.setVm vm332) m args below meth c T332 lc332 20 58 ∧ T332.heap = h332 ∧ Ext h317 h332 ∧ Fr n0 lc332 ∧ s.Since vm332 k1332 ∧ k1332 ≤ h332.size ∧ Z.Warmed39 (s.setVm vm332).vm ∧ (s.setVm vm332).vm.findClass "com/example/test_rollback/testrollback/CounterColumnPinLaw" = some m.cls ∧ CHr Z EL T313.vm h317 vm332 h332 ∧ (Fs Z h332 b7 (.ref s4) (.ref s6) (.ref u1) (.ref u2)) ∧ ∀ target, Steps p.tables e below (T332.setTop (mkF m 117 #[.val (.int p0), .val (.int p1), .val (.ref b2), .val (.int (Int32.ofNat j)), .val (.ref s4), .val (.ref s5), .val (.ref s6), .val (.ref b7), .unset] [])) target → Steps p.tables e below (T317.setTop (mkF m 100 #[.val (.int p0), .val (.int p1), .val (.ref b2), .val (.int (Int32.ofNat j)), .val (.ref s4), .val (.ref s5), .val (.ref s6), .unset, .unset] [])) target := by
    have C333 := CHr.refl C331.1
    obtain ⟨T334, h334, X334, e334, E334, A334, D334, -, st334⟩ := newO X317 hx hZ313 hown313 (hw _ (List.mem_of_getElem? (i := 37) rfl)) (hw _ (List.mem_of_getElem? (i := 38) rfl)) (hw _ (List.mem_of_getElem? (i := 39) rfl)) e317 (g := (mkF m 100 #[.val (.int p0), .val (.int p1), .val (.ref b2), .val (.int (Int32.ofNat j)), .val (.ref s4), .val (.ref s5), .val (.ref s6), .unset, .unset] [])) rfl (hb hby at_100) (by decide) (by decide)
    obtain ⟨b334, g334⟩ : ∃ z, z = h317.size := ⟨_, rfl⟩
    rw [← g334] at A334 D334 st334
    have ge_b334 : n0 ≤ b334 := Nat.le_trans Z328 (Nat.le_of_eq g334.symm)
    have sz_b334 : h317.size ≤ b334 := Nat.le_trans (Keep.refl h317 []).1 (Nat.le_of_eq g334.symm)
    have Z335 : n0 ≤ h334.size := Nat.le_trans Z328 E334.1
    have hk336 := Nat.le_trans hk329 (E334.1 : _ ≤ h334.size)
    have K337 : Keep h317 h334 [] := (Keep.refl h317 []).ext E334
    have C338 := (C333.trans (CHr.ext E334 C333.1))
    obtain ⟨a339, T339, h339, k1339, b339, kl339, X339, e339, E339, hS339, hkk339, hZ339, hown339, fe339, fc339, fv339, fa339, la339, lb339, CR339, hL339, hne339, st339⟩ := ldcCH (s := s) (vm0 := T313.vm) X334 hx hZ313 hown313 (hw _ (List.mem_of_getElem? (i := 40) rfl)) hwS e334 hS313 hk336 hEL (own_mem40) C338.1 (vs := ([] : List Value)) (z := (0 : Int32)) ⟨by decide, by decide⟩ (by decide) rfl (g := (mkF m 108 #[.val (.int p0), .val (.int p1), .val (.ref b2), .val (.int (Int32.ofNat j)), .val (.ref s4), .val (.ref s5), .val (.ref s6), .unset, .unset] [(.ref s6), (.ref s4), (.ref b334), (.ref b334)])) rfl (hb hby at_108) (n := 0) (by decide) (by decide) (by decide) (by decide)
    have Z340 : n0 ≤ h339.size := Nat.le_trans Z335 E339.1
    have K341 : Keep h317 h339 [] := K337.ext E339
    have C342 := (C338.trans CR339)
    obtain ⟨a343, T343, h343, k1343, b343, kl343, X343, e343, E343, hS343, hkk343, hZ343, hown343, fe343, fc343, fv343, fa343, la343, lb343, CR343, hL343, hne343, st343⟩ := ldcCH (s := s) (vm0 := T339.vm) X339 hx hZ339 hown339 (hw _ (List.mem_of_getElem? (i := 40) rfl)) hwS e339 hS339 hkk339 hEL (own_mem40) C342.1 (vs := ([] : List Value)) (z := (0 : Int32)) ⟨by decide, by decide⟩ (by decide) rfl (g := (mkF m 110 #[.val (.int p0), .val (.int p1), .val (.ref b2), .val (.int (Int32.ofNat j)), .val (.ref s4), .val (.ref s5), .val (.ref s6), .unset, .unset] [(.ref a339), (.ref s6), (.ref s4), (.ref b334), (.ref b334)])) rfl (hb hby at_110) (n := 0) (by decide) (by decide) (by decide) (by decide)
    have Z344 : n0 ≤ h343.size := Nat.le_trans Z340 E343.1
    have K345 : Keep h317 h343 [] := K341.ext E343
    have C346 := (C342.trans CR343)
    have f347 := ((A334.ext E339).ext E343)
    have f348 := (((D334 (Or.inr (hw _ (List.mem_of_getElem? (i := 51) rfl))) (ty := (.object "java/lang/String")) (by decide)).ext E339).ext E343)
    have f349 := (((D334 (Or.inr (hw _ (List.mem_of_getElem? (i := 53) rfl))) (ty := (.object "java/lang/String")) (by decide)).ext E339).ext E343)
    have f350 := (((D334 (Or.inr (hw _ (List.mem_of_getElem? (i := 55) rfl))) (ty := (.object "java/lang/String")) (by decide)).ext E339).ext E343)
    have f351 := (((D334 (Or.inr (hw _ (List.mem_of_getElem? (i := 57) rfl))) (ty := (.object "java/lang/String")) (by decide)).ext E339).ext E343)
    obtain ⟨v352, vmx352, ⟨T352, L352, k352, n352⟩, -, X352, ⟨Lc352, hQ352, l352, y352, z352⟩, st352⟩ := X343.specialBack hx (y := (⟨"com/example/test_rollback/testrollback/Dialect$Counter", "<init>", "(Ljava/lang/String;Ljava/lang/String;Ljava/lang/String;Ljava/lang/String;)V"⟩ : MethodName)) rfl hown343 (mvT hZ343 (hw _ (List.mem_of_getElem? (i := 41) rfl))) (mvT hZ343 (hw _ (List.mem_of_getElem? (i := 42) rfl))) (mvT hZ343 (hw _ (List.mem_of_getElem? (i := 43) rfl))) (by decide) (backOf (W := 1) (rm8 l Z a0 hw [] b334 (.ref s4) (.ref s6) (.ref a339) (.ref a343) _ _ _ _ h343 n0 Z344 rfl rfl rfl rfl ge_b334 ⟨f347, f348, f349, f350, f351⟩) hZ343 (hw _ (List.mem_of_getElem? (i := 43) rfl)) (hw _ (List.mem_of_getElem? (i := 39) rfl)) (by decide) (by decide)) (g := (mkF m 112 #[.val (.int p0), .val (.int p1), .val (.ref b2), .val (.int (Int32.ofNat j)), .val (.ref s4), .val (.ref s5), .val (.ref s6), .unset, .unset] [(.ref a343), (.ref a339), (.ref s6), (.ref s4), (.ref b334), (.ref b334)])) rfl (by rw [hml]; rfl) (Steps.refl _) (a := b334) (argsL := [(.ref s4), (.ref s6), (.ref a339), (.ref a343)]) (rest := [(.ref b334)]) (lenOf own_pd15 rfl) rfl (by show 2 * 0 + _ ≤ _; exact Nat.le_of_eq rfl) (hb hby at_112) (fun _ _ => ⟨rfl, e343, (by decide : 20 + 0 ≤ _), (by decide : 58 + 0 ≤ _)⟩)
    dsimp only [Pt.U, Pt.locs, Pt.cells, Pt.slots] at X352 l352 y352 z352 st352 hQ352
    subst l352 y352 z352
    obtain ⟨rfl, Nq352, K352, F352⟩ := hQ352
    have N352 := Fr.app N317 Nq352
    have Z353 : n0 ≤ T352.heap.size := Nat.le_trans Z344 K352.1
    have hk354 := Nat.le_trans hkk343 (K352.1 : _ ≤ T352.heap.size)
    have K355 : Keep h317 T352.heap [] := K345.trans K352 (allS (Or.inr sz_b334) all0)
    have C356 := (C346.trans (CHr.keep K352 (allS (CR343.safe (A334.ext E339).lt (CR339.safe A334.lt (Safe.ext E334 C333.1 (Safe.new (Nat.le_of_eq g334.symm))))) all0) C346.1))
    refine ⟨T352, _, _, T343.vm, _, b334, a339, a343, own_up X352 (by decide) (by decide), rfl, own_ext K355, N352, hS343, hk354, hZ343, hown343, C356, F352, fun target hk => ?_⟩
    show Steps p.tables e below (T317.setTop (mkF m 100 #[.val (.int p0), .val (.int p1), .val (.ref b2), .val (.int (Int32.ofNat j)), .val (.ref s4), .val (.ref s5), .val (.ref s6), .unset, .unset] [])) _
    refine st334 _ ?_
    show Steps p.tables e below (T334.setTop (mkF m 103 #[.val (.int p0), .val (.int p1), .val (.ref b2), .val (.int (Int32.ofNat j)), .val (.ref s4), .val (.ref s5), .val (.ref s6), .unset, .unset] [(.ref b334)])) _
    refine XS.dup X334.here hx rfl (hb hby at_103) rfl rfl ?_
    show Steps p.tables e below (T334.setTop (mkF m 104 #[.val (.int p0), .val (.int p1), .val (.ref b2), .val (.int (Int32.ofNat j)), .val (.ref s4), .val (.ref s5), .val (.ref s6), .unset, .unset] [(.ref b334), (.ref b334)])) _
    refine XS.aload X334.here hx rfl (hb hby at_104) rfl rfl ?_
    show Steps p.tables e below (T334.setTop (mkF m 106 #[.val (.int p0), .val (.int p1), .val (.ref b2), .val (.int (Int32.ofNat j)), .val (.ref s4), .val (.ref s5), .val (.ref s6), .unset, .unset] [(.ref s4), (.ref b334), (.ref b334)])) _
    refine XS.aload X334.here hx rfl (hb hby at_106) rfl rfl ?_
    show Steps p.tables e below (T334.setTop (mkF m 108 #[.val (.int p0), .val (.int p1), .val (.ref b2), .val (.int (Int32.ofNat j)), .val (.ref s4), .val (.ref s5), .val (.ref s6), .unset, .unset] [(.ref s6), (.ref s4), (.ref b334), (.ref b334)])) _
    refine st339 _ ?_
    show Steps p.tables e below (T339.setTop (mkF m 110 #[.val (.int p0), .val (.int p1), .val (.ref b2), .val (.int (Int32.ofNat j)), .val (.ref s4), .val (.ref s5), .val (.ref s6), .unset, .unset] [(.ref a339), (.ref s6), (.ref s4), (.ref b334), (.ref b334)])) _
    refine st343 _ ?_
    show Steps p.tables e below (T343.setTop (mkF m 112 #[.val (.int p0), .val (.int p1), .val (.ref b2), .val (.int (Int32.ofNat j)), .val (.ref s4), .val (.ref s5), .val (.ref s6), .unset, .unset] [(.ref a343), (.ref a339), (.ref s6), (.ref s4), (.ref b334), (.ref b334)])) _
    refine st352.trans ?_
    show Steps p.tables e below (T352.setTop (mkF m 115 #[.val (.int p0), .val (.int p1), .val (.ref b2), .val (.int (Int32.ofNat j)), .val (.ref s4), .val (.ref s5), .val (.ref s6), .unset, .unset] [(.ref b334)])) _
    refine XS.astore X352.here hx rfl (hb hby at_115) rfl rfl (l' := #[.val (.int p0), .val (.int p1), .val (.ref b2), .val (.int (Int32.ofNat j)), .val (.ref s4), .val (.ref s5), .val (.ref s6), .val (.ref b334), .unset]) rfl ?_
    exact hk
  have Z357 : n0 ≤ h332.size := Nat.le_trans Z328 E332.1
  have K358 : Keep h0 h332 [] := K330.ext E332
  have C359 := (C331.trans CR332)
  have f360 := (own_Str.ext E332 (own_Str.ext E317 (own_Str.ext E313 S4)))
  have f361 := (own_Str.ext E332 S6)
  have f362 := (((f312.ext E313).ext E317).ext E332)
  have htl : ((cs.drop (0)).take (j)).length = j := by rw [List.drop_zero, List.length_take, hl]; omega
  obtain ⟨cq363, kq363, q363a, q363b, q363c⟩ := isOf hZ332 e332 F7.1
  obtain ⟨v363, vmx363, ⟨T363, L363, k363, n363⟩, -, Xq363, hSq363, hgr363, ⟨Lc363, hQ363, l363, y363, z363, CR363⟩, st363⟩ := X332.virtualBackS hx (y := (⟨"com/example/test_rollback/testrollback/Dialect$Counter", "column", "()Ljava/lang/String;"⟩ : MethodName)) (z := (⟨"com/example/test_rollback/testrollback/Dialect$Counter", "column", "()Ljava/lang/String;"⟩ : MethodName)) hown332 (mvT hZ332 (hw _ (List.mem_of_getElem? (i := 58) rfl))) (mvT hZ332 (hw _ (List.mem_of_getElem? (i := 59) rfl))) (notFace_of_selects (args := #[]) (mvT hZ332 (hw _ (List.mem_of_getElem? (i := 61) rfl)))) (mvT hZ332 (hw _ (List.mem_of_getElem? (i := 61) rfl))) (mvT hZ332 (hw _ (List.mem_of_getElem? (i := 60) rfl))) (by decide) (backOfSH (s := s) (vm0 := vm332) (W := 0) (rmCol l Z a0 hw [] b7 s4 s6 _ _ cs ((cs.drop (0)).take (j)) G1 G3 h332 n0 Z357 O2 P5 f362 O4 rG3 F7 f360 f361 hl (by rw [htl]; omega)) hZ332 (hw _ (List.mem_of_getElem? (i := 62) rfl)) (hw _ (List.mem_of_getElem? (i := 39) rfl)) (by decide) (by decide) hEL C359.1) q363a q363c (g := (mkF m 119 #[.val (.int p0), .val (.int p1), .val (.ref b2), .val (.int (Int32.ofNat j)), .val (.ref s4), .val (.ref s5), .val (.ref s6), .val (.ref b7), .unset] [(.ref b7)])) rfl (by rw [hml]; rfl) (Steps.refl _) (argsL := []) (rest := []) (lenOf own_pd16 rfl) rfl (by show 2 * 0 + _ ≤ _; exact Nat.le_of_eq rfl) (hb hby at_119) (fun _ _ => ⟨rfl, e332, (by decide : 20 + 2 ≤ _), (by decide : 58 + 20 ≤ _)⟩)
  dsimp only [Pt.U, Pt.locs, Pt.cells, Pt.slots] at Xq363 hSq363 hgr363 l363 y363 z363 st363 hQ363 CR363
  subst l363 y363 z363
  obtain ⟨X363, hS363, hZ363, hown363⟩ := rebS (s := s) (vm0 := vm332) hS332 (by rw [e332]; exact hkk332) Xq363 hSq363 hgr363 hZ332 hown332
  obtain ⟨s8, rfl, Nq363, E363, S8⟩ := hQ363
  have N363 := Fr.app N332 Nq363
  have Z364 : n0 ≤ T363.heap.size := Nat.le_trans Z357 E363.1
  have K365 : Keep h0 T363.heap [] := K358.ext E363
  have C366 := (C359.trans CR363)
  have f368 := (own_Str.ext E363 (own_Str.ext E332 (own_Str.ext E317 S5)))
  have f369 := (f362.ext E363)
  obtain ⟨q367a1, q367a2, q367a3, q367a4, q367a5, q367a6, q367a7, q367a8⟩ := id S8
  obtain ⟨q367b1, q367b2, q367b3, q367b4, q367b5, q367b6, q367b7, q367b8⟩ := id f368
  obtain ⟨cq370, kq370, q370a, q370b, q370c⟩ := isOf hZ363 rfl q367a3
  obtain ⟨v370, vmx370, ⟨T370, L370, k370, n370⟩, -, X370, ⟨Lc370, hQ370, l370, y370, z370⟩, st370⟩ := X363.virtualBack hx (y := (⟨"java/lang/String", "equals", "(Ljava/lang/Object;)Z"⟩ : MethodName)) (z := (⟨"java/lang/String", "equals", "(Ljava/lang/Object;)Z"⟩ : MethodName)) hown363 (mvT hZ363 (hw _ (List.mem_of_getElem? (i := 123) rfl))) (mvT hZ363 (hw _ (List.mem_of_getElem? (i := 124) rfl))) (notFace_of_selects (args := #[]) (mvT hZ363 (hw _ (List.mem_of_getElem? (i := 126) rfl)))) (mvT hZ363 (hw _ (List.mem_of_getElem? (i := 126) rfl))) (mvT hZ363 (hw _ (List.mem_of_getElem? (i := 125) rfl))) (by decide) (StrChars.Road.eqW (W := 0) hZ363 heq (kI := 4) (hw _ (List.mem_of_getElem? (i := 6) rfl)) q367a3 q367a7 q367a4 q367a8 (StrChars.Road.codOf rfl (fun c hc => (q367a1 c hc).2)) (up _ q367a1) q367a2 q367b3 q367b7 q367b4 q367b8 (StrChars.Road.codOf rfl (fun c hc => (q367b1 c hc).2)) (up _ q367b1) q367b2 (O2.ext f369.2) P5 (by decide) (by decide)) q370a q370c (g := (mkF m 128 #[.val (.int p0), .val (.int p1), .val (.ref b2), .val (.int (Int32.ofNat j)), .val (.ref s4), .val (.ref s5), .val (.ref s6), .val (.ref b7), .val (.ref s8)] [(.ref s5), (.ref s8)])) rfl (by rw [hml]; rfl) (Steps.refl _) (argsL := [(.ref s5)]) (rest := []) (lenOf own_pd17 rfl) rfl (by show 2 * 0 + _ ≤ _; exact Nat.le_of_eq rfl) (hb hby at_128) (fun _ _ => ⟨rfl, rfl, (by decide : 22 + 0 ≤ _), (by decide : 78 + 0 ≤ _)⟩)
  dsimp only [Pt.U, Pt.locs, Pt.cells, Pt.slots] at X370 l370 y370 z370 st370 hQ370
  subst l370 y370 z370
  obtain ⟨hcase370, rfl, eh370⟩ := hQ370
  obtain ⟨z370, rfl, hz370⟩ : ∃ z : Int32, v370 = some (.int z) ∧ ((z = 1 ∧ (cs.drop (((cs.drop (0)).take (j)).length + 1)) = ((cs.drop (j + 1)).take (4 - j))) ∨ (z = 0 ∧ ¬ ((cs.drop (((cs.drop (0)).take (j)).length + 1)) = ((cs.drop (j + 1)).take (4 - j))))) := by
    rcases hcase370 with ⟨q1, q2⟩ | ⟨q1, q2⟩
    · exact ⟨1, q1, Or.inl ⟨rfl, q2⟩⟩
    · exact ⟨0, q1, Or.inr ⟨rfl, q2⟩⟩
  have Nq370 : Fr n0 ([] : List Loc) := Fr.nil n0
  have N370 := Fr.app N363 Nq370
  have hfin : cs.drop (((cs.drop (0)).take (j)).length + 1) = (cs.drop (j + 1)).take (4 - j) := by
    rw [htl, List.take_of_length_le]
    rw [List.length_drop, hl]; omega
  obtain rfl : z370 = 1 := hz370.elim (fun q => q.1) (fun q => absurd hfin q.2)
  obtain ⟨fs, hr, hrun, hended, hW⟩ := Stand.leaveW (s := s) (vm₁ := T363.vm) X370 hS363 (by rw [eh370]; exact (Nat.le_refl _)) (v := some (.int (1 : Int32))) (fun h => by rw [hret0] at h; cases h)
  refine ⟨_, _, pre0 _ ?_, hrun, hended, _, _, rfl, ?_, own_chr (T := T370) hh eh370 (C366.trans (CHv.at (s := s) (vm0 := T363.vm) X370 hZ363 hEL C366.1)), own_wmono hW (by decide) (by decide)⟩
  · show Steps p.tables e below (s₁.setTop (mkF m 0 #[.val (.int p0), .val (.int p1), .unset, .unset, .unset, .unset, .unset, .unset, .unset] [])) _
    refine st280 _ ?_
    show Steps p.tables e below (T280.setTop (mkF m 70 #[.val (.int p0), .val (.int p1), .val (.ref b2), .val (.int (Int32.ofNat j)), .unset, .unset, .unset, .unset, .unset] [])) _
    refine XS.aloadN X280.here hx rfl (hb hby at_70) rfl rfl ?_
    show Steps p.tables e below (T280.setTop (mkF m 71 #[.val (.int p0), .val (.int p1), .val (.ref b2), .val (.int (Int32.ofNat j)), .unset, .unset, .unset, .unset, .unset] [(.ref b2)])) _
    refine XS.iconst X280.here hx rfl (hb hby at_71) ?_
    show Steps p.tables e below (T280.setTop (mkF m 72 #[.val (.int p0), .val (.int p1), .val (.ref b2), .val (.int (Int32.ofNat j)), .unset, .unset, .unset, .unset, .unset] [(.int (0 : Int32)), (.ref b2)])) _
    refine XS.iloadN X280.here hx rfl (hb hby at_72) rfl ?_
    show Steps p.tables e below (T280.setTop (mkF m 73 #[.val (.int p0), .val (.int p1), .val (.ref b2), .val (.int (Int32.ofNat j)), .unset, .unset, .unset, .unset, .unset] [(.int (Int32.ofNat j)), (.int (0 : Int32)), (.ref b2)])) _
    refine st307.trans ?_
    show Steps p.tables e below (T307.setTop (mkF m 76 #[.val (.int p0), .val (.int p1), .val (.ref b2), .val (.int (Int32.ofNat j)), .unset, .unset, .unset, .unset, .unset] [(.ref s4)])) _
    refine XS.astore X307.here hx rfl (hb hby at_76) rfl rfl (l' := #[.val (.int p0), .val (.int p1), .val (.ref b2), .val (.int (Int32.ofNat j)), .val (.ref s4), .unset, .unset, .unset, .unset]) rfl ?_
    show Steps p.tables e below (T307.setTop (mkF m 78 #[.val (.int p0), .val (.int p1), .val (.ref b2), .val (.int (Int32.ofNat j)), .val (.ref s4), .unset, .unset, .unset, .unset] [])) _
    refine XS.aloadN X307.here hx rfl (hb hby at_78) rfl rfl ?_
    show Steps p.tables e below (T307.setTop (mkF m 79 #[.val (.int p0), .val (.int p1), .val (.ref b2), .val (.int (Int32.ofNat j)), .val (.ref s4), .unset, .unset, .unset, .unset] [(.ref b2)])) _
    refine XS.iloadN X307.here hx rfl (hb hby at_79) rfl ?_
    show Steps p.tables e below (T307.setTop (mkF m 80 #[.val (.int p0), .val (.int p1), .val (.ref b2), .val (.int (Int32.ofNat j)), .val (.ref s4), .unset, .unset, .unset, .unset] [(.int (Int32.ofNat j)), (.ref b2)])) _
    refine XS.iconst X307.here hx rfl (hb hby at_80) ?_
    show Steps p.tables e below (T307.setTop (mkF m 81 #[.val (.int p0), .val (.int p1), .val (.ref b2), .val (.int (Int32.ofNat j)), .val (.ref s4), .unset, .unset, .unset, .unset] [(.int (1 : Int32)), (.int (Int32.ofNat j)), (.ref b2)])) _
    refine XS.iadd X307.here hx rfl (hb hby at_81) rfl ?_
    show Steps p.tables e below (T307.setTop (mkF m 82 #[.val (.int p0), .val (.int p1), .val (.ref b2), .val (.int (Int32.ofNat j)), .val (.ref s4), .unset, .unset, .unset, .unset] [(.int ((Int32.ofNat j) + (1 : Int32))), (.ref b2)])) _
    refine XS.iconst X307.here hx rfl (hb hby at_82) ?_
    show Steps p.tables e below (T307.setTop (mkF m 83 #[.val (.int p0), .val (.int p1), .val (.ref b2), .val (.int (Int32.ofNat j)), .val (.ref s4), .unset, .unset, .unset, .unset] [(.int (4 : Int32)), (.int ((Int32.ofNat j) + (1 : Int32))), (.ref b2)])) _
    refine XS.iloadN X307.here hx rfl (hb hby at_83) rfl ?_
    show Steps p.tables e below (T307.setTop (mkF m 84 #[.val (.int p0), .val (.int p1), .val (.ref b2), .val (.int (Int32.ofNat j)), .val (.ref s4), .unset, .unset, .unset, .unset] [(.int (Int32.ofNat j)), (.int (4 : Int32)), (.int ((Int32.ofNat j) + (1 : Int32))), (.ref b2)])) _
    refine XS.isub X307.here hx rfl (hb hby at_84) rfl ?_
    show Steps p.tables e below (T307.setTop (mkF m 85 #[.val (.int p0), .val (.int p1), .val (.ref b2), .val (.int (Int32.ofNat j)), .val (.ref s4), .unset, .unset, .unset, .unset] [(.int ((4 : Int32) - (Int32.ofNat j))), (.int ((Int32.ofNat j) + (1 : Int32))), (.ref b2)])) _
    refine st313.trans ?_
    show Steps p.tables e below (T313.setTop (mkF m 88 #[.val (.int p0), .val (.int p1), .val (.ref b2), .val (.int (Int32.ofNat j)), .val (.ref s4), .unset, .unset, .unset, .unset] [(.ref s5)])) _
    refine XS.astore X313.here hx rfl (hb hby at_88) rfl rfl (l' := #[.val (.int p0), .val (.int p1), .val (.ref b2), .val (.int (Int32.ofNat j)), .val (.ref s4), .val (.ref s5), .unset, .unset, .unset]) rfl ?_
    show Steps p.tables e below (T313.setTop (mkF m 90 #[.val (.int p0), .val (.int p1), .val (.ref b2), .val (.int (Int32.ofNat j)), .val (.ref s4), .val (.ref s5), .unset, .unset, .unset] [])) _
    refine st317 _ ?_
    show Steps p.tables e below (T317.setTop (mkF m 100 #[.val (.int p0), .val (.int p1), .val (.ref b2), .val (.int (Int32.ofNat j)), .val (.ref s4), .val (.ref s5), .val (.ref s6), .unset, .unset] [])) _
    refine st332 _ ?_
    show Steps p.tables e below (T332.setTop (mkF m 117 #[.val (.int p0), .val (.int p1), .val (.ref b2), .val (.int (Int32.ofNat j)), .val (.ref s4), .val (.ref s5), .val (.ref s6), .val (.ref b7), .unset] [])) _
    refine XS.aload X332.here hx rfl (hb hby at_117) rfl rfl ?_
    show Steps p.tables e below (T332.setTop (mkF m 119 #[.val (.int p0), .val (.int p1), .val (.ref b2), .val (.int (Int32.ofNat j)), .val (.ref s4), .val (.ref s5), .val (.ref s6), .val (.ref b7), .unset] [(.ref b7)])) _
    refine st363.trans ?_
    show Steps p.tables e below (T363.setTop (mkF m 122 #[.val (.int p0), .val (.int p1), .val (.ref b2), .val (.int (Int32.ofNat j)), .val (.ref s4), .val (.ref s5), .val (.ref s6), .val (.ref b7), .unset] [(.ref s8)])) _
    refine XS.astore X363.here hx rfl (hb hby at_122) rfl rfl (l' := #[.val (.int p0), .val (.int p1), .val (.ref b2), .val (.int (Int32.ofNat j)), .val (.ref s4), .val (.ref s5), .val (.ref s6), .val (.ref b7), .val (.ref s8)]) rfl ?_
    show Steps p.tables e below (T363.setTop (mkF m 124 #[.val (.int p0), .val (.int p1), .val (.ref b2), .val (.int (Int32.ofNat j)), .val (.ref s4), .val (.ref s5), .val (.ref s6), .val (.ref b7), .val (.ref s8)] [])) _
    refine XS.aload X363.here hx rfl (hb hby at_124) rfl rfl ?_
    show Steps p.tables e below (T363.setTop (mkF m 126 #[.val (.int p0), .val (.int p1), .val (.ref b2), .val (.int (Int32.ofNat j)), .val (.ref s4), .val (.ref s5), .val (.ref s6), .val (.ref b7), .val (.ref s8)] [(.ref s8)])) _
    refine XS.aload X363.here hx rfl (hb hby at_126) rfl rfl ?_
    show Steps p.tables e below (T363.setTop (mkF m 128 #[.val (.int p0), .val (.int p1), .val (.ref b2), .val (.int (Int32.ofNat j)), .val (.ref s4), .val (.ref s5), .val (.ref s6), .val (.ref b7), .val (.ref s8)] [(.ref s5), (.ref s8)])) _
    refine st370.trans ?_
    show Steps p.tables e below (T370.setTop (mkF m 131 #[.val (.int p0), .val (.int p1), .val (.ref b2), .val (.int (Int32.ofNat j)), .val (.ref s4), .val (.ref s5), .val (.ref s6), .val (.ref b7), .val (.ref s8)] [(.int (1 : Int32))])) _
    exact retN X370 hx (t := .boolean) hret0 (by simp) (hb hby at_131) hr
  · show Q0 n0 _ T370.heap _
    rw [eh370]
    exact ⟨rfl, N370⟩
set_option maxRecDepth 65536 in
set_option maxHeartbeats 40000000 in
theorem comes_1 {Post : Tables → Env → Array Value → State → Outcome → State → Prop} (hpost : ∀ tb e args s v u, (limb_1_1.after args s (.returned v) u = true ∧ limb_1_2.after args s (.returned v) u = true ∧ True) → ReturnedEndW s (.returned v) u (Jvm.fieldLocs frame_1_writes args s ++ Jvm.arrayLocs frame_1_arrays args s ++ Jvm.staticLocs frame_1_statics s) 40 3264 → Post tb e args s (.returned v) u) :
    ArmFor flags0 classFile x code maxLocals ret World_1 tables_1 room_1 Calls_1 rest_1 Pre_1 Post := by
  intro l hfl _ _ p e ha hc hk s m args below hf hA hF happ hP
  obtain ⟨hcalls, hrest, hpre⟩ := hP
  obtain ⟨-, -, -, hnamed, -, -, -, hat⟩ := (Spec.applies_iff hf).mp happ
  obtain ⟨hg, hn⟩ := and_e (Cond.before_iff.mp (show (Jvm.Cond.and given_1 narrow_1).before args s = true from hpre))
  obtain ⟨g0, r0⟩ := and_e hg
  obtain ⟨g1, r1⟩ := and_e r0
  obtain ⟨w0, w1, rfl⟩ : ∃ w0 w1 : Value, args = #[w0, w1] := by
    have hs : args.size = 2 := by simpa [Cond.value, given_1] using g0
    obtain ⟨L⟩ := args
    match L, hs with
    | [w0, w1], _ => exact ⟨w0, w1, rfl⟩
  have hw := fun d (hd : d ∈ tables_1) => atoms_spec (ws := Jvm.Cond.code x code maxLocals ret :: tables_1) hat d (List.mem_cons_of_mem _ hd)
  have hfit : Fit s := fun {y c} hc i hi => by
    obtain ⟨ha, rfl⟩ := Array.getElem?_eq_some_iff.mp hc
    have q := List.all_eq_true.mp ((Array.all_eq_true_iff_forall_mem.mp hF) _ (Array.getElem_mem ha)) i (List.mem_range.mpr hi)
    simpa [Array.getElem?_eq_getElem hi] using q
  obtain ⟨hsets, hown0⟩ := atoms_of _ (rest_1_c_eq ▸ (show rest_1_c.before _ s = true from hrest))
  have hr0 := Cond.before_iff.mp hown0
  obtain ⟨i0, ei0⟩ := is_v g1
  obtain rfl : w0 = (.int i0) := Option.some.inj ei0
  obtain ⟨i1, ei1⟩ := is_v r1
  obtain rfl : w1 = (.int i1) := Option.some.inj ei1
  have n5 := not_v (Cond.before_iff.mp (hsets _ (List.mem_of_getElem? (i := 2) rfl)))
  obtain ⟨G1, e10⟩ := is_v (Cond.before_iff.mp (hsets _ (List.mem_of_getElem? (i := 1) rfl)))
  have S12 : Sta s s.heap "java/lang/String" "COMPACT_STRINGS" "Z" (.int G1) := Sta.start e10 (Or.inl (hsets _ (List.mem_of_getElem? (i := 0) rfl)))
  have c17 : ¬ (G1 = (0 : Int32)) := gotF (Cond.eq_ints e10 (Term.int_eval (0))) n5
  obtain ⟨v13, e14, r15⟩ := isR_v (Cond.before_iff.mp (hsets _ (List.mem_of_getElem? (i := 8) rfl)))
  have S16 : Sta s s.heap "jdk/internal/util/Preconditions" "SIOOBE_FORMATTER" "Ljava/util/function/BiFunction;" v13 := Sta.start e14 (Or.inl (hsets _ (List.mem_of_getElem? (i := 7) rfl)))
  have hCH : CHv s EL s.vm s.heap := CHv.start (own_EL hw) hcalls.1 (hsets _ (List.mem_of_getElem? (i := 2) rfl)) (hw _ (List.mem_of_getElem? (i := 19) rfl)) (hw _ (List.mem_of_getElem? (i := 6) rfl))
  obtain ⟨n, o, h1, h2, h3, _, L, rfl, ⟨rfl, N⟩, -, hq⟩ := rm0 l s _ hw tables_1 i0 i1 G1 v13 s.heap s.heap.size (Nat.le_refl _) S12 c17 (Old.start s) S16 r15 p e ha hc hk s m _ below hf ((Spec.applies_iff_loose hf).mp happ).1 ⟨rfl, State.Warmed39.refl s, rfl, hCH⟩ trivial
  refine ⟨n, _, h1, h2, h3, hpost _ _ _ _ _ _ ⟨Cond.after_iff.mpr rfl, Cond.after_iff.mpr (eq_i res_at (Term.int_eval (1)) rfl), trivial⟩ ⟨hq.1, hq.2.1, hq.2.2.1, (hq.2.2.2.sift fun y hy => Or.inr (N y hy)).mono (by decide) (by decide)⟩⟩
theorem main_1_1 : Claimed_1_1 := comes_1 fun _ _ _ _ _ _ h hF => ⟨h.1, hF⟩
theorem main_1_2 : Claimed_1_2 := comes_1 fun _ _ _ _ _ _ h hF => ⟨h.2.1, hF⟩
end Jvm.Pilot.@@N@@
namespace Jvm.Pilot.@@N@@
open Jvm Jvm.ClassFile Sem Op Lib Jvm.Free Jvm.Stand Jvm.Pilot.@@N@@.Jvm.D
/-! MADE BY PROGRAM (witnessworld.py) out of the Statement's table words and the real class files: 24 classes; the members and pool entries that the words name. The judged class is class 1, her method 1. -/
namespace start1
open Jvm.ClassFile
def u (s : String) : CpInfo := .utf8 (stringToUtf16 s)
/-- a pool by its gaps: so many unusable entries, then the entry; so many at the end -/
def gap : Nat → List CpInfo → List CpInfo
  | 0, r => r
  | n + 1, r => .unusable :: gap n r
def poolList (es : List (Nat × CpInfo)) (last : Nat) : List CpInfo := es.foldr (fun e r => gap e.1 (e.2 :: r)) (gap last [])
def pool (es : List (Nat × CpInfo)) (last : Nat) : Array CpInfo := ⟨poolList es last⟩
def fileOf (pool : Array CpInfo) (this : Nat) (attrs : Array Attribute := #[]) (ms : Array MethodInfo := #[]) (fl : Nat := 33) (sup : Nat := 0) (ifs : Array Nat := #[]) (fds : Array FieldInfo := #[]) : ClassFile where
  minorVersion := 0
  majorVersion := 65
  constantPool := pool
  accessFlags := fl
  thisClass := this
  superClass := sup
  interfaces := ifs
  fields := fds
  methods := ms
  attributes := attrs
def plain (name : String) (sup : Option ClassId) : Class where
  name := name
  kind := .ordinary
  loader := none
  accessFlags := 33
  super := sup
  interfaces := #[]
  cf := none
  fields := #[]
  methods := #[]
  instanceTypes := #[]
  staticTypes := #[]
  resolved := #[]
  callSites := []
  init := .initialized
  statics := none
  mirror := none

def pool0 : Array CpInfo := pool [(5, u "<init>"), (0, u "()V"), (1, .class_ 10), (1, u "java/lang/Object")] 113

def k0c0 : Code := { maxStack := 0, maxLocals := 1, code := object_method_1_code, exceptionTable := #[], attributes := #[] }
def k0m0 : Method := { name := "<init>", desc := "()V", sig := { parameters := [], returnType := none }, accessFlags := 1, code := some k0c0 }
/-- java/lang/Object -/
def k0 : Class := { plain "java/lang/Object" none with
  accessFlags := 33
  interfaces := #[]
  cf := some (fileOf pool0 8 #[] #[{ accessFlags := 1, nameIndex := 5, descriptorIndex := 6, attributes := #[] }] 33 0 #[] #[])
  fields := #[]
  methods := #[k0m0]
  instanceTypes := #[]
  staticTypes := #[]
  resolved := Array.replicate 124 none
  statics := none }

def pool1 : Array CpInfo := pool [(2, .class_ 4), (1, u "java/lang/Object"), (0, u "<init>"), (0, u "()V"), (0, .methodref 8 9), (0, .class_ 10), (0, .nameAndType 11 12), (0, u "com/example/test_rollback/testrollback/CounterColumnPinLaw"), (0, u "part"), (0, u "([CII)Ljava/lang/String;"), (0, .class_ 14), (0, u "java/lang/String"), (0, .methodref 13 16), (0, .nameAndType 5 17), (0, u "([C)V"), (0, .class_ 19), (0, u "com/example/test_rollback/testrollback/Dialect$Counter"), (0, .string 21), (0, u ""), (0, .methodref 18 23), (0, .nameAndType 5 24), (0, u "(Ljava/lang/String;Ljava/lang/String;Ljava/lang/String;Ljava/lang/String;)V"), (0, .methodref 18 26), (0, .nameAndType 27 28), (0, u "column"), (0, u "()Ljava/lang/String;"), (0, .methodref 13 30), (0, .nameAndType 31 32), (0, u "equals"), (0, u "(Ljava/lang/Object;)Z"), (2, u "law"), (0, u "(II)Z")] 7

def k1m0 : Method := { name := "<init>", desc := "()V", sig := { parameters := [], returnType := none }, accessFlags := 1, code := none }
def k1c1 : Code := { maxStack := 6, maxLocals := 9, code := code, exceptionTable := #[], attributes := #[] }
def k1m1 : Method := { name := "law", desc := "(II)Z", sig := { parameters := [.int, .int], returnType := some .boolean }, accessFlags := 9, code := some k1c1 }
def k1c2 : Code := { maxStack := 8, maxLocals := 3, code := method_3_code, exceptionTable := #[], attributes := #[] }
def k1m2 : Method := { name := "part", desc := "([CII)Ljava/lang/String;", sig := { parameters := [(.array .char), .int, .int], returnType := some (.object "java/lang/String") }, accessFlags := 10, code := some k1c2 }
/-- com/example/test_rollback/testrollback/CounterColumnPinLaw -/
def k1 : Class := { plain "com/example/test_rollback/testrollback/CounterColumnPinLaw" (some 0) with
  accessFlags := 49
  interfaces := #[]
  cf := some (fileOf pool1 8 #[] #[{ accessFlags := 1, nameIndex := 5, descriptorIndex := 6, attributes := #[] }, { accessFlags := 9, nameIndex := 35, descriptorIndex := 36, attributes := #[] }, { accessFlags := 10, nameIndex := 11, descriptorIndex := 12, attributes := #[] }] 49 2 #[] #[])
  fields := #[]
  methods := #[k1m0, k1m1, k1m2]
  instanceTypes := #[]
  staticTypes := #[]
  resolved := Array.replicate 44 none
  statics := none }

def pool2 : Array CpInfo := pool [(1, .class_ 2), (0, u "java/io/Serializable"), (0, .class_ 4), (0, u "java/lang/Object")] 2

/-- java/io/Serializable -/
def k2 : Class := { plain "java/io/Serializable" (some 0) with
  accessFlags := 1537
  interfaces := #[]
  cf := some (fileOf pool2 1 #[] #[] 1537 3 #[] #[])
  fields := #[]
  methods := #[]
  instanceTypes := #[]
  staticTypes := #[]
  resolved := Array.replicate 7 none
  statics := none }

def pool3 : Array CpInfo := pool [(1, .class_ 2), (0, u "java/lang/Comparable"), (0, .class_ 4), (0, u "java/lang/Object")] 7

/-- java/lang/Comparable -/
def k3 : Class := { plain "java/lang/Comparable" (some 0) with
  accessFlags := 1537
  interfaces := #[]
  cf := some (fileOf pool3 1 #[] #[] 1537 3 #[] #[])
  fields := #[]
  methods := #[]
  instanceTypes := #[]
  staticTypes := #[]
  resolved := Array.replicate 12 none
  statics := none }

def pool4 : Array CpInfo := pool [(2, .class_ 4), (1, u "java/lang/CharSequence"), (42, .class_ 48), (0, u "java/lang/CharSequence$1CodePointIterator"), (10, .class_ 60), (0, u "java/lang/CharSequence$1CharIterator"), (5, .class_ 67), (0, u "java/lang/Object")] 63

/-- java/lang/CharSequence -/
def k4 : Class := { plain "java/lang/CharSequence" (some 0) with
  accessFlags := 1537
  interfaces := #[]
  cf := some (fileOf pool4 2 #[.nestMembers #[47, 59]] #[] 1537 66 #[] #[])
  fields := #[]
  methods := #[]
  instanceTypes := #[]
  staticTypes := #[]
  resolved := Array.replicate 131 none
  statics := none }

def pool5 : Array CpInfo := pool [(1, .class_ 2), (0, u "java/lang/constant/Constable"), (0, .class_ 4), (0, u "java/lang/Object")] 6

/-- java/lang/constant/Constable -/
def k5 : Class := { plain "java/lang/constant/Constable" (some 0) with
  accessFlags := 1537
  interfaces := #[]
  cf := some (fileOf pool5 1 #[] #[] 1537 3 #[] #[])
  fields := #[]
  methods := #[]
  instanceTypes := #[]
  staticTypes := #[]
  resolved := Array.replicate 11 none
  statics := none }

def pool6 : Array CpInfo := pool [(1, .class_ 2), (0, u "java/lang/constant/ConstantDesc"), (0, .class_ 4), (0, u "java/lang/Object")] 32

/-- java/lang/constant/ConstantDesc -/
def k6 : Class := { plain "java/lang/constant/ConstantDesc" (some 0) with
  accessFlags := 1537
  interfaces := #[]
  cf := some (fileOf pool6 1 #[] #[] 1537 3 #[] #[])
  fields := #[]
  methods := #[]
  instanceTypes := #[]
  staticTypes := #[]
  resolved := Array.replicate 37 none
  statics := none }

def pool7 : Array CpInfo := pool [(1, .methodref 2 3), (0, .class_ 4), (0, .nameAndType 5 6), (0, u "java/lang/Object"), (0, u "<init>"), (0, u "()V"), (0, .string 8), (0, u ""), (0, .fieldref 10 11), (0, .class_ 12), (0, .nameAndType 13 14), (0, u "java/lang/String"), (0, u "value"), (0, u "[B"), (0, .fieldref 10 16), (0, .nameAndType 17 18), (0, u "coder"), (0, u "B"), (2, u "hash"), (0, u "I"), (2, u "hashIsZero"), (0, u "Z"), (0, .methodref 10 28), (0, .nameAndType 5 29), (0, u "([CIILjava/lang/Void;)V"), (8, .fieldref 10 39), (0, .nameAndType 40 26), (0, u "COMPACT_STRINGS"), (1, .class_ 44), (1, u "java/lang/StringUTF16"), (0, u "compress"), (1, .methodref 42 48), (0, .nameAndType 49 50), (0, u "coderFromArrayLen"), (0, u "([BI)B"), (56, .class_ 109), (1, u "java/lang/StringLatin1"), (32, u "()Z"), (34, .methodref 42 178), (0, .nameAndType 45 179), (0, u "([CII)[B"), (31, u "([BB)V"), (122, u "()I"), (0, .methodref 10 336), (0, .nameAndType 17 337), (0, u "()B"), (154, .methodref 10 493), (0, .nameAndType 494 142), (0, u "isLatin1"), (10, .methodref 10 506), (0, .nameAndType 507 334), (0, u "length"), (5, u "checkFromToIndex"), (7, .methodref 10 522), (0, .nameAndType 523 524), (0, u "checkBoundsBeginEnd"), (0, u "(III)V"), (16, .methodref 107 542), (0, .nameAndType 543 544), (0, u "equals"), (0, u "([B[B)Z"), (28, u "(Ljava/lang/Object;)Z"), (1, .class_ 576), (0, u "java/lang/CharSequence"), (22, u "CASE_INSENSITIVE_ORDER"), (0, u "Ljava/util/Comparator;"), (80, .methodref 10 682), (0, .nameAndType 683 684), (0, u "substring"), (0, u "(II)Ljava/lang/String;"), (0, .methodref 107 686), (0, .nameAndType 687 688), (0, u "newString"), (0, u "([BII)Ljava/lang/String;"), (203, u "(I)Ljava/lang/String;"), (117, u "([C)V"), (42, .fieldref 1054 1055), (0, .class_ 1056), (0, .nameAndType 1057 1058), (0, u "jdk/internal/util/Preconditions"), (0, u "SIOOBE_FORMATTER"), (0, u "Ljava/util/function/BiFunction;"), (3, .methodref 1054 1063), (0, .nameAndType 513 1064), (0, u "(IIILjava/util/function/BiFunction;)I"), (36, u "serialPersistentFields"), (0, u "[Ljava/io/ObjectStreamField;"), (0, .class_ 1104), (0, u "java/lang/String$CaseInsensitiveComparator"), (1, .class_ 1107), (0, u "java/io/Serializable"), (0, .class_ 1109), (0, u "java/lang/Comparable"), (0, .class_ 1111), (0, u "java/lang/constant/Constable"), (0, .class_ 1113), (0, u "java/lang/constant/ConstantDesc"), (2, u "serialVersionUID"), (0, u "J"), (3, u "REPL"), (0, u "C"), (2, u "LATIN1"), (1, u "UTF16")] 323

def k7m0 : Method := { name := "<init>", desc := "()V", sig := { parameters := [], returnType := none }, accessFlags := 1, code := none }
def k7c1 : Code := { maxStack := 5, maxLocals := 2, code := jdk_42_method_3_code, exceptionTable := #[], attributes := #[] }
def k7m1 : Method := { name := "<init>", desc := "([C)V", sig := { parameters := [(.array .char)], returnType := none }, accessFlags := 1, code := some k7c1 }
def k7c2 : Code := { maxStack := 2, maxLocals := 1, code := jdk_42_method_54_code, exceptionTable := #[], attributes := #[] }
def k7m2 : Method := { name := "length", desc := "()I", sig := { parameters := [], returnType := some .int }, accessFlags := 1, code := some k7c2 }
def k7c3 : Code := { maxStack := 2, maxLocals := 3, code := jdk_42_method_66_code, exceptionTable := #[], attributes := #[] }
def k7m3 : Method := { name := "equals", desc := "(Ljava/lang/Object;)Z", sig := { parameters := [(.object "java/lang/Object")], returnType := some .boolean }, accessFlags := 1, code := some k7c3 }
def k7c4 : Code := { maxStack := 3, maxLocals := 2, code := jdk_42_method_91_code, exceptionTable := #[], attributes := #[] }
def k7m4 : Method := { name := "substring", desc := "(I)Ljava/lang/String;", sig := { parameters := [.int], returnType := some (.object "java/lang/String") }, accessFlags := 1, code := some k7c4 }
def k7c5 : Code := { maxStack := 3, maxLocals := 5, code := jdk_42_method_92_code, exceptionTable := #[], attributes := #[] }
def k7m5 : Method := { name := "substring", desc := "(II)Ljava/lang/String;", sig := { parameters := [.int, .int], returnType := some (.object "java/lang/String") }, accessFlags := 1, code := some k7c5 }
def k7c6 : Code := { maxStack := 4, maxLocals := 6, code := jdk_42_method_149_code, exceptionTable := #[], attributes := #[] }
def k7m6 : Method := { name := "<init>", desc := "([CIILjava/lang/Void;)V", sig := { parameters := [(.array .char), .int, .int, (.object "java/lang/Void")], returnType := none }, accessFlags := 2, code := some k7c6 }
def k7c7 : Code := { maxStack := 2, maxLocals := 3, code := jdk_42_method_151_code, exceptionTable := #[], attributes := #[] }
def k7m7 : Method := { name := "<init>", desc := "([BB)V", sig := { parameters := [(.array .byte), .byte], returnType := none }, accessFlags := 0, code := some k7c7 }
def k7c8 : Code := { maxStack := 1, maxLocals := 1, code := jdk_42_method_152_code, exceptionTable := #[], attributes := #[] }
def k7m8 : Method := { name := "coder", desc := "()B", sig := { parameters := [], returnType := some .byte }, accessFlags := 0, code := some k7c8 }
def k7c9 : Code := { maxStack := 1, maxLocals := 1, code := jdk_42_method_154_code, exceptionTable := #[], attributes := #[] }
def k7m9 : Method := { name := "isLatin1", desc := "()Z", sig := { parameters := [], returnType := some .boolean }, accessFlags := 0, code := some k7c9 }
def k7c10 : Code := { maxStack := 4, maxLocals := 3, code := jdk_42_method_158_code, exceptionTable := #[], attributes := #[] }
def k7m10 : Method := { name := "checkBoundsBeginEnd", desc := "(III)V", sig := { parameters := [.int, .int, .int], returnType := none }, accessFlags := 8, code := some k7c10 }
/-- java/lang/String -/
def k7 : Class := { plain "java/lang/String" (some 0) with
  accessFlags := 49
  interfaces := #[2, 3, 4, 5, 6]
  cf := some (fileOf pool7 10 #[.nestMembers #[1103]] #[{ accessFlags := 1, nameIndex := 5, descriptorIndex := 6, attributes := #[] }, { accessFlags := 1, nameIndex := 5, descriptorIndex := 1010, attributes := #[] }, { accessFlags := 1, nameIndex := 507, descriptorIndex := 334, attributes := #[] }, { accessFlags := 1, nameIndex := 543, descriptorIndex := 573, attributes := #[] }, { accessFlags := 1, nameIndex := 683, descriptorIndex := 892, attributes := #[] }, { accessFlags := 1, nameIndex := 683, descriptorIndex := 684, attributes := #[] }, { accessFlags := 2, nameIndex := 5, descriptorIndex := 29, attributes := #[] }, { accessFlags := 0, nameIndex := 5, descriptorIndex := 211, attributes := #[] }, { accessFlags := 0, nameIndex := 17, descriptorIndex := 337, attributes := #[] }, { accessFlags := 0, nameIndex := 494, descriptorIndex := 142, attributes := #[] }, { accessFlags := 8, nameIndex := 523, descriptorIndex := 524, attributes := #[] }] 49 2 #[1106, 1108, 575, 1110, 1112] #[{ accessFlags := 18, nameIndex := 13, descriptorIndex := 14, attributes := #[] }, { accessFlags := 18, nameIndex := 17, descriptorIndex := 18, attributes := #[] }, { accessFlags := 2, nameIndex := 21, descriptorIndex := 22, attributes := #[] }, { accessFlags := 2, nameIndex := 25, descriptorIndex := 26, attributes := #[] }, { accessFlags := 26, nameIndex := 1116, descriptorIndex := 1117, attributes := #[] }, { accessFlags := 24, nameIndex := 40, descriptorIndex := 26, attributes := #[] }, { accessFlags := 26, nameIndex := 1101, descriptorIndex := 1102, attributes := #[] }, { accessFlags := 26, nameIndex := 1121, descriptorIndex := 1122, attributes := #[] }, { accessFlags := 25, nameIndex := 599, descriptorIndex := 600, attributes := #[] }, { accessFlags := 24, nameIndex := 1125, descriptorIndex := 18, attributes := #[] }, { accessFlags := 24, nameIndex := 1127, descriptorIndex := 18, attributes := #[] }])
  fields := #[{ name := "value", type := (.array .byte), accessFlags := 18, slot := 0, constantValue := 0 }, { name := "coder", type := .byte, accessFlags := 18, slot := 1, constantValue := 0 }, { name := "hash", type := .int, accessFlags := 2, slot := 2, constantValue := 0 }, { name := "hashIsZero", type := .boolean, accessFlags := 2, slot := 3, constantValue := 0 }, { name := "serialVersionUID", type := .long, accessFlags := 26, slot := 0, constantValue := 0 }, { name := "COMPACT_STRINGS", type := .boolean, accessFlags := 24, slot := 1, constantValue := 0 }, { name := "serialPersistentFields", type := (.array (.object "java/io/ObjectStreamField")), accessFlags := 26, slot := 2, constantValue := 0 }, { name := "REPL", type := .char, accessFlags := 26, slot := 3, constantValue := 0 }, { name := "CASE_INSENSITIVE_ORDER", type := (.object "java/util/Comparator"), accessFlags := 25, slot := 4, constantValue := 0 }, { name := "LATIN1", type := .byte, accessFlags := 24, slot := 5, constantValue := 0 }, { name := "UTF16", type := .byte, accessFlags := 24, slot := 6, constantValue := 0 }]
  methods := #[k7m0, k7m1, k7m2, k7m3, k7m4, k7m5, k7m6, k7m7, k7m8, k7m9, k7m10]
  instanceTypes := #[(.array .byte), .byte, .int, .boolean]
  staticTypes := #[.long, .boolean, (.array (.object "java/io/ObjectStreamField")), .char, (.object "java/util/Comparator"), .byte, .byte]
  resolved := Array.replicate 1451 none
  statics := some 0 }

def pool8 : Array CpInfo := pool [(6, .class_ 8), (1, u "java/lang/Object"), (0, u "<init>"), (0, u "()V"), (1, .class_ 14), (1, u "java/lang/StringUTF16"), (31, u "$assertionsDisabled"), (0, u "Z"), (13, u "HI_BYTE_SHIFT"), (0, u "I"), (2, u "LO_BYTE_SHIFT"), (49, .methodref 12 116), (0, .nameAndType 117 118), (0, u "compress"), (0, u "([CI[BII)I"), (3, u "([CII)[B"), (138, u "coderFromArrayLen"), (0, u "([BI)B"), (106, .class_ 371), (1, u "java/lang/StringUTF16$LinesSpliterator"), (58, u "MAX_LENGTH"), (196, .class_ 628), (0, u "java/lang/StringUTF16$CodePointsSpliterator"), (0, .class_ 630), (0, u "java/lang/StringUTF16$CharsSpliterator")] 4

def k8m0 : Method := { name := "<init>", desc := "()V", sig := { parameters := [], returnType := none }, accessFlags := 0, code := none }
def k8c1 : Code := { maxStack := 2, maxLocals := 2, code := jdk_52_method_15_code, exceptionTable := #[], attributes := #[] }
def k8m1 : Method := { name := "coderFromArrayLen", desc := "([BI)B", sig := { parameters := [(.array .byte), .int], returnType := some .byte }, accessFlags := 8, code := some k8c1 }
def k8c2 : Code := { maxStack := 5, maxLocals := 6, code := jdk_52_method_16_code, exceptionTable := #[], attributes := #[] }
def k8m2 : Method := { name := "compress", desc := "([CII)[B", sig := { parameters := [(.array .char), .int, .int], returnType := some (.array .byte) }, accessFlags := 9, code := some k8c2 }
def k8c3 : Code := { maxStack := 3, maxLocals := 7, code := jdk_52_method_21_code, exceptionTable := #[], attributes := #[] }
def k8m3 : Method := { name := "compress", desc := "([CI[BII)I", sig := { parameters := [(.array .char), .int, (.array .byte), .int, .int], returnType := some .int }, accessFlags := 9, code := some k8c3 }
/-- java/lang/StringUTF16 -/
def k8 : Class := { plain "java/lang/StringUTF16" (some 0) with
  accessFlags := 48
  interfaces := #[]
  cf := some (fileOf pool8 12 #[.nestMembers #[627, 629, 369]] #[{ accessFlags := 0, nameIndex := 9, descriptorIndex := 10, attributes := #[] }, { accessFlags := 8, nameIndex := 261, descriptorIndex := 262, attributes := #[] }, { accessFlags := 9, nameIndex := 117, descriptorIndex := 122, attributes := #[] }, { accessFlags := 9, nameIndex := 117, descriptorIndex := 118, attributes := #[] }] 48 6 #[] #[{ accessFlags := 26, nameIndex := 61, descriptorIndex := 62, attributes := #[] }, { accessFlags := 26, nameIndex := 65, descriptorIndex := 62, attributes := #[] }, { accessFlags := 24, nameIndex := 430, descriptorIndex := 62, attributes := #[] }, { accessFlags := 4120, nameIndex := 46, descriptorIndex := 47, attributes := #[] }])
  fields := #[{ name := "HI_BYTE_SHIFT", type := .int, accessFlags := 26, slot := 0, constantValue := 0 }, { name := "LO_BYTE_SHIFT", type := .int, accessFlags := 26, slot := 1, constantValue := 0 }, { name := "MAX_LENGTH", type := .int, accessFlags := 24, slot := 2, constantValue := 0 }, { name := "$assertionsDisabled", type := .boolean, accessFlags := 4120, slot := 3, constantValue := 0 }]
  methods := #[k8m0, k8m1, k8m2, k8m3]
  instanceTypes := #[]
  staticTypes := #[.int, .int, .int, .boolean]
  resolved := Array.replicate 635 none
  statics := none }

def pool9 : Array CpInfo := pool [(1, .methodref 2 3), (0, .class_ 4), (0, .nameAndType 5 6), (0, u "java/lang/Object"), (0, u "<init>"), (0, u "()V"), (0, .class_ 8), (0, u "java/lang/Record")] 13

def k9c0 : Code := { maxStack := 1, maxLocals := 1, code := jdk_30_method_1_code, exceptionTable := #[], attributes := #[] }
def k9m0 : Method := { name := "<init>", desc := "()V", sig := { parameters := [], returnType := none }, accessFlags := 4, code := some k9c0 }
/-- java/lang/Record -/
def k9 : Class := { plain "java/lang/Record" (some 0) with
  accessFlags := 1057
  interfaces := #[]
  cf := some (fileOf pool9 7 #[] #[{ accessFlags := 4, nameIndex := 5, descriptorIndex := 6, attributes := #[] }] 1057 2 #[] #[])
  fields := #[]
  methods := #[k9m0]
  instanceTypes := #[]
  staticTypes := #[]
  resolved := Array.replicate 22 none
  statics := none }

def pool10 : Array CpInfo := pool [(1, .methodref 2 3), (0, .class_ 4), (0, .nameAndType 5 6), (0, u "java/lang/Record"), (0, u "<init>"), (0, u "()V"), (0, .fieldref 8 9), (0, .class_ 10), (0, .nameAndType 11 12), (0, u "com/example/test_rollback/testrollback/Dialect$Counter"), (0, u "table"), (0, u "Ljava/lang/String;"), (0, .fieldref 8 14), (0, .nameAndType 15 12), (0, u "name"), (0, .fieldref 8 17), (0, .nameAndType 18 12), (0, u "next"), (0, .fieldref 8 20), (0, .nameAndType 21 12), (0, u "restart"), (5, u "(Ljava/lang/String;Ljava/lang/String;Ljava/lang/String;Ljava/lang/String;)V"), (8, .methodref 37 38), (0, .class_ 39), (0, .nameAndType 40 41), (0, u "java/lang/String"), (0, u "length"), (0, u "()I"), (0, .methodref 37 43), (0, .nameAndType 44 45), (0, u "substring"), (0, u "(I)Ljava/lang/String;"), (15, u "()Ljava/lang/String;"), (20, u "SEQUENCE"), (10, u "column"), (10, .class_ 105), (0, u "com/example/test_rollback/testrollback/Dialect")] 46

def k10c0 : Code := { maxStack := 2, maxLocals := 5, code := prog_10_method_1_code, exceptionTable := #[], attributes := #[] }
def k10m0 : Method := { name := "<init>", desc := "(Ljava/lang/String;Ljava/lang/String;Ljava/lang/String;Ljava/lang/String;)V", sig := { parameters := [(.object "java/lang/String"), (.object "java/lang/String"), (.object "java/lang/String"), (.object "java/lang/String")], returnType := none }, accessFlags := 1, code := some k10c0 }
def k10c1 : Code := { maxStack := 3, maxLocals := 1, code := prog_10_method_6_code, exceptionTable := #[], attributes := #[] }
def k10m1 : Method := { name := "column", desc := "()Ljava/lang/String;", sig := { parameters := [], returnType := some (.object "java/lang/String") }, accessFlags := 0, code := some k10c1 }
/-- com/example/test_rollback/testrollback/Dialect$Counter -/
def k10 : Class := { plain "com/example/test_rollback/testrollback/Dialect$Counter" (some 9) with
  accessFlags := 49
  interfaces := #[]
  cf := some (fileOf pool10 8 #[.nestHost 104] #[{ accessFlags := 1, nameIndex := 5, descriptorIndex := 27, attributes := #[] }, { accessFlags := 0, nameIndex := 93, descriptorIndex := 61, attributes := #[] }] 49 2 #[] #[{ accessFlags := 18, nameIndex := 11, descriptorIndex := 12, attributes := #[] }, { accessFlags := 18, nameIndex := 15, descriptorIndex := 12, attributes := #[] }, { accessFlags := 18, nameIndex := 18, descriptorIndex := 12, attributes := #[] }, { accessFlags := 18, nameIndex := 21, descriptorIndex := 12, attributes := #[] }, { accessFlags := 26, nameIndex := 82, descriptorIndex := 12, attributes := #[] }])
  fields := #[{ name := "table", type := (.object "java/lang/String"), accessFlags := 18, slot := 0, constantValue := 0 }, { name := "name", type := (.object "java/lang/String"), accessFlags := 18, slot := 1, constantValue := 0 }, { name := "next", type := (.object "java/lang/String"), accessFlags := 18, slot := 2, constantValue := 0 }, { name := "restart", type := (.object "java/lang/String"), accessFlags := 18, slot := 3, constantValue := 0 }, { name := "SEQUENCE", type := (.object "java/lang/String"), accessFlags := 26, slot := 0, constantValue := 0 }]
  methods := #[k10m0, k10m1]
  instanceTypes := #[(.object "java/lang/String"), (.object "java/lang/String"), (.object "java/lang/String"), (.object "java/lang/String")]
  staticTypes := #[(.object "java/lang/String")]
  resolved := Array.replicate 152 none
  statics := none }

def pool11 : Array CpInfo := pool [(2, .class_ 4), (1, u "java/lang/Object"), (0, u "<init>"), (0, u "()V"), (17, .class_ 26), (1, u "jdk/internal/util/Preconditions"), (20, u "checkFromToIndex"), (7, .class_ 56), (0, u "jdk/internal/util/Preconditions$4"), (57, .class_ 115), (0, u "jdk/internal/util/Preconditions$1"), (7, u "SIOOBE_FORMATTER"), (0, u "Ljava/util/function/BiFunction;"), (0, .class_ 126), (0, u "jdk/internal/util/Preconditions$2"), (3, u "AIOOBE_FORMATTER"), (0, .class_ 132), (0, u "jdk/internal/util/Preconditions$3"), (3, u "IOOBE_FORMATTER"), (46, u "(IIILjava/util/function/BiFunction;)I")] 10

def k11m0 : Method := { name := "<init>", desc := "()V", sig := { parameters := [], returnType := none }, accessFlags := 1, code := none }
def k11c1 : Code := { maxStack := 4, maxLocals := 4, code := jdk_41_method_12_code, exceptionTable := #[], attributes := #[] }
def k11m1 : Method := { name := "checkFromToIndex", desc := "(IIILjava/util/function/BiFunction;)I", sig := { parameters := [.int, .int, .int, (.object "java/util/function/BiFunction")], returnType := some .int }, accessFlags := 9, code := some k11c1 }
/-- jdk/internal/util/Preconditions -/
def k11 : Class := { plain "jdk/internal/util/Preconditions" (some 0) with
  accessFlags := 33
  interfaces := #[]
  cf := some (fileOf pool11 24 #[.nestMembers #[55, 131, 125, 114]] #[{ accessFlags := 1, nameIndex := 5, descriptorIndex := 6, attributes := #[] }, { accessFlags := 9, nameIndex := 47, descriptorIndex := 183, attributes := #[] }] 33 2 #[] #[{ accessFlags := 25, nameIndex := 123, descriptorIndex := 124, attributes := #[] }, { accessFlags := 25, nameIndex := 130, descriptorIndex := 124, attributes := #[] }, { accessFlags := 25, nameIndex := 136, descriptorIndex := 124, attributes := #[] }])
  fields := #[{ name := "SIOOBE_FORMATTER", type := (.object "java/util/function/BiFunction"), accessFlags := 25, slot := 0, constantValue := 0 }, { name := "AIOOBE_FORMATTER", type := (.object "java/util/function/BiFunction"), accessFlags := 25, slot := 1, constantValue := 0 }, { name := "IOOBE_FORMATTER", type := (.object "java/util/function/BiFunction"), accessFlags := 25, slot := 2, constantValue := 0 }]
  methods := #[k11m0, k11m1]
  instanceTypes := #[]
  staticTypes := #[(.object "java/util/function/BiFunction"), (.object "java/util/function/BiFunction"), (.object "java/util/function/BiFunction")]
  resolved := Array.replicate 194 none
  statics := some 1 }

def pool12 : Array CpInfo := pool [(1, .class_ 2), (0, u "java/lang/String"), (1, .class_ 6), (1, u "java/lang/Object"), (0, u "<init>"), (0, u "()V"), (5, .class_ 16), (1, u "java/lang/StringLatin1"), (95, .methodref 1 113), (0, .nameAndType 7 114), (0, u "([BB)V"), (6, u "$assertionsDisabled"), (0, u "Z"), (8, .class_ 133), (1, u "java/util/Arrays"), (17, .string 152), (0, u ""), (43, u "newString"), (0, u "([BII)Ljava/lang/String;"), (23, .class_ 223), (1, u "java/lang/StringLatin1$LinesSpliterator"), (8, .methodref 131 233), (0, .nameAndType 234 235), (0, u "copyOfRange"), (0, u "([BII)[B"), (45, u "equals"), (0, u "([B[B)Z"), (107, .class_ 391), (0, u "java/lang/StringLatin1$CharsSpliterator")] 3

def k12m0 : Method := { name := "<init>", desc := "()V", sig := { parameters := [], returnType := none }, accessFlags := 0, code := none }
def k12c1 : Code := { maxStack := 3, maxLocals := 3, code := jdk_43_method_13_code, exceptionTable := #[], attributes := #[] }
def k12m1 : Method := { name := "equals", desc := "([B[B)Z", sig := { parameters := [(.array .byte), (.array .byte)], returnType := some .boolean }, accessFlags := 9, code := some k12c1 }
def k12c2 : Code := { maxStack := 6, maxLocals := 3, code := jdk_43_method_47_code, exceptionTable := #[], attributes := #[] }
def k12m2 : Method := { name := "newString", desc := "([BII)Ljava/lang/String;", sig := { parameters := [(.array .byte), .int, .int], returnType := some (.object "java/lang/String") }, accessFlags := 9, code := some k12c2 }
/-- java/lang/StringLatin1 -/
def k12 : Class := { plain "java/lang/StringLatin1" (some 0) with
  accessFlags := 48
  interfaces := #[]
  cf := some (fileOf pool12 14 #[.nestMembers #[390, 221]] #[{ accessFlags := 0, nameIndex := 7, descriptorIndex := 8, attributes := #[] }, { accessFlags := 9, nameIndex := 281, descriptorIndex := 282, attributes := #[] }, { accessFlags := 9, nameIndex := 196, descriptorIndex := 197, attributes := #[] }] 48 4 #[] #[{ accessFlags := 4120, nameIndex := 121, descriptorIndex := 122, attributes := #[] }])
  fields := #[{ name := "$assertionsDisabled", type := .boolean, accessFlags := 4120, slot := 0, constantValue := 0 }]
  methods := #[k12m0, k12m1, k12m2]
  instanceTypes := #[]
  staticTypes := #[.boolean]
  resolved := Array.replicate 395 none
  statics := none }

def pool13 : Array CpInfo := pool [(2, .class_ 4), (1, u "java/lang/Object"), (0, u "<init>"), (0, u "()V"), (7, .class_ 16), (1, u "java/util/Arrays"), (57, .class_ 76), (1, u "java/util/Arrays$NaturalOrder"), (36, .class_ 115), (1, u "java/util/Arrays$LegacyMergeSort"), (1, u "Z"), (21, u "copyOfRange"), (10, .methodref 151 152), (0, .class_ 153), (0, .nameAndType 154 155), (0, u "java/lang/System"), (0, u "arraycopy"), (0, u "(Ljava/lang/Object;ILjava/lang/Object;II)V"), (148, .methodref 305 306), (0, .class_ 307), (0, .nameAndType 308 309), (0, u "java/lang/Math"), (0, u "min"), (0, u "(II)I"), (29, .methodref 14 340), (0, .nameAndType 341 342), (0, u "copyOfRangeByte"), (0, u "([BII)[B"), (0, .methodref 14 344), (0, .nameAndType 345 346), (0, u "checkLength"), (0, u "(II)V"), (28, .class_ 376), (0, u "java/util/Arrays$ArrayList"), (68, u "$assertionsDisabled"), (269, u "MIN_ARRAY_SORT_GRAN"), (0, u "I"), (2, u "INSERTIONSORT_THRESHOLD"), (255, .class_ 976), (0, u "java/util/Arrays$ArrayItr")] 52

def k13m0 : Method := { name := "<init>", desc := "()V", sig := { parameters := [], returnType := none }, accessFlags := 2, code := none }
def k13c1 : Code := { maxStack := 4, maxLocals := 2, code := jdk_65_method_131_code, exceptionTable := #[], attributes := #[] }
def k13m1 : Method := { name := "checkLength", desc := "(II)V", sig := { parameters := [.int, .int], returnType := none }, accessFlags := 10, code := some k13c1 }
def k13c2 : Code := { maxStack := 3, maxLocals := 3, code := jdk_65_method_132_code, exceptionTable := #[], attributes := #[] }
def k13m2 : Method := { name := "copyOfRange", desc := "([BII)[B", sig := { parameters := [(.array .byte), .int, .int], returnType := some (.array .byte) }, accessFlags := 9, code := some k13c2 }
def k13c3 : Code := { maxStack := 6, maxLocals := 5, code := jdk_65_method_133_code, exceptionTable := #[], attributes := #[] }
def k13m3 : Method := { name := "copyOfRangeByte", desc := "([BII)[B", sig := { parameters := [(.array .byte), .int, .int], returnType := some (.array .byte) }, accessFlags := 10, code := some k13c3 }
/-- java/util/Arrays -/
def k13 : Class := { plain "java/util/Arrays" (some 0) with
  accessFlags := 49
  interfaces := #[]
  cf := some (fileOf pool13 14 #[.nestMembers #[975, 375, 113, 74]] #[{ accessFlags := 2, nameIndex := 5, descriptorIndex := 6, attributes := #[] }, { accessFlags := 10, nameIndex := 345, descriptorIndex := 346, attributes := #[] }, { accessFlags := 9, nameIndex := 139, descriptorIndex := 342, attributes := #[] }, { accessFlags := 10, nameIndex := 341, descriptorIndex := 342, attributes := #[] }] 49 2 #[] #[{ accessFlags := 26, nameIndex := 715, descriptorIndex := 716, attributes := #[] }, { accessFlags := 26, nameIndex := 719, descriptorIndex := 716, attributes := #[] }, { accessFlags := 4120, nameIndex := 445, descriptorIndex := 117, attributes := #[] }])
  fields := #[{ name := "MIN_ARRAY_SORT_GRAN", type := .int, accessFlags := 26, slot := 0, constantValue := 0 }, { name := "INSERTIONSORT_THRESHOLD", type := .int, accessFlags := 26, slot := 1, constantValue := 0 }, { name := "$assertionsDisabled", type := .boolean, accessFlags := 4120, slot := 2, constantValue := 0 }]
  methods := #[k13m0, k13m1, k13m2, k13m3]
  instanceTypes := #[]
  staticTypes := #[.int, .int, .boolean]
  resolved := Array.replicate 1029 none
  statics := none }

def pool14 : Array CpInfo := pool [(1, .class_ 2), (0, u "java/lang/Math"), (1, .class_ 6), (1, u "java/lang/Object"), (0, u "<init>"), (0, u "()V"), (89, .class_ 100), (1, u "java/lang/Math$RandomNumberGeneratorHolder"), (71, u "negativeZeroFloatBits"), (0, u "J"), (2, u "negativeZeroDoubleBits"), (24, u "min"), (43, u "$assertionsDisabled"), (0, u "Z"), (88, u "(II)I"), (2, u "twoToTheDoubleScaleDown"), (0, u "D"), (4, u "twoToTheDoubleScaleUp"), (9, u "E"), (3, u "PI"), (2, u "TAU"), (2, u "DEGREES_TO_RADIANS"), (0, u "RADIANS_TO_DEGREES")] 94

def k14m0 : Method := { name := "<init>", desc := "()V", sig := { parameters := [], returnType := none }, accessFlags := 2, code := none }
def k14c1 : Code := { maxStack := 2, maxLocals := 2, code := jdk_29_method_69_code, exceptionTable := #[], attributes := #[] }
def k14m1 : Method := { name := "min", desc := "(II)I", sig := { parameters := [.int, .int], returnType := some .int }, accessFlags := 9, code := some k14c1 }
/-- java/lang/Math -/
def k14 : Class := { plain "java/lang/Math" (some 0) with
  accessFlags := 49
  interfaces := #[]
  cf := some (fileOf pool14 1 #[.nestMembers #[98]] #[{ accessFlags := 2, nameIndex := 7, descriptorIndex := 8, attributes := #[] }, { accessFlags := 9, nameIndex := 201, descriptorIndex := 335, attributes := #[] }] 49 4 #[] #[{ accessFlags := 25, nameIndex := 354, descriptorIndex := 339, attributes := #[] }, { accessFlags := 25, nameIndex := 358, descriptorIndex := 339, attributes := #[] }, { accessFlags := 25, nameIndex := 361, descriptorIndex := 339, attributes := #[] }, { accessFlags := 26, nameIndex := 364, descriptorIndex := 339, attributes := #[] }, { accessFlags := 26, nameIndex := 365, descriptorIndex := 339, attributes := #[] }, { accessFlags := 26, nameIndex := 172, descriptorIndex := 173, attributes := #[] }, { accessFlags := 26, nameIndex := 176, descriptorIndex := 173, attributes := #[] }, { accessFlags := 8, nameIndex := 344, descriptorIndex := 339, attributes := #[] }, { accessFlags := 8, nameIndex := 338, descriptorIndex := 339, attributes := #[] }, { accessFlags := 4120, nameIndex := 245, descriptorIndex := 246, attributes := #[] }])
  fields := #[{ name := "E", type := .double, accessFlags := 25, slot := 0, constantValue := 0 }, { name := "PI", type := .double, accessFlags := 25, slot := 1, constantValue := 0 }, { name := "TAU", type := .double, accessFlags := 25, slot := 2, constantValue := 0 }, { name := "DEGREES_TO_RADIANS", type := .double, accessFlags := 26, slot := 3, constantValue := 0 }, { name := "RADIANS_TO_DEGREES", type := .double, accessFlags := 26, slot := 4, constantValue := 0 }, { name := "negativeZeroFloatBits", type := .long, accessFlags := 26, slot := 5, constantValue := 0 }, { name := "negativeZeroDoubleBits", type := .long, accessFlags := 26, slot := 6, constantValue := 0 }, { name := "twoToTheDoubleScaleUp", type := .double, accessFlags := 8, slot := 7, constantValue := 0 }, { name := "twoToTheDoubleScaleDown", type := .double, accessFlags := 8, slot := 8, constantValue := 0 }, { name := "$assertionsDisabled", type := .boolean, accessFlags := 4120, slot := 9, constantValue := 0 }]
  methods := #[k14m0, k14m1]
  instanceTypes := #[]
  staticTypes := #[.double, .double, .double, .double, .double, .long, .long, .double, .double, .boolean]
  resolved := Array.replicate 460 none
  statics := none }

def pool15 : Array CpInfo := pool [(2, .class_ 4), (1, u "java/lang/Object"), (0, u "<init>"), (0, u "()V"), (1, .class_ 10), (1, u "java/lang/System"), (0, u "allowSecurityManager"), (0, u "I"), (16, u "cons"), (0, u "Ljava/io/Console;"), (77, .class_ 110), (1, u "java/lang/System$CallersHolder"), (43, u "initialErrStream"), (0, u "Ljava/io/PrintStream;"), (19, u "security"), (0, u "Ljava/lang/SecurityManager;"), (31, .class_ 209), (0, u "java/lang/System$1"), (7, u "props"), (0, u "Ljava/util/Properties;"), (2, u "lineSeparator"), (0, u "Ljava/lang/String;"), (96, .class_ 321), (1, u "java/lang/System$LoggerFinder"), (5, .class_ 328), (0, u "java/lang/System$Logger"), (67, u "err"), (2, u "out"), (91, u "notSupportedJnuEncoding"), (15, u "in"), (17, u "initialIn"), (0, u "Ljava/io/InputStream;"), (35, u "bootLayer"), (0, u "Ljava/lang/ModuleLayer;"), (99, .class_ 664), (0, u "java/lang/System$2"), (9, u "NEVER"), (2, u "MAYBE"), (49, u "arraycopy"), (0, u "(Ljava/lang/Object;ILjava/lang/Object;II)V"), (72, .class_ 802), (0, u "java/lang/System$Logger$Level")] 31

def k15m0 : Method := { name := "<init>", desc := "()V", sig := { parameters := [], returnType := none }, accessFlags := 2, code := none }
def k15m1 : Method := { name := "arraycopy", desc := "(Ljava/lang/Object;ILjava/lang/Object;II)V", sig := { parameters := [(.object "java/lang/Object"), .int, (.object "java/lang/Object"), .int, .int], returnType := none }, accessFlags := 265, code := none }
/-- java/lang/System -/
def k15 : Class := { plain "java/lang/System" (some 0) with
  accessFlags := 49
  interfaces := #[]
  cf := some (fileOf pool15 8 #[.nestMembers #[319, 327, 801, 108, 663, 208]] #[{ accessFlags := 2, nameIndex := 5, descriptorIndex := 6, attributes := #[] }, { accessFlags := 265, nameIndex := 727, descriptorIndex := 728, attributes := #[] }] 49 2 #[] #[{ accessFlags := 25, nameIndex := 507, descriptorIndex := 526, attributes := #[] }, { accessFlags := 25, nameIndex := 399, descriptorIndex := 155, attributes := #[] }, { accessFlags := 25, nameIndex := 396, descriptorIndex := 155, attributes := #[] }, { accessFlags := 10, nameIndex := 525, descriptorIndex := 526, attributes := #[] }, { accessFlags := 26, nameIndex := 674, descriptorIndex := 12, attributes := #[] }, { accessFlags := 26, nameIndex := 677, descriptorIndex := 12, attributes := #[] }, { accessFlags := 10, nameIndex := 11, descriptorIndex := 12, attributes := #[] }, { accessFlags := 74, nameIndex := 175, descriptorIndex := 176, attributes := #[] }, { accessFlags := 10, nameIndex := 491, descriptorIndex := 222, attributes := #[] }, { accessFlags := 74, nameIndex := 29, descriptorIndex := 30, attributes := #[] }, { accessFlags := 74, nameIndex := 154, descriptorIndex := 155, attributes := #[] }, { accessFlags := 10, nameIndex := 217, descriptorIndex := 218, attributes := #[] }, { accessFlags := 10, nameIndex := 221, descriptorIndex := 222, attributes := #[] }, { accessFlags := 8, nameIndex := 562, descriptorIndex := 563, attributes := #[] }])
  fields := #[{ name := "in", type := (.object "java/io/InputStream"), accessFlags := 25, slot := 0, constantValue := 0 }, { name := "out", type := (.object "java/io/PrintStream"), accessFlags := 25, slot := 1, constantValue := 0 }, { name := "err", type := (.object "java/io/PrintStream"), accessFlags := 25, slot := 2, constantValue := 0 }, { name := "initialIn", type := (.object "java/io/InputStream"), accessFlags := 10, slot := 3, constantValue := 0 }, { name := "NEVER", type := .int, accessFlags := 26, slot := 4, constantValue := 0 }, { name := "MAYBE", type := .int, accessFlags := 26, slot := 5, constantValue := 0 }, { name := "allowSecurityManager", type := .int, accessFlags := 10, slot := 6, constantValue := 0 }, { name := "security", type := (.object "java/lang/SecurityManager"), accessFlags := 74, slot := 7, constantValue := 0 }, { name := "notSupportedJnuEncoding", type := (.object "java/lang/String"), accessFlags := 10, slot := 8, constantValue := 0 }, { name := "cons", type := (.object "java/io/Console"), accessFlags := 74, slot := 9, constantValue := 0 }, { name := "initialErrStream", type := (.object "java/io/PrintStream"), accessFlags := 74, slot := 10, constantValue := 0 }, { name := "props", type := (.object "java/util/Properties"), accessFlags := 10, slot := 11, constantValue := 0 }, { name := "lineSeparator", type := (.object "java/lang/String"), accessFlags := 10, slot := 12, constantValue := 0 }, { name := "bootLayer", type := (.object "java/lang/ModuleLayer"), accessFlags := 8, slot := 13, constantValue := 0 }]
  methods := #[k15m0, k15m1]
  instanceTypes := #[]
  staticTypes := #[(.object "java/io/InputStream"), (.object "java/io/PrintStream"), (.object "java/io/PrintStream"), (.object "java/io/InputStream"), .int, .int, .int, (.object "java/lang/SecurityManager"), (.object "java/lang/String"), (.object "java/io/Console"), (.object "java/io/PrintStream"), (.object "java/util/Properties"), (.object "java/lang/String"), (.object "java/lang/ModuleLayer")]
  resolved := Array.replicate 834 none
  statics := none }

def pool16 : Array CpInfo := pool [(9, u "<init>"), (6, .class_ 18), (1, u "java/lang/Object"), (0, u "()V"), (1, .class_ 23), (1, u "jdk/internal/util/ArraysSupport"), (0, u "LOG2_ARRAY_LONG_INDEX_SCALE"), (0, u "I"), (2, u "U"), (0, u "Ljdk/internal/misc/Unsafe;"), (8, u "BIG_ENDIAN"), (0, u "Z"), (8, u "LOG2_BYTE_BIT_SIZE"), (4, u "LOG2_ARRAY_INT_INDEX_SCALE"), (54, u "JLA"), (0, u "Ljdk/internal/access/JavaLangAccess;"), (11, u "LOG2_ARRAY_BOOLEAN_INDEX_SCALE"), (9, u "LOG2_ARRAY_BYTE_INDEX_SCALE"), (5, u "LOG2_ARRAY_CHAR_INDEX_SCALE"), (5, u "LOG2_ARRAY_SHORT_INDEX_SCALE"), (18, u "LOG2_ARRAY_FLOAT_INDEX_SCALE"), (24, u "LOG2_ARRAY_DOUBLE_INDEX_SCALE"), (89, u "T_BOOLEAN"), (2, u "T_CHAR"), (1, u "T_FLOAT"), (1, u "T_DOUBLE"), (1, u "T_BYTE"), (1, u "T_SHORT"), (1, u "T_INT"), (1, u "T_LONG"), (1, u "SOFT_MAX_ARRAY_LENGTH")] 83

def k16m0 : Method := { name := "<init>", desc := "()V", sig := { parameters := [], returnType := none }, accessFlags := 2, code := none }
/-- jdk/internal/util/ArraysSupport -/
def k16 : Class := { plain "jdk/internal/util/ArraysSupport" (some 0) with
  accessFlags := 33
  interfaces := #[]
  cf := some (fileOf pool16 21 #[] #[{ accessFlags := 2, nameIndex := 9, descriptorIndex := 19, attributes := #[] }] 33 16 #[] #[{ accessFlags := 24, nameIndex := 28, descriptorIndex := 29, attributes := #[] }, { accessFlags := 26, nameIndex := 38, descriptorIndex := 39, attributes := #[] }, { accessFlags := 25, nameIndex := 121, descriptorIndex := 25, attributes := #[] }, { accessFlags := 25, nameIndex := 131, descriptorIndex := 25, attributes := #[] }, { accessFlags := 25, nameIndex := 137, descriptorIndex := 25, attributes := #[] }, { accessFlags := 25, nameIndex := 143, descriptorIndex := 25, attributes := #[] }, { accessFlags := 25, nameIndex := 53, descriptorIndex := 25, attributes := #[] }, { accessFlags := 25, nameIndex := 24, descriptorIndex := 25, attributes := #[] }, { accessFlags := 25, nameIndex := 162, descriptorIndex := 25, attributes := #[] }, { accessFlags := 25, nameIndex := 187, descriptorIndex := 25, attributes := #[] }, { accessFlags := 26, nameIndex := 48, descriptorIndex := 25, attributes := #[] }, { accessFlags := 25, nameIndex := 277, descriptorIndex := 25, attributes := #[] }, { accessFlags := 25, nameIndex := 280, descriptorIndex := 25, attributes := #[] }, { accessFlags := 25, nameIndex := 282, descriptorIndex := 25, attributes := #[] }, { accessFlags := 25, nameIndex := 284, descriptorIndex := 25, attributes := #[] }, { accessFlags := 25, nameIndex := 286, descriptorIndex := 25, attributes := #[] }, { accessFlags := 25, nameIndex := 288, descriptorIndex := 25, attributes := #[] }, { accessFlags := 25, nameIndex := 290, descriptorIndex := 25, attributes := #[] }, { accessFlags := 25, nameIndex := 292, descriptorIndex := 25, attributes := #[] }, { accessFlags := 26, nameIndex := 108, descriptorIndex := 109, attributes := #[] }, { accessFlags := 25, nameIndex := 294, descriptorIndex := 25, attributes := #[] }])
  fields := #[{ name := "U", type := (.object "jdk/internal/misc/Unsafe"), accessFlags := 24, slot := 0, constantValue := 0 }, { name := "BIG_ENDIAN", type := .boolean, accessFlags := 26, slot := 1, constantValue := 0 }, { name := "LOG2_ARRAY_BOOLEAN_INDEX_SCALE", type := .int, accessFlags := 25, slot := 2, constantValue := 0 }, { name := "LOG2_ARRAY_BYTE_INDEX_SCALE", type := .int, accessFlags := 25, slot := 3, constantValue := 0 }, { name := "LOG2_ARRAY_CHAR_INDEX_SCALE", type := .int, accessFlags := 25, slot := 4, constantValue := 0 }, { name := "LOG2_ARRAY_SHORT_INDEX_SCALE", type := .int, accessFlags := 25, slot := 5, constantValue := 0 }, { name := "LOG2_ARRAY_INT_INDEX_SCALE", type := .int, accessFlags := 25, slot := 6, constantValue := 0 }, { name := "LOG2_ARRAY_LONG_INDEX_SCALE", type := .int, accessFlags := 25, slot := 7, constantValue := 0 }, { name := "LOG2_ARRAY_FLOAT_INDEX_SCALE", type := .int, accessFlags := 25, slot := 8, constantValue := 0 }, { name := "LOG2_ARRAY_DOUBLE_INDEX_SCALE", type := .int, accessFlags := 25, slot := 9, constantValue := 0 }, { name := "LOG2_BYTE_BIT_SIZE", type := .int, accessFlags := 26, slot := 10, constantValue := 0 }, { name := "T_BOOLEAN", type := .int, accessFlags := 25, slot := 11, constantValue := 0 }, { name := "T_CHAR", type := .int, accessFlags := 25, slot := 12, constantValue := 0 }, { name := "T_FLOAT", type := .int, accessFlags := 25, slot := 13, constantValue := 0 }, { name := "T_DOUBLE", type := .int, accessFlags := 25, slot := 14, constantValue := 0 }, { name := "T_BYTE", type := .int, accessFlags := 25, slot := 15, constantValue := 0 }, { name := "T_SHORT", type := .int, accessFlags := 25, slot := 16, constantValue := 0 }, { name := "T_INT", type := .int, accessFlags := 25, slot := 17, constantValue := 0 }, { name := "T_LONG", type := .int, accessFlags := 25, slot := 18, constantValue := 0 }, { name := "JLA", type := (.object "jdk/internal/access/JavaLangAccess"), accessFlags := 26, slot := 19, constantValue := 0 }, { name := "SOFT_MAX_ARRAY_LENGTH", type := .int, accessFlags := 25, slot := 20, constantValue := 0 }]
  methods := #[k16m0]
  instanceTypes := #[]
  staticTypes := #[(.object "jdk/internal/misc/Unsafe"), .boolean, .int, .int, .int, .int, .int, .int, .int, .int, .int, .int, .int, .int, .int, .int, .int, .int, .int, (.object "jdk/internal/access/JavaLangAccess"), .int]
  resolved := Array.replicate 378 none
  statics := none }

def pool17 : Array CpInfo := pool [(1, u "java/lang/Cloneable"), (0, .class_ 1), (0, u "java/lang/Object"), (0, .class_ 3)] 3

/-- java/lang/Cloneable -/
def k17 : Class := { plain "java/lang/Cloneable" (some 0) with
  accessFlags := 1537
  interfaces := #[]
  cf := some (fileOf pool17 2 #[] #[] 1537 4 #[] #[])
  fields := #[]
  methods := #[]
  instanceTypes := #[]
  staticTypes := #[]
  resolved := Array.replicate 8 none
  statics := none }

/-- the primitive byte -/
def k18 : Class := { plain "byte" none with kind := .primitive 'B', accessFlags := 0x411 }
/-- [B -/
def k19 : Class := { plain "[B" (some 0) with kind := .array 18 .byte, interfaces := #[17, 2], accessFlags := 1041 }

/-- the primitive char -/
def k20 : Class := { plain "char" none with kind := .primitive 'C', accessFlags := 0x411 }
/-- [C -/
def k21 : Class := { plain "[C" (some 0) with kind := .array 20 .char, interfaces := #[17, 2], accessFlags := 1041 }

/-- the primitive int -/
def k22 : Class := { plain "int" none with kind := .primitive 'I', accessFlags := 0x411 }
/-- [I -/
def k23 : Class := { plain "[I" (some 0) with kind := .array 22 .int, interfaces := #[17, 2], accessFlags := 1041 }

def heap : Heap := #[{ cls := 7, slots := #[.long 0, .int 1, .null, .int 0, .null, .int 0, .int 0], vm := .statics 7 },
  { cls := 11, slots := #[.null, .null, .null], vm := .statics 11 }]
def classes : Array Class := #[k0, k1, k2, k3, k4, k5, k6, k7, k8, k9, k10, k11, k12, k13, k14, k15, k16, k17, k18, k19, k20, k21, k22, k23]
def interned : List (Array UInt16 × Addr) := []
def slotsUsed : Nat := 10
def theMethod : MethodId := ⟨1, 1⟩
def args0 : Array Value := #[.int 5, .int 3]
def aboutOver (below : List Frame) : State where
  vm := { classes := classes, interned := interned.toArray }
  heap := heap
  slotsUsed := slotsUsed
  threads := #[{ frames := .invoking theMethod args0 :: below }]
def below0 : List Frame := [.native { method := ⟨0, 0⟩, args := #[] }]
def about1 : State := aboutOver below0
def p0 : Program := .bare "" "" ""
def e0 : Env := launch0.env 0 0 0
theorem w_frames : about1.frames = Frame.invoking theMethod args0 :: below0 := rfl
set_option maxRecDepth 65536 in
theorem w_args : argsFit about1.vm theMethod args0 = true := by decide +kernel
set_option maxRecDepth 65536 in
theorem w_heap : heapFits about1 = true := by decide +kernel
set_option maxRecDepth 65536 in
theorem w_runnable : about1.curStatus? = some .runnable := by decide +kernel
set_option maxRecDepth 65536 in
theorem w_alone : about1.alone = true := by decide +kernel
set_option maxRecDepth 65536 in
theorem w_named : about1.methodNamed? x = some theMethod := by decide +kernel
set_option maxRecDepth 65536 in
theorem w_hears : about1.hears theMethod below0 = true := by decide +kernel
set_option maxRecDepth 65536 in
theorem w_ripe : about1.ripe theMethod args0 below0 = true := by decide +kernel
theorem w_running : about1.status = .running := rfl
set_option maxRecDepth 65536 in
theorem w_room : about1.hasRoom e0.platform room_1 = true :=
  launch0.hasRoom_least _ room_1 (by decide +kernel) (by decide +kernel) (by decide +kernel) (by decide +kernel) (by decide +kernel) (by decide +kernel)
theorem allAtoms_all (ts : List Jvm.Cond) (a : Array Jvm.Value) (st : Jvm.State) : (allAtoms ts).before a st = ts.all (fun c => c.before a st) := by
  induction ts with
  | nil => rfl
  | cons c t ih =>
    show (Jvm.Cond.and c (allAtoms t)).before a st = _
    rw [Jvm.Cond.before_and, ih, List.all_cons]
def words1 : List Jvm.Cond := Jvm.Cond.code x code maxLocals ret :: tables_1
/-- a 'code' word, met by the world's own term for the bytes: nothing is compared byte by byte -/
theorem code_word {y : MethodName} {bytes : ByteArray} {mx : Nat} {rt : Option FieldType} {a : Array Value} {s : State} {m : MethodId} {meth : Method} {c : Code} (h1 : s.methodNamed? y = some m) (h2 : s.vm.method? m = some meth) (h3 : meth.code = some c) (h4 : c.code = bytes)
    (h5 : (c.maxLocals == mx && c.exceptionTable.isEmpty && decide (c.maxStack ≤ mostOperands) && decide (meth.sig.returnType = rt) && !meth.locks && decide (parseMethodDescriptor y.desc = some meth.sig)) = true) : (Jvm.Cond.code y bytes mx rt).before a s = true := by
  simp only [Bool.and_eq_true, beq_iff_eq, Bool.not_eq_true', decide_eq_true_eq] at h5
  obtain ⟨⟨⟨⟨⟨g1, g2⟩, g3⟩, g4⟩, g5⟩, g6⟩ := h5
  simp [Cond.before, Cond.holds, Cond.value, h1, h2, h3, h4, g1, g2, g3, g4, g5, g6]
def isCode : Jvm.Cond → Bool
  | .code _ _ _ _ => true
  | _ => false
theorem all_split {L : List Jvm.Cond} {P : Jvm.Cond → Bool} (h1 : L.all (fun c => isCode c || P c) = true) (h2 : ∀ c ∈ L.filter isCode, P c = true) : L.all P = true := by
  refine List.all_eq_true.mpr fun c hc => ?_
  have h := List.all_eq_true.mp h1 c hc
  rcases Bool.eq_false_or_eq_true (isCode c) with hi | hi
  · exact h2 c (List.mem_filter.mpr ⟨hc, hi⟩)
  · simpa [hi] using h
set_option maxRecDepth 65536 in
theorem w_c0 : (Jvm.Cond.code x code maxLocals ret).before args0 about1 = true := code_word (m := ⟨1, 1⟩) (meth := k1m1) (c := k1c1) (by decide +kernel) rfl rfl rfl (by decide +kernel)
set_option maxRecDepth 65536 in
theorem w_c1 : (Jvm.Cond.code ({ cls := "com/example/test_rollback/testrollback/CounterColumnPinLaw", name := "part", desc := "([CII)Ljava/lang/String;" } : Jvm.MethodName) method_3_code (3 : Nat) (Option.some (Jvm.ClassFile.FieldType.object "java/lang/String"))).before args0 about1 = true := code_word (m := ⟨1, 2⟩) (meth := k1m2) (c := k1c2) (by decide +kernel) rfl rfl rfl (by decide +kernel)
set_option maxRecDepth 65536 in
theorem w_c2 : (Jvm.Cond.code ({ cls := "java/lang/String", name := "<init>", desc := "([C)V" } : Jvm.MethodName) jdk_42_method_3_code (2 : Nat) (Option.none : Option Jvm.ClassFile.FieldType)).before args0 about1 = true := code_word (m := ⟨7, 1⟩) (meth := k7m1) (c := k7c1) (by decide +kernel) rfl rfl rfl (by decide +kernel)
set_option maxRecDepth 65536 in
theorem w_c3 : (Jvm.Cond.code ({ cls := "java/lang/String", name := "<init>", desc := "([CIILjava/lang/Void;)V" } : Jvm.MethodName) jdk_42_method_149_code (6 : Nat) (Option.none : Option Jvm.ClassFile.FieldType)).before args0 about1 = true := code_word (m := ⟨7, 6⟩) (meth := k7m6) (c := k7c6) (by decide +kernel) rfl rfl rfl (by decide +kernel)
set_option maxRecDepth 65536 in
theorem w_c4 : (Jvm.Cond.code ({ cls := "java/lang/Object", name := "<init>", desc := "()V" } : Jvm.MethodName) object_method_1_code (1 : Nat) (Option.none : Option Jvm.ClassFile.FieldType)).before args0 about1 = true := code_word (m := ⟨0, 0⟩) (meth := k0m0) (c := k0c0) (by decide +kernel) rfl rfl rfl (by decide +kernel)
set_option maxRecDepth 65536 in
theorem w_c5 : (Jvm.Cond.code ({ cls := "java/lang/StringUTF16", name := "compress", desc := "([CII)[B" } : Jvm.MethodName) jdk_52_method_16_code (6 : Nat) (Option.some (Jvm.ClassFile.FieldType.array Jvm.ClassFile.FieldType.byte))).before args0 about1 = true := code_word (m := ⟨8, 2⟩) (meth := k8m2) (c := k8c2) (by decide +kernel) rfl rfl rfl (by decide +kernel)
set_option maxRecDepth 65536 in
theorem w_c6 : (Jvm.Cond.code ({ cls := "java/lang/StringUTF16", name := "compress", desc := "([CI[BII)I" } : Jvm.MethodName) jdk_52_method_21_code (7 : Nat) (Option.some Jvm.ClassFile.FieldType.int)).before args0 about1 = true := code_word (m := ⟨8, 3⟩) (meth := k8m3) (c := k8c3) (by decide +kernel) rfl rfl rfl (by decide +kernel)
set_option maxRecDepth 65536 in
theorem w_c7 : (Jvm.Cond.code ({ cls := "java/lang/StringUTF16", name := "coderFromArrayLen", desc := "([BI)B" } : Jvm.MethodName) jdk_52_method_15_code (2 : Nat) (Option.some Jvm.ClassFile.FieldType.byte)).before args0 about1 = true := code_word (m := ⟨8, 1⟩) (meth := k8m1) (c := k8c1) (by decide +kernel) rfl rfl rfl (by decide +kernel)
set_option maxRecDepth 65536 in
theorem w_c8 : (Jvm.Cond.code ({ cls := "com/example/test_rollback/testrollback/Dialect$Counter", name := "<init>", desc := "(Ljava/lang/String;Ljava/lang/String;Ljava/lang/String;Ljava/lang/String;)V" } : Jvm.MethodName) prog_10_method_1_code (5 : Nat) (Option.none : Option Jvm.ClassFile.FieldType)).before args0 about1 = true := code_word (m := ⟨10, 0⟩) (meth := k10m0) (c := k10c0) (by decide +kernel) rfl rfl rfl (by decide +kernel)
set_option maxRecDepth 65536 in
theorem w_c9 : (Jvm.Cond.code ({ cls := "java/lang/Record", name := "<init>", desc := "()V" } : Jvm.MethodName) jdk_30_method_1_code (1 : Nat) (Option.none : Option Jvm.ClassFile.FieldType)).before args0 about1 = true := code_word (m := ⟨9, 0⟩) (meth := k9m0) (c := k9c0) (by decide +kernel) rfl rfl rfl (by decide +kernel)
set_option maxRecDepth 65536 in
theorem w_c10 : (Jvm.Cond.code ({ cls := "com/example/test_rollback/testrollback/Dialect$Counter", name := "column", desc := "()Ljava/lang/String;" } : Jvm.MethodName) prog_10_method_6_code (1 : Nat) (Option.some (Jvm.ClassFile.FieldType.object "java/lang/String"))).before args0 about1 = true := code_word (m := ⟨10, 1⟩) (meth := k10m1) (c := k10c1) (by decide +kernel) rfl rfl rfl (by decide +kernel)
set_option maxRecDepth 65536 in
theorem w_c11 : (Jvm.Cond.code ({ cls := "java/lang/String", name := "length", desc := "()I" } : Jvm.MethodName) jdk_42_method_54_code (1 : Nat) (Option.some Jvm.ClassFile.FieldType.int)).before args0 about1 = true := code_word (m := ⟨7, 2⟩) (meth := k7m2) (c := k7c2) (by decide +kernel) rfl rfl rfl (by decide +kernel)
set_option maxRecDepth 65536 in
theorem w_c12 : (Jvm.Cond.code ({ cls := "java/lang/String", name := "coder", desc := "()B" } : Jvm.MethodName) jdk_42_method_152_code (1 : Nat) (Option.some Jvm.ClassFile.FieldType.byte)).before args0 about1 = true := code_word (m := ⟨7, 8⟩) (meth := k7m8) (c := k7c8) (by decide +kernel) rfl rfl rfl (by decide +kernel)
set_option maxRecDepth 65536 in
theorem w_c13 : (Jvm.Cond.code ({ cls := "java/lang/String", name := "substring", desc := "(I)Ljava/lang/String;" } : Jvm.MethodName) jdk_42_method_91_code (2 : Nat) (Option.some (Jvm.ClassFile.FieldType.object "java/lang/String"))).before args0 about1 = true := code_word (m := ⟨7, 4⟩) (meth := k7m4) (c := k7c4) (by decide +kernel) rfl rfl rfl (by decide +kernel)
set_option maxRecDepth 65536 in
theorem w_c14 : (Jvm.Cond.code ({ cls := "java/lang/String", name := "substring", desc := "(II)Ljava/lang/String;" } : Jvm.MethodName) jdk_42_method_92_code (5 : Nat) (Option.some (Jvm.ClassFile.FieldType.object "java/lang/String"))).before args0 about1 = true := code_word (m := ⟨7, 5⟩) (meth := k7m5) (c := k7c5) (by decide +kernel) rfl rfl rfl (by decide +kernel)
set_option maxRecDepth 65536 in
theorem w_c15 : (Jvm.Cond.code ({ cls := "java/lang/String", name := "checkBoundsBeginEnd", desc := "(III)V" } : Jvm.MethodName) jdk_42_method_158_code (3 : Nat) (Option.none : Option Jvm.ClassFile.FieldType)).before args0 about1 = true := code_word (m := ⟨7, 10⟩) (meth := k7m10) (c := k7c10) (by decide +kernel) rfl rfl rfl (by decide +kernel)
set_option maxRecDepth 65536 in
theorem w_c16 : (Jvm.Cond.code ({ cls := "jdk/internal/util/Preconditions", name := "checkFromToIndex", desc := "(IIILjava/util/function/BiFunction;)I" } : Jvm.MethodName) jdk_41_method_12_code (4 : Nat) (Option.some Jvm.ClassFile.FieldType.int)).before args0 about1 = true := code_word (m := ⟨11, 1⟩) (meth := k11m1) (c := k11c1) (by decide +kernel) rfl rfl rfl (by decide +kernel)
set_option maxRecDepth 65536 in
theorem w_c17 : (Jvm.Cond.code ({ cls := "java/lang/String", name := "isLatin1", desc := "()Z" } : Jvm.MethodName) jdk_42_method_154_code (1 : Nat) (Option.some Jvm.ClassFile.FieldType.boolean)).before args0 about1 = true := code_word (m := ⟨7, 9⟩) (meth := k7m9) (c := k7c9) (by decide +kernel) rfl rfl rfl (by decide +kernel)
set_option maxRecDepth 65536 in
theorem w_c18 : (Jvm.Cond.code ({ cls := "java/lang/StringLatin1", name := "newString", desc := "([BII)Ljava/lang/String;" } : Jvm.MethodName) jdk_43_method_47_code (3 : Nat) (Option.some (Jvm.ClassFile.FieldType.object "java/lang/String"))).before args0 about1 = true := code_word (m := ⟨12, 2⟩) (meth := k12m2) (c := k12c2) (by decide +kernel) rfl rfl rfl (by decide +kernel)
set_option maxRecDepth 65536 in
theorem w_c19 : (Jvm.Cond.code ({ cls := "java/util/Arrays", name := "copyOfRange", desc := "([BII)[B" } : Jvm.MethodName) jdk_65_method_132_code (3 : Nat) (Option.some (Jvm.ClassFile.FieldType.array Jvm.ClassFile.FieldType.byte))).before args0 about1 = true := code_word (m := ⟨13, 2⟩) (meth := k13m2) (c := k13c2) (by decide +kernel) rfl rfl rfl (by decide +kernel)
set_option maxRecDepth 65536 in
theorem w_c20 : (Jvm.Cond.code ({ cls := "java/util/Arrays", name := "copyOfRangeByte", desc := "([BII)[B" } : Jvm.MethodName) jdk_65_method_133_code (5 : Nat) (Option.some (Jvm.ClassFile.FieldType.array Jvm.ClassFile.FieldType.byte))).before args0 about1 = true := code_word (m := ⟨13, 3⟩) (meth := k13m3) (c := k13c3) (by decide +kernel) rfl rfl rfl (by decide +kernel)
set_option maxRecDepth 65536 in
theorem w_c21 : (Jvm.Cond.code ({ cls := "java/util/Arrays", name := "checkLength", desc := "(II)V" } : Jvm.MethodName) jdk_65_method_131_code (2 : Nat) (Option.none : Option Jvm.ClassFile.FieldType)).before args0 about1 = true := code_word (m := ⟨13, 1⟩) (meth := k13m1) (c := k13c1) (by decide +kernel) rfl rfl rfl (by decide +kernel)
set_option maxRecDepth 65536 in
theorem w_c22 : (Jvm.Cond.code ({ cls := "java/lang/Math", name := "min", desc := "(II)I" } : Jvm.MethodName) jdk_29_method_69_code (2 : Nat) (Option.some Jvm.ClassFile.FieldType.int)).before args0 about1 = true := code_word (m := ⟨14, 1⟩) (meth := k14m1) (c := k14c1) (by decide +kernel) rfl rfl rfl (by decide +kernel)
set_option maxRecDepth 65536 in
theorem w_c23 : (Jvm.Cond.code ({ cls := "java/lang/String", name := "<init>", desc := "([BB)V" } : Jvm.MethodName) jdk_42_method_151_code (3 : Nat) (Option.none : Option Jvm.ClassFile.FieldType)).before args0 about1 = true := code_word (m := ⟨7, 7⟩) (meth := k7m7) (c := k7c7) (by decide +kernel) rfl rfl rfl (by decide +kernel)
set_option maxRecDepth 65536 in
theorem w_c24 : (Jvm.Cond.code ({ cls := "java/lang/String", name := "equals", desc := "(Ljava/lang/Object;)Z" } : Jvm.MethodName) jdk_42_method_66_code (3 : Nat) (Option.some Jvm.ClassFile.FieldType.boolean)).before args0 about1 = true := code_word (m := ⟨7, 3⟩) (meth := k7m3) (c := k7c3) (by decide +kernel) rfl rfl rfl (by decide +kernel)
set_option maxRecDepth 65536 in
theorem w_c25 : (Jvm.Cond.code ({ cls := "java/lang/StringLatin1", name := "equals", desc := "([B[B)Z" } : Jvm.MethodName) jdk_43_method_13_code (3 : Nat) (Option.some Jvm.ClassFile.FieldType.boolean)).before args0 about1 = true := code_word (m := ⟨12, 1⟩) (meth := k12m1) (c := k12c1) (by decide +kernel) rfl rfl rfl (by decide +kernel)
def codes1 : List Jvm.Cond := [Jvm.Cond.code x code maxLocals ret, Jvm.Cond.code ({ cls := "com/example/test_rollback/testrollback/CounterColumnPinLaw", name := "part", desc := "([CII)Ljava/lang/String;" } : Jvm.MethodName) method_3_code (3 : Nat) (Option.some (Jvm.ClassFile.FieldType.object "java/lang/String")), Jvm.Cond.code ({ cls := "java/lang/String", name := "<init>", desc := "([C)V" } : Jvm.MethodName) jdk_42_method_3_code (2 : Nat) (Option.none : Option Jvm.ClassFile.FieldType), Jvm.Cond.code ({ cls := "java/lang/String", name := "<init>", desc := "([CIILjava/lang/Void;)V" } : Jvm.MethodName) jdk_42_method_149_code (6 : Nat) (Option.none : Option Jvm.ClassFile.FieldType), Jvm.Cond.code ({ cls := "java/lang/Object", name := "<init>", desc := "()V" } : Jvm.MethodName) object_method_1_code (1 : Nat) (Option.none : Option Jvm.ClassFile.FieldType), Jvm.Cond.code ({ cls := "java/lang/StringUTF16", name := "compress", desc := "([CII)[B" } : Jvm.MethodName) jdk_52_method_16_code (6 : Nat) (Option.some (Jvm.ClassFile.FieldType.array Jvm.ClassFile.FieldType.byte)), Jvm.Cond.code ({ cls := "java/lang/StringUTF16", name := "compress", desc := "([CI[BII)I" } : Jvm.MethodName) jdk_52_method_21_code (7 : Nat) (Option.some Jvm.ClassFile.FieldType.int), Jvm.Cond.code ({ cls := "java/lang/StringUTF16", name := "coderFromArrayLen", desc := "([BI)B" } : Jvm.MethodName) jdk_52_method_15_code (2 : Nat) (Option.some Jvm.ClassFile.FieldType.byte), Jvm.Cond.code ({ cls := "com/example/test_rollback/testrollback/Dialect$Counter", name := "<init>", desc := "(Ljava/lang/String;Ljava/lang/String;Ljava/lang/String;Ljava/lang/String;)V" } : Jvm.MethodName) prog_10_method_1_code (5 : Nat) (Option.none : Option Jvm.ClassFile.FieldType), Jvm.Cond.code ({ cls := "java/lang/Record", name := "<init>", desc := "()V" } : Jvm.MethodName) jdk_30_method_1_code (1 : Nat) (Option.none : Option Jvm.ClassFile.FieldType), Jvm.Cond.code ({ cls := "com/example/test_rollback/testrollback/Dialect$Counter", name := "column", desc := "()Ljava/lang/String;" } : Jvm.MethodName) prog_10_method_6_code (1 : Nat) (Option.some (Jvm.ClassFile.FieldType.object "java/lang/String")), Jvm.Cond.code ({ cls := "java/lang/String", name := "length", desc := "()I" } : Jvm.MethodName) jdk_42_method_54_code (1 : Nat) (Option.some Jvm.ClassFile.FieldType.int), Jvm.Cond.code ({ cls := "java/lang/String", name := "coder", desc := "()B" } : Jvm.MethodName) jdk_42_method_152_code (1 : Nat) (Option.some Jvm.ClassFile.FieldType.byte), Jvm.Cond.code ({ cls := "java/lang/String", name := "substring", desc := "(I)Ljava/lang/String;" } : Jvm.MethodName) jdk_42_method_91_code (2 : Nat) (Option.some (Jvm.ClassFile.FieldType.object "java/lang/String")), Jvm.Cond.code ({ cls := "java/lang/String", name := "substring", desc := "(II)Ljava/lang/String;" } : Jvm.MethodName) jdk_42_method_92_code (5 : Nat) (Option.some (Jvm.ClassFile.FieldType.object "java/lang/String")), Jvm.Cond.code ({ cls := "java/lang/String", name := "checkBoundsBeginEnd", desc := "(III)V" } : Jvm.MethodName) jdk_42_method_158_code (3 : Nat) (Option.none : Option Jvm.ClassFile.FieldType), Jvm.Cond.code ({ cls := "jdk/internal/util/Preconditions", name := "checkFromToIndex", desc := "(IIILjava/util/function/BiFunction;)I" } : Jvm.MethodName) jdk_41_method_12_code (4 : Nat) (Option.some Jvm.ClassFile.FieldType.int), Jvm.Cond.code ({ cls := "java/lang/String", name := "isLatin1", desc := "()Z" } : Jvm.MethodName) jdk_42_method_154_code (1 : Nat) (Option.some Jvm.ClassFile.FieldType.boolean), Jvm.Cond.code ({ cls := "java/lang/StringLatin1", name := "newString", desc := "([BII)Ljava/lang/String;" } : Jvm.MethodName) jdk_43_method_47_code (3 : Nat) (Option.some (Jvm.ClassFile.FieldType.object "java/lang/String")), Jvm.Cond.code ({ cls := "java/util/Arrays", name := "copyOfRange", desc := "([BII)[B" } : Jvm.MethodName) jdk_65_method_132_code (3 : Nat) (Option.some (Jvm.ClassFile.FieldType.array Jvm.ClassFile.FieldType.byte)), Jvm.Cond.code ({ cls := "java/util/Arrays", name := "copyOfRangeByte", desc := "([BII)[B" } : Jvm.MethodName) jdk_65_method_133_code (5 : Nat) (Option.some (Jvm.ClassFile.FieldType.array Jvm.ClassFile.FieldType.byte)), Jvm.Cond.code ({ cls := "java/util/Arrays", name := "checkLength", desc := "(II)V" } : Jvm.MethodName) jdk_65_method_131_code (2 : Nat) (Option.none : Option Jvm.ClassFile.FieldType), Jvm.Cond.code ({ cls := "java/lang/Math", name := "min", desc := "(II)I" } : Jvm.MethodName) jdk_29_method_69_code (2 : Nat) (Option.some Jvm.ClassFile.FieldType.int), Jvm.Cond.code ({ cls := "java/lang/String", name := "<init>", desc := "([BB)V" } : Jvm.MethodName) jdk_42_method_151_code (3 : Nat) (Option.none : Option Jvm.ClassFile.FieldType), Jvm.Cond.code ({ cls := "java/lang/String", name := "equals", desc := "(Ljava/lang/Object;)Z" } : Jvm.MethodName) jdk_42_method_66_code (3 : Nat) (Option.some Jvm.ClassFile.FieldType.boolean), Jvm.Cond.code ({ cls := "java/lang/StringLatin1", name := "equals", desc := "([B[B)Z" } : Jvm.MethodName) jdk_43_method_13_code (3 : Nat) (Option.some Jvm.ClassFile.FieldType.boolean)]
set_option maxRecDepth 65536 in
theorem codes_eq : words1.filter isCode = codes1 := rfl
theorem w_codes : ∀ c ∈ words1.filter isCode, c.before args0 about1 = true := by
  rw [codes_eq]
  intro c hc
  simp only [codes1, List.mem_cons, List.not_mem_nil, or_false] at hc
  rcases hc with rfl | rfl | rfl | rfl | rfl | rfl | rfl | rfl | rfl | rfl | rfl | rfl | rfl | rfl | rfl | rfl | rfl | rfl | rfl | rfl | rfl | rfl | rfl | rfl | rfl | rfl
  · exact w_c0
  · exact w_c1
  · exact w_c2
  · exact w_c3
  · exact w_c4
  · exact w_c5
  · exact w_c6
  · exact w_c7
  · exact w_c8
  · exact w_c9
  · exact w_c10
  · exact w_c11
  · exact w_c12
  · exact w_c13
  · exact w_c14
  · exact w_c15
  · exact w_c16
  · exact w_c17
  · exact w_c18
  · exact w_c19
  · exact w_c20
  · exact w_c21
  · exact w_c22
  · exact w_c23
  · exact w_c24
  · exact w_c25
set_option maxRecDepth 65536 in
theorem w_t1 : (words1.take 24).all (fun c => isCode c || c.before args0 about1) = true := by decide +kernel
set_option maxRecDepth 65536 in
theorem w_t2 : ((words1.drop 24).take 24).all (fun c => isCode c || c.before args0 about1) = true := by decide +kernel
set_option maxRecDepth 65536 in
theorem w_t3 : (((words1.drop 24).drop 24).take 24).all (fun c => isCode c || c.before args0 about1) = true := by decide +kernel
set_option maxRecDepth 65536 in
theorem w_t4 : ((((words1.drop 24).drop 24).drop 24).take 24).all (fun c => isCode c || c.before args0 about1) = true := by decide +kernel
set_option maxRecDepth 65536 in
theorem w_t5 : (((((words1.drop 24).drop 24).drop 24).drop 24).take 24).all (fun c => isCode c || c.before args0 about1) = true := by decide +kernel
set_option maxRecDepth 65536 in
theorem w_t6 : (((((words1.drop 24).drop 24).drop 24).drop 24).drop 24).all (fun c => isCode c || c.before args0 about1) = true := by decide +kernel
theorem w_tables : (allAtoms (Jvm.Cond.code x code maxLocals ret :: tables_1)).before args0 about1 = true := by
  rw [allAtoms_all]
  show words1.all (fun c => c.before args0 about1) = true
  refine all_split ?_ w_codes
  rw [← List.take_append_drop 24 words1, List.all_append, w_t1, ← List.take_append_drop 24 (words1.drop 24), List.all_append, w_t2, ← List.take_append_drop 24 ((words1.drop 24).drop 24), List.all_append, w_t3, ← List.take_append_drop 24 (((words1.drop 24).drop 24).drop 24), List.all_append, w_t4, ← List.take_append_drop 24 ((((words1.drop 24).drop 24).drop 24).drop 24), List.all_append, w_t5, w_t6]
  rfl
set_option maxRecDepth 65536 in
theorem w_rest : rest_1_c.before args0 about1 = true := by decide +kernel
set_option maxRecDepth 65536 in
theorem w_case : (Jvm.Cond.and given_1 narrow_1).before args0 about1 = true := by decide +kernel
set_option maxRecDepth 65536 in
theorem w_consts : constsHeld consts_1 about1 := Jvm.Lit.constsHeldB_iff.mp (by decide +kernel)
theorem w_applies : (headSpec (Jvm.Cond.code x code maxLocals ret :: tables_1) room_1).applies x e0.platform about1 = true :=
  (Spec.applies_iff w_frames).mpr ⟨w_running, w_runnable, w_alone, w_named, w_hears, w_ripe, w_room, w_tables⟩
theorem atStart : AtStart classFile x code maxLocals ret World_1 tables_1 room_1 Calls_1 rest_1 Pre_1 launch0 p0 e0 about1 theMethod args0 below0 :=
  ⟨lists_1, trivial, launch0.admits_env _ _ _, launch0.least_env, fairChoices_fair.cas, fairChoices_fair.clock, w_frames, w_args, w_heap, w_applies, ⟨w_consts, trivial⟩, w_rest, w_case⟩
end start1
theorem witness_1 : WitnessClaimed_1 := ⟨start1.p0, start1.e0, start1.about1, start1.theMethod, start1.args0, start1.below0, start1.atStart⟩
end Jvm.Pilot.@@N@@
