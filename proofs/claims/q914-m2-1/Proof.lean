import JvmDerived
import JvmDerived.Pilot.@@N@@Statement
import JvmDerived.Pilot.@@N@@Code
set_option linter.unusedVariables false
set_option linter.unusedSimpArgs false
namespace Jvm.RoadKit
open Sem ClassFile Op Lib Jvm.Stand Jvm.Free Jvm.LawKit
section New
variable {p : Program} {l : Launch} {e : Env} {R : Room} {s : State} {m : MethodId} {args : Array Value} {below : List Frame} {meth : Method} {c : Code} {T : State} {locs : List Loc} {cells slots : Nat}
theorem retI (X : Stand p l e R s m args below meth c T locs cells slots) (hx : p.tables.exec = Jvm.exec) {pc : Nat} {Ls : Array Slot} {z : Int32} {rest : List Value} (hret : meth.sig.returnType = some .int) (hd : decode c.code pc = .ok (.ireturn, 1)) {fs : List Frame}
    (hl : ∀ (f : JFrame) (acts : List Action), f.method = m → f.locked = none → f.entered = [] → (doReturn e (T.setTop f) acts (some (.int z))).1 = T.setFrames fs) : Steps p.tables e below (T.setTop (mkF m pc Ls (.int z :: rest))) (T.setFrames fs) := by
  have hm' : T.vm.method? m = some meth := X.method'
  have hn : narrow .int (.int z) = .int z := rfl
  show Steps p.tables e below (T.setTop { method := m, pc := pc, locals := Ls, stack := _ :: rest, locked := none }) _
  jvm_step X.here [X.here.top, hx, hd, hm', hret, hn]
  first | (intro acts; rw [hl _ acts rfl rfl rfl]) | rw [hl _ _ rfl rfl rfl]
  exact Steps.refl _
theorem retJ (X : Stand p l e R s m args below meth c T locs cells slots) (hx : p.tables.exec = Jvm.exec) {pc : Nat} {Ls : Array Slot} {z : Int64} {rest : List Value} (hret : meth.sig.returnType = some .long) (hd : decode c.code pc = .ok (.lreturn, 1)) {fs : List Frame}
    (hl : ∀ (f : JFrame) (acts : List Action), f.method = m → f.locked = none → f.entered = [] → (doReturn e (T.setTop f) acts (some (.long z))).1 = T.setFrames fs) : Steps p.tables e below (T.setTop (mkF m pc Ls (.long z :: rest))) (T.setFrames fs) := by
  have hm' : T.vm.method? m = some meth := X.method'
  have hn : narrow .long (.long z) = .long z := rfl
  show Steps p.tables e below (T.setTop { method := m, pc := pc, locals := Ls, stack := _ :: rest, locked := none }) _
  jvm_step X.here [X.here.top, hx, hd, hm', hret, hn]
  first | (intro acts; rw [hl _ acts rfl rfl rfl]) | rw [hl _ _ rfl rfl rfl]
  exact Steps.refl _
theorem retD (X : Stand p l e R s m args below meth c T locs cells slots) (hx : p.tables.exec = Jvm.exec) {pc : Nat} {Ls : Array Slot} {z : UInt64} {rest : List Value} (hret : meth.sig.returnType = some .double) (hd : decode c.code pc = .ok (.dreturn, 1)) {fs : List Frame}
    (hl : ∀ (f : JFrame) (acts : List Action), f.method = m → f.locked = none → f.entered = [] → (doReturn e (T.setTop f) acts (some (.double z))).1 = T.setFrames fs) : Steps p.tables e below (T.setTop (mkF m pc Ls (.double z :: rest))) (T.setFrames fs) := by
  have hm' : T.vm.method? m = some meth := X.method'
  have hn : narrow .double (.double z) = .double z := rfl
  show Steps p.tables e below (T.setTop { method := m, pc := pc, locals := Ls, stack := _ :: rest, locked := none }) _
  jvm_step X.here [X.here.top, hx, hd, hm', hret, hn]
  first | (intro acts; rw [hl _ acts rfl rfl rfl]) | rw [hl _ _ rfl rfl rfl]
  exact Steps.refl _
theorem retR (X : Stand p l e R s m args below meth c T locs cells slots) (hx : p.tables.exec = Jvm.exec) {pc : Nat} {Ls : Array Slot} {w : Value} {t : FieldType} {rest : List Value} (hret : meth.sig.returnType = some t) (hn : narrow t w = w) (ht : t.isReference = true) (hw : w.isRef = true) (hd : decode c.code pc = .ok (.areturn, 1)) {fs : List Frame}
    (hl : ∀ (f : JFrame) (acts : List Action), f.method = m → f.locked = none → f.entered = [] → (doReturn e (T.setTop f) acts (some w)).1 = T.setFrames fs) : Steps p.tables e below (T.setTop (mkF m pc Ls (w :: rest))) (T.setFrames fs) := by
  have hm' : T.vm.method? m = some meth := X.method'
  show Steps p.tables e below (T.setTop { method := m, pc := pc, locals := Ls, stack := _ :: rest, locked := none }) _
  jvm_step X.here [X.here.top, hx, hd, hm', hret, hn, hw]
  try (refine ⟨ht, ?_⟩)
  first | (intro acts; rw [hl _ acts rfl rfl rfl]) | rw [hl _ _ rfl rfl rfl]
  exact Steps.refl _
theorem own_up (X : Stand p l e R s m args below meth c T locs cells slots) {k n : Nat} (h1 : cells ≤ k) (h2 : slots ≤ n) : Stand p l e R s m args below meth c T locs k n :=
  ⟨X.admits, X.cas, X.clock, X.frames, X.room, X.hears, X.method, X.code, X.here, X.tail, X.warmed, X.limits, X.bytes, X.same.mono h1 h2⟩
theorem own_ext {h h' : Heap} (K : Keep h h' []) : Ext h h' := ⟨K.1, fun a c q => K.2.1 a c q nin0⟩
theorem own_narR {v : Value} {ty : FieldType} (h : v.isRef = true) (ht : ty.isReference = true) : narrow ty v = v := by
  rcases ref_cases h with rfl | ⟨a, rfl⟩ <;> cases ty <;> first | rfl | (simp [FieldType.isReference] at ht)
theorem own_fitR {v : Value} {ty : FieldType} (h : v.isRef = true) (ht : ty.isReference = true) : fits ty v = true := by
  rcases ref_cases h with rfl | ⟨a, rfl⟩ <;> cases ty <;> first | rfl | (simp [FieldType.isReference] at ht)
theorem own_wmono {s t : State} {o : Outcome} {L : List Loc} {k n k' n' : Nat} (h : ReturnedEndW s o t L k n) (hk : k ≤ k') (hn : n ≤ n') : ReturnedEndW s o t L k' n' := ⟨h.1, h.2.1, h.2.2.1, h.2.2.2.mono hk hn⟩
theorem own_chr {Z s T : State} {EL : List (String × Nat)} {h0 H : Heap} (hh : s.heap = h0) (e : T.heap = H) (c : CHr Z EL s.vm h0 T.vm H) : CHr Z EL s.vm s.heap T.vm T.heap := by subst hh e; exact c
theorem own_nb0 : nar .boolean 0 = 0 := by decide
theorem own_nb1 : nar .boolean 1 = 1 := by decide
end New
end Jvm.RoadKit
/- laws to paste: Road.backV, Road.eqW, Road.lenW, Road.codOf (cut by pick.py; bodies as the Statement names them) -/
namespace Jvm.Pilot.@@N@@
namespace StrChars
open Jvm Sem ClassFile Op Lib Jvm.Stand Jvm.Free.XT Jvm.Free.ALB Jvm.Free.JM Jvm.Free
open Jvm.Lib.Cold (StaticIs)
/-- a char array whose places are chars -/
def Ch (a : Addr) (A : Cell) (U : State) : Prop := Arr .char a A U ∧ Typed .char A
theorem Ch.mv {a : Addr} {A : Cell} {U U' : State} (h : Ch a A U) (hal : U.vm.Alike U'.vm) (hh : U'.heap = U.heap) : Ch a A U' := ⟨h.1.mv hal hh, h.2⟩
theorem Ch.keep {a : Addr} {A : Cell} {U U' : State} (h : Ch a A U) (hal : U.vm.Alike U'.vm) (hk : U'.heap[a]? = some A) : Ch a A U' := ⟨h.1.keep hal hk, h.2⟩
/-- what place i of a char[]'s cell holds -/
def cv (A : Cell) (i : Nat) : Int32 := match A.slots[i]? with | some (.int x) => x | _ => 0
theorem Ch.get {a : Addr} {A : Cell} {U : State} (h : Ch a A U) {i : Nat} (hi : i < A.slots.size) : A.slots[i]? = some (.int (cv A i)) := by
  have e := Array.getElem?_eq_getElem hi
  have f := h.2 i _ e
  unfold cv; rw [e]
  generalize A.slots[i] = v at f
  cases v <;> simp [fits] at f ⊢
/-- the byte that i2b leaves of a char -/
def lo8 (x : Int32) : Int32 := x.toInt8.toInt32
theorem fits_lo8 (y : Int32) : fits .byte (.int (lo8 y)) = true := by
  have h1 := y.toInt8.le_toInt
  have h2 := y.toInt8.toInt_lt
  simp only [lo8, fits, Bool.and_eq_true, decide_eq_true_eq, Int32.le_iff_toInt_le, Int8.toInt_toInt32, show (-128 : Int32).toInt = -128 from by decide, show (127 : Int32).toInt = 127 from by decide]
  omega
/-- A' is A but that each place j of lo .. hi - 1 holds f j -/
def Laid (A A' : Cell) (lo hi : Nat) (f : Nat → Value) : Prop := A'.cls = A.cls ∧ A'.vm = A.vm ∧ A'.slots.size = A.slots.size ∧ ∀ i, A'.slots[i]? = if lo ≤ i ∧ i < hi then some (f i) else A.slots[i]?
theorem Laid.zero (A : Cell) (lo : Nat) (f : Nat → Value) : Laid A A lo (lo + 0) f := ⟨rfl, rfl, rfl, fun i => by rw [if_neg (by omega)]⟩
theorem Laid.step {A Ak : Cell} {lo k : Nat} {f : Nat → Value} {v : Value} (h : Laid A Ak lo k f) (hlo : lo ≤ k) (hk : k < Ak.slots.size) (hv : v = f k) : Laid A (Ak.setSlot k v) lo (k + 1) f := by
  refine ⟨h.1, h.2.1, by simpa [Cell.setSlot] using h.2.2.1, fun i => ?_⟩
  by_cases e : k = i
  · subst e; rw [Cell.slots_setSlot_self v hk, if_pos (by omega), hv]
  · rw [Cell.slots_setSlot_ne v e, h.2.2.2 i]
    by_cases q : lo ≤ i ∧ i < k
    · rw [if_pos q, if_pos (by omega)]
    · rw [if_neg q, if_neg (by omega)]
def U16 : String := "java/lang/StringUTF16"
namespace Cmp5
def yN : MethodName := ⟨"java/lang/StringUTF16", "compress", "([CI[BII)I"⟩
abbrev yB : ByteArray := jdk_52_method_21_code
theorem d0 : decode yB 0 = .ok (.iconst 0, 1) := by decide +kernel
theorem d1 : decode yB 1 = .ok (.istore 5, 2) := by decide +kernel
theorem d3 : decode yB 3 = .ok (.iload 5, 2) := by decide +kernel
theorem d5 : decode yB 5 = .ok (.iload 4, 2) := by decide +kernel
theorem d7 : decode yB 7 = .ok (.if_icmp (.ge) 37, 3) := by decide +kernel
theorem d10 : decode yB 10 = .ok (.aload_n 0, 1) := by decide +kernel
theorem d11 : decode yB 11 = .ok (.iload_n 1, 1) := by decide +kernel
theorem d12 : decode yB 12 = .ok (.caload, 1) := by decide +kernel
theorem d13 : decode yB 13 = .ok (.istore 6, 2) := by decide +kernel
theorem d15 : decode yB 15 = .ok (.iload 6, 2) := by decide +kernel
theorem d17 : decode yB 17 = .ok (.sipush 255, 3) := by decide +kernel
theorem d20 : decode yB 20 = .ok (.if_icmp (.le) 6, 3) := by decide +kernel
theorem d26 : decode yB 26 = .ok (.aload_n 2, 1) := by decide +kernel
theorem d27 : decode yB 27 = .ok (.iload_n 3, 1) := by decide +kernel
theorem d28 : decode yB 28 = .ok (.iload 6, 2) := by decide +kernel
theorem d30 : decode yB 30 = .ok (.i2b, 1) := by decide +kernel
theorem d31 : decode yB 31 = .ok (.bastore, 1) := by decide +kernel
theorem d32 : decode yB 32 = .ok (.iinc 1 1, 3) := by decide +kernel
theorem d35 : decode yB 35 = .ok (.iinc 3 1, 3) := by decide +kernel
theorem d38 : decode yB 38 = .ok (.iinc 5 1, 3) := by decide +kernel
theorem d41 : decode yB 41 = .ok (.goto (-38), 3) := by decide +kernel
theorem d44 : decode yB 44 = .ok (.iload 4, 2) := by decide +kernel
theorem d46 : decode yB 46 = .ok (.ireturn, 1) := by decide +kernel
def site : List Cond := []
def tab : Cond := tabOf yN yB 7 (some .int) site
def P (b : Addr) (A : Cell) (d : Addr) (B : Cell) (o q len : Nat) (args : Array Value) (s : State) : Prop := args = #[.ref b, .int (Int32.ofNat o), .ref d, .int (Int32.ofNat q), .int (Int32.ofNat len)] ∧ Ch b A s ∧ Arr .byte d B s ∧ b ≠ d ∧ o + len ≤ A.slots.size ∧ q + len ≤ B.slots.size ∧ ∀ i, i < len → ¬ 255 < cv A (o + i)
def E (b : Addr) (A : Cell) (d : Addr) (B : Cell) (o q len : Nat) (r : Option Value) (s u : State) : Prop := r = some (.int (Int32.ofNat len)) ∧ ∃ B', Put d B' s u ∧ Laid B B' q (q + len) (fun j => Value.int (lo8 (cv A (o + (j - q)))))
/-- no char of the range above 255: len; the places written hold each char's low byte -/
theorem law (l : Launch) (b : Addr) (A : Cell) (d : Addr) (B : Cell) (o q len : Nat) : Law l yN 5 5 0 0 yB 7 (some .int) site (P b A d B o q len) (E b A d B o q len) (copyLocs d q len) 0 0 := by
  refine Law.of_walk (plainFor_of_name (by decide +kernel)) (by decide +kernel) (by decide +kernel) (by decide) (fun _ _ h => by rw [h.1]; rfl) (fun _ U U' hal hh h => ⟨h.1, h.2.1.mv hal hh, h.2.2.1.mv hal hh, h.2.2.2⟩) (fun r U U' V V' h1 hal h2 h => ⟨h.1, h.2.elim fun B' q => ⟨B', q.1.mv h1 h2, q.2⟩⟩) ?_
  intro p e s m args below meth c s₁ X0 hexec hbytes hml hret hlk hnm hown hh0 W hP
  obtain ⟨rfl, hA, hB, hne, l1, l2, hp⟩ := hP
  have c1 : Steps p.tables e below (s₁.setTop (entryFrame m #[.ref b, .int (Int32.ofNat o), .ref d, .int (Int32.ofNat q), .int (Int32.ofNat len)] 7)) (s₁.setTop (mkF m 0 #[.val (.ref b), .val (.int (Int32.ofNat o)), .val (.ref d), .val (.int (Int32.ofNat q)), .val (.int (Int32.ofNat len)), .unset, .unset] [])) := entry rfl
  have hA0 := hA.1.mv X0.warmed.alike hh0
  have hB0 := hB.mv X0.warmed.alike hh0
  have a31 := hA.1.2.2.2
  have c2 : Steps p.tables e below (s₁.setTop (entryFrame m #[.ref b, .int (Int32.ofNat o), .ref d, .int (Int32.ofNat q), .int (Int32.ofNat len)] 7)) (s₁.setTop (mkF m 3 #[.val (.ref b), .val (.int (Int32.ofNat o)), .val (.ref d), .val (.int (Int32.ofNat q)), .val (.int (Int32.ofNat len)), .val (.int 0), .unset] [])) := c1.trans (by
    refine iconstV X0.here hexec rfl 0 (hb hbytes d0) (by decide) ?_
    refine XS.istore X0.here hexec rfl (hb hbytes d1) rfl rfl ?_
    exact Steps.refl _)
  have loop : ∀ (r i : Nat), i + r = len → ∀ (z : Slot), (z = .unset ∨ ∃ w, z = .val w ∧ w.category = 1) → ∀ (Tl : State) (Bk : Cell), Stand p l e { frames := 0, locals := 0, cells := 0, slots := 0 } s m #[.ref b, .int (Int32.ofNat o), .ref d, .int (Int32.ofNat q), .int (Int32.ofNat len)] below meth c Tl ([] ++ copyLocs d q i) 0 0 → Put d Bk s₁ Tl → Laid B Bk q (q + i) (fun j => Value.int (lo8 (cv A (o + (j - q))))) →
      Steps p.tables e below (s₁.setTop (entryFrame m #[.ref b, .int (Int32.ofNat o), .ref d, .int (Int32.ofNat q), .int (Int32.ofNat len)] 7)) (Tl.setTop (mkF m 3 #[.val (.ref b), .val (.int (Int32.ofNat (o + i))), .val (.ref d), .val (.int (Int32.ofNat (q + i))), .val (.int (Int32.ofNat len)), .val (.int (Int32.ofNat i)), z] [])) → ∃ (T' : State) (B' : Cell) (z' : Slot), Stand p l e { frames := 0, locals := 0, cells := 0, slots := 0 } s m #[.ref b, .int (Int32.ofNat o), .ref d, .int (Int32.ofNat q), .int (Int32.ofNat len)] below meth c T' ([] ++ copyLocs d q len) 0 0 ∧ Put d B' s₁ T' ∧ Laid B B' q (q + len) (fun j => Value.int (lo8 (cv A (o + (j - q))))) ∧
      Steps p.tables e below (s₁.setTop (entryFrame m #[.ref b, .int (Int32.ofNat o), .ref d, .int (Int32.ofNat q), .int (Int32.ofNat len)] 7)) (T'.setTop (mkF m 3 #[.val (.ref b), .val (.int (Int32.ofNat (o + len))), .val (.ref d), .val (.int (Int32.ofNat (q + len))), .val (.int (Int32.ofNat len)), .val (.int (Int32.ofNat len)), z'] [])) := by
    intro r
    induction r with
    | zero =>
      intro i hi z hz Tl Bk Xl pl fl cl
      have hil : i = len := by omega
      rw [hil] at Xl fl cl
      exact ⟨Tl, Bk, z, Xl, pl, fl, cl⟩
    | succ r ih =>
      intro i hi z hz Tl Bk Xl pl fl cl
      have all := X0.warmed.alike.symm.trans Xl.warmed.alike
      have hAl := hA0.keep all (pl.other hne hA0.1)
      have hBk := hB0.like all pl.1 fl.1 fl.2.1 fl.2.2.1
      have hlt : q + i < Bk.slots.size := by rw [fl.2.2.1]; omega
      have c3 : Steps p.tables e below (s₁.setTop (entryFrame m #[.ref b, .int (Int32.ofNat o), .ref d, .int (Int32.ofNat q), .int (Int32.ofNat len)] 7)) (Tl.setTop (mkF m 12 #[.val (.ref b), .val (.int (Int32.ofNat (o + i))), .val (.ref d), .val (.int (Int32.ofNat (q + i))), .val (.int (Int32.ofNat len)), .val (.int (Int32.ofNat i)), z] [.int (Int32.ofNat (o + i)), .ref b])) := cl.trans (by
        refine XS.iload Xl.here hexec rfl (hb hbytes d3) rfl ?_
        refine XS.iload Xl.here hexec rfl (hb hbytes d5) rfl ?_
        refine XS.icmpNo Xl.here hexec rfl (hb hbytes d7) rfl (ii_ge_f (lt32 (by omega) (by omega))) ?_
        refine XS.aloadN Xl.here hexec rfl (hb hbytes d10) rfl rfl ?_
        refine XS.iloadN Xl.here hexec rfl (hb hbytes d11) rfl ?_
        exact Steps.refl _)
      have c4 : Steps p.tables e below (s₁.setTop (entryFrame m #[.ref b, .int (Int32.ofNat o), .ref d, .int (Int32.ofNat q), .int (Int32.ofNat len)] 7)) (Tl.setTop (mkF m 13 #[.val (.ref b), .val (.int (Int32.ofNat (o + i))), .val (.ref d), .val (.int (Int32.ofNat (q + i))), .val (.int (Int32.ofNat len)), .val (.int (Int32.ofNat i)), z] [.int (cv A (o + i))])) := c3.trans (by
        refine Xl.aget hexec hAl rfl (hA.get (i := o + i) (by omega)) rfl rfl (hb hbytes d12) ?_
        exact Steps.refl _)
      have c5 : Steps p.tables e below (s₁.setTop (entryFrame m #[.ref b, .int (Int32.ofNat o), .ref d, .int (Int32.ofNat q), .int (Int32.ofNat len)] 7)) (Tl.setTop (mkF m 15 #[.val (.ref b), .val (.int (Int32.ofNat (o + i))), .val (.ref d), .val (.int (Int32.ofNat (q + i))), .val (.int (Int32.ofNat len)), .val (.int (Int32.ofNat i)), .val (.int (cv A (o + i)))] [])) := c4.trans (by
        refine XS.istoreS Xl.here hexec rfl (hb hbytes d13) rfl rfl hz ?_
        exact Steps.refl _)
      have c6 : Steps p.tables e below (s₁.setTop (entryFrame m #[.ref b, .int (Int32.ofNat o), .ref d, .int (Int32.ofNat q), .int (Int32.ofNat len)] 7)) (Tl.setTop (mkF m 31 #[.val (.ref b), .val (.int (Int32.ofNat (o + i))), .val (.ref d), .val (.int (Int32.ofNat (q + i))), .val (.int (Int32.ofNat len)), .val (.int (Int32.ofNat i)), .val (.int (cv A (o + i)))] [.int (lo8 (cv A (o + i))), .int (Int32.ofNat (q + i)), .ref d])) := c5.trans (by
        refine XS.iload Xl.here hexec rfl (hb hbytes d15) rfl ?_
        refine sipushV Xl.here hexec rfl 255 (hb hbytes d17) (by decide) ?_
        refine XS.icmpYes Xl.here hexec rfl (pc0 := 20) rfl (hb hbytes d20) rfl (ii_le_t (hp i (by omega))) (by decide) rfl ?_
        refine XS.aloadN Xl.here hexec rfl (hb hbytes d26) rfl rfl ?_
        refine XS.iloadN Xl.here hexec rfl (hb hbytes d27) rfl ?_
        refine XS.iload Xl.here hexec rfl (hb hbytes d28) rfl ?_
        refine i2b Xl.here hexec rfl (hb hbytes d30) rfl ?_
        exact Steps.refl _)
      obtain ⟨T7, X7, p7, st7⟩ := Xl.aput hexec hBk rfl hlt rfl (fits_lo8 (cv A (o + i))) (g := (mkF m 31 #[.val (.ref b), .val (.int (Int32.ofNat (o + i))), .val (.ref d), .val (.int (Int32.ofNat (q + i))), .val (.int (Int32.ofNat len)), .val (.int (Int32.ofNat i)), .val (.int (cv A (o + i)))] [.int (lo8 (cv A (o + i))), .int (Int32.ofNat (q + i)), .ref d])) rfl (rest := []) rfl (hb hbytes d31)
      have c8 : Steps p.tables e below (s₁.setTop (entryFrame m #[.ref b, .int (Int32.ofNat o), .ref d, .int (Int32.ofNat q), .int (Int32.ofNat len)] 7)) (T7.setTop (mkF m 32 #[.val (.ref b), .val (.int (Int32.ofNat (o + i))), .val (.ref d), .val (.int (Int32.ofNat (q + i))), .val (.int (Int32.ofNat len)), .val (.int (Int32.ofNat i)), .val (.int (cv A (o + i)))] [])) := c6.trans (st7 _ (Steps.refl _))
      have c9 : Steps p.tables e below (s₁.setTop (entryFrame m #[.ref b, .int (Int32.ofNat o), .ref d, .int (Int32.ofNat q), .int (Int32.ofNat len)] 7)) (T7.setTop (mkF m 3 #[.val (.ref b), .val (.int (Int32.ofNat (o + i) + 1)), .val (.ref d), .val (.int (Int32.ofNat (q + i) + 1)), .val (.int (Int32.ofNat len)), .val (.int (Int32.ofNat i + 1)), .val (.int (cv A (o + i)))] [])) := c8.trans (by
        refine iincV X7.here hexec rfl 1 (hb hbytes d32) (by decide) rfl rfl ?_
        refine iincV X7.here hexec rfl 1 (hb hbytes d35) (by decide) rfl rfl ?_
        refine iincV X7.here hexec rfl 1 (hb hbytes d38) (by decide) rfl rfl ?_
        refine XS.goto X7.here hexec rfl (pc0 := 41) rfl (hb hbytes d41) (by decide) rfl ?_
        exact Steps.refl _)
      have c10 : Steps p.tables e below (s₁.setTop (entryFrame m #[.ref b, .int (Int32.ofNat o), .ref d, .int (Int32.ofNat q), .int (Int32.ofNat len)] 7)) (T7.setTop (mkF m 3 #[.val (.ref b), .val (.int (Int32.ofNat (o + (i + 1)))), .val (.ref d), .val (.int (Int32.ofNat (q + (i + 1)))), .val (.int (Int32.ofNat len)), .val (.int (Int32.ofNat (i + 1))), .val (.int (cv A (o + i)))] [])) := by
        have := c9
        rw [succ32, succ32, succ32] at this
        exact this
      exact ih (i + 1) (by omega) _ (Or.inr ⟨_, rfl, rfl⟩) T7 _ (by rw [copyLocs_step, ← List.append_assoc]; exact X7) (pl.trans p7) (fl.step (by omega) hlt (by simp)) c10
  obtain ⟨T9, B9, z9, X9, p9, f9, g9⟩ := loop len 0 (by omega) .unset (Or.inl rfl) s₁ B (by simpa [copyLocs] using X0) ⟨hB0.1, fun _ _ => rfl, rfl⟩ (Laid.zero _ _ _) c2
  have c11 : Steps p.tables e below (s₁.setTop (entryFrame m #[.ref b, .int (Int32.ofNat o), .ref d, .int (Int32.ofNat q), .int (Int32.ofNat len)] 7)) (T9.setTop (mkF m 46 #[.val (.ref b), .val (.int (Int32.ofNat (o + len))), .val (.ref d), .val (.int (Int32.ofNat (q + len))), .val (.int (Int32.ofNat len)), .val (.int (Int32.ofNat len)), z9] [.int (Int32.ofNat len)])) := g9.trans (by
    refine XS.iload X9.here hexec rfl (hb hbytes d3) rfl ?_
    refine XS.iload X9.here hexec rfl (hb hbytes d5) rfl ?_
    refine XS.icmpYes X9.here hexec rfl (pc0 := 7) rfl (hb hbytes d7) rfl (ii_ge_t (nlt32 (by omega) (Nat.le_refl _))) (by decide) rfl ?_
    refine XS.iload X9.here hexec rfl (hb hbytes d44) rfl ?_
    exact Steps.refl _)
  exact ⟨T9, some (.int (Int32.ofNat len)), _, _, _, X9, by simp, rfl, rfl, (fun h => by cases h), ⟨rfl, B9, p9.from hh0, f9⟩, fun fs hl => c11.trans (X9.ireturnOut hexec hret rfl (Or.inl rfl) (hb hbytes d46) hl)⟩
end Cmp5
namespace Cmp3
def yN : MethodName := ⟨"java/lang/StringUTF16", "compress", "([CII)[B"⟩
abbrev yB : ByteArray := jdk_52_method_16_code
theorem d0 : decode yB 0 = .ok (.iload_n 2, 1) := by decide +kernel
theorem d1 : decode yB 1 = .ok (.newarray .byte, 2) := by decide +kernel
theorem d3 : decode yB 3 = .ok (.astore_n 3, 1) := by decide +kernel
theorem d4 : decode yB 4 = .ok (.aload_n 0, 1) := by decide +kernel
theorem d5 : decode yB 5 = .ok (.iload_n 1, 1) := by decide +kernel
theorem d6 : decode yB 6 = .ok (.aload_n 3, 1) := by decide +kernel
theorem d7 : decode yB 7 = .ok (.iconst 0, 1) := by decide +kernel
theorem d8 : decode yB 8 = .ok (.iload_n 2, 1) := by decide +kernel
theorem d9 : decode yB 9 = .ok (.invokestatic 115, 3) := by decide +kernel
theorem d12 : decode yB 12 = .ok (.istore 4, 2) := by decide +kernel
theorem d14 : decode yB 14 = .ok (.iload 4, 2) := by decide +kernel
theorem d16 : decode yB 16 = .ok (.iload_n 2, 1) := by decide +kernel
theorem d17 : decode yB 17 = .ok (.if_icmp (.eq) 40, 3) := by decide +kernel
theorem d57 : decode yB 57 = .ok (.aload_n 3, 1) := by decide +kernel
theorem d58 : decode yB 58 = .ok (.areturn, 1) := by decide +kernel
def site : List Cond := [.arrayClass .byte, Cmp5.tab] ++ staticW U16 115 Cmp5.yN
def tab : Cond := tabOf yN yB 6 (some (.array .byte)) site
def P (b : Addr) (A : Cell) (o len : Nat) (args : Array Value) (s : State) : Prop := args = #[.ref b, .int (Int32.ofNat o), .int (Int32.ofNat len)] ∧ Ch b A s ∧ o + len ≤ A.slots.size ∧ len ≤ 536870912 ∧ ∀ i, i < len → ¬ 255 < cv A (o + i)
def E (b : Addr) (A : Cell) (o len : Nat) (r : Option Value) (s u : State) : Prop := NewArr .byte "[B" len (fun j => .int (lo8 (cv A (o + j)))) r s u ∧ u.heap.size = s.heap.size + 1
/-- no char of the range above 255: a new byte[] of their low bytes -/
theorem law (l : Launch) (b : Addr) (A : Cell) (o len : Nat) : Law l yN 3 3 1 18 yB 6 (some (.array .byte)) site (P b A o len) (E b A o len) [] 1 len := by
  refine Law.of_walk (plainFor_of_name (by decide +kernel)) (by decide +kernel) (by decide +kernel) (by decide) (fun _ _ h => by rw [h.1]; rfl) (fun _ U U' hal hh h => ⟨h.1, h.2.1.mv hal hh, h.2.2⟩) (fun r U U' V V' h1 hal h2 h => ⟨NewArr.mv r U U' V V' h1 hal h2 h.1, by rw [h1, h2]; exact h.2⟩) ?_
  intro p e s m args below meth c s₁ X0 hexec hbytes hml hret hlk hnm hown hh0 W hP
  obtain ⟨rfl, hA, l1, l2, hp⟩ := hP
  have a31 := hA.1.2.2.2
  have c1 : Steps p.tables e below (s₁.setTop (entryFrame m #[.ref b, .int (Int32.ofNat o), .int (Int32.ofNat len)] 6)) (s₁.setTop (mkF m 0 #[.val (.ref b), .val (.int (Int32.ofNat o)), .val (.int (Int32.ofNat len)), .unset, .unset, .unset] [])) := entry rfl
  have c2 : Steps p.tables e below (s₁.setTop (entryFrame m #[.ref b, .int (Int32.ofNat o), .int (Int32.ofNat len)] 6)) (s₁.setTop (mkF m 1 #[.val (.ref b), .val (.int (Int32.ofNat o)), .val (.int (Int32.ofNat len)), .unset, .unset, .unset] [.int (Int32.ofNat len)])) := c1.trans (by
    refine XS.iloadN X0.here hexec rfl (hb hbytes d0) rfl ?_
    exact Steps.refl _)
  obtain ⟨T3, B3, X3, ba3, bs3, bv3, bh3, bf3, st3⟩ := X0.anew hexec (atype := .byte) (wk W (.arrayClass .byte)) rfl (by show len * 1 ≤ _; omega) (by omega) (g := (mkF m 1 #[.val (.ref b), .val (.int (Int32.ofNat o)), .val (.int (Int32.ofNat len)), .unset, .unset, .unset] [.int (Int32.ofNat len)])) rfl (hb hbytes d1) (rest := []) rfl (Nat.le_refl _) (by show 0 + len ≤ len; omega)
  rw [hh0] at ba3 st3
  have kp3 : XT.Kept s T3 := (XT.Kept.of_eq hh0).push bh3
  have hA3 := hA.keep X3.warmed.alike (kp3 _ _ hA.1.1)
  have hne : b ≠ s.heap.size := hA.1.ne
  have c4 : Steps p.tables e below (s₁.setTop (entryFrame m #[.ref b, .int (Int32.ofNat o), .int (Int32.ofNat len)] 6)) (T3.setTop (mkF m 3 #[.val (.ref b), .val (.int (Int32.ofNat o)), .val (.int (Int32.ofNat len)), .unset, .unset, .unset] [.ref s.heap.size])) := c2.trans (st3 _ (Steps.refl _))
  have c5 : Steps p.tables e below (s₁.setTop (entryFrame m #[.ref b, .int (Int32.ofNat o), .int (Int32.ofNat len)] 6)) (T3.setTop (mkF m 9 #[.val (.ref b), .val (.int (Int32.ofNat o)), .val (.int (Int32.ofNat len)), .val (.ref s.heap.size), .unset, .unset] [.int (Int32.ofNat len), .int 0, .ref s.heap.size, .int (Int32.ofNat o), .ref b])) := c4.trans (by
    refine XS.astoreN X3.here hexec rfl (hb hbytes d3) rfl rfl rfl ?_
    refine XS.aloadN X3.here hexec rfl (hb hbytes d4) rfl rfl ?_
    refine XS.iloadN X3.here hexec rfl (hb hbytes d5) rfl ?_
    refine XS.aloadN X3.here hexec rfl (hb hbytes d6) rfl rfl ?_
    refine iconstV X3.here hexec rfl 0 (hb hbytes d7) (by decide) ?_
    refine XS.iloadN X3.here hexec rfl (hb hbytes d8) rfl ?_
    exact Steps.refl _)
  obtain ⟨v6, T6, X6, E6, g6⟩ := X3.callS hexec (Cmp5.law l b A s.heap.size B3 o 0 len) hown (wks W (staticW U16 115 Cmp5.yN)) (wk W Cmp5.tab) (W := 0) (Nat.le_of_ble_eq_true rfl) (Nat.le_of_ble_eq_true rfl) (Nat.le_refl _) (by show 0 + len + 0 ≤ len; omega) (g := (mkF m 9 #[.val (.ref b), .val (.int (Int32.ofNat o)), .val (.int (Int32.ofNat len)), .val (.ref s.heap.size), .unset, .unset] [.int (Int32.ofNat len), .int (Int32.ofNat 0), .ref s.heap.size, .int (Int32.ofNat o), .ref b])) rfl (by rw [hml]; rfl) c5 (argsL := [.ref b, .int (Int32.ofNat o), .ref s.heap.size, .int (Int32.ofNat 0), .int (Int32.ofNat len)]) (rest := []) rfl rfl (by show 2 * 0 + 0 ≤ _; decide) (hb hbytes d9) (⟨rfl, hA3, ba3, hne, l1, by rw [bs3]; simp, hp⟩)
  obtain ⟨rfl, B6, p6, f6⟩ := E6
  have c7 : Steps p.tables e below (s₁.setTop (entryFrame m #[.ref b, .int (Int32.ofNat o), .int (Int32.ofNat len)] 6)) (T6.setTop (mkF m 12 #[.val (.ref b), .val (.int (Int32.ofNat o)), .val (.int (Int32.ofNat len)), .val (.ref s.heap.size), .unset, .unset] [.int (Int32.ofNat len)])) := g6
  have c8 : Steps p.tables e below (s₁.setTop (entryFrame m #[.ref b, .int (Int32.ofNat o), .int (Int32.ofNat len)] 6)) (T6.setTop (mkF m 58 #[.val (.ref b), .val (.int (Int32.ofNat o)), .val (.int (Int32.ofNat len)), .val (.ref s.heap.size), .val (.int (Int32.ofNat len)), .unset] [.ref s.heap.size])) := c7.trans (by
    refine XS.istore X6.here hexec rfl (hb hbytes d12) rfl rfl ?_
    refine XS.iload X6.here hexec rfl (hb hbytes d14) rfl ?_
    refine XS.iloadN X6.here hexec rfl (hb hbytes d16) rfl ?_
    refine XS.icmpYes X6.here hexec rfl (pc0 := 17) rfl (hb hbytes d17) rfl (ii_eq_t rfl) (by decide) rfl ?_
    refine XS.aloadN X6.here hexec rfl (hb hbytes d57) rfl rfl ?_
    exact Steps.refl _)
  have X8 := X6.wide (L' := []) (cells' := 1) (slots' := len) (fun x hx hlt => by
    simp only [List.nil_append, copyLocs, List.mem_map, List.mem_range] at hx
    obtain ⟨i, -, rfl⟩ := hx
    exact absurd hlt (Nat.lt_irrefl _)) (Nat.le_refl _) (by omega)
  exact ⟨T6, some (.ref s.heap.size), _, _, _, X8, rfl, rfl, rfl, (fun h => by cases h), ⟨⟨rfl, B6, ba3.like (X3.warmed.alike.symm.trans X6.warmed.alike) p6.1 f6.1 f6.2.1 f6.2.2.1, f6.2.1.trans bv3, by rw [X6.warmed.alike.findClass, f6.1]; exact bf3, by rw [f6.2.2.1, bs3]; simp, fun j hj => by rw [f6.2.2.2 j, if_pos (by omega)]; rfl, kp3.put p6 (Nat.le_refl _)⟩, by rw [p6.2.2, bh3, hh0]; simp⟩, fun fs hl => c8.trans (X8.areturnOut hexec rfl hret rfl (hb hbytes d58) hl)⟩
end Cmp3
namespace CodL
def yN : MethodName := ⟨"java/lang/StringUTF16", "coderFromArrayLen", "([BI)B"⟩
abbrev yB : ByteArray := jdk_52_method_15_code
theorem d0 : decode yB 0 = .ok (.iload_n 1, 1) := by decide +kernel
theorem d1 : decode yB 1 = .ok (.aload_n 0, 1) := by decide +kernel
theorem d2 : decode yB 2 = .ok (.arraylength, 1) := by decide +kernel
theorem d3 : decode yB 3 = .ok (.isub, 1) := by decide +kernel
theorem d4 : decode yB 4 = .ok (.bipush 31, 2) := by decide +kernel
theorem d6 : decode yB 6 = .ok (.iushr, 1) := by decide +kernel
theorem d7 : decode yB 7 = .ok (.i2b, 1) := by decide +kernel
theorem d8 : decode yB 8 = .ok (.ireturn, 1) := by decide +kernel
def site : List Cond := []
def tab : Cond := tabOf yN yB 2 (some .byte) site
def P (d : Addr) (B : Cell) (args : Array Value) (s : State) : Prop := args = #[.ref d, .int (Int32.ofNat B.slots.size)] ∧ Arr .byte d B s
def E (r : Option Value) (s u : State) : Prop := XT.PureE (some (.int 0)) r s u
/-- an array as long as the number of chars: LATIN1 -/
theorem law (l : Launch) (d : Addr) (B : Cell) : Law l yN 2 2 0 0 yB 2 (some .byte) site (P d B) E [] 0 0 := by
  refine Law.of_walk (plainFor_of_name (by decide +kernel)) (by decide +kernel) (by decide +kernel) (by decide) (fun _ _ h => by rw [h.1]; rfl) (fun _ U U' hal hh h => ⟨h.1, h.2.mv hal hh⟩) (fun r U U' V V' h1 hal h2 h => XT.PureE.mv r U U' V V' h1 hal h2 h) ?_
  intro p e s m args below meth c s₁ X0 hexec hbytes hml hret hlk hnm hown hh0 W hP
  obtain ⟨rfl, hB⟩ := hP
  have hB0 := hB.mv X0.warmed.alike hh0
  have c1 : Steps p.tables e below (s₁.setTop (entryFrame m #[.ref d, .int (Int32.ofNat B.slots.size)] 2)) (s₁.setTop (mkF m 0 #[.val (.ref d), .val (.int (Int32.ofNat B.slots.size))] [])) := entry rfl
  have c2 : Steps p.tables e below (s₁.setTop (entryFrame m #[.ref d, .int (Int32.ofNat B.slots.size)] 2)) (s₁.setTop (mkF m 2 #[.val (.ref d), .val (.int (Int32.ofNat B.slots.size))] [.ref d, .int (Int32.ofNat B.slots.size)])) := c1.trans (by
    refine XS.iloadN X0.here hexec rfl (hb hbytes d0) rfl ?_
    refine XS.aloadN X0.here hexec rfl (hb hbytes d1) rfl rfl ?_
    exact Steps.refl _)
  have c3 : Steps p.tables e below (s₁.setTop (entryFrame m #[.ref d, .int (Int32.ofNat B.slots.size)] 2)) (s₁.setTop (mkF m 8 #[.val (.ref d), .val (.int (Int32.ofNat B.slots.size))] [.int (lo8 (ushr (Int32.ofNat B.slots.size - Int32.ofNat B.slots.size) 31))])) := c2.trans (by
    refine X0.alen hexec hB0 rfl rfl (hb hbytes d2) ?_
    refine XS.isub X0.here hexec rfl (hb hbytes d3) rfl ?_
    refine bipushV X0.here hexec rfl 31 (hb hbytes d4) (by decide) ?_
    refine iushr X0.here hexec rfl (hb hbytes d6) rfl ?_
    refine i2b X0.here hexec rfl (hb hbytes d7) rfl ?_
    exact Steps.refl _)
  have e0 : lo8 (ushr (Int32.ofNat B.slots.size - Int32.ofNat B.slots.size) 31) = 0 := by rw [Int32.sub_self]; decide
  rw [e0] at c3
  exact ⟨s₁, some (.int 0), _, _, _, X0, rfl, rfl, rfl, (fun h => by cases h), ⟨rfl, hh0⟩, fun fs hl => c3.trans (X0.ireturnOut hexec hret rfl (Or.inr (Or.inr (Or.inl rfl))) (hb hbytes d8) hl)⟩
end CodL
/-- the String at a is Latin-1 over a new byte[] (the heap's one new cell): the low bytes of the len chars of A from o on; every cell but a is kept -/
def Got (a : Addr) (D : Cell) (fV fC : Field) (A : Cell) (o len : Nat) (r : Option Value) (s u : State) : Prop := r = none ∧ ∃ D' V : Cell, Blank "java/lang/String" a D' u ∧ Same D D' [fV.slot, fC.slot] ∧ D'.slots[fV.slot]? = some (.ref s.heap.size) ∧ D'.slots[fC.slot]? = some (.int 0) ∧ Arr .byte s.heap.size V u ∧ V.vm = .none ∧ u.vm.findClass "[B" = some V.cls ∧ V.slots.size = len ∧ (∀ j, j < len → V.slots[j]? = some (.int (lo8 (cv A (o + j))))) ∧ (∀ (y : Addr) (c : Cell), y ≠ a → s.heap[y]? = some c → u.heap[y]? = some c) ∧ u.heap.size = s.heap.size + 1
theorem Got.mv {a : Addr} {D A : Cell} {fV fC : Field} {o len : Nat} : ∀ r (U U' V V' : State), U'.heap = U.heap → V.vm.Alike V'.vm → V'.heap = V.heap → Got a D fV fC A o len r U V → Got a D fV fC A o len r U' V' :=
  fun r U U' V V' h1 hal h2 ⟨e0, D', X, a1, a2, a3, a4, a5, a6, a7, a8, a9, a10, a11⟩ => ⟨e0, D', X, a1.mv hal h2, a2, by rw [h1]; exact a3, a4, by rw [h1]; exact a5.mv hal h2, a6, by rw [hal.findClass]; exact a7, a8, a9, by rw [h1, h2]; exact a10, by rw [h1, h2]; exact a11⟩
namespace New4
def yN : MethodName := ⟨"java/lang/String", "<init>", "([CIILjava/lang/Void;)V"⟩
abbrev yB : ByteArray := jdk_42_method_149_code
theorem d0 : decode yB 0 = .ok (.aload_n 0, 1) := by decide +kernel
theorem d1 : decode yB 1 = .ok (.invokespecial 1, 3) := by decide +kernel
theorem d4 : decode yB 4 = .ok (.iload_n 3, 1) := by decide +kernel
theorem d5 : decode yB 5 = .ok (.ifCond (.ne) 22, 3) := by decide +kernel
theorem d27 : decode yB 27 = .ok (.getstatic 38, 3) := by decide +kernel
theorem d30 : decode yB 30 = .ok (.ifCond (.eq) 28, 3) := by decide +kernel
theorem d33 : decode yB 33 = .ok (.aload_n 1, 1) := by decide +kernel
theorem d34 : decode yB 34 = .ok (.iload_n 2, 1) := by decide +kernel
theorem d35 : decode yB 35 = .ok (.iload_n 3, 1) := by decide +kernel
theorem d36 : decode yB 36 = .ok (.invokestatic 177, 3) := by decide +kernel
theorem d39 : decode yB 39 = .ok (.astore 5, 2) := by decide +kernel
theorem d41 : decode yB 41 = .ok (.aload_n 0, 1) := by decide +kernel
theorem d42 : decode yB 42 = .ok (.aload 5, 2) := by decide +kernel
theorem d44 : decode yB 44 = .ok (.iload_n 3, 1) := by decide +kernel
theorem d45 : decode yB 45 = .ok (.invokestatic 47, 3) := by decide +kernel
theorem d48 : decode yB 48 = .ok (.putfield 15, 3) := by decide +kernel
theorem d51 : decode yB 51 = .ok (.aload_n 0, 1) := by decide +kernel
theorem d52 : decode yB 52 = .ok (.aload 5, 2) := by decide +kernel
theorem d54 : decode yB 54 = .ok (.putfield 9, 3) := by decide +kernel
theorem d57 : decode yB 57 = .ok (.return_, 1) := by decide +kernel
def site : List Cond := [.fieldLink "java/lang/String" 38 "java/lang/String" "COMPACT_STRINGS" "Z", Cmp3.tab, CodL.tab, .laysFinal "java/lang/String" "java/lang/String" "value" "[B", .fieldLink "java/lang/String" 9 "java/lang/String" "value" "[B", .laysFinal "java/lang/String" "java/lang/String" "coder" "B", .fieldLink "java/lang/String" 15 "java/lang/String" "coder" "B"] ++ objW "java/lang/String" 1 ++ staticW "java/lang/String" 177 Cmp3.yN ++ staticW "java/lang/String" 47 CodL.yN
def tab : Cond := tabOf yN yB 6 none site
def P (a : Addr) (D : Cell) (fV fC : Field) (b : Addr) (A : Cell) (z : Int32) (o len : Nat) (args : Array Value) (s : State) : Prop := args = #[.ref a, .ref b, .int (Int32.ofNat o), .int (Int32.ofNat len), .null] ∧ Blank "java/lang/String" a D s ∧ Found "java/lang/String" "value" "[B" fV s ∧ Found "java/lang/String" "coder" "B" fC s ∧ Ch b A s ∧ StaticIs s "java/lang/String" "COMPACT_STRINGS" "Z" (.int z) ∧ ¬ z = 0 ∧ 0 < len ∧ o + len ≤ A.slots.size ∧ len ≤ 536870912 ∧ ∀ i, i < len → ¬ 255 < cv A (o + i)
def E (a : Addr) (D : Cell) (fV fC : Field) (A : Cell) (o len : Nat) (r : Option Value) (s u : State) : Prop := Got a D fV fC A o len r s u
/-- len > 0, no char of the range above 255: a Latin-1 String of their low bytes -/
theorem law (l : Launch) (a : Addr) (D : Cell) (fV fC : Field) (b : Addr) (A : Cell) (z : Int32) (o len : Nat) : Law l yN 5 4 2 35 yB 6 none site (P a D fV fC b A z o len) (E a D fV fC A o len) [⟨a, fC.slot⟩, ⟨a, fV.slot⟩] 1 len := by
  refine Law.of_walk (plainFor_of_name (by decide +kernel)) (by decide +kernel) (by decide +kernel) (by decide) (fun _ _ h => by rw [h.1]; rfl) (fun _ U U' hal hh h => ⟨h.1, h.2.1.mv hal hh, h.2.2.1.al hal, h.2.2.2.1.al hal, h.2.2.2.2.1.mv hal hh, h.2.2.2.2.2.1.there hal hh, h.2.2.2.2.2.2⟩) (fun r U U' V V' h1 hal h2 h => Got.mv r U U' V V' h1 hal h2 h) ?_
  intro p e s m args below meth c s₁ X0 hexec hbytes hml hret hlk hnm hown hh0 W hP
  obtain ⟨rfl, hB, f1, f2, hA, s1, hz, l0, l1, l2, hp⟩ := hP
  have a31 := hA.1.2.2.2
  have c1 : Steps p.tables e below (s₁.setTop (entryFrame m #[.ref a, .ref b, .int (Int32.ofNat o), .int (Int32.ofNat len), .null] 6)) (s₁.setTop (mkF m 0 #[.val (.ref a), .val (.ref b), .val (.int (Int32.ofNat o)), .val (.int (Int32.ofNat len)), .val .null, .unset] [])) := entry rfl
  have c2 : Steps p.tables e below (s₁.setTop (entryFrame m #[.ref a, .ref b, .int (Int32.ofNat o), .int (Int32.ofNat len), .null] 6)) (s₁.setTop (mkF m 1 #[.val (.ref a), .val (.ref b), .val (.int (Int32.ofNat o)), .val (.int (Int32.ofNat len)), .val .null, .unset] [.ref a])) := c1.trans (by
    refine XS.aloadN X0.here hexec rfl (hb hbytes d0) rfl rfl ?_
    exact Steps.refl _)
  obtain ⟨T3, X3, q3, st3⟩ := X0.oinit hexec hown (wks W (objW "java/lang/String" 1)) (g := (mkF m 1 #[.val (.ref a), .val (.ref b), .val (.int (Int32.ofNat o)), .val (.int (Int32.ofNat len)), .val .null, .unset] [.ref a])) rfl (by rw [hml]; rfl) (rest := []) rfl (hb hbytes d1) (W := 0) (by show 2 * 0 + 0 ≤ _; decide) (Nat.le_of_ble_eq_true rfl) (Nat.le_of_ble_eq_true rfl)
  have hh3 := q3.trans hh0
  have c4 : Steps p.tables e below (s₁.setTop (entryFrame m #[.ref a, .ref b, .int (Int32.ofNat o), .int (Int32.ofNat len), .null] 6)) (T3.setTop (mkF m 27 #[.val (.ref a), .val (.ref b), .val (.int (Int32.ofNat o)), .val (.int (Int32.ofNat len)), .val .null, .unset] [])) := (c2.trans (st3 _ (Steps.refl _))).trans (by
    refine XS.iloadN X3.here hexec rfl (hb hbytes d4) rfl ?_
    refine XS.ifYes X3.here hexec rfl (pc0 := 5) rfl (hb hbytes d5) rfl (i0_ne_t (nz32 (by omega) l0)) (by decide) rfl ?_
    exact Steps.refl _)
  obtain ⟨T5, X5, q5, st5⟩ := X3.sget hexec hown (wk W (.fieldLink "java/lang/String" 38 "java/lang/String" "COMPACT_STRINGS" "Z")) s1 (fun _ _ h => by rw [hh3]; exact h) (g := (mkF m 27 #[.val (.ref a), .val (.ref b), .val (.int (Int32.ofNat o)), .val (.int (Int32.ofNat len)), .val .null, .unset] [])) rfl (hb hbytes d27)
  have hh5 := q5.trans hh3
  have c6 : Steps p.tables e below (s₁.setTop (entryFrame m #[.ref a, .ref b, .int (Int32.ofNat o), .int (Int32.ofNat len), .null] 6)) (T5.setTop (mkF m 30 #[.val (.ref a), .val (.ref b), .val (.int (Int32.ofNat o)), .val (.int (Int32.ofNat len)), .val .null, .unset] [.int z])) := c4.trans (st5 _ (Steps.refl _))
  have c7 : Steps p.tables e below (s₁.setTop (entryFrame m #[.ref a, .ref b, .int (Int32.ofNat o), .int (Int32.ofNat len), .null] 6)) (T5.setTop (mkF m 36 #[.val (.ref a), .val (.ref b), .val (.int (Int32.ofNat o)), .val (.int (Int32.ofNat len)), .val .null, .unset] [.int (Int32.ofNat len), .int (Int32.ofNat o), .ref b])) := c6.trans (by
    refine XS.ifNo X5.here hexec rfl (hb hbytes d30) rfl (i0_eq_f hz) ?_
    refine XS.aloadN X5.here hexec rfl (hb hbytes d33) rfl rfl ?_
    refine XS.iloadN X5.here hexec rfl (hb hbytes d34) rfl ?_
    refine XS.iloadN X5.here hexec rfl (hb hbytes d35) rfl ?_
    exact Steps.refl _)
  obtain ⟨v8, T8, X8, E8, g8⟩ := X5.callS hexec (Cmp3.law l b A o len) hown (wks W (staticW "java/lang/String" 177 Cmp3.yN)) (wk W Cmp3.tab) (W := 0) (Nat.le_of_ble_eq_true rfl) (Nat.le_of_ble_eq_true rfl) (Nat.le_refl _) (by show 0 + len ≤ len; omega) (g := (mkF m 36 #[.val (.ref a), .val (.ref b), .val (.int (Int32.ofNat o)), .val (.int (Int32.ofNat len)), .val .null, .unset] [.int (Int32.ofNat len), .int (Int32.ofNat o), .ref b])) rfl (by rw [hml]; rfl) c7 (argsL := [.ref b, .int (Int32.ofNat o), .int (Int32.ofNat len)]) (rest := []) rfl rfl (by show 2 * 0 + 0 ≤ _; decide) (hb hbytes d36) (⟨rfl, hA.mv X5.warmed.alike hh5, l1, l2, hp⟩)
  obtain ⟨e8, z8⟩ := E8
  obtain ⟨rfl, N, n1, n2, n3, n4, n5, n6⟩ := NewArr.mv _ T5 s _ _ hh5.symm (Vm.Alike.refl _) rfl e8
  rw [hh5] at z8
  have hB1 := hB.keep X8.warmed.alike (n6 _ _ hB.1)
  have hne : s.heap.size ≠ a := (Nat.ne_of_lt (Array.getElem?_eq_some_iff.mp hB.1).1).symm
  have c9 : Steps p.tables e below (s₁.setTop (entryFrame m #[.ref a, .ref b, .int (Int32.ofNat o), .int (Int32.ofNat len), .null] 6)) (T8.setTop (mkF m 39 #[.val (.ref a), .val (.ref b), .val (.int (Int32.ofNat o)), .val (.int (Int32.ofNat len)), .val .null, .unset] [.ref s.heap.size])) := g8
  have c10 : Steps p.tables e below (s₁.setTop (entryFrame m #[.ref a, .ref b, .int (Int32.ofNat o), .int (Int32.ofNat len), .null] 6)) (T8.setTop (mkF m 45 #[.val (.ref a), .val (.ref b), .val (.int (Int32.ofNat o)), .val (.int (Int32.ofNat len)), .val .null, .val (.ref s.heap.size)] [.int (Int32.ofNat N.slots.size), .ref s.heap.size, .ref a])) := by
    have hc : Steps p.tables e below (s₁.setTop (entryFrame m #[.ref a, .ref b, .int (Int32.ofNat o), .int (Int32.ofNat len), .null] 6)) (T8.setTop (mkF m 45 #[.val (.ref a), .val (.ref b), .val (.int (Int32.ofNat o)), .val (.int (Int32.ofNat len)), .val .null, .val (.ref s.heap.size)] [.int (Int32.ofNat len), .ref s.heap.size, .ref a])) := c9.trans (by
      refine XS.astore X8.here hexec rfl (hb hbytes d39) rfl rfl rfl ?_
      refine XS.aloadN X8.here hexec rfl (hb hbytes d41) rfl rfl ?_
      refine XS.aload X8.here hexec rfl (hb hbytes d42) rfl rfl ?_
      refine XS.iloadN X8.here hexec rfl (hb hbytes d44) rfl ?_
      exact Steps.refl _)
    rw [n4]; exact hc
  obtain ⟨v11, T11, X11, E11, g11⟩ := X8.callS hexec (CodL.law l s.heap.size N) hown (wks W (staticW "java/lang/String" 47 CodL.yN)) (wk W CodL.tab) (W := 1) (Nat.le_of_ble_eq_true rfl) (Nat.le_of_ble_eq_true rfl) (Nat.le_refl _) (by show 0 + len + 0 ≤ len; omega) (g := (mkF m 45 #[.val (.ref a), .val (.ref b), .val (.int (Int32.ofNat o)), .val (.int (Int32.ofNat len)), .val .null, .val (.ref s.heap.size)] [.int (Int32.ofNat N.slots.size), .ref s.heap.size, .ref a])) rfl (by rw [hml]; rfl) c10 (argsL := [.ref s.heap.size, .int (Int32.ofNat N.slots.size)]) (rest := [.ref a]) rfl rfl (by show 2 * 0 + (1 + 0) ≤ _; decide) (hb hbytes d45) (⟨rfl, n1⟩)
  obtain ⟨rfl, q11⟩ := E11
  have hB11 := hB1.mv (X8.warmed.alike.symm.trans X11.warmed.alike) q11
  have c12 : Steps p.tables e below (s₁.setTop (entryFrame m #[.ref a, .ref b, .int (Int32.ofNat o), .int (Int32.ofNat len), .null] 6)) (T11.setTop (mkF m 48 #[.val (.ref a), .val (.ref b), .val (.int (Int32.ofNat o)), .val (.int (Int32.ofNat len)), .val .null, .val (.ref s.heap.size)] [.int 0, .ref a])) := g11
  obtain ⟨T13, X13, p13, bl13, sl13, st13⟩ := X11.finit hexec hown (wk W (.fieldLink "java/lang/String" 15 "java/lang/String" "coder" "B")) (Or.inr ⟨_, (wk W (.laysFinal "java/lang/String" "java/lang/String" "coder" "B"))⟩) (Or.inl ⟨rfl, hnm⟩) f2 (Or.inl rfl) hB11 (t := .byte) (by decide +kernel) rfl (g := (mkF m 48 #[.val (.ref a), .val (.ref b), .val (.int (Int32.ofNat o)), .val (.int (Int32.ofNat len)), .val .null, .val (.ref s.heap.size)] [.int 0, .ref a])) rfl (rest := []) rfl (hb hbytes d48)
  have c14 : Steps p.tables e below (s₁.setTop (entryFrame m #[.ref a, .ref b, .int (Int32.ofNat o), .int (Int32.ofNat len), .null] 6)) (T13.setTop (mkF m 54 #[.val (.ref a), .val (.ref b), .val (.int (Int32.ofNat o)), .val (.int (Int32.ofNat len)), .val .null, .val (.ref s.heap.size)] [.ref s.heap.size, .ref a])) := (c12.trans (st13 _ (Steps.refl _))).trans (by
    refine XS.aloadN X13.here hexec rfl (hb hbytes d51) rfl rfl ?_
    refine XS.aload X13.here hexec rfl (hb hbytes d52) rfl rfl ?_
    exact Steps.refl _)
  obtain ⟨T15, X15, p15, bl15, sl15, st15⟩ := X13.finit hexec hown (wk W (.fieldLink "java/lang/String" 9 "java/lang/String" "value" "[B")) (Or.inr ⟨_, (wk W (.laysFinal "java/lang/String" "java/lang/String" "value" "[B"))⟩) (Or.inl ⟨rfl, hnm⟩) f1 (Or.inl rfl) bl13 (t := (.array .byte)) (by decide +kernel) rfl (g := (mkF m 54 #[.val (.ref a), .val (.ref b), .val (.int (Int32.ofNat o)), .val (.int (Int32.ofNat len)), .val .null, .val (.ref s.heap.size)] [.ref s.heap.size, .ref a])) rfl (rest := []) rfl (hb hbytes d54)
  have c16 : Steps p.tables e below (s₁.setTop (entryFrame m #[.ref a, .ref b, .int (Int32.ofNat o), .int (Int32.ofNat len), .null] 6)) (T15.setTop (mkF m 57 #[.val (.ref a), .val (.ref b), .val (.int (Int32.ofNat o)), .val (.int (Int32.ofNat len)), .val .null, .val (.ref s.heap.size)] [])) := c14.trans (st15 _ (Steps.refl _))
  have ap := apart (Or.inr ⟨_, (wk W (.laysFinal "java/lang/String" "java/lang/String" "value" "[B"))⟩) (Or.inr ⟨_, (wk W (.laysFinal "java/lang/String" "java/lang/String" "coder" "B"))⟩) f1 f2 (t₁ := .array .byte) (t₂ := .byte) (by decide +kernel) (by decide +kernel) (by decide)
  have al := X8.warmed.alike.symm.trans X15.warmed.alike
  have n7 : T11.heap[s.heap.size]? = some N := by rw [q11]; exact n1.1
  exact ⟨T15, none, _, _, _, X15, by simp, rfl, by omega, (fun _ => rfl), ⟨rfl, _, N, bl15, ((Same.refl D _).set _ (by simp)).set _ (by simp), sl15, (Cell.slots_setSlot_ne _ ap).trans sl13, n1.keep al (p15.other hne (p13.other hne n7)), n2, by rw [al.findClass]; exact n3, n4, n5, fun y c h1 h2 => p15.other h1 (p13.other h1 (by rw [q11]; exact n6 y c h2)), by rw [p15.2.2, p13.2.2, q11]; exact z8⟩, fun fs hl => c16.trans (X15.returnOut hexec hret (hb hbytes d57) hl)⟩
end New4
namespace New1
def yN : MethodName := ⟨"java/lang/String", "<init>", "([C)V"⟩
abbrev yB : ByteArray := jdk_42_method_3_code
theorem d0 : decode yB 0 = .ok (.aload_n 0, 1) := by decide +kernel
theorem d1 : decode yB 1 = .ok (.aload_n 1, 1) := by decide +kernel
theorem d2 : decode yB 2 = .ok (.iconst 0, 1) := by decide +kernel
theorem d3 : decode yB 3 = .ok (.aload_n 1, 1) := by decide +kernel
theorem d4 : decode yB 4 = .ok (.arraylength, 1) := by decide +kernel
theorem d5 : decode yB 5 = .ok (.aconst_null, 1) := by decide +kernel
theorem d6 : decode yB 6 = .ok (.invokespecial 27, 3) := by decide +kernel
theorem d9 : decode yB 9 = .ok (.return_, 1) := by decide +kernel
def site : List Cond := [New4.tab] ++ initW "java/lang/String" 27 New4.yN
def tab : Cond := tabOf yN yB 2 none site
def P (a : Addr) (D : Cell) (fV fC : Field) (b : Addr) (A : Cell) (z : Int32) (args : Array Value) (s : State) : Prop := args = #[.ref a, .ref b] ∧ Blank "java/lang/String" a D s ∧ Found "java/lang/String" "value" "[B" fV s ∧ Found "java/lang/String" "coder" "B" fC s ∧ Ch b A s ∧ StaticIs s "java/lang/String" "COMPACT_STRINGS" "Z" (.int z) ∧ ¬ z = 0 ∧ 0 < A.slots.size ∧ A.slots.size ≤ 536870912 ∧ ∀ i, i < A.slots.size → ¬ 255 < cv A i
def E (a : Addr) (D : Cell) (fV fC : Field) (A : Cell) (r : Option Value) (s u : State) : Prop := Got a D fV fC A 0 A.slots.size r s u
/-- new String(chars), not empty, no char above 255: a Latin-1 String of their low bytes -/
theorem law (l : Launch) (a : Addr) (D : Cell) (fV fC : Field) (b : Addr) (A : Cell) (z : Int32) : Law l yN 2 1 3 52 yB 2 none site (P a D fV fC b A z) (E a D fV fC A) [⟨a, fC.slot⟩, ⟨a, fV.slot⟩] 1 A.slots.size := by
  refine Law.of_walk (plainFor_of_name (by decide +kernel)) (by decide +kernel) (by decide +kernel) (by decide) (fun _ _ h => by rw [h.1]; rfl) (fun _ U U' hal hh h => ⟨h.1, h.2.1.mv hal hh, h.2.2.1.al hal, h.2.2.2.1.al hal, h.2.2.2.2.1.mv hal hh, h.2.2.2.2.2.1.there hal hh, h.2.2.2.2.2.2⟩) (fun r U U' V V' h1 hal h2 h => Got.mv r U U' V V' h1 hal h2 h) ?_
  intro p e s m args below meth c s₁ X0 hexec hbytes hml hret hlk hnm hown hh0 W hP
  obtain ⟨rfl, hB, f1, f2, hA, s1, hz, l0, l2, hp⟩ := hP
  have c1 : Steps p.tables e below (s₁.setTop (entryFrame m #[.ref a, .ref b] 2)) (s₁.setTop (mkF m 0 #[.val (.ref a), .val (.ref b)] [])) := entry rfl
  have c2 : Steps p.tables e below (s₁.setTop (entryFrame m #[.ref a, .ref b] 2)) (s₁.setTop (mkF m 6 #[.val (.ref a), .val (.ref b)] [.null, .int (Int32.ofNat A.slots.size), .int 0, .ref b, .ref a])) := c1.trans (by
    refine XS.aloadN X0.here hexec rfl (hb hbytes d0) rfl rfl ?_
    refine XS.aloadN X0.here hexec rfl (hb hbytes d1) rfl rfl ?_
    refine iconstV X0.here hexec rfl 0 (hb hbytes d2) (by decide) ?_
    refine XS.aloadN X0.here hexec rfl (hb hbytes d3) rfl rfl ?_
    refine X0.alen hexec (hA.1.mv X0.warmed.alike hh0) rfl rfl (hb hbytes d4) ?_
    refine XS.aconstNull X0.here hexec rfl (hb hbytes d5) ?_
    exact Steps.refl _)
  obtain ⟨v3, T3, X3, E3, g3⟩ := X0.callN hexec (New4.law l a D fV fC b A z 0 A.slots.size) rfl hown (wks W (initW "java/lang/String" 27 New4.yN)) (W New4.tab (by simp only [site, List.mem_cons, List.mem_append, true_or, or_true])) (W := 0) (Nat.le_of_ble_eq_true rfl) (Nat.le_of_ble_eq_true rfl) (Nat.le_refl _) (by show 0 + A.slots.size ≤ A.slots.size; omega) (g := (mkF m 6 #[.val (.ref a), .val (.ref b)] [.null, .int (Int32.ofNat A.slots.size), .int (Int32.ofNat 0), .ref b, .ref a])) rfl (by rw [hml]; rfl) c2 (argsL := [.ref b, .int (Int32.ofNat 0), .int (Int32.ofNat A.slots.size), .null]) (rest := []) rfl rfl (by show 2 * 0 + 0 ≤ _; decide) (hb hbytes d6) (⟨rfl, hB.mv X0.warmed.alike hh0, f1.al X0.warmed.alike, f2.al X0.warmed.alike, hA.mv X0.warmed.alike hh0, s1.there X0.warmed.alike hh0, hz, l0, by omega, l2, fun i hi => by rw [Nat.zero_add]; exact hp i hi⟩)
  have e0 := Got.mv _ s₁ s _ _ hh0.symm (Vm.Alike.refl _) rfl E3
  obtain rfl := e0.1
  have c4 : Steps p.tables e below (s₁.setTop (entryFrame m #[.ref a, .ref b] 2)) (T3.setTop (mkF m 9 #[.val (.ref a), .val (.ref b)] [])) := g3
  exact ⟨T3, none, _, _, _, X3, by simp, rfl, by omega, (fun _ => rfl), e0, fun fs hl => c4.trans (X3.returnOut hexec hret (hb hbytes d9) hl)⟩
theorem pays {l : Launch} {R : Room} {p : Program} {e : Env} {below : List Frame} {s : State} {sargs : Array Value} {len W : Nat} (a : Addr) (D : Cell) (fV fC : Field) (b : Addr) (A : Cell) (z : Int32) (htab : tab.before sargs s = true) (hfr : 4 ≤ R.frames) (hlo : W + 65 ≤ R.locals) :
    Back l R p e below s sargs yN len W (fun A₁ a₁ => A₁.cells + 1 ≤ R.cells ∧ A₁.slots + A.slots.size ≤ R.slots ∧ P a D fV fC b A z a₁ A₁.U) (fun A₁ _ v₁ B₁ => E a D fV fC A v₁ A₁.U B₁.U ∧ B₁.locs = A₁.locs ++ [⟨a, fC.slot⟩, ⟨a, fV.slot⟩] ∧ B₁.cells = A₁.cells + 1 ∧ B₁.slots = A₁.slots + A.slots.size) :=
  (law l a D fV fC b A z).pays htab hfr (by omega)
end New1
/-- the byte, read back as charAt reads it, is the char -/
theorem lo8_mask {x : Int32} (h0 : ¬ x < 0) (h1 : ¬ 255 < x) : lo8 x &&& 255 = x := by
  have t : ∀ k : Fin 256, lo8 (Int32.ofNat k.val) &&& 255 = Int32.ofNat k.val := by decide +kernel
  rw [Int32.lt_iff_toInt_lt] at h0 h1
  have e0 : (0 : Int32).toInt = 0 := rfl
  have e1 : (255 : Int32).toInt = 255 := rfl
  obtain ⟨k, hk⟩ : ∃ k : Nat, x.toInt = k := ⟨x.toInt.toNat, by omega⟩
  have hx : x = Int32.ofNat k := Int32.toInt_inj.mp (by rw [hk, Int32.toInt_ofNat_small (by omega)])
  rw [hx]
  exact t ⟨k, by omega⟩
end StrChars
namespace StrChars.Road
open Jvm Sem ClassFile Op Lib Jvm.Stand Jvm.Free Jvm.Free.XT
open Jvm.Lib.Cold (StaticIs)
abbrev ST : String := "java/lang/String"
/-- every table word that New1's law asks, flat -/
abbrev words : List Jvm.Cond := [.code New1.yN New1.yB 2 none, .initialized ST, .methodLink ST 27 New4.yN, .instanceMethod New4.yN,
  .code New4.yN New4.yB 6 none, .fieldLink ST 38 ST "COMPACT_STRINGS" "Z", .laysFinal ST ST "value" "[B", .fieldLink ST 9 ST "value" "[B", .laysFinal ST ST "coder" "B", .fieldLink ST 15 ST "coder" "B",
  .methodLink ST 1 Lib.objectInit, .instanceMethod Lib.objectInit, .code Lib.objectInit ⟨#[0xb1]⟩ 1 none, .methodLink ST 177 Cmp3.yN, .static Cmp3.yN, .methodLink ST 47 CodL.yN, .static CodL.yN,
  .code Cmp3.yN Cmp3.yB 6 (some (.array .byte)), .initialized U16, .arrayClass .byte, .methodLink U16 115 Cmp5.yN, .static Cmp5.yN, .code Cmp5.yN Cmp5.yB 7 (some .int), .code CodL.yN CodL.yB 2 (some .byte)]
theorem tab_of {a : Array Value} {s : State} (h : ∀ w ∈ words, w.before a s = true) : New1.tab.before a s = true := by
  have h5 : Cmp5.tab.before a s = true := unparts (wk h (.code Cmp5.yN Cmp5.yB 7 (some .int))) (wks h (.initialized Cmp5.yN.cls :: Cmp5.site))
  have hc : CodL.tab.before a s = true := unparts (wk h (.code CodL.yN CodL.yB 2 (some .byte))) (wks h (.initialized CodL.yN.cls :: CodL.site))
  have q5 : ∀ w ∈ Cmp5.tab :: words, w.before a s = true := fun w hw => (List.mem_cons.mp hw).elim (fun e => e ▸ h5) (h w)
  have h3 : Cmp3.tab.before a s = true := unparts (wk q5 (.code Cmp3.yN Cmp3.yB 6 (some (.array .byte)))) (wks q5 (.initialized Cmp3.yN.cls :: Cmp3.site))
  have q3 : ∀ w ∈ Cmp3.tab :: CodL.tab :: words, w.before a s = true := fun w hw => (List.mem_cons.mp hw).elim (fun e => e ▸ h3) fun hw => (List.mem_cons.mp hw).elim (fun e => e ▸ hc) (h w)
  have h4 : New4.tab.before a s = true := unparts (wk q3 (.code New4.yN New4.yB 6 none)) (wks q3 (.initialized New4.yN.cls :: New4.site))
  have q4 : ∀ w ∈ New4.tab :: words, w.before a s = true := fun w hw => (List.mem_cons.mp hw).elim (fun e => e ▸ h4) (h w)
  exact unparts (wk q4 (.code New1.yN New1.yB 2 none)) (wks q4 (.initialized New1.yN.cls :: New1.site))
/-- the words ride from the start Z to the walk's own state -/
theorem moved {Z s : State} {a0 args : Array Value} (hZ : Z.Warmed39 s.vm) (hw : ∀ d ∈ words, d.before a0 Z = true) : ∀ d ∈ words, d.before args s = true := fun d hd => by
  have q := hw d hd
  have t : ∀ d ∈ words, d = .arrayClass .byte ∨ (d.onTables && d.keepsFace) = true := by decide +kernel
  rcases t d hd with rfl | t
  · exact RoadKit.mvA hZ q
  · exact RoadKit.mv hZ q t
/-- WHAT COMES BACK, over the tables of the start Z: h the heap at the call, h' behind it -/
def Q (Z : State) (x : Addr) (A : Cell) (h : Heap) (v : Option Value) (h' : Heap) (L : List Loc) : Prop := v = none ∧ (∀ y ∈ L, y.base = x) ∧ RoadKit.Keep h h' [x] ∧ h'.size = h.size + 1 ∧ RoadKit.Exa Z h' x ST ∧ RoadKit.Fld Z h' x ST "value" "[B" (.ref h.size) ∧ RoadKit.Fld Z h' x ST "coder" "B" (.int 0) ∧
  (∃ V : Cell, RoadKit.Arr Z h' h.size V .byte ∧ V.vm = .none ∧ Z.vm.findClass "[B" = some V.cls ∧ V.slots.size = A.slots.size ∧ ∀ j, j < A.slots.size → V.slots[j]? = some (.int (lo8 (cv A j)))) ∧
  ∀ (O n d : String) (w : Value), RoadKit.Fld Z h x O n d w → RoadKit.slotOf Z O n d ≠ RoadKit.slotOf Z ST "value" "[B" → RoadKit.slotOf Z O n d ≠ RoadKit.slotOf Z ST "coder" "B" → RoadKit.Fld Z h' x O n d w
/-- **new String(chars) AT A CALL, IN THE ROAD'S FORM**: for specialBack behind newO: x the fresh String, b the char[] with the cell A -/
theorem back {p : Program} {l : Launch} {e : Env} {R : Room} {s : State} {args : Array Value} {below : List Frame} {len W : Nat} {Z : State} {a0 : Array Value} {h : Heap} (hZ : Z.Warmed39 s.vm) (hw : ∀ d ∈ words, d.before a0 Z = true) {kI : Nat} (wi : (Jvm.Cond.instantiable ST kI).before a0 Z = true)
    {x b : Addr} {A : Cell} {z : Int32} {v0 c0 : Value} (E : RoadKit.Exa Z h x ST) (V : RoadKit.Fld Z h x ST "value" "[B" v0) (C : RoadKit.Fld Z h x ST "coder" "B" c0) (K : RoadKit.Arr Z h b A .char) (hty : Typed .char A) (S : RoadKit.Sta Z h ST "COMPACT_STRINGS" "Z" (.int z)) (hz : ¬ z = 0)
    (l0 : 0 < A.slots.size) (l2 : A.slots.size ≤ 536870912) (hp : ∀ i, i < A.slots.size → ¬ 255 < cv A i) (hfr : 4 ≤ R.frames) (hlo : W + 65 ≤ R.locals) :
    Back l R p e below s args New1.yN len W (fun P a => a = #[.ref x, .ref b] ∧ P.U.heap = h ∧ P.cells + 1 ≤ R.cells ∧ P.slots + A.slots.size ≤ R.slots)
      (fun P _ v B => ∃ L, Q Z x A h v B.U.heap L ∧ B.locs = P.locs ++ L ∧ B.cells = P.cells + 1 ∧ B.slots = P.slots + A.slots.size) := by
  intro m meth c P g ig mk a X hg hsize hdg hW hn hp'
  obtain ⟨rfl, rfl, r1, r2⟩ := hp'
  have al : Z.vm.Alike P.U.vm := hZ.alike.trans X.warmed.alike
  obtain ⟨D, cfV, kV, iV, fV, hD, gV, stV, knV, obV, asV, slV⟩ := id V
  obtain ⟨D', cfC, kC, iC, fC, hD', gC, stC, -, -, asC, slC⟩ := id C
  cases hD.symm.trans hD'
  obtain ⟨D2, kD, e1, e2, e3, e4, e5⟩ := id E
  cases hD.symm.trans e1
  obtain ⟨c2, k2, i1, i2, i3, -⟩ := Cond.instantiable_spec wi
  cases e2.symm.trans i1
  cases e3.symm.trans i2
  obtain ⟨kU, u1, u2⟩ := al.2.2 _ _ e3
  have hB : Blank ST x D P.U := ⟨hD, ⟨knV, fun q hq => by rw [hq] at obV; cases obV⟩, by rw [al.findClass]; exact e2, kU, u1, by rw [u2]; exact i3, by rw [u2]; exact e5 i3⟩
  have F1 : Found ST "value" "[B" fV P.U := ⟨SBG.found_only al ⟨cfV, kV, iV, gV⟩, stV⟩
  have F2 : Found ST "coder" "B" fC P.U := ⟨SBG.found_only al ⟨cfC, kC, iC, gC⟩, stC⟩
  have hA : Ch b A P.U := ⟨⟨K.1, State.isArrayOf_alike al K.2.1, K.2.2, by omega⟩, hty⟩
  have hS : StaticIs P.U ST "COMPACT_STRINGS" "Z" (.int z) := by
    obtain ⟨cfS, iS, kS, fS, st, cS, t1, t2, t3, t4, t5, t6, t7⟩ := S
    exact StaticIs.there (s := { Z with heap := P.U.heap }) ⟨cfS, iS, kS, fS, st, cS, t1, t2, t3, t4, t5, (fun q => by rw [q] at t6; cases t6), t7⟩ al rfl
  obtain ⟨v, B, X', ⟨⟨hv, E', V', q1, q2, q3, q4, q5, q6, q7, q8, q9, q10, q11⟩, hl, hc, hs⟩, st⟩ := New1.pays x D fV fC b A z (tab_of (moved hZ hw)) hfr hlo m meth c P g ig mk _ X hg hsize hdg hW hn ⟨r1, r2, rfl, hB, F1, F2, hA, hS, hz, l0, l2, hp⟩
  have al' : Z.vm.Alike B.U.vm := hZ.alike.trans X'.warmed.alike
  have hsz : E'.slots.size = D.slots.size := by
    obtain ⟨-, -, -, kB, w1, w2, w3⟩ := q1
    obtain ⟨kB', y1, y2⟩ := al'.2.2 _ _ e3
    rw [q2.2.1] at w1
    cases w1.symm.trans y1
    rw [w3, e5 i3, y2]
  refine ⟨v, B, X', ⟨_, ⟨hv, ?_, ⟨by omega, fun y cy hy hn' => q10 y cy (by simpa using hn') hy, fun y cy hy => ?_⟩, q11, ⟨E', _, q1.1, by rw [q2.2.1]; exact e2, by rw [q2.2.1]; exact e3, by rw [q2.1]; exact obV, fun _ => by rw [hsz]; exact e5 i3⟩,
    ⟨E', cfV, kV, iV, fV, q1.1, gV, stV, by rw [q2.1]; exact knV, by rw [q2.1]; exact obV, by rw [q2.2.1]; exact asV, q3⟩, ⟨E', cfC, kC, iC, fC, q1.1, gC, stC, by rw [q2.1]; exact knV, by rw [q2.1]; exact obV, by rw [q2.2.1]; exact asC, q4⟩,
    ⟨V', ⟨q5.1, State.isArrayOf_alike al'.symm q5.2.1, q5.2.2.1⟩, q6, by rw [← al'.findClass]; exact q7, q8, fun j hj => by have := q9 j hj; rwa [Nat.zero_add] at this⟩, fun O n d w F n1 n2 => ?_⟩, hl, hc, hs⟩, st⟩
  · intro y hy
    simp only [List.mem_cons, List.not_mem_nil, or_false] at hy
    rcases hy with rfl | rfl <;> rfl
  · by_cases q : y = x
    · subst q
      cases hD.symm.trans hy
      exact ⟨E', q1.1, q2.2.1, q2.1, hsz⟩
    · exact ⟨cy, q10 y cy q hy, rfl, rfl, rfl⟩
  · obtain ⟨D3, cf, k, i, f, g1, g2, g3, g4, g5, g6, g7⟩ := F
    cases hD.symm.trans g1
    simp only [RoadKit.slotOf, g2, gV, gC, Option.map_some, Option.getD_some] at n1 n2
    exact ⟨E', cf, k, i, f, q1.1, g2, g3, by rw [q2.1]; exact g4, by rw [q2.1]; exact g5, by rw [q2.2.1]; exact g6, by rw [q2.2.2 f.slot (by simp [n1, n2])]; exact g7⟩
end StrChars.Road
namespace StrChars.Road
open Jvm Sem ClassFile Op Lib Jvm.Stand Jvm.Free Jvm.Free.XT
/-- WHAT COMES BACK, the byte[] as a list of values -/
def QA (Z : State) (x : Addr) (zn : Int32) (cs : List Int32) (h : Heap) (v : Option Value) (h' : Heap) (L : List Loc) : Prop := v = none ∧ (∀ y ∈ L, y.base = x) ∧ RoadKit.Keep h h' [x] ∧ h'.size = h.size + 1 ∧ RoadKit.Exa Z h' x ST ∧ RoadKit.Fld Z h' x ST "value" "[B" (.ref h.size) ∧ RoadKit.Fld Z h' x ST "coder" "B" (.int 0) ∧
  (∃ kb, Z.vm.findClass "[B" = some kb ∧ RoadKit.Arv Z h' h.size kb .byte zn (cs.map fun c => .int (lo8 c)) (.int 0)) ∧
  ∀ (O n d : String) (w : Value), RoadKit.Fld Z h x O n d w → RoadKit.slotOf Z O n d ≠ RoadKit.slotOf Z ST "value" "[B" → RoadKit.slotOf Z O n d ≠ RoadKit.slotOf Z ST "coder" "B" → RoadKit.Fld Z h' x O n d w
/-- **new String(chars) AT A CALL, THE ARRAYS AS LISTS**: the char[] at b holds cs, not empty, no char above 255 -/
theorem backArv {p : Program} {l : Launch} {e : Env} {R : Room} {s : State} {args : Array Value} {below : List Frame} {len W : Nat} {Z : State} {a0 : Array Value} {h : Heap} (hZ : Z.Warmed39 s.vm) (hw : ∀ d ∈ words, d.before a0 Z = true) {kI : Nat} (wi : (Jvm.Cond.instantiable ST kI).before a0 Z = true)
    {x b : Addr} {k : ClassId} {zn z : Int32} {cs : List Int32} {dv v0 c0 : Value} (E : RoadKit.Exa Z h x ST) (V : RoadKit.Fld Z h x ST "value" "[B" v0) (C : RoadKit.Fld Z h x ST "coder" "B" c0) (K : RoadKit.Arv Z h b k .char zn (cs.map Value.int) dv) (S : RoadKit.Sta Z h ST "COMPACT_STRINGS" "Z" (.int z)) (hz : ¬ z = 0)
    (hlen : zn.toNatClampNeg = cs.length) (h0 : 0 < cs.length) (hbig : cs.length ≤ 536870912) (hall : ∀ c ∈ cs, ¬ 255 < c) (hfr : 4 ≤ R.frames) (hlo : W + 65 ≤ R.locals) :
    Back l R p e below s args New1.yN len W (fun P a => a = #[.ref x, .ref b] ∧ P.U.heap = h ∧ P.cells + 1 ≤ R.cells ∧ P.slots + cs.length ≤ R.slots)
      (fun P _ v B => ∃ L, QA Z x zn cs h v B.U.heap L ∧ B.locs = P.locs ++ L ∧ B.cells = P.cells + 1 ∧ B.slots = P.slots + cs.length) := by
  obtain ⟨A, K1, K2, K3, K4, K5, K6⟩ := K
  have e : A.slots.size = cs.length := K3.trans hlen
  have hat : ∀ (i : Nat) (hi : i < cs.length), A.slots[i]? = some (.int cs[i]) := fun i hi => by rw [K5 i (by omega)]; simp [List.getD_eq_getElem?_getD, hi]
  have hcv : ∀ (i : Nat) (hi : i < cs.length), cv A i = cs[i] := fun i hi => by unfold cv; rw [hat i hi]
  have hty : Typed .char A := fun i v hv => by
    have hi : i < A.slots.size := (Array.getElem?_eq_some_iff.mp hv).1
    have q := K5 i hi
    rw [hv] at q
    rw [Option.some.inj q]
    exact K6 i hi
  refine Back.mono (back hZ hw wi E V C K1 hty S hz (by omega) (by omega) (fun i hi => by rw [hcv i (by omega)]; exact hall _ (List.getElem_mem _)) hfr hlo) (fun P a hp => ⟨hp.1, hp.2.1, hp.2.2.1, by rw [e]; exact hp.2.2.2⟩) (fun P a v B hp hq => ?_)
  obtain ⟨L, ⟨q1, q2, q3, q4, q5, q6, q7, ⟨V', v1, v2, v3, v4, v5⟩, q9⟩, hl, hc, hs⟩ := hq
  refine ⟨L, ⟨q1, q2, q3, q4, q5, q6, q7, ⟨V'.cls, v3, V', v1, rfl, by rw [v4, e, hlen], K4, fun i hi => ?_, fun i hi => ?_⟩, q9⟩, hl, hc, by rw [hs, e]⟩
  · have hi' : i < cs.length := by omega
    rw [v5 i (by omega), hcv i hi']; simp [List.getD_eq_getElem?_getD, hi']
  · have hi' : i < cs.length := by omega
    simp only [List.getD_eq_getElem?_getD, List.getElem?_map, List.getElem?_eq_getElem hi', Option.map_some, Option.getD_some]
    exact fits_lo8 _
end StrChars.Road
namespace StrChars.Road
open Jvm Sem ClassFile Op Lib Jvm.Stand Jvm.Free Jvm.Free.XT
/-- WHAT COMES BACK, in the writer's own shape -/
def QV (Z : State) (x : Addr) (N : Int32) (bs : List Int32) (h : Heap) (n0 : Nat) (v : Option Value) (h' : Heap) (L : List Loc) : Prop := v = none ∧ RoadKit.Fr n0 L ∧ RoadKit.Keep h h' [x] ∧ RoadKit.Exa Z h' x ST ∧ RoadKit.Fld Z h' x ST "coder" "B" (.int 0) ∧
  ∃ (t : Addr) (kb : ClassId), n0 ≤ t ∧ h.size ≤ t ∧ ¬ t = x ∧ RoadKit.Fld Z h' x ST "value" "[B" (.ref t) ∧ RoadKit.Arv Z h' t kb .byte N (bs.map Value.int) (.int 0)
/-- **new String(chars) AT A CALL, FOR THE WRITER**: a char[] of n known ints, each 0 to 255 -/
theorem backV {p : Program} {l : Launch} {e : Env} {R : Room} {s : State} {args : Array Value} {below : List Frame} {len W : Nat} {Z : State} {a0 : Array Value} {h : Heap} (hZ : Z.Warmed39 s.vm) (hw : ∀ d ∈ words, d.before a0 Z = true) {kI : Nat} (wi : (Jvm.Cond.instantiable ST kI).before a0 Z = true)
    {x b : Addr} {kC : ClassId} {cs bs : List Int32} {d v0 c0 : Value} {z N : Int32} {n n0 : Nat} (hx0 : n0 ≤ x) (hh0 : n0 ≤ h.size) (E : RoadKit.Exa Z h x ST) (V : RoadKit.Fld Z h x ST "value" "[B" v0) (C : RoadKit.Fld Z h x ST "coder" "B" c0) (K : RoadKit.Arv Z h b kC .char N (cs.map Value.int) d) (S : RoadKit.Sta Z h ST "COMPACT_STRINGS" "Z" (.int z)) (hz : ¬ z = 0)
    (hn : cs.length = n) (hN : N = Int32.ofNat n) (l0 : 0 < n) (l2 : n ≤ 4000) (hp : ∀ c ∈ cs, ¬ c < 0 ∧ ¬ (255 : Int32) < c) (hb : bs = cs.map (fun c => c.toInt8.toInt32)) (hfr : 4 ≤ R.frames) (hlo : W + 65 ≤ R.locals) :
    Back l R p e below s args (⟨"java/lang/String", "<init>", "([C)V"⟩ : MethodName) len W (fun P a => a = #[.ref x, .ref b] ∧ P.U.heap = h ∧ P.cells + 1 ≤ R.cells ∧ P.slots + n ≤ R.slots)
      (fun P _ v B => ∃ L, QV Z x N bs h n0 v B.U.heap L ∧ B.locs = P.locs ++ L ∧ B.cells = P.cells + 1 ∧ B.slots = P.slots + n) := by
  subst hn hN hb
  refine Back.mono (backArv hZ hw wi E V C K S hz (n32 (by omega)) l0 (by omega) (fun c hc => (hp c hc).2) hfr hlo) (fun P a hp => hp) (fun P a v B hp hq => ?_)
  obtain ⟨L, ⟨q1, q2, q3, q4, q5, q6, q7, ⟨kb, v1, v2⟩, q9⟩, hl, hc, hs⟩ := hq
  exact ⟨L, ⟨q1, fun y hy => by rw [q2 y hy]; exact hx0, q3, q5, q7, h.size, kb, hh0, Nat.le_refl _, Nat.ne_of_gt E.lt, q6, by rw [List.map_map]; exact v2⟩, hl, hc, hs⟩
end StrChars.Road
namespace StrChars
open Jvm Sem ClassFile Op Lib Jvm.Stand Jvm.Free.XT Jvm.Free.ALB Jvm.Free.JM Jvm.Free
open Jvm.Lib.Cold (StaticIs)
def hi8 (x : Int32) : Int32 := lo8 (x >>> ((8 : Int32) &&& 31))
/-- what StringUTF16.getChar makes of two bytes -/
def pairCh (u v : Int32) : Int32 := (((u &&& 255) <<< ((0 : Int32) &&& 31)) ||| ((v &&& 255) <<< ((8 : Int32) &&& 31))).toUInt32.toUInt16.toUInt32.toInt32
theorem shr0 (c : Int32) : c >>> ((0 : Int32) &&& 31) = c := by
  have e : ((0 : Int32) &&& 31) = 0 := by decide
  rw [e]
  apply Int32.toBitVec_inj.mp
  rw [Int32.toBitVec_shiftRight]
  have e1 : ((0 : Int32).toBitVec.smod 32) = 0#32 := by decide
  rw [e1, BitVec.sshiftRight_eq']
  exact BitVec.sshiftRight_zero
theorem lo8_and (x : Int32) : (lo8 x &&& 255).toBitVec.toNat = x.toBitVec.toNat % 256 := by
  have h : (lo8 x).toBitVec = (x.toBitVec.signExtend 8).signExtend 32 := by rw [lo8, Int8.toBitVec_toInt32, Int32.toBitVec_toInt8]
  rw [Int32.toBitVec_and, BitVec.toNat_and, h]
  have e : ((x.toBitVec.signExtend 8).signExtend 32).toNat % 256 = x.toBitVec.toNat % 256 := by
    rw [BitVec.toNat_signExtend]
    have hlt := x.toBitVec.isLt
    simp only [BitVec.toNat_setWidth, BitVec.toNat_signExtend]
    split <;> split <;> omega
  rw [← e]
  exact Nat.and_two_pow_sub_one_eq_mod _ 8
theorem pair_says {c : Int32} (h0 : ¬ c < 0) (h1 : ¬ 65535 < c) : pairCh (lo8 c) (hi8 c) = c := by
  rw [Int32.lt_iff_toInt_lt] at h0 h1
  have e0 : (0 : Int32).toInt = 0 := rfl
  have e1 : (65535 : Int32).toInt = 65535 := rfl
  have hc : c.toInt = c.toBitVec.toNat := by
    have := c.toBitVec.isLt
    have e : c.toInt = c.toBitVec.toInt := rfl
    rw [e] at h0 h1
    rw [e]
    rw [BitVec.toInt_eq_toNat_cond] at h0 h1 ⊢
    split at h0 <;> split <;> omega
  have hn : c.toBitVec.toNat < 65536 := by omega
  have a1 := lo8_and c
  have a2 : (hi8 c &&& 255).toBitVec.toNat = c.toBitVec.toNat / 256 := by
    rw [hi8, lo8_and]
    have e : ((8 : Int32) &&& 31) = 8 := by decide
    rw [e, Int32.toBitVec_shiftRight]
    have e2 : ((8 : Int32).toBitVec.smod 32) = 8#32 := by decide
    rw [e2, BitVec.sshiftRight_eq', BitVec.toNat_sshiftRight_of_msb_false (by rw [BitVec.msb_eq_false_iff_two_mul_lt]; omega)]
    show c.toBitVec.toNat >>> 8 % 256 = _
    rw [Nat.shiftRight_eq_div_pow]
    omega
  unfold pairCh
  apply Int32.toBitVec_inj.mp
  apply BitVec.eq_of_toNat_eq
  have f0 : ((0 : Int32) &&& 31) = 0 := by decide
  have f8 : ((8 : Int32) &&& 31) = 8 := by decide
  rw [f0, f8]
  have g : (((lo8 c &&& 255) <<< (0 : Int32)) ||| ((hi8 c &&& 255) <<< (8 : Int32))).toBitVec.toNat = c.toBitVec.toNat := by
    rw [Int32.toBitVec_or, Int32.toBitVec_shiftLeft, Int32.toBitVec_shiftLeft]
    have s0 : ((0 : Int32).toBitVec.smod 32) = 0#32 := by decide
    have s8 : ((8 : Int32).toBitVec.smod 32) = 8#32 := by decide
    rw [s0, s8, BitVec.toNat_or]
    simp only [BitVec.shiftLeft_eq', BitVec.toNat_shiftLeft, a1, a2]
    show (c.toBitVec.toNat % 256) <<< 0 % 2 ^ 32 ||| (c.toBitVec.toNat / 256) <<< 8 % 2 ^ 32 = _
    rw [Nat.shiftLeft_zero, Nat.mod_eq_of_lt (show c.toBitVec.toNat % 256 < 2 ^ 32 by omega), Nat.mod_eq_of_lt (show (c.toBitVec.toNat / 256) <<< 8 < 2 ^ 32 by rw [Nat.shiftLeft_eq]; omega), Nat.or_comm, ← Nat.shiftLeft_add_eq_or_of_lt (by omega), Nat.shiftLeft_eq]
    omega
  show BitVec.toNat (((((lo8 c &&& 255) <<< (0 : Int32)) ||| ((hi8 c &&& 255) <<< (8 : Int32))).toBitVec.setWidth 16).setWidth 32) = _
  rw [BitVec.toNat_setWidth, BitVec.toNat_setWidth, g]
  omega
end StrChars
namespace StrChars
open Jvm Sem ClassFile Op Lib Jvm.Stand Jvm.Free.XT Jvm.Free.ALB Jvm.Free.JM Jvm.Free
open Jvm.Lib.Cold (StaticIs)
theorem shr1 {n : Nat} (h : 2 * n < 2 ^ 31) : Int32.ofNat (2 * n) >>> ((1 : Int32) &&& 31) = Int32.ofNat n := by
  have e : ((1 : Int32) &&& 31) = 1 := by decide
  rw [e]
  apply Int32.toBitVec_inj.mp
  rw [Int32.toBitVec_shiftRight]
  have e1 : ((1 : Int32).toBitVec.smod 32) = 1#32 := by decide
  have hm : (BitVec.ofNat 32 (2 * n)).toNat = 2 * n := by rw [BitVec.toNat_ofNat, Nat.mod_eq_of_lt (by omega)]
  rw [e1, BitVec.sshiftRight_eq']
  apply BitVec.eq_of_toNat_eq
  show ((BitVec.ofNat 32 (2 * n)).sshiftRight 1).toNat = (BitVec.ofNat 32 n).toNat
  rw [BitVec.toNat_sshiftRight_of_msb_false (by rw [BitVec.msb_eq_false_iff_two_mul_lt, hm]; omega), hm, BitVec.toNat_ofNat, Nat.shiftRight_eq_div_pow]
  omega
/-- the array's cell V codes the n chars f 0 .. f (n - 1) by the coder cd, as the JDK does: coder 1 just where some char is above 255 -/
def Cod (cd : Int32) (n : Nat) (f : Nat → Int32) (V : Cell) : Prop := (cd = 0 ∧ V.slots.size = n ∧ ∀ j, j < n → V.slots[j]? = some (.int (lo8 (f j))) ∧ ¬ 255 < f j) ∨ (cd = 1 ∧ V.slots.size = 2 * n ∧ (∀ j, j < n → V.slots[2 * j]? = some (.int (lo8 (f j))) ∧ V.slots[2 * j + 1]? = some (.int (hi8 (f j)))) ∧ ∃ j, j < n ∧ 255 < f j)
theorem Cod.cd {cd : Int32} {n : Nat} {f : Nat → Int32} {V : Cell} (h : Cod cd n f V) : cd = 0 ∨ cd = 1 := h.imp (fun q => q.1) fun q => q.1
theorem Cod.len {cd : Int32} {n : Nat} {f : Nat → Int32} {V : Cell} (h : Cod cd n f V) (hs : V.slots.size < 2 ^ 31) : Int32.ofNat V.slots.size >>> (cd &&& 31) = Int32.ofNat n := by
  rcases h with ⟨rfl, h, -⟩ | ⟨rfl, h, -⟩
  · rw [shr0, h]
  · rw [h, shr1 (by omega)]
/-- **x is a String of the n chars f 0 .. f (n - 1)**, Latin-1 or UTF-16; its array at t has the cell V -/
def Txt (x t : Addr) (V : Cell) (cd : Int32) (n : Nat) (f : Nat → Int32) (U : State) : Prop := Exact "java/lang/String" x U ∧ Has x "java/lang/String" "value" "[B" (.ref t) U ∧ Has x "java/lang/String" "coder" "B" (.int cd) U ∧ XT.Arr .byte t V U ∧ Cod cd n f V ∧ ∀ j, j < n → ¬ f j < 0 ∧ ¬ 65535 < f j
theorem Txt.mv {x t : Addr} {V : Cell} {cd : Int32} {n : Nat} {f : Nat → Int32} {U U' : State} (h : Txt x t V cd n f U) (hal : U.vm.Alike U'.vm) (hh : U'.heap = U.heap) : Txt x t V cd n f U' := ⟨h.1.mv hal hh, h.2.1.mv hal hh, h.2.2.1.mv hal hh, h.2.2.2.1.mv hal hh, h.2.2.2.2⟩
namespace Cdr
def yN : MethodName := ⟨"java/lang/String", "coder", "()B"⟩
abbrev yB : ByteArray := jdk_42_method_152_code
theorem d0 : decode yB 0 = .ok (.getstatic 38, 3) := by decide +kernel
theorem d3 : decode yB 3 = .ok (.ifCond (.eq) 10, 3) := by decide +kernel
theorem d6 : decode yB 6 = .ok (.aload_n 0, 1) := by decide +kernel
theorem d7 : decode yB 7 = .ok (.getfield 15, 3) := by decide +kernel
theorem d10 : decode yB 10 = .ok (.goto 4, 3) := by decide +kernel
theorem d14 : decode yB 14 = .ok (.ireturn, 1) := by decide +kernel
def site : List Cond := [.fieldLink "java/lang/String" 38 "java/lang/String" "COMPACT_STRINGS" "Z", .fieldLink "java/lang/String" 15 "java/lang/String" "coder" "B"]
def tab : Cond := tabOf yN yB 1 (some .byte) site
def P (x : Addr) (cd z : Int32) (args : Array Value) (s : State) : Prop := args = #[.ref x] ∧ Has x "java/lang/String" "coder" "B" (.int cd) s ∧ (cd = 0 ∨ cd = 1) ∧ StaticIs s "java/lang/String" "COMPACT_STRINGS" "Z" (.int z) ∧ ¬ z = 0
def E (cd : Int32) (r : Option Value) (s u : State) : Prop := XT.PureE (some (.int cd)) r s u
theorem law (l : Launch) (x : Addr) (cd z : Int32) : Law l yN 1 0 0 0 yB 1 (some .byte) site (P x cd z) (E cd) [] 0 0 := by
  refine Law.of_walk (plainFor_of_name (by decide +kernel)) (by decide +kernel) (by decide +kernel) (by decide) (fun _ _ h => by rw [h.1]; rfl) (fun _ U U' hal hh h => ⟨h.1, h.2.1.mv hal hh, h.2.2.1, h.2.2.2.1.there hal hh, h.2.2.2.2⟩) (fun r U U' V V' h1 hal h2 h => XT.PureE.mv r U U' V V' h1 hal h2 h) ?_
  intro p e s m args below meth c s₁ X0 hexec hbytes hml hret hlk hnm hown hh0 W hP
  obtain ⟨rfl, hx, hc, s1, hz⟩ := hP
  have c1 : Steps p.tables e below (s₁.setTop (entryFrame m #[.ref x] 1)) (s₁.setTop (mkF m 0 #[.val (.ref x)] [])) := entry rfl
  obtain ⟨T2, X2, q2, st2⟩ := X0.sget hexec hown (wk W (.fieldLink "java/lang/String" 38 "java/lang/String" "COMPACT_STRINGS" "Z")) s1 (fun _ _ h => by rw [hh0]; exact h) (g := (mkF m 0 #[.val (.ref x)] [])) rfl (hb hbytes d0)
  have hh2 := q2.trans hh0
  have c3 : Steps p.tables e below (s₁.setTop (entryFrame m #[.ref x] 1)) (T2.setTop (mkF m 7 #[.val (.ref x)] [.ref x])) := (c1.trans (st2 _ (Steps.refl _))).trans (by
    refine XS.ifNo X2.here hexec rfl (hb hbytes d3) rfl (i0_eq_f hz) ?_
    refine XS.aloadN X2.here hexec rfl (hb hbytes d6) rfl rfl ?_
    exact Steps.refl _)
  obtain ⟨T4, X4, q4, st4⟩ := X2.hget hexec hown (wk W (.fieldLink "java/lang/String" 15 "java/lang/String" "coder" "B")) (hx.mv X2.warmed.alike hh2) (g := (mkF m 7 #[.val (.ref x)] [.ref x])) rfl (rest := []) rfl (hb hbytes d7)
  have c5 : Steps p.tables e below (s₁.setTop (entryFrame m #[.ref x] 1)) (T4.setTop (mkF m 14 #[.val (.ref x)] [.int cd])) := (c3.trans (st4 _ (Steps.refl _))).trans (by
    refine XS.goto X4.here hexec rfl (pc0 := 10) rfl (hb hbytes d10) (by decide) rfl ?_
    exact Steps.refl _)
  exact ⟨T4, some (.int cd), _, _, _, X4, rfl, rfl, rfl, (fun h => by cases h), ⟨rfl, q4.trans hh2⟩, fun fs hl => c5.trans (X4.ireturnOut hexec hret (by rcases hc with rfl | rfl <;> rfl) (Or.inr (Or.inr (Or.inl rfl))) (hb hbytes d14) hl)⟩
end Cdr
namespace Len
def yN : MethodName := ⟨"java/lang/String", "length", "()I"⟩
abbrev yB : ByteArray := jdk_42_method_54_code
theorem d0 : decode yB 0 = .ok (.aload_n 0, 1) := by decide +kernel
theorem d1 : decode yB 1 = .ok (.getfield 9, 3) := by decide +kernel
theorem d4 : decode yB 4 = .ok (.arraylength, 1) := by decide +kernel
theorem d5 : decode yB 5 = .ok (.aload_n 0, 1) := by decide +kernel
theorem d6 : decode yB 6 = .ok (.invokevirtual 335, 3) := by decide +kernel
theorem d9 : decode yB 9 = .ok (.ishr, 1) := by decide +kernel
theorem d10 : decode yB 10 = .ok (.ireturn, 1) := by decide +kernel
def site : List Cond := [.fieldLink "java/lang/String" 9 "java/lang/String" "value" "[B", Cdr.tab] ++ virtW "java/lang/String" 335 "java/lang/String" Cdr.yN Cdr.yN
def tab : Cond := tabOf yN yB 1 (some .int) site
def P (x t : Addr) (V : Cell) (cd : Int32) (n : Nat) (f : Nat → Int32) (z : Int32) (args : Array Value) (s : State) : Prop := args = #[.ref x] ∧ Txt x t V cd n f s ∧ StaticIs s "java/lang/String" "COMPACT_STRINGS" "Z" (.int z) ∧ ¬ z = 0
def E (n : Nat) (r : Option Value) (s u : State) : Prop := XT.PureE (some (.int (Int32.ofNat n))) r s u
/-- length() of a String of n chars, in either coding -/
theorem law (l : Launch) (x t : Addr) (V : Cell) (cd : Int32) (n : Nat) (f : Nat → Int32) (z : Int32) : Law l yN 1 0 1 13 yB 1 (some .int) site (P x t V cd n f z) (E n) [] 0 0 := by
  refine Law.of_walk (plainFor_of_name (by decide +kernel)) (by decide +kernel) (by decide +kernel) (by decide) (fun _ _ h => by rw [h.1]; rfl) (fun _ U U' hal hh h => ⟨h.1, h.2.1.mv hal hh, h.2.2.1.there hal hh, h.2.2.2⟩) (fun r U U' V V' h1 hal h2 h => XT.PureE.mv r U U' V V' h1 hal h2 h) ?_
  intro p e s m args below meth c s₁ X0 hexec hbytes hml hret hlk hnm hown hh0 W hP
  obtain ⟨rfl, hx, s1, hz⟩ := hP
  have v31 := hx.2.2.2.1.2.2.2
  have c1 : Steps p.tables e below (s₁.setTop (entryFrame m #[.ref x] 1)) (s₁.setTop (mkF m 1 #[.val (.ref x)] [.ref x])) := Steps.trans (entry rfl) (by
    show Steps p.tables e below (s₁.setTop (mkF m 0 #[.val (.ref x)] [])) _
    refine XS.aloadN X0.here hexec rfl (hb hbytes d0) rfl rfl ?_
    exact Steps.refl _)
  obtain ⟨T2, X2, q2, st2⟩ := X0.hget hexec hown (wk W (.fieldLink "java/lang/String" 9 "java/lang/String" "value" "[B")) (hx.mv X0.warmed.alike hh0).2.1 (g := (mkF m 1 #[.val (.ref x)] [.ref x])) rfl (rest := []) rfl (hb hbytes d1)
  have hh2 := q2.trans hh0
  have hx2 := hx.mv X2.warmed.alike hh2
  have c3 : Steps p.tables e below (s₁.setTop (entryFrame m #[.ref x] 1)) (T2.setTop (mkF m 6 #[.val (.ref x)] [.ref x, .int (Int32.ofNat V.slots.size)])) := (c1.trans (st2 _ (Steps.refl _))).trans (by
    refine X2.alen hexec hx2.2.2.2.1 rfl rfl (hb hbytes d4) ?_
    refine XS.aloadN X2.here hexec rfl (hb hbytes d5) rfl rfl ?_
    exact Steps.refl _)
  obtain ⟨v4, T4, X4, E4, g4⟩ := X2.callV hexec (Cdr.law l x cd z) hown (wks W (virtW "java/lang/String" 335 "java/lang/String" Cdr.yN Cdr.yN)) rfl (by decide) (wk W Cdr.tab) (W := 1) (Nat.le_of_ble_eq_true rfl) (Nat.le_of_ble_eq_true rfl) (Nat.le_refl _) (Nat.le_refl _) (hx2.1.fc X2.warmed.alike) hx2.1.is (g := (mkF m 6 #[.val (.ref x)] [.ref x, .int (Int32.ofNat V.slots.size)])) rfl (by rw [hml]; rfl) c3 (argsL := []) (rest := [.int (Int32.ofNat V.slots.size)]) rfl rfl (by show 2 * 0 + (1 + 0) ≤ _; decide) (hb hbytes d6) (⟨rfl, hx2.2.2.1, hx.2.2.2.2.1.cd, s1.there X2.warmed.alike hh2, hz⟩)
  obtain ⟨rfl, q4⟩ := E4
  have c5 : Steps p.tables e below (s₁.setTop (entryFrame m #[.ref x] 1)) (T4.setTop (mkF m 10 #[.val (.ref x)] [.int (Int32.ofNat V.slots.size >>> (cd &&& 31))])) := Steps.trans g4 (by
    refine ishr X4.here hexec rfl (hb hbytes d9) rfl ?_
    exact Steps.refl _)
  rw [hx.2.2.2.2.1.len v31] at c5
  exact ⟨T4, some (.int (Int32.ofNat n)), _, _, _, X4, rfl, rfl, rfl, (fun h => by cases h), ⟨rfl, q4.trans hh2⟩, fun fs hl => c5.trans (X4.ireturnOut hexec hret rfl (Or.inl rfl) (hb hbytes d10) hl)⟩
theorem pays {l : Launch} {R : Room} {p : Program} {e : Env} {below : List Frame} {s : State} {sargs : Array Value} {len W : Nat} (x t : Addr) (V : Cell) (cd : Int32) (n : Nat) (f : Nat → Int32) (z : Int32) (htab : tab.before sargs s = true) (hfr : 2 ≤ R.frames) (hlo : W + 25 ≤ R.locals) :
    Back l R p e below s sargs yN len W (fun A₁ a₁ => A₁.cells + 0 ≤ R.cells ∧ A₁.slots + 0 ≤ R.slots ∧ P x t V cd n f z a₁ A₁.U) (fun A₁ _ v₁ B₁ => E n v₁ A₁.U B₁.U ∧ B₁.locs = A₁.locs ++ [] ∧ B₁.cells = A₁.cells + 0 ∧ B₁.slots = A₁.slots + 0) :=
  (law l x t V cd n f z).pays htab hfr (by omega)
end Len
end StrChars
namespace StrChars.Road
open Jvm Sem ClassFile Op Lib Jvm.Stand Jvm.Free Jvm.Free.XT
open Jvm.Lib.Cold (StaticIs)
theorem consq {a : Array Value} {s : State} {c : Jvm.Cond} {L : List Jvm.Cond} (h0 : c.before a s = true) (h : ∀ w ∈ L, w.before a s = true) : ∀ w ∈ c :: L, w.before a s = true := fun w hw => (List.mem_cons.mp hw).elim (fun e => e ▸ h0) (h w)
/-- the words of String.length(), either coding -/
abbrev wordsLen : List Jvm.Cond := [.code Len.yN Len.yB 1 (some .int), .initialized ST, .fieldLink ST 9 ST "value" "[B", .fieldLink ST 38 ST "COMPACT_STRINGS" "Z", .fieldLink ST 15 ST "coder" "B", .code Cdr.yN Cdr.yB 1 (some .byte), .methodLink ST 335 Cdr.yN, .declares Cdr.yN, .selects ST Cdr.yN Cdr.yN, .instanceMethod Cdr.yN]
theorem tabLen_of {a : Array Value} {s : State} (h : ∀ w ∈ wordsLen, w.before a s = true) : Len.tab.before a s = true := by
  have hc : Cdr.tab.before a s = true := unparts (wk h (.code Cdr.yN Cdr.yB 1 (some .byte))) (wks h (.initialized Cdr.yN.cls :: Cdr.site))
  have q := consq hc h
  exact unparts (wk q (.code Len.yN Len.yB 1 (some .int))) (wks q (.initialized Len.yN.cls :: Len.site))
theorem movedLen {Z s : State} {a0 args : Array Value} (hZ : Z.Warmed39 s.vm) (hw : ∀ d ∈ wordsLen, d.before a0 Z = true) : ∀ d ∈ wordsLen, d.before args s = true := fun d hd => by
  have q := hw d hd
  have t : ∀ d ∈ wordsLen, d = .arrayClass .byte ∨ (d.onTables && d.keepsFace) = true := by decide +kernel
  rcases t d hd with rfl | t
  · exact RoadKit.mvA hZ q
  · exact RoadKit.mv hZ q t
/-- the bytes of the chars cs, low before high -/
def wideBytes : List Int32 → List Value
  | [] => []
  | c :: cs => .int (lo8 c) :: .int (hi8 c) :: wideBytes cs
theorem wide_lo (d : Value) : ∀ (cs : List Int32) (j : Nat), j < cs.length → (wideBytes cs).getD (2 * j) d = .int (lo8 (cs.getD j 0))
  | [], j, h => absurd h (Nat.not_lt_zero j)
  | c :: cs, 0, _ => rfl
  | c :: cs, j + 1, h => by
    have q := wide_lo d cs j (by simpa using h)
    rw [show 2 * (j + 1) = 2 * j + 1 + 1 from by omega]
    simpa [wideBytes] using q
theorem wide_hi (d : Value) : ∀ (cs : List Int32) (j : Nat), j < cs.length → (wideBytes cs).getD (2 * j + 1) d = .int (hi8 (cs.getD j 0))
  | [], j, h => absurd h (Nat.not_lt_zero j)
  | c :: cs, 0, _ => rfl
  | c :: cs, j + 1, h => by
    have q := wide_hi d cs j (by simpa using h)
    rw [show 2 * (j + 1) + 1 = 2 * j + 1 + 1 + 1 from by omega]
    simpa [wideBytes] using q
theorem low_at (d : Value) (cs : List Int32) (j : Nat) (h : j < cs.length) : (cs.map fun c => Value.int (lo8 c)).getD j d = .int (lo8 (cs.getD j 0)) := by
  simp [List.getD_eq_getElem?_getD, h]
/-- an array of N2 bytes vs codes the chars cs by the coder cd -/
def CodA (cs : List Int32) (cd N2 : Int32) (vs : List Value) : Prop := (cd = 0 ∧ N2 = Int32.ofNat cs.length ∧ vs = (cs.map fun c => Value.int (lo8 c)) ∧ ∀ c ∈ cs, ¬ 255 < c) ∨ (cd = 1 ∧ N2 = Int32.ofNat (2 * cs.length) ∧ vs = wideBytes cs ∧ ∃ c ∈ cs, 255 < c)
theorem CodA.cod {cs : List Int32} {cd N2 : Int32} {vs : List Value} {V : Cell} (h : CodA cs cd N2 vs) (hn : 2 * cs.length < 2 ^ 31) (hs : V.slots.size = N2.toNatClampNeg) (hv : RoadKit.Has V vs (.int 0)) : Cod cd cs.length (fun j => cs.getD j 0) V := by
  rcases h with ⟨rfl, rfl, rfl, h⟩ | ⟨rfl, rfl, rfl, c, hc, hw⟩
  · rw [n32 (by omega)] at hs
    exact Or.inl ⟨rfl, hs, fun j hj => ⟨by rw [hv j (by omega), low_at _ _ _ hj], by
      have e : cs.getD j 0 = cs[j] := by simp [List.getD_eq_getElem?_getD, hj]
      show ¬ 255 < cs.getD j 0
      rw [e]; exact h _ (List.getElem_mem _)⟩⟩
  · rw [n32 (by omega)] at hs
    obtain ⟨j, hj, rfl⟩ := List.getElem_of_mem hc
    exact Or.inr ⟨rfl, hs, fun j hj => ⟨by rw [hv _ (by omega), wide_lo _ _ _ hj], by rw [hv _ (by omega), wide_hi _ _ _ hj]⟩, j, hj, by
      have e : cs.getD j 0 = cs[j] := by simp [List.getD_eq_getElem?_getD, hj]
      show 255 < cs.getD j 0
      rw [e]; exact hw⟩
/-- an object of exactly java/lang/String, its two fields found: as the laws ask it -/
theorem strObj {Z U : State} {a0 : Array Value} {kI : Nat} (wi : (Jvm.Cond.instantiable ST kI).before a0 Z = true) (al : Z.vm.Alike U.vm) {x : Addr} {v0 c0 : Value} (E : RoadKit.Exa Z U.heap x ST) (V : RoadKit.Fld Z U.heap x ST "value" "[B" v0) (C : RoadKit.Fld Z U.heap x ST "coder" "B" c0) :
    ∃ (D : Cell) (fV fC : Field), Blank ST x D U ∧ Found ST "value" "[B" fV U ∧ Found ST "coder" "B" fC U ∧ D.slots[fV.slot]? = some v0 ∧ D.slots[fC.slot]? = some c0 ∧ RoadKit.slotOf Z ST "value" "[B" = fV.slot ∧ RoadKit.slotOf Z ST "coder" "B" = fC.slot := by
  obtain ⟨D, cfV, kV, iV, fV, hD, gV, stV, knV, obV, asV, slV⟩ := V
  obtain ⟨D', cfC, kC, iC, fC, hD', gC, stC, -, -, asC, slC⟩ := C
  cases hD.symm.trans hD'
  obtain ⟨D2, kD, e1, e2, e3, e4, e5⟩ := E
  cases hD.symm.trans e1
  obtain ⟨c2, k2, i1, i2, i3, -⟩ := Cond.instantiable_spec wi
  cases e2.symm.trans i1
  cases e3.symm.trans i2
  obtain ⟨kU, u1, u2⟩ := al.2.2 _ _ e3
  exact ⟨D, fV, fC, ⟨hD, ⟨knV, fun q hq => by rw [hq] at obV; cases obV⟩, by rw [al.findClass]; exact e2, kU, u1, by rw [u2]; exact i3, by rw [u2]; exact e5 i3⟩, ⟨SBG.found_only al ⟨cfV, kV, iV, gV⟩, stV⟩, ⟨SBG.found_only al ⟨cfC, kC, iC, gC⟩, stC⟩, slV, slC, by simp [RoadKit.slotOf, gV], by simp [RoadKit.slotOf, gC]⟩
theorem sta_is {Z U : State} (al : Z.vm.Alike U.vm) {C n d : String} {v : Value} (S : RoadKit.Sta Z U.heap C n d v) : StaticIs U C n d v := by
  obtain ⟨cfS, iS, kS, fS, st, cS, t1, t2, t3, t4, t5, t6, t7⟩ := S
  exact StaticIs.there (s := { Z with heap := U.heap }) ⟨cfS, iS, kS, fS, st, cS, t1, t2, t3, t4, t5, (fun q => by rw [q] at t6; cases t6), t7⟩ al rfl
/-- **length() OF SUCH A STRING** -/
theorem lenW {p : Program} {l : Launch} {e : Env} {R : Room} {s : State} {args : Array Value} {below : List Frame} {len W : Nat} {Z : State} {a0 : Array Value} {h : Heap} (hZ : Z.Warmed39 s.vm) (hw : ∀ d ∈ wordsLen, d.before a0 Z = true) {kI : Nat} (wi : (Jvm.Cond.instantiable ST kI).before a0 Z = true)
    {x t : Addr} {kb : ClassId} {cs : List Int32} {cd N2 z : Int32} {vs : List Value} (E : RoadKit.Exa Z h x ST) (V : RoadKit.Fld Z h x ST "value" "[B" (.ref t)) (C : RoadKit.Fld Z h x ST "coder" "B" (.int cd)) (K : RoadKit.Arv Z h t kb .byte N2 vs (.int 0)) (hc : CodA cs cd N2 vs) (hb : ∀ c ∈ cs, ¬ c < 0 ∧ ¬ (65535 : Int32) < c)
    (S : RoadKit.Sta Z h ST "COMPACT_STRINGS" "Z" (.int z)) (hz : ¬ z = 0) (l2 : cs.length ≤ 4000) (hfr : 2 ≤ R.frames) (hlo : W + 25 ≤ R.locals) :
    Back l R p e below s args (⟨"java/lang/String", "length", "()I"⟩ : MethodName) len W (fun P a => a = #[.ref x] ∧ P.U.heap = h ∧ P.cells + 0 ≤ R.cells ∧ P.slots + 0 ≤ R.slots)
      (fun P _ v B => ∃ L, (v = some (.int (Int32.ofNat cs.length)) ∧ L = [] ∧ B.U.heap = h) ∧ B.locs = P.locs ++ L ∧ B.cells = P.cells + 0 ∧ B.slots = P.slots + 0) := by
  obtain ⟨A, K1, K2, K3, K4, K5, K6⟩ := K
  have hcod := hc.cod (by omega) K3 K5
  intro m meth c P g ig mk a X hg hsize hdg hW hn hp'
  obtain ⟨rfl, rfl, r1, r2⟩ := hp'
  have al : Z.vm.Alike P.U.vm := hZ.alike.trans X.warmed.alike
  obtain ⟨D, fV, fC, hB, F1, F2, g1, g2, -, -⟩ := strObj wi al E V C
  have hx : Txt x t A cd cs.length (fun j => cs.getD j 0) P.U := ⟨⟨_, hB.2.2.1, D, hB.1, rfl, by cases q : D.vm <;> first | rfl | exact absurd q (hB.2.1.2 _)⟩, Has.of hB F1 g1, Has.of hB F2 g2, ⟨K1.1, State.isArrayOf_alike al K1.2.1, K1.2.2, by rcases hcod with ⟨-, q, -⟩ | ⟨-, q, -⟩ <;> omega⟩, hcod, fun j hj => by
    have e : cs.getD j 0 = cs[j] := by simp [List.getD_eq_getElem?_getD, hj]
    show ¬ cs.getD j 0 < 0 ∧ ¬ 65535 < cs.getD j 0
    rw [e]; exact hb _ (List.getElem_mem _)⟩
  obtain ⟨v, B, X', ⟨⟨hv, hh⟩, hl, hk, hs⟩, st⟩ := Len.pays x t A cd cs.length (fun j => cs.getD j 0) z (tabLen_of (movedLen hZ hw)) hfr hlo m meth c P g ig mk _ X hg hsize hdg hW hn ⟨r1, r2, rfl, hx, sta_is al S, hz⟩
  exact ⟨v, B, X', ⟨[], ⟨hv, rfl, hh⟩, hl, hk, hs⟩, st⟩
end StrChars.Road
namespace StrChars
open Jvm Sem ClassFile Op Lib Jvm.Stand Jvm.Free.XT Jvm.Free.ALB Jvm.Free.JM Jvm.Free
open Jvm.Lib.Cold (StaticIs)
/-- what place i of a byte[]'s cell holds -/
def yv (A : Cell) (i : Nat) : Int32 := match A.slots[i]? with | some (.int x) => x | _ => 0
theorem yv_get {a : Addr} {A : Cell} {U : State} (h : XT.Arr .byte a A U) (ht : Typed .byte A) {i : Nat} (hi : i < A.slots.size) : A.slots[i]? = some (.int (yv A i)) := by
  have e := Array.getElem?_eq_getElem hi
  have f := ht i _ e
  unfold yv; rw [e]
  generalize A.slots[i] = v at f
  cases v <;> simp [fits] at f ⊢
/-- the two arrays are equal, place for place -/
def EqC (A B : Cell) : Prop := A.slots.size = B.slots.size ∧ ∀ i, i < A.slots.size → yv A i = yv B i
/-- a boolean that says whether p -/
def Says01 (q : Prop) (r : Option Value) (s u : State) : Prop := ∃ v : Int32, r = some (.int v) ∧ u.heap = s.heap ∧ ((v = 1 ∧ q) ∨ (v = 0 ∧ ¬ q))
theorem Says01.mv {q : Prop} : ∀ r (U U' V V' : State), U'.heap = U.heap → V.vm.Alike V'.vm → V'.heap = V.heap → Says01 q r U V → Says01 q r U' V' :=
  fun r U U' V V' h1 _ h2 ⟨v, a, b, c⟩ => ⟨v, a, by rw [h1, h2]; exact b, c⟩
namespace LEq
def yN : MethodName := ⟨"java/lang/StringLatin1", "equals", "([B[B)Z"⟩
abbrev yB : ByteArray := jdk_43_method_13_code
theorem d0 : decode yB 0 = .ok (.aload_n 0, 1) := by decide +kernel
theorem d1 : decode yB 1 = .ok (.arraylength, 1) := by decide +kernel
theorem d2 : decode yB 2 = .ok (.aload_n 1, 1) := by decide +kernel
theorem d3 : decode yB 3 = .ok (.arraylength, 1) := by decide +kernel
theorem d4 : decode yB 4 = .ok (.if_icmp (.ne) 30, 3) := by decide +kernel
theorem d7 : decode yB 7 = .ok (.iconst 0, 1) := by decide +kernel
theorem d8 : decode yB 8 = .ok (.istore_n 2, 1) := by decide +kernel
theorem d9 : decode yB 9 = .ok (.iload_n 2, 1) := by decide +kernel
theorem d10 : decode yB 10 = .ok (.aload_n 0, 1) := by decide +kernel
theorem d11 : decode yB 11 = .ok (.arraylength, 1) := by decide +kernel
theorem d12 : decode yB 12 = .ok (.if_icmp (.ge) 20, 3) := by decide +kernel
theorem d15 : decode yB 15 = .ok (.aload_n 0, 1) := by decide +kernel
theorem d16 : decode yB 16 = .ok (.iload_n 2, 1) := by decide +kernel
theorem d17 : decode yB 17 = .ok (.baload, 1) := by decide +kernel
theorem d18 : decode yB 18 = .ok (.aload_n 1, 1) := by decide +kernel
theorem d19 : decode yB 19 = .ok (.iload_n 2, 1) := by decide +kernel
theorem d20 : decode yB 20 = .ok (.baload, 1) := by decide +kernel
theorem d21 : decode yB 21 = .ok (.if_icmp (.eq) 5, 3) := by decide +kernel
theorem d24 : decode yB 24 = .ok (.iconst 0, 1) := by decide +kernel
theorem d25 : decode yB 25 = .ok (.ireturn, 1) := by decide +kernel
theorem d26 : decode yB 26 = .ok (.iinc 2 1, 3) := by decide +kernel
theorem d29 : decode yB 29 = .ok (.goto (-20), 3) := by decide +kernel
theorem d32 : decode yB 32 = .ok (.iconst 1, 1) := by decide +kernel
theorem d33 : decode yB 33 = .ok (.ireturn, 1) := by decide +kernel
theorem d34 : decode yB 34 = .ok (.iconst 0, 1) := by decide +kernel
theorem d35 : decode yB 35 = .ok (.ireturn, 1) := by decide +kernel
def site : List Cond := []
def tab : Cond := tabOf yN yB 3 (some .boolean) site
def P (a : Addr) (A : Cell) (b : Addr) (B : Cell) (args : Array Value) (s : State) : Prop := args = #[.ref a, .ref b] ∧ XT.Arr .byte a A s ∧ Typed .byte A ∧ XT.Arr .byte b B s ∧ Typed .byte B
/-- whether two byte[] are equal, place for place -/
theorem law (l : Launch) (a : Addr) (A : Cell) (b : Addr) (B : Cell) : Law l yN 2 2 0 0 yB 3 (some .boolean) site (P a A b B) (Says01 (EqC A B)) [] 0 0 := by
  refine Law.of_walk (plainFor_of_name (by decide +kernel)) (by decide +kernel) (by decide +kernel) (by decide) (fun _ _ h => by rw [h.1]; rfl) (fun _ U U' hal hh h => ⟨h.1, h.2.1.mv hal hh, h.2.2.1, h.2.2.2.1.mv hal hh, h.2.2.2.2⟩) (fun r U U' V V' h1 hal h2 h => Says01.mv r U U' V V' h1 hal h2 h) ?_
  intro p e s m args below meth c s₁ X0 hexec hbytes hml hret hlk hnm hown hh0 W hP
  obtain ⟨rfl, hA, tA, hB, tB⟩ := hP
  have a31 := hA.2.2.2
  have b31 := hB.2.2.2
  have hA0 := hA.mv X0.warmed.alike hh0
  have hB0 := hB.mv X0.warmed.alike hh0
  have c1 : Steps p.tables e below (s₁.setTop (entryFrame m #[.ref a, .ref b] 3)) (s₁.setTop (mkF m 0 #[.val (.ref a), .val (.ref b), .unset] [])) := entry rfl
  have c2 : Steps p.tables e below (s₁.setTop (entryFrame m #[.ref a, .ref b] 3)) (s₁.setTop (mkF m 4 #[.val (.ref a), .val (.ref b), .unset] [.int (Int32.ofNat B.slots.size), .int (Int32.ofNat A.slots.size)])) := c1.trans (by
    refine XS.aloadN X0.here hexec rfl (hb hbytes d0) rfl rfl ?_
    refine X0.alen hexec hA0 rfl rfl (hb hbytes d1) ?_
    refine XS.aloadN X0.here hexec rfl (hb hbytes d2) rfl rfl ?_
    refine X0.alen hexec hB0 rfl rfl (hb hbytes d3) ?_
    exact Steps.refl _)
  by_cases hs : A.slots.size = B.slots.size
  · have c3 : Steps p.tables e below (s₁.setTop (entryFrame m #[.ref a, .ref b] 3)) (s₁.setTop (mkF m 9 #[.val (.ref a), .val (.ref b), .val (.int 0)] [])) := c2.trans (by
      refine XS.icmpNo X0.here hexec rfl (hb hbytes d4) rfl (ii_ne_f (by rw [hs])) ?_
      refine iconstV X0.here hexec rfl 0 (hb hbytes d7) (by decide) ?_
      refine XS.istoreN X0.here hexec rfl (hb hbytes d8) rfl rfl ?_
      exact Steps.refl _)
    have loop : ∀ (r i : Nat), i + r = A.slots.size → (∀ j, j < i → yv A j = yv B j) → Steps p.tables e below (s₁.setTop (entryFrame m #[.ref a, .ref b] 3)) (s₁.setTop (mkF m 9 #[.val (.ref a), .val (.ref b), .val (.int (Int32.ofNat i))] [])) → ∃ (pc : Nat) (Ls : Array Slot) (v : Int32), (pc = 25 ∨ pc = 33) ∧ ((v = 1 ∧ EqC A B) ∨ (v = 0 ∧ ¬ EqC A B)) ∧ Steps p.tables e below (s₁.setTop (entryFrame m #[.ref a, .ref b] 3)) (s₁.setTop (mkF m pc Ls [.int v])) := by
      intro r
      induction r with
      | zero =>
        intro i hi he cl
        exact ⟨33, _, 1, Or.inr rfl, Or.inl ⟨rfl, hs, fun j hj => he j (by omega)⟩, cl.trans (by
          refine XS.iloadN X0.here hexec rfl (hb hbytes d9) rfl ?_
          refine XS.aloadN X0.here hexec rfl (hb hbytes d10) rfl rfl ?_
          refine X0.alen hexec hA0 rfl rfl (hb hbytes d11) ?_
          refine XS.icmpYes X0.here hexec rfl (pc0 := 12) rfl (hb hbytes d12) rfl (ii_ge_t (nlt32 (by omega) (by omega))) (by decide) rfl ?_
          refine iconstV X0.here hexec rfl 1 (hb hbytes d32) (by decide) ?_
          exact Steps.refl _)⟩
      | succ r ih =>
        intro i hi he cl
        have c4 : Steps p.tables e below (s₁.setTop (entryFrame m #[.ref a, .ref b] 3)) (s₁.setTop (mkF m 21 #[.val (.ref a), .val (.ref b), .val (.int (Int32.ofNat i))] [.int (yv B i), .int (yv A i)])) := cl.trans (by
          refine XS.iloadN X0.here hexec rfl (hb hbytes d9) rfl ?_
          refine XS.aloadN X0.here hexec rfl (hb hbytes d10) rfl rfl ?_
          refine X0.alen hexec hA0 rfl rfl (hb hbytes d11) ?_
          refine XS.icmpNo X0.here hexec rfl (hb hbytes d12) rfl (ii_ge_f (lt32 (by omega) (by omega))) ?_
          refine XS.aloadN X0.here hexec rfl (hb hbytes d15) rfl rfl ?_
          refine XS.iloadN X0.here hexec rfl (hb hbytes d16) rfl ?_
          refine X0.aget hexec hA0 rfl (yv_get hA tA (i := i) (by omega)) rfl rfl (hb hbytes d17) ?_
          refine XS.aloadN X0.here hexec rfl (hb hbytes d18) rfl rfl ?_
          refine XS.iloadN X0.here hexec rfl (hb hbytes d19) rfl ?_
          refine X0.aget hexec hB0 rfl (yv_get hB tB (i := i) (by omega)) rfl rfl (hb hbytes d20) ?_
          exact Steps.refl _)
        by_cases hv : yv A i = yv B i
        · have c5 : Steps p.tables e below (s₁.setTop (entryFrame m #[.ref a, .ref b] 3)) (s₁.setTop (mkF m 9 #[.val (.ref a), .val (.ref b), .val (.int (Int32.ofNat i + 1))] [])) := c4.trans (by
            refine XS.icmpYes X0.here hexec rfl (pc0 := 21) rfl (hb hbytes d21) rfl (ii_eq_t hv) (by decide) rfl ?_
            refine iincV X0.here hexec rfl 1 (hb hbytes d26) (by decide) rfl rfl ?_
            refine XS.goto X0.here hexec rfl (pc0 := 29) rfl (hb hbytes d29) (by decide) rfl ?_
            exact Steps.refl _)
          rw [succ32] at c5
          exact ih (i + 1) (by omega) (fun j hj => by
            by_cases e : j = i
            · rw [e]; exact hv
            · exact he j (by omega)) c5
        · exact ⟨25, _, 0, Or.inl rfl, Or.inr ⟨rfl, fun q => hv (q.2 i (by omega))⟩, c4.trans (by
            refine XS.icmpNo X0.here hexec rfl (hb hbytes d21) rfl (ii_eq_f hv) ?_
            refine iconstV X0.here hexec rfl 0 (hb hbytes d24) (by decide) ?_
            exact Steps.refl _)⟩
    obtain ⟨pc, Ls, v, hpc, hv, cz⟩ := loop A.slots.size 0 (by omega) (fun j hj => absurd hj (Nat.not_lt_zero j)) c3
    have nv : narrow .boolean (.int v) = .int v := by rcases hv with ⟨rfl, -⟩ | ⟨rfl, -⟩ <;> rfl
    rcases hpc with rfl | rfl
    · exact ⟨s₁, some (.int v), _, _, _, X0, rfl, rfl, rfl, (fun h => by cases h), ⟨v, rfl, hh0, hv⟩, fun fs hl => cz.trans (X0.ireturnOut hexec hret nv (Or.inr (Or.inl rfl)) (hb hbytes d25) hl)⟩
    · exact ⟨s₁, some (.int v), _, _, _, X0, rfl, rfl, rfl, (fun h => by cases h), ⟨v, rfl, hh0, hv⟩, fun fs hl => cz.trans (X0.ireturnOut hexec hret nv (Or.inr (Or.inl rfl)) (hb hbytes d33) hl)⟩
  · have c3 : Steps p.tables e below (s₁.setTop (entryFrame m #[.ref a, .ref b] 3)) (s₁.setTop (mkF m 35 #[.val (.ref a), .val (.ref b), .unset] [.int 0])) := c2.trans (by
      refine XS.icmpYes X0.here hexec rfl (pc0 := 4) rfl (hb hbytes d4) rfl (ii_ne_t (ne32 a31 b31 hs)) (by decide) rfl ?_
      refine iconstV X0.here hexec rfl 0 (hb hbytes d34) (by decide) ?_
      exact Steps.refl _)
    exact ⟨s₁, some (.int 0), _, _, _, X0, rfl, rfl, rfl, (fun h => by cases h), ⟨0, rfl, hh0, Or.inr ⟨rfl, fun q => hs q.1⟩⟩, fun fs hl => c3.trans (X0.ireturnOut hexec hret rfl (Or.inr (Or.inl rfl)) (hb hbytes d35) hl)⟩
end LEq
theorem Cod.ty {cd : Int32} {n : Nat} {f : Nat → Int32} {V : Cell} (h : Cod cd n f V) : Typed .byte V := fun i v hv => by
  have hi : i < V.slots.size := (Array.getElem?_eq_some_iff.mp hv).1
  rcases h with ⟨-, k1, k2⟩ | ⟨-, k1, k2, -⟩
  · rw [(k2 i (by omega)).1] at hv; cases hv; exact fits_lo8 _
  · rcases Nat.mod_two_eq_zero_or_one i with e | e
    · obtain ⟨j, rfl⟩ : ∃ j, i = 2 * j := ⟨i / 2, by omega⟩
      rw [(k2 j (by omega)).1] at hv; cases hv; exact fits_lo8 _
    · obtain ⟨j, rfl⟩ : ∃ j, i = 2 * j + 1 := ⟨i / 2, by omega⟩
      rw [(k2 j (by omega)).2] at hv; cases hv; exact fits_lo8 _
/-- the same text -/
def SameT (n : Nat) (f : Nat → Int32) (k : Nat) (g : Nat → Int32) : Prop := n = k ∧ ∀ j, j < n → f j = g j
theorem lo8_inj {x y : Int32} (h0 : ¬ x < 0) (h1 : ¬ 255 < x) (k0 : ¬ y < 0) (k1 : ¬ 255 < y) (h : lo8 x = lo8 y) : x = y := by
  rw [← lo8_mask h0 h1, ← lo8_mask k0 k1, h]
/-- arrays coded by one coder are equal just where the texts are -/
theorem Cod.eqv {cd : Int32} {n k : Nat} {f g : Nat → Int32} {V V' : Cell} (h : Cod cd n f V) (h' : Cod cd k g V') (hf : ∀ j, j < n → ¬ f j < 0 ∧ ¬ 65535 < f j) (hg : ∀ j, j < k → ¬ g j < 0 ∧ ¬ 65535 < g j) : EqC V V' ↔ SameT n f k g := by
  have yvv : ∀ {W : Cell} {i : Nat} {x : Int32}, W.slots[i]? = some (.int x) → yv W i = x := fun q => by unfold yv; rw [q]
  rcases h with ⟨rfl, k1, k2⟩ | ⟨rfl, k1, k2, -⟩
  · rcases h' with ⟨-, m1, m2⟩ | ⟨e, -⟩
    · constructor
      · rintro ⟨e1, e2⟩
        refine ⟨by omega, fun j hj => ?_⟩
        have q := e2 j (by omega)
        rw [yvv (k2 j hj).1, yvv (m2 j (by omega)).1] at q
        exact lo8_inj (hf j hj).1 (k2 j hj).2 (hg j (by omega)).1 (m2 j (by omega)).2 q
      · rintro ⟨rfl, e2⟩
        refine ⟨by omega, fun j hj => ?_⟩
        rw [yvv (k2 j (by omega)).1, yvv (m2 j (by omega)).1, e2 j (by omega)]
    · exact absurd e (by decide)
  · rcases h' with ⟨e, -⟩ | ⟨-, m1, m2, -⟩
    · exact absurd e (by decide)
    · constructor
      · rintro ⟨e1, e2⟩
        refine ⟨by omega, fun j hj => ?_⟩
        have q1 := e2 (2 * j) (by omega)
        have q2 := e2 (2 * j + 1) (by omega)
        rw [yvv (k2 j hj).1, yvv (m2 j (by omega)).1] at q1
        rw [yvv (k2 j hj).2, yvv (m2 j (by omega)).2] at q2
        rw [← pair_says (hf j hj).1 (hf j hj).2, ← pair_says (hg j (by omega)).1 (hg j (by omega)).2, q1, q2]
      · rintro ⟨rfl, e2⟩
        refine ⟨by omega, fun i hi => ?_⟩
        rcases Nat.mod_two_eq_zero_or_one i with e | e
        · obtain ⟨j, rfl⟩ : ∃ j, i = 2 * j := ⟨i / 2, by omega⟩
          rw [yvv (k2 j (by omega)).1, yvv (m2 j (by omega)).1, e2 j (by omega)]
        · obtain ⟨j, rfl⟩ : ∃ j, i = 2 * j + 1 := ⟨i / 2, by omega⟩
          rw [yvv (k2 j (by omega)).2, yvv (m2 j (by omega)).2, e2 j (by omega)]
/-- two codings differ: so do the texts -/
theorem Cod.dif {cd cd' : Int32} {n k : Nat} {f g : Nat → Int32} {V V' : Cell} (h : Cod cd n f V) (h' : Cod cd' k g V') (hne : ¬ cd = cd') : ¬ SameT n f k g := by
  rintro ⟨rfl, e⟩
  rcases h with ⟨rfl, -, k2⟩ | ⟨rfl, -, -, j, hj, hw⟩
  · rcases h' with ⟨rfl, -⟩ | ⟨-, -, -, j, hj, hw⟩
    · exact hne rfl
    · exact (k2 j hj).2 (by rw [e j hj]; exact hw)
  · rcases h' with ⟨-, -, m2⟩ | ⟨rfl, -⟩
    · exact (m2 j hj).2 (by rw [← e j hj]; exact hw)
    · exact hne rfl
/-- an object of exactly C is an instance of C -/
theorem cinst {p : Program} {l : Launch} {e : Env} {R : Room} {s : State} {m : MethodId} {args : Array Value} {below : List Frame} {meth : Method} {c : Code} {T : State} {locs : List Loc} {cells slots : Nat} (X : Stand p l e R s m args below meth c T locs cells slots) (hexec : p.tables.exec = Jvm.exec) {own C : String} {index : Nat} (hown : s.vm.findClass own = some m.cls) (hlink : (Cond.classLink own index C).before args s = true) {a : Addr} (hE : Exact C a T)
    {g : JFrame} (hg : g.method = m) {rest : List Value} (hstack : g.stack = .ref a :: rest) (hdg : decode c.code g.pc = .ok (.instanceof index, 3)) :
    ∃ T', Stand p l e R s m args below meth c T' locs cells slots ∧ T'.heap = T.heap ∧ ∀ target, Steps p.tables e below (T'.setTop { g with pc := g.pc + 3, stack := .int 1 :: rest }) target → Steps p.tables e below (T.setTop g) target := by
  obtain ⟨cB, h1, D, h2, h3, h4⟩ := hE
  have h1' : s.vm.findClass C = some cB := by rw [← X.warmed.alike.findClass]; exact h1
  obtain ⟨vm', X', st⟩ := X.instanceofYes hexec hown hlink h2 h4 h1' (by rw [h3]; exact Jvm.Free.SB.assignable_self _ _) hg hstack hdg
  exact ⟨_, X', rfl, st⟩
theorem cself {p : Program} {l : Launch} {e : Env} {R : Room} {s : State} {m : MethodId} {args : Array Value} {below : List Frame} {meth : Method} {c : Code} {T : State} {locs : List Loc} {cells slots : Nat} (X : Stand p l e R s m args below meth c T locs cells slots) (hexec : p.tables.exec = Jvm.exec) {own C : String} {index : Nat} (hown : s.vm.findClass own = some m.cls) (hlink : (Cond.classLink own index C).before args s = true) {a : Addr} (hE : Exact C a T)
    {g : JFrame} (hg : g.method = m) {rest : List Value} (hstack : g.stack = .ref a :: rest) (hdg : decode c.code g.pc = .ok (.checkcast index, 3)) :
    ∃ T', Stand p l e R s m args below meth c T' locs cells slots ∧ T'.heap = T.heap ∧ ∀ target, Steps p.tables e below (T'.setTop { g with pc := g.pc + 3, stack := .ref a :: rest }) target → Steps p.tables e below (T.setTop g) target := by
  obtain ⟨cB, h1, D, h2, h3, h4⟩ := hE
  have h1' : s.vm.findClass C = some cB := by rw [← X.warmed.alike.findClass]; exact h1
  obtain ⟨vm', X', st⟩ := X.checkcastYes hexec hown hlink h2 h4 h1' (by rw [h3]; exact Jvm.Free.SB.assignable_self _ _) hg hstack hdg
  exact ⟨_, X', rfl, fun t h => st t (by rw [← hstack] at h; exact h)⟩
namespace SEq
def yN : MethodName := ⟨"java/lang/String", "equals", "(Ljava/lang/Object;)Z"⟩
abbrev yB : ByteArray := jdk_42_method_66_code
theorem d0 : decode yB 0 = .ok (.aload_n 0, 1) := by decide +kernel
theorem d1 : decode yB 1 = .ok (.aload_n 1, 1) := by decide +kernel
theorem d2 : decode yB 2 = .ok (.if_acmp (.ne) 5, 3) := by decide +kernel
theorem d5 : decode yB 5 = .ok (.iconst 1, 1) := by decide +kernel
theorem d6 : decode yB 6 = .ok (.ireturn, 1) := by decide +kernel
theorem d7 : decode yB 7 = .ok (.aload_n 1, 1) := by decide +kernel
theorem d8 : decode yB 8 = .ok (.instanceof 10, 3) := by decide +kernel
theorem d11 : decode yB 11 = .ok (.ifCond (.eq) 43, 3) := by decide +kernel
theorem d14 : decode yB 14 = .ok (.aload_n 1, 1) := by decide +kernel
theorem d15 : decode yB 15 = .ok (.checkcast 10, 3) := by decide +kernel
theorem d18 : decode yB 18 = .ok (.astore_n 2, 1) := by decide +kernel
theorem d19 : decode yB 19 = .ok (.getstatic 38, 3) := by decide +kernel
theorem d22 : decode yB 22 = .ok (.ifCond (.eq) 14, 3) := by decide +kernel
theorem d25 : decode yB 25 = .ok (.aload_n 0, 1) := by decide +kernel
theorem d26 : decode yB 26 = .ok (.getfield 15, 3) := by decide +kernel
theorem d29 : decode yB 29 = .ok (.aload_n 2, 1) := by decide +kernel
theorem d30 : decode yB 30 = .ok (.getfield 15, 3) := by decide +kernel
theorem d33 : decode yB 33 = .ok (.if_icmp (.ne) 21, 3) := by decide +kernel
theorem d36 : decode yB 36 = .ok (.aload_n 0, 1) := by decide +kernel
theorem d37 : decode yB 37 = .ok (.getfield 9, 3) := by decide +kernel
theorem d40 : decode yB 40 = .ok (.aload_n 2, 1) := by decide +kernel
theorem d41 : decode yB 41 = .ok (.getfield 9, 3) := by decide +kernel
theorem d44 : decode yB 44 = .ok (.invokestatic 541, 3) := by decide +kernel
theorem d47 : decode yB 47 = .ok (.ifCond (.eq) 7, 3) := by decide +kernel
theorem d50 : decode yB 50 = .ok (.iconst 1, 1) := by decide +kernel
theorem d51 : decode yB 51 = .ok (.goto 4, 3) := by decide +kernel
theorem d54 : decode yB 54 = .ok (.iconst 0, 1) := by decide +kernel
theorem d55 : decode yB 55 = .ok (.ireturn, 1) := by decide +kernel
def site : List Cond := [.classLink "java/lang/String" 10 "java/lang/String", .fieldLink "java/lang/String" 38 "java/lang/String" "COMPACT_STRINGS" "Z", .fieldLink "java/lang/String" 15 "java/lang/String" "coder" "B", .fieldLink "java/lang/String" 9 "java/lang/String" "value" "[B", LEq.tab] ++ staticW "java/lang/String" 541 LEq.yN
def tab : Cond := tabOf yN yB 3 (some .boolean) site
def P (x t : Addr) (V : Cell) (cd : Int32) (n : Nat) (f : Nat → Int32) (y t' : Addr) (V' : Cell) (cd' : Int32) (k : Nat) (g : Nat → Int32) (z : Int32) (args : Array Value) (s : State) : Prop := args = #[.ref x, .ref y] ∧ Txt x t V cd n f s ∧ Txt y t' V' cd' k g s ∧ StaticIs s "java/lang/String" "COMPACT_STRINGS" "Z" (.int z) ∧ ¬ z = 0
/-- equals(Object) of two Strings: whether the texts are the same -/
theorem law (l : Launch) (x t : Addr) (V : Cell) (cd : Int32) (n : Nat) (f : Nat → Int32) (y t' : Addr) (V' : Cell) (cd' : Int32) (k : Nat) (g : Nat → Int32) (z : Int32) : Law l yN 2 1 1 14 yB 3 (some .boolean) site (P x t V cd n f y t' V' cd' k g z) (Says01 (SameT n f k g)) [] 0 0 := by
  refine Law.of_walk (plainFor_of_name (by decide +kernel)) (by decide +kernel) (by decide +kernel) (by decide) (fun _ _ h => by rw [h.1]; rfl) (fun _ U U' hal hh h => ⟨h.1, h.2.1.mv hal hh, h.2.2.1.mv hal hh, h.2.2.2.1.there hal hh, h.2.2.2.2⟩) (fun r U U' V V' h1 hal h2 h => Says01.mv r U U' V V' h1 hal h2 h) ?_
  intro p e s m args below meth c s₁ X0 hexec hbytes hml hret hlk hnm hown hh0 W hP
  obtain ⟨rfl, hx, hy, s1, hz⟩ := hP
  have c1 : Steps p.tables e below (s₁.setTop (entryFrame m #[.ref x, .ref y] 3)) (s₁.setTop (mkF m 2 #[.val (.ref x), .val (.ref y), .unset] [.ref y, .ref x])) := Steps.trans (entry rfl) (by
    show Steps p.tables e below (s₁.setTop (mkF m 0 #[.val (.ref x), .val (.ref y), .unset] [])) _
    refine XS.aloadN X0.here hexec rfl (hb hbytes d0) rfl rfl ?_
    refine XS.aloadN X0.here hexec rfl (hb hbytes d1) rfl rfl ?_
    exact Steps.refl _)
  by_cases hxy : x = y
  · have c2 : Steps p.tables e below (s₁.setTop (entryFrame m #[.ref x, .ref y] 3)) (s₁.setTop (mkF m 6 #[.val (.ref x), .val (.ref y), .unset] [.int 1])) := c1.trans (by
      refine acmpNo X0.here hexec rfl (hb hbytes d2) rfl rfl rfl (by simp [acmp, hxy]) ?_
      refine iconstV X0.here hexec rfl 1 (hb hbytes d5) (by decide) ?_
      exact Steps.refl _)
    subst hxy
    have ec : cd = cd' := by
      obtain ⟨D, fd, a1, a2, a3⟩ := hx.2.2.1
      obtain ⟨D', fd', b1, b2, b3⟩ := hy.2.2.1
      cases a1.symm.trans b1
      obtain ⟨q1, q2, q3, q4⟩ := a2.1
      obtain ⟨r1, r2, r3, r4⟩ := b2.1
      cases q4.symm.trans r4
      cases a3.symm.trans b3; rfl
    have et : t = t' := by
      obtain ⟨D, fd, a1, a2, a3⟩ := hx.2.1
      obtain ⟨D', fd', b1, b2, b3⟩ := hy.2.1
      cases a1.symm.trans b1
      obtain ⟨q1, q2, q3, q4⟩ := a2.1
      obtain ⟨r1, r2, r3, r4⟩ := b2.1
      cases q4.symm.trans r4
      cases a3.symm.trans b3; rfl
    subst ec et
    have ev : V = V' := by cases hx.2.2.2.1.1.symm.trans hy.2.2.2.1.1; rfl
    subst ev
    have hs : SameT n f k g := (Cod.eqv hx.2.2.2.2.1 hy.2.2.2.2.1 hx.2.2.2.2.2 hy.2.2.2.2.2).mp ⟨rfl, fun _ _ => rfl⟩
    exact ⟨s₁, some (.int 1), _, _, _, X0, rfl, rfl, rfl, (fun h => by cases h), ⟨1, rfl, hh0, Or.inl ⟨rfl, hs⟩⟩, fun fs hl => c2.trans (X0.ireturnOut hexec hret rfl (Or.inr (Or.inl rfl)) (hb hbytes d6) hl)⟩
  · have c2 : Steps p.tables e below (s₁.setTop (entryFrame m #[.ref x, .ref y] 3)) (s₁.setTop (mkF m 8 #[.val (.ref x), .val (.ref y), .unset] [.ref y])) := c1.trans (by
      refine acmpYes X0.here hexec rfl (pc0 := 2) rfl (hb hbytes d2) rfl rfl rfl (by simp [acmp, hxy]) (by decide) rfl ?_
      refine XS.aloadN X0.here hexec rfl (hb hbytes d7) rfl rfl ?_
      exact Steps.refl _)
    obtain ⟨T3, X3, q3, st3⟩ := cinst X0 hexec hown (wk W (.classLink "java/lang/String" 10 "java/lang/String")) (hy.mv X0.warmed.alike hh0).1 (g := (mkF m 8 #[.val (.ref x), .val (.ref y), .unset] [.ref y])) rfl (rest := []) rfl (hb hbytes d8)
    have hh3 := q3.trans hh0
    have c4 : Steps p.tables e below (s₁.setTop (entryFrame m #[.ref x, .ref y] 3)) (T3.setTop (mkF m 15 #[.val (.ref x), .val (.ref y), .unset] [.ref y])) := (c2.trans (st3 _ (Steps.refl _))).trans (by
      refine XS.ifNo X3.here hexec rfl (hb hbytes d11) rfl (i0_eq_f (by decide)) ?_
      refine XS.aloadN X3.here hexec rfl (hb hbytes d14) rfl rfl ?_
      exact Steps.refl _)
    obtain ⟨T5, X5, q5, st5⟩ := cself X3 hexec hown (wk W (.classLink "java/lang/String" 10 "java/lang/String")) (hy.mv X3.warmed.alike hh3).1 (g := (mkF m 15 #[.val (.ref x), .val (.ref y), .unset] [.ref y])) rfl (rest := []) rfl (hb hbytes d15)
    have hh5 := q5.trans hh3
    have c6 : Steps p.tables e below (s₁.setTop (entryFrame m #[.ref x, .ref y] 3)) (T5.setTop (mkF m 19 #[.val (.ref x), .val (.ref y), .val (.ref y)] [])) := (c4.trans (st5 _ (Steps.refl _))).trans (by
      refine XS.astoreN X5.here hexec rfl (hb hbytes d18) rfl rfl rfl ?_
      exact Steps.refl _)
    obtain ⟨T7, X7, q7, st7⟩ := X5.sget hexec hown (wk W (.fieldLink "java/lang/String" 38 "java/lang/String" "COMPACT_STRINGS" "Z")) s1 (fun _ _ h => by rw [hh5]; exact h) (g := (mkF m 19 #[.val (.ref x), .val (.ref y), .val (.ref y)] [])) rfl (hb hbytes d19)
    have hh7 := q7.trans hh5
    have c8 : Steps p.tables e below (s₁.setTop (entryFrame m #[.ref x, .ref y] 3)) (T7.setTop (mkF m 26 #[.val (.ref x), .val (.ref y), .val (.ref y)] [.ref x])) := (c6.trans (st7 _ (Steps.refl _))).trans (by
      refine XS.ifNo X7.here hexec rfl (hb hbytes d22) rfl (i0_eq_f hz) ?_
      refine XS.aloadN X7.here hexec rfl (hb hbytes d25) rfl rfl ?_
      exact Steps.refl _)
    obtain ⟨T9, X9, q9, st9⟩ := X7.hget hexec hown (wk W (.fieldLink "java/lang/String" 15 "java/lang/String" "coder" "B")) (hx.mv X7.warmed.alike hh7).2.2.1 (g := (mkF m 26 #[.val (.ref x), .val (.ref y), .val (.ref y)] [.ref x])) rfl (rest := []) rfl (hb hbytes d26)
    have hh9 := q9.trans hh7
    have c10 : Steps p.tables e below (s₁.setTop (entryFrame m #[.ref x, .ref y] 3)) (T9.setTop (mkF m 30 #[.val (.ref x), .val (.ref y), .val (.ref y)] [.ref y, .int cd])) := (c8.trans (st9 _ (Steps.refl _))).trans (by
      refine XS.aloadN X9.here hexec rfl (hb hbytes d29) rfl rfl ?_
      exact Steps.refl _)
    obtain ⟨T11, X11, q11, st11⟩ := X9.hget hexec hown (wk W (.fieldLink "java/lang/String" 15 "java/lang/String" "coder" "B")) (hy.mv X9.warmed.alike hh9).2.2.1 (g := (mkF m 30 #[.val (.ref x), .val (.ref y), .val (.ref y)] [.ref y, .int cd])) rfl (rest := [.int cd]) rfl (hb hbytes d30)
    have hh11 := q11.trans hh9
    have c12 : Steps p.tables e below (s₁.setTop (entryFrame m #[.ref x, .ref y] 3)) (T11.setTop (mkF m 33 #[.val (.ref x), .val (.ref y), .val (.ref y)] [.int cd', .int cd])) := c10.trans (st11 _ (Steps.refl _))
    by_cases hcd : cd = cd'
    · subst hcd
      have c13 : Steps p.tables e below (s₁.setTop (entryFrame m #[.ref x, .ref y] 3)) (T11.setTop (mkF m 37 #[.val (.ref x), .val (.ref y), .val (.ref y)] [.ref x])) := c12.trans (by
        refine XS.icmpNo X11.here hexec rfl (hb hbytes d33) rfl (ii_ne_f rfl) ?_
        refine XS.aloadN X11.here hexec rfl (hb hbytes d36) rfl rfl ?_
        exact Steps.refl _)
      obtain ⟨T14, X14, q14, st14⟩ := X11.hget hexec hown (wk W (.fieldLink "java/lang/String" 9 "java/lang/String" "value" "[B")) (hx.mv X11.warmed.alike hh11).2.1 (g := (mkF m 37 #[.val (.ref x), .val (.ref y), .val (.ref y)] [.ref x])) rfl (rest := []) rfl (hb hbytes d37)
      have hh14 := q14.trans hh11
      have c15 : Steps p.tables e below (s₁.setTop (entryFrame m #[.ref x, .ref y] 3)) (T14.setTop (mkF m 41 #[.val (.ref x), .val (.ref y), .val (.ref y)] [.ref y, .ref t])) := (c13.trans (st14 _ (Steps.refl _))).trans (by
        refine XS.aloadN X14.here hexec rfl (hb hbytes d40) rfl rfl ?_
        exact Steps.refl _)
      obtain ⟨T16, X16, q16, st16⟩ := X14.hget hexec hown (wk W (.fieldLink "java/lang/String" 9 "java/lang/String" "value" "[B")) (hy.mv X14.warmed.alike hh14).2.1 (g := (mkF m 41 #[.val (.ref x), .val (.ref y), .val (.ref y)] [.ref y, .ref t])) rfl (rest := [.ref t]) rfl (hb hbytes d41)
      have hh16 := q16.trans hh14
      have c17 : Steps p.tables e below (s₁.setTop (entryFrame m #[.ref x, .ref y] 3)) (T16.setTop (mkF m 44 #[.val (.ref x), .val (.ref y), .val (.ref y)] [.ref t', .ref t])) := c15.trans (st16 _ (Steps.refl _))
      obtain ⟨v18, T18, X18, E18, g18⟩ := X16.callS hexec (LEq.law l t V t' V') hown (wks W (staticW "java/lang/String" 541 LEq.yN)) (wk W LEq.tab) (W := 0) (Nat.le_of_ble_eq_true rfl) (Nat.le_of_ble_eq_true rfl) (Nat.le_refl _) (Nat.le_refl _) (g := (mkF m 44 #[.val (.ref x), .val (.ref y), .val (.ref y)] [.ref t', .ref t])) rfl (by rw [hml]; rfl) c17 (argsL := [.ref t, .ref t']) (rest := []) rfl rfl (by show 2 * 0 + 0 ≤ _; decide) (hb hbytes d44) (⟨rfl, hx.2.2.2.1.mv X16.warmed.alike hh16, hx.2.2.2.2.1.ty, hy.2.2.2.1.mv X16.warmed.alike hh16, hy.2.2.2.2.1.ty⟩)
      obtain ⟨v, rfl, q18, hv⟩ := E18
      have iff := Cod.eqv hx.2.2.2.2.1 hy.2.2.2.2.1 hx.2.2.2.2.2 hy.2.2.2.2.2
      rcases hv with ⟨rfl, he⟩ | ⟨rfl, he⟩
      · have c19 : Steps p.tables e below (s₁.setTop (entryFrame m #[.ref x, .ref y] 3)) (T18.setTop (mkF m 55 #[.val (.ref x), .val (.ref y), .val (.ref y)] [.int 1])) := Steps.trans g18 (by
          refine XS.ifNo X18.here hexec rfl (hb hbytes d47) rfl (i0_eq_f (by decide)) ?_
          refine iconstV X18.here hexec rfl 1 (hb hbytes d50) (by decide) ?_
          refine XS.goto X18.here hexec rfl (pc0 := 51) rfl (hb hbytes d51) (by decide) rfl ?_
          exact Steps.refl _)
        exact ⟨T18, some (.int 1), _, _, _, X18, rfl, rfl, rfl, (fun h => by cases h), ⟨1, rfl, q18.trans hh16, Or.inl ⟨rfl, iff.mp he⟩⟩, fun fs hl => c19.trans (X18.ireturnOut hexec hret rfl (Or.inr (Or.inl rfl)) (hb hbytes d55) hl)⟩
      · have c19 : Steps p.tables e below (s₁.setTop (entryFrame m #[.ref x, .ref y] 3)) (T18.setTop (mkF m 55 #[.val (.ref x), .val (.ref y), .val (.ref y)] [.int 0])) := Steps.trans g18 (by
          refine XS.ifYes X18.here hexec rfl (pc0 := 47) rfl (hb hbytes d47) rfl (i0_eq_t rfl) (by decide) rfl ?_
          refine iconstV X18.here hexec rfl 0 (hb hbytes d54) (by decide) ?_
          exact Steps.refl _)
        exact ⟨T18, some (.int 0), _, _, _, X18, rfl, rfl, rfl, (fun h => by cases h), ⟨0, rfl, q18.trans hh16, Or.inr ⟨rfl, fun q => he (iff.mpr q)⟩⟩, fun fs hl => c19.trans (X18.ireturnOut hexec hret rfl (Or.inr (Or.inl rfl)) (hb hbytes d55) hl)⟩
    · have c13 : Steps p.tables e below (s₁.setTop (entryFrame m #[.ref x, .ref y] 3)) (T11.setTop (mkF m 55 #[.val (.ref x), .val (.ref y), .val (.ref y)] [.int 0])) := c12.trans (by
        refine XS.icmpYes X11.here hexec rfl (pc0 := 33) rfl (hb hbytes d33) rfl (ii_ne_t hcd) (by decide) rfl ?_
        refine iconstV X11.here hexec rfl 0 (hb hbytes d54) (by decide) ?_
        exact Steps.refl _)
      exact ⟨T11, some (.int 0), _, _, _, X11, rfl, rfl, rfl, (fun h => by cases h), ⟨0, rfl, hh11, Or.inr ⟨rfl, Cod.dif hx.2.2.2.2.1 hy.2.2.2.2.1 hcd⟩⟩, fun fs hl => c13.trans (X11.ireturnOut hexec hret rfl (Or.inr (Or.inl rfl)) (hb hbytes d55) hl)⟩
theorem pays {l : Launch} {R : Room} {p : Program} {e : Env} {below : List Frame} {s : State} {sargs : Array Value} {len W : Nat} (x t : Addr) (V : Cell) (cd : Int32) (n : Nat) (f : Nat → Int32) (y t' : Addr) (V' : Cell) (cd' : Int32) (k : Nat) (g : Nat → Int32) (z : Int32) (htab : tab.before sargs s = true) (hfr : 2 ≤ R.frames) (hlo : W + 28 ≤ R.locals) :
    Back l R p e below s sargs yN len W (fun A₁ a₁ => A₁.cells + 0 ≤ R.cells ∧ A₁.slots + 0 ≤ R.slots ∧ P x t V cd n f y t' V' cd' k g z a₁ A₁.U) (fun A₁ _ v₁ B₁ => Says01 (SameT n f k g) v₁ A₁.U B₁.U ∧ B₁.locs = A₁.locs ++ [] ∧ B₁.cells = A₁.cells + 0 ∧ B₁.slots = A₁.slots + 0) :=
  (law l x t V cd n f y t' V' cd' k g z).pays htab hfr (by omega)
end SEq
end StrChars
namespace StrChars.Road
open Jvm Sem ClassFile Op Lib Jvm.Stand Jvm.Free Jvm.Free.XT
open Jvm.Lib.Cold (StaticIs)
/-- the words of String.equals(Object) -/
abbrev wordsEq : List Jvm.Cond := [.code SEq.yN SEq.yB 3 (some .boolean), .initialized ST, .classLink ST 10 ST, .fieldLink ST 38 ST "COMPACT_STRINGS" "Z", .fieldLink ST 15 ST "coder" "B", .fieldLink ST 9 ST "value" "[B", .methodLink ST 541 LEq.yN, .static LEq.yN, .code LEq.yN LEq.yB 3 (some .boolean), .initialized "java/lang/StringLatin1"]
theorem tabEq_of {a : Array Value} {s : State} (h : ∀ w ∈ wordsEq, w.before a s = true) : SEq.tab.before a s = true := by
  have hl : LEq.tab.before a s = true := unparts (wk h (.code LEq.yN LEq.yB 3 (some .boolean))) (wks h (.initialized LEq.yN.cls :: LEq.site))
  have q := consq hl h
  exact unparts (wk q (.code SEq.yN SEq.yB 3 (some .boolean))) (wks q (.initialized SEq.yN.cls :: SEq.site))
theorem movedEq {Z s : State} {a0 args : Array Value} (hZ : Z.Warmed39 s.vm) (hw : ∀ d ∈ wordsEq, d.before a0 Z = true) : ∀ d ∈ wordsEq, d.before args s = true := fun d hd => by
  have t : ∀ d ∈ wordsEq, (d.onTables && d.keepsFace) = true := by decide +kernel
  exact RoadKit.mv hZ (hw d hd) (t d hd)
/-- the road's facts of a String, as the laws ask it -/
theorem txt_of {Z U : State} {a0 : Array Value} {kI : Nat} (wi : (Jvm.Cond.instantiable ST kI).before a0 Z = true) (al : Z.vm.Alike U.vm) {x t : Addr} {kb : ClassId} {cs : List Int32} {cd N2 : Int32} {vs : List Value} (E : RoadKit.Exa Z U.heap x ST) (V : RoadKit.Fld Z U.heap x ST "value" "[B" (.ref t)) (C : RoadKit.Fld Z U.heap x ST "coder" "B" (.int cd)) (K : RoadKit.Arv Z U.heap t kb .byte N2 vs (.int 0)) (hc : CodA cs cd N2 vs) (hb : ∀ c ∈ cs, ¬ c < 0 ∧ ¬ (65535 : Int32) < c) (l2 : cs.length ≤ 4000) :
    ∃ A, Txt x t A cd cs.length (fun j => cs.getD j 0) U := by
  obtain ⟨A, K1, K2, K3, K4, K5, K6⟩ := K
  have hcod := hc.cod (by omega) K3 K5
  obtain ⟨D, fV, fC, hB, F1, F2, g1, g2, -, -⟩ := strObj wi al E V C
  exact ⟨A, ⟨_, hB.2.2.1, D, hB.1, rfl, by cases q : D.vm <;> first | rfl | exact absurd q (hB.2.1.2 _)⟩, Has.of hB F1 g1, Has.of hB F2 g2, ⟨K1.1, State.isArrayOf_alike al K1.2.1, K1.2.2, by rcases hcod with ⟨-, q, -⟩ | ⟨-, q, -⟩ <;> omega⟩, hcod, fun j hj => by
    have e : cs.getD j 0 = cs[j] := by simp [List.getD_eq_getElem?_getD, hj]
    show ¬ cs.getD j 0 < 0 ∧ ¬ 65535 < cs.getD j 0
    rw [e]; exact hb _ (List.getElem_mem _)⟩
theorem same_list (cs ds : List Int32) : SameT cs.length (fun j => cs.getD j 0) ds.length (fun j => ds.getD j 0) ↔ cs = ds := by
  constructor
  · rintro ⟨e, q⟩
    refine List.ext_getElem e fun j h1 h2 => ?_
    have := q j h1
    simpa [List.getD_eq_getElem?_getD, h1, h2] using this
  · rintro rfl
    exact ⟨rfl, fun _ _ => rfl⟩
/-- **equals(Object) OF TWO SUCH STRINGS**: 1 just where the chars are the same -/
theorem eqW {p : Program} {l : Launch} {e : Env} {R : Room} {s : State} {args : Array Value} {below : List Frame} {len W : Nat} {Z : State} {a0 : Array Value} {h : Heap} (hZ : Z.Warmed39 s.vm) (hw : ∀ d ∈ wordsEq, d.before a0 Z = true) {kI : Nat} (wi : (Jvm.Cond.instantiable ST kI).before a0 Z = true)
    {x t : Addr} {kb : ClassId} {cs : List Int32} {cd N2 : Int32} {vs : List Value} (E : RoadKit.Exa Z h x ST) (V : RoadKit.Fld Z h x ST "value" "[B" (.ref t)) (C : RoadKit.Fld Z h x ST "coder" "B" (.int cd)) (K : RoadKit.Arv Z h t kb .byte N2 vs (.int 0)) (hc : CodA cs cd N2 vs) (hb : ∀ c ∈ cs, ¬ c < 0 ∧ ¬ (65535 : Int32) < c) (l2 : cs.length ≤ 4000)
    {y t' : Addr} {kb' : ClassId} {ds : List Int32} {cd' N2' : Int32} {vs' : List Value} (E' : RoadKit.Exa Z h y ST) (V' : RoadKit.Fld Z h y ST "value" "[B" (.ref t')) (C' : RoadKit.Fld Z h y ST "coder" "B" (.int cd')) (K' : RoadKit.Arv Z h t' kb' .byte N2' vs' (.int 0)) (hc' : CodA ds cd' N2' vs') (hb' : ∀ c ∈ ds, ¬ c < 0 ∧ ¬ (65535 : Int32) < c) (l2' : ds.length ≤ 4000)
    {z : Int32} (S : RoadKit.Sta Z h ST "COMPACT_STRINGS" "Z" (.int z)) (hz : ¬ z = 0) (hfr : 2 ≤ R.frames) (hlo : W + 28 ≤ R.locals) :
    Back l R p e below s args (⟨"java/lang/String", "equals", "(Ljava/lang/Object;)Z"⟩ : MethodName) len W (fun P a => a = #[.ref x, .ref y] ∧ P.U.heap = h ∧ P.cells + 0 ≤ R.cells ∧ P.slots + 0 ≤ R.slots)
      (fun P _ v B => ∃ L, (((v = some (.int 1) ∧ cs = ds) ∨ (v = some (.int 0) ∧ ¬ cs = ds)) ∧ L = [] ∧ B.U.heap = h) ∧ B.locs = P.locs ++ L ∧ B.cells = P.cells + 0 ∧ B.slots = P.slots + 0) := by
  intro m meth c P g ig mk a X hg hsize hdg hW hn hp'
  obtain ⟨rfl, rfl, r1, r2⟩ := hp'
  have al : Z.vm.Alike P.U.vm := hZ.alike.trans X.warmed.alike
  obtain ⟨A, hx⟩ := txt_of wi al E V C K hc hb l2
  obtain ⟨A', hy⟩ := txt_of wi al E' V' C' K' hc' hb' l2'
  obtain ⟨v, B, X', ⟨⟨w, hv, hh, hq⟩, hl, hk, hs⟩, st⟩ := SEq.pays x t A cd cs.length (fun j => cs.getD j 0) y t' A' cd' ds.length (fun j => ds.getD j 0) z (tabEq_of (movedEq hZ hw)) hfr hlo m meth c P g ig mk _ X hg hsize hdg hW hn ⟨r1, r2, rfl, hx, hy, sta_is al S, hz⟩
  refine ⟨v, B, X', ⟨[], ⟨?_, rfl, hh⟩, hl, hk, hs⟩, st⟩
  rcases hq with ⟨rfl, q⟩ | ⟨rfl, q⟩
  · exact Or.inl ⟨hv, (same_list cs ds).mp q⟩
  · exact Or.inr ⟨hv, fun e => q ((same_list cs ds).mpr e)⟩
end StrChars.Road
namespace StrChars.Road
open Jvm Sem ClassFile Op Lib Jvm.Stand Jvm.Free Jvm.Free.XT
open Jvm.Lib.Cold (StaticIs)
/-- what backV says of its String, as the contracts of this text ask it: cs's low bytes, coder 0 -/
theorem codOf {cs : List Int32} {n : Nat} (hn : cs.length = n) (hb : ∀ c ∈ cs, ¬ 255 < c) : CodA cs 0 (Int32.ofNat n) ((cs.map lo8).map Value.int) := Or.inl ⟨rfl, by rw [hn], by simp [List.map_map, Function.comp_def], hb⟩
end StrChars.Road
end Jvm.Pilot.@@N@@
namespace Jvm.Pilot.@@N@@
open Jvm Jvm.ClassFile Sem Op Lib Jvm.Free Jvm.Stand Jvm.LawKit Jvm.RoadKit Bundle Jvm.Pilot.@@N@@.Jvm.D
theorem and255_chars (x : Int32) : ¬ nar .char ((x &&& (255 : Int32)).toUInt32.toUInt16.toUInt32.toInt32) < 0 ∧ ¬ (255 : Int32) < nar .char ((x &&& (255 : Int32)).toUInt32.toUInt16.toUInt32.toInt32) := by
  have t : ∀ k : Fin 256, ¬ nar .char ((Int32.ofNat k.val).toUInt32.toUInt16.toUInt32.toInt32) < 0 ∧ ¬ (255 : Int32) < nar .char ((Int32.ofNat k.val).toUInt32.toUInt16.toUInt32.toInt32) := by decide +kernel
  have h : (x &&& 255).toBitVec.toNat < 256 := by
    simp only [Int32.toBitVec_and, BitVec.toNat_and]
    exact Nat.lt_succ_of_le Nat.and_le_right
  have e : (x &&& 255) = Int32.ofNat (x &&& 255).toBitVec.toNat := by
    apply Int32.toBitVec_inj.mp
    show _ = BitVec.ofNat 32 _
    rw [BitVec.ofNat_toNat]; simp
  rw [e]
  exact t ⟨_, h⟩
theorem up (cs : List Int32) (h : ∀ c ∈ cs, ¬ c < 0 ∧ ¬ (255 : Int32) < c) : ∀ c ∈ cs, ¬ c < 0 ∧ ¬ (65535 : Int32) < c := fun c hc => ⟨(h c hc).1, fun q => (h c hc).2 (by rw [Int32.lt_iff_toInt_lt] at q ⊢; have e1 : (65535 : Int32).toInt = 65535 := rfl; have e2 : (255 : Int32).toInt = 255 := rfl; omega)⟩
def own_Str (Z : State) (h : Heap) (x : Addr) (cs : List Int32) : Prop := (∀ c ∈ cs, ¬ c < 0 ∧ ¬ (255 : Int32) < c) ∧ cs.length ≤ 4000 ∧ Exa Z h x "java/lang/String" ∧ Fld Z h x "java/lang/String" "coder" "B" (.int 0) ∧ ∃ (t : Addr) (kb : ClassId), Fld Z h x "java/lang/String" "value" "[B" (.ref t) ∧ Arv Z h t kb .byte (Int32.ofNat cs.length) ((cs.map fun c => c.toInt8.toInt32).map Value.int) (.int 0)
theorem own_Str.ext {Z : State} {h h' : Heap} {x : Addr} {cs : List Int32} (E : Ext h h') (S : own_Str Z h x cs) : own_Str Z h' x cs := by
  obtain ⟨h1, h2, h3, h4, t, kb, h5, h6⟩ := S
  exact ⟨h1, h2, h3.ext E, h4.ext E, t, kb, h5.ext E, h6.ext E⟩
theorem own_narc {c : Int32} (h : ¬ c < 0 ∧ ¬ (255 : Int32) < c) : nar .char c = c := by
  have e : c = Int32.ofNat c.toInt.toNat := by
    apply Int32.toInt_inj.mp
    rw [Int32.toInt_ofNat_of_lt]
    · have := h.1; rw [Int32.lt_iff_toInt_lt] at this; have e0 : (0 : Int32).toInt = 0 := rfl; omega
    · have := h.2; rw [Int32.lt_iff_toInt_lt] at this; have e0 : (255 : Int32).toInt = 255 := rfl; omega
  have hk : c.toInt.toNat < 256 := by
    have := h.2; rw [Int32.lt_iff_toInt_lt] at this; have e0 : (255 : Int32).toInt = 255 := rfl; omega
  have t : ∀ k : Fin 256, nar .char (Int32.ofNat k.val) = Int32.ofNat k.val := by decide +kernel
  rw [e]; exact t ⟨_, hk⟩
theorem own_no {Z : State} {a0 : Array Value} {C S K : String} {n : Nat} (w : (Jvm.Cond.superclass C S).before a0 Z = true) (wo : (Jvm.Cond.noSuperclass S).before a0 Z = true) (wi : (Jvm.Cond.instantiable K n).before a0 Z = true) (hn : C ≠ K) (ho : S ≠ K) : ∃ c t, Z.vm.findClass C = some c ∧ Z.vm.findClass K = some t ∧ Z.vm.assignable c t = false := by
  obtain ⟨c2, k2, i1, i2, i3, i4, -⟩ := Cond.instantiable_spec wi
  obtain ⟨c, h0⟩ := found_sup w
  obtain ⟨p, k, kp, h1, h2, h3, h4, h5, -, h7⟩ := Cond.superclass_spec h0 w
  obtain ⟨co, ko, o1, o2, o3, -, -⟩ := Cond.noSuperclass_spec wo
  cases h1.symm.trans o1
  have ne := ids_ne h0 i1 hn
  have ne2 := ids_ne o1 i1 ho
  have hif : k2.isInterface = false := by simp at i4; exact i4.1
  refine ⟨c, c2, h0, i1, ?_⟩
  show Z.vm.assignableAux (255 + 1) c c2 = false
  have q : ∀ fuel, Z.vm.isSubclassAux fuel c c2 = false := by
    intro fuel
    cases fuel with
    | zero => rfl
    | succ f =>
      cases f with
      | zero => simp [Vm.isSubclassAux, ne, h2, h4]
      | succ g => simp [Vm.isSubclassAux, ne, ne2, h2, h4, o2, o3]
  simp [Vm.assignableAux, ne, h2, i2, h5, i3, hif, Vm.isSubclass, q]
theorem own_toI {n : Nat} (h : n < 2147483648) : (Int32.ofNat n).toInt = n := Int32.toInt_ofNat_of_lt h
theorem own_clamp {n : Nat} (h : n < 2147483648) : (Int32.ofNat n).toNatClampNeg = n := by rw [Int32.toNatClampNeg, own_toI h]; omega
theorem own_nn {n : Nat} (h : n < 2147483648) : ¬ Int32.ofNat n < 0 := by rw [Int32.lt_iff_toInt_lt, own_toI h]; have e0 : (0 : Int32).toInt = 0 := rfl; omega
theorem own_lt {a b : Nat} (h : a < 2147483648) (h' : b < 2147483648) : Int32.ofNat a < Int32.ofNat b ↔ a < b := by rw [Int32.lt_iff_toInt_lt, own_toI h, own_toI h']; omega
theorem own_eq {a b : Nat} (h : a < 2147483648) (h' : b < 2147483648) : Int32.ofNat a = Int32.ofNat b ↔ a = b := by rw [← Int32.toInt_inj, own_toI h, own_toI h']; omega
theorem own_addN {a b : Nat} (h : a + b < 2147483648) : Int32.ofNat a + Int32.ofNat b = Int32.ofNat (a + b) := by
  apply Int32.toInt_inj.mp
  have q := c_iadd (Int32.ofNat a) (Int32.ofNat b)
  have r := rng32 (Int32.ofNat a + Int32.ofNat b)
  rw [own_toI (by omega), own_toI (by omega)] at q
  rw [own_toI h]; omega
theorem own_subN {a b : Nat} (hb : b ≤ a) (h : a < 2147483648) : Int32.ofNat a - Int32.ofNat b = Int32.ofNat (a - b) := by
  apply Int32.toInt_inj.mp
  have q := c_isub (Int32.ofNat a) (Int32.ofNat b)
  have r := rng32 (Int32.ofNat a - Int32.ofNat b)
  rw [own_toI (by omega), own_toI (by omega)] at q
  rw [own_toI (by omega)]; omega
abbrev own_by (cs : List Int32) : List Value := (cs.map fun c => c.toInt8.toInt32).map Value.int
theorem own_us (cs : List Int32) (i : Nat) : ((List.range (cs.length - i)).map fun t => (own_by cs).getD (i + t) (.int 0)) = own_by (cs.drop i) := by
  apply List.ext_getElem
  · simp [own_by]
  · intro k h1 h2
    simp only [List.length_map, List.length_range] at h1
    have h3 : i + k < cs.length := by omega
    simp [own_by, List.getD_eq_getElem?_getD, h3]
theorem own_slice (cs : List Int32) (i j : Nat) (h : i + j ≤ cs.length) : ((List.range j).map fun t => cs.getD (i + t) 0) = (cs.drop i).take j := by
  apply List.ext_getElem
  · simp; omega
  · intro k h1 h2
    simp only [List.length_map, List.length_range] at h1
    have h3 : i + k < cs.length := by omega
    simp [List.getD_eq_getElem?_getD, h3]
theorem own_pd0 : parseMethodDescriptor "([CIILjava/lang/Void;)V" = some ⟨[(.array .char), .int, .int, (.object "java/lang/Void")], none⟩ := by decide +kernel
theorem own_pd1 : parseMethodDescriptor "(IIILjava/util/function/BiFunction;)I" = some ⟨[.int, .int, .int, (.object "java/util/function/BiFunction")], some .int⟩ := by decide +kernel
theorem own_pd2 : parseMethodDescriptor "(II)V" = some ⟨[.int, .int], none⟩ := by decide +kernel
theorem own_pd3 : parseMethodDescriptor "(II)I" = some ⟨[.int, .int], some .int⟩ := by decide +kernel
theorem own_pd4 : parseMethodDescriptor "([BII)[B" = some ⟨[(.array .byte), .int, .int], some (.array .byte)⟩ := by decide +kernel
theorem own_pd5 : parseMethodDescriptor "([BB)V" = some ⟨[(.array .byte), .byte], none⟩ := by decide +kernel
theorem own_pd6 : parseMethodDescriptor "()I" = some ⟨[], some .int⟩ := by decide +kernel
theorem own_pd7 : parseMethodDescriptor "(III)V" = some ⟨[.int, .int, .int], none⟩ := by decide +kernel
theorem own_pd8 : parseMethodDescriptor "()Z" = some ⟨[], some .boolean⟩ := by decide +kernel
theorem own_pd9 : parseMethodDescriptor "([BII)Ljava/lang/String;" = some ⟨[(.array .byte), .int, .int], some (.object "java/lang/String")⟩ := by decide +kernel
theorem own_pd10 : parseMethodDescriptor "(II)Ljava/lang/String;" = some ⟨[.int, .int], some (.object "java/lang/String")⟩ := by decide +kernel
theorem own_pd11 : parseMethodDescriptor "(C)Z" = some ⟨[.char], some .boolean⟩ := by decide +kernel
theorem own_pd12 : parseMethodDescriptor "(C)[B" = some ⟨[.char], some (.array .byte)⟩ := by decide +kernel
theorem own_pd13 : parseMethodDescriptor "()V" = some ⟨[], none⟩ := by decide +kernel
theorem own_pd14 : parseMethodDescriptor "(I)Ljava/lang/String;" = some ⟨[.int], some (.object "java/lang/String")⟩ := by decide +kernel
theorem own_pd15 : parseMethodDescriptor "([C)V" = some ⟨[(.array .char)], none⟩ := by decide +kernel
theorem own_pd16 : parseMethodDescriptor "(C)Ljava/lang/String;" = some ⟨[.char], some (.object "java/lang/String")⟩ := by decide +kernel
theorem own_pd17 : parseMethodDescriptor "(Ljava/lang/String;Ljava/lang/String;Ljava/lang/String;Ljava/lang/String;)V" = some ⟨[(.object "java/lang/String"), (.object "java/lang/String"), (.object "java/lang/String"), (.object "java/lang/String")], none⟩ := by decide +kernel
theorem own_pd18 : parseMethodDescriptor "()Ljava/lang/String;" = some ⟨[], some (.object "java/lang/String")⟩ := by decide +kernel
theorem own_pd19 : parseMethodDescriptor "(Ljava/lang/Object;)Z" = some ⟨[(.object "java/lang/Object")], some .boolean⟩ := by decide +kernel
abbrev EL : List (String × Nat) := consts_1
theorem own_EL {Z : State} {a0 : Array Value} (hw : ∀ d ∈ tables_1, d.before a0 Z = true) : EW Z a0 EL := (EW.cons (text := "sequence ") (hw _ (List.mem_of_getElem? (i := 69) rfl)) (by decide) (EW.cons (text := "") (hw _ (List.mem_of_getElem? (i := 110) rfl)) (by decide) (EW.cons (text := "") (hw _ (List.mem_of_getElem? (i := 109) rfl)) (by decide) EW.nil)))
theorem own_wS {Z : State} {a0 : Array Value} (hw : ∀ d ∈ tables_1, d.before a0 Z = true) : ∀ d ∈ Bundle.stringAtoms, d.before a0 Z = true := fun d hd => hw d ((by decide +kernel : ∀ d ∈ Bundle.stringAtoms, d ∈ tables_1) d hd)
theorem own_mem69 : (("com/example/test_rollback/testrollback/Dialect$Counter", 34) : String × Nat) ∈ EL := List.mem_of_getElem? (i := 0) rfl
theorem own_mem110 : (("java/lang/String", 7) : String × Nat) ∈ EL := List.mem_of_getElem? (i := 1) rfl
theorem own_mem109 : (("java/lang/StringLatin1", 151) : String × Nat) ∈ EL := List.mem_of_getElem? (i := 2) rfl
theorem own_safeNull {Z : State} {a0 : Array Value} {EL : List (String × Nat)} {vm : Vm} {h : Heap} {x : Addr} (hal : Z.vm.Alike vm) (E : Exa Z h x "java/lang/String") (F : Fld Z h x "java/lang/String" "value" "[B" .null) : Safe Z EL vm h x := fun B => by
  obtain ⟨cell, cf, k, i, f, f1, f2, -, -, -, -, f7⟩ := F
  obtain ⟨p, -, u, a, -, q, -, G, rfl | rfl⟩ := B
  · cases (show h[q.sa]? = some q.sC from G.ha).symm.trans f1
    obtain ⟨cS, ⟨⟨-, -, -, ⟨c1, k1, i1, g1, -⟩, -, -, -, v1, -⟩, -⟩, -⟩ := G
    obtain ⟨k3, e3⟩ := ff_back (U := Wst Z vm h) hal g1
    have e4 := e3.symm.trans f2
    simp only [Option.some.injEq, Prod.mk.injEq] at e4
    rw [e4.2.2.2, f7] at v1
    cases v1
  · obtain ⟨cell', k', e1, e2, e3, -, -⟩ := E
    cases (show h[q.sd]? = some q.SA from G.hd).symm.trans e1
    obtain ⟨cS, -, -, g, -⟩ := G
    have g' : vm.findClass "[B" = some q.SA.cls := g
    rw [hal.findClass] at g'
    exact ids_ne g' e2 (by decide) rfl
theorem d2_0 : decode jdk_42_method_149_code 0 = .ok (.aload_n 0, 1) := by decide +kernel
theorem d2_1 : decode jdk_42_method_149_code 1 = .ok (.invokespecial 1, 3) := by decide +kernel
theorem d2_4 : decode jdk_42_method_149_code 4 = .ok (.iload_n 3, 1) := by decide +kernel
theorem d2_5 : decode jdk_42_method_149_code 5 = .ok (.ifCond .ne 22, 3) := by decide +kernel
theorem d2_8 : decode jdk_42_method_149_code 8 = .ok (.aload_n 0, 1) := by decide +kernel
theorem d2_9 : decode jdk_42_method_149_code 9 = .ok (.ldc 7, 2) := by decide +kernel
theorem d2_11 : decode jdk_42_method_149_code 11 = .ok (.getfield 9, 3) := by decide +kernel
theorem d2_14 : decode jdk_42_method_149_code 14 = .ok (.putfield 9, 3) := by decide +kernel
theorem d2_17 : decode jdk_42_method_149_code 17 = .ok (.aload_n 0, 1) := by decide +kernel
theorem d2_18 : decode jdk_42_method_149_code 18 = .ok (.ldc 7, 2) := by decide +kernel
theorem d2_20 : decode jdk_42_method_149_code 20 = .ok (.getfield 15, 3) := by decide +kernel
theorem d2_23 : decode jdk_42_method_149_code 23 = .ok (.putfield 15, 3) := by decide +kernel
theorem d2_26 : decode jdk_42_method_149_code 26 = .ok (.return_, 1) := by decide +kernel
theorem own_nbyte0 : nar .byte (0 : Int32) = 0 := by decide
def QE (Z : State) (x : Addr) (h0 : Heap) (n0 : Nat) (v : Option Value) (h : Heap) (L : List Loc) : Prop := v = none ∧ Fr n0 L ∧ Keep h0 h [x] ∧ own_Str Z h x []
theorem own_pn_rmE2 : plainName "java/lang/String" = true := by first | (simp [plainName, overriddenIn]; done) | decide +kernel
theorem own_ef_rmE2 (m : MethodId) (x : Addr) (b : Addr) : entryFrame m #[(.ref x), (.ref b), (.int (0 : Int32)), (.int (0 : Int32)), .null] 6 = (mkF m 0 #[.val (.ref x), .val (.ref b), .val (.int (0 : Int32)), .val (.int (0 : Int32)), .val .null, .unset] []) := by first | (simp [entryFrame, mkF, argsToLocals, Value.category]; done) | rfl
set_option maxRecDepth 65536 in
set_option maxHeartbeats 40000000 in
theorem rmE2 (l : Launch) (Z : State) (a0 : Array Value) (hw : ∀ d ∈ tables_1, d.before a0 Z = true) (ws : List Jvm.Cond) (x : Addr) (b : Addr) (h0 : Heap) (n0 : Nat) (Z0 : n0 ≤ h0.size) (E1 : Exa Z h0 x "java/lang/String") (F1 : Fld Z h0 x "java/lang/String" "value" "[B" .null) (F2 : Fld Z h0 x "java/lang/String" "coder" "B" (.int (0 : Int32))) (ge1 : n0 ≤ x) :
    MetFree l (⟨"java/lang/String", "<init>", "([CIILjava/lang/Void;)V"⟩ : MethodName) (head1 (Jvm.Cond.code (⟨"java/lang/String", "<init>", "([CIILjava/lang/Void;)V"⟩ : MethodName) jdk_42_method_149_code 6 none :: ws) ({ frames := 1, cells := 4, slots := 8, locals := 12 } : Room)) (fun a U => a = #[(.ref x), (.ref b), (.int (0 : Int32)), (.int (0 : Int32)), .null] ∧ Z.Warmed39 U.vm ∧ U.heap = h0 ∧ CHv Z EL U.vm h0) (fun _ _ _ _ _ => True) (fun _ U o U' => ∃ v L, o = .returned v ∧ QE Z x h0 n0 v U'.heap L ∧ CHr Z EL U.vm U.heap U'.vm U'.heap ∧ ReturnedEndW U o U' L ({ frames := 1, cells := 4, slots := 8, locals := 12 } : Room).cells ({ frames := 1, cells := 4, slots := 8, locals := 12 } : Room).slots) := by
  refine MetFree.of_bodySF (plainFor_of_name own_pn_rmE2) hisR ?_
  intro p e s m args below meth c s₁ Bd hml0 hP hK
  obtain ⟨hargs, hZ, hh, hC0⟩ := hP
  have hx := Bd.exec
  have hby := Bd.bytes
  have hml : c.maxLocals = 6 := hml0
  have hown : s.vm.findClass "java/lang/String" = some m.cls := findClass_of_methodNamed Bd.named
  have hnm := (name_of_methodNamed Bd.named Bd.method).1
  have hlock : meth.locks = false := Bd.notSynchronized
  have hret0 := Bd.returns
  have hZ : Z.Warmed39 (s.setVm s.vm).vm := hZ
  have hown : (s.setVm s.vm).vm.findClass "java/lang/String" = some m.cls := hown
  have hEL := own_EL hw
  have hwS := own_wS hw
  have C0 := CHr.refl hC0
  have X0 : Stand p l e ({ frames := 1, cells := 4, slots := 8, locals := 12 } : Room) (s.setVm s.vm) m args below meth c s₁ [] 0 0 := Stand.of_body Bd
  have e0 : s₁.heap = h0 := by rw [← hh, Bd.state]; rfl
  have N0 := Fr.nil n0
  have pre0 : ∀ t, Steps p.tables e below (s₁.setTop (mkF m 0 #[.val (.ref x), .val (.ref b), .val (.int (0 : Int32)), .val (.int (0 : Int32)), .val .null, .unset] [])) t → Steps p.tables e below (s₁.setTop (entryFrame m args 6)) t := fun t k => castTop (by rw [hargs]; exact own_ef_rmE2 m x b) k
  have hS0 := (State.WarmedH.refl s).since 0
  clear Bd
  obtain ⟨T1, X1, e1, st1⟩ := initO X0 hx hZ hown (hw _ (List.mem_of_getElem? (i := 11) rfl)) (hw _ (List.mem_of_getElem? (i := 12) rfl)) (hw _ (List.mem_of_getElem? (i := 13) rfl)) e0 (g := (mkF m 1 #[.val (.ref x), .val (.ref b), .val (.int (0 : Int32)), .val (.int (0 : Int32)), .val .null, .unset] [(.ref x)])) rfl (by rw [hml]; rfl) rfl (hb hby d2_1) (by decide) (W := 0) (by show 2 * 0 + _ ≤ _; exact Nat.le_of_eq rfl) (by decide)
  obtain ⟨a2, T2, h2, k12, b2, kl2, X2, e2, E2, hS2, hkk2, hZ2, hown2, fe2, fc2, fv2, fa2, la2, lb2, CR2, hL2, hne2, st2⟩ := ldcCH (s := s) (vm0 := s.vm) X1 hx hZ hown (hw _ (List.mem_of_getElem? (i := 110) rfl)) hwS e1 hS0 (Nat.zero_le _) hEL (own_mem110) C0.1 (vs := ([] : List Value)) (z := (0 : Int32)) ⟨by decide, by decide⟩ (by decide) rfl (g := (mkF m 9 #[.val (.ref x), .val (.ref b), .val (.int (0 : Int32)), .val (.int (0 : Int32)), .val .null, .unset] [(.ref x)])) rfl (hb hby d2_9) (n := 0) (by decide) (by decide) (by decide) (by decide)
  have Z3 : n0 ≤ h2.size := Nat.le_trans Z0 E2.1
  have K4 : Keep h0 h2 [x] := (Keep.refl h0 [x]).ext E2
  have C5 := (C0.trans CR2)
  have sx2 := (CR2.safe E1.lt (own_safeNull (a0 := a0) hZ.alike E1 F1))
  obtain ⟨T6, X6, e6, st6⟩ := getF X2 hx hZ2 hown2 (host := "") (Or.inl (hw _ (List.mem_of_getElem? (i := 28) rfl))) Via.refl e2 fv2 (g := (mkF m 11 #[.val (.ref x), .val (.ref b), .val (.int (0 : Int32)), .val (.int (0 : Int32)), .val .null, .unset] [(.ref a2), (.ref x)])) rfl rfl (hb hby d2_11)
  have f7 := (F1.ext E2)
  have f8 := (E1.ext E2)
  obtain ⟨T9, h9, X9, e9, W9, st9⟩ := putF X6 hx hZ2 hown2 (host := "") (Or.inl (hw _ (List.mem_of_getElem? (i := 28) rfl))) Via.refl e6 f7 f8 (Or.inr ⟨(hw _ (List.mem_of_getElem? (i := 29) rfl)), rfl, hnm⟩) (hw _ (List.mem_of_getElem? (i := 2) rfl)) (ty := (.array .byte)) (by decide) rfl rfl (g := (mkF m 14 #[.val (.ref x), .val (.ref b), .val (.int (0 : Int32)), .val (.int (0 : Int32)), .val .null, .unset] [(.ref b2), (.ref x)])) rfl rfl (hb hby d2_14)
  have Z10 : n0 ≤ h9.size := Nat.le_trans Z3 (Keep.of_wr W9).1
  have hk11 := Nat.le_trans hkk2 ((Keep.of_wr W9).1 : _ ≤ h9.size)
  have K12 : Keep h0 h9 [x] := K4.wr W9 (Or.inl (List.mem_of_getElem? (i := 0) rfl))
  have N9 := Fr.snoc X9 N0 ge1
  have C13 := (C5.trans (CHr.wr W9 sx2 C5.1))
  have f14 := f7.same W9
  obtain ⟨a15, T15, h15, k115, b15, kl15, X15, e15, E15, hS15, hkk15, hZ15, hown15, fe15, fc15, fv15, fa15, la15, lb15, CR15, hL15, hne15, st15⟩ := ldcCH (s := s) (vm0 := T2.vm) X9 hx hZ2 hown2 (hw _ (List.mem_of_getElem? (i := 110) rfl)) hwS e9 hS2 hk11 hEL (own_mem110) C13.1 (vs := ([] : List Value)) (z := (0 : Int32)) ⟨by decide, by decide⟩ (by decide) rfl (g := (mkF m 18 #[.val (.ref x), .val (.ref b), .val (.int (0 : Int32)), .val (.int (0 : Int32)), .val .null, .unset] [(.ref x)])) rfl (hb hby d2_18) (n := 0) (by decide) (by decide) (by decide) (by decide)
  have Z16 : n0 ≤ h15.size := Nat.le_trans Z10 E15.1
  have K17 : Keep h0 h15 [x] := K12.ext E15
  have C18 := (C13.trans CR15)
  obtain ⟨T19, X19, e19, st19⟩ := getF X15 hx hZ15 hown15 (host := "") (Or.inl (hw _ (List.mem_of_getElem? (i := 26) rfl))) Via.refl e15 fc15 (g := (mkF m 20 #[.val (.ref x), .val (.ref b), .val (.int (0 : Int32)), .val (.int (0 : Int32)), .val .null, .unset] [(.ref a15), (.ref x)])) rfl rfl (hb hby d2_20)
  have f20 := (((F2.ext E2).other W9 (Or.inr (slot_ne (Or.inr (hw _ (List.mem_of_getElem? (i := 27) rfl))) (Or.inr (hw _ (List.mem_of_getElem? (i := 29) rfl))) (by decide) (t := .byte) (t' := (.array .byte)) (by decide) (by decide)))).ext E15)
  have f21 := ((f8.wr W9).ext E15)
  have hn22 : narrow .byte (.int (0 : Int32)) = .int (nar .byte (0 : Int32)) := rfl
  obtain ⟨T22, h22, X22, e22, W22, st22⟩ := putFN X19 hx hZ15 hown15 (hw _ (List.mem_of_getElem? (i := 26) rfl)) Via.refl e19 f20 f21 (Or.inr ⟨(hw _ (List.mem_of_getElem? (i := 27) rfl)), rfl, hnm⟩) (hw _ (List.mem_of_getElem? (i := 2) rfl)) (ty := .byte) (v' := (.int (nar .byte (0 : Int32)))) (by decide) rfl (fits_nar_byte _) (g := (mkF m 23 #[.val (.ref x), .val (.ref b), .val (.int (0 : Int32)), .val (.int (0 : Int32)), .val .null, .unset] [(.int (0 : Int32)), (.ref x)])) rfl rfl (hb hby d2_23)
  have Z23 : n0 ≤ h22.size := Nat.le_trans Z16 (Keep.of_wr W22).1
  have hk24 := Nat.le_trans hkk15 ((Keep.of_wr W22).1 : _ ≤ h22.size)
  have K25 : Keep h0 h22 [x] := K17.wr W22 (Or.inl (List.mem_of_getElem? (i := 0) rfl))
  have N22 := Fr.snoc X22 N9 ge1
  have C26 := (C18.trans (CHr.wr W22 (CR15.safe (f8.wr W9).lt (Safe.wr W9 sx2 C5.1 sx2)) C18.1))
  have f27 := f20.same W22
  have f28 := (((fa2.other W9 (Ne.symm (hne2 x sx2).2)).ext E15).other W22 (Ne.symm (hne2 x sx2).2))
  have f29 := (f21.wr W22)
  have f30 := ((f14.ext E15).other W22 (Or.inr (slot_ne (Or.inr (hw _ (List.mem_of_getElem? (i := 29) rfl))) (Or.inr (hw _ (List.mem_of_getElem? (i := 27) rfl))) (by decide) (t := (.array .byte)) (t' := .byte) (by decide) (by decide))))
  obtain ⟨fs, hr, hrun, hended, hW⟩ := Stand.leaveW (s := s) (vm₁ := T15.vm) X22 hS15 (by rw [e22]; exact hk24) (v := none) (fun _ => rfl)
  refine ⟨_, _, pre0 _ ?_, hrun, hended, _, _, rfl, ?_, own_chr (T := T22) hh e22 (C26.trans (CHv.at (s := s) (vm0 := T15.vm) X22 hZ15 hEL C26.1)), own_wmono hW (by decide) (by decide)⟩
  · show Steps p.tables e below (s₁.setTop (mkF m 0 #[.val (.ref x), .val (.ref b), .val (.int (0 : Int32)), .val (.int (0 : Int32)), .val .null, .unset] [])) _
    refine XS.aloadN X0.here hx rfl (hb hby d2_0) rfl rfl ?_
    show Steps p.tables e below (s₁.setTop (mkF m 1 #[.val (.ref x), .val (.ref b), .val (.int (0 : Int32)), .val (.int (0 : Int32)), .val .null, .unset] [(.ref x)])) _
    refine st1 _ ?_
    show Steps p.tables e below (T1.setTop (mkF m 4 #[.val (.ref x), .val (.ref b), .val (.int (0 : Int32)), .val (.int (0 : Int32)), .val .null, .unset] [])) _
    refine XS.iloadN X1.here hx rfl (hb hby d2_4) rfl ?_
    show Steps p.tables e below (T1.setTop (mkF m 5 #[.val (.ref x), .val (.ref b), .val (.int (0 : Int32)), .val (.int (0 : Int32)), .val .null, .unset] [(.int (0 : Int32))])) _
    refine XS.ifNo X1.here hx rfl (hb hby d2_5) rfl ((if0 _ _).trans (teq rfl).2) ?_
    show Steps p.tables e below (T1.setTop (mkF m 8 #[.val (.ref x), .val (.ref b), .val (.int (0 : Int32)), .val (.int (0 : Int32)), .val .null, .unset] [])) _
    refine XS.aloadN X1.here hx rfl (hb hby d2_8) rfl rfl ?_
    show Steps p.tables e below (T1.setTop (mkF m 9 #[.val (.ref x), .val (.ref b), .val (.int (0 : Int32)), .val (.int (0 : Int32)), .val .null, .unset] [(.ref x)])) _
    refine st2 _ ?_
    show Steps p.tables e below (T2.setTop (mkF m 11 #[.val (.ref x), .val (.ref b), .val (.int (0 : Int32)), .val (.int (0 : Int32)), .val .null, .unset] [(.ref a2), (.ref x)])) _
    refine st6 _ ?_
    show Steps p.tables e below (T6.setTop (mkF m 14 #[.val (.ref x), .val (.ref b), .val (.int (0 : Int32)), .val (.int (0 : Int32)), .val .null, .unset] [(.ref b2), (.ref x)])) _
    refine st9 _ ?_
    show Steps p.tables e below (T9.setTop (mkF m 17 #[.val (.ref x), .val (.ref b), .val (.int (0 : Int32)), .val (.int (0 : Int32)), .val .null, .unset] [])) _
    refine XS.aloadN X9.here hx rfl (hb hby d2_17) rfl rfl ?_
    show Steps p.tables e below (T9.setTop (mkF m 18 #[.val (.ref x), .val (.ref b), .val (.int (0 : Int32)), .val (.int (0 : Int32)), .val .null, .unset] [(.ref x)])) _
    refine st15 _ ?_
    show Steps p.tables e below (T15.setTop (mkF m 20 #[.val (.ref x), .val (.ref b), .val (.int (0 : Int32)), .val (.int (0 : Int32)), .val .null, .unset] [(.ref a15), (.ref x)])) _
    refine st19 _ ?_
    show Steps p.tables e below (T19.setTop (mkF m 23 #[.val (.ref x), .val (.ref b), .val (.int (0 : Int32)), .val (.int (0 : Int32)), .val .null, .unset] [(.int (0 : Int32)), (.ref x)])) _
    refine st22 _ ?_
    show Steps p.tables e below (T22.setTop (mkF m 26 #[.val (.ref x), .val (.ref b), .val (.int (0 : Int32)), .val (.int (0 : Int32)), .val .null, .unset] [])) _
    exact X22.returnOut hx hret0 (hb hby d2_26) hr
  · show QE Z x h0 n0 _ T22.heap _
    rw [e22]
    exact ⟨rfl, N22, K25, by decide, by decide, f29, own_nbyte0 ▸ f27, b2, kl2, f30, f28⟩
theorem d1_0 : decode jdk_42_method_3_code 0 = .ok (.aload_n 0, 1) := by decide +kernel
theorem d1_1 : decode jdk_42_method_3_code 1 = .ok (.aload_n 1, 1) := by decide +kernel
theorem d1_2 : decode jdk_42_method_3_code 2 = .ok (.iconst 0, 1) := by decide +kernel
theorem d1_3 : decode jdk_42_method_3_code 3 = .ok (.aload_n 1, 1) := by decide +kernel
theorem d1_4 : decode jdk_42_method_3_code 4 = .ok (.arraylength, 1) := by decide +kernel
theorem d1_5 : decode jdk_42_method_3_code 5 = .ok (.aconst_null, 1) := by decide +kernel
theorem d1_6 : decode jdk_42_method_3_code 6 = .ok (.invokespecial 27, 3) := by decide +kernel
theorem d1_9 : decode jdk_42_method_3_code 9 = .ok (.return_, 1) := by decide +kernel
theorem own_pn_rmE1 : plainName "java/lang/String" = true := by first | (simp [plainName, overriddenIn]; done) | decide +kernel
theorem own_ef_rmE1 (m : MethodId) (x : Addr) (b : Addr) : entryFrame m #[(.ref x), (.ref b)] 2 = (mkF m 0 #[.val (.ref x), .val (.ref b)] []) := by first | (simp [entryFrame, mkF, argsToLocals, Value.category]; done) | rfl
set_option maxRecDepth 65536 in
set_option maxHeartbeats 40000000 in
theorem rmE1 (l : Launch) (Z : State) (a0 : Array Value) (hw : ∀ d ∈ tables_1, d.before a0 Z = true) (ws : List Jvm.Cond) (x : Addr) (b : Addr) (kb : ClassId) (h0 : Heap) (n0 : Nat) (Z0 : n0 ≤ h0.size) (E1 : Exa Z h0 x "java/lang/String") (F1 : Fld Z h0 x "java/lang/String" "value" "[B" .null) (F2 : Fld Z h0 x "java/lang/String" "coder" "B" (.int (0 : Int32))) (ge1 : n0 ≤ x) (VB : Arv Z h0 b kb .char (0 : Int32) [] (.int (0 : Int32))) :
    MetFree l (⟨"java/lang/String", "<init>", "([C)V"⟩ : MethodName) (head1 (Jvm.Cond.code (⟨"java/lang/String", "<init>", "([C)V"⟩ : MethodName) jdk_42_method_3_code 2 none :: ws) ({ frames := 2, cells := 4, slots := 8, locals := 29 } : Room)) (fun a U => a = #[(.ref x), (.ref b)] ∧ Z.Warmed39 U.vm ∧ U.heap = h0 ∧ CHv Z EL U.vm h0) (fun _ _ _ _ _ => True) (fun _ U o U' => ∃ v L, o = .returned v ∧ QE Z x h0 n0 v U'.heap L ∧ CHr Z EL U.vm U.heap U'.vm U'.heap ∧ ReturnedEndW U o U' L ({ frames := 2, cells := 4, slots := 8, locals := 29 } : Room).cells ({ frames := 2, cells := 4, slots := 8, locals := 29 } : Room).slots) := by
  refine MetFree.of_bodySF (plainFor_of_name own_pn_rmE1) hisR ?_
  intro p e s m args below meth c s₁ Bd hml0 hP hK
  obtain ⟨hargs, hZ, hh, hC0⟩ := hP
  have hx := Bd.exec
  have hby := Bd.bytes
  have hml : c.maxLocals = 2 := hml0
  have hown : s.vm.findClass "java/lang/String" = some m.cls := findClass_of_methodNamed Bd.named
  have hnm := (name_of_methodNamed Bd.named Bd.method).1
  have hlock : meth.locks = false := Bd.notSynchronized
  have hret0 := Bd.returns
  have hZ : Z.Warmed39 (s.setVm s.vm).vm := hZ
  have hown : (s.setVm s.vm).vm.findClass "java/lang/String" = some m.cls := hown
  have hEL := own_EL hw
  have hwS := own_wS hw
  have C0 := CHr.refl hC0
  have X0 : Stand p l e ({ frames := 2, cells := 4, slots := 8, locals := 29 } : Room) (s.setVm s.vm) m args below meth c s₁ [] 0 0 := Stand.of_body Bd
  have e0 : s₁.heap = h0 := by rw [← hh, Bd.state]; rfl
  have N0 := Fr.nil n0
  have pre0 : ∀ t, Steps p.tables e below (s₁.setTop (mkF m 0 #[.val (.ref x), .val (.ref b)] [])) t → Steps p.tables e below (s₁.setTop (entryFrame m args 2)) t := fun t k => castTop (by rw [hargs]; exact own_ef_rmE1 m x b) k
  have hS0 := (State.WarmedH.refl s).since 0
  clear Bd
  obtain ⟨cl31, Ar31, -, S31, M31, -, -⟩ := id VB
  obtain ⟨v32, vmx32, ⟨T32, L32, k32, n32⟩, -, Xq32, hSq32, hgr32, ⟨Lc32, hQ32, l32, y32, z32, CR32⟩, st32⟩ := X0.specialBackS hx (y := (⟨"java/lang/String", "<init>", "([CIILjava/lang/Void;)V"⟩ : MethodName)) rfl hown (mvT hZ (hw _ (List.mem_of_getElem? (i := 7) rfl))) (mvT hZ (hw _ (List.mem_of_getElem? (i := 8) rfl))) (mvT hZ (hw _ (List.mem_of_getElem? (i := 10) rfl))) (by decide) (backOfSH (s := s) (vm0 := s.vm) (W := 0) (rmE2 l Z a0 hw [] x b h0 n0 Z0 E1 F1 F2 ge1) hZ (hw _ (List.mem_of_getElem? (i := 10) rfl)) (hw _ (List.mem_of_getElem? (i := 3) rfl)) (by decide) (by decide) hEL C0.1) (g := (mkF m 6 #[.val (.ref x), .val (.ref b)] [.null, (.int (0 : Int32)), (.int (0 : Int32)), (.ref b), (.ref x)])) rfl (by rw [hml]; rfl) (Steps.refl _) (a := x) (argsL := [(.ref b), (.int (0 : Int32)), (.int (0 : Int32)), .null]) (rest := []) (lenOf own_pd0 rfl) rfl (by show 2 * 0 + _ ≤ _; exact Nat.le_of_eq rfl) (hb hby d1_6) (fun _ _ => ⟨rfl, e0, (by decide : 0 + 4 ≤ _), (by decide : 0 + 8 ≤ _)⟩)
  dsimp only [Pt.U, Pt.locs, Pt.cells, Pt.slots] at Xq32 hSq32 hgr32 l32 y32 z32 st32 hQ32 CR32
  subst l32 y32 z32
  obtain ⟨X32, hS32, hZ32, hown32⟩ := rebS (s := s) (vm0 := s.vm) hS0 (by rw [e0]; exact (Nat.zero_le _)) Xq32 hSq32 hgr32 hZ hown
  obtain ⟨rfl, Nq32, K32, S32⟩ := hQ32
  have N32 := Fr.app N0 Nq32
  have Z33 : n0 ≤ T32.heap.size := Nat.le_trans Z0 K32.1
  have K34 : Keep h0 T32.heap [x] := (Keep.refl h0 [x]).trans K32 (allS (Or.inl (List.mem_of_getElem? (i := 0) rfl)) all0)
  have C35 := (C0.trans CR32)
  obtain ⟨fs, hr, hrun, hended, hW⟩ := Stand.leaveW (s := s) (vm₁ := T32.vm) X32 hS32 (by rw [show T32.heap = _ from rfl]; exact (Nat.le_refl _)) (v := none) (fun _ => rfl)
  refine ⟨_, _, pre0 _ ?_, hrun, hended, _, _, rfl, ?_, own_chr (T := T32) hh rfl (C35.trans (CHv.at (s := s) (vm0 := T32.vm) X32 hZ32 hEL C35.1)), own_wmono hW (by decide) (by decide)⟩
  · show Steps p.tables e below (s₁.setTop (mkF m 0 #[.val (.ref x), .val (.ref b)] [])) _
    refine XS.aloadN X0.here hx rfl (hb hby d1_0) rfl rfl ?_
    show Steps p.tables e below (s₁.setTop (mkF m 1 #[.val (.ref x), .val (.ref b)] [(.ref x)])) _
    refine XS.aloadN X0.here hx rfl (hb hby d1_1) rfl rfl ?_
    show Steps p.tables e below (s₁.setTop (mkF m 2 #[.val (.ref x), .val (.ref b)] [(.ref b), (.ref x)])) _
    refine XS.iconst X0.here hx rfl (hb hby d1_2) ?_
    show Steps p.tables e below (s₁.setTop (mkF m 3 #[.val (.ref x), .val (.ref b)] [(.int (0 : Int32)), (.ref b), (.ref x)])) _
    refine XS.aloadN X0.here hx rfl (hb hby d1_3) rfl rfl ?_
    show Steps p.tables e below (s₁.setTop (mkF m 4 #[.val (.ref x), .val (.ref b)] [(.ref b), (.int (0 : Int32)), (.ref b), (.ref x)])) _
    refine X0.arraylength hx (by rw [e0]; exact Ar31.1) (State.isArrayOf_alike hZ.alike Ar31.2.1) (g := (mkF m 4 #[.val (.ref x), .val (.ref b)] [(.ref b), (.int (0 : Int32)), (.ref b), (.ref x)])) rfl rfl (hb hby d1_4) _ ?_
    rw [len_of S31 M31]
    show Steps p.tables e below (s₁.setTop (mkF m 5 #[.val (.ref x), .val (.ref b)] [(.int (0 : Int32)), (.int (0 : Int32)), (.ref b), (.ref x)])) _
    refine XS.aconstNull X0.here hx rfl (hb hby d1_5) ?_
    show Steps p.tables e below (s₁.setTop (mkF m 6 #[.val (.ref x), .val (.ref b)] [.null, (.int (0 : Int32)), (.int (0 : Int32)), (.ref b), (.ref x)])) _
    refine st32.trans ?_
    show Steps p.tables e below (T32.setTop (mkF m 9 #[.val (.ref x), .val (.ref b)] [])) _
    exact X32.returnOut hx hret0 (hb hby d1_9) hr
  · show QE Z x h0 n0 _ T32.heap _
    exact ⟨rfl, N32, K34, S32⟩
theorem d27_0 : decode jdk_29_method_69_code 0 = .ok (.iload_n 0, 1) := by decide +kernel
theorem d27_1 : decode jdk_29_method_69_code 1 = .ok (.iload_n 1, 1) := by decide +kernel
theorem d27_2 : decode jdk_29_method_69_code 2 = .ok (.if_icmp .gt 7, 3) := by decide +kernel
theorem d27_5 : decode jdk_29_method_69_code 5 = .ok (.iload_n 0, 1) := by decide +kernel
theorem d27_6 : decode jdk_29_method_69_code 6 = .ok (.goto 4, 3) := by decide +kernel
theorem d27_9 : decode jdk_29_method_69_code 9 = .ok (.iload_n 1, 1) := by decide +kernel
theorem d27_10 : decode jdk_29_method_69_code 10 = .ok (.ireturn, 1) := by decide +kernel
def QMin (p0 p1 : Int32) (h0 : Heap) (n0 : Nat) (v : Option Value) (h : Heap) (L : List Loc) : Prop := v = some (.int (if p1 < p0 then p1 else p0)) ∧ Fr n0 L ∧ h = h0
theorem own_ef_rmMin (m : MethodId) (p0 : Int32) (p1 : Int32) : entryFrame m #[(.int p0), (.int p1)] 2 = (mkF m 0 #[.val (.int p0), .val (.int p1)] []) := by first | (simp [entryFrame, mkF, argsToLocals, Value.category]; done) | rfl
set_option maxRecDepth 65536 in
set_option maxHeartbeats 40000000 in
theorem rmMin (l : Launch) (Z : State) (a0 : Array Value) (hw : ∀ d ∈ tables_1, d.before a0 Z = true) (ws : List Jvm.Cond) (p0 : Int32) (p1 : Int32) (h0 : Heap) (n0 : Nat) (Z0 : n0 ≤ h0.size) :
    MetFree l (⟨"java/lang/Math", "min", "(II)I"⟩ : MethodName) (head1 (Jvm.Cond.code (⟨"java/lang/Math", "min", "(II)I"⟩ : MethodName) jdk_29_method_69_code 2 (some .int) :: ws) ({ frames := 0, cells := 0, slots := 0, locals := 0 } : Room)) (fun a U => a = #[(.int p0), (.int p1)] ∧ Z.Warmed39 U.vm ∧ U.heap = h0) (fun _ _ _ _ _ => True) (fun _ U o U' => ∃ v L, o = .returned v ∧ QMin p0 p1 h0 n0 v U'.heap L ∧ FrameEnd U o U' L ({ frames := 0, cells := 0, slots := 0, locals := 0 } : Room).cells ({ frames := 0, cells := 0, slots := 0, locals := 0 } : Room).slots) := by
  refine MetFree.of_bodySF (Jvm.Free.JP.mathPlain rfl (by decide +kernel)) hisR ?_
  intro p e s m args below meth c s₁ Bd hml0 hP hK
  obtain ⟨hargs, hZ, hh⟩ := hP
  have hx := Bd.exec
  have hby := Bd.bytes
  have hml : c.maxLocals = 2 := hml0
  have hown : s.vm.findClass "java/lang/Math" = some m.cls := findClass_of_methodNamed Bd.named
  have hnm := (name_of_methodNamed Bd.named Bd.method).1
  have hlock : meth.locks = false := Bd.notSynchronized
  have hret0 := Bd.returns
  have X0 : Stand p l e ({ frames := 0, cells := 0, slots := 0, locals := 0 } : Room) s m args below meth c s₁ [] 0 0 := Stand.of_body Bd
  have e0 : s₁.heap = h0 := by rw [← hh, Bd.state]; rfl
  have N0 := Fr.nil n0
  have pre0 : ∀ t, Steps p.tables e below (s₁.setTop (mkF m 0 #[.val (.int p0), .val (.int p1)] [])) t → Steps p.tables e below (s₁.setTop (entryFrame m args 2)) t := fun t k => castTop (by rw [hargs]; exact own_ef_rmMin m p0 p1) k
  clear Bd
  by_cases hc : p1 < p0
  · skip
    obtain ⟨fs, hr, hrun, hended, hW, hsame⟩ := X0.leave (v := some (.int p1)) (fun h => by rw [hret0] at h; cases h)
    refine ⟨_, _, pre0 _ ?_, hrun, hended, _, _, rfl, ?_, ⟨_, rfl⟩, hW, hsame.mono (by decide) (by decide)⟩
    · show Steps p.tables e below (s₁.setTop (mkF m 0 #[.val (.int p0), .val (.int p1)] [])) _
      refine XS.iloadN X0.here hx rfl (hb hby d27_0) rfl ?_
      show Steps p.tables e below (s₁.setTop (mkF m 1 #[.val (.int p0), .val (.int p1)] [(.int p0)])) _
      refine XS.iloadN X0.here hx rfl (hb hby d27_1) rfl ?_
      show Steps p.tables e below (s₁.setTop (mkF m 2 #[.val (.int p0), .val (.int p1)] [(.int p1), (.int p0)])) _
      refine XS.icmpYes X0.here hx rfl (pc0 := 2) (pc' := 9) rfl (hb hby d27_2) rfl (tlt hc).2.2.1 (by decide) (by decide) ?_
      show Steps p.tables e below (s₁.setTop (mkF m 9 #[.val (.int p0), .val (.int p1)] [])) _
      refine XS.iloadN X0.here hx rfl (hb hby d27_9) rfl ?_
      show Steps p.tables e below (s₁.setTop (mkF m 10 #[.val (.int p0), .val (.int p1)] [(.int p1)])) _
      exact retI X0 hx hret0 (hb hby d27_10) hr
    · show QMin p0 p1 h0 n0 _ s₁.heap _
      rw [e0]
      exact ⟨by rw [if_pos hc], N0, rfl⟩
  · skip
    obtain ⟨fs, hr, hrun, hended, hW, hsame⟩ := X0.leave (v := some (.int p0)) (fun h => by rw [hret0] at h; cases h)
    refine ⟨_, _, pre0 _ ?_, hrun, hended, _, _, rfl, ?_, ⟨_, rfl⟩, hW, hsame.mono (by decide) (by decide)⟩
    · show Steps p.tables e below (s₁.setTop (mkF m 0 #[.val (.int p0), .val (.int p1)] [])) _
      refine XS.iloadN X0.here hx rfl (hb hby d27_0) rfl ?_
      show Steps p.tables e below (s₁.setTop (mkF m 1 #[.val (.int p0), .val (.int p1)] [(.int p0)])) _
      refine XS.iloadN X0.here hx rfl (hb hby d27_1) rfl ?_
      show Steps p.tables e below (s₁.setTop (mkF m 2 #[.val (.int p0), .val (.int p1)] [(.int p1), (.int p0)])) _
      refine XS.icmpNo X0.here hx rfl (hb hby d27_2) rfl (flt hc).2.2.1 ?_
      show Steps p.tables e below (s₁.setTop (mkF m 5 #[.val (.int p0), .val (.int p1)] [])) _
      refine XS.iloadN X0.here hx rfl (hb hby d27_5) rfl ?_
      show Steps p.tables e below (s₁.setTop (mkF m 6 #[.val (.int p0), .val (.int p1)] [(.int p0)])) _
      refine XS.goto X0.here hx rfl (pc0 := 6) (pc' := 10) rfl (hb hby d27_6) (by decide) (by decide) ?_
      show Steps p.tables e below (s₁.setTop (mkF m 10 #[.val (.int p0), .val (.int p1)] [(.int p0)])) _
      exact retI X0 hx hret0 (hb hby d27_10) hr
    · show QMin p0 p1 h0 n0 _ s₁.heap _
      rw [e0]
      exact ⟨by rw [if_neg hc], N0, rfl⟩
theorem d19_0 : decode jdk_41_method_12_code 0 = .ok (.iload_n 0, 1) := by decide +kernel
theorem d19_1 : decode jdk_41_method_12_code 1 = .ok (.ifCond .lt 13, 3) := by decide +kernel
theorem d19_4 : decode jdk_41_method_12_code 4 = .ok (.iload_n 0, 1) := by decide +kernel
theorem d19_5 : decode jdk_41_method_12_code 5 = .ok (.iload_n 1, 1) := by decide +kernel
theorem d19_6 : decode jdk_41_method_12_code 6 = .ok (.if_icmp .gt 8, 3) := by decide +kernel
theorem d19_9 : decode jdk_41_method_12_code 9 = .ok (.iload_n 1, 1) := by decide +kernel
theorem d19_10 : decode jdk_41_method_12_code 10 = .ok (.iload_n 2, 1) := by decide +kernel
theorem d19_11 : decode jdk_41_method_12_code 11 = .ok (.if_icmp .le 11, 3) := by decide +kernel
theorem d19_22 : decode jdk_41_method_12_code 22 = .ok (.iload_n 0, 1) := by decide +kernel
theorem d19_23 : decode jdk_41_method_12_code 23 = .ok (.ireturn, 1) := by decide +kernel
def QCft (p0 : Int32) (h0 : Heap) (n0 : Nat) (v : Option Value) (h : Heap) (L : List Loc) : Prop := v = some (.int p0) ∧ Fr n0 L ∧ h = h0
theorem own_pn_rmCft : plainName "jdk/internal/util/Preconditions" = true := by first | (simp [plainName, overriddenIn]; done) | decide +kernel
theorem own_ef_rmCft (m : MethodId) (p0 : Int32) (p1 : Int32) (p2 : Int32) (v3 : Value) (h_v3 : v3.isRef = true) : entryFrame m #[(.int p0), (.int p1), (.int p2), v3] 4 = (mkF m 0 #[.val (.int p0), .val (.int p1), .val (.int p2), .val v3] []) := by rcases ref_cases h_v3 with rfl | ⟨_, rfl⟩ <;> first | (simp [entryFrame, mkF, argsToLocals, Value.category]; done) | rfl
set_option maxRecDepth 65536 in
set_option maxHeartbeats 40000000 in
theorem rmCft (l : Launch) (Z : State) (a0 : Array Value) (hw : ∀ d ∈ tables_1, d.before a0 Z = true) (ws : List Jvm.Cond) (p0 : Int32) (p1 : Int32) (p2 : Int32) (v3 : Value) (h0 : Heap) (n0 : Nat) (Z0 : n0 ≤ h0.size) (h3 : v3.isRef = true) (q1 : ¬ p0 < 0) (q2 : ¬ p1 < p0) (q3 : ¬ p2 < p1) :
    MetFree l (⟨"jdk/internal/util/Preconditions", "checkFromToIndex", "(IIILjava/util/function/BiFunction;)I"⟩ : MethodName) (head1 (Jvm.Cond.code (⟨"jdk/internal/util/Preconditions", "checkFromToIndex", "(IIILjava/util/function/BiFunction;)I"⟩ : MethodName) jdk_41_method_12_code 4 (some .int) :: ws) ({ frames := 0, cells := 0, slots := 0, locals := 0 } : Room)) (fun a U => a = #[(.int p0), (.int p1), (.int p2), v3] ∧ Z.Warmed39 U.vm ∧ U.heap = h0) (fun _ _ _ _ _ => True) (fun _ U o U' => ∃ v L, o = .returned v ∧ QCft p0 h0 n0 v U'.heap L ∧ FrameEnd U o U' L ({ frames := 0, cells := 0, slots := 0, locals := 0 } : Room).cells ({ frames := 0, cells := 0, slots := 0, locals := 0 } : Room).slots) := by
  refine MetFree.of_bodySF (plainFor_of_name own_pn_rmCft) hisR ?_
  intro p e s m args below meth c s₁ Bd hml0 hP hK
  obtain ⟨hargs, hZ, hh⟩ := hP
  have hx := Bd.exec
  have hby := Bd.bytes
  have hml : c.maxLocals = 4 := hml0
  have hown : s.vm.findClass "jdk/internal/util/Preconditions" = some m.cls := findClass_of_methodNamed Bd.named
  have hnm := (name_of_methodNamed Bd.named Bd.method).1
  have hlock : meth.locks = false := Bd.notSynchronized
  have hret0 := Bd.returns
  have X0 : Stand p l e ({ frames := 0, cells := 0, slots := 0, locals := 0 } : Room) s m args below meth c s₁ [] 0 0 := Stand.of_body Bd
  have e0 : s₁.heap = h0 := by rw [← hh, Bd.state]; rfl
  have N0 := Fr.nil n0
  have pre0 : ∀ t, Steps p.tables e below (s₁.setTop (mkF m 0 #[.val (.int p0), .val (.int p1), .val (.int p2), .val v3] [])) t → Steps p.tables e below (s₁.setTop (entryFrame m args 4)) t := fun t k => castTop (by rw [hargs]; exact own_ef_rmCft m p0 p1 p2 v3 h3) k
  clear Bd
  obtain ⟨fs, hr, hrun, hended, hW, hsame⟩ := X0.leave (v := some (.int p0)) (fun h => by rw [hret0] at h; cases h)
  refine ⟨_, _, pre0 _ ?_, hrun, hended, _, _, rfl, ?_, ⟨_, rfl⟩, hW, hsame.mono (by decide) (by decide)⟩
  · show Steps p.tables e below (s₁.setTop (mkF m 0 #[.val (.int p0), .val (.int p1), .val (.int p2), .val v3] [])) _
    refine XS.iloadN X0.here hx rfl (hb hby d19_0) rfl ?_
    show Steps p.tables e below (s₁.setTop (mkF m 1 #[.val (.int p0), .val (.int p1), .val (.int p2), .val v3] [(.int p0)])) _
    refine XS.ifNo X0.here hx rfl (hb hby d19_1) rfl ((if0 _ _).trans (flt q1).1) ?_
    show Steps p.tables e below (s₁.setTop (mkF m 4 #[.val (.int p0), .val (.int p1), .val (.int p2), .val v3] [])) _
    refine XS.iloadN X0.here hx rfl (hb hby d19_4) rfl ?_
    show Steps p.tables e below (s₁.setTop (mkF m 5 #[.val (.int p0), .val (.int p1), .val (.int p2), .val v3] [(.int p0)])) _
    refine XS.iloadN X0.here hx rfl (hb hby d19_5) rfl ?_
    show Steps p.tables e below (s₁.setTop (mkF m 6 #[.val (.int p0), .val (.int p1), .val (.int p2), .val v3] [(.int p1), (.int p0)])) _
    refine XS.icmpNo X0.here hx rfl (hb hby d19_6) rfl (flt q2).2.2.1 ?_
    show Steps p.tables e below (s₁.setTop (mkF m 9 #[.val (.int p0), .val (.int p1), .val (.int p2), .val v3] [])) _
    refine XS.iloadN X0.here hx rfl (hb hby d19_9) rfl ?_
    show Steps p.tables e below (s₁.setTop (mkF m 10 #[.val (.int p0), .val (.int p1), .val (.int p2), .val v3] [(.int p1)])) _
    refine XS.iloadN X0.here hx rfl (hb hby d19_10) rfl ?_
    show Steps p.tables e below (s₁.setTop (mkF m 11 #[.val (.int p0), .val (.int p1), .val (.int p2), .val v3] [(.int p2), (.int p1)])) _
    refine XS.icmpYes X0.here hx rfl (pc0 := 11) (pc' := 22) rfl (hb hby d19_11) rfl (flt q3).2.2.2 (by decide) (by decide) ?_
    show Steps p.tables e below (s₁.setTop (mkF m 22 #[.val (.int p0), .val (.int p1), .val (.int p2), .val v3] [])) _
    refine XS.iloadN X0.here hx rfl (hb hby d19_22) rfl ?_
    show Steps p.tables e below (s₁.setTop (mkF m 23 #[.val (.int p0), .val (.int p1), .val (.int p2), .val v3] [(.int p0)])) _
    exact retI X0 hx hret0 (hb hby d19_23) hr
  · show QCft p0 h0 n0 _ s₁.heap _
    rw [e0]
    exact ⟨rfl, N0, rfl⟩
theorem d18_0 : decode jdk_42_method_158_code 0 = .ok (.iload_n 0, 1) := by decide +kernel
theorem d18_1 : decode jdk_42_method_158_code 1 = .ok (.iload_n 1, 1) := by decide +kernel
theorem d18_2 : decode jdk_42_method_158_code 2 = .ok (.iload_n 2, 1) := by decide +kernel
theorem d18_3 : decode jdk_42_method_158_code 3 = .ok (.getstatic 1053, 3) := by decide +kernel
theorem d18_6 : decode jdk_42_method_158_code 6 = .ok (.invokestatic 1062, 3) := by decide +kernel
theorem d18_9 : decode jdk_42_method_158_code 9 = .ok (.pop, 1) := by decide +kernel
theorem d18_10 : decode jdk_42_method_158_code 10 = .ok (.return_, 1) := by decide +kernel
def QCbe (h0 : Heap) (n0 : Nat) (v : Option Value) (h : Heap) (L : List Loc) : Prop := v = none ∧ Fr n0 L ∧ h = h0
theorem own_pn_rmCbe : plainName "java/lang/String" = true := by first | (simp [plainName, overriddenIn]; done) | decide +kernel
theorem own_ef_rmCbe (m : MethodId) (p0 : Int32) (p1 : Int32) (p2 : Int32) : entryFrame m #[(.int p0), (.int p1), (.int p2)] 3 = (mkF m 0 #[.val (.int p0), .val (.int p1), .val (.int p2)] []) := by first | (simp [entryFrame, mkF, argsToLocals, Value.category]; done) | rfl
set_option maxRecDepth 65536 in
set_option maxHeartbeats 40000000 in
theorem rmCbe (l : Launch) (Z : State) (a0 : Array Value) (hw : ∀ d ∈ tables_1, d.before a0 Z = true) (ws : List Jvm.Cond) (p0 : Int32) (p1 : Int32) (p2 : Int32) (G3 : Value) (h0 : Heap) (n0 : Nat) (Z0 : n0 ≤ h0.size) (O4 : Sta Z Z.heap "jdk/internal/util/Preconditions" "SIOOBE_FORMATTER" "Ljava/util/function/BiFunction;" G3) (rG3 : G3.isRef = true) (X00 : Old Z n0 h0) (q1 : ¬ p0 < 0) (q2 : ¬ p1 < p0) (q3 : ¬ p2 < p1) :
    MetFree l (⟨"java/lang/String", "checkBoundsBeginEnd", "(III)V"⟩ : MethodName) (head1 (Jvm.Cond.code (⟨"java/lang/String", "checkBoundsBeginEnd", "(III)V"⟩ : MethodName) jdk_42_method_158_code 3 none :: ws) ({ frames := 1, cells := 0, slots := 0, locals := 18 } : Room)) (fun a U => a = #[(.int p0), (.int p1), (.int p2)] ∧ Z.Warmed39 U.vm ∧ U.heap = h0) (fun _ _ _ _ _ => True) (fun _ U o U' => ∃ v L, o = .returned v ∧ QCbe h0 n0 v U'.heap L ∧ FrameEnd U o U' L ({ frames := 1, cells := 0, slots := 0, locals := 18 } : Room).cells ({ frames := 1, cells := 0, slots := 0, locals := 18 } : Room).slots) := by
  refine MetFree.of_bodySF (plainFor_of_name own_pn_rmCbe) hisR ?_
  intro p e s m args below meth c s₁ Bd hml0 hP hK
  obtain ⟨hargs, hZ, hh⟩ := hP
  have hx := Bd.exec
  have hby := Bd.bytes
  have hml : c.maxLocals = 3 := hml0
  have hown : s.vm.findClass "java/lang/String" = some m.cls := findClass_of_methodNamed Bd.named
  have hnm := (name_of_methodNamed Bd.named Bd.method).1
  have hlock : meth.locks = false := Bd.notSynchronized
  have hret0 := Bd.returns
  have X0 : Stand p l e ({ frames := 1, cells := 0, slots := 0, locals := 18 } : Room) s m args below meth c s₁ [] 0 0 := Stand.of_body Bd
  have e0 : s₁.heap = h0 := by rw [← hh, Bd.state]; rfl
  have N0 := Fr.nil n0
  have pre0 : ∀ t, Steps p.tables e below (s₁.setTop (mkF m 0 #[.val (.int p0), .val (.int p1), .val (.int p2)] [])) t → Steps p.tables e below (s₁.setTop (entryFrame m args 3)) t := fun t k => castTop (by rw [hargs]; exact own_ef_rmCbe m p0 p1 p2) k
  clear Bd
  obtain ⟨T36, X36, e36, st36⟩ := getS2 X0 hx hZ hown (host := "") (Or.inl (hw _ (List.mem_of_getElem? (i := 96) rfl))) Via.refl e0 (O4.ext X00.2) (g := (mkF m 3 #[.val (.int p0), .val (.int p1), .val (.int p2)] [(.int p2), (.int p1), (.int p0)])) rfl (hb hby d18_3)
  obtain ⟨v37, vmx37, ⟨T37, L37, k37, n37⟩, -, X37, ⟨Lc37, hQ37, l37, y37, z37⟩, st37⟩ := Jvm.LawKit.callS X36 hx (y := (⟨"jdk/internal/util/Preconditions", "checkFromToIndex", "(IIILjava/util/function/BiFunction;)I"⟩ : MethodName)) hown (mvT hZ (hw _ (List.mem_of_getElem? (i := 98) rfl))) (mvT hZ (hw _ (List.mem_of_getElem? (i := 99) rfl))) (mvT hZ (hw _ (List.mem_of_getElem? (i := 97) rfl))) (mvT hZ (hw _ (List.mem_of_getElem? (i := 100) rfl))) (by decide) (backOf (W := 0) (rmCft l Z a0 hw [] p0 p1 p2 G3 h0 n0 Z0 rG3 q1 q2 q3) hZ (hw _ (List.mem_of_getElem? (i := 100) rfl)) (hw _ (List.mem_of_getElem? (i := 97) rfl)) (by decide) (by decide)) (g := (mkF m 6 #[.val (.int p0), .val (.int p1), .val (.int p2)] [G3, (.int p2), (.int p1), (.int p0)])) rfl (by rw [hml]; rfl) (argsL := [(.int p0), (.int p1), (.int p2), G3]) (rest := []) (lenOf own_pd1 rfl) rfl (by show 2 * 0 + _ ≤ _; exact Nat.le_of_eq rfl) (hb hby d18_6) (fun _ _ => ⟨rfl, e36, (by decide : 0 + 0 ≤ _), (by decide : 0 + 0 ≤ _)⟩)
  dsimp only [Pt.U, Pt.locs, Pt.cells, Pt.slots] at X37 l37 y37 z37 st37 hQ37
  subst l37 y37 z37
  obtain ⟨rfl, Nq37, eh37⟩ := hQ37
  have N37 := Fr.app N0 Nq37
  obtain ⟨fs, hr, hrun, hended, hW, hsame⟩ := X37.leave (v := none) (fun _ => rfl)
  refine ⟨_, _, pre0 _ ?_, hrun, hended, _, _, rfl, ?_, ⟨_, rfl⟩, hW, hsame.mono (by decide) (by decide)⟩
  · show Steps p.tables e below (s₁.setTop (mkF m 0 #[.val (.int p0), .val (.int p1), .val (.int p2)] [])) _
    refine XS.iloadN X0.here hx rfl (hb hby d18_0) rfl ?_
    show Steps p.tables e below (s₁.setTop (mkF m 1 #[.val (.int p0), .val (.int p1), .val (.int p2)] [(.int p0)])) _
    refine XS.iloadN X0.here hx rfl (hb hby d18_1) rfl ?_
    show Steps p.tables e below (s₁.setTop (mkF m 2 #[.val (.int p0), .val (.int p1), .val (.int p2)] [(.int p1), (.int p0)])) _
    refine XS.iloadN X0.here hx rfl (hb hby d18_2) rfl ?_
    show Steps p.tables e below (s₁.setTop (mkF m 3 #[.val (.int p0), .val (.int p1), .val (.int p2)] [(.int p2), (.int p1), (.int p0)])) _
    refine st36 _ ?_
    show Steps p.tables e below (T36.setTop (mkF m 6 #[.val (.int p0), .val (.int p1), .val (.int p2)] [G3, (.int p2), (.int p1), (.int p0)])) _
    refine st37 _ ?_
    show Steps p.tables e below (T37.setTop (mkF m 9 #[.val (.int p0), .val (.int p1), .val (.int p2)] [(.int p0)])) _
    refine XS.pop X37.here hx rfl (hb hby d18_9) rfl rfl ?_
    show Steps p.tables e below (T37.setTop (mkF m 10 #[.val (.int p0), .val (.int p1), .val (.int p2)] [])) _
    exact X37.returnOut hx hret0 (hb hby d18_10) hr
  · show QCbe h0 n0 _ T37.heap _
    rw [eh37]
    exact ⟨rfl, N37, rfl⟩
theorem d20_0 : decode jdk_42_method_154_code 0 = .ok (.getstatic 38, 3) := by decide +kernel
theorem d20_3 : decode jdk_42_method_154_code 3 = .ok (.ifCond .eq 14, 3) := by decide +kernel
theorem d20_6 : decode jdk_42_method_154_code 6 = .ok (.aload_n 0, 1) := by decide +kernel
theorem d20_7 : decode jdk_42_method_154_code 7 = .ok (.getfield 15, 3) := by decide +kernel
theorem d20_10 : decode jdk_42_method_154_code 10 = .ok (.ifCond .ne 7, 3) := by decide +kernel
theorem d20_13 : decode jdk_42_method_154_code 13 = .ok (.iconst 1, 1) := by decide +kernel
theorem d20_14 : decode jdk_42_method_154_code 14 = .ok (.goto 4, 3) := by decide +kernel
theorem d20_18 : decode jdk_42_method_154_code 18 = .ok (.ireturn, 1) := by decide +kernel
def QIsL (h0 : Heap) (n0 : Nat) (v : Option Value) (h : Heap) (L : List Loc) : Prop := v = some (.int 1) ∧ Fr n0 L ∧ h = h0
theorem own_pn_rmIsL : plainName "java/lang/String" = true := by first | (simp [plainName, overriddenIn]; done) | decide +kernel
theorem own_ef_rmIsL (m : MethodId) (a1 : Addr) : entryFrame m #[(.ref a1)] 1 = (mkF m 0 #[.val (.ref a1)] []) := by first | (simp [entryFrame, mkF, argsToLocals, Value.category]; done) | rfl
set_option maxRecDepth 65536 in
set_option maxHeartbeats 40000000 in
theorem rmIsL (l : Launch) (Z : State) (a0 : Array Value) (hw : ∀ d ∈ tables_1, d.before a0 Z = true) (ws : List Jvm.Cond) (a1 : Addr) (G1 : Int32) (h0 : Heap) (n0 : Nat) (Z0 : n0 ≤ h0.size) (O2 : Sta Z Z.heap "java/lang/String" "COMPACT_STRINGS" "Z" (.int G1)) (P5 : ¬ (G1 = (0 : Int32))) (X00 : Old Z n0 h0) (F : Fld Z h0 a1 "java/lang/String" "coder" "B" (.int (0 : Int32))) :
    MetFree l (⟨"java/lang/String", "isLatin1", "()Z"⟩ : MethodName) (head1 (Jvm.Cond.code (⟨"java/lang/String", "isLatin1", "()Z"⟩ : MethodName) jdk_42_method_154_code 1 (some .boolean) :: ws) ({ frames := 0, cells := 0, slots := 0, locals := 0 } : Room)) (fun a U => a = #[(.ref a1)] ∧ Z.Warmed39 U.vm ∧ U.heap = h0) (fun _ _ _ _ _ => True) (fun _ U o U' => ∃ v L, o = .returned v ∧ QIsL h0 n0 v U'.heap L ∧ FrameEnd U o U' L ({ frames := 0, cells := 0, slots := 0, locals := 0 } : Room).cells ({ frames := 0, cells := 0, slots := 0, locals := 0 } : Room).slots) := by
  refine MetFree.of_bodySF (plainFor_of_name own_pn_rmIsL) hisR ?_
  intro p e s m args below meth c s₁ Bd hml0 hP hK
  obtain ⟨hargs, hZ, hh⟩ := hP
  have hx := Bd.exec
  have hby := Bd.bytes
  have hml : c.maxLocals = 1 := hml0
  have hown : s.vm.findClass "java/lang/String" = some m.cls := findClass_of_methodNamed Bd.named
  have hnm := (name_of_methodNamed Bd.named Bd.method).1
  have hlock : meth.locks = false := Bd.notSynchronized
  have hret0 := Bd.returns
  have X0 : Stand p l e ({ frames := 0, cells := 0, slots := 0, locals := 0 } : Room) s m args below meth c s₁ [] 0 0 := Stand.of_body Bd
  have e0 : s₁.heap = h0 := by rw [← hh, Bd.state]; rfl
  have N0 := Fr.nil n0
  have pre0 : ∀ t, Steps p.tables e below (s₁.setTop (mkF m 0 #[.val (.ref a1)] [])) t → Steps p.tables e below (s₁.setTop (entryFrame m args 1)) t := fun t k => castTop (by rw [hargs]; exact own_ef_rmIsL m a1) k
  clear Bd
  obtain ⟨T38, X38, e38, st38⟩ := getS2 X0 hx hZ hown (host := "") (Or.inl (hw _ (List.mem_of_getElem? (i := 14) rfl))) Via.refl e0 (O2.ext X00.2) (g := (mkF m 0 #[.val (.ref a1)] [])) rfl (hb hby d20_0)
  obtain ⟨T39, X39, e39, st39⟩ := getF X38 hx hZ hown (host := "") (Or.inl (hw _ (List.mem_of_getElem? (i := 26) rfl))) Via.refl e38 F (g := (mkF m 7 #[.val (.ref a1)] [(.ref a1)])) rfl rfl (hb hby d20_7)
  obtain ⟨fs, hr, hrun, hended, hW, hsame⟩ := X39.leave (v := some (.int (1 : Int32))) (fun h => by rw [hret0] at h; cases h)
  refine ⟨_, _, pre0 _ ?_, hrun, hended, _, _, rfl, ?_, ⟨_, rfl⟩, hW, hsame.mono (by decide) (by decide)⟩
  · show Steps p.tables e below (s₁.setTop (mkF m 0 #[.val (.ref a1)] [])) _
    refine st38 _ ?_
    show Steps p.tables e below (T38.setTop (mkF m 3 #[.val (.ref a1)] [(.int G1)])) _
    refine XS.ifNo X38.here hx rfl (hb hby d20_3) rfl ((if0 _ _).trans (feq P5).1) ?_
    show Steps p.tables e below (T38.setTop (mkF m 6 #[.val (.ref a1)] [])) _
    refine XS.aloadN X38.here hx rfl (hb hby d20_6) rfl rfl ?_
    show Steps p.tables e below (T38.setTop (mkF m 7 #[.val (.ref a1)] [(.ref a1)])) _
    refine st39 _ ?_
    show Steps p.tables e below (T39.setTop (mkF m 10 #[.val (.ref a1)] [(.int (0 : Int32))])) _
    refine XS.ifNo X39.here hx rfl (hb hby d20_10) rfl ((if0 _ _).trans (teq rfl).2) ?_
    show Steps p.tables e below (T39.setTop (mkF m 13 #[.val (.ref a1)] [])) _
    refine XS.iconst X39.here hx rfl (hb hby d20_13) ?_
    show Steps p.tables e below (T39.setTop (mkF m 14 #[.val (.ref a1)] [(.int (1 : Int32))])) _
    refine XS.goto X39.here hx rfl (pc0 := 14) (pc' := 18) rfl (hb hby d20_14) (by decide) (by decide) ?_
    show Steps p.tables e below (T39.setTop (mkF m 18 #[.val (.ref a1)] [(.int (1 : Int32))])) _
    exact retN X39 hx (t := .boolean) hret0 (by simp) (hb hby d20_18) hr
  · show QIsL h0 n0 _ T39.heap _
    rw [e39]
    exact ⟨rfl, N0, rfl⟩
theorem d10_0 : decode jdk_42_method_151_code 0 = .ok (.aload_n 0, 1) := by decide +kernel
theorem d10_1 : decode jdk_42_method_151_code 1 = .ok (.invokespecial 1, 3) := by decide +kernel
theorem d10_4 : decode jdk_42_method_151_code 4 = .ok (.aload_n 0, 1) := by decide +kernel
theorem d10_5 : decode jdk_42_method_151_code 5 = .ok (.aload_n 1, 1) := by decide +kernel
theorem d10_6 : decode jdk_42_method_151_code 6 = .ok (.putfield 9, 3) := by decide +kernel
theorem d10_9 : decode jdk_42_method_151_code 9 = .ok (.aload_n 0, 1) := by decide +kernel
theorem d10_10 : decode jdk_42_method_151_code 10 = .ok (.iload_n 2, 1) := by decide +kernel
theorem d10_11 : decode jdk_42_method_151_code 11 = .ok (.putfield 15, 3) := by decide +kernel
theorem d10_14 : decode jdk_42_method_151_code 14 = .ok (.return_, 1) := by decide +kernel
def QBB (Z : State) (x b : Addr) (h0 : Heap) (n0 : Nat) (v : Option Value) (h : Heap) (L : List Loc) : Prop := v = none ∧ Fr n0 L ∧ Keep h0 h [x] ∧ Exa Z h x "java/lang/String" ∧ Fld Z h x "java/lang/String" "coder" "B" (.int 0) ∧ Fld Z h x "java/lang/String" "value" "[B" (.ref b)
theorem own_pn_rmBB : plainName "java/lang/String" = true := by first | (simp [plainName, overriddenIn]; done) | decide +kernel
theorem own_ef_rmBB (m : MethodId) (x : Addr) (b : Addr) : entryFrame m #[(.ref x), (.ref b), (.int (0 : Int32))] 3 = (mkF m 0 #[.val (.ref x), .val (.ref b), .val (.int (0 : Int32))] []) := by first | (simp [entryFrame, mkF, argsToLocals, Value.category]; done) | rfl
set_option maxRecDepth 65536 in
set_option maxHeartbeats 40000000 in
theorem rmBB (l : Launch) (Z : State) (a0 : Array Value) (hw : ∀ d ∈ tables_1, d.before a0 Z = true) (ws : List Jvm.Cond) (x : Addr) (b : Addr) (u1 : Value) (u2 : Value) (h0 : Heap) (n0 : Nat) (Z0 : n0 ≤ h0.size) (E1 : Exa Z h0 x "java/lang/String") (F1 : Fld Z h0 x "java/lang/String" "value" "[B" u1) (F2 : Fld Z h0 x "java/lang/String" "coder" "B" u2) (ge1 : n0 ≤ x) :
    MetFree l (⟨"java/lang/String", "<init>", "([BB)V"⟩ : MethodName) (head1 (Jvm.Cond.code (⟨"java/lang/String", "<init>", "([BB)V"⟩ : MethodName) jdk_42_method_151_code 3 none :: ws) ({ frames := 1, cells := 0, slots := 0, locals := 12 } : Room)) (fun a U => a = #[(.ref x), (.ref b), (.int (0 : Int32))] ∧ Z.Warmed39 U.vm ∧ U.heap = h0) (fun _ _ _ _ _ => True) (fun _ U o U' => ∃ v L, o = .returned v ∧ QBB Z x b h0 n0 v U'.heap L ∧ FrameEnd U o U' L ({ frames := 1, cells := 0, slots := 0, locals := 12 } : Room).cells ({ frames := 1, cells := 0, slots := 0, locals := 12 } : Room).slots) := by
  refine MetFree.of_bodySF (plainFor_of_name own_pn_rmBB) hisR ?_
  intro p e s m args below meth c s₁ Bd hml0 hP hK
  obtain ⟨hargs, hZ, hh⟩ := hP
  have hx := Bd.exec
  have hby := Bd.bytes
  have hml : c.maxLocals = 3 := hml0
  have hown : s.vm.findClass "java/lang/String" = some m.cls := findClass_of_methodNamed Bd.named
  have hnm := (name_of_methodNamed Bd.named Bd.method).1
  have hlock : meth.locks = false := Bd.notSynchronized
  have hret0 := Bd.returns
  have X0 : Stand p l e ({ frames := 1, cells := 0, slots := 0, locals := 12 } : Room) s m args below meth c s₁ [] 0 0 := Stand.of_body Bd
  have e0 : s₁.heap = h0 := by rw [← hh, Bd.state]; rfl
  have N0 := Fr.nil n0
  have pre0 : ∀ t, Steps p.tables e below (s₁.setTop (mkF m 0 #[.val (.ref x), .val (.ref b), .val (.int (0 : Int32))] [])) t → Steps p.tables e below (s₁.setTop (entryFrame m args 3)) t := fun t k => castTop (by rw [hargs]; exact own_ef_rmBB m x b) k
  clear Bd
  obtain ⟨T40, X40, e40, st40⟩ := initO X0 hx hZ hown (hw _ (List.mem_of_getElem? (i := 11) rfl)) (hw _ (List.mem_of_getElem? (i := 12) rfl)) (hw _ (List.mem_of_getElem? (i := 13) rfl)) e0 (g := (mkF m 1 #[.val (.ref x), .val (.ref b), .val (.int (0 : Int32))] [(.ref x)])) rfl (by rw [hml]; rfl) rfl (hb hby d10_1) (by decide) (W := 0) (by show 2 * 0 + _ ≤ _; exact Nat.le_of_eq rfl) (by decide)
  obtain ⟨T41, h41, X41, e41, W41, st41⟩ := putF X40 hx hZ hown (host := "") (Or.inl (hw _ (List.mem_of_getElem? (i := 28) rfl))) Via.refl e40 F1 E1 (Or.inr ⟨(hw _ (List.mem_of_getElem? (i := 29) rfl)), rfl, hnm⟩) (hw _ (List.mem_of_getElem? (i := 2) rfl)) (ty := (.array .byte)) (by decide) rfl rfl (g := (mkF m 6 #[.val (.ref x), .val (.ref b), .val (.int (0 : Int32))] [(.ref b), (.ref x)])) rfl rfl (hb hby d10_6)
  have Z42 : n0 ≤ h41.size := Nat.le_trans Z0 (Keep.of_wr W41).1
  have K43 : Keep h0 h41 [x] := (Keep.refl h0 [x]).wr W41 (Or.inl (List.mem_of_getElem? (i := 0) rfl))
  have N41 := Fr.snoc X41 N0 ge1
  have f44 := F1.same W41
  have f45 := (F2.other W41 (Or.inr (slot_ne (Or.inr (hw _ (List.mem_of_getElem? (i := 27) rfl))) (Or.inr (hw _ (List.mem_of_getElem? (i := 29) rfl))) (by decide) (t := .byte) (t' := (.array .byte)) (by decide) (by decide))))
  have f46 := (E1.wr W41)
  have hn47 : narrow .byte (.int (0 : Int32)) = .int (nar .byte (0 : Int32)) := rfl
  obtain ⟨T47, h47, X47, e47, W47, st47⟩ := putFN X41 hx hZ hown (hw _ (List.mem_of_getElem? (i := 26) rfl)) Via.refl e41 f45 f46 (Or.inr ⟨(hw _ (List.mem_of_getElem? (i := 27) rfl)), rfl, hnm⟩) (hw _ (List.mem_of_getElem? (i := 2) rfl)) (ty := .byte) (v' := (.int (nar .byte (0 : Int32)))) (by decide) rfl (fits_nar_byte _) (g := (mkF m 11 #[.val (.ref x), .val (.ref b), .val (.int (0 : Int32))] [(.int (0 : Int32)), (.ref x)])) rfl rfl (hb hby d10_11)
  have Z48 : n0 ≤ h47.size := Nat.le_trans Z42 (Keep.of_wr W47).1
  have K49 : Keep h0 h47 [x] := K43.wr W47 (Or.inl (List.mem_of_getElem? (i := 0) rfl))
  have N47 := Fr.snoc X47 N41 ge1
  have f50 := f45.same W47
  have f51 := (f46.wr W47)
  have f52 := (f44.other W47 (Or.inr (slot_ne (Or.inr (hw _ (List.mem_of_getElem? (i := 29) rfl))) (Or.inr (hw _ (List.mem_of_getElem? (i := 27) rfl))) (by decide) (t := (.array .byte)) (t' := .byte) (by decide) (by decide))))
  obtain ⟨fs, hr, hrun, hended, hW, hsame⟩ := X47.leave (v := none) (fun _ => rfl)
  refine ⟨_, _, pre0 _ ?_, hrun, hended, _, _, rfl, ?_, ⟨_, rfl⟩, hW, hsame.mono (by decide) (by decide)⟩
  · show Steps p.tables e below (s₁.setTop (mkF m 0 #[.val (.ref x), .val (.ref b), .val (.int (0 : Int32))] [])) _
    refine XS.aloadN X0.here hx rfl (hb hby d10_0) rfl rfl ?_
    show Steps p.tables e below (s₁.setTop (mkF m 1 #[.val (.ref x), .val (.ref b), .val (.int (0 : Int32))] [(.ref x)])) _
    refine st40 _ ?_
    show Steps p.tables e below (T40.setTop (mkF m 4 #[.val (.ref x), .val (.ref b), .val (.int (0 : Int32))] [])) _
    refine XS.aloadN X40.here hx rfl (hb hby d10_4) rfl rfl ?_
    show Steps p.tables e below (T40.setTop (mkF m 5 #[.val (.ref x), .val (.ref b), .val (.int (0 : Int32))] [(.ref x)])) _
    refine XS.aloadN X40.here hx rfl (hb hby d10_5) rfl rfl ?_
    show Steps p.tables e below (T40.setTop (mkF m 6 #[.val (.ref x), .val (.ref b), .val (.int (0 : Int32))] [(.ref b), (.ref x)])) _
    refine st41 _ ?_
    show Steps p.tables e below (T41.setTop (mkF m 9 #[.val (.ref x), .val (.ref b), .val (.int (0 : Int32))] [])) _
    refine XS.aloadN X41.here hx rfl (hb hby d10_9) rfl rfl ?_
    show Steps p.tables e below (T41.setTop (mkF m 10 #[.val (.ref x), .val (.ref b), .val (.int (0 : Int32))] [(.ref x)])) _
    refine XS.iloadN X41.here hx rfl (hb hby d10_10) rfl ?_
    show Steps p.tables e below (T41.setTop (mkF m 11 #[.val (.ref x), .val (.ref b), .val (.int (0 : Int32))] [(.int (0 : Int32)), (.ref x)])) _
    refine st47 _ ?_
    show Steps p.tables e below (T47.setTop (mkF m 14 #[.val (.ref x), .val (.ref b), .val (.int (0 : Int32))] [])) _
    exact X47.returnOut hx hret0 (hb hby d10_14) hr
  · show QBB Z x b h0 n0 _ T47.heap _
    rw [e47]
    exact ⟨rfl, N47, K49, f51, (own_nbyte0 ▸ f50), f52⟩
theorem d26_0 : decode jdk_65_method_131_code 0 = .ok (.iload_n 1, 1) := by decide +kernel
theorem d26_1 : decode jdk_65_method_131_code 1 = .ok (.iload_n 0, 1) := by decide +kernel
theorem d26_2 : decode jdk_65_method_131_code 2 = .ok (.if_icmp .ge 35, 3) := by decide +kernel
theorem d26_37 : decode jdk_65_method_131_code 37 = .ok (.return_, 1) := by decide +kernel
def QChl (h0 : Heap) (n0 : Nat) (v : Option Value) (h : Heap) (L : List Loc) : Prop := v = none ∧ Fr n0 L ∧ h = h0
theorem own_pn_rmChl : plainName "java/util/Arrays" = true := by first | (simp [plainName, overriddenIn]; done) | decide +kernel
theorem own_ef_rmChl (m : MethodId) (p0 : Int32) (p1 : Int32) : entryFrame m #[(.int p0), (.int p1)] 2 = (mkF m 0 #[.val (.int p0), .val (.int p1)] []) := by first | (simp [entryFrame, mkF, argsToLocals, Value.category]; done) | rfl
set_option maxRecDepth 65536 in
set_option maxHeartbeats 40000000 in
theorem rmChl (l : Launch) (Z : State) (a0 : Array Value) (hw : ∀ d ∈ tables_1, d.before a0 Z = true) (ws : List Jvm.Cond) (p0 : Int32) (p1 : Int32) (h0 : Heap) (n0 : Nat) (Z0 : n0 ≤ h0.size) (q1 : ¬ p1 < p0) :
    MetFree l (⟨"java/util/Arrays", "checkLength", "(II)V"⟩ : MethodName) (head1 (Jvm.Cond.code (⟨"java/util/Arrays", "checkLength", "(II)V"⟩ : MethodName) jdk_65_method_131_code 2 none :: ws) ({ frames := 0, cells := 0, slots := 0, locals := 0 } : Room)) (fun a U => a = #[(.int p0), (.int p1)] ∧ Z.Warmed39 U.vm ∧ U.heap = h0) (fun _ _ _ _ _ => True) (fun _ U o U' => ∃ v L, o = .returned v ∧ QChl h0 n0 v U'.heap L ∧ FrameEnd U o U' L ({ frames := 0, cells := 0, slots := 0, locals := 0 } : Room).cells ({ frames := 0, cells := 0, slots := 0, locals := 0 } : Room).slots) := by
  refine MetFree.of_bodySF (plainFor_of_name own_pn_rmChl) hisR ?_
  intro p e s m args below meth c s₁ Bd hml0 hP hK
  obtain ⟨hargs, hZ, hh⟩ := hP
  have hx := Bd.exec
  have hby := Bd.bytes
  have hml : c.maxLocals = 2 := hml0
  have hown : s.vm.findClass "java/util/Arrays" = some m.cls := findClass_of_methodNamed Bd.named
  have hnm := (name_of_methodNamed Bd.named Bd.method).1
  have hlock : meth.locks = false := Bd.notSynchronized
  have hret0 := Bd.returns
  have X0 : Stand p l e ({ frames := 0, cells := 0, slots := 0, locals := 0 } : Room) s m args below meth c s₁ [] 0 0 := Stand.of_body Bd
  have e0 : s₁.heap = h0 := by rw [← hh, Bd.state]; rfl
  have N0 := Fr.nil n0
  have pre0 : ∀ t, Steps p.tables e below (s₁.setTop (mkF m 0 #[.val (.int p0), .val (.int p1)] [])) t → Steps p.tables e below (s₁.setTop (entryFrame m args 2)) t := fun t k => castTop (by rw [hargs]; exact own_ef_rmChl m p0 p1) k
  clear Bd
  obtain ⟨fs, hr, hrun, hended, hW, hsame⟩ := X0.leave (v := none) (fun _ => rfl)
  refine ⟨_, _, pre0 _ ?_, hrun, hended, _, _, rfl, ?_, ⟨_, rfl⟩, hW, hsame.mono (by decide) (by decide)⟩
  · show Steps p.tables e below (s₁.setTop (mkF m 0 #[.val (.int p0), .val (.int p1)] [])) _
    refine XS.iloadN X0.here hx rfl (hb hby d26_0) rfl ?_
    show Steps p.tables e below (s₁.setTop (mkF m 1 #[.val (.int p0), .val (.int p1)] [(.int p1)])) _
    refine XS.iloadN X0.here hx rfl (hb hby d26_1) rfl ?_
    show Steps p.tables e below (s₁.setTop (mkF m 2 #[.val (.int p0), .val (.int p1)] [(.int p0), (.int p1)])) _
    refine XS.icmpYes X0.here hx rfl (pc0 := 2) (pc' := 37) rfl (hb hby d26_2) rfl (flt q1).2.1 (by decide) (by decide) ?_
    show Steps p.tables e below (s₁.setTop (mkF m 37 #[.val (.int p0), .val (.int p1)] [])) _
    exact X0.returnOut hx hret0 (hb hby d26_37) hr
  · show QChl h0 n0 _ s₁.heap _
    rw [e0]
    exact ⟨rfl, N0, rfl⟩
theorem d25_0 : decode jdk_65_method_133_code 0 = .ok (.iload_n 1, 1) := by decide +kernel
theorem d25_1 : decode jdk_65_method_133_code 1 = .ok (.iload_n 2, 1) := by decide +kernel
theorem d25_2 : decode jdk_65_method_133_code 2 = .ok (.invokestatic 343, 3) := by decide +kernel
theorem d25_5 : decode jdk_65_method_133_code 5 = .ok (.iload_n 2, 1) := by decide +kernel
theorem d25_6 : decode jdk_65_method_133_code 6 = .ok (.iload_n 1, 1) := by decide +kernel
theorem d25_7 : decode jdk_65_method_133_code 7 = .ok (.isub, 1) := by decide +kernel
theorem d25_8 : decode jdk_65_method_133_code 8 = .ok (.istore_n 3, 1) := by decide +kernel
theorem d25_9 : decode jdk_65_method_133_code 9 = .ok (.iload_n 3, 1) := by decide +kernel
theorem d25_10 : decode jdk_65_method_133_code 10 = .ok (.newarray .byte, 2) := by decide +kernel
theorem d25_12 : decode jdk_65_method_133_code 12 = .ok (.astore 4, 2) := by decide +kernel
theorem d25_14 : decode jdk_65_method_133_code 14 = .ok (.aload_n 0, 1) := by decide +kernel
theorem d25_15 : decode jdk_65_method_133_code 15 = .ok (.iload_n 1, 1) := by decide +kernel
theorem d25_16 : decode jdk_65_method_133_code 16 = .ok (.aload 4, 2) := by decide +kernel
theorem d25_18 : decode jdk_65_method_133_code 18 = .ok (.iconst 0, 1) := by decide +kernel
theorem d25_19 : decode jdk_65_method_133_code 19 = .ok (.aload_n 0, 1) := by decide +kernel
theorem d25_20 : decode jdk_65_method_133_code 20 = .ok (.arraylength, 1) := by decide +kernel
theorem d25_21 : decode jdk_65_method_133_code 21 = .ok (.iload_n 1, 1) := by decide +kernel
theorem d25_22 : decode jdk_65_method_133_code 22 = .ok (.isub, 1) := by decide +kernel
theorem d25_23 : decode jdk_65_method_133_code 23 = .ok (.iload_n 3, 1) := by decide +kernel
theorem d25_24 : decode jdk_65_method_133_code 24 = .ok (.invokestatic 304, 3) := by decide +kernel
theorem d25_27 : decode jdk_65_method_133_code 27 = .ok (.invokestatic 150, 3) := by decide +kernel
theorem d25_30 : decode jdk_65_method_133_code 30 = .ok (.aload 4, 2) := by decide +kernel
theorem d25_32 : decode jdk_65_method_133_code 32 = .ok (.areturn, 1) := by decide +kernel
def QCor (Z : State) (cs : List Int32) (i : Nat) (h0 : Heap) (n0 : Nat) (v : Option Value) (h : Heap) (L : List Loc) : Prop := ∃ (b : Addr) (kb : ClassId), v = some (.ref b) ∧ Fr n0 L ∧ Ext h0 h ∧ h0.size ≤ b ∧ Arv Z h b kb .byte (Int32.ofNat (cs.length - i)) (own_by (cs.drop i)) (.int 0)
theorem own_pn_rmCorb : plainName "java/util/Arrays" = true := by first | (simp [plainName, overriddenIn]; done) | decide +kernel
theorem own_ef_rmCorb (m : MethodId) (b1 : Addr) (p1 : Int32) (p2 : Int32) : entryFrame m #[(.ref b1), (.int p1), (.int p2)] 5 = (mkF m 0 #[.val (.ref b1), .val (.int p1), .val (.int p2), .unset, .unset] []) := by first | (simp [entryFrame, mkF, argsToLocals, Value.category]; done) | rfl
set_option maxRecDepth 65536 in
set_option maxHeartbeats 40000000 in
theorem rmCorb (l : Launch) (Z : State) (a0 : Array Value) (hw : ∀ d ∈ tables_1, d.before a0 Z = true) (ws : List Jvm.Cond) (b1 : Addr) (kb1 : ClassId) (cs : List Int32) (i : Nat) (p1 : Int32) (p2 : Int32) (h0 : Heap) (n0 : Nat) (Z0 : n0 ≤ h0.size) (VB : Arv Z h0 b1 kb1 .byte (Int32.ofNat cs.length) (own_by cs) (.int 0)) (l2 : cs.length ≤ 4000) (hi : i ≤ cs.length) (hcap : cs.length - i ≤ 16) (e1 : p1 = Int32.ofNat i) (e2 : p2 = Int32.ofNat cs.length) :
    MetFree l (⟨"java/util/Arrays", "copyOfRangeByte", "([BII)[B"⟩ : MethodName) (head1 (Jvm.Cond.code (⟨"java/util/Arrays", "copyOfRangeByte", "([BII)[B"⟩ : MethodName) jdk_65_method_133_code 5 (some (.array .byte)) :: ws) ({ frames := 1, cells := 1, slots := 16, locals := 40 } : Room)) (fun a U => a = #[(.ref b1), (.int p1), (.int p2)] ∧ Z.Warmed39 U.vm ∧ U.heap = h0) (fun _ _ _ _ _ => True) (fun _ U o U' => ∃ v L, o = .returned v ∧ QCor Z cs i h0 n0 v U'.heap L ∧ FrameEnd U o U' L ({ frames := 1, cells := 1, slots := 16, locals := 40 } : Room).cells ({ frames := 1, cells := 1, slots := 16, locals := 40 } : Room).slots) := by
  refine MetFree.of_bodySF (plainFor_of_name own_pn_rmCorb) hisR ?_
  intro p e s m args below meth c s₁ Bd hml0 hP hK
  obtain ⟨hargs, hZ, hh⟩ := hP
  have hx := Bd.exec
  have hby := Bd.bytes
  have hml : c.maxLocals = 5 := hml0
  have hown : s.vm.findClass "java/util/Arrays" = some m.cls := findClass_of_methodNamed Bd.named
  have hnm := (name_of_methodNamed Bd.named Bd.method).1
  have hlock : meth.locks = false := Bd.notSynchronized
  have hret0 := Bd.returns
  have X0 : Stand p l e ({ frames := 1, cells := 1, slots := 16, locals := 40 } : Room) s m args below meth c s₁ [] 0 0 := Stand.of_body Bd
  have e0 : s₁.heap = h0 := by rw [← hh, Bd.state]; rfl
  have N0 := Fr.nil n0
  have pre0 : ∀ t, Steps p.tables e below (s₁.setTop (mkF m 0 #[.val (.ref b1), .val (.int p1), .val (.int p2), .unset, .unset] [])) t → Steps p.tables e below (s₁.setTop (entryFrame m args 5)) t := fun t k => castTop (by rw [hargs]; exact own_ef_rmCorb m b1 p1 p2) k
  clear Bd
  have es : p2 - p1 = (Int32.ofNat (cs.length - i)) := by rw [e1, e2]; exact own_subN hi (by omega)
  obtain ⟨v53, vmx53, ⟨T53, L53, k53, n53⟩, -, X53, ⟨Lc53, hQ53, l53, y53, z53⟩, st53⟩ := Jvm.LawKit.callS X0 hx (y := (⟨"java/util/Arrays", "checkLength", "(II)V"⟩ : MethodName)) hown (mvT hZ (hw _ (List.mem_of_getElem? (i := 127) rfl))) (mvT hZ (hw _ (List.mem_of_getElem? (i := 128) rfl))) (mvT hZ (hw _ (List.mem_of_getElem? (i := 122) rfl))) (mvT hZ (hw _ (List.mem_of_getElem? (i := 129) rfl))) (by decide) (backOf (W := 0) (rmChl l Z a0 hw [] p1 p2 h0 n0 Z0 (by rw [e1, e2, own_lt (by omega) (by omega)]; omega)) hZ (hw _ (List.mem_of_getElem? (i := 129) rfl)) (hw _ (List.mem_of_getElem? (i := 122) rfl)) (by decide) (by decide)) (g := (mkF m 2 #[.val (.ref b1), .val (.int p1), .val (.int p2), .unset, .unset] [(.int p2), (.int p1)])) rfl (by rw [hml]; rfl) (argsL := [(.int p1), (.int p2)]) (rest := []) (lenOf own_pd2 rfl) rfl (by show 2 * 0 + _ ≤ _; exact Nat.le_of_eq rfl) (hb hby d25_2) (fun _ _ => ⟨rfl, e0, (by decide : 0 + 0 ≤ _), (by decide : 0 + 0 ≤ _)⟩)
  dsimp only [Pt.U, Pt.locs, Pt.cells, Pt.slots] at X53 l53 y53 z53 st53 hQ53
  subst l53 y53 z53
  obtain ⟨rfl, Nq53, eh53⟩ := hQ53
  have N53 := Fr.app N0 Nq53
  have st54 : ∀ target, Steps p.tables e below (T53.setTop (mkF m 9 #[.val (.ref b1), .val (.int p1), .val (.int p2), .val (.int (Int32.ofNat (cs.length - i))), .unset] [])) target → Steps p.tables e below (T53.setTop (mkF m 9 #[.val (.ref b1), .val (.int p1), .val (.int p2), .val (.int (p2 - p1)), .unset] [])) target := by
    rw [es]
    intro target hk
    exact hk
  obtain ⟨T55, h55, k55, X55, e55, E55, A55, st55⟩ := newP X53 hx hZ (hw _ (List.mem_of_getElem? (i := 19) rfl)) eh53 (g := (mkF m 10 #[.val (.ref b1), .val (.int p1), .val (.int p2), .val (.int (Int32.ofNat (cs.length - i))), .unset] [(.int (Int32.ofNat (cs.length - i)))])) rfl (hb hby d25_10) rfl (own_nn (by omega)) (cap := 16) (by rw [own_clamp (by omega)]; exact hcap) (by decide) (by decide) (by decide)
  obtain ⟨b55, g55⟩ : ∃ z, z = h0.size := ⟨_, rfl⟩
  rw [← g55] at A55 st55
  have ge_b55 : n0 ≤ b55 := Nat.le_trans Z0 (Nat.le_of_eq g55.symm)
  have sz_b55 : h0.size ≤ b55 := Nat.le_trans (Keep.refl h0 []).1 (Nat.le_of_eq g55.symm)
  have Z56 : n0 ≤ h55.size := Nat.le_trans Z0 E55.1
  have K57 : Keep h0 h55 [] := (Keep.refl h0 []).ext E55
  have V55 : Arv Z h55 b55 k55 .byte (Int32.ofNat (cs.length - i)) [] (.int (0 : Int32)) := Arv.new A55 (own_nn (by omega))
  have VN := (V55).pad (pad_rep [] (.int (0 : Int32)) (cs.length - i))
  have f58 := (VB.ext E55)
  obtain ⟨cl59, Ar59, -, S59, M59, -, -⟩ := id f58
  obtain ⟨v60, vmx60, ⟨T60, L60, k60, n60⟩, -, X60, ⟨Lc60, hQ60, l60, y60, z60⟩, st60⟩ := Jvm.LawKit.callS X55 hx (y := (⟨"java/lang/Math", "min", "(II)I"⟩ : MethodName)) hown (mvT hZ (hw _ (List.mem_of_getElem? (i := 130) rfl))) (mvT hZ (hw _ (List.mem_of_getElem? (i := 131) rfl))) (mvT hZ (hw _ (List.mem_of_getElem? (i := 132) rfl))) (mvT hZ (hw _ (List.mem_of_getElem? (i := 133) rfl))) (by decide) (backOf (W := 4) (rmMin l Z a0 hw [] ((Int32.ofNat cs.length) - p1) (Int32.ofNat (cs.length - i)) h55 n0 Z56 ) hZ (hw _ (List.mem_of_getElem? (i := 133) rfl)) (hw _ (List.mem_of_getElem? (i := 132) rfl)) (by decide) (by decide)) (g := (mkF m 24 #[.val (.ref b1), .val (.int p1), .val (.int p2), .val (.int (Int32.ofNat (cs.length - i))), .val (.ref b55)] [(.int (Int32.ofNat (cs.length - i))), (.int ((Int32.ofNat cs.length) - p1)), (.int (0 : Int32)), (.ref b55), (.int p1), (.ref b1)])) rfl (by rw [hml]; rfl) (argsL := [(.int ((Int32.ofNat cs.length) - p1)), (.int (Int32.ofNat (cs.length - i)))]) (rest := [(.int (0 : Int32)), (.ref b55), (.int p1), (.ref b1)]) (lenOf own_pd3 rfl) rfl (by show 2 * 0 + _ ≤ _; exact Nat.le_of_eq rfl) (hb hby d25_24) (fun _ _ => ⟨rfl, e55, (by decide : 1 + 0 ≤ _), (by decide : 16 + 0 ≤ _)⟩)
  dsimp only [Pt.U, Pt.locs, Pt.cells, Pt.slots] at X60 l60 y60 z60 st60 hQ60
  subst l60 y60 z60
  obtain ⟨rfl, Nq60, eh60⟩ := hQ60
  have N60 := Fr.app N53 Nq60
  have em : (if (Int32.ofNat (cs.length - i)) < (Int32.ofNat cs.length - p1) then (Int32.ofNat (cs.length - i)) else (Int32.ofNat cs.length - p1)) = (Int32.ofNat (cs.length - i)) := by rw [e1, own_subN hi (by omega)]; split <;> rfl
  have st61 : ∀ target, Steps p.tables e below (T60.setTop (mkF m 27 #[.val (.ref b1), .val (.int p1), .val (.int p2), .val (.int (Int32.ofNat (cs.length - i))), .val (.ref b55)] [(.int (Int32.ofNat (cs.length - i))), (.int (0 : Int32)), (.ref b55), (.int p1), (.ref b1)])) target → Steps p.tables e below (T60.setTop (mkF m 27 #[.val (.ref b1), .val (.int p1), .val (.int p2), .val (.int (Int32.ofNat (cs.length - i))), .val (.ref b55)] [(.int (if (Int32.ofNat (cs.length - i)) < (Int32.ofNat cs.length - p1) then (Int32.ofNat (cs.length - i)) else (Int32.ofNat cs.length - p1))), (.int (0 : Int32)), (.ref b55), (.int p1), (.ref b1)])) target := by
    rw [em]
    intro target hk
    exact hk
  obtain ⟨T62, h62, L62, X62, e62, N62, K62, V62, st62⟩ := cpA X60 hx hZ hown (hw _ (List.mem_of_getElem? (i := 134) rfl)) (hw _ (List.mem_of_getElem? (i := 137) rfl)) (hw _ (List.mem_of_getElem? (i := 135) rfl)) (hw _ (List.mem_of_getElem? (i := 136) rfl)) eh60 f58 VN (Or.inl ⟨rfl, rfl⟩) (sp := p1) (dp := (0 : Int32)) (nn := (Int32.ofNat (cs.length - i))) (by rw [e1]; exact own_nn (by omega)) (by decide) (own_nn (by omega)) (by rw [e1, own_clamp (by omega), own_clamp (by omega), own_clamp (by omega)]; omega) (by rw [own_clamp (by omega)]; exact Nat.le_of_eq (Nat.zero_add _)) rfl (by rw [own_clamp (by omega)]; simp) N60 ge_b55 (g := (mkF m 27 #[.val (.ref b1), .val (.int p1), .val (.int p2), .val (.int (Int32.ofNat (cs.length - i))), .val (.ref b55)] [(.int (Int32.ofNat (cs.length - i))), (.int (0 : Int32)), (.ref b55), (.int p1), (.ref b1)])) rfl (by rw [hml]; rfl) rfl (hb hby d25_27) (by decide) (W := 0) (by show 2 * 0 + _ ≤ _; exact Nat.le_of_eq rfl) (by decide)
  have Z63 : n0 ≤ h62.size := Nat.le_trans Z56 K62.1
  have K64 : Keep h0 h62 [] := K57.trans K62 (allS (Or.inr sz_b55) all0)
  have VF : Arv Z h62 b55 k55 .byte (Int32.ofNat (cs.length - i)) (own_by (cs.drop i)) (.int 0) := by
    have q := V62
    rw [e1, own_clamp (by omega : i < 2147483648), own_clamp (by omega : cs.length - i < 2147483648)] at q
    have z : (0 : Int32).toNatClampNeg = 0 := by decide
    rw [z, own_us] at q
    simpa using q
  obtain ⟨fs, hr, hrun, hended, hW, hsame⟩ := X62.leave (v := some (.ref b55)) (fun h => by rw [hret0] at h; cases h)
  refine ⟨_, _, pre0 _ ?_, hrun, hended, _, _, rfl, ?_, ⟨_, rfl⟩, hW, hsame.mono (by decide) (by decide)⟩
  · show Steps p.tables e below (s₁.setTop (mkF m 0 #[.val (.ref b1), .val (.int p1), .val (.int p2), .unset, .unset] [])) _
    refine XS.iloadN X0.here hx rfl (hb hby d25_0) rfl ?_
    show Steps p.tables e below (s₁.setTop (mkF m 1 #[.val (.ref b1), .val (.int p1), .val (.int p2), .unset, .unset] [(.int p1)])) _
    refine XS.iloadN X0.here hx rfl (hb hby d25_1) rfl ?_
    show Steps p.tables e below (s₁.setTop (mkF m 2 #[.val (.ref b1), .val (.int p1), .val (.int p2), .unset, .unset] [(.int p2), (.int p1)])) _
    refine st53 _ ?_
    show Steps p.tables e below (T53.setTop (mkF m 5 #[.val (.ref b1), .val (.int p1), .val (.int p2), .unset, .unset] [])) _
    refine XS.iloadN X53.here hx rfl (hb hby d25_5) rfl ?_
    show Steps p.tables e below (T53.setTop (mkF m 6 #[.val (.ref b1), .val (.int p1), .val (.int p2), .unset, .unset] [(.int p2)])) _
    refine XS.iloadN X53.here hx rfl (hb hby d25_6) rfl ?_
    show Steps p.tables e below (T53.setTop (mkF m 7 #[.val (.ref b1), .val (.int p1), .val (.int p2), .unset, .unset] [(.int p1), (.int p2)])) _
    refine XS.isub X53.here hx rfl (hb hby d25_7) rfl ?_
    show Steps p.tables e below (T53.setTop (mkF m 8 #[.val (.ref b1), .val (.int p1), .val (.int p2), .unset, .unset] [(.int (p2 - p1))])) _
    refine XS.istoreN X53.here hx rfl (hb hby d25_8) rfl (l' := #[.val (.ref b1), .val (.int p1), .val (.int p2), .val (.int (p2 - p1)), .unset]) rfl ?_
    show Steps p.tables e below (T53.setTop (mkF m 9 #[.val (.ref b1), .val (.int p1), .val (.int p2), .val (.int (p2 - p1)), .unset] [])) _
    refine st54 _ ?_
    show Steps p.tables e below (T53.setTop (mkF m 9 #[.val (.ref b1), .val (.int p1), .val (.int p2), .val (.int (Int32.ofNat (cs.length - i))), .unset] [])) _
    refine XS.iloadN X53.here hx rfl (hb hby d25_9) rfl ?_
    show Steps p.tables e below (T53.setTop (mkF m 10 #[.val (.ref b1), .val (.int p1), .val (.int p2), .val (.int (Int32.ofNat (cs.length - i))), .unset] [(.int (Int32.ofNat (cs.length - i)))])) _
    refine st55 _ ?_
    show Steps p.tables e below (T55.setTop (mkF m 12 #[.val (.ref b1), .val (.int p1), .val (.int p2), .val (.int (Int32.ofNat (cs.length - i))), .unset] [(.ref b55)])) _
    refine XS.astore X55.here hx rfl (hb hby d25_12) rfl rfl (l' := #[.val (.ref b1), .val (.int p1), .val (.int p2), .val (.int (Int32.ofNat (cs.length - i))), .val (.ref b55)]) rfl ?_
    show Steps p.tables e below (T55.setTop (mkF m 14 #[.val (.ref b1), .val (.int p1), .val (.int p2), .val (.int (Int32.ofNat (cs.length - i))), .val (.ref b55)] [])) _
    refine XS.aloadN X55.here hx rfl (hb hby d25_14) rfl rfl ?_
    show Steps p.tables e below (T55.setTop (mkF m 15 #[.val (.ref b1), .val (.int p1), .val (.int p2), .val (.int (Int32.ofNat (cs.length - i))), .val (.ref b55)] [(.ref b1)])) _
    refine XS.iloadN X55.here hx rfl (hb hby d25_15) rfl ?_
    show Steps p.tables e below (T55.setTop (mkF m 16 #[.val (.ref b1), .val (.int p1), .val (.int p2), .val (.int (Int32.ofNat (cs.length - i))), .val (.ref b55)] [(.int p1), (.ref b1)])) _
    refine XS.aload X55.here hx rfl (hb hby d25_16) rfl rfl ?_
    show Steps p.tables e below (T55.setTop (mkF m 18 #[.val (.ref b1), .val (.int p1), .val (.int p2), .val (.int (Int32.ofNat (cs.length - i))), .val (.ref b55)] [(.ref b55), (.int p1), (.ref b1)])) _
    refine XS.iconst X55.here hx rfl (hb hby d25_18) ?_
    show Steps p.tables e below (T55.setTop (mkF m 19 #[.val (.ref b1), .val (.int p1), .val (.int p2), .val (.int (Int32.ofNat (cs.length - i))), .val (.ref b55)] [(.int (0 : Int32)), (.ref b55), (.int p1), (.ref b1)])) _
    refine XS.aloadN X55.here hx rfl (hb hby d25_19) rfl rfl ?_
    show Steps p.tables e below (T55.setTop (mkF m 20 #[.val (.ref b1), .val (.int p1), .val (.int p2), .val (.int (Int32.ofNat (cs.length - i))), .val (.ref b55)] [(.ref b1), (.int (0 : Int32)), (.ref b55), (.int p1), (.ref b1)])) _
    refine X55.arraylength hx (by rw [e55]; exact Ar59.1) (State.isArrayOf_alike hZ.alike Ar59.2.1) (g := (mkF m 20 #[.val (.ref b1), .val (.int p1), .val (.int p2), .val (.int (Int32.ofNat (cs.length - i))), .val (.ref b55)] [(.ref b1), (.int (0 : Int32)), (.ref b55), (.int p1), (.ref b1)])) rfl rfl (hb hby d25_20) _ ?_
    rw [len_of S59 M59]
    show Steps p.tables e below (T55.setTop (mkF m 21 #[.val (.ref b1), .val (.int p1), .val (.int p2), .val (.int (Int32.ofNat (cs.length - i))), .val (.ref b55)] [(.int (Int32.ofNat cs.length)), (.int (0 : Int32)), (.ref b55), (.int p1), (.ref b1)])) _
    refine XS.iloadN X55.here hx rfl (hb hby d25_21) rfl ?_
    show Steps p.tables e below (T55.setTop (mkF m 22 #[.val (.ref b1), .val (.int p1), .val (.int p2), .val (.int (Int32.ofNat (cs.length - i))), .val (.ref b55)] [(.int p1), (.int (Int32.ofNat cs.length)), (.int (0 : Int32)), (.ref b55), (.int p1), (.ref b1)])) _
    refine XS.isub X55.here hx rfl (hb hby d25_22) rfl ?_
    show Steps p.tables e below (T55.setTop (mkF m 23 #[.val (.ref b1), .val (.int p1), .val (.int p2), .val (.int (Int32.ofNat (cs.length - i))), .val (.ref b55)] [(.int ((Int32.ofNat cs.length) - p1)), (.int (0 : Int32)), (.ref b55), (.int p1), (.ref b1)])) _
    refine XS.iloadN X55.here hx rfl (hb hby d25_23) rfl ?_
    show Steps p.tables e below (T55.setTop (mkF m 24 #[.val (.ref b1), .val (.int p1), .val (.int p2), .val (.int (Int32.ofNat (cs.length - i))), .val (.ref b55)] [(.int (Int32.ofNat (cs.length - i))), (.int ((Int32.ofNat cs.length) - p1)), (.int (0 : Int32)), (.ref b55), (.int p1), (.ref b1)])) _
    refine st60 _ ?_
    show Steps p.tables e below (T60.setTop (mkF m 27 #[.val (.ref b1), .val (.int p1), .val (.int p2), .val (.int (Int32.ofNat (cs.length - i))), .val (.ref b55)] [(.int (if (Int32.ofNat (cs.length - i)) < (Int32.ofNat cs.length - p1) then (Int32.ofNat (cs.length - i)) else (Int32.ofNat cs.length - p1))), (.int (0 : Int32)), (.ref b55), (.int p1), (.ref b1)])) _
    refine st61 _ ?_
    show Steps p.tables e below (T60.setTop (mkF m 27 #[.val (.ref b1), .val (.int p1), .val (.int p2), .val (.int (Int32.ofNat (cs.length - i))), .val (.ref b55)] [(.int (Int32.ofNat (cs.length - i))), (.int (0 : Int32)), (.ref b55), (.int p1), (.ref b1)])) _
    refine st62 _ ?_
    show Steps p.tables e below (T62.setTop (mkF m 30 #[.val (.ref b1), .val (.int p1), .val (.int p2), .val (.int (Int32.ofNat (cs.length - i))), .val (.ref b55)] [])) _
    refine XS.aload X62.here hx rfl (hb hby d25_30) rfl rfl ?_
    show Steps p.tables e below (T62.setTop (mkF m 32 #[.val (.ref b1), .val (.int p1), .val (.int p2), .val (.int (Int32.ofNat (cs.length - i))), .val (.ref b55)] [(.ref b55)])) _
    exact retR X62 hx hret0 rfl rfl rfl (hb hby d25_32) hr
  · show QCor Z cs i h0 n0 _ T62.heap _
    rw [e62]
    exact ⟨b55, k55, rfl, N62, own_ext K64, sz_b55, VF⟩
theorem d24_0 : decode jdk_65_method_132_code 0 = .ok (.iload_n 1, 1) := by decide +kernel
theorem d24_1 : decode jdk_65_method_132_code 1 = .ok (.ifCond .ne 9, 3) := by decide +kernel
theorem d24_10 : decode jdk_65_method_132_code 10 = .ok (.aload_n 0, 1) := by decide +kernel
theorem d24_11 : decode jdk_65_method_132_code 11 = .ok (.iload_n 1, 1) := by decide +kernel
theorem d24_12 : decode jdk_65_method_132_code 12 = .ok (.iload_n 2, 1) := by decide +kernel
theorem d24_13 : decode jdk_65_method_132_code 13 = .ok (.invokestatic 339, 3) := by decide +kernel
theorem d24_16 : decode jdk_65_method_132_code 16 = .ok (.areturn, 1) := by decide +kernel
theorem own_pn_rmCor : plainName "java/util/Arrays" = true := by first | (simp [plainName, overriddenIn]; done) | decide +kernel
theorem own_ef_rmCor (m : MethodId) (b1 : Addr) (p1 : Int32) (p2 : Int32) : entryFrame m #[(.ref b1), (.int p1), (.int p2)] 3 = (mkF m 0 #[.val (.ref b1), .val (.int p1), .val (.int p2)] []) := by first | (simp [entryFrame, mkF, argsToLocals, Value.category]; done) | rfl
set_option maxRecDepth 65536 in
set_option maxHeartbeats 40000000 in
theorem rmCor (l : Launch) (Z : State) (a0 : Array Value) (hw : ∀ d ∈ tables_1, d.before a0 Z = true) (ws : List Jvm.Cond) (b1 : Addr) (kb1 : ClassId) (cs : List Int32) (i : Nat) (p1 : Int32) (p2 : Int32) (h0 : Heap) (n0 : Nat) (Z0 : n0 ≤ h0.size) (VB : Arv Z h0 b1 kb1 .byte (Int32.ofNat cs.length) (own_by cs) (.int 0)) (l2 : cs.length ≤ 4000) (hi : i ≤ cs.length) (hcap : cs.length - i ≤ 16) (e1 : p1 = Int32.ofNat i) (e2 : p2 = Int32.ofNat cs.length) (i1 : 1 ≤ i) :
    MetFree l (⟨"java/util/Arrays", "copyOfRange", "([BII)[B"⟩ : MethodName) (head1 (Jvm.Cond.code (⟨"java/util/Arrays", "copyOfRange", "([BII)[B"⟩ : MethodName) jdk_65_method_132_code 3 (some (.array .byte)) :: ws) ({ frames := 2, cells := 1, slots := 16, locals := 56 } : Room)) (fun a U => a = #[(.ref b1), (.int p1), (.int p2)] ∧ Z.Warmed39 U.vm ∧ U.heap = h0) (fun _ _ _ _ _ => True) (fun _ U o U' => ∃ v L, o = .returned v ∧ QCor Z cs i h0 n0 v U'.heap L ∧ FrameEnd U o U' L ({ frames := 2, cells := 1, slots := 16, locals := 56 } : Room).cells ({ frames := 2, cells := 1, slots := 16, locals := 56 } : Room).slots) := by
  refine MetFree.of_bodySF (plainFor_of_name own_pn_rmCor) hisR ?_
  intro p e s m args below meth c s₁ Bd hml0 hP hK
  obtain ⟨hargs, hZ, hh⟩ := hP
  have hx := Bd.exec
  have hby := Bd.bytes
  have hml : c.maxLocals = 3 := hml0
  have hown : s.vm.findClass "java/util/Arrays" = some m.cls := findClass_of_methodNamed Bd.named
  have hnm := (name_of_methodNamed Bd.named Bd.method).1
  have hlock : meth.locks = false := Bd.notSynchronized
  have hret0 := Bd.returns
  have X0 : Stand p l e ({ frames := 2, cells := 1, slots := 16, locals := 56 } : Room) s m args below meth c s₁ [] 0 0 := Stand.of_body Bd
  have e0 : s₁.heap = h0 := by rw [← hh, Bd.state]; rfl
  have N0 := Fr.nil n0
  have pre0 : ∀ t, Steps p.tables e below (s₁.setTop (mkF m 0 #[.val (.ref b1), .val (.int p1), .val (.int p2)] [])) t → Steps p.tables e below (s₁.setTop (entryFrame m args 3)) t := fun t k => castTop (by rw [hargs]; exact own_ef_rmCor m b1 p1 p2) k
  clear Bd
  obtain ⟨v65, vmx65, ⟨T65, L65, k65, n65⟩, -, X65, ⟨Lc65, hQ65, l65, y65, z65⟩, st65⟩ := Jvm.LawKit.callS X0 hx (y := (⟨"java/util/Arrays", "copyOfRangeByte", "([BII)[B"⟩ : MethodName)) hown (mvT hZ (hw _ (List.mem_of_getElem? (i := 124) rfl))) (mvT hZ (hw _ (List.mem_of_getElem? (i := 125) rfl))) (mvT hZ (hw _ (List.mem_of_getElem? (i := 122) rfl))) (mvT hZ (hw _ (List.mem_of_getElem? (i := 126) rfl))) (by decide) (backOf (W := 0) (rmCorb l Z a0 hw [] b1 kb1 cs i p1 p2 h0 n0 Z0 VB l2 hi hcap e1 e2) hZ (hw _ (List.mem_of_getElem? (i := 126) rfl)) (hw _ (List.mem_of_getElem? (i := 122) rfl)) (by decide) (by decide)) (g := (mkF m 13 #[.val (.ref b1), .val (.int p1), .val (.int p2)] [(.int p2), (.int p1), (.ref b1)])) rfl (by rw [hml]; rfl) (argsL := [(.ref b1), (.int p1), (.int p2)]) (rest := []) (lenOf own_pd4 rfl) rfl (by show 2 * 0 + _ ≤ _; exact Nat.le_of_eq rfl) (hb hby d24_13) (fun _ _ => ⟨rfl, e0, (by decide : 0 + 1 ≤ _), (by decide : 0 + 16 ≤ _)⟩)
  dsimp only [Pt.U, Pt.locs, Pt.cells, Pt.slots] at X65 l65 y65 z65 st65 hQ65
  subst l65 y65 z65
  obtain ⟨b, kb, rfl, Nq65, E65, szb, VB65⟩ := hQ65
  have N65 := Fr.app N0 Nq65
  have Z66 : n0 ≤ T65.heap.size := Nat.le_trans Z0 E65.1
  have K67 : Keep h0 T65.heap [] := (Keep.refl h0 []).ext E65
  obtain ⟨fs, hr, hrun, hended, hW, hsame⟩ := X65.leave (v := some (.ref b)) (fun h => by rw [hret0] at h; cases h)
  refine ⟨_, _, pre0 _ ?_, hrun, hended, _, _, rfl, ?_, ⟨_, rfl⟩, hW, hsame.mono (by decide) (by decide)⟩
  · show Steps p.tables e below (s₁.setTop (mkF m 0 #[.val (.ref b1), .val (.int p1), .val (.int p2)] [])) _
    refine XS.iloadN X0.here hx rfl (hb hby d24_0) rfl ?_
    show Steps p.tables e below (s₁.setTop (mkF m 1 #[.val (.ref b1), .val (.int p1), .val (.int p2)] [(.int p1)])) _
    refine XS.ifYes X0.here hx rfl (pc0 := 1) (pc' := 10) rfl (hb hby d24_1) rfl ((if0 _ _).trans (feq (by rw [e1]; intro q; exact absurd ((own_eq (b := 0) (by omega) (by omega)).mp q) (by omega))).2) (by decide) (by decide) ?_
    show Steps p.tables e below (s₁.setTop (mkF m 10 #[.val (.ref b1), .val (.int p1), .val (.int p2)] [])) _
    refine XS.aloadN X0.here hx rfl (hb hby d24_10) rfl rfl ?_
    show Steps p.tables e below (s₁.setTop (mkF m 11 #[.val (.ref b1), .val (.int p1), .val (.int p2)] [(.ref b1)])) _
    refine XS.iloadN X0.here hx rfl (hb hby d24_11) rfl ?_
    show Steps p.tables e below (s₁.setTop (mkF m 12 #[.val (.ref b1), .val (.int p1), .val (.int p2)] [(.int p1), (.ref b1)])) _
    refine XS.iloadN X0.here hx rfl (hb hby d24_12) rfl ?_
    show Steps p.tables e below (s₁.setTop (mkF m 13 #[.val (.ref b1), .val (.int p1), .val (.int p2)] [(.int p2), (.int p1), (.ref b1)])) _
    refine st65 _ ?_
    show Steps p.tables e below (T65.setTop (mkF m 16 #[.val (.ref b1), .val (.int p1), .val (.int p2)] [(.ref b)])) _
    exact retR X65 hx hret0 rfl rfl rfl (hb hby d24_16) hr
  · show QCor Z cs i h0 n0 _ T65.heap _
    exact ⟨b, kb, rfl, N65, E65, szb, VB65⟩
theorem d21_0 : decode jdk_43_method_47_code 0 = .ok (.iload_n 2, 1) := by decide +kernel
theorem d21_1 : decode jdk_43_method_47_code 1 = .ok (.ifCond .ne 6, 3) := by decide +kernel
theorem d21_4 : decode jdk_43_method_47_code 4 = .ok (.ldc 151, 2) := by decide +kernel
theorem d21_6 : decode jdk_43_method_47_code 6 = .ok (.areturn, 1) := by decide +kernel
theorem d21_7 : decode jdk_43_method_47_code 7 = .ok (.new 1, 3) := by decide +kernel
theorem d21_10 : decode jdk_43_method_47_code 10 = .ok (.dup, 1) := by decide +kernel
theorem d21_11 : decode jdk_43_method_47_code 11 = .ok (.aload_n 0, 1) := by decide +kernel
theorem d21_12 : decode jdk_43_method_47_code 12 = .ok (.iload_n 1, 1) := by decide +kernel
theorem d21_13 : decode jdk_43_method_47_code 13 = .ok (.iload_n 1, 1) := by decide +kernel
theorem d21_14 : decode jdk_43_method_47_code 14 = .ok (.iload_n 2, 1) := by decide +kernel
theorem d21_15 : decode jdk_43_method_47_code 15 = .ok (.iadd, 1) := by decide +kernel
theorem d21_16 : decode jdk_43_method_47_code 16 = .ok (.invokestatic 232, 3) := by decide +kernel
theorem d21_19 : decode jdk_43_method_47_code 19 = .ok (.iconst 0, 1) := by decide +kernel
theorem d21_20 : decode jdk_43_method_47_code 20 = .ok (.invokespecial 112, 3) := by decide +kernel
theorem d21_23 : decode jdk_43_method_47_code 23 = .ok (.areturn, 1) := by decide +kernel
def QSub (Z : State) (cs : List Int32) (i : Nat) (h0 : Heap) (n0 : Nat) (v : Option Value) (h : Heap) (L : List Loc) : Prop := ∃ b : Addr, v = some (.ref b) ∧ Fr n0 L ∧ Ext h0 h ∧ own_Str Z h b (cs.drop i)
theorem own_pn_rmNS : plainName "java/lang/StringLatin1" = true := by first | (simp [plainName, overriddenIn]; done) | decide +kernel
theorem own_ef_rmNS (m : MethodId) (b1 : Addr) (p1 : Int32) (p2 : Int32) : entryFrame m #[(.ref b1), (.int p1), (.int p2)] 3 = (mkF m 0 #[.val (.ref b1), .val (.int p1), .val (.int p2)] []) := by first | (simp [entryFrame, mkF, argsToLocals, Value.category]; done) | rfl
set_option maxRecDepth 65536 in
set_option maxHeartbeats 40000000 in
theorem rmNS (l : Launch) (Z : State) (a0 : Array Value) (hw : ∀ d ∈ tables_1, d.before a0 Z = true) (ws : List Jvm.Cond) (b1 : Addr) (kb1 : ClassId) (cs : List Int32) (i : Nat) (p1 : Int32) (p2 : Int32) (h0 : Heap) (n0 : Nat) (Z0 : n0 ≤ h0.size) (hp : ∀ c ∈ cs, ¬ c < 0 ∧ ¬ (255 : Int32) < c) (VB : Arv Z h0 b1 kb1 .byte (Int32.ofNat cs.length) (own_by cs) (.int 0)) (l2 : cs.length ≤ 4000) (i1 : 1 ≤ i) (hi : i ≤ cs.length) (hcap : cs.length - i ≤ 16) (e1 : p1 = Int32.ofNat i) (e2 : p2 = Int32.ofNat (cs.length - i)) :
    MetFree l (⟨"java/lang/StringLatin1", "newString", "([BII)Ljava/lang/String;"⟩ : MethodName) (head1 (Jvm.Cond.code (⟨"java/lang/StringLatin1", "newString", "([BII)Ljava/lang/String;"⟩ : MethodName) jdk_43_method_47_code 3 (some (.object "java/lang/String")) :: ws) ({ frames := 3, cells := 2, slots := 20, locals := 80 } : Room)) (fun a U => a = #[(.ref b1), (.int p1), (.int p2)] ∧ Z.Warmed39 U.vm ∧ U.heap = h0 ∧ CHv Z EL U.vm h0) (fun _ _ _ _ _ => True) (fun _ U o U' => ∃ v L, o = .returned v ∧ QSub Z cs i h0 n0 v U'.heap L ∧ CHr Z EL U.vm U.heap U'.vm U'.heap ∧ ReturnedEndW U o U' L ({ frames := 3, cells := 2, slots := 20, locals := 80 } : Room).cells ({ frames := 3, cells := 2, slots := 20, locals := 80 } : Room).slots) := by
  refine MetFree.of_bodySF (plainFor_of_name own_pn_rmNS) hisR ?_
  intro p e s m args below meth c s₁ Bd hml0 hP hK
  obtain ⟨hargs, hZ, hh, hC0⟩ := hP
  have hx := Bd.exec
  have hby := Bd.bytes
  have hml : c.maxLocals = 3 := hml0
  have hown : s.vm.findClass "java/lang/StringLatin1" = some m.cls := findClass_of_methodNamed Bd.named
  have hnm := (name_of_methodNamed Bd.named Bd.method).1
  have hlock : meth.locks = false := Bd.notSynchronized
  have hret0 := Bd.returns
  have hZ : Z.Warmed39 (s.setVm s.vm).vm := hZ
  have hown : (s.setVm s.vm).vm.findClass "java/lang/StringLatin1" = some m.cls := hown
  have hEL := own_EL hw
  have hwS := own_wS hw
  have C0 := CHr.refl hC0
  have X0 : Stand p l e ({ frames := 3, cells := 2, slots := 20, locals := 80 } : Room) (s.setVm s.vm) m args below meth c s₁ [] 0 0 := Stand.of_body Bd
  have e0 : s₁.heap = h0 := by rw [← hh, Bd.state]; rfl
  have N0 := Fr.nil n0
  have pre0 : ∀ t, Steps p.tables e below (s₁.setTop (mkF m 0 #[.val (.ref b1), .val (.int p1), .val (.int p2)] [])) t → Steps p.tables e below (s₁.setTop (entryFrame m args 3)) t := fun t k => castTop (by rw [hargs]; exact own_ef_rmNS m b1 p1 p2) k
  have hS0 := (State.WarmedH.refl s).since 0
  clear Bd
  by_cases hc : p2 = (0 : Int32)
  · skip
    obtain ⟨a68, T68, h68, k168, b68, kl68, X68, e68, E68, hS68, hkk68, hZ68, hown68, fe68, fc68, fv68, fa68, la68, lb68, CR68, hL68, hne68, st68⟩ := ldcCH (s := s) (vm0 := s.vm) X0 hx hZ hown (hw _ (List.mem_of_getElem? (i := 109) rfl)) hwS e0 hS0 (Nat.zero_le _) hEL (own_mem109) C0.1 (vs := ([] : List Value)) (z := (0 : Int32)) ⟨by decide, by decide⟩ (by decide) rfl (g := (mkF m 4 #[.val (.ref b1), .val (.int p1), .val (.int p2)] [])) rfl (hb hby d21_4) (n := 0) (by decide) (by decide) (by decide) (by decide)
    have Z69 : n0 ≤ h68.size := Nat.le_trans Z0 E68.1
    have K70 : Keep h0 h68 [] := (Keep.refl h0 []).ext E68
    have C71 := (C0.trans CR68)
    have hz : cs.length - i = 0 := by rw [e2] at hc; exact (own_eq (b := 0) (by omega) (by omega)).mp hc
    have hd : cs.drop i = [] := List.drop_eq_nil_of_le (by omega)
    obtain ⟨fs, hr, hrun, hended, hW⟩ := Stand.leaveW (s := s) (vm₁ := T68.vm) X68 hS68 (by rw [e68]; exact hkk68) (v := some (.ref a68)) (fun h => by rw [hret0] at h; cases h)
    refine ⟨_, _, pre0 _ ?_, hrun, hended, _, _, rfl, ?_, own_chr (T := T68) hh e68 (C71.trans (CHv.at (s := s) (vm0 := T68.vm) X68 hZ68 hEL C71.1)), own_wmono hW (by decide) (by decide)⟩
    · show Steps p.tables e below (s₁.setTop (mkF m 0 #[.val (.ref b1), .val (.int p1), .val (.int p2)] [])) _
      refine XS.iloadN X0.here hx rfl (hb hby d21_0) rfl ?_
      show Steps p.tables e below (s₁.setTop (mkF m 1 #[.val (.ref b1), .val (.int p1), .val (.int p2)] [(.int p2)])) _
      refine XS.ifNo X0.here hx rfl (hb hby d21_1) rfl ((if0 _ _).trans (teq hc).2) ?_
      show Steps p.tables e below (s₁.setTop (mkF m 4 #[.val (.ref b1), .val (.int p1), .val (.int p2)] [])) _
      refine st68 _ ?_
      show Steps p.tables e below (T68.setTop (mkF m 6 #[.val (.ref b1), .val (.int p1), .val (.int p2)] [(.ref a68)])) _
      exact retR X68 hx hret0 rfl rfl rfl (hb hby d21_6) hr
    · show QSub Z cs i h0 n0 _ T68.heap _
      rw [e68]
      exact ⟨a68, rfl, N0, own_ext K70, by rw [hd]; exact ⟨by decide, by decide, fe68, fc68, b68, kl68, fv68, fa68⟩⟩
  · skip
    obtain ⟨T72, h72, X72, e72, E72, A72, D72, -, st72⟩ := newO X0 hx hZ hown (hw _ (List.mem_of_getElem? (i := 119) rfl)) (hw _ (List.mem_of_getElem? (i := 2) rfl)) (hw _ (List.mem_of_getElem? (i := 3) rfl)) e0 (g := (mkF m 7 #[.val (.ref b1), .val (.int p1), .val (.int p2)] [])) rfl (hb hby d21_7) (by decide) (by decide)
    obtain ⟨b72, g72⟩ : ∃ z, z = h0.size := ⟨_, rfl⟩
    rw [← g72] at A72 D72 st72
    have ge_b72 : n0 ≤ b72 := Nat.le_trans Z0 (Nat.le_of_eq g72.symm)
    have sz_b72 : h0.size ≤ b72 := Nat.le_trans (Keep.refl h0 []).1 (Nat.le_of_eq g72.symm)
    have Z73 : n0 ≤ h72.size := Nat.le_trans Z0 E72.1
    have K74 : Keep h0 h72 [] := (Keep.refl h0 []).ext E72
    have C75 := (C0.trans (CHr.ext E72 C0.1))
    have f76 := (VB.ext E72)
    obtain ⟨v77, vmx77, ⟨T77, L77, k77, n77⟩, -, X77, ⟨Lc77, hQ77, l77, y77, z77⟩, st77⟩ := Jvm.LawKit.callS X72 hx (y := (⟨"java/util/Arrays", "copyOfRange", "([BII)[B"⟩ : MethodName)) hown (mvT hZ (hw _ (List.mem_of_getElem? (i := 120) rfl))) (mvT hZ (hw _ (List.mem_of_getElem? (i := 121) rfl))) (mvT hZ (hw _ (List.mem_of_getElem? (i := 122) rfl))) (mvT hZ (hw _ (List.mem_of_getElem? (i := 123) rfl))) (by decide) (backOf (W := 2) (rmCor l Z a0 hw [] b1 kb1 cs i p1 (p1 + p2) h72 n0 Z73 f76 l2 hi hcap e1 (by rw [e1, e2, own_addN (by omega)]; congr 1; omega) i1) hZ (hw _ (List.mem_of_getElem? (i := 123) rfl)) (hw _ (List.mem_of_getElem? (i := 122) rfl)) (by decide) (by decide)) (g := (mkF m 16 #[.val (.ref b1), .val (.int p1), .val (.int p2)] [(.int (p1 + p2)), (.int p1), (.ref b1), (.ref b72), (.ref b72)])) rfl (by rw [hml]; rfl) (argsL := [(.ref b1), (.int p1), (.int (p1 + p2))]) (rest := [(.ref b72), (.ref b72)]) (lenOf own_pd4 rfl) rfl (by show 2 * 0 + _ ≤ _; exact Nat.le_of_eq rfl) (hb hby d21_16) (fun _ _ => ⟨rfl, e72, (by decide : 1 + 1 ≤ _), (by decide : 4 + 16 ≤ _)⟩)
    dsimp only [Pt.U, Pt.locs, Pt.cells, Pt.slots] at X77 l77 y77 z77 st77 hQ77
    subst l77 y77 z77
    obtain ⟨b, kb, rfl, Nq77, E77, szb, VB77⟩ := hQ77
    have N77 := Fr.app N0 Nq77
    have Z78 : n0 ≤ T77.heap.size := Nat.le_trans Z73 E77.1
    have K79 : Keep h0 T77.heap [] := K74.ext E77
    have C80 := (C75.trans (CHr.ext E77 C75.1))
    have f81 := (A72.ext E77)
    have f82 := ((D72 (Or.inr (hw _ (List.mem_of_getElem? (i := 29) rfl))) (ty := (.array .byte)) (by decide)).ext E77)
    have f83 := ((D72 (Or.inr (hw _ (List.mem_of_getElem? (i := 27) rfl))) (ty := .byte) (by decide)).ext E77)
    have nbx : b ≠ b72 := Nat.ne_of_gt (Nat.lt_of_lt_of_le A72.lt szb)
    obtain ⟨v84, vmx84, ⟨T84, L84, k84, n84⟩, -, X84, ⟨Lc84, hQ84, l84, y84, z84⟩, st84⟩ := X77.specialBack hx (y := (⟨"java/lang/String", "<init>", "([BB)V"⟩ : MethodName)) rfl hown (mvT hZ (hw _ (List.mem_of_getElem? (i := 138) rfl))) (mvT hZ (hw _ (List.mem_of_getElem? (i := 45) rfl))) (mvT hZ (hw _ (List.mem_of_getElem? (i := 46) rfl))) (by decide) (backOf (W := 1) (rmBB l Z a0 hw [] b72 b _ _ T77.heap n0 Z78 f81 f82 f83 ge_b72) hZ (hw _ (List.mem_of_getElem? (i := 46) rfl)) (hw _ (List.mem_of_getElem? (i := 3) rfl)) (by decide) (by decide)) (g := (mkF m 20 #[.val (.ref b1), .val (.int p1), .val (.int p2)] [(.int (0 : Int32)), (.ref b), (.ref b72), (.ref b72)])) rfl (by rw [hml]; rfl) (Steps.refl _) (a := b72) (argsL := [(.ref b), (.int (0 : Int32))]) (rest := [(.ref b72)]) (lenOf own_pd5 rfl) rfl (by show 2 * 0 + _ ≤ _; exact Nat.le_of_eq rfl) (hb hby d21_20) (fun _ _ => ⟨rfl, rfl, (by decide : 2 + 0 ≤ _), (by decide : 20 + 0 ≤ _)⟩)
    dsimp only [Pt.U, Pt.locs, Pt.cells, Pt.slots] at X84 l84 y84 z84 st84 hQ84
    subst l84 y84 z84
    obtain ⟨rfl, Nq84, K84, g1, g2, g3⟩ := hQ84
    have N84 := Fr.app N77 Nq84
    have Z85 : n0 ≤ T84.heap.size := Nat.le_trans Z78 K84.1
    have K86 : Keep h0 T84.heap [] := K79.trans K84 (allS (Or.inr sz_b72) all0)
    have C87 := (C80.trans (CHr.keep K84 (allS (Safe.ext E77 C75.1 (Safe.ext E72 C0.1 (Safe.new (Nat.le_of_eq g72.symm)))) all0) C80.1))
    have f88 := (VB77.keep K84 (ninS nbx nin0))
    obtain ⟨fs, hr, hrun, hended, hW⟩ := Stand.leaveW (s := s) (vm₁ := s.vm) X84 hS0 (by rw [show T84.heap = _ from rfl]; exact (Nat.zero_le _)) (v := some (.ref b72)) (fun h => by rw [hret0] at h; cases h)
    refine ⟨_, _, pre0 _ ?_, hrun, hended, _, _, rfl, ?_, own_chr (T := T84) hh rfl (C87.trans (CHv.at (s := s) (vm0 := s.vm) X84 hZ hEL C87.1)), own_wmono hW (by decide) (by decide)⟩
    · show Steps p.tables e below (s₁.setTop (mkF m 0 #[.val (.ref b1), .val (.int p1), .val (.int p2)] [])) _
      refine XS.iloadN X0.here hx rfl (hb hby d21_0) rfl ?_
      show Steps p.tables e below (s₁.setTop (mkF m 1 #[.val (.ref b1), .val (.int p1), .val (.int p2)] [(.int p2)])) _
      refine XS.ifYes X0.here hx rfl (pc0 := 1) (pc' := 7) rfl (hb hby d21_1) rfl ((if0 _ _).trans (feq hc).2) (by decide) (by decide) ?_
      show Steps p.tables e below (s₁.setTop (mkF m 7 #[.val (.ref b1), .val (.int p1), .val (.int p2)] [])) _
      refine st72 _ ?_
      show Steps p.tables e below (T72.setTop (mkF m 10 #[.val (.ref b1), .val (.int p1), .val (.int p2)] [(.ref b72)])) _
      refine XS.dup X72.here hx rfl (hb hby d21_10) rfl rfl ?_
      show Steps p.tables e below (T72.setTop (mkF m 11 #[.val (.ref b1), .val (.int p1), .val (.int p2)] [(.ref b72), (.ref b72)])) _
      refine XS.aloadN X72.here hx rfl (hb hby d21_11) rfl rfl ?_
      show Steps p.tables e below (T72.setTop (mkF m 12 #[.val (.ref b1), .val (.int p1), .val (.int p2)] [(.ref b1), (.ref b72), (.ref b72)])) _
      refine XS.iloadN X72.here hx rfl (hb hby d21_12) rfl ?_
      show Steps p.tables e below (T72.setTop (mkF m 13 #[.val (.ref b1), .val (.int p1), .val (.int p2)] [(.int p1), (.ref b1), (.ref b72), (.ref b72)])) _
      refine XS.iloadN X72.here hx rfl (hb hby d21_13) rfl ?_
      show Steps p.tables e below (T72.setTop (mkF m 14 #[.val (.ref b1), .val (.int p1), .val (.int p2)] [(.int p1), (.int p1), (.ref b1), (.ref b72), (.ref b72)])) _
      refine XS.iloadN X72.here hx rfl (hb hby d21_14) rfl ?_
      show Steps p.tables e below (T72.setTop (mkF m 15 #[.val (.ref b1), .val (.int p1), .val (.int p2)] [(.int p2), (.int p1), (.int p1), (.ref b1), (.ref b72), (.ref b72)])) _
      refine XS.iadd X72.here hx rfl (hb hby d21_15) rfl ?_
      show Steps p.tables e below (T72.setTop (mkF m 16 #[.val (.ref b1), .val (.int p1), .val (.int p2)] [(.int (p1 + p2)), (.int p1), (.ref b1), (.ref b72), (.ref b72)])) _
      refine st77 _ ?_
      show Steps p.tables e below (T77.setTop (mkF m 19 #[.val (.ref b1), .val (.int p1), .val (.int p2)] [(.ref b), (.ref b72), (.ref b72)])) _
      refine XS.iconst X77.here hx rfl (hb hby d21_19) ?_
      show Steps p.tables e below (T77.setTop (mkF m 20 #[.val (.ref b1), .val (.int p1), .val (.int p2)] [(.int (0 : Int32)), (.ref b), (.ref b72), (.ref b72)])) _
      refine st84.trans ?_
      show Steps p.tables e below (T84.setTop (mkF m 23 #[.val (.ref b1), .val (.int p1), .val (.int p2)] [(.ref b72)])) _
      exact retR X84 hx hret0 rfl rfl rfl (hb hby d21_23) hr
    · show QSub Z cs i h0 n0 _ T84.heap _
      exact ⟨b72, rfl, N84, own_ext K86, fun c q => hp c (List.mem_of_mem_drop q), by rw [List.length_drop]; omega, g1, g2, b, kb, g3, by rw [List.length_drop]; exact f88⟩
theorem d17_0 : decode jdk_42_method_92_code 0 = .ok (.aload_n 0, 1) := by decide +kernel
theorem d17_1 : decode jdk_42_method_92_code 1 = .ok (.invokevirtual 505, 3) := by decide +kernel
theorem d17_4 : decode jdk_42_method_92_code 4 = .ok (.istore_n 3, 1) := by decide +kernel
theorem d17_5 : decode jdk_42_method_92_code 5 = .ok (.iload_n 1, 1) := by decide +kernel
theorem d17_6 : decode jdk_42_method_92_code 6 = .ok (.iload_n 2, 1) := by decide +kernel
theorem d17_7 : decode jdk_42_method_92_code 7 = .ok (.iload_n 3, 1) := by decide +kernel
theorem d17_8 : decode jdk_42_method_92_code 8 = .ok (.invokestatic 521, 3) := by decide +kernel
theorem d17_11 : decode jdk_42_method_92_code 11 = .ok (.iload_n 1, 1) := by decide +kernel
theorem d17_12 : decode jdk_42_method_92_code 12 = .ok (.ifCond .ne 10, 3) := by decide +kernel
theorem d17_22 : decode jdk_42_method_92_code 22 = .ok (.iload_n 2, 1) := by decide +kernel
theorem d17_23 : decode jdk_42_method_92_code 23 = .ok (.iload_n 1, 1) := by decide +kernel
theorem d17_24 : decode jdk_42_method_92_code 24 = .ok (.isub, 1) := by decide +kernel
theorem d17_25 : decode jdk_42_method_92_code 25 = .ok (.istore 4, 2) := by decide +kernel
theorem d17_27 : decode jdk_42_method_92_code 27 = .ok (.aload_n 0, 1) := by decide +kernel
theorem d17_28 : decode jdk_42_method_92_code 28 = .ok (.invokevirtual 492, 3) := by decide +kernel
theorem d17_31 : decode jdk_42_method_92_code 31 = .ok (.ifCond .eq 16, 3) := by decide +kernel
theorem d17_34 : decode jdk_42_method_92_code 34 = .ok (.aload_n 0, 1) := by decide +kernel
theorem d17_35 : decode jdk_42_method_92_code 35 = .ok (.getfield 9, 3) := by decide +kernel
theorem d17_38 : decode jdk_42_method_92_code 38 = .ok (.iload_n 1, 1) := by decide +kernel
theorem d17_39 : decode jdk_42_method_92_code 39 = .ok (.iload 4, 2) := by decide +kernel
theorem d17_41 : decode jdk_42_method_92_code 41 = .ok (.invokestatic 685, 3) := by decide +kernel
theorem d17_44 : decode jdk_42_method_92_code 44 = .ok (.goto 13, 3) := by decide +kernel
theorem d17_57 : decode jdk_42_method_92_code 57 = .ok (.areturn, 1) := by decide +kernel
theorem own_pn_rmSub2 : plainName "java/lang/String" = true := by first | (simp [plainName, overriddenIn]; done) | decide +kernel
theorem own_ef_rmSub2 (m : MethodId) (a1 : Addr) (p1 : Int32) (p2 : Int32) : entryFrame m #[(.ref a1), (.int p1), (.int p2)] 5 = (mkF m 0 #[.val (.ref a1), .val (.int p1), .val (.int p2), .unset, .unset] []) := by first | (simp [entryFrame, mkF, argsToLocals, Value.category]; done) | rfl
set_option maxRecDepth 65536 in
set_option maxHeartbeats 40000000 in
theorem rmSub2 (l : Launch) (Z : State) (a0 : Array Value) (hw : ∀ d ∈ tables_1, d.before a0 Z = true) (ws : List Jvm.Cond) (a1 : Addr) (cs : List Int32) (i : Nat) (p1 : Int32) (p2 : Int32) (G1 : Int32) (G3 : Value) (h0 : Heap) (n0 : Nat) (Z0 : n0 ≤ h0.size) (O2 : Sta Z Z.heap "java/lang/String" "COMPACT_STRINGS" "Z" (.int G1)) (P5 : ¬ (G1 = (0 : Int32))) (X00 : Old Z n0 h0) (O4 : Sta Z Z.heap "jdk/internal/util/Preconditions" "SIOOBE_FORMATTER" "Ljava/util/function/BiFunction;" G3) (rG3 : G3.isRef = true) (S1 : own_Str Z h0 a1 cs) (i1 : 1 ≤ i) (hi : i ≤ cs.length) (hcap : cs.length - i ≤ 16) (e1 : p1 = Int32.ofNat i) (e2 : p2 = Int32.ofNat cs.length) :
    MetFree l (⟨"java/lang/String", "substring", "(II)Ljava/lang/String;"⟩ : MethodName) (head1 (Jvm.Cond.code (⟨"java/lang/String", "substring", "(II)Ljava/lang/String;"⟩ : MethodName) jdk_42_method_92_code 5 (some (.object "java/lang/String")) :: ws) ({ frames := 4, cells := 2, slots := 20, locals := 110 } : Room)) (fun a U => a = #[(.ref a1), (.int p1), (.int p2)] ∧ Z.Warmed39 U.vm ∧ U.heap = h0 ∧ CHv Z EL U.vm h0) (fun _ _ _ _ _ => True) (fun _ U o U' => ∃ v L, o = .returned v ∧ QSub Z cs i h0 n0 v U'.heap L ∧ CHr Z EL U.vm U.heap U'.vm U'.heap ∧ ReturnedEndW U o U' L ({ frames := 4, cells := 2, slots := 20, locals := 110 } : Room).cells ({ frames := 4, cells := 2, slots := 20, locals := 110 } : Room).slots) := by
  refine MetFree.of_bodySF (plainFor_of_name own_pn_rmSub2) hisR ?_
  intro p e s m args below meth c s₁ Bd hml0 hP hK
  obtain ⟨hargs, hZ, hh, hC0⟩ := hP
  have hx := Bd.exec
  have hby := Bd.bytes
  have hml : c.maxLocals = 5 := hml0
  have hown : s.vm.findClass "java/lang/String" = some m.cls := findClass_of_methodNamed Bd.named
  have hnm := (name_of_methodNamed Bd.named Bd.method).1
  have hlock : meth.locks = false := Bd.notSynchronized
  have hret0 := Bd.returns
  have hZ : Z.Warmed39 (s.setVm s.vm).vm := hZ
  have hown : (s.setVm s.vm).vm.findClass "java/lang/String" = some m.cls := hown
  have hEL := own_EL hw
  have hwS := own_wS hw
  have C0 := CHr.refl hC0
  have X0 : Stand p l e ({ frames := 4, cells := 2, slots := 20, locals := 110 } : Room) (s.setVm s.vm) m args below meth c s₁ [] 0 0 := Stand.of_body Bd
  have e0 : s₁.heap = h0 := by rw [← hh, Bd.state]; rfl
  have N0 := Fr.nil n0
  have pre0 : ∀ t, Steps p.tables e below (s₁.setTop (mkF m 0 #[.val (.ref a1), .val (.int p1), .val (.int p2), .unset, .unset] [])) t → Steps p.tables e below (s₁.setTop (entryFrame m args 5)) t := fun t k => castTop (by rw [hargs]; exact own_ef_rmSub2 m a1 p1 p2) k
  have hS0 := (State.WarmedH.refl s).since 0
  clear Bd
  have hln : ∀ d ∈ StrChars.Road.wordsLen, d.before a0 Z = true := fun d hd => hw d ((by decide +kernel : ∀ d ∈ StrChars.Road.wordsLen, d ∈ tables_1) d hd)
  obtain ⟨s1, s2, s3, s4, t1, kb1, s5, s6⟩ := id S1
  obtain ⟨cq89, kq89, q89a, q89b, q89c⟩ := isOf hZ e0 s3
  obtain ⟨v89, vmx89, ⟨T89, L89, k89, n89⟩, -, X89, ⟨Lc89, hQ89, l89, y89, z89⟩, st89⟩ := X0.virtualBack hx (y := (⟨"java/lang/String", "length", "()I"⟩ : MethodName)) (z := (⟨"java/lang/String", "length", "()I"⟩ : MethodName)) hown (mvT hZ (hw _ (List.mem_of_getElem? (i := 87) rfl))) (mvT hZ (hw _ (List.mem_of_getElem? (i := 73) rfl))) (notFace_of_selects (args := #[]) (mvT hZ (hw _ (List.mem_of_getElem? (i := 75) rfl)))) (mvT hZ (hw _ (List.mem_of_getElem? (i := 75) rfl))) (mvT hZ (hw _ (List.mem_of_getElem? (i := 74) rfl))) (by decide) (StrChars.Road.lenW (W := 0) hZ hln (kI := 4) (hw _ (List.mem_of_getElem? (i := 2) rfl)) s3 s5 s4 s6 (StrChars.Road.codOf rfl (fun c hc => (s1 c hc).2)) (up _ s1) (O2.ext X00.2) P5 s2 (by decide) (by decide)) q89a q89c (g := (mkF m 1 #[.val (.ref a1), .val (.int p1), .val (.int p2), .unset, .unset] [(.ref a1)])) rfl (by rw [hml]; rfl) (Steps.refl _) (argsL := []) (rest := []) (lenOf own_pd6 rfl) rfl (by show 2 * 0 + _ ≤ _; exact Nat.le_of_eq rfl) (hb hby d17_1) (fun _ _ => ⟨rfl, e0, (by decide : 0 + 0 ≤ _), (by decide : 0 + 0 ≤ _)⟩)
  dsimp only [Pt.U, Pt.locs, Pt.cells, Pt.slots] at X89 l89 y89 z89 st89 hQ89
  subst l89 y89 z89
  obtain ⟨rfl, rfl, eh89⟩ := hQ89
  have Nq89 : Fr n0 ([] : List Loc) := Fr.nil n0
  have N89 := Fr.app N0 Nq89
  obtain ⟨v90, vmx90, ⟨T90, L90, k90, n90⟩, -, X90, ⟨Lc90, hQ90, l90, y90, z90⟩, st90⟩ := Jvm.LawKit.callS X89 hx (y := (⟨"java/lang/String", "checkBoundsBeginEnd", "(III)V"⟩ : MethodName)) hown (mvT hZ (hw _ (List.mem_of_getElem? (i := 93) rfl))) (mvT hZ (hw _ (List.mem_of_getElem? (i := 94) rfl))) (mvT hZ (hw _ (List.mem_of_getElem? (i := 3) rfl))) (mvT hZ (hw _ (List.mem_of_getElem? (i := 95) rfl))) (by decide) (backOf (W := 0) (rmCbe l Z a0 hw [] p1 p2 (Int32.ofNat cs.length) G3 h0 n0 Z0 O4 rG3 X00 (by rw [e1]; exact own_nn (by omega)) (by rw [e1, e2, own_lt (by omega) (by omega)]; omega) (by rw [e2]; exact fun q => Int32.lt_irrefl q)) hZ (hw _ (List.mem_of_getElem? (i := 95) rfl)) (hw _ (List.mem_of_getElem? (i := 3) rfl)) (by decide) (by decide)) (g := (mkF m 8 #[.val (.ref a1), .val (.int p1), .val (.int p2), .val (.int (Int32.ofNat cs.length)), .unset] [(.int (Int32.ofNat cs.length)), (.int p2), (.int p1)])) rfl (by rw [hml]; rfl) (argsL := [(.int p1), (.int p2), (.int (Int32.ofNat cs.length))]) (rest := []) (lenOf own_pd7 rfl) rfl (by show 2 * 0 + _ ≤ _; exact Nat.le_of_eq rfl) (hb hby d17_8) (fun _ _ => ⟨rfl, eh89, (by decide : 0 + 0 ≤ _), (by decide : 0 + 0 ≤ _)⟩)
  dsimp only [Pt.U, Pt.locs, Pt.cells, Pt.slots] at X90 l90 y90 z90 st90 hQ90
  subst l90 y90 z90
  obtain ⟨rfl, Nq90, eh90⟩ := hQ90
  have N90 := Fr.app N89 Nq90
  obtain ⟨cq91, kq91, q91a, q91b, q91c⟩ := isOf hZ eh90 s3
  obtain ⟨v91, vmx91, ⟨T91, L91, k91, n91⟩, -, X91, ⟨Lc91, hQ91, l91, y91, z91⟩, st91⟩ := X90.virtualBack hx (y := (⟨"java/lang/String", "isLatin1", "()Z"⟩ : MethodName)) (z := (⟨"java/lang/String", "isLatin1", "()Z"⟩ : MethodName)) hown (mvT hZ (hw _ (List.mem_of_getElem? (i := 101) rfl))) (mvT hZ (hw _ (List.mem_of_getElem? (i := 102) rfl))) (notFace_of_selects (args := #[]) (mvT hZ (hw _ (List.mem_of_getElem? (i := 104) rfl)))) (mvT hZ (hw _ (List.mem_of_getElem? (i := 104) rfl))) (mvT hZ (hw _ (List.mem_of_getElem? (i := 103) rfl))) (by decide) (backOf (W := 0) (rmIsL l Z a0 hw [] a1 G1 h0 n0 Z0 O2 P5 X00 s4) hZ (hw _ (List.mem_of_getElem? (i := 105) rfl)) (hw _ (List.mem_of_getElem? (i := 3) rfl)) (by decide) (by decide)) q91a q91c (g := (mkF m 28 #[.val (.ref a1), .val (.int p1), .val (.int p2), .val (.int (Int32.ofNat cs.length)), .val (.int (p2 - p1))] [(.ref a1)])) rfl (by rw [hml]; rfl) (Steps.refl _) (argsL := []) (rest := []) (lenOf own_pd8 rfl) rfl (by show 2 * 0 + _ ≤ _; exact Nat.le_of_eq rfl) (hb hby d17_28) (fun _ _ => ⟨rfl, eh90, (by decide : 0 + 0 ≤ _), (by decide : 0 + 0 ≤ _)⟩)
  dsimp only [Pt.U, Pt.locs, Pt.cells, Pt.slots] at X91 l91 y91 z91 st91 hQ91
  subst l91 y91 z91
  obtain ⟨rfl, Nq91, eh91⟩ := hQ91
  have N91 := Fr.app N90 Nq91
  obtain ⟨T92, X92, e92, st92⟩ := getF X91 hx hZ hown (host := "") (Or.inl (hw _ (List.mem_of_getElem? (i := 28) rfl))) Via.refl eh91 s5 (g := (mkF m 35 #[.val (.ref a1), .val (.int p1), .val (.int p2), .val (.int (Int32.ofNat cs.length)), .val (.int (p2 - p1))] [(.ref a1)])) rfl rfl (hb hby d17_35)
  obtain ⟨v93, vmx93, ⟨T93, L93, k93, n93⟩, -, Xq93, hSq93, hgr93, ⟨Lc93, hQ93, l93, y93, z93, CR93⟩, st93⟩ := callSS X92 hx (y := (⟨"java/lang/StringLatin1", "newString", "([BII)Ljava/lang/String;"⟩ : MethodName)) hown (mvT hZ (hw _ (List.mem_of_getElem? (i := 106) rfl))) (mvT hZ (hw _ (List.mem_of_getElem? (i := 107) rfl))) (mvT hZ (hw _ (List.mem_of_getElem? (i := 38) rfl))) (mvT hZ (hw _ (List.mem_of_getElem? (i := 108) rfl))) (by decide) (backOfSH (s := s) (vm0 := s.vm) (W := 0) (rmNS l Z a0 hw [] t1 kb1 cs i p1 (p2 - p1) h0 n0 Z0 s1 s6 s2 i1 hi hcap e1 (by rw [e1, e2]; exact own_subN hi (by omega))) hZ (hw _ (List.mem_of_getElem? (i := 108) rfl)) (hw _ (List.mem_of_getElem? (i := 38) rfl)) (by decide) (by decide) hEL C0.1) (g := (mkF m 41 #[.val (.ref a1), .val (.int p1), .val (.int p2), .val (.int (Int32.ofNat cs.length)), .val (.int (p2 - p1))] [(.int (p2 - p1)), (.int p1), (.ref t1)])) rfl (by rw [hml]; rfl) (argsL := [(.ref t1), (.int p1), (.int (p2 - p1))]) (rest := []) (lenOf own_pd9 rfl) rfl (by show 2 * 0 + _ ≤ _; exact Nat.le_of_eq rfl) (hb hby d17_41) (fun _ _ => ⟨rfl, e92, (by decide : 0 + 2 ≤ _), (by decide : 0 + 20 ≤ _)⟩)
  dsimp only [Pt.U, Pt.locs, Pt.cells, Pt.slots] at Xq93 hSq93 hgr93 l93 y93 z93 st93 hQ93 CR93
  subst l93 y93 z93
  obtain ⟨X93, hS93, hZ93, hown93⟩ := rebS (s := s) (vm0 := s.vm) hS0 (by rw [e92]; exact (Nat.zero_le _)) Xq93 hSq93 hgr93 hZ hown
  obtain ⟨b, rfl, Nq93, E93, SB⟩ := hQ93
  have N93 := Fr.app N91 Nq93
  have Z94 : n0 ≤ T93.heap.size := Nat.le_trans Z0 E93.1
  have K95 : Keep h0 T93.heap [] := (Keep.refl h0 []).ext E93
  have C96 := (C0.trans CR93)
  obtain ⟨fs, hr, hrun, hended, hW⟩ := Stand.leaveW (s := s) (vm₁ := T93.vm) X93 hS93 (by rw [show T93.heap = _ from rfl]; exact (Nat.le_refl _)) (v := some (.ref b)) (fun h => by rw [hret0] at h; cases h)
  refine ⟨_, _, pre0 _ ?_, hrun, hended, _, _, rfl, ?_, own_chr (T := T93) hh rfl (C96.trans (CHv.at (s := s) (vm0 := T93.vm) X93 hZ93 hEL C96.1)), own_wmono hW (by decide) (by decide)⟩
  · show Steps p.tables e below (s₁.setTop (mkF m 0 #[.val (.ref a1), .val (.int p1), .val (.int p2), .unset, .unset] [])) _
    refine XS.aloadN X0.here hx rfl (hb hby d17_0) rfl rfl ?_
    show Steps p.tables e below (s₁.setTop (mkF m 1 #[.val (.ref a1), .val (.int p1), .val (.int p2), .unset, .unset] [(.ref a1)])) _
    refine st89.trans ?_
    show Steps p.tables e below (T89.setTop (mkF m 4 #[.val (.ref a1), .val (.int p1), .val (.int p2), .unset, .unset] [(.int (Int32.ofNat cs.length))])) _
    refine XS.istoreN X89.here hx rfl (hb hby d17_4) rfl (l' := #[.val (.ref a1), .val (.int p1), .val (.int p2), .val (.int (Int32.ofNat cs.length)), .unset]) rfl ?_
    show Steps p.tables e below (T89.setTop (mkF m 5 #[.val (.ref a1), .val (.int p1), .val (.int p2), .val (.int (Int32.ofNat cs.length)), .unset] [])) _
    refine XS.iloadN X89.here hx rfl (hb hby d17_5) rfl ?_
    show Steps p.tables e below (T89.setTop (mkF m 6 #[.val (.ref a1), .val (.int p1), .val (.int p2), .val (.int (Int32.ofNat cs.length)), .unset] [(.int p1)])) _
    refine XS.iloadN X89.here hx rfl (hb hby d17_6) rfl ?_
    show Steps p.tables e below (T89.setTop (mkF m 7 #[.val (.ref a1), .val (.int p1), .val (.int p2), .val (.int (Int32.ofNat cs.length)), .unset] [(.int p2), (.int p1)])) _
    refine XS.iloadN X89.here hx rfl (hb hby d17_7) rfl ?_
    show Steps p.tables e below (T89.setTop (mkF m 8 #[.val (.ref a1), .val (.int p1), .val (.int p2), .val (.int (Int32.ofNat cs.length)), .unset] [(.int (Int32.ofNat cs.length)), (.int p2), (.int p1)])) _
    refine st90 _ ?_
    show Steps p.tables e below (T90.setTop (mkF m 11 #[.val (.ref a1), .val (.int p1), .val (.int p2), .val (.int (Int32.ofNat cs.length)), .unset] [])) _
    refine XS.iloadN X90.here hx rfl (hb hby d17_11) rfl ?_
    show Steps p.tables e below (T90.setTop (mkF m 12 #[.val (.ref a1), .val (.int p1), .val (.int p2), .val (.int (Int32.ofNat cs.length)), .unset] [(.int p1)])) _
    refine XS.ifYes X90.here hx rfl (pc0 := 12) (pc' := 22) rfl (hb hby d17_12) rfl ((if0 _ _).trans (feq (by rw [e1]; intro q; exact absurd ((own_eq (b := 0) (by omega) (by omega)).mp q) (by omega))).2) (by decide) (by decide) ?_
    show Steps p.tables e below (T90.setTop (mkF m 22 #[.val (.ref a1), .val (.int p1), .val (.int p2), .val (.int (Int32.ofNat cs.length)), .unset] [])) _
    refine XS.iloadN X90.here hx rfl (hb hby d17_22) rfl ?_
    show Steps p.tables e below (T90.setTop (mkF m 23 #[.val (.ref a1), .val (.int p1), .val (.int p2), .val (.int (Int32.ofNat cs.length)), .unset] [(.int p2)])) _
    refine XS.iloadN X90.here hx rfl (hb hby d17_23) rfl ?_
    show Steps p.tables e below (T90.setTop (mkF m 24 #[.val (.ref a1), .val (.int p1), .val (.int p2), .val (.int (Int32.ofNat cs.length)), .unset] [(.int p1), (.int p2)])) _
    refine XS.isub X90.here hx rfl (hb hby d17_24) rfl ?_
    show Steps p.tables e below (T90.setTop (mkF m 25 #[.val (.ref a1), .val (.int p1), .val (.int p2), .val (.int (Int32.ofNat cs.length)), .unset] [(.int (p2 - p1))])) _
    refine XS.istore X90.here hx rfl (hb hby d17_25) rfl (l' := #[.val (.ref a1), .val (.int p1), .val (.int p2), .val (.int (Int32.ofNat cs.length)), .val (.int (p2 - p1))]) rfl ?_
    show Steps p.tables e below (T90.setTop (mkF m 27 #[.val (.ref a1), .val (.int p1), .val (.int p2), .val (.int (Int32.ofNat cs.length)), .val (.int (p2 - p1))] [])) _
    refine XS.aloadN X90.here hx rfl (hb hby d17_27) rfl rfl ?_
    show Steps p.tables e below (T90.setTop (mkF m 28 #[.val (.ref a1), .val (.int p1), .val (.int p2), .val (.int (Int32.ofNat cs.length)), .val (.int (p2 - p1))] [(.ref a1)])) _
    refine st91.trans ?_
    show Steps p.tables e below (T91.setTop (mkF m 31 #[.val (.ref a1), .val (.int p1), .val (.int p2), .val (.int (Int32.ofNat cs.length)), .val (.int (p2 - p1))] [(.int (1 : Int32))])) _
    refine XS.ifNo X91.here hx rfl (hb hby d17_31) rfl ((if0 _ _).trans (feq (by decide)).1) ?_
    show Steps p.tables e below (T91.setTop (mkF m 34 #[.val (.ref a1), .val (.int p1), .val (.int p2), .val (.int (Int32.ofNat cs.length)), .val (.int (p2 - p1))] [])) _
    refine XS.aloadN X91.here hx rfl (hb hby d17_34) rfl rfl ?_
    show Steps p.tables e below (T91.setTop (mkF m 35 #[.val (.ref a1), .val (.int p1), .val (.int p2), .val (.int (Int32.ofNat cs.length)), .val (.int (p2 - p1))] [(.ref a1)])) _
    refine st92 _ ?_
    show Steps p.tables e below (T92.setTop (mkF m 38 #[.val (.ref a1), .val (.int p1), .val (.int p2), .val (.int (Int32.ofNat cs.length)), .val (.int (p2 - p1))] [(.ref t1)])) _
    refine XS.iloadN X92.here hx rfl (hb hby d17_38) rfl ?_
    show Steps p.tables e below (T92.setTop (mkF m 39 #[.val (.ref a1), .val (.int p1), .val (.int p2), .val (.int (Int32.ofNat cs.length)), .val (.int (p2 - p1))] [(.int p1), (.ref t1)])) _
    refine XS.iload X92.here hx rfl (hb hby d17_39) rfl ?_
    show Steps p.tables e below (T92.setTop (mkF m 41 #[.val (.ref a1), .val (.int p1), .val (.int p2), .val (.int (Int32.ofNat cs.length)), .val (.int (p2 - p1))] [(.int (p2 - p1)), (.int p1), (.ref t1)])) _
    refine st93.trans ?_
    show Steps p.tables e below (T93.setTop (mkF m 44 #[.val (.ref a1), .val (.int p1), .val (.int p2), .val (.int (Int32.ofNat cs.length)), .val (.int (p2 - p1))] [(.ref b)])) _
    refine XS.goto X93.here hx rfl (pc0 := 44) (pc' := 57) rfl (hb hby d17_44) (by decide) (by decide) ?_
    show Steps p.tables e below (T93.setTop (mkF m 57 #[.val (.ref a1), .val (.int p1), .val (.int p2), .val (.int (Int32.ofNat cs.length)), .val (.int (p2 - p1))] [(.ref b)])) _
    exact retR X93 hx hret0 rfl rfl rfl (hb hby d17_57) hr
  · show QSub Z cs i h0 n0 _ T93.heap _
    exact ⟨b, rfl, N93, own_ext K95, SB⟩
theorem d16_0 : decode jdk_42_method_91_code 0 = .ok (.aload_n 0, 1) := by decide +kernel
theorem d16_1 : decode jdk_42_method_91_code 1 = .ok (.iload_n 1, 1) := by decide +kernel
theorem d16_2 : decode jdk_42_method_91_code 2 = .ok (.aload_n 0, 1) := by decide +kernel
theorem d16_3 : decode jdk_42_method_91_code 3 = .ok (.invokevirtual 505, 3) := by decide +kernel
theorem d16_6 : decode jdk_42_method_91_code 6 = .ok (.invokevirtual 681, 3) := by decide +kernel
theorem d16_9 : decode jdk_42_method_91_code 9 = .ok (.areturn, 1) := by decide +kernel
theorem own_pn_rmSub1 : plainName "java/lang/String" = true := by first | (simp [plainName, overriddenIn]; done) | decide +kernel
theorem own_ef_rmSub1 (m : MethodId) (a1 : Addr) (p1 : Int32) : entryFrame m #[(.ref a1), (.int p1)] 2 = (mkF m 0 #[.val (.ref a1), .val (.int p1)] []) := by first | (simp [entryFrame, mkF, argsToLocals, Value.category]; done) | rfl
set_option maxRecDepth 65536 in
set_option maxHeartbeats 40000000 in
theorem rmSub1 (l : Launch) (Z : State) (a0 : Array Value) (hw : ∀ d ∈ tables_1, d.before a0 Z = true) (ws : List Jvm.Cond) (a1 : Addr) (cs : List Int32) (i : Nat) (p1 : Int32) (G1 : Int32) (G3 : Value) (h0 : Heap) (n0 : Nat) (Z0 : n0 ≤ h0.size) (O2 : Sta Z Z.heap "java/lang/String" "COMPACT_STRINGS" "Z" (.int G1)) (P5 : ¬ (G1 = (0 : Int32))) (X00 : Old Z n0 h0) (O4 : Sta Z Z.heap "jdk/internal/util/Preconditions" "SIOOBE_FORMATTER" "Ljava/util/function/BiFunction;" G3) (rG3 : G3.isRef = true) (S1 : own_Str Z h0 a1 cs) (i1 : 1 ≤ i) (hi : i ≤ cs.length) (hcap : cs.length - i ≤ 16) (e1 : p1 = Int32.ofNat i) :
    MetFree l (⟨"java/lang/String", "substring", "(I)Ljava/lang/String;"⟩ : MethodName) (head1 (Jvm.Cond.code (⟨"java/lang/String", "substring", "(I)Ljava/lang/String;"⟩ : MethodName) jdk_42_method_91_code 2 (some (.object "java/lang/String")) :: ws) ({ frames := 5, cells := 2, slots := 20, locals := 130 } : Room)) (fun a U => a = #[(.ref a1), (.int p1)] ∧ Z.Warmed39 U.vm ∧ U.heap = h0 ∧ CHv Z EL U.vm h0) (fun _ _ _ _ _ => True) (fun _ U o U' => ∃ v L, o = .returned v ∧ QSub Z cs i h0 n0 v U'.heap L ∧ CHr Z EL U.vm U.heap U'.vm U'.heap ∧ ReturnedEndW U o U' L ({ frames := 5, cells := 2, slots := 20, locals := 130 } : Room).cells ({ frames := 5, cells := 2, slots := 20, locals := 130 } : Room).slots) := by
  refine MetFree.of_bodySF (plainFor_of_name own_pn_rmSub1) hisR ?_
  intro p e s m args below meth c s₁ Bd hml0 hP hK
  obtain ⟨hargs, hZ, hh, hC0⟩ := hP
  have hx := Bd.exec
  have hby := Bd.bytes
  have hml : c.maxLocals = 2 := hml0
  have hown : s.vm.findClass "java/lang/String" = some m.cls := findClass_of_methodNamed Bd.named
  have hnm := (name_of_methodNamed Bd.named Bd.method).1
  have hlock : meth.locks = false := Bd.notSynchronized
  have hret0 := Bd.returns
  have hZ : Z.Warmed39 (s.setVm s.vm).vm := hZ
  have hown : (s.setVm s.vm).vm.findClass "java/lang/String" = some m.cls := hown
  have hEL := own_EL hw
  have hwS := own_wS hw
  have C0 := CHr.refl hC0
  have X0 : Stand p l e ({ frames := 5, cells := 2, slots := 20, locals := 130 } : Room) (s.setVm s.vm) m args below meth c s₁ [] 0 0 := Stand.of_body Bd
  have e0 : s₁.heap = h0 := by rw [← hh, Bd.state]; rfl
  have N0 := Fr.nil n0
  have pre0 : ∀ t, Steps p.tables e below (s₁.setTop (mkF m 0 #[.val (.ref a1), .val (.int p1)] [])) t → Steps p.tables e below (s₁.setTop (entryFrame m args 2)) t := fun t k => castTop (by rw [hargs]; exact own_ef_rmSub1 m a1 p1) k
  have hS0 := (State.WarmedH.refl s).since 0
  clear Bd
  have hln : ∀ d ∈ StrChars.Road.wordsLen, d.before a0 Z = true := fun d hd => hw d ((by decide +kernel : ∀ d ∈ StrChars.Road.wordsLen, d ∈ tables_1) d hd)
  obtain ⟨s1, s2, s3, s4, t1, kb1, s5, s6⟩ := id S1
  obtain ⟨cq97, kq97, q97a, q97b, q97c⟩ := isOf hZ e0 s3
  obtain ⟨v97, vmx97, ⟨T97, L97, k97, n97⟩, -, X97, ⟨Lc97, hQ97, l97, y97, z97⟩, st97⟩ := X0.virtualBack hx (y := (⟨"java/lang/String", "length", "()I"⟩ : MethodName)) (z := (⟨"java/lang/String", "length", "()I"⟩ : MethodName)) hown (mvT hZ (hw _ (List.mem_of_getElem? (i := 87) rfl))) (mvT hZ (hw _ (List.mem_of_getElem? (i := 73) rfl))) (notFace_of_selects (args := #[]) (mvT hZ (hw _ (List.mem_of_getElem? (i := 75) rfl)))) (mvT hZ (hw _ (List.mem_of_getElem? (i := 75) rfl))) (mvT hZ (hw _ (List.mem_of_getElem? (i := 74) rfl))) (by decide) (StrChars.Road.lenW (W := 2) hZ hln (kI := 4) (hw _ (List.mem_of_getElem? (i := 2) rfl)) s3 s5 s4 s6 (StrChars.Road.codOf rfl (fun c hc => (s1 c hc).2)) (up _ s1) (O2.ext X00.2) P5 s2 (by decide) (by decide)) q97a q97c (g := (mkF m 3 #[.val (.ref a1), .val (.int p1)] [(.ref a1), (.int p1), (.ref a1)])) rfl (by rw [hml]; rfl) (Steps.refl _) (argsL := []) (rest := [(.int p1), (.ref a1)]) (lenOf own_pd6 rfl) rfl (by show 2 * 0 + _ ≤ _; exact Nat.le_of_eq rfl) (hb hby d16_3) (fun _ _ => ⟨rfl, e0, (by decide : 0 + 0 ≤ _), (by decide : 0 + 0 ≤ _)⟩)
  dsimp only [Pt.U, Pt.locs, Pt.cells, Pt.slots] at X97 l97 y97 z97 st97 hQ97
  subst l97 y97 z97
  obtain ⟨rfl, rfl, eh97⟩ := hQ97
  have Nq97 : Fr n0 ([] : List Loc) := Fr.nil n0
  have N97 := Fr.app N0 Nq97
  obtain ⟨cq98, kq98, q98a, q98b, q98c⟩ := isOf hZ eh97 s3
  obtain ⟨v98, vmx98, ⟨T98, L98, k98, n98⟩, -, Xq98, hSq98, hgr98, ⟨Lc98, hQ98, l98, y98, z98, CR98⟩, st98⟩ := X97.virtualBackS hx (y := (⟨"java/lang/String", "substring", "(II)Ljava/lang/String;"⟩ : MethodName)) (z := (⟨"java/lang/String", "substring", "(II)Ljava/lang/String;"⟩ : MethodName)) hown (mvT hZ (hw _ (List.mem_of_getElem? (i := 88) rfl))) (mvT hZ (hw _ (List.mem_of_getElem? (i := 89) rfl))) (notFace_of_selects (args := #[]) (mvT hZ (hw _ (List.mem_of_getElem? (i := 91) rfl)))) (mvT hZ (hw _ (List.mem_of_getElem? (i := 91) rfl))) (mvT hZ (hw _ (List.mem_of_getElem? (i := 90) rfl))) (by decide) (backOfSH (s := s) (vm0 := s.vm) (W := 0) (rmSub2 l Z a0 hw [] a1 cs i p1 (Int32.ofNat cs.length) G1 G3 h0 n0 Z0 O2 P5 X00 O4 rG3 S1 i1 hi hcap e1 rfl) hZ (hw _ (List.mem_of_getElem? (i := 92) rfl)) (hw _ (List.mem_of_getElem? (i := 3) rfl)) (by decide) (by decide) hEL C0.1) q98a q98c (g := (mkF m 6 #[.val (.ref a1), .val (.int p1)] [(.int (Int32.ofNat cs.length)), (.int p1), (.ref a1)])) rfl (by rw [hml]; rfl) (Steps.refl _) (argsL := [(.int p1), (.int (Int32.ofNat cs.length))]) (rest := []) (lenOf own_pd10 rfl) rfl (by show 2 * 0 + _ ≤ _; exact Nat.le_of_eq rfl) (hb hby d16_6) (fun _ _ => ⟨rfl, eh97, (by decide : 0 + 2 ≤ _), (by decide : 0 + 20 ≤ _)⟩)
  dsimp only [Pt.U, Pt.locs, Pt.cells, Pt.slots] at Xq98 hSq98 hgr98 l98 y98 z98 st98 hQ98 CR98
  subst l98 y98 z98
  obtain ⟨X98, hS98, hZ98, hown98⟩ := rebS (s := s) (vm0 := s.vm) hS0 (by rw [eh97]; exact (Nat.zero_le _)) Xq98 hSq98 hgr98 hZ hown
  obtain ⟨b, rfl, Nq98, E98, SB⟩ := hQ98
  have N98 := Fr.app N97 Nq98
  have Z99 : n0 ≤ T98.heap.size := Nat.le_trans Z0 E98.1
  have K100 : Keep h0 T98.heap [] := (Keep.refl h0 []).ext E98
  have C101 := (C0.trans CR98)
  obtain ⟨fs, hr, hrun, hended, hW⟩ := Stand.leaveW (s := s) (vm₁ := T98.vm) X98 hS98 (by rw [show T98.heap = _ from rfl]; exact (Nat.le_refl _)) (v := some (.ref b)) (fun h => by rw [hret0] at h; cases h)
  refine ⟨_, _, pre0 _ ?_, hrun, hended, _, _, rfl, ?_, own_chr (T := T98) hh rfl (C101.trans (CHv.at (s := s) (vm0 := T98.vm) X98 hZ98 hEL C101.1)), own_wmono hW (by decide) (by decide)⟩
  · show Steps p.tables e below (s₁.setTop (mkF m 0 #[.val (.ref a1), .val (.int p1)] [])) _
    refine XS.aloadN X0.here hx rfl (hb hby d16_0) rfl rfl ?_
    show Steps p.tables e below (s₁.setTop (mkF m 1 #[.val (.ref a1), .val (.int p1)] [(.ref a1)])) _
    refine XS.iloadN X0.here hx rfl (hb hby d16_1) rfl ?_
    show Steps p.tables e below (s₁.setTop (mkF m 2 #[.val (.ref a1), .val (.int p1)] [(.int p1), (.ref a1)])) _
    refine XS.aloadN X0.here hx rfl (hb hby d16_2) rfl rfl ?_
    show Steps p.tables e below (s₁.setTop (mkF m 3 #[.val (.ref a1), .val (.int p1)] [(.ref a1), (.int p1), (.ref a1)])) _
    refine st97.trans ?_
    show Steps p.tables e below (T97.setTop (mkF m 6 #[.val (.ref a1), .val (.int p1)] [(.int (Int32.ofNat cs.length)), (.int p1), (.ref a1)])) _
    refine st98.trans ?_
    show Steps p.tables e below (T98.setTop (mkF m 9 #[.val (.ref a1), .val (.int p1)] [(.ref b)])) _
    exact retR X98 hx hret0 rfl rfl rfl (hb hby d16_9) hr
  · show QSub Z cs i h0 n0 _ T98.heap _
    exact ⟨b, rfl, N98, own_ext K100, SB⟩
theorem d8_0 : decode jdk_43_method_3_code 0 = .ok (.iload_n 0, 1) := by decide +kernel
theorem d8_1 : decode jdk_43_method_3_code 1 = .ok (.sipush 255, 3) := by decide +kernel
theorem d8_4 : decode jdk_43_method_3_code 4 = .ok (.if_icmp .gt 7, 3) := by decide +kernel
theorem d8_7 : decode jdk_43_method_3_code 7 = .ok (.iconst 1, 1) := by decide +kernel
theorem d8_8 : decode jdk_43_method_3_code 8 = .ok (.goto 4, 3) := by decide +kernel
theorem d8_12 : decode jdk_43_method_3_code 12 = .ok (.ireturn, 1) := by decide +kernel
def QCan (h0 : Heap) (n0 : Nat) (v : Option Value) (h : Heap) (L : List Loc) : Prop := v = some (.int 1) ∧ Fr n0 L ∧ h = h0
theorem own_pn_rmCan : plainName "java/lang/StringLatin1" = true := by first | (simp [plainName, overriddenIn]; done) | decide +kernel
theorem own_ef_rmCan (m : MethodId) (p0 : Int32) : entryFrame m #[(.int p0)] 1 = (mkF m 0 #[.val (.int p0)] []) := by first | (simp [entryFrame, mkF, argsToLocals, Value.category]; done) | rfl
set_option maxRecDepth 65536 in
set_option maxHeartbeats 40000000 in
theorem rmCan (l : Launch) (Z : State) (a0 : Array Value) (hw : ∀ d ∈ tables_1, d.before a0 Z = true) (ws : List Jvm.Cond) (p0 : Int32) (h0 : Heap) (n0 : Nat) (Z0 : n0 ≤ h0.size) (q1 : ¬ (255 : Int32) < p0) :
    MetFree l (⟨"java/lang/StringLatin1", "canEncode", "(C)Z"⟩ : MethodName) (head1 (Jvm.Cond.code (⟨"java/lang/StringLatin1", "canEncode", "(C)Z"⟩ : MethodName) jdk_43_method_3_code 1 (some .boolean) :: ws) ({ frames := 0, cells := 0, slots := 0, locals := 0 } : Room)) (fun a U => a = #[(.int p0)] ∧ Z.Warmed39 U.vm ∧ U.heap = h0) (fun _ _ _ _ _ => True) (fun _ U o U' => ∃ v L, o = .returned v ∧ QCan h0 n0 v U'.heap L ∧ FrameEnd U o U' L ({ frames := 0, cells := 0, slots := 0, locals := 0 } : Room).cells ({ frames := 0, cells := 0, slots := 0, locals := 0 } : Room).slots) := by
  refine MetFree.of_bodySF (plainFor_of_name own_pn_rmCan) hisR ?_
  intro p e s m args below meth c s₁ Bd hml0 hP hK
  obtain ⟨hargs, hZ, hh⟩ := hP
  have hx := Bd.exec
  have hby := Bd.bytes
  have hml : c.maxLocals = 1 := hml0
  have hown : s.vm.findClass "java/lang/StringLatin1" = some m.cls := findClass_of_methodNamed Bd.named
  have hnm := (name_of_methodNamed Bd.named Bd.method).1
  have hlock : meth.locks = false := Bd.notSynchronized
  have hret0 := Bd.returns
  have X0 : Stand p l e ({ frames := 0, cells := 0, slots := 0, locals := 0 } : Room) s m args below meth c s₁ [] 0 0 := Stand.of_body Bd
  have e0 : s₁.heap = h0 := by rw [← hh, Bd.state]; rfl
  have N0 := Fr.nil n0
  have pre0 : ∀ t, Steps p.tables e below (s₁.setTop (mkF m 0 #[.val (.int p0)] [])) t → Steps p.tables e below (s₁.setTop (entryFrame m args 1)) t := fun t k => castTop (by rw [hargs]; exact own_ef_rmCan m p0) k
  clear Bd
  obtain ⟨fs, hr, hrun, hended, hW, hsame⟩ := X0.leave (v := some (.int (1 : Int32))) (fun h => by rw [hret0] at h; cases h)
  refine ⟨_, _, pre0 _ ?_, hrun, hended, _, _, rfl, ?_, ⟨_, rfl⟩, hW, hsame.mono (by decide) (by decide)⟩
  · show Steps p.tables e below (s₁.setTop (mkF m 0 #[.val (.int p0)] [])) _
    refine XS.iloadN X0.here hx rfl (hb hby d8_0) rfl ?_
    show Steps p.tables e below (s₁.setTop (mkF m 1 #[.val (.int p0)] [(.int p0)])) _
    refine XS.sipush X0.here hx rfl (hb hby d8_1) ?_
    show Steps p.tables e below (s₁.setTop (mkF m 4 #[.val (.int p0)] [(.int (255 : Int32)), (.int p0)])) _
    refine XS.icmpNo X0.here hx rfl (hb hby d8_4) rfl (flt q1).2.2.1 ?_
    show Steps p.tables e below (s₁.setTop (mkF m 7 #[.val (.int p0)] [])) _
    refine XS.iconst X0.here hx rfl (hb hby d8_7) ?_
    show Steps p.tables e below (s₁.setTop (mkF m 8 #[.val (.int p0)] [(.int (1 : Int32))])) _
    refine XS.goto X0.here hx rfl (pc0 := 8) (pc' := 12) rfl (hb hby d8_8) (by decide) (by decide) ?_
    show Steps p.tables e below (s₁.setTop (mkF m 12 #[.val (.int p0)] [(.int (1 : Int32))])) _
    exact retN X0 hx (t := .boolean) hret0 (by simp) (hb hby d8_12) hr
  · show QCan h0 n0 _ s₁.heap _
    rw [e0]
    exact ⟨rfl, N0, rfl⟩
theorem d9_0 : decode jdk_43_method_46_code 0 = .ok (.iconst 1, 1) := by decide +kernel
theorem d9_1 : decode jdk_43_method_46_code 1 = .ok (.newarray .byte, 2) := by decide +kernel
theorem d9_3 : decode jdk_43_method_46_code 3 = .ok (.dup, 1) := by decide +kernel
theorem d9_4 : decode jdk_43_method_46_code 4 = .ok (.iconst 0, 1) := by decide +kernel
theorem d9_5 : decode jdk_43_method_46_code 5 = .ok (.iload_n 0, 1) := by decide +kernel
theorem d9_6 : decode jdk_43_method_46_code 6 = .ok (.i2b, 1) := by decide +kernel
theorem d9_7 : decode jdk_43_method_46_code 7 = .ok (.bastore, 1) := by decide +kernel
theorem d9_8 : decode jdk_43_method_46_code 8 = .ok (.areturn, 1) := by decide +kernel
def QTob (Z : State) (p0 : Int32) (h0 : Heap) (n0 : Nat) (v : Option Value) (h : Heap) (L : List Loc) : Prop := ∃ (b : Addr) (kb : ClassId), v = some (.ref b) ∧ Fr n0 L ∧ Ext h0 h ∧ h0.size ≤ b ∧ Arv Z h b kb .byte (Int32.ofNat 1) (own_by [p0]) (.int 0)
theorem own_nb8 (x : Int32) : nar .byte (x.toInt8.toInt32) = x.toInt8.toInt32 := by simp [nar]
theorem own_pn_rmTob : plainName "java/lang/StringLatin1" = true := by first | (simp [plainName, overriddenIn]; done) | decide +kernel
theorem own_ef_rmTob (m : MethodId) (p0 : Int32) : entryFrame m #[(.int p0)] 1 = (mkF m 0 #[.val (.int p0)] []) := by first | (simp [entryFrame, mkF, argsToLocals, Value.category]; done) | rfl
set_option maxRecDepth 65536 in
set_option maxHeartbeats 40000000 in
theorem rmTob (l : Launch) (Z : State) (a0 : Array Value) (hw : ∀ d ∈ tables_1, d.before a0 Z = true) (ws : List Jvm.Cond) (p0 : Int32) (h0 : Heap) (n0 : Nat) (Z0 : n0 ≤ h0.size) :
    MetFree l (⟨"java/lang/StringLatin1", "toBytes", "(C)[B"⟩ : MethodName) (head1 (Jvm.Cond.code (⟨"java/lang/StringLatin1", "toBytes", "(C)[B"⟩ : MethodName) jdk_43_method_46_code 1 (some (.array .byte)) :: ws) ({ frames := 0, cells := 1, slots := 1, locals := 0 } : Room)) (fun a U => a = #[(.int p0)] ∧ Z.Warmed39 U.vm ∧ U.heap = h0) (fun _ _ _ _ _ => True) (fun _ U o U' => ∃ v L, o = .returned v ∧ QTob Z p0 h0 n0 v U'.heap L ∧ FrameEnd U o U' L ({ frames := 0, cells := 1, slots := 1, locals := 0 } : Room).cells ({ frames := 0, cells := 1, slots := 1, locals := 0 } : Room).slots) := by
  refine MetFree.of_bodySF (plainFor_of_name own_pn_rmTob) hisR ?_
  intro p e s m args below meth c s₁ Bd hml0 hP hK
  obtain ⟨hargs, hZ, hh⟩ := hP
  have hx := Bd.exec
  have hby := Bd.bytes
  have hml : c.maxLocals = 1 := hml0
  have hown : s.vm.findClass "java/lang/StringLatin1" = some m.cls := findClass_of_methodNamed Bd.named
  have hnm := (name_of_methodNamed Bd.named Bd.method).1
  have hlock : meth.locks = false := Bd.notSynchronized
  have hret0 := Bd.returns
  have X0 : Stand p l e ({ frames := 0, cells := 1, slots := 1, locals := 0 } : Room) s m args below meth c s₁ [] 0 0 := Stand.of_body Bd
  have e0 : s₁.heap = h0 := by rw [← hh, Bd.state]; rfl
  have N0 := Fr.nil n0
  have pre0 : ∀ t, Steps p.tables e below (s₁.setTop (mkF m 0 #[.val (.int p0)] [])) t → Steps p.tables e below (s₁.setTop (entryFrame m args 1)) t := fun t k => castTop (by rw [hargs]; exact own_ef_rmTob m p0) k
  clear Bd
  obtain ⟨T102, h102, k102, X102, e102, E102, A102, st102⟩ := newP X0 hx hZ (hw _ (List.mem_of_getElem? (i := 19) rfl)) e0 (g := (mkF m 1 #[.val (.int p0)] [(.int (1 : Int32))])) rfl (hb hby d9_1) rfl (by decide) (cap := 1) (by decide) (by decide) (by decide) (by decide)
  obtain ⟨b102, g102⟩ : ∃ z, z = h0.size := ⟨_, rfl⟩
  rw [← g102] at A102 st102
  have ge_b102 : n0 ≤ b102 := Nat.le_trans Z0 (Nat.le_of_eq g102.symm)
  have sz_b102 : h0.size ≤ b102 := Nat.le_trans (Keep.refl h0 []).1 (Nat.le_of_eq g102.symm)
  have Z103 : n0 ≤ h102.size := Nat.le_trans Z0 E102.1
  have K104 : Keep h0 h102 [] := (Keep.refl h0 []).ext E102
  have V102 : Arv Z h102 b102 k102 .byte (1 : Int32) [(.int (0 : Int32))] (.int (0 : Int32)) := (Arv.new A102 (by decide)).pad (pad_rep [] (.int (0 : Int32)) 1)
  obtain ⟨cl105, Ar105, q105, S105, M105, Hs105, G105⟩ := id V102
  obtain ⟨T105, h105, X105, e105, W105, st105⟩ := stB X102 hx hZ e102 Ar105 (j := (0 : Int32)) (inb_of S105 ⟨(by decide), (by decide)⟩) (g := (mkF m 7 #[.val (.int p0)] [(.int (p0.toInt8.toInt32)), (.int (0 : Int32)), (.ref b102), (.ref b102)])) rfl rfl (hb hby d9_7)
  have Z106 : n0 ≤ h105.size := Nat.le_trans Z103 (Keep.of_wr W105).1
  have K107 : Keep h0 h105 [] := K104.wr W105 (Or.inr sz_b102)
  have N105 := Fr.snoc X105 N0 ge_b102
  have V105 : Arv Z h105 b102 k102 .byte (1 : Int32) [(.int (nar .byte (p0.toInt8.toInt32)))] (.int (0 : Int32)) := Arv.set Ar105 q105 S105 M105 Hs105 G105 (fits_nar_byte _) W105 0 rfl (Nat.le_of_ble_eq_true rfl)
  obtain ⟨fs, hr, hrun, hended, hW, hsame⟩ := X105.leave (v := some (.ref b102)) (fun h => by rw [hret0] at h; cases h)
  refine ⟨_, _, pre0 _ ?_, hrun, hended, _, _, rfl, ?_, ⟨_, rfl⟩, hW, hsame.mono (by decide) (by decide)⟩
  · show Steps p.tables e below (s₁.setTop (mkF m 0 #[.val (.int p0)] [])) _
    refine XS.iconst X0.here hx rfl (hb hby d9_0) ?_
    show Steps p.tables e below (s₁.setTop (mkF m 1 #[.val (.int p0)] [(.int (1 : Int32))])) _
    refine st102 _ ?_
    show Steps p.tables e below (T102.setTop (mkF m 3 #[.val (.int p0)] [(.ref b102)])) _
    refine XS.dup X102.here hx rfl (hb hby d9_3) rfl rfl ?_
    show Steps p.tables e below (T102.setTop (mkF m 4 #[.val (.int p0)] [(.ref b102), (.ref b102)])) _
    refine XS.iconst X102.here hx rfl (hb hby d9_4) ?_
    show Steps p.tables e below (T102.setTop (mkF m 5 #[.val (.int p0)] [(.int (0 : Int32)), (.ref b102), (.ref b102)])) _
    refine XS.iloadN X102.here hx rfl (hb hby d9_5) rfl ?_
    show Steps p.tables e below (T102.setTop (mkF m 6 #[.val (.int p0)] [(.int p0), (.int (0 : Int32)), (.ref b102), (.ref b102)])) _
    refine XS.i2b X102.here hx rfl (hb hby d9_6) rfl ?_
    show Steps p.tables e below (T102.setTop (mkF m 7 #[.val (.int p0)] [(.int (p0.toInt8.toInt32)), (.int (0 : Int32)), (.ref b102), (.ref b102)])) _
    refine st105 _ ?_
    show Steps p.tables e below (T105.setTop (mkF m 8 #[.val (.int p0)] [(.ref b102)])) _
    exact retR X105 hx hret0 rfl rfl rfl (hb hby d9_8) hr
  · show QTob Z p0 h0 n0 _ T105.heap _
    rw [e105]
    exact ⟨b102, k102, rfl, N105, own_ext K107, sz_b102, by have q := V105; rw [own_nb8] at q; exact q⟩
theorem d7_0 : decode jdk_42_method_139_code 0 = .ok (.getstatic 38, 3) := by decide +kernel
theorem d7_3 : decode jdk_42_method_139_code 3 = .ok (.ifCond .eq 23, 3) := by decide +kernel
theorem d7_6 : decode jdk_42_method_139_code 6 = .ok (.iload_n 0, 1) := by decide +kernel
theorem d7_7 : decode jdk_42_method_139_code 7 = .ok (.invokestatic 1015, 3) := by decide +kernel
theorem d7_10 : decode jdk_42_method_139_code 10 = .ok (.ifCond .eq 16, 3) := by decide +kernel
theorem d7_13 : decode jdk_42_method_139_code 13 = .ok (.new 10, 3) := by decide +kernel
theorem d7_16 : decode jdk_42_method_139_code 16 = .ok (.dup, 1) := by decide +kernel
theorem d7_17 : decode jdk_42_method_139_code 17 = .ok (.iload_n 0, 1) := by decide +kernel
theorem d7_18 : decode jdk_42_method_139_code 18 = .ok (.invokestatic 1018, 3) := by decide +kernel
theorem d7_21 : decode jdk_42_method_139_code 21 = .ok (.iconst 0, 1) := by decide +kernel
theorem d7_22 : decode jdk_42_method_139_code 22 = .ok (.invokespecial 209, 3) := by decide +kernel
theorem d7_25 : decode jdk_42_method_139_code 25 = .ok (.areturn, 1) := by decide +kernel
def QVal (Z : State) (p0 : Int32) (h0 : Heap) (n0 : Nat) (v : Option Value) (h : Heap) (L : List Loc) : Prop := ∃ b : Addr, v = some (.ref b) ∧ Fr n0 L ∧ Ext h0 h ∧ own_Str Z h b [p0]
theorem own_pn_rmVal : plainName "java/lang/String" = true := by first | (simp [plainName, overriddenIn]; done) | decide +kernel
theorem own_ef_rmVal (m : MethodId) (p0 : Int32) : entryFrame m #[(.int p0)] 1 = (mkF m 0 #[.val (.int p0)] []) := by first | (simp [entryFrame, mkF, argsToLocals, Value.category]; done) | rfl
set_option maxRecDepth 65536 in
set_option maxHeartbeats 40000000 in
theorem rmVal (l : Launch) (Z : State) (a0 : Array Value) (hw : ∀ d ∈ tables_1, d.before a0 Z = true) (ws : List Jvm.Cond) (p0 : Int32) (G1 : Int32) (h0 : Heap) (n0 : Nat) (Z0 : n0 ≤ h0.size) (O2 : Sta Z Z.heap "java/lang/String" "COMPACT_STRINGS" "Z" (.int G1)) (P5 : ¬ (G1 = (0 : Int32))) (X00 : Old Z n0 h0) (hB : ¬ p0 < 0 ∧ ¬ (255 : Int32) < p0) :
    MetFree l (⟨"java/lang/String", "valueOf", "(C)Ljava/lang/String;"⟩ : MethodName) (head1 (Jvm.Cond.code (⟨"java/lang/String", "valueOf", "(C)Ljava/lang/String;"⟩ : MethodName) jdk_42_method_139_code 1 (some (.object "java/lang/String")) :: ws) ({ frames := 2, cells := 2, slots := 5, locals := 30 } : Room)) (fun a U => a = #[(.int p0)] ∧ Z.Warmed39 U.vm ∧ U.heap = h0) (fun _ _ _ _ _ => True) (fun _ U o U' => ∃ v L, o = .returned v ∧ QVal Z p0 h0 n0 v U'.heap L ∧ FrameEnd U o U' L ({ frames := 2, cells := 2, slots := 5, locals := 30 } : Room).cells ({ frames := 2, cells := 2, slots := 5, locals := 30 } : Room).slots) := by
  refine MetFree.of_bodySF (plainFor_of_name own_pn_rmVal) hisR ?_
  intro p e s m args below meth c s₁ Bd hml0 hP hK
  obtain ⟨hargs, hZ, hh⟩ := hP
  have hx := Bd.exec
  have hby := Bd.bytes
  have hml : c.maxLocals = 1 := hml0
  have hown : s.vm.findClass "java/lang/String" = some m.cls := findClass_of_methodNamed Bd.named
  have hnm := (name_of_methodNamed Bd.named Bd.method).1
  have hlock : meth.locks = false := Bd.notSynchronized
  have hret0 := Bd.returns
  have X0 : Stand p l e ({ frames := 2, cells := 2, slots := 5, locals := 30 } : Room) s m args below meth c s₁ [] 0 0 := Stand.of_body Bd
  have e0 : s₁.heap = h0 := by rw [← hh, Bd.state]; rfl
  have N0 := Fr.nil n0
  have pre0 : ∀ t, Steps p.tables e below (s₁.setTop (mkF m 0 #[.val (.int p0)] [])) t → Steps p.tables e below (s₁.setTop (entryFrame m args 1)) t := fun t k => castTop (by rw [hargs]; exact own_ef_rmVal m p0) k
  clear Bd
  obtain ⟨T108, X108, e108, st108⟩ := getS2 X0 hx hZ hown (host := "") (Or.inl (hw _ (List.mem_of_getElem? (i := 14) rfl))) Via.refl e0 (O2.ext X00.2) (g := (mkF m 0 #[.val (.int p0)] [])) rfl (hb hby d7_0)
  obtain ⟨v109, vmx109, ⟨T109, L109, k109, n109⟩, -, X109, ⟨Lc109, hQ109, l109, y109, z109⟩, st109⟩ := Jvm.LawKit.callS X108 hx (y := (⟨"java/lang/StringLatin1", "canEncode", "(C)Z"⟩ : MethodName)) hown (mvT hZ (hw _ (List.mem_of_getElem? (i := 36) rfl))) (mvT hZ (hw _ (List.mem_of_getElem? (i := 37) rfl))) (mvT hZ (hw _ (List.mem_of_getElem? (i := 38) rfl))) (mvT hZ (hw _ (List.mem_of_getElem? (i := 39) rfl))) (by decide) (backOf (W := 0) (rmCan l Z a0 hw [] p0 h0 n0 Z0 hB.2) hZ (hw _ (List.mem_of_getElem? (i := 39) rfl)) (hw _ (List.mem_of_getElem? (i := 38) rfl)) (by decide) (by decide)) (g := (mkF m 7 #[.val (.int p0)] [(.int p0)])) rfl (by rw [hml]; rfl) (argsL := [(.int p0)]) (rest := []) (lenOf own_pd11 rfl) rfl (by show 2 * 0 + _ ≤ _; exact Nat.le_of_eq rfl) (hb hby d7_7) (fun _ _ => ⟨rfl, e108, (by decide : 0 + 0 ≤ _), (by decide : 0 + 0 ≤ _)⟩)
  dsimp only [Pt.U, Pt.locs, Pt.cells, Pt.slots] at X109 l109 y109 z109 st109 hQ109
  subst l109 y109 z109
  obtain ⟨rfl, Nq109, eh109⟩ := hQ109
  have N109 := Fr.app N0 Nq109
  obtain ⟨T110, h110, X110, e110, E110, A110, D110, -, st110⟩ := newO X109 hx hZ hown (hw _ (List.mem_of_getElem? (i := 40) rfl)) (hw _ (List.mem_of_getElem? (i := 2) rfl)) (hw _ (List.mem_of_getElem? (i := 3) rfl)) eh109 (g := (mkF m 13 #[.val (.int p0)] [])) rfl (hb hby d7_13) (by decide) (by decide)
  obtain ⟨b110, g110⟩ : ∃ z, z = h0.size := ⟨_, rfl⟩
  rw [← g110] at A110 D110 st110
  have ge_b110 : n0 ≤ b110 := Nat.le_trans Z0 (Nat.le_of_eq g110.symm)
  have sz_b110 : h0.size ≤ b110 := Nat.le_trans (Keep.refl h0 []).1 (Nat.le_of_eq g110.symm)
  have Z111 : n0 ≤ h110.size := Nat.le_trans Z0 E110.1
  have K112 : Keep h0 h110 [] := (Keep.refl h0 []).ext E110
  obtain ⟨v113, vmx113, ⟨T113, L113, k113, n113⟩, -, X113, ⟨Lc113, hQ113, l113, y113, z113⟩, st113⟩ := Jvm.LawKit.callS X110 hx (y := (⟨"java/lang/StringLatin1", "toBytes", "(C)[B"⟩ : MethodName)) hown (mvT hZ (hw _ (List.mem_of_getElem? (i := 41) rfl))) (mvT hZ (hw _ (List.mem_of_getElem? (i := 42) rfl))) (mvT hZ (hw _ (List.mem_of_getElem? (i := 38) rfl))) (mvT hZ (hw _ (List.mem_of_getElem? (i := 43) rfl))) (by decide) (backOf (W := 2) (rmTob l Z a0 hw [] p0 h110 n0 Z111) hZ (hw _ (List.mem_of_getElem? (i := 43) rfl)) (hw _ (List.mem_of_getElem? (i := 38) rfl)) (by decide) (by decide)) (g := (mkF m 18 #[.val (.int p0)] [(.int p0), (.ref b110), (.ref b110)])) rfl (by rw [hml]; rfl) (argsL := [(.int p0)]) (rest := [(.ref b110), (.ref b110)]) (lenOf own_pd12 rfl) rfl (by show 2 * 0 + _ ≤ _; exact Nat.le_of_eq rfl) (hb hby d7_18) (fun _ _ => ⟨rfl, e110, (by decide : 1 + 1 ≤ _), (by decide : 4 + 1 ≤ _)⟩)
  dsimp only [Pt.U, Pt.locs, Pt.cells, Pt.slots] at X113 l113 y113 z113 st113 hQ113
  subst l113 y113 z113
  obtain ⟨b, kb, rfl, Nq113, E113, szb, VB113⟩ := hQ113
  have N113 := Fr.app N109 Nq113
  have Z114 : n0 ≤ T113.heap.size := Nat.le_trans Z111 E113.1
  have K115 : Keep h0 T113.heap [] := K112.ext E113
  have f116 := (A110.ext E113)
  have f117 := ((D110 (Or.inr (hw _ (List.mem_of_getElem? (i := 29) rfl))) (ty := (.array .byte)) (by decide)).ext E113)
  have f118 := ((D110 (Or.inr (hw _ (List.mem_of_getElem? (i := 27) rfl))) (ty := .byte) (by decide)).ext E113)
  have nbx : b ≠ b110 := Nat.ne_of_gt (Nat.lt_of_lt_of_le A110.lt szb)
  obtain ⟨v119, vmx119, ⟨T119, L119, k119, n119⟩, -, X119, ⟨Lc119, hQ119, l119, y119, z119⟩, st119⟩ := X113.specialBack hx (y := (⟨"java/lang/String", "<init>", "([BB)V"⟩ : MethodName)) rfl hown (mvT hZ (hw _ (List.mem_of_getElem? (i := 44) rfl))) (mvT hZ (hw _ (List.mem_of_getElem? (i := 45) rfl))) (mvT hZ (hw _ (List.mem_of_getElem? (i := 46) rfl))) (by decide) (backOf (W := 1) (rmBB l Z a0 hw [] b110 b _ _ T113.heap n0 Z114 f116 f117 f118 ge_b110) hZ (hw _ (List.mem_of_getElem? (i := 46) rfl)) (hw _ (List.mem_of_getElem? (i := 3) rfl)) (by decide) (by decide)) (g := (mkF m 22 #[.val (.int p0)] [(.int (0 : Int32)), (.ref b), (.ref b110), (.ref b110)])) rfl (by rw [hml]; rfl) (Steps.refl _) (a := b110) (argsL := [(.ref b), (.int (0 : Int32))]) (rest := [(.ref b110)]) (lenOf own_pd5 rfl) rfl (by show 2 * 0 + _ ≤ _; exact Nat.le_of_eq rfl) (hb hby d7_22) (fun _ _ => ⟨rfl, rfl, (by decide : 2 + 0 ≤ _), (by decide : 5 + 0 ≤ _)⟩)
  dsimp only [Pt.U, Pt.locs, Pt.cells, Pt.slots] at X119 l119 y119 z119 st119 hQ119
  subst l119 y119 z119
  obtain ⟨rfl, Nq119, K119, g1, g2, g3⟩ := hQ119
  have N119 := Fr.app N113 Nq119
  have Z120 : n0 ≤ T119.heap.size := Nat.le_trans Z114 K119.1
  have K121 : Keep h0 T119.heap [] := K115.trans K119 (allS (Or.inr sz_b110) all0)
  have f122 := (VB113.keep K119 (ninS nbx nin0))
  obtain ⟨fs, hr, hrun, hended, hW, hsame⟩ := X119.leave (v := some (.ref b110)) (fun h => by rw [hret0] at h; cases h)
  refine ⟨_, _, pre0 _ ?_, hrun, hended, _, _, rfl, ?_, ⟨_, rfl⟩, hW, hsame.mono (by decide) (by decide)⟩
  · show Steps p.tables e below (s₁.setTop (mkF m 0 #[.val (.int p0)] [])) _
    refine st108 _ ?_
    show Steps p.tables e below (T108.setTop (mkF m 3 #[.val (.int p0)] [(.int G1)])) _
    refine XS.ifNo X108.here hx rfl (hb hby d7_3) rfl ((if0 _ _).trans (feq P5).1) ?_
    show Steps p.tables e below (T108.setTop (mkF m 6 #[.val (.int p0)] [])) _
    refine XS.iloadN X108.here hx rfl (hb hby d7_6) rfl ?_
    show Steps p.tables e below (T108.setTop (mkF m 7 #[.val (.int p0)] [(.int p0)])) _
    refine st109 _ ?_
    show Steps p.tables e below (T109.setTop (mkF m 10 #[.val (.int p0)] [(.int (1 : Int32))])) _
    refine XS.ifNo X109.here hx rfl (hb hby d7_10) rfl ((if0 _ _).trans (feq (by decide)).1) ?_
    show Steps p.tables e below (T109.setTop (mkF m 13 #[.val (.int p0)] [])) _
    refine st110 _ ?_
    show Steps p.tables e below (T110.setTop (mkF m 16 #[.val (.int p0)] [(.ref b110)])) _
    refine XS.dup X110.here hx rfl (hb hby d7_16) rfl rfl ?_
    show Steps p.tables e below (T110.setTop (mkF m 17 #[.val (.int p0)] [(.ref b110), (.ref b110)])) _
    refine XS.iloadN X110.here hx rfl (hb hby d7_17) rfl ?_
    show Steps p.tables e below (T110.setTop (mkF m 18 #[.val (.int p0)] [(.int p0), (.ref b110), (.ref b110)])) _
    refine st113 _ ?_
    show Steps p.tables e below (T113.setTop (mkF m 21 #[.val (.int p0)] [(.ref b), (.ref b110), (.ref b110)])) _
    refine XS.iconst X113.here hx rfl (hb hby d7_21) ?_
    show Steps p.tables e below (T113.setTop (mkF m 22 #[.val (.int p0)] [(.int (0 : Int32)), (.ref b), (.ref b110), (.ref b110)])) _
    refine st119.trans ?_
    show Steps p.tables e below (T119.setTop (mkF m 25 #[.val (.int p0)] [(.ref b110)])) _
    exact retR X119 hx hret0 rfl rfl rfl (hb hby d7_25) hr
  · show QVal Z p0 h0 n0 _ T119.heap _
    exact ⟨b110, rfl, N119, own_ext K121, fun c q => by rw [List.mem_singleton.mp q]; exact hB, Nat.le_of_ble_eq_true rfl, g1, g2, b, kb, g3, f122⟩
theorem d12_0 : decode jdk_30_method_1_code 0 = .ok (.aload_n 0, 1) := by decide +kernel
theorem d12_1 : decode jdk_30_method_1_code 1 = .ok (.invokespecial 1, 3) := by decide +kernel
theorem d12_4 : decode jdk_30_method_1_code 4 = .ok (.return_, 1) := by decide +kernel
def Qrm12 (h0 : Heap) (n0 : Nat) (v : Option Value) (h : Heap) (L : List Loc) : Prop := v = none ∧ Fr n0 L ∧ h = h0
theorem own_pn_rm12 : plainName "java/lang/Record" = true := by first | (simp [plainName, overriddenIn]; done) | decide +kernel
theorem own_ef_rm12 (m : MethodId) (a1 : Addr) : entryFrame m #[(.ref a1)] 1 = (mkF m 0 #[.val (.ref a1)] []) := by first | (simp [entryFrame, mkF, argsToLocals, Value.category]; done) | rfl
set_option maxRecDepth 65536 in
set_option maxHeartbeats 40000000 in
theorem rm12 (l : Launch) (Z : State) (a0 : Array Value) (hw : ∀ d ∈ tables_1, d.before a0 Z = true) (ws : List Jvm.Cond) (a1 : Addr) (h0 : Heap) (n0 : Nat) (Z0 : n0 ≤ h0.size) :
    MetFree l (⟨"java/lang/Record", "<init>", "()V"⟩ : MethodName) (head1 (Jvm.Cond.code (⟨"java/lang/Record", "<init>", "()V"⟩ : MethodName) jdk_30_method_1_code 1 none :: ws) ({ frames := 1, cells := 0, slots := 0, locals := 12 } : Room)) (fun a U => a = #[(.ref a1)] ∧ Z.Warmed39 U.vm ∧ U.heap = h0) (fun _ _ _ _ _ => True) (fun _ U o U' => ∃ v L, o = .returned v ∧ Qrm12 h0 n0 v U'.heap L ∧ FrameEnd U o U' L ({ frames := 1, cells := 0, slots := 0, locals := 12 } : Room).cells ({ frames := 1, cells := 0, slots := 0, locals := 12 } : Room).slots) := by
  refine MetFree.of_bodySF (plainFor_of_name own_pn_rm12) hisR ?_
  intro p e s m args below meth c s₁ Bd hml0 hP hK
  obtain ⟨hargs, hZ, hh⟩ := hP
  have hx := Bd.exec
  have hby := Bd.bytes
  have hml : c.maxLocals = 1 := hml0
  have hown : s.vm.findClass "java/lang/Record" = some m.cls := findClass_of_methodNamed Bd.named
  have hnm := (name_of_methodNamed Bd.named Bd.method).1
  have hlock : meth.locks = false := Bd.notSynchronized
  have hret0 := Bd.returns
  have X0 : Stand p l e ({ frames := 1, cells := 0, slots := 0, locals := 12 } : Room) s m args below meth c s₁ [] 0 0 := Stand.of_body Bd
  have e0 : s₁.heap = h0 := by rw [← hh, Bd.state]; rfl
  have N0 := Fr.nil n0
  have pre0 : ∀ t, Steps p.tables e below (s₁.setTop (mkF m 0 #[.val (.ref a1)] [])) t → Steps p.tables e below (s₁.setTop (entryFrame m args 1)) t := fun t k => castTop (by rw [hargs]; exact own_ef_rm12 m a1) k
  clear Bd
  obtain ⟨T123, X123, e123, st123⟩ := initO X0 hx hZ hown (hw _ (List.mem_of_getElem? (i := 55) rfl)) (hw _ (List.mem_of_getElem? (i := 12) rfl)) (hw _ (List.mem_of_getElem? (i := 13) rfl)) e0 (g := (mkF m 1 #[.val (.ref a1)] [(.ref a1)])) rfl (by rw [hml]; rfl) rfl (hb hby d12_1) (by decide) (W := 0) (by show 2 * 0 + _ ≤ _; exact Nat.le_of_eq rfl) (by decide)
  obtain ⟨fs, hr, hrun, hended, hW, hsame⟩ := X123.leave (v := none) (fun _ => rfl)
  refine ⟨_, _, pre0 _ ?_, hrun, hended, _, _, rfl, ?_, ⟨_, rfl⟩, hW, hsame.mono (by decide) (by decide)⟩
  · show Steps p.tables e below (s₁.setTop (mkF m 0 #[.val (.ref a1)] [])) _
    refine XS.aloadN X0.here hx rfl (hb hby d12_0) rfl rfl ?_
    show Steps p.tables e below (s₁.setTop (mkF m 1 #[.val (.ref a1)] [(.ref a1)])) _
    refine st123 _ ?_
    show Steps p.tables e below (T123.setTop (mkF m 4 #[.val (.ref a1)] [])) _
    exact X123.returnOut hx hret0 (hb hby d12_4) hr
  · show Qrm12 h0 n0 _ T123.heap _
    rw [e123]
    exact ⟨rfl, N0, rfl⟩
def Fs (Z : State) (h : Heap) (a : Addr) (x1 : Value) (x2 : Value) (x3 : Value) (x4 : Value) : Prop := Exa Z h a "com/example/test_rollback/testrollback/Dialect$Counter" ∧ Fld Z h a "com/example/test_rollback/testrollback/Dialect$Counter" "table" "Ljava/lang/String;" x1 ∧ Fld Z h a "com/example/test_rollback/testrollback/Dialect$Counter" "name" "Ljava/lang/String;" x2 ∧ Fld Z h a "com/example/test_rollback/testrollback/Dialect$Counter" "next" "Ljava/lang/String;" x3 ∧ Fld Z h a "com/example/test_rollback/testrollback/Dialect$Counter" "restart" "Ljava/lang/String;" x4
theorem d11_0 : decode prog_10_method_1_code 0 = .ok (.aload_n 0, 1) := by decide +kernel
theorem d11_1 : decode prog_10_method_1_code 1 = .ok (.invokespecial 1, 3) := by decide +kernel
theorem d11_4 : decode prog_10_method_1_code 4 = .ok (.aload_n 0, 1) := by decide +kernel
theorem d11_5 : decode prog_10_method_1_code 5 = .ok (.aload_n 1, 1) := by decide +kernel
theorem d11_6 : decode prog_10_method_1_code 6 = .ok (.putfield 7, 3) := by decide +kernel
theorem d11_9 : decode prog_10_method_1_code 9 = .ok (.aload_n 0, 1) := by decide +kernel
theorem d11_10 : decode prog_10_method_1_code 10 = .ok (.aload_n 2, 1) := by decide +kernel
theorem d11_11 : decode prog_10_method_1_code 11 = .ok (.putfield 13, 3) := by decide +kernel
theorem d11_14 : decode prog_10_method_1_code 14 = .ok (.aload_n 0, 1) := by decide +kernel
theorem d11_15 : decode prog_10_method_1_code 15 = .ok (.aload_n 3, 1) := by decide +kernel
theorem d11_16 : decode prog_10_method_1_code 16 = .ok (.putfield 16, 3) := by decide +kernel
theorem d11_19 : decode prog_10_method_1_code 19 = .ok (.aload_n 0, 1) := by decide +kernel
theorem d11_20 : decode prog_10_method_1_code 20 = .ok (.aload 4, 2) := by decide +kernel
theorem d11_22 : decode prog_10_method_1_code 22 = .ok (.putfield 19, 3) := by decide +kernel
theorem d11_25 : decode prog_10_method_1_code 25 = .ok (.return_, 1) := by decide +kernel
def Qrm11 (Z : State) (a1 : Addr) (p0 : Value) (p1 : Value) (p2 : Value) (p3 : Value) (h0 : Heap) (n0 : Nat) (v : Option Value) (h : Heap) (L : List Loc) : Prop := v = none ∧ Fr n0 L ∧ Keep h0 h [a1] ∧ Fs Z h a1 p0 p1 p2 p3
theorem own_pn_rm11 : plainName "com/example/test_rollback/testrollback/Dialect$Counter" = true := by first | (simp [plainName, overriddenIn]; done) | decide +kernel
theorem own_ef_rm11 (m : MethodId) (a1 : Addr) (p0 : Value) (p1 : Value) (p2 : Value) (p3 : Value) (h_p0 : p0.isRef = true)  (h_p1 : p1.isRef = true)  (h_p2 : p2.isRef = true)  (h_p3 : p3.isRef = true) : entryFrame m #[(.ref a1), p0, p1, p2, p3] 5 = (mkF m 0 #[.val (.ref a1), .val p0, .val p1, .val p2, .val p3] []) := by rcases ref_cases h_p0 with rfl | ⟨_, rfl⟩ <;> rcases ref_cases h_p1 with rfl | ⟨_, rfl⟩ <;> rcases ref_cases h_p2 with rfl | ⟨_, rfl⟩ <;> rcases ref_cases h_p3 with rfl | ⟨_, rfl⟩ <;> first | (simp [entryFrame, mkF, argsToLocals, Value.category]; done) | rfl
set_option maxRecDepth 65536 in
set_option maxHeartbeats 40000000 in
theorem rm11 (l : Launch) (Z : State) (a0 : Array Value) (hw : ∀ d ∈ tables_1, d.before a0 Z = true) (ws : List Jvm.Cond) (a1 : Addr) (p0 : Value) (p1 : Value) (p2 : Value) (p3 : Value) (u0 : Value) (u1 : Value) (u2 : Value) (u3 : Value) (h0 : Heap) (n0 : Nat) (Z0 : n0 ≤ h0.size) (hr0 : p0.isRef = true) (hr1 : p1.isRef = true) (hr2 : p2.isRef = true) (hr3 : p3.isRef = true) (ge1 : n0 ≤ a1) (F : Fs Z h0 a1 u0 u1 u2 u3) :
    MetFree l (⟨"com/example/test_rollback/testrollback/Dialect$Counter", "<init>", "(Ljava/lang/String;Ljava/lang/String;Ljava/lang/String;Ljava/lang/String;)V"⟩ : MethodName) (head1 (Jvm.Cond.code (⟨"com/example/test_rollback/testrollback/Dialect$Counter", "<init>", "(Ljava/lang/String;Ljava/lang/String;Ljava/lang/String;Ljava/lang/String;)V"⟩ : MethodName) prog_10_method_1_code 5 none :: ws) ({ frames := 2, cells := 0, slots := 0, locals := 24 } : Room)) (fun a U => a = #[(.ref a1), p0, p1, p2, p3] ∧ Z.Warmed39 U.vm ∧ U.heap = h0) (fun _ _ _ _ _ => True) (fun _ U o U' => ∃ v L, o = .returned v ∧ Qrm11 Z a1 p0 p1 p2 p3 h0 n0 v U'.heap L ∧ FrameEnd U o U' L ({ frames := 2, cells := 0, slots := 0, locals := 24 } : Room).cells ({ frames := 2, cells := 0, slots := 0, locals := 24 } : Room).slots) := by
  refine MetFree.of_bodySF (plainFor_of_name own_pn_rm11) hisR ?_
  intro p e s m args below meth c s₁ Bd hml0 hP hK
  obtain ⟨hargs, hZ, hh⟩ := hP
  have hx := Bd.exec
  have hby := Bd.bytes
  have hml : c.maxLocals = 5 := hml0
  have hown : s.vm.findClass "com/example/test_rollback/testrollback/Dialect$Counter" = some m.cls := findClass_of_methodNamed Bd.named
  have hnm := (name_of_methodNamed Bd.named Bd.method).1
  have hlock : meth.locks = false := Bd.notSynchronized
  have hret0 := Bd.returns
  have X0 : Stand p l e ({ frames := 2, cells := 0, slots := 0, locals := 24 } : Room) s m args below meth c s₁ [] 0 0 := Stand.of_body Bd
  have e0 : s₁.heap = h0 := by rw [← hh, Bd.state]; rfl
  have N0 := Fr.nil n0
  have pre0 : ∀ t, Steps p.tables e below (s₁.setTop (mkF m 0 #[.val (.ref a1), .val p0, .val p1, .val p2, .val p3] [])) t → Steps p.tables e below (s₁.setTop (entryFrame m args 5)) t := fun t k => castTop (by rw [hargs]; exact own_ef_rm11 m a1 p0 p1 p2 p3 hr0 hr1 hr2 hr3) k
  clear Bd
  obtain ⟨Ex, F0, F1, F2, F3⟩ := F
  obtain ⟨v124, vmx124, ⟨T124, L124, k124, n124⟩, -, X124, ⟨Lc124, hQ124, l124, y124, z124⟩, st124⟩ := X0.specialBack hx (y := (⟨"java/lang/Record", "<init>", "()V"⟩ : MethodName)) rfl hown (mvT hZ (hw _ (List.mem_of_getElem? (i := 50) rfl))) (mvT hZ (hw _ (List.mem_of_getElem? (i := 51) rfl))) (mvT hZ (hw _ (List.mem_of_getElem? (i := 54) rfl))) (by decide) (backOf (W := 0) (rm12 l Z a0 hw [] a1 h0 n0 Z0) hZ (hw _ (List.mem_of_getElem? (i := 54) rfl)) (hw _ (List.mem_of_getElem? (i := 53) rfl)) (by decide) (by decide)) (g := (mkF m 1 #[.val (.ref a1), .val p0, .val p1, .val p2, .val p3] [(.ref a1)])) rfl (by rw [hml]; rfl) (Steps.refl _) (a := a1) (argsL := []) (rest := []) (lenOf own_pd13 rfl) rfl (by show 2 * 0 + _ ≤ _; exact Nat.le_of_eq rfl) (hb hby d11_1) (fun _ _ => ⟨rfl, e0, (by decide : 0 + 0 ≤ _), (by decide : 0 + 0 ≤ _)⟩)
  dsimp only [Pt.U, Pt.locs, Pt.cells, Pt.slots] at X124 l124 y124 z124 st124 hQ124
  subst l124 y124 z124
  obtain ⟨rfl, Nq124, eh124⟩ := hQ124
  have N124 := Fr.app N0 Nq124
  obtain ⟨T125, h125, X125, e125, W125, st125⟩ := putF X124 hx hZ hown (host := "") (Or.inl (hw _ (List.mem_of_getElem? (i := 56) rfl))) Via.refl eh124 F0 Ex (Or.inr ⟨(hw _ (List.mem_of_getElem? (i := 57) rfl)), rfl, hnm⟩) (hw _ (List.mem_of_getElem? (i := 31) rfl)) (ty := (.object "java/lang/String")) (by decide) (own_narR hr0 (by decide)) (own_fitR hr0 (by decide)) (g := (mkF m 6 #[.val (.ref a1), .val p0, .val p1, .val p2, .val p3] [p0, (.ref a1)])) rfl rfl (hb hby d11_6)
  have Z126 : n0 ≤ h125.size := Nat.le_trans Z0 (Keep.of_wr W125).1
  have K127 : Keep h0 h125 [a1] := (Keep.refl h0 [a1]).wr W125 (Or.inl (List.mem_of_getElem? (i := 0) rfl))
  have N125 := Fr.snoc X125 N124 ge1
  have f128 := F0.same W125
  have f129 := (F1.other W125 (Or.inr (slot_ne (Or.inr (hw _ (List.mem_of_getElem? (i := 59) rfl))) (Or.inr (hw _ (List.mem_of_getElem? (i := 57) rfl))) (by decide) (t := (.object "java/lang/String")) (t' := (.object "java/lang/String")) (by decide) (by decide))))
  have f130 := (Ex.wr W125)
  obtain ⟨T131, h131, X131, e131, W131, st131⟩ := putF X125 hx hZ hown (host := "") (Or.inl (hw _ (List.mem_of_getElem? (i := 58) rfl))) Via.refl e125 f129 f130 (Or.inr ⟨(hw _ (List.mem_of_getElem? (i := 59) rfl)), rfl, hnm⟩) (hw _ (List.mem_of_getElem? (i := 31) rfl)) (ty := (.object "java/lang/String")) (by decide) (own_narR hr1 (by decide)) (own_fitR hr1 (by decide)) (g := (mkF m 11 #[.val (.ref a1), .val p0, .val p1, .val p2, .val p3] [p1, (.ref a1)])) rfl rfl (hb hby d11_11)
  have Z132 : n0 ≤ h131.size := Nat.le_trans Z126 (Keep.of_wr W131).1
  have K133 : Keep h0 h131 [a1] := K127.wr W131 (Or.inl (List.mem_of_getElem? (i := 0) rfl))
  have N131 := Fr.snoc X131 N125 ge1
  have f134 := f129.same W131
  have f135 := ((F2.other W125 (Or.inr (slot_ne (Or.inr (hw _ (List.mem_of_getElem? (i := 61) rfl))) (Or.inr (hw _ (List.mem_of_getElem? (i := 57) rfl))) (by decide) (t := (.object "java/lang/String")) (t' := (.object "java/lang/String")) (by decide) (by decide)))).other W131 (Or.inr (slot_ne (Or.inr (hw _ (List.mem_of_getElem? (i := 61) rfl))) (Or.inr (hw _ (List.mem_of_getElem? (i := 59) rfl))) (by decide) (t := (.object "java/lang/String")) (t' := (.object "java/lang/String")) (by decide) (by decide))))
  have f136 := (f130.wr W131)
  obtain ⟨T137, h137, X137, e137, W137, st137⟩ := putF X131 hx hZ hown (host := "") (Or.inl (hw _ (List.mem_of_getElem? (i := 60) rfl))) Via.refl e131 f135 f136 (Or.inr ⟨(hw _ (List.mem_of_getElem? (i := 61) rfl)), rfl, hnm⟩) (hw _ (List.mem_of_getElem? (i := 31) rfl)) (ty := (.object "java/lang/String")) (by decide) (own_narR hr2 (by decide)) (own_fitR hr2 (by decide)) (g := (mkF m 16 #[.val (.ref a1), .val p0, .val p1, .val p2, .val p3] [p2, (.ref a1)])) rfl rfl (hb hby d11_16)
  have Z138 : n0 ≤ h137.size := Nat.le_trans Z132 (Keep.of_wr W137).1
  have K139 : Keep h0 h137 [a1] := K133.wr W137 (Or.inl (List.mem_of_getElem? (i := 0) rfl))
  have N137 := Fr.snoc X137 N131 ge1
  have f140 := f135.same W137
  have f141 := (((F3.other W125 (Or.inr (slot_ne (Or.inr (hw _ (List.mem_of_getElem? (i := 63) rfl))) (Or.inr (hw _ (List.mem_of_getElem? (i := 57) rfl))) (by decide) (t := (.object "java/lang/String")) (t' := (.object "java/lang/String")) (by decide) (by decide)))).other W131 (Or.inr (slot_ne (Or.inr (hw _ (List.mem_of_getElem? (i := 63) rfl))) (Or.inr (hw _ (List.mem_of_getElem? (i := 59) rfl))) (by decide) (t := (.object "java/lang/String")) (t' := (.object "java/lang/String")) (by decide) (by decide)))).other W137 (Or.inr (slot_ne (Or.inr (hw _ (List.mem_of_getElem? (i := 63) rfl))) (Or.inr (hw _ (List.mem_of_getElem? (i := 61) rfl))) (by decide) (t := (.object "java/lang/String")) (t' := (.object "java/lang/String")) (by decide) (by decide))))
  have f142 := (f136.wr W137)
  obtain ⟨T143, h143, X143, e143, W143, st143⟩ := putF X137 hx hZ hown (host := "") (Or.inl (hw _ (List.mem_of_getElem? (i := 62) rfl))) Via.refl e137 f141 f142 (Or.inr ⟨(hw _ (List.mem_of_getElem? (i := 63) rfl)), rfl, hnm⟩) (hw _ (List.mem_of_getElem? (i := 31) rfl)) (ty := (.object "java/lang/String")) (by decide) (own_narR hr3 (by decide)) (own_fitR hr3 (by decide)) (g := (mkF m 22 #[.val (.ref a1), .val p0, .val p1, .val p2, .val p3] [p3, (.ref a1)])) rfl rfl (hb hby d11_22)
  have Z144 : n0 ≤ h143.size := Nat.le_trans Z138 (Keep.of_wr W143).1
  have K145 : Keep h0 h143 [a1] := K139.wr W143 (Or.inl (List.mem_of_getElem? (i := 0) rfl))
  have N143 := Fr.snoc X143 N137 ge1
  have f146 := f141.same W143
  have f147 := (f142.wr W143)
  have f148 := (((f128.other W131 (Or.inr (slot_ne (Or.inr (hw _ (List.mem_of_getElem? (i := 57) rfl))) (Or.inr (hw _ (List.mem_of_getElem? (i := 59) rfl))) (by decide) (t := (.object "java/lang/String")) (t' := (.object "java/lang/String")) (by decide) (by decide)))).other W137 (Or.inr (slot_ne (Or.inr (hw _ (List.mem_of_getElem? (i := 57) rfl))) (Or.inr (hw _ (List.mem_of_getElem? (i := 61) rfl))) (by decide) (t := (.object "java/lang/String")) (t' := (.object "java/lang/String")) (by decide) (by decide)))).other W143 (Or.inr (slot_ne (Or.inr (hw _ (List.mem_of_getElem? (i := 57) rfl))) (Or.inr (hw _ (List.mem_of_getElem? (i := 63) rfl))) (by decide) (t := (.object "java/lang/String")) (t' := (.object "java/lang/String")) (by decide) (by decide))))
  have f149 := ((f134.other W137 (Or.inr (slot_ne (Or.inr (hw _ (List.mem_of_getElem? (i := 59) rfl))) (Or.inr (hw _ (List.mem_of_getElem? (i := 61) rfl))) (by decide) (t := (.object "java/lang/String")) (t' := (.object "java/lang/String")) (by decide) (by decide)))).other W143 (Or.inr (slot_ne (Or.inr (hw _ (List.mem_of_getElem? (i := 59) rfl))) (Or.inr (hw _ (List.mem_of_getElem? (i := 63) rfl))) (by decide) (t := (.object "java/lang/String")) (t' := (.object "java/lang/String")) (by decide) (by decide))))
  have f150 := (f140.other W143 (Or.inr (slot_ne (Or.inr (hw _ (List.mem_of_getElem? (i := 61) rfl))) (Or.inr (hw _ (List.mem_of_getElem? (i := 63) rfl))) (by decide) (t := (.object "java/lang/String")) (t' := (.object "java/lang/String")) (by decide) (by decide))))
  obtain ⟨fs, hr, hrun, hended, hW, hsame⟩ := X143.leave (v := none) (fun _ => rfl)
  refine ⟨_, _, pre0 _ ?_, hrun, hended, _, _, rfl, ?_, ⟨_, rfl⟩, hW, hsame.mono (by decide) (by decide)⟩
  · show Steps p.tables e below (s₁.setTop (mkF m 0 #[.val (.ref a1), .val p0, .val p1, .val p2, .val p3] [])) _
    refine XS.aloadN X0.here hx rfl (hb hby d11_0) rfl rfl ?_
    show Steps p.tables e below (s₁.setTop (mkF m 1 #[.val (.ref a1), .val p0, .val p1, .val p2, .val p3] [(.ref a1)])) _
    refine st124.trans ?_
    show Steps p.tables e below (T124.setTop (mkF m 4 #[.val (.ref a1), .val p0, .val p1, .val p2, .val p3] [])) _
    refine XS.aloadN X124.here hx rfl (hb hby d11_4) rfl rfl ?_
    show Steps p.tables e below (T124.setTop (mkF m 5 #[.val (.ref a1), .val p0, .val p1, .val p2, .val p3] [(.ref a1)])) _
    refine XS.aloadN X124.here hx rfl (hb hby d11_5) rfl hr0 ?_
    show Steps p.tables e below (T124.setTop (mkF m 6 #[.val (.ref a1), .val p0, .val p1, .val p2, .val p3] [p0, (.ref a1)])) _
    refine st125 _ ?_
    show Steps p.tables e below (T125.setTop (mkF m 9 #[.val (.ref a1), .val p0, .val p1, .val p2, .val p3] [])) _
    refine XS.aloadN X125.here hx rfl (hb hby d11_9) rfl rfl ?_
    show Steps p.tables e below (T125.setTop (mkF m 10 #[.val (.ref a1), .val p0, .val p1, .val p2, .val p3] [(.ref a1)])) _
    refine XS.aloadN X125.here hx rfl (hb hby d11_10) rfl hr1 ?_
    show Steps p.tables e below (T125.setTop (mkF m 11 #[.val (.ref a1), .val p0, .val p1, .val p2, .val p3] [p1, (.ref a1)])) _
    refine st131 _ ?_
    show Steps p.tables e below (T131.setTop (mkF m 14 #[.val (.ref a1), .val p0, .val p1, .val p2, .val p3] [])) _
    refine XS.aloadN X131.here hx rfl (hb hby d11_14) rfl rfl ?_
    show Steps p.tables e below (T131.setTop (mkF m 15 #[.val (.ref a1), .val p0, .val p1, .val p2, .val p3] [(.ref a1)])) _
    refine XS.aloadN X131.here hx rfl (hb hby d11_15) rfl hr2 ?_
    show Steps p.tables e below (T131.setTop (mkF m 16 #[.val (.ref a1), .val p0, .val p1, .val p2, .val p3] [p2, (.ref a1)])) _
    refine st137 _ ?_
    show Steps p.tables e below (T137.setTop (mkF m 19 #[.val (.ref a1), .val p0, .val p1, .val p2, .val p3] [])) _
    refine XS.aloadN X137.here hx rfl (hb hby d11_19) rfl rfl ?_
    show Steps p.tables e below (T137.setTop (mkF m 20 #[.val (.ref a1), .val p0, .val p1, .val p2, .val p3] [(.ref a1)])) _
    refine XS.aload X137.here hx rfl (hb hby d11_20) rfl hr3 ?_
    show Steps p.tables e below (T137.setTop (mkF m 22 #[.val (.ref a1), .val p0, .val p1, .val p2, .val p3] [p3, (.ref a1)])) _
    refine st143 _ ?_
    show Steps p.tables e below (T143.setTop (mkF m 25 #[.val (.ref a1), .val p0, .val p1, .val p2, .val p3] [])) _
    exact X143.returnOut hx hret0 (hb hby d11_25) hr
  · show Qrm11 Z a1 p0 p1 p2 p3 h0 n0 _ T143.heap _
    rw [e143]
    exact ⟨rfl, N143, K145, f147, f148, f149, f150, f146⟩
theorem d13_0 : decode prog_10_method_5_code 0 = .ok (.aload_n 0, 1) := by decide +kernel
theorem d13_1 : decode prog_10_method_5_code 1 = .ok (.getfield 13, 3) := by decide +kernel
theorem d13_4 : decode prog_10_method_5_code 4 = .ok (.ldc 34, 2) := by decide +kernel
theorem d13_6 : decode prog_10_method_5_code 6 = .ok (.invokevirtual 36, 3) := by decide +kernel
theorem d13_9 : decode prog_10_method_5_code 9 = .ok (.invokevirtual 42, 3) := by decide +kernel
theorem d13_12 : decode prog_10_method_5_code 12 = .ok (.areturn, 1) := by decide +kernel
abbrev own_seq : List Int32 := [115, 101, 113, 117, 101, 110, 99, 101, 32]
theorem own_pn_rmSeq : plainName "com/example/test_rollback/testrollback/Dialect$Counter" = true := by first | (simp [plainName, overriddenIn]; done) | decide +kernel
theorem own_ef_rmSeq (m : MethodId) (a1 : Addr) : entryFrame m #[(.ref a1)] 1 = (mkF m 0 #[.val (.ref a1)] []) := by first | (simp [entryFrame, mkF, argsToLocals, Value.category]; done) | rfl
set_option maxRecDepth 65536 in
set_option maxHeartbeats 40000000 in
theorem rmSeq (l : Launch) (Z : State) (a0 : Array Value) (hw : ∀ d ∈ tables_1, d.before a0 Z = true) (ws : List Jvm.Cond) (a1 : Addr) (s2 : Addr) (u0 : Value) (u1 : Value) (u2 : Value) (ds : List Int32) (G1 : Int32) (G3 : Value) (h0 : Heap) (n0 : Nat) (Z0 : n0 ≤ h0.size) (O2 : Sta Z Z.heap "java/lang/String" "COMPACT_STRINGS" "Z" (.int G1)) (P5 : ¬ (G1 = (0 : Int32))) (X00 : Old Z n0 h0) (O4 : Sta Z Z.heap "jdk/internal/util/Preconditions" "SIOOBE_FORMATTER" "Ljava/util/function/BiFunction;" G3) (rG3 : G3.isRef = true) (F : Fs Z h0 a1 u0 (.ref s2) u1 u2) (S2 : own_Str Z h0 s2 (own_seq ++ ds)) (hd : ds.length ≤ 3) :
    MetFree l (⟨"com/example/test_rollback/testrollback/Dialect$Counter", "sequence", "()Ljava/lang/String;"⟩ : MethodName) (head1 (Jvm.Cond.code (⟨"com/example/test_rollback/testrollback/Dialect$Counter", "sequence", "()Ljava/lang/String;"⟩ : MethodName) prog_10_method_5_code 1 (some (.object "java/lang/String")) :: ws) ({ frames := 6, cells := 4, slots := 60, locals := 150 } : Room)) (fun a U => a = #[(.ref a1)] ∧ Z.Warmed39 U.vm ∧ U.heap = h0 ∧ CHv Z EL U.vm h0) (fun _ _ _ _ _ => True) (fun _ U o U' => ∃ v L, o = .returned v ∧ QSub Z (own_seq ++ ds) 9 h0 n0 v U'.heap L ∧ CHr Z EL U.vm U.heap U'.vm U'.heap ∧ ReturnedEndW U o U' L ({ frames := 6, cells := 4, slots := 60, locals := 150 } : Room).cells ({ frames := 6, cells := 4, slots := 60, locals := 150 } : Room).slots) := by
  refine MetFree.of_bodySF (plainFor_of_name own_pn_rmSeq) hisR ?_
  intro p e s m args below meth c s₁ Bd hml0 hP hK
  obtain ⟨hargs, hZ, hh, hC0⟩ := hP
  have hx := Bd.exec
  have hby := Bd.bytes
  have hml : c.maxLocals = 1 := hml0
  have hown : s.vm.findClass "com/example/test_rollback/testrollback/Dialect$Counter" = some m.cls := findClass_of_methodNamed Bd.named
  have hnm := (name_of_methodNamed Bd.named Bd.method).1
  have hlock : meth.locks = false := Bd.notSynchronized
  have hret0 := Bd.returns
  have hZ : Z.Warmed39 (s.setVm s.vm).vm := hZ
  have hown : (s.setVm s.vm).vm.findClass "com/example/test_rollback/testrollback/Dialect$Counter" = some m.cls := hown
  have hEL := own_EL hw
  have hwS := own_wS hw
  have C0 := CHr.refl hC0
  have X0 : Stand p l e ({ frames := 6, cells := 4, slots := 60, locals := 150 } : Room) (s.setVm s.vm) m args below meth c s₁ [] 0 0 := Stand.of_body Bd
  have e0 : s₁.heap = h0 := by rw [← hh, Bd.state]; rfl
  have N0 := Fr.nil n0
  have pre0 : ∀ t, Steps p.tables e below (s₁.setTop (mkF m 0 #[.val (.ref a1)] [])) t → Steps p.tables e below (s₁.setTop (entryFrame m args 1)) t := fun t k => castTop (by rw [hargs]; exact own_ef_rmSeq m a1) k
  have hS0 := (State.WarmedH.refl s).since 0
  clear Bd
  have hln : ∀ d ∈ StrChars.Road.wordsLen, d.before a0 Z = true := fun d hd => hw d ((by decide +kernel : ∀ d ∈ StrChars.Road.wordsLen, d ∈ tables_1) d hd)
  obtain ⟨fE, f1, f2, f3, f4⟩ := F
  obtain ⟨T151, X151, e151, st151⟩ := getF X0 hx hZ hown (host := "") (Or.inl (hw _ (List.mem_of_getElem? (i := 58) rfl))) Via.refl e0 f2 (g := (mkF m 1 #[.val (.ref a1)] [(.ref a1)])) rfl rfl (hb hby d13_1)
  obtain ⟨a152, T152, h152, k1152, b152, kl152, X152, e152, E152, hS152, hkk152, hZ152, hown152, fe152, fc152, fv152, fa152, la152, lb152, CR152, hL152, hne152, st152⟩ := ldcCH (s := s) (vm0 := s.vm) X151 hx hZ hown (hw _ (List.mem_of_getElem? (i := 69) rfl)) hwS e151 hS0 (Nat.zero_le _) hEL (own_mem69) C0.1 (vs := ([(.int (115 : Int32)), (.int (101 : Int32)), (.int (113 : Int32)), (.int (117 : Int32)), (.int (101 : Int32)), (.int (110 : Int32)), (.int (99 : Int32)), (.int (101 : Int32)), (.int (32 : Int32))] : List Value)) (z := (9 : Int32)) ⟨by decide, by decide⟩ (by decide) rfl (g := (mkF m 4 #[.val (.ref a1)] [(.ref s2)])) rfl (hb hby d13_4) (n := 36) (by decide) (by decide) (by decide) (by decide)
  have Z153 : n0 ≤ h152.size := Nat.le_trans Z0 E152.1
  have K154 : Keep h0 h152 [] := (Keep.refl h0 []).ext E152
  have C155 := (C0.trans CR152)
  have hlen9 : (own_seq ++ ds).length = 9 + ds.length := by rw [List.length_append]; rfl
  have SL : own_Str Z h152 a152 own_seq := ⟨by decide, by decide, fe152, fc152, b152, kl152, fv152, fa152⟩
  obtain ⟨t1, t2, t3, t4, tt, tk, t5, t6⟩ := id SL
  have f156 := (X00.ext E152)
  obtain ⟨cq157, kq157, q157a, q157b, q157c⟩ := isOf hZ152 e152 fe152
  obtain ⟨v157, vmx157, ⟨T157, L157, k157, n157⟩, -, X157, ⟨Lc157, hQ157, l157, y157, z157⟩, st157⟩ := X152.virtualBack hx (y := (⟨"java/lang/String", "length", "()I"⟩ : MethodName)) (z := (⟨"java/lang/String", "length", "()I"⟩ : MethodName)) hown152 (mvT hZ152 (hw _ (List.mem_of_getElem? (i := 72) rfl))) (mvT hZ152 (hw _ (List.mem_of_getElem? (i := 73) rfl))) (notFace_of_selects (args := #[]) (mvT hZ152 (hw _ (List.mem_of_getElem? (i := 75) rfl)))) (mvT hZ152 (hw _ (List.mem_of_getElem? (i := 75) rfl))) (mvT hZ152 (hw _ (List.mem_of_getElem? (i := 74) rfl))) (by decide) (StrChars.Road.lenW (W := 1) hZ152 hln (kI := 4) (hw _ (List.mem_of_getElem? (i := 2) rfl)) t3 t5 t4 t6 (StrChars.Road.codOf rfl (fun c hc => (t1 c hc).2)) (up _ t1) (O2.ext f156.2) P5 t2 (by decide) (by decide)) q157a q157c (g := (mkF m 6 #[.val (.ref a1)] [(.ref a152), (.ref s2)])) rfl (by rw [hml]; rfl) (Steps.refl _) (argsL := []) (rest := [(.ref s2)]) (lenOf own_pd6 rfl) rfl (by show 2 * 0 + _ ≤ _; exact Nat.le_of_eq rfl) (hb hby d13_6) (fun _ _ => ⟨rfl, e152, (by decide : 2 + 0 ≤ _), (by decide : 40 + 0 ≤ _)⟩)
  dsimp only [Pt.U, Pt.locs, Pt.cells, Pt.slots] at X157 l157 y157 z157 st157 hQ157
  subst l157 y157 z157
  obtain ⟨rfl, rfl, eh157⟩ := hQ157
  have Nq157 : Fr n0 ([] : List Loc) := Fr.nil n0
  have N157 := Fr.app N0 Nq157
  obtain ⟨cq158, kq158, q158a, q158b, q158c⟩ := isOf hZ152 eh157 (own_Str.ext E152 S2).2.2.1
  obtain ⟨v158, vmx158, ⟨T158, L158, k158, n158⟩, -, Xq158, hSq158, hgr158, ⟨Lc158, hQ158, l158, y158, z158, CR158⟩, st158⟩ := X157.virtualBackS hx (y := (⟨"java/lang/String", "substring", "(I)Ljava/lang/String;"⟩ : MethodName)) (z := (⟨"java/lang/String", "substring", "(I)Ljava/lang/String;"⟩ : MethodName)) hown152 (mvT hZ152 (hw _ (List.mem_of_getElem? (i := 82) rfl))) (mvT hZ152 (hw _ (List.mem_of_getElem? (i := 83) rfl))) (notFace_of_selects (args := #[]) (mvT hZ152 (hw _ (List.mem_of_getElem? (i := 85) rfl)))) (mvT hZ152 (hw _ (List.mem_of_getElem? (i := 85) rfl))) (mvT hZ152 (hw _ (List.mem_of_getElem? (i := 84) rfl))) (by decide) (backOfSH (s := s) (vm0 := T152.vm) (W := 0) (rmSub1 l Z a0 hw [] s2 (own_seq ++ ds) 9 (Int32.ofNat own_seq.length) G1 G3 h152 n0 Z153 O2 P5 f156 O4 rG3 (own_Str.ext E152 S2) (by decide) (by omega) (by omega) rfl) hZ152 (hw _ (List.mem_of_getElem? (i := 86) rfl)) (hw _ (List.mem_of_getElem? (i := 3) rfl)) (by decide) (by decide) hEL C155.1) q158a q158c (g := (mkF m 9 #[.val (.ref a1)] [(.int (Int32.ofNat own_seq.length)), (.ref s2)])) rfl (by rw [hml]; rfl) (Steps.refl _) (argsL := [(.int (Int32.ofNat own_seq.length))]) (rest := []) (lenOf own_pd14 rfl) rfl (by show 2 * 0 + _ ≤ _; exact Nat.le_of_eq rfl) (hb hby d13_9) (fun _ _ => ⟨rfl, eh157, (by decide : 2 + 2 ≤ _), (by decide : 40 + 20 ≤ _)⟩)
  dsimp only [Pt.U, Pt.locs, Pt.cells, Pt.slots] at Xq158 hSq158 hgr158 l158 y158 z158 st158 hQ158 CR158
  subst l158 y158 z158
  obtain ⟨X158, hS158, hZ158, hown158⟩ := rebS (s := s) (vm0 := T152.vm) hS152 (by rw [eh157]; exact hkk152) Xq158 hSq158 hgr158 hZ152 hown152
  obtain ⟨b, rfl, Nq158, E158, SB⟩ := hQ158
  have N158 := Fr.app N157 Nq158
  have Z159 : n0 ≤ T158.heap.size := Nat.le_trans Z153 E158.1
  have K160 : Keep h0 T158.heap [] := K154.ext E158
  have C161 := (C155.trans CR158)
  obtain ⟨fs, hr, hrun, hended, hW⟩ := Stand.leaveW (s := s) (vm₁ := T158.vm) X158 hS158 (by rw [show T158.heap = _ from rfl]; exact (Nat.le_refl _)) (v := some (.ref b)) (fun h => by rw [hret0] at h; cases h)
  refine ⟨_, _, pre0 _ ?_, hrun, hended, _, _, rfl, ?_, own_chr (T := T158) hh rfl (C161.trans (CHv.at (s := s) (vm0 := T158.vm) X158 hZ158 hEL C161.1)), own_wmono hW (by decide) (by decide)⟩
  · show Steps p.tables e below (s₁.setTop (mkF m 0 #[.val (.ref a1)] [])) _
    refine XS.aloadN X0.here hx rfl (hb hby d13_0) rfl rfl ?_
    show Steps p.tables e below (s₁.setTop (mkF m 1 #[.val (.ref a1)] [(.ref a1)])) _
    refine st151 _ ?_
    show Steps p.tables e below (T151.setTop (mkF m 4 #[.val (.ref a1)] [(.ref s2)])) _
    refine st152 _ ?_
    show Steps p.tables e below (T152.setTop (mkF m 6 #[.val (.ref a1)] [(.ref a152), (.ref s2)])) _
    refine st157.trans ?_
    show Steps p.tables e below (T157.setTop (mkF m 9 #[.val (.ref a1)] [(.int (Int32.ofNat own_seq.length)), (.ref s2)])) _
    refine st158.trans ?_
    show Steps p.tables e below (T158.setTop (mkF m 12 #[.val (.ref a1)] [(.ref b)])) _
    exact retR X158 hx hret0 rfl rfl rfl (hb hby d13_12) hr
  · show QSub Z (own_seq ++ ds) 9 h0 n0 _ T158.heap _
    exact ⟨b, rfl, N158, own_ext K160, SB⟩
def Q0 (n0 : Nat) (v : Option Value) (h : Heap) (L : List Loc) : Prop := v = some (.int 1) ∧ Fr n0 L
theorem own_and3 (x : Int32) : (x &&& (3 : Int32)) = 0 ∨ (x &&& (3 : Int32)) = 1 ∨ (x &&& (3 : Int32)) = 2 ∨ (x &&& (3 : Int32)) = 3 := by
  have h0 := c_mask x (3 : Int32) 2 (by decide) (by decide)
  generalize (x &&& (3 : Int32)) = q at *
  have e : q = Int32.ofNat q.toInt.toNat := by
    apply Int32.toInt_inj.mp
    rw [own_toI (by omega)]
    omega
  have t : ∀ k : Fin 4, Int32.ofNat k.val = 0 ∨ Int32.ofNat k.val = 1 ∨ Int32.ofNat k.val = 2 ∨ Int32.ofNat k.val = 3 := by decide +kernel
  have := t ⟨q.toInt.toNat, by omega⟩
  rw [← e] at this
  exact this
theorem own_i2c255 (x : Int32) : ¬ ((x &&& (255 : Int32)).toUInt32.toUInt16.toUInt32.toInt32) < 0 ∧ ¬ (255 : Int32) < ((x &&& (255 : Int32)).toUInt32.toUInt16.toUInt32.toInt32) := by
  have e : ((x &&& (255 : Int32)).toUInt32.toUInt16.toUInt32.toInt32) = nar .char ((x &&& (255 : Int32)).toUInt32.toUInt16.toUInt32.toInt32) := by
    have q := i2c_mask x
    simp only [nar]; rw [q, q]
  rw [e]; exact and255_chars x
theorem own_pn_rm0 : plainName "com/example/test_rollback/testrollback/CounterSequencePinLaw" = true := by first | (simp [plainName, overriddenIn]; done) | decide +kernel
theorem own_ef_rm0 (m : MethodId) (p0 : Int32) (p1 : Int32) (p2 : Int32) (p3 : Int32) : entryFrame m #[(.int p0), (.int p1), (.int p2), (.int p3)] maxLocals = (mkF m 0 #[.val (.int p0), .val (.int p1), .val (.int p2), .val (.int p3), .unset, .unset, .unset, .unset, .unset, .unset, .unset, .unset, .unset] []) := by first | (simp [entryFrame, mkF, argsToLocals, Value.category, maxLocals]; done) | rfl
set_option maxRecDepth 65536 in
set_option maxHeartbeats 40000000 in
theorem rm0 (l : Launch) (Z : State) (a0 : Array Value) (hw : ∀ d ∈ tables_1, d.before a0 Z = true) (ws : List Jvm.Cond) (p0 : Int32) (p1 : Int32) (p2 : Int32) (p3 : Int32) (G1 : Int32) (G3 : Value) (h0 : Heap) (n0 : Nat) (Z0 : n0 ≤ h0.size) (O2 : Sta Z Z.heap "java/lang/String" "COMPACT_STRINGS" "Z" (.int G1)) (P5 : ¬ (G1 = (0 : Int32))) (X00 : Old Z n0 h0) (O4 : Sta Z Z.heap "jdk/internal/util/Preconditions" "SIOOBE_FORMATTER" "Ljava/util/function/BiFunction;" G3) (rG3 : G3.isRef = true) :
    MetFree l x (head1 (Jvm.Cond.code x code maxLocals ret :: ws) room_1) (fun a U => a = #[(.int p0), (.int p1), (.int p2), (.int p3)] ∧ Z.Warmed39 U.vm ∧ U.heap = h0 ∧ CHv Z EL U.vm h0) (fun _ _ _ _ _ => True) (fun _ U o U' => ∃ v L, o = .returned v ∧ Q0 n0 v U'.heap L ∧ CHr Z EL U.vm U.heap U'.vm U'.heap ∧ ReturnedEndW U o U' L 40 3328) := by
  refine MetFree.of_bodySF (plainFor_of_name own_pn_rm0) hisR ?_
  intro p e s m args below meth c s₁ Bd hml0 hP hK
  obtain ⟨hargs, hZ, hh, hC0⟩ := hP
  have hx := Bd.exec
  have hby := Bd.bytes
  have hml : c.maxLocals = 13 := hml0
  have hown : s.vm.findClass "com/example/test_rollback/testrollback/CounterSequencePinLaw" = some m.cls := findClass_of_methodNamed Bd.named
  have hnm := (name_of_methodNamed Bd.named Bd.method).1
  have hlock : meth.locks = false := Bd.notSynchronized
  have hret0 := Bd.returns
  have hZ : Z.Warmed39 (s.setVm s.vm).vm := hZ
  have hown : (s.setVm s.vm).vm.findClass "com/example/test_rollback/testrollback/CounterSequencePinLaw" = some m.cls := hown
  have hEL := own_EL hw
  have hwS := own_wS hw
  have C0 := CHr.refl hC0
  have X0 : Stand p l e room_1 (s.setVm s.vm) m args below meth c s₁ [] 0 0 := Stand.of_body Bd
  have e0 : s₁.heap = h0 := by rw [← hh, Bd.state]; rfl
  have N0 := Fr.nil n0
  have pre0 : ∀ t, Steps p.tables e below (s₁.setTop (mkF m 0 #[.val (.int p0), .val (.int p1), .val (.int p2), .val (.int p3), .unset, .unset, .unset, .unset, .unset, .unset, .unset, .unset, .unset] [])) t → Steps p.tables e below (s₁.setTop (entryFrame m args maxLocals)) t := fun t k => castTop (by rw [hargs]; exact own_ef_rm0 m p0 p1 p2 p3) k
  have hS0 := (State.WarmedH.refl s).since 0
  clear Bd
  have hws : ∀ d ∈ StrChars.Road.words, d.before a0 Z = true := fun d hd => hw d ((by decide +kernel : ∀ d ∈ StrChars.Road.words, d ∈ tables_1) d hd)
  have heq : ∀ d ∈ StrChars.Road.wordsEq, d.before a0 Z = true := fun d hd => hw d ((by decide +kernel : ∀ d ∈ StrChars.Road.wordsEq, d ∈ tables_1) d hd)
  obtain ⟨c4, hc4, st162⟩ : ∃ (c4 : Int32), (c4 = 0 ∨ c4 = 1 ∨ c4 = 2 ∨ c4 = 3) ∧ ∀ target, Steps p.tables e below (s₁.setTop (mkF m 3 #[.val (.int p0), .val (.int p1), .val (.int p2), .val (.int p3), .unset, .unset, .unset, .unset, .unset, .unset, .unset, .unset, .unset] [(.int c4)])) target → Steps p.tables e below (s₁.setTop (mkF m 0 #[.val (.int p0), .val (.int p1), .val (.int p2), .val (.int p3), .unset, .unset, .unset, .unset, .unset, .unset, .unset, .unset, .unset] [])) target := by
    refine ⟨(p0 &&& (3 : Int32)), own_and3 _, fun target hk => ?_⟩
    show Steps p.tables e below (s₁.setTop (mkF m 0 #[.val (.int p0), .val (.int p1), .val (.int p2), .val (.int p3), .unset, .unset, .unset, .unset, .unset, .unset, .unset, .unset, .unset] [])) _
    refine XS.iloadN X0.here hx rfl (hb hby at_0) rfl ?_
    show Steps p.tables e below (s₁.setTop (mkF m 1 #[.val (.int p0), .val (.int p1), .val (.int p2), .val (.int p3), .unset, .unset, .unset, .unset, .unset, .unset, .unset, .unset, .unset] [(.int p0)])) _
    refine XS.iconst X0.here hx rfl (hb hby at_1) ?_
    show Steps p.tables e below (s₁.setTop (mkF m 2 #[.val (.int p0), .val (.int p1), .val (.int p2), .val (.int p3), .unset, .unset, .unset, .unset, .unset, .unset, .unset, .unset, .unset] [(.int (3 : Int32)), (.int p0)])) _
    refine XS.iand X0.here hx rfl (hb hby at_2) rfl ?_
    exact hk
  obtain ⟨c5, hc5, st163⟩ : ∃ (c5 : Int32), (¬ c5 < 0 ∧ ¬ (255 : Int32) < c5) ∧ ∀ target, Steps p.tables e below (s₁.setTop (mkF m 11 #[.val (.int p0), .val (.int p1), .val (.int p2), .val (.int p3), .val (.int c4), .unset, .unset, .unset, .unset, .unset, .unset, .unset, .unset] [(.int c5)])) target → Steps p.tables e below (s₁.setTop (mkF m 5 #[.val (.int p0), .val (.int p1), .val (.int p2), .val (.int p3), .val (.int c4), .unset, .unset, .unset, .unset, .unset, .unset, .unset, .unset] [])) target := by
    refine ⟨((p1 &&& (255 : Int32)).toUInt32.toUInt16.toUInt32.toInt32), own_i2c255 _, fun target hk => ?_⟩
    show Steps p.tables e below (s₁.setTop (mkF m 5 #[.val (.int p0), .val (.int p1), .val (.int p2), .val (.int p3), .val (.int c4), .unset, .unset, .unset, .unset, .unset, .unset, .unset, .unset] [])) _
    refine XS.iloadN X0.here hx rfl (hb hby at_5) rfl ?_
    show Steps p.tables e below (s₁.setTop (mkF m 6 #[.val (.int p0), .val (.int p1), .val (.int p2), .val (.int p3), .val (.int c4), .unset, .unset, .unset, .unset, .unset, .unset, .unset, .unset] [(.int p1)])) _
    refine XS.sipush X0.here hx rfl (hb hby at_6) ?_
    show Steps p.tables e below (s₁.setTop (mkF m 9 #[.val (.int p0), .val (.int p1), .val (.int p2), .val (.int p3), .val (.int c4), .unset, .unset, .unset, .unset, .unset, .unset, .unset, .unset] [(.int (255 : Int32)), (.int p1)])) _
    refine XS.iand X0.here hx rfl (hb hby at_9) rfl ?_
    show Steps p.tables e below (s₁.setTop (mkF m 10 #[.val (.int p0), .val (.int p1), .val (.int p2), .val (.int p3), .val (.int c4), .unset, .unset, .unset, .unset, .unset, .unset, .unset, .unset] [(.int (p1 &&& (255 : Int32)))])) _
    refine XS.i2c X0.here hx rfl (hb hby at_10) rfl ?_
    exact hk
  obtain ⟨c6, hc6, st164⟩ : ∃ (c6 : Int32), (¬ c6 < 0 ∧ ¬ (255 : Int32) < c6) ∧ ∀ target, Steps p.tables e below (s₁.setTop (mkF m 19 #[.val (.int p0), .val (.int p1), .val (.int p2), .val (.int p3), .val (.int c4), .val (.int c5), .unset, .unset, .unset, .unset, .unset, .unset, .unset] [(.int c6)])) target → Steps p.tables e below (s₁.setTop (mkF m 13 #[.val (.int p0), .val (.int p1), .val (.int p2), .val (.int p3), .val (.int c4), .val (.int c5), .unset, .unset, .unset, .unset, .unset, .unset, .unset] [])) target := by
    refine ⟨((p2 &&& (255 : Int32)).toUInt32.toUInt16.toUInt32.toInt32), own_i2c255 _, fun target hk => ?_⟩
    show Steps p.tables e below (s₁.setTop (mkF m 13 #[.val (.int p0), .val (.int p1), .val (.int p2), .val (.int p3), .val (.int c4), .val (.int c5), .unset, .unset, .unset, .unset, .unset, .unset, .unset] [])) _
    refine XS.iloadN X0.here hx rfl (hb hby at_13) rfl ?_
    show Steps p.tables e below (s₁.setTop (mkF m 14 #[.val (.int p0), .val (.int p1), .val (.int p2), .val (.int p3), .val (.int c4), .val (.int c5), .unset, .unset, .unset, .unset, .unset, .unset, .unset] [(.int p2)])) _
    refine XS.sipush X0.here hx rfl (hb hby at_14) ?_
    show Steps p.tables e below (s₁.setTop (mkF m 17 #[.val (.int p0), .val (.int p1), .val (.int p2), .val (.int p3), .val (.int c4), .val (.int c5), .unset, .unset, .unset, .unset, .unset, .unset, .unset] [(.int (255 : Int32)), (.int p2)])) _
    refine XS.iand X0.here hx rfl (hb hby at_17) rfl ?_
    show Steps p.tables e below (s₁.setTop (mkF m 18 #[.val (.int p0), .val (.int p1), .val (.int p2), .val (.int p3), .val (.int c4), .val (.int c5), .unset, .unset, .unset, .unset, .unset, .unset, .unset] [(.int (p2 &&& (255 : Int32)))])) _
    refine XS.i2c X0.here hx rfl (hb hby at_18) rfl ?_
    exact hk
  obtain ⟨c7, hc7, st165⟩ : ∃ (c7 : Int32), (¬ c7 < 0 ∧ ¬ (255 : Int32) < c7) ∧ ∀ target, Steps p.tables e below (s₁.setTop (mkF m 27 #[.val (.int p0), .val (.int p1), .val (.int p2), .val (.int p3), .val (.int c4), .val (.int c5), .val (.int c6), .unset, .unset, .unset, .unset, .unset, .unset] [(.int c7)])) target → Steps p.tables e below (s₁.setTop (mkF m 21 #[.val (.int p0), .val (.int p1), .val (.int p2), .val (.int p3), .val (.int c4), .val (.int c5), .val (.int c6), .unset, .unset, .unset, .unset, .unset, .unset] [])) target := by
    refine ⟨((p3 &&& (255 : Int32)).toUInt32.toUInt16.toUInt32.toInt32), own_i2c255 _, fun target hk => ?_⟩
    show Steps p.tables e below (s₁.setTop (mkF m 21 #[.val (.int p0), .val (.int p1), .val (.int p2), .val (.int p3), .val (.int c4), .val (.int c5), .val (.int c6), .unset, .unset, .unset, .unset, .unset, .unset] [])) _
    refine XS.iloadN X0.here hx rfl (hb hby at_21) rfl ?_
    show Steps p.tables e below (s₁.setTop (mkF m 22 #[.val (.int p0), .val (.int p1), .val (.int p2), .val (.int p3), .val (.int c4), .val (.int c5), .val (.int c6), .unset, .unset, .unset, .unset, .unset, .unset] [(.int p3)])) _
    refine XS.sipush X0.here hx rfl (hb hby at_22) ?_
    show Steps p.tables e below (s₁.setTop (mkF m 25 #[.val (.int p0), .val (.int p1), .val (.int p2), .val (.int p3), .val (.int c4), .val (.int c5), .val (.int c6), .unset, .unset, .unset, .unset, .unset, .unset] [(.int (255 : Int32)), (.int p3)])) _
    refine XS.iand X0.here hx rfl (hb hby at_25) rfl ?_
    show Steps p.tables e below (s₁.setTop (mkF m 26 #[.val (.int p0), .val (.int p1), .val (.int p2), .val (.int p3), .val (.int c4), .val (.int c5), .val (.int c6), .unset, .unset, .unset, .unset, .unset, .unset] [(.int (p3 &&& (255 : Int32)))])) _
    refine XS.i2c X0.here hx rfl (hb hby at_26) rfl ?_
    exact hk
  obtain ⟨T166, h166, lc166, b8, b9, k9, s10, ds, X166, e166, E166, N166, V9, S10, hds, st166⟩ : ∃ (T166 : State) (h166 : Heap) (lc166 : List Loc) (b8 : Addr) (b9 : Addr) (k9 : ClassId) (s10 : Addr) (ds : List Int32), Stand p l e room_1 (s.setVm s.vm) m args below meth c T166 lc166 4 31 ∧ T166.heap = h166 ∧ Ext h0 h166 ∧ Fr n0 lc166 ∧ (Arv Z h166 b9 k9 .char (Int32.ofNat ds.length) (ds.map Value.int) (.int (0 : Int32))) ∧ (own_Str Z h166 s10 (own_seq ++ ds)) ∧ (ds = [] ∨ ds = [c5] ∨ ds = [c5, c6] ∨ ds = [c5, c6, c7]) ∧ ∀ target, Steps p.tables e below (T166.setTop (mkF m 168 #[.val (.int p0), .val (.int p1), .val (.int p2), .val (.int p3), .val (.int c4), .val (.int c5), .val (.int c6), .val (.int c7), .val (.ref b8), .val (.ref b9), .val (.ref s10), .unset, .unset] [])) target → Steps p.tables e below (s₁.setTop (mkF m 29 #[.val (.int p0), .val (.int p1), .val (.int p2), .val (.int p3), .val (.int c4), .val (.int c5), .val (.int c6), .val (.int c7), .unset, .unset, .unset, .unset, .unset] [])) target := by
    rcases hc4 with rfl | rfl | rfl | rfl
    · skip
      obtain ⟨T167, h167, k167, X167, e167, E167, A167, st167⟩ := newP X0 hx hZ (hw _ (List.mem_of_getElem? (i := 0) rfl)) e0 (g := (mkF m 34 #[.val (.int p0), .val (.int p1), .val (.int p2), .val (.int p3), .val (.int (0 : Int32)), .val (.int c5), .val (.int c6), .val (.int c7), .unset, .unset, .unset, .unset, .unset] [(.int ((9 : Int32) + (0 : Int32)))])) rfl (hb hby at_34) rfl (by decide) (cap := 9) (by decide) (by decide) (by decide) (by decide)
      obtain ⟨b167, g167⟩ : ∃ z, z = h0.size := ⟨_, rfl⟩
      rw [← g167] at A167 st167
      have ge_b167 : n0 ≤ b167 := Nat.le_trans Z0 (Nat.le_of_eq g167.symm)
      have sz_b167 : h0.size ≤ b167 := Nat.le_trans (Keep.refl h0 []).1 (Nat.le_of_eq g167.symm)
      have Z168 : n0 ≤ h167.size := Nat.le_trans Z0 E167.1
      have K169 : Keep h0 h167 [] := (Keep.refl h0 []).ext E167
      have V167 : Arv Z h167 b167 k167 .char ((9 : Int32) + (0 : Int32)) [(.int (0 : Int32)), (.int (0 : Int32)), (.int (0 : Int32)), (.int (0 : Int32)), (.int (0 : Int32)), (.int (0 : Int32)), (.int (0 : Int32)), (.int (0 : Int32)), (.int (0 : Int32))] (.int (0 : Int32)) := (Arv.new A167 (by decide)).pad (pad_rep [] (.int (0 : Int32)) 9)
      obtain ⟨cl170, Ar170, q170, S170, M170, Hs170, G170⟩ := id V167
      obtain ⟨T170, h170, X170, e170, W170, st170⟩ := stC X167 hx hZ e167 Ar170 (j := (0 : Int32)) (inb_of S170 ⟨(by decide), (by decide)⟩) (g := (mkF m 43 #[.val (.int p0), .val (.int p1), .val (.int p2), .val (.int p3), .val (.int (0 : Int32)), .val (.int c5), .val (.int c6), .val (.int c7), .val (.ref b167), .unset, .unset, .unset, .unset] [(.int (115 : Int32)), (.int (0 : Int32)), (.ref b167)])) rfl rfl (hb hby at_43)
      have Z171 : n0 ≤ h170.size := Nat.le_trans Z168 (Keep.of_wr W170).1
      have K172 : Keep h0 h170 [] := K169.wr W170 (Or.inr sz_b167)
      have N170 := Fr.snoc X170 N0 ge_b167
      have V170 : Arv Z h170 b167 k167 .char ((9 : Int32) + (0 : Int32)) [(.int (nar .char (115 : Int32))), (.int (0 : Int32)), (.int (0 : Int32)), (.int (0 : Int32)), (.int (0 : Int32)), (.int (0 : Int32)), (.int (0 : Int32)), (.int (0 : Int32)), (.int (0 : Int32))] (.int (0 : Int32)) := Arv.set Ar170 q170 S170 M170 Hs170 G170 (fits_nar_char _) W170 0 rfl (Nat.le_of_ble_eq_true rfl)
      obtain ⟨cl173, Ar173, q173, S173, M173, Hs173, G173⟩ := id V170
      obtain ⟨T173, h173, X173, e173, W173, st173⟩ := stC X170 hx hZ e170 Ar173 (j := (1 : Int32)) (inb_of S173 ⟨(by decide), (by decide)⟩) (g := (mkF m 49 #[.val (.int p0), .val (.int p1), .val (.int p2), .val (.int p3), .val (.int (0 : Int32)), .val (.int c5), .val (.int c6), .val (.int c7), .val (.ref b167), .unset, .unset, .unset, .unset] [(.int (101 : Int32)), (.int (1 : Int32)), (.ref b167)])) rfl rfl (hb hby at_49)
      have Z174 : n0 ≤ h173.size := Nat.le_trans Z171 (Keep.of_wr W173).1
      have K175 : Keep h0 h173 [] := K172.wr W173 (Or.inr sz_b167)
      have N173 := Fr.snoc X173 N170 ge_b167
      have V173 : Arv Z h173 b167 k167 .char ((9 : Int32) + (0 : Int32)) [(.int (nar .char (115 : Int32))), (.int (nar .char (101 : Int32))), (.int (0 : Int32)), (.int (0 : Int32)), (.int (0 : Int32)), (.int (0 : Int32)), (.int (0 : Int32)), (.int (0 : Int32)), (.int (0 : Int32))] (.int (0 : Int32)) := Arv.set Ar173 q173 S173 M173 Hs173 G173 (fits_nar_char _) W173 1 rfl (Nat.le_of_ble_eq_true rfl)
      obtain ⟨cl176, Ar176, q176, S176, M176, Hs176, G176⟩ := id V173
      obtain ⟨T176, h176, X176, e176, W176, st176⟩ := stC X173 hx hZ e173 Ar176 (j := (2 : Int32)) (inb_of S176 ⟨(by decide), (by decide)⟩) (g := (mkF m 55 #[.val (.int p0), .val (.int p1), .val (.int p2), .val (.int p3), .val (.int (0 : Int32)), .val (.int c5), .val (.int c6), .val (.int c7), .val (.ref b167), .unset, .unset, .unset, .unset] [(.int (113 : Int32)), (.int (2 : Int32)), (.ref b167)])) rfl rfl (hb hby at_55)
      have Z177 : n0 ≤ h176.size := Nat.le_trans Z174 (Keep.of_wr W176).1
      have K178 : Keep h0 h176 [] := K175.wr W176 (Or.inr sz_b167)
      have N176 := Fr.snoc X176 N173 ge_b167
      have V176 : Arv Z h176 b167 k167 .char ((9 : Int32) + (0 : Int32)) [(.int (nar .char (115 : Int32))), (.int (nar .char (101 : Int32))), (.int (nar .char (113 : Int32))), (.int (0 : Int32)), (.int (0 : Int32)), (.int (0 : Int32)), (.int (0 : Int32)), (.int (0 : Int32)), (.int (0 : Int32))] (.int (0 : Int32)) := Arv.set Ar176 q176 S176 M176 Hs176 G176 (fits_nar_char _) W176 2 rfl (Nat.le_of_ble_eq_true rfl)
      obtain ⟨cl179, Ar179, q179, S179, M179, Hs179, G179⟩ := id V176
      obtain ⟨T179, h179, X179, e179, W179, st179⟩ := stC X176 hx hZ e176 Ar179 (j := (3 : Int32)) (inb_of S179 ⟨(by decide), (by decide)⟩) (g := (mkF m 61 #[.val (.int p0), .val (.int p1), .val (.int p2), .val (.int p3), .val (.int (0 : Int32)), .val (.int c5), .val (.int c6), .val (.int c7), .val (.ref b167), .unset, .unset, .unset, .unset] [(.int (117 : Int32)), (.int (3 : Int32)), (.ref b167)])) rfl rfl (hb hby at_61)
      have Z180 : n0 ≤ h179.size := Nat.le_trans Z177 (Keep.of_wr W179).1
      have K181 : Keep h0 h179 [] := K178.wr W179 (Or.inr sz_b167)
      have N179 := Fr.snoc X179 N176 ge_b167
      have V179 : Arv Z h179 b167 k167 .char ((9 : Int32) + (0 : Int32)) [(.int (nar .char (115 : Int32))), (.int (nar .char (101 : Int32))), (.int (nar .char (113 : Int32))), (.int (nar .char (117 : Int32))), (.int (0 : Int32)), (.int (0 : Int32)), (.int (0 : Int32)), (.int (0 : Int32)), (.int (0 : Int32))] (.int (0 : Int32)) := Arv.set Ar179 q179 S179 M179 Hs179 G179 (fits_nar_char _) W179 3 rfl (Nat.le_of_ble_eq_true rfl)
      obtain ⟨cl182, Ar182, q182, S182, M182, Hs182, G182⟩ := id V179
      obtain ⟨T182, h182, X182, e182, W182, st182⟩ := stC X179 hx hZ e179 Ar182 (j := (4 : Int32)) (inb_of S182 ⟨(by decide), (by decide)⟩) (g := (mkF m 67 #[.val (.int p0), .val (.int p1), .val (.int p2), .val (.int p3), .val (.int (0 : Int32)), .val (.int c5), .val (.int c6), .val (.int c7), .val (.ref b167), .unset, .unset, .unset, .unset] [(.int (101 : Int32)), (.int (4 : Int32)), (.ref b167)])) rfl rfl (hb hby at_67)
      have Z183 : n0 ≤ h182.size := Nat.le_trans Z180 (Keep.of_wr W182).1
      have K184 : Keep h0 h182 [] := K181.wr W182 (Or.inr sz_b167)
      have N182 := Fr.snoc X182 N179 ge_b167
      have V182 : Arv Z h182 b167 k167 .char ((9 : Int32) + (0 : Int32)) [(.int (nar .char (115 : Int32))), (.int (nar .char (101 : Int32))), (.int (nar .char (113 : Int32))), (.int (nar .char (117 : Int32))), (.int (nar .char (101 : Int32))), (.int (0 : Int32)), (.int (0 : Int32)), (.int (0 : Int32)), (.int (0 : Int32))] (.int (0 : Int32)) := Arv.set Ar182 q182 S182 M182 Hs182 G182 (fits_nar_char _) W182 4 rfl (Nat.le_of_ble_eq_true rfl)
      obtain ⟨cl185, Ar185, q185, S185, M185, Hs185, G185⟩ := id V182
      obtain ⟨T185, h185, X185, e185, W185, st185⟩ := stC X182 hx hZ e182 Ar185 (j := (5 : Int32)) (inb_of S185 ⟨(by decide), (by decide)⟩) (g := (mkF m 73 #[.val (.int p0), .val (.int p1), .val (.int p2), .val (.int p3), .val (.int (0 : Int32)), .val (.int c5), .val (.int c6), .val (.int c7), .val (.ref b167), .unset, .unset, .unset, .unset] [(.int (110 : Int32)), (.int (5 : Int32)), (.ref b167)])) rfl rfl (hb hby at_73)
      have Z186 : n0 ≤ h185.size := Nat.le_trans Z183 (Keep.of_wr W185).1
      have K187 : Keep h0 h185 [] := K184.wr W185 (Or.inr sz_b167)
      have N185 := Fr.snoc X185 N182 ge_b167
      have V185 : Arv Z h185 b167 k167 .char ((9 : Int32) + (0 : Int32)) [(.int (nar .char (115 : Int32))), (.int (nar .char (101 : Int32))), (.int (nar .char (113 : Int32))), (.int (nar .char (117 : Int32))), (.int (nar .char (101 : Int32))), (.int (nar .char (110 : Int32))), (.int (0 : Int32)), (.int (0 : Int32)), (.int (0 : Int32))] (.int (0 : Int32)) := Arv.set Ar185 q185 S185 M185 Hs185 G185 (fits_nar_char _) W185 5 rfl (Nat.le_of_ble_eq_true rfl)
      obtain ⟨cl188, Ar188, q188, S188, M188, Hs188, G188⟩ := id V185
      obtain ⟨T188, h188, X188, e188, W188, st188⟩ := stC X185 hx hZ e185 Ar188 (j := (6 : Int32)) (inb_of S188 ⟨(by decide), (by decide)⟩) (g := (mkF m 80 #[.val (.int p0), .val (.int p1), .val (.int p2), .val (.int p3), .val (.int (0 : Int32)), .val (.int c5), .val (.int c6), .val (.int c7), .val (.ref b167), .unset, .unset, .unset, .unset] [(.int (99 : Int32)), (.int (6 : Int32)), (.ref b167)])) rfl rfl (hb hby at_80)
      have Z189 : n0 ≤ h188.size := Nat.le_trans Z186 (Keep.of_wr W188).1
      have K190 : Keep h0 h188 [] := K187.wr W188 (Or.inr sz_b167)
      have N188 := Fr.snoc X188 N185 ge_b167
      have V188 : Arv Z h188 b167 k167 .char ((9 : Int32) + (0 : Int32)) [(.int (nar .char (115 : Int32))), (.int (nar .char (101 : Int32))), (.int (nar .char (113 : Int32))), (.int (nar .char (117 : Int32))), (.int (nar .char (101 : Int32))), (.int (nar .char (110 : Int32))), (.int (nar .char (99 : Int32))), (.int (0 : Int32)), (.int (0 : Int32))] (.int (0 : Int32)) := Arv.set Ar188 q188 S188 M188 Hs188 G188 (fits_nar_char _) W188 6 rfl (Nat.le_of_ble_eq_true rfl)
      obtain ⟨cl191, Ar191, q191, S191, M191, Hs191, G191⟩ := id V188
      obtain ⟨T191, h191, X191, e191, W191, st191⟩ := stC X188 hx hZ e188 Ar191 (j := (7 : Int32)) (inb_of S191 ⟨(by decide), (by decide)⟩) (g := (mkF m 87 #[.val (.int p0), .val (.int p1), .val (.int p2), .val (.int p3), .val (.int (0 : Int32)), .val (.int c5), .val (.int c6), .val (.int c7), .val (.ref b167), .unset, .unset, .unset, .unset] [(.int (101 : Int32)), (.int (7 : Int32)), (.ref b167)])) rfl rfl (hb hby at_87)
      have Z192 : n0 ≤ h191.size := Nat.le_trans Z189 (Keep.of_wr W191).1
      have K193 : Keep h0 h191 [] := K190.wr W191 (Or.inr sz_b167)
      have N191 := Fr.snoc X191 N188 ge_b167
      have V191 : Arv Z h191 b167 k167 .char ((9 : Int32) + (0 : Int32)) [(.int (nar .char (115 : Int32))), (.int (nar .char (101 : Int32))), (.int (nar .char (113 : Int32))), (.int (nar .char (117 : Int32))), (.int (nar .char (101 : Int32))), (.int (nar .char (110 : Int32))), (.int (nar .char (99 : Int32))), (.int (nar .char (101 : Int32))), (.int (0 : Int32))] (.int (0 : Int32)) := Arv.set Ar191 q191 S191 M191 Hs191 G191 (fits_nar_char _) W191 7 rfl (Nat.le_of_ble_eq_true rfl)
      obtain ⟨cl194, Ar194, q194, S194, M194, Hs194, G194⟩ := id V191
      obtain ⟨T194, h194, X194, e194, W194, st194⟩ := stC X191 hx hZ e191 Ar194 (j := (8 : Int32)) (inb_of S194 ⟨(by decide), (by decide)⟩) (g := (mkF m 94 #[.val (.int p0), .val (.int p1), .val (.int p2), .val (.int p3), .val (.int (0 : Int32)), .val (.int c5), .val (.int c6), .val (.int c7), .val (.ref b167), .unset, .unset, .unset, .unset] [(.int (32 : Int32)), (.int (8 : Int32)), (.ref b167)])) rfl rfl (hb hby at_94)
      have Z195 : n0 ≤ h194.size := Nat.le_trans Z192 (Keep.of_wr W194).1
      have K196 : Keep h0 h194 [] := K193.wr W194 (Or.inr sz_b167)
      have N194 := Fr.snoc X194 N191 ge_b167
      have V194 : Arv Z h194 b167 k167 .char ((9 : Int32) + (0 : Int32)) [(.int (nar .char (115 : Int32))), (.int (nar .char (101 : Int32))), (.int (nar .char (113 : Int32))), (.int (nar .char (117 : Int32))), (.int (nar .char (101 : Int32))), (.int (nar .char (110 : Int32))), (.int (nar .char (99 : Int32))), (.int (nar .char (101 : Int32))), (.int (nar .char (32 : Int32)))] (.int (0 : Int32)) := Arv.set Ar194 q194 S194 M194 Hs194 G194 (fits_nar_char _) W194 8 rfl (Nat.le_of_ble_eq_true rfl)
      obtain ⟨T197, h197, k197, X197, e197, E197, A197, st197⟩ := newP X194 hx hZ (hw _ (List.mem_of_getElem? (i := 0) rfl)) e194 (g := (mkF m 97 #[.val (.int p0), .val (.int p1), .val (.int p2), .val (.int p3), .val (.int (0 : Int32)), .val (.int c5), .val (.int c6), .val (.int c7), .val (.ref b167), .unset, .unset, .unset, .unset] [(.int (0 : Int32))])) rfl (hb hby at_97) rfl (by decide) (cap := 0) (by decide) (by decide) (by decide) (by decide)
      obtain ⟨b197, g197⟩ : ∃ z, z = h194.size := ⟨_, rfl⟩
      rw [← g197] at A197 st197
      have ge_b197 : n0 ≤ b197 := Nat.le_trans Z195 (Nat.le_of_eq g197.symm)
      have sz_b197 : h0.size ≤ b197 := Nat.le_trans K196.1 (Nat.le_of_eq g197.symm)
      have Z198 : n0 ≤ h197.size := Nat.le_trans Z195 E197.1
      have K199 : Keep h0 h197 [] := K196.ext E197
      have V197 : Arv Z h197 b197 k197 .char (0 : Int32) [] (.int (0 : Int32)) := Arv.new A197 (by decide)
      have hp : ∀ c ∈ ([115, 101, 113, 117, 101, 110, 99, 101, 32] : List Int32), ¬ c < 0 ∧ ¬ (255 : Int32) < c := by
        intro c hc
        simp only [List.mem_cons, List.not_mem_nil, or_false] at hc
        rcases hc with rfl | rfl | rfl | rfl | rfl | rfl | rfl | rfl | rfl <;> first | decide | assumption
      have f200 := (V194.ext E197)
      have V201 : Arv Z h197 b167 k167 .char (Int32.ofNat 9) (([115, 101, 113, 117, 101, 110, 99, 101, 32] : List Int32).map Value.int) (.int (0 : Int32)) := by
        have q := f200
        exact q
      have V202 : Arv Z h197 b197 k197 .char (Int32.ofNat 0) (([] : List Int32).map Value.int) (.int (0 : Int32)) := by
        have q := V197
        exact q
      obtain ⟨T203, h203, X203, e203, E203, A203, D203, -, st203⟩ := newO X197 hx hZ hown (hw _ (List.mem_of_getElem? (i := 1) rfl)) (hw _ (List.mem_of_getElem? (i := 2) rfl)) (hw _ (List.mem_of_getElem? (i := 3) rfl)) e197 (g := (mkF m 157 #[.val (.int p0), .val (.int p1), .val (.int p2), .val (.int p3), .val (.int (0 : Int32)), .val (.int c5), .val (.int c6), .val (.int c7), .val (.ref b167), .val (.ref b197), .unset, .unset, .unset] [])) rfl (hb hby at_157) (by decide) (by decide)
      obtain ⟨b203, g203⟩ : ∃ z, z = h197.size := ⟨_, rfl⟩
      rw [← g203] at A203 D203 st203
      have ge_b203 : n0 ≤ b203 := Nat.le_trans Z198 (Nat.le_of_eq g203.symm)
      have sz_b203 : h0.size ≤ b203 := Nat.le_trans K199.1 (Nat.le_of_eq g203.symm)
      have Z204 : n0 ≤ h203.size := Nat.le_trans Z198 E203.1
      have K205 : Keep h0 h203 [] := K199.ext E203
      have f206 := (V201.ext E203)
      have f207 := ((((((((((((X00.ext E167).wr W170 ge_b167).wr W173 ge_b167).wr W176 ge_b167).wr W179 ge_b167).wr W182 ge_b167).wr W185 ge_b167).wr W188 ge_b167).wr W191 ge_b167).wr W194 ge_b167).ext E197).ext E203)
      obtain ⟨v208, vmx208, ⟨T208, L208, k208, n208⟩, -, X208, ⟨Lc208, hQ208, l208, y208, z208⟩, st208⟩ := X203.specialBack hx (y := (⟨"java/lang/String", "<init>", "([C)V"⟩ : MethodName)) rfl hown (mvT hZ (hw _ (List.mem_of_getElem? (i := 4) rfl))) (mvT hZ (hw _ (List.mem_of_getElem? (i := 5) rfl))) (mvT hZ (hw _ (List.mem_of_getElem? (i := 6) rfl))) (by decide) (StrChars.Road.backV (W := 1) hZ hws (kI := 4) (hw _ (List.mem_of_getElem? (i := 2) rfl)) (cs := ([115, 101, 113, 117, 101, 110, 99, 101, 32] : List Int32)) (bs := (([115, 101, 113, 117, 101, 110, 99, 101, 32] : List Int32)).map (fun c => c.toInt8.toInt32)) (n := 9) ge_b203 Z204 A203 (D203 (Or.inr (hw _ (List.mem_of_getElem? (i := 29) rfl))) (ty := (.array .byte)) (by decide)) (D203 (Or.inr (hw _ (List.mem_of_getElem? (i := 27) rfl))) (ty := .byte) (by decide)) f206 (O2.ext f207.2) P5 rfl rfl (by decide) (by decide) hp rfl (by decide) (by decide)) (g := (mkF m 163 #[.val (.int p0), .val (.int p1), .val (.int p2), .val (.int p3), .val (.int (0 : Int32)), .val (.int c5), .val (.int c6), .val (.int c7), .val (.ref b167), .val (.ref b197), .unset, .unset, .unset] [(.ref b167), (.ref b203), (.ref b203)])) rfl (by rw [hml]; rfl) (Steps.refl _) (a := b203) (argsL := [(.ref b167)]) (rest := [(.ref b203)]) (lenOf own_pd15 rfl) rfl (by show 2 * 0 + _ ≤ _; exact Nat.le_of_eq rfl) (hb hby at_163) (fun _ _ => ⟨rfl, e203, (by decide : 3 + 1 ≤ _), (by decide : 13 + 9 ≤ _)⟩)
      dsimp only [Pt.U, Pt.locs, Pt.cells, Pt.slots] at X208 l208 y208 z208 st208 hQ208
      subst l208 y208 z208
      obtain ⟨rfl, Nq208, K208, fe208, fc208, t208, kb208, u1208, u2208, u3208, fv208, fa208⟩ := hQ208
      have N208 := Fr.app N194 Nq208
      have Z209 : n0 ≤ T208.heap.size := Nat.le_trans Z204 K208.1
      have K210 : Keep h0 T208.heap [] := K205.trans K208 (allS (Or.inr sz_b203) all0)
      have f211 := ((V202.ext E203).keep K208 (ninS (Nat.ne_of_lt (Nat.lt_of_lt_of_le V202.lt (Nat.le_of_eq g203.symm))) nin0))
      refine ⟨T208, _, _, b167, b197, k197, b203, ([] : List Int32), own_up X208 (by decide) (by decide), rfl, own_ext K210, N208, f211, ⟨hp, Nat.le_of_ble_eq_true rfl, fe208, fc208, t208, kb208, fv208, fa208⟩, Or.inl rfl, fun target hk => ?_⟩
      show Steps p.tables e below (s₁.setTop (mkF m 29 #[.val (.int p0), .val (.int p1), .val (.int p2), .val (.int p3), .val (.int (0 : Int32)), .val (.int c5), .val (.int c6), .val (.int c7), .unset, .unset, .unset, .unset, .unset] [])) _
      refine XS.bipush X0.here hx rfl (hb hby at_29) ?_
      show Steps p.tables e below (s₁.setTop (mkF m 31 #[.val (.int p0), .val (.int p1), .val (.int p2), .val (.int p3), .val (.int (0 : Int32)), .val (.int c5), .val (.int c6), .val (.int c7), .unset, .unset, .unset, .unset, .unset] [(.int (9 : Int32))])) _
      refine XS.iload X0.here hx rfl (hb hby at_31) rfl ?_
      show Steps p.tables e below (s₁.setTop (mkF m 33 #[.val (.int p0), .val (.int p1), .val (.int p2), .val (.int p3), .val (.int (0 : Int32)), .val (.int c5), .val (.int c6), .val (.int c7), .unset, .unset, .unset, .unset, .unset] [(.int (0 : Int32)), (.int (9 : Int32))])) _
      refine XS.iadd X0.here hx rfl (hb hby at_33) rfl ?_
      show Steps p.tables e below (s₁.setTop (mkF m 34 #[.val (.int p0), .val (.int p1), .val (.int p2), .val (.int p3), .val (.int (0 : Int32)), .val (.int c5), .val (.int c6), .val (.int c7), .unset, .unset, .unset, .unset, .unset] [(.int ((9 : Int32) + (0 : Int32)))])) _
      refine st167 _ ?_
      show Steps p.tables e below (T167.setTop (mkF m 36 #[.val (.int p0), .val (.int p1), .val (.int p2), .val (.int p3), .val (.int (0 : Int32)), .val (.int c5), .val (.int c6), .val (.int c7), .unset, .unset, .unset, .unset, .unset] [(.ref b167)])) _
      refine XS.astore X167.here hx rfl (hb hby at_36) rfl rfl (l' := #[.val (.int p0), .val (.int p1), .val (.int p2), .val (.int p3), .val (.int (0 : Int32)), .val (.int c5), .val (.int c6), .val (.int c7), .val (.ref b167), .unset, .unset, .unset, .unset]) rfl ?_
      show Steps p.tables e below (T167.setTop (mkF m 38 #[.val (.int p0), .val (.int p1), .val (.int p2), .val (.int p3), .val (.int (0 : Int32)), .val (.int c5), .val (.int c6), .val (.int c7), .val (.ref b167), .unset, .unset, .unset, .unset] [])) _
      refine XS.aload X167.here hx rfl (hb hby at_38) rfl rfl ?_
      show Steps p.tables e below (T167.setTop (mkF m 40 #[.val (.int p0), .val (.int p1), .val (.int p2), .val (.int p3), .val (.int (0 : Int32)), .val (.int c5), .val (.int c6), .val (.int c7), .val (.ref b167), .unset, .unset, .unset, .unset] [(.ref b167)])) _
      refine XS.iconst X167.here hx rfl (hb hby at_40) ?_
      show Steps p.tables e below (T167.setTop (mkF m 41 #[.val (.int p0), .val (.int p1), .val (.int p2), .val (.int p3), .val (.int (0 : Int32)), .val (.int c5), .val (.int c6), .val (.int c7), .val (.ref b167), .unset, .unset, .unset, .unset] [(.int (0 : Int32)), (.ref b167)])) _
      refine XS.bipush X167.here hx rfl (hb hby at_41) ?_
      show Steps p.tables e below (T167.setTop (mkF m 43 #[.val (.int p0), .val (.int p1), .val (.int p2), .val (.int p3), .val (.int (0 : Int32)), .val (.int c5), .val (.int c6), .val (.int c7), .val (.ref b167), .unset, .unset, .unset, .unset] [(.int (115 : Int32)), (.int (0 : Int32)), (.ref b167)])) _
      refine st170 _ ?_
      show Steps p.tables e below (T170.setTop (mkF m 44 #[.val (.int p0), .val (.int p1), .val (.int p2), .val (.int p3), .val (.int (0 : Int32)), .val (.int c5), .val (.int c6), .val (.int c7), .val (.ref b167), .unset, .unset, .unset, .unset] [])) _
      refine XS.aload X170.here hx rfl (hb hby at_44) rfl rfl ?_
      show Steps p.tables e below (T170.setTop (mkF m 46 #[.val (.int p0), .val (.int p1), .val (.int p2), .val (.int p3), .val (.int (0 : Int32)), .val (.int c5), .val (.int c6), .val (.int c7), .val (.ref b167), .unset, .unset, .unset, .unset] [(.ref b167)])) _
      refine XS.iconst X170.here hx rfl (hb hby at_46) ?_
      show Steps p.tables e below (T170.setTop (mkF m 47 #[.val (.int p0), .val (.int p1), .val (.int p2), .val (.int p3), .val (.int (0 : Int32)), .val (.int c5), .val (.int c6), .val (.int c7), .val (.ref b167), .unset, .unset, .unset, .unset] [(.int (1 : Int32)), (.ref b167)])) _
      refine XS.bipush X170.here hx rfl (hb hby at_47) ?_
      show Steps p.tables e below (T170.setTop (mkF m 49 #[.val (.int p0), .val (.int p1), .val (.int p2), .val (.int p3), .val (.int (0 : Int32)), .val (.int c5), .val (.int c6), .val (.int c7), .val (.ref b167), .unset, .unset, .unset, .unset] [(.int (101 : Int32)), (.int (1 : Int32)), (.ref b167)])) _
      refine st173 _ ?_
      show Steps p.tables e below (T173.setTop (mkF m 50 #[.val (.int p0), .val (.int p1), .val (.int p2), .val (.int p3), .val (.int (0 : Int32)), .val (.int c5), .val (.int c6), .val (.int c7), .val (.ref b167), .unset, .unset, .unset, .unset] [])) _
      refine XS.aload X173.here hx rfl (hb hby at_50) rfl rfl ?_
      show Steps p.tables e below (T173.setTop (mkF m 52 #[.val (.int p0), .val (.int p1), .val (.int p2), .val (.int p3), .val (.int (0 : Int32)), .val (.int c5), .val (.int c6), .val (.int c7), .val (.ref b167), .unset, .unset, .unset, .unset] [(.ref b167)])) _
      refine XS.iconst X173.here hx rfl (hb hby at_52) ?_
      show Steps p.tables e below (T173.setTop (mkF m 53 #[.val (.int p0), .val (.int p1), .val (.int p2), .val (.int p3), .val (.int (0 : Int32)), .val (.int c5), .val (.int c6), .val (.int c7), .val (.ref b167), .unset, .unset, .unset, .unset] [(.int (2 : Int32)), (.ref b167)])) _
      refine XS.bipush X173.here hx rfl (hb hby at_53) ?_
      show Steps p.tables e below (T173.setTop (mkF m 55 #[.val (.int p0), .val (.int p1), .val (.int p2), .val (.int p3), .val (.int (0 : Int32)), .val (.int c5), .val (.int c6), .val (.int c7), .val (.ref b167), .unset, .unset, .unset, .unset] [(.int (113 : Int32)), (.int (2 : Int32)), (.ref b167)])) _
      refine st176 _ ?_
      show Steps p.tables e below (T176.setTop (mkF m 56 #[.val (.int p0), .val (.int p1), .val (.int p2), .val (.int p3), .val (.int (0 : Int32)), .val (.int c5), .val (.int c6), .val (.int c7), .val (.ref b167), .unset, .unset, .unset, .unset] [])) _
      refine XS.aload X176.here hx rfl (hb hby at_56) rfl rfl ?_
      show Steps p.tables e below (T176.setTop (mkF m 58 #[.val (.int p0), .val (.int p1), .val (.int p2), .val (.int p3), .val (.int (0 : Int32)), .val (.int c5), .val (.int c6), .val (.int c7), .val (.ref b167), .unset, .unset, .unset, .unset] [(.ref b167)])) _
      refine XS.iconst X176.here hx rfl (hb hby at_58) ?_
      show Steps p.tables e below (T176.setTop (mkF m 59 #[.val (.int p0), .val (.int p1), .val (.int p2), .val (.int p3), .val (.int (0 : Int32)), .val (.int c5), .val (.int c6), .val (.int c7), .val (.ref b167), .unset, .unset, .unset, .unset] [(.int (3 : Int32)), (.ref b167)])) _
      refine XS.bipush X176.here hx rfl (hb hby at_59) ?_
      show Steps p.tables e below (T176.setTop (mkF m 61 #[.val (.int p0), .val (.int p1), .val (.int p2), .val (.int p3), .val (.int (0 : Int32)), .val (.int c5), .val (.int c6), .val (.int c7), .val (.ref b167), .unset, .unset, .unset, .unset] [(.int (117 : Int32)), (.int (3 : Int32)), (.ref b167)])) _
      refine st179 _ ?_
      show Steps p.tables e below (T179.setTop (mkF m 62 #[.val (.int p0), .val (.int p1), .val (.int p2), .val (.int p3), .val (.int (0 : Int32)), .val (.int c5), .val (.int c6), .val (.int c7), .val (.ref b167), .unset, .unset, .unset, .unset] [])) _
      refine XS.aload X179.here hx rfl (hb hby at_62) rfl rfl ?_
      show Steps p.tables e below (T179.setTop (mkF m 64 #[.val (.int p0), .val (.int p1), .val (.int p2), .val (.int p3), .val (.int (0 : Int32)), .val (.int c5), .val (.int c6), .val (.int c7), .val (.ref b167), .unset, .unset, .unset, .unset] [(.ref b167)])) _
      refine XS.iconst X179.here hx rfl (hb hby at_64) ?_
      show Steps p.tables e below (T179.setTop (mkF m 65 #[.val (.int p0), .val (.int p1), .val (.int p2), .val (.int p3), .val (.int (0 : Int32)), .val (.int c5), .val (.int c6), .val (.int c7), .val (.ref b167), .unset, .unset, .unset, .unset] [(.int (4 : Int32)), (.ref b167)])) _
      refine XS.bipush X179.here hx rfl (hb hby at_65) ?_
      show Steps p.tables e below (T179.setTop (mkF m 67 #[.val (.int p0), .val (.int p1), .val (.int p2), .val (.int p3), .val (.int (0 : Int32)), .val (.int c5), .val (.int c6), .val (.int c7), .val (.ref b167), .unset, .unset, .unset, .unset] [(.int (101 : Int32)), (.int (4 : Int32)), (.ref b167)])) _
      refine st182 _ ?_
      show Steps p.tables e below (T182.setTop (mkF m 68 #[.val (.int p0), .val (.int p1), .val (.int p2), .val (.int p3), .val (.int (0 : Int32)), .val (.int c5), .val (.int c6), .val (.int c7), .val (.ref b167), .unset, .unset, .unset, .unset] [])) _
      refine XS.aload X182.here hx rfl (hb hby at_68) rfl rfl ?_
      show Steps p.tables e below (T182.setTop (mkF m 70 #[.val (.int p0), .val (.int p1), .val (.int p2), .val (.int p3), .val (.int (0 : Int32)), .val (.int c5), .val (.int c6), .val (.int c7), .val (.ref b167), .unset, .unset, .unset, .unset] [(.ref b167)])) _
      refine XS.iconst X182.here hx rfl (hb hby at_70) ?_
      show Steps p.tables e below (T182.setTop (mkF m 71 #[.val (.int p0), .val (.int p1), .val (.int p2), .val (.int p3), .val (.int (0 : Int32)), .val (.int c5), .val (.int c6), .val (.int c7), .val (.ref b167), .unset, .unset, .unset, .unset] [(.int (5 : Int32)), (.ref b167)])) _
      refine XS.bipush X182.here hx rfl (hb hby at_71) ?_
      show Steps p.tables e below (T182.setTop (mkF m 73 #[.val (.int p0), .val (.int p1), .val (.int p2), .val (.int p3), .val (.int (0 : Int32)), .val (.int c5), .val (.int c6), .val (.int c7), .val (.ref b167), .unset, .unset, .unset, .unset] [(.int (110 : Int32)), (.int (5 : Int32)), (.ref b167)])) _
      refine st185 _ ?_
      show Steps p.tables e below (T185.setTop (mkF m 74 #[.val (.int p0), .val (.int p1), .val (.int p2), .val (.int p3), .val (.int (0 : Int32)), .val (.int c5), .val (.int c6), .val (.int c7), .val (.ref b167), .unset, .unset, .unset, .unset] [])) _
      refine XS.aload X185.here hx rfl (hb hby at_74) rfl rfl ?_
      show Steps p.tables e below (T185.setTop (mkF m 76 #[.val (.int p0), .val (.int p1), .val (.int p2), .val (.int p3), .val (.int (0 : Int32)), .val (.int c5), .val (.int c6), .val (.int c7), .val (.ref b167), .unset, .unset, .unset, .unset] [(.ref b167)])) _
      refine XS.bipush X185.here hx rfl (hb hby at_76) ?_
      show Steps p.tables e below (T185.setTop (mkF m 78 #[.val (.int p0), .val (.int p1), .val (.int p2), .val (.int p3), .val (.int (0 : Int32)), .val (.int c5), .val (.int c6), .val (.int c7), .val (.ref b167), .unset, .unset, .unset, .unset] [(.int (6 : Int32)), (.ref b167)])) _
      refine XS.bipush X185.here hx rfl (hb hby at_78) ?_
      show Steps p.tables e below (T185.setTop (mkF m 80 #[.val (.int p0), .val (.int p1), .val (.int p2), .val (.int p3), .val (.int (0 : Int32)), .val (.int c5), .val (.int c6), .val (.int c7), .val (.ref b167), .unset, .unset, .unset, .unset] [(.int (99 : Int32)), (.int (6 : Int32)), (.ref b167)])) _
      refine st188 _ ?_
      show Steps p.tables e below (T188.setTop (mkF m 81 #[.val (.int p0), .val (.int p1), .val (.int p2), .val (.int p3), .val (.int (0 : Int32)), .val (.int c5), .val (.int c6), .val (.int c7), .val (.ref b167), .unset, .unset, .unset, .unset] [])) _
      refine XS.aload X188.here hx rfl (hb hby at_81) rfl rfl ?_
      show Steps p.tables e below (T188.setTop (mkF m 83 #[.val (.int p0), .val (.int p1), .val (.int p2), .val (.int p3), .val (.int (0 : Int32)), .val (.int c5), .val (.int c6), .val (.int c7), .val (.ref b167), .unset, .unset, .unset, .unset] [(.ref b167)])) _
      refine XS.bipush X188.here hx rfl (hb hby at_83) ?_
      show Steps p.tables e below (T188.setTop (mkF m 85 #[.val (.int p0), .val (.int p1), .val (.int p2), .val (.int p3), .val (.int (0 : Int32)), .val (.int c5), .val (.int c6), .val (.int c7), .val (.ref b167), .unset, .unset, .unset, .unset] [(.int (7 : Int32)), (.ref b167)])) _
      refine XS.bipush X188.here hx rfl (hb hby at_85) ?_
      show Steps p.tables e below (T188.setTop (mkF m 87 #[.val (.int p0), .val (.int p1), .val (.int p2), .val (.int p3), .val (.int (0 : Int32)), .val (.int c5), .val (.int c6), .val (.int c7), .val (.ref b167), .unset, .unset, .unset, .unset] [(.int (101 : Int32)), (.int (7 : Int32)), (.ref b167)])) _
      refine st191 _ ?_
      show Steps p.tables e below (T191.setTop (mkF m 88 #[.val (.int p0), .val (.int p1), .val (.int p2), .val (.int p3), .val (.int (0 : Int32)), .val (.int c5), .val (.int c6), .val (.int c7), .val (.ref b167), .unset, .unset, .unset, .unset] [])) _
      refine XS.aload X191.here hx rfl (hb hby at_88) rfl rfl ?_
      show Steps p.tables e below (T191.setTop (mkF m 90 #[.val (.int p0), .val (.int p1), .val (.int p2), .val (.int p3), .val (.int (0 : Int32)), .val (.int c5), .val (.int c6), .val (.int c7), .val (.ref b167), .unset, .unset, .unset, .unset] [(.ref b167)])) _
      refine XS.bipush X191.here hx rfl (hb hby at_90) ?_
      show Steps p.tables e below (T191.setTop (mkF m 92 #[.val (.int p0), .val (.int p1), .val (.int p2), .val (.int p3), .val (.int (0 : Int32)), .val (.int c5), .val (.int c6), .val (.int c7), .val (.ref b167), .unset, .unset, .unset, .unset] [(.int (8 : Int32)), (.ref b167)])) _
      refine XS.bipush X191.here hx rfl (hb hby at_92) ?_
      show Steps p.tables e below (T191.setTop (mkF m 94 #[.val (.int p0), .val (.int p1), .val (.int p2), .val (.int p3), .val (.int (0 : Int32)), .val (.int c5), .val (.int c6), .val (.int c7), .val (.ref b167), .unset, .unset, .unset, .unset] [(.int (32 : Int32)), (.int (8 : Int32)), (.ref b167)])) _
      refine st194 _ ?_
      show Steps p.tables e below (T194.setTop (mkF m 95 #[.val (.int p0), .val (.int p1), .val (.int p2), .val (.int p3), .val (.int (0 : Int32)), .val (.int c5), .val (.int c6), .val (.int c7), .val (.ref b167), .unset, .unset, .unset, .unset] [])) _
      refine XS.iload X194.here hx rfl (hb hby at_95) rfl ?_
      show Steps p.tables e below (T194.setTop (mkF m 97 #[.val (.int p0), .val (.int p1), .val (.int p2), .val (.int p3), .val (.int (0 : Int32)), .val (.int c5), .val (.int c6), .val (.int c7), .val (.ref b167), .unset, .unset, .unset, .unset] [(.int (0 : Int32))])) _
      refine st197 _ ?_
      show Steps p.tables e below (T197.setTop (mkF m 99 #[.val (.int p0), .val (.int p1), .val (.int p2), .val (.int p3), .val (.int (0 : Int32)), .val (.int c5), .val (.int c6), .val (.int c7), .val (.ref b167), .unset, .unset, .unset, .unset] [(.ref b197)])) _
      refine XS.astore X197.here hx rfl (hb hby at_99) rfl rfl (l' := #[.val (.int p0), .val (.int p1), .val (.int p2), .val (.int p3), .val (.int (0 : Int32)), .val (.int c5), .val (.int c6), .val (.int c7), .val (.ref b167), .val (.ref b197), .unset, .unset, .unset]) rfl ?_
      show Steps p.tables e below (T197.setTop (mkF m 101 #[.val (.int p0), .val (.int p1), .val (.int p2), .val (.int p3), .val (.int (0 : Int32)), .val (.int c5), .val (.int c6), .val (.int c7), .val (.ref b167), .val (.ref b197), .unset, .unset, .unset] [])) _
      refine XS.iload X197.here hx rfl (hb hby at_101) rfl ?_
      show Steps p.tables e below (T197.setTop (mkF m 103 #[.val (.int p0), .val (.int p1), .val (.int p2), .val (.int p3), .val (.int (0 : Int32)), .val (.int c5), .val (.int c6), .val (.int c7), .val (.ref b167), .val (.ref b197), .unset, .unset, .unset] [(.int (0 : Int32))])) _
      refine XS.ifYes X197.here hx rfl (pc0 := 103) (pc' := 119) rfl (hb hby at_103) rfl ((if0 _ _).trans (flt (by decide)).2.2.2) (by decide) (by decide) ?_
      show Steps p.tables e below (T197.setTop (mkF m 119 #[.val (.int p0), .val (.int p1), .val (.int p2), .val (.int p3), .val (.int (0 : Int32)), .val (.int c5), .val (.int c6), .val (.int c7), .val (.ref b167), .val (.ref b197), .unset, .unset, .unset] [])) _
      refine XS.iload X197.here hx rfl (hb hby at_119) rfl ?_
      show Steps p.tables e below (T197.setTop (mkF m 121 #[.val (.int p0), .val (.int p1), .val (.int p2), .val (.int p3), .val (.int (0 : Int32)), .val (.int c5), .val (.int c6), .val (.int c7), .val (.ref b167), .val (.ref b197), .unset, .unset, .unset] [(.int (0 : Int32))])) _
      refine XS.iconst X197.here hx rfl (hb hby at_121) ?_
      show Steps p.tables e below (T197.setTop (mkF m 122 #[.val (.int p0), .val (.int p1), .val (.int p2), .val (.int p3), .val (.int (0 : Int32)), .val (.int c5), .val (.int c6), .val (.int c7), .val (.ref b167), .val (.ref b197), .unset, .unset, .unset] [(.int (1 : Int32)), (.int (0 : Int32))])) _
      refine XS.icmpYes X197.here hx rfl (pc0 := 122) (pc' := 138) rfl (hb hby at_122) rfl (flt (by decide)).2.2.2 (by decide) (by decide) ?_
      show Steps p.tables e below (T197.setTop (mkF m 138 #[.val (.int p0), .val (.int p1), .val (.int p2), .val (.int p3), .val (.int (0 : Int32)), .val (.int c5), .val (.int c6), .val (.int c7), .val (.ref b167), .val (.ref b197), .unset, .unset, .unset] [])) _
      refine XS.iload X197.here hx rfl (hb hby at_138) rfl ?_
      show Steps p.tables e below (T197.setTop (mkF m 140 #[.val (.int p0), .val (.int p1), .val (.int p2), .val (.int p3), .val (.int (0 : Int32)), .val (.int c5), .val (.int c6), .val (.int c7), .val (.ref b167), .val (.ref b197), .unset, .unset, .unset] [(.int (0 : Int32))])) _
      refine XS.iconst X197.here hx rfl (hb hby at_140) ?_
      show Steps p.tables e below (T197.setTop (mkF m 141 #[.val (.int p0), .val (.int p1), .val (.int p2), .val (.int p3), .val (.int (0 : Int32)), .val (.int c5), .val (.int c6), .val (.int c7), .val (.ref b167), .val (.ref b197), .unset, .unset, .unset] [(.int (2 : Int32)), (.int (0 : Int32))])) _
      refine XS.icmpYes X197.here hx rfl (pc0 := 141) (pc' := 157) rfl (hb hby at_141) rfl (flt (by decide)).2.2.2 (by decide) (by decide) ?_
      show Steps p.tables e below (T197.setTop (mkF m 157 #[.val (.int p0), .val (.int p1), .val (.int p2), .val (.int p3), .val (.int (0 : Int32)), .val (.int c5), .val (.int c6), .val (.int c7), .val (.ref b167), .val (.ref b197), .unset, .unset, .unset] [])) _
      refine st203 _ ?_
      show Steps p.tables e below (T203.setTop (mkF m 160 #[.val (.int p0), .val (.int p1), .val (.int p2), .val (.int p3), .val (.int (0 : Int32)), .val (.int c5), .val (.int c6), .val (.int c7), .val (.ref b167), .val (.ref b197), .unset, .unset, .unset] [(.ref b203)])) _
      refine XS.dup X203.here hx rfl (hb hby at_160) rfl rfl ?_
      show Steps p.tables e below (T203.setTop (mkF m 161 #[.val (.int p0), .val (.int p1), .val (.int p2), .val (.int p3), .val (.int (0 : Int32)), .val (.int c5), .val (.int c6), .val (.int c7), .val (.ref b167), .val (.ref b197), .unset, .unset, .unset] [(.ref b203), (.ref b203)])) _
      refine XS.aload X203.here hx rfl (hb hby at_161) rfl rfl ?_
      show Steps p.tables e below (T203.setTop (mkF m 163 #[.val (.int p0), .val (.int p1), .val (.int p2), .val (.int p3), .val (.int (0 : Int32)), .val (.int c5), .val (.int c6), .val (.int c7), .val (.ref b167), .val (.ref b197), .unset, .unset, .unset] [(.ref b167), (.ref b203), (.ref b203)])) _
      refine st208.trans ?_
      show Steps p.tables e below (T208.setTop (mkF m 166 #[.val (.int p0), .val (.int p1), .val (.int p2), .val (.int p3), .val (.int (0 : Int32)), .val (.int c5), .val (.int c6), .val (.int c7), .val (.ref b167), .val (.ref b197), .unset, .unset, .unset] [(.ref b203)])) _
      refine XS.astore X208.here hx rfl (hb hby at_166) rfl rfl (l' := #[.val (.int p0), .val (.int p1), .val (.int p2), .val (.int p3), .val (.int (0 : Int32)), .val (.int c5), .val (.int c6), .val (.int c7), .val (.ref b167), .val (.ref b197), .val (.ref b203), .unset, .unset]) rfl ?_
      exact hk
    · skip
      obtain ⟨T212, h212, k212, X212, e212, E212, A212, st212⟩ := newP X0 hx hZ (hw _ (List.mem_of_getElem? (i := 0) rfl)) e0 (g := (mkF m 34 #[.val (.int p0), .val (.int p1), .val (.int p2), .val (.int p3), .val (.int (1 : Int32)), .val (.int c5), .val (.int c6), .val (.int c7), .unset, .unset, .unset, .unset, .unset] [(.int ((9 : Int32) + (1 : Int32)))])) rfl (hb hby at_34) rfl (by decide) (cap := 10) (by decide) (by decide) (by decide) (by decide)
      obtain ⟨b212, g212⟩ : ∃ z, z = h0.size := ⟨_, rfl⟩
      rw [← g212] at A212 st212
      have ge_b212 : n0 ≤ b212 := Nat.le_trans Z0 (Nat.le_of_eq g212.symm)
      have sz_b212 : h0.size ≤ b212 := Nat.le_trans (Keep.refl h0 []).1 (Nat.le_of_eq g212.symm)
      have Z213 : n0 ≤ h212.size := Nat.le_trans Z0 E212.1
      have K214 : Keep h0 h212 [] := (Keep.refl h0 []).ext E212
      have V212 : Arv Z h212 b212 k212 .char ((9 : Int32) + (1 : Int32)) [(.int (0 : Int32)), (.int (0 : Int32)), (.int (0 : Int32)), (.int (0 : Int32)), (.int (0 : Int32)), (.int (0 : Int32)), (.int (0 : Int32)), (.int (0 : Int32)), (.int (0 : Int32)), (.int (0 : Int32))] (.int (0 : Int32)) := (Arv.new A212 (by decide)).pad (pad_rep [] (.int (0 : Int32)) 10)
      obtain ⟨cl215, Ar215, q215, S215, M215, Hs215, G215⟩ := id V212
      obtain ⟨T215, h215, X215, e215, W215, st215⟩ := stC X212 hx hZ e212 Ar215 (j := (0 : Int32)) (inb_of S215 ⟨(by decide), (by decide)⟩) (g := (mkF m 43 #[.val (.int p0), .val (.int p1), .val (.int p2), .val (.int p3), .val (.int (1 : Int32)), .val (.int c5), .val (.int c6), .val (.int c7), .val (.ref b212), .unset, .unset, .unset, .unset] [(.int (115 : Int32)), (.int (0 : Int32)), (.ref b212)])) rfl rfl (hb hby at_43)
      have Z216 : n0 ≤ h215.size := Nat.le_trans Z213 (Keep.of_wr W215).1
      have K217 : Keep h0 h215 [] := K214.wr W215 (Or.inr sz_b212)
      have N215 := Fr.snoc X215 N0 ge_b212
      have V215 : Arv Z h215 b212 k212 .char ((9 : Int32) + (1 : Int32)) [(.int (nar .char (115 : Int32))), (.int (0 : Int32)), (.int (0 : Int32)), (.int (0 : Int32)), (.int (0 : Int32)), (.int (0 : Int32)), (.int (0 : Int32)), (.int (0 : Int32)), (.int (0 : Int32)), (.int (0 : Int32))] (.int (0 : Int32)) := Arv.set Ar215 q215 S215 M215 Hs215 G215 (fits_nar_char _) W215 0 rfl (Nat.le_of_ble_eq_true rfl)
      obtain ⟨cl218, Ar218, q218, S218, M218, Hs218, G218⟩ := id V215
      obtain ⟨T218, h218, X218, e218, W218, st218⟩ := stC X215 hx hZ e215 Ar218 (j := (1 : Int32)) (inb_of S218 ⟨(by decide), (by decide)⟩) (g := (mkF m 49 #[.val (.int p0), .val (.int p1), .val (.int p2), .val (.int p3), .val (.int (1 : Int32)), .val (.int c5), .val (.int c6), .val (.int c7), .val (.ref b212), .unset, .unset, .unset, .unset] [(.int (101 : Int32)), (.int (1 : Int32)), (.ref b212)])) rfl rfl (hb hby at_49)
      have Z219 : n0 ≤ h218.size := Nat.le_trans Z216 (Keep.of_wr W218).1
      have K220 : Keep h0 h218 [] := K217.wr W218 (Or.inr sz_b212)
      have N218 := Fr.snoc X218 N215 ge_b212
      have V218 : Arv Z h218 b212 k212 .char ((9 : Int32) + (1 : Int32)) [(.int (nar .char (115 : Int32))), (.int (nar .char (101 : Int32))), (.int (0 : Int32)), (.int (0 : Int32)), (.int (0 : Int32)), (.int (0 : Int32)), (.int (0 : Int32)), (.int (0 : Int32)), (.int (0 : Int32)), (.int (0 : Int32))] (.int (0 : Int32)) := Arv.set Ar218 q218 S218 M218 Hs218 G218 (fits_nar_char _) W218 1 rfl (Nat.le_of_ble_eq_true rfl)
      obtain ⟨cl221, Ar221, q221, S221, M221, Hs221, G221⟩ := id V218
      obtain ⟨T221, h221, X221, e221, W221, st221⟩ := stC X218 hx hZ e218 Ar221 (j := (2 : Int32)) (inb_of S221 ⟨(by decide), (by decide)⟩) (g := (mkF m 55 #[.val (.int p0), .val (.int p1), .val (.int p2), .val (.int p3), .val (.int (1 : Int32)), .val (.int c5), .val (.int c6), .val (.int c7), .val (.ref b212), .unset, .unset, .unset, .unset] [(.int (113 : Int32)), (.int (2 : Int32)), (.ref b212)])) rfl rfl (hb hby at_55)
      have Z222 : n0 ≤ h221.size := Nat.le_trans Z219 (Keep.of_wr W221).1
      have K223 : Keep h0 h221 [] := K220.wr W221 (Or.inr sz_b212)
      have N221 := Fr.snoc X221 N218 ge_b212
      have V221 : Arv Z h221 b212 k212 .char ((9 : Int32) + (1 : Int32)) [(.int (nar .char (115 : Int32))), (.int (nar .char (101 : Int32))), (.int (nar .char (113 : Int32))), (.int (0 : Int32)), (.int (0 : Int32)), (.int (0 : Int32)), (.int (0 : Int32)), (.int (0 : Int32)), (.int (0 : Int32)), (.int (0 : Int32))] (.int (0 : Int32)) := Arv.set Ar221 q221 S221 M221 Hs221 G221 (fits_nar_char _) W221 2 rfl (Nat.le_of_ble_eq_true rfl)
      obtain ⟨cl224, Ar224, q224, S224, M224, Hs224, G224⟩ := id V221
      obtain ⟨T224, h224, X224, e224, W224, st224⟩ := stC X221 hx hZ e221 Ar224 (j := (3 : Int32)) (inb_of S224 ⟨(by decide), (by decide)⟩) (g := (mkF m 61 #[.val (.int p0), .val (.int p1), .val (.int p2), .val (.int p3), .val (.int (1 : Int32)), .val (.int c5), .val (.int c6), .val (.int c7), .val (.ref b212), .unset, .unset, .unset, .unset] [(.int (117 : Int32)), (.int (3 : Int32)), (.ref b212)])) rfl rfl (hb hby at_61)
      have Z225 : n0 ≤ h224.size := Nat.le_trans Z222 (Keep.of_wr W224).1
      have K226 : Keep h0 h224 [] := K223.wr W224 (Or.inr sz_b212)
      have N224 := Fr.snoc X224 N221 ge_b212
      have V224 : Arv Z h224 b212 k212 .char ((9 : Int32) + (1 : Int32)) [(.int (nar .char (115 : Int32))), (.int (nar .char (101 : Int32))), (.int (nar .char (113 : Int32))), (.int (nar .char (117 : Int32))), (.int (0 : Int32)), (.int (0 : Int32)), (.int (0 : Int32)), (.int (0 : Int32)), (.int (0 : Int32)), (.int (0 : Int32))] (.int (0 : Int32)) := Arv.set Ar224 q224 S224 M224 Hs224 G224 (fits_nar_char _) W224 3 rfl (Nat.le_of_ble_eq_true rfl)
      obtain ⟨cl227, Ar227, q227, S227, M227, Hs227, G227⟩ := id V224
      obtain ⟨T227, h227, X227, e227, W227, st227⟩ := stC X224 hx hZ e224 Ar227 (j := (4 : Int32)) (inb_of S227 ⟨(by decide), (by decide)⟩) (g := (mkF m 67 #[.val (.int p0), .val (.int p1), .val (.int p2), .val (.int p3), .val (.int (1 : Int32)), .val (.int c5), .val (.int c6), .val (.int c7), .val (.ref b212), .unset, .unset, .unset, .unset] [(.int (101 : Int32)), (.int (4 : Int32)), (.ref b212)])) rfl rfl (hb hby at_67)
      have Z228 : n0 ≤ h227.size := Nat.le_trans Z225 (Keep.of_wr W227).1
      have K229 : Keep h0 h227 [] := K226.wr W227 (Or.inr sz_b212)
      have N227 := Fr.snoc X227 N224 ge_b212
      have V227 : Arv Z h227 b212 k212 .char ((9 : Int32) + (1 : Int32)) [(.int (nar .char (115 : Int32))), (.int (nar .char (101 : Int32))), (.int (nar .char (113 : Int32))), (.int (nar .char (117 : Int32))), (.int (nar .char (101 : Int32))), (.int (0 : Int32)), (.int (0 : Int32)), (.int (0 : Int32)), (.int (0 : Int32)), (.int (0 : Int32))] (.int (0 : Int32)) := Arv.set Ar227 q227 S227 M227 Hs227 G227 (fits_nar_char _) W227 4 rfl (Nat.le_of_ble_eq_true rfl)
      obtain ⟨cl230, Ar230, q230, S230, M230, Hs230, G230⟩ := id V227
      obtain ⟨T230, h230, X230, e230, W230, st230⟩ := stC X227 hx hZ e227 Ar230 (j := (5 : Int32)) (inb_of S230 ⟨(by decide), (by decide)⟩) (g := (mkF m 73 #[.val (.int p0), .val (.int p1), .val (.int p2), .val (.int p3), .val (.int (1 : Int32)), .val (.int c5), .val (.int c6), .val (.int c7), .val (.ref b212), .unset, .unset, .unset, .unset] [(.int (110 : Int32)), (.int (5 : Int32)), (.ref b212)])) rfl rfl (hb hby at_73)
      have Z231 : n0 ≤ h230.size := Nat.le_trans Z228 (Keep.of_wr W230).1
      have K232 : Keep h0 h230 [] := K229.wr W230 (Or.inr sz_b212)
      have N230 := Fr.snoc X230 N227 ge_b212
      have V230 : Arv Z h230 b212 k212 .char ((9 : Int32) + (1 : Int32)) [(.int (nar .char (115 : Int32))), (.int (nar .char (101 : Int32))), (.int (nar .char (113 : Int32))), (.int (nar .char (117 : Int32))), (.int (nar .char (101 : Int32))), (.int (nar .char (110 : Int32))), (.int (0 : Int32)), (.int (0 : Int32)), (.int (0 : Int32)), (.int (0 : Int32))] (.int (0 : Int32)) := Arv.set Ar230 q230 S230 M230 Hs230 G230 (fits_nar_char _) W230 5 rfl (Nat.le_of_ble_eq_true rfl)
      obtain ⟨cl233, Ar233, q233, S233, M233, Hs233, G233⟩ := id V230
      obtain ⟨T233, h233, X233, e233, W233, st233⟩ := stC X230 hx hZ e230 Ar233 (j := (6 : Int32)) (inb_of S233 ⟨(by decide), (by decide)⟩) (g := (mkF m 80 #[.val (.int p0), .val (.int p1), .val (.int p2), .val (.int p3), .val (.int (1 : Int32)), .val (.int c5), .val (.int c6), .val (.int c7), .val (.ref b212), .unset, .unset, .unset, .unset] [(.int (99 : Int32)), (.int (6 : Int32)), (.ref b212)])) rfl rfl (hb hby at_80)
      have Z234 : n0 ≤ h233.size := Nat.le_trans Z231 (Keep.of_wr W233).1
      have K235 : Keep h0 h233 [] := K232.wr W233 (Or.inr sz_b212)
      have N233 := Fr.snoc X233 N230 ge_b212
      have V233 : Arv Z h233 b212 k212 .char ((9 : Int32) + (1 : Int32)) [(.int (nar .char (115 : Int32))), (.int (nar .char (101 : Int32))), (.int (nar .char (113 : Int32))), (.int (nar .char (117 : Int32))), (.int (nar .char (101 : Int32))), (.int (nar .char (110 : Int32))), (.int (nar .char (99 : Int32))), (.int (0 : Int32)), (.int (0 : Int32)), (.int (0 : Int32))] (.int (0 : Int32)) := Arv.set Ar233 q233 S233 M233 Hs233 G233 (fits_nar_char _) W233 6 rfl (Nat.le_of_ble_eq_true rfl)
      obtain ⟨cl236, Ar236, q236, S236, M236, Hs236, G236⟩ := id V233
      obtain ⟨T236, h236, X236, e236, W236, st236⟩ := stC X233 hx hZ e233 Ar236 (j := (7 : Int32)) (inb_of S236 ⟨(by decide), (by decide)⟩) (g := (mkF m 87 #[.val (.int p0), .val (.int p1), .val (.int p2), .val (.int p3), .val (.int (1 : Int32)), .val (.int c5), .val (.int c6), .val (.int c7), .val (.ref b212), .unset, .unset, .unset, .unset] [(.int (101 : Int32)), (.int (7 : Int32)), (.ref b212)])) rfl rfl (hb hby at_87)
      have Z237 : n0 ≤ h236.size := Nat.le_trans Z234 (Keep.of_wr W236).1
      have K238 : Keep h0 h236 [] := K235.wr W236 (Or.inr sz_b212)
      have N236 := Fr.snoc X236 N233 ge_b212
      have V236 : Arv Z h236 b212 k212 .char ((9 : Int32) + (1 : Int32)) [(.int (nar .char (115 : Int32))), (.int (nar .char (101 : Int32))), (.int (nar .char (113 : Int32))), (.int (nar .char (117 : Int32))), (.int (nar .char (101 : Int32))), (.int (nar .char (110 : Int32))), (.int (nar .char (99 : Int32))), (.int (nar .char (101 : Int32))), (.int (0 : Int32)), (.int (0 : Int32))] (.int (0 : Int32)) := Arv.set Ar236 q236 S236 M236 Hs236 G236 (fits_nar_char _) W236 7 rfl (Nat.le_of_ble_eq_true rfl)
      obtain ⟨cl239, Ar239, q239, S239, M239, Hs239, G239⟩ := id V236
      obtain ⟨T239, h239, X239, e239, W239, st239⟩ := stC X236 hx hZ e236 Ar239 (j := (8 : Int32)) (inb_of S239 ⟨(by decide), (by decide)⟩) (g := (mkF m 94 #[.val (.int p0), .val (.int p1), .val (.int p2), .val (.int p3), .val (.int (1 : Int32)), .val (.int c5), .val (.int c6), .val (.int c7), .val (.ref b212), .unset, .unset, .unset, .unset] [(.int (32 : Int32)), (.int (8 : Int32)), (.ref b212)])) rfl rfl (hb hby at_94)
      have Z240 : n0 ≤ h239.size := Nat.le_trans Z237 (Keep.of_wr W239).1
      have K241 : Keep h0 h239 [] := K238.wr W239 (Or.inr sz_b212)
      have N239 := Fr.snoc X239 N236 ge_b212
      have V239 : Arv Z h239 b212 k212 .char ((9 : Int32) + (1 : Int32)) [(.int (nar .char (115 : Int32))), (.int (nar .char (101 : Int32))), (.int (nar .char (113 : Int32))), (.int (nar .char (117 : Int32))), (.int (nar .char (101 : Int32))), (.int (nar .char (110 : Int32))), (.int (nar .char (99 : Int32))), (.int (nar .char (101 : Int32))), (.int (nar .char (32 : Int32))), (.int (0 : Int32))] (.int (0 : Int32)) := Arv.set Ar239 q239 S239 M239 Hs239 G239 (fits_nar_char _) W239 8 rfl (Nat.le_of_ble_eq_true rfl)
      obtain ⟨T242, h242, k242, X242, e242, E242, A242, st242⟩ := newP X239 hx hZ (hw _ (List.mem_of_getElem? (i := 0) rfl)) e239 (g := (mkF m 97 #[.val (.int p0), .val (.int p1), .val (.int p2), .val (.int p3), .val (.int (1 : Int32)), .val (.int c5), .val (.int c6), .val (.int c7), .val (.ref b212), .unset, .unset, .unset, .unset] [(.int (1 : Int32))])) rfl (hb hby at_97) rfl (by decide) (cap := 1) (by decide) (by decide) (by decide) (by decide)
      obtain ⟨b242, g242⟩ : ∃ z, z = h239.size := ⟨_, rfl⟩
      rw [← g242] at A242 st242
      have ge_b242 : n0 ≤ b242 := Nat.le_trans Z240 (Nat.le_of_eq g242.symm)
      have sz_b242 : h0.size ≤ b242 := Nat.le_trans K241.1 (Nat.le_of_eq g242.symm)
      have Z243 : n0 ≤ h242.size := Nat.le_trans Z240 E242.1
      have K244 : Keep h0 h242 [] := K241.ext E242
      have V242 : Arv Z h242 b242 k242 .char (1 : Int32) [(.int (0 : Int32))] (.int (0 : Int32)) := (Arv.new A242 (by decide)).pad (pad_rep [] (.int (0 : Int32)) 1)
      have f246 := (V239.ext E242)
      obtain ⟨cl245, Ar245, q245, S245, M245, Hs245, G245⟩ := id f246
      obtain ⟨T245, h245, X245, e245, W245, st245⟩ := stC X242 hx hZ e242 Ar245 (j := (9 : Int32)) (inb_of S245 ⟨(by decide), (by decide)⟩) (g := (mkF m 112 #[.val (.int p0), .val (.int p1), .val (.int p2), .val (.int p3), .val (.int (1 : Int32)), .val (.int c5), .val (.int c6), .val (.int c7), .val (.ref b212), .val (.ref b242), .unset, .unset, .unset] [(.int c5), (.int (9 : Int32)), (.ref b212)])) rfl rfl (hb hby at_112)
      have Z247 : n0 ≤ h245.size := Nat.le_trans Z243 (Keep.of_wr W245).1
      have K248 : Keep h0 h245 [] := K244.wr W245 (Or.inr sz_b212)
      have N245 := Fr.snoc X245 N239 ge_b212
      have V245 : Arv Z h245 b212 k212 .char ((9 : Int32) + (1 : Int32)) [(.int (nar .char (115 : Int32))), (.int (nar .char (101 : Int32))), (.int (nar .char (113 : Int32))), (.int (nar .char (117 : Int32))), (.int (nar .char (101 : Int32))), (.int (nar .char (110 : Int32))), (.int (nar .char (99 : Int32))), (.int (nar .char (101 : Int32))), (.int (nar .char (32 : Int32))), (.int (nar .char c5))] (.int (0 : Int32)) := Arv.set Ar245 q245 S245 M245 Hs245 G245 (fits_nar_char _) W245 9 rfl (Nat.le_of_ble_eq_true rfl)
      have f250 := (V242.other W245 (Ne.symm (Nat.ne_of_lt (Nat.lt_of_lt_of_le V239.lt (Nat.le_of_eq g242.symm)))))
      obtain ⟨cl249, Ar249, q249, S249, M249, Hs249, G249⟩ := id f250
      obtain ⟨T249, h249, X249, e249, W249, st249⟩ := stC X245 hx hZ e245 Ar249 (j := (0 : Int32)) (inb_of S249 ⟨(by decide), (by decide)⟩) (g := (mkF m 118 #[.val (.int p0), .val (.int p1), .val (.int p2), .val (.int p3), .val (.int (1 : Int32)), .val (.int c5), .val (.int c6), .val (.int c7), .val (.ref b212), .val (.ref b242), .unset, .unset, .unset] [(.int c5), (.int (0 : Int32)), (.ref b242)])) rfl rfl (hb hby at_118)
      have Z251 : n0 ≤ h249.size := Nat.le_trans Z247 (Keep.of_wr W249).1
      have K252 : Keep h0 h249 [] := K248.wr W249 (Or.inr sz_b242)
      have N249 := Fr.snoc X249 N245 ge_b242
      have V249 : Arv Z h249 b242 k242 .char (1 : Int32) [(.int (nar .char c5))] (.int (0 : Int32)) := Arv.set Ar249 q249 S249 M249 Hs249 G249 (fits_nar_char _) W249 0 rfl (Nat.le_of_ble_eq_true rfl)
      have hp : ∀ c ∈ ([115, 101, 113, 117, 101, 110, 99, 101, 32, c5] : List Int32), ¬ c < 0 ∧ ¬ (255 : Int32) < c := by
        intro c hc
        simp only [List.mem_cons, List.not_mem_nil, or_false] at hc
        rcases hc with rfl | rfl | rfl | rfl | rfl | rfl | rfl | rfl | rfl | rfl <;> first | decide | assumption
      have f253 := (V245.other W249 (Nat.ne_of_lt (Nat.lt_of_lt_of_le V239.lt (Nat.le_of_eq g242.symm))))
      have V254 : Arv Z h249 b212 k212 .char (Int32.ofNat 10) (([115, 101, 113, 117, 101, 110, 99, 101, 32, c5] : List Int32).map Value.int) (.int (0 : Int32)) := by
        have q := f253
        rw [own_narc hc5] at q
        exact q
      have V255 : Arv Z h249 b242 k242 .char (Int32.ofNat 1) ([c5].map Value.int) (.int (0 : Int32)) := by
        have q := V249
        rw [own_narc hc5] at q
        exact q
      obtain ⟨T256, h256, X256, e256, E256, A256, D256, -, st256⟩ := newO X249 hx hZ hown (hw _ (List.mem_of_getElem? (i := 1) rfl)) (hw _ (List.mem_of_getElem? (i := 2) rfl)) (hw _ (List.mem_of_getElem? (i := 3) rfl)) e249 (g := (mkF m 157 #[.val (.int p0), .val (.int p1), .val (.int p2), .val (.int p3), .val (.int (1 : Int32)), .val (.int c5), .val (.int c6), .val (.int c7), .val (.ref b212), .val (.ref b242), .unset, .unset, .unset] [])) rfl (hb hby at_157) (by decide) (by decide)
      obtain ⟨b256, g256⟩ : ∃ z, z = h249.size := ⟨_, rfl⟩
      rw [← g256] at A256 D256 st256
      have ge_b256 : n0 ≤ b256 := Nat.le_trans Z251 (Nat.le_of_eq g256.symm)
      have sz_b256 : h0.size ≤ b256 := Nat.le_trans K252.1 (Nat.le_of_eq g256.symm)
      have Z257 : n0 ≤ h256.size := Nat.le_trans Z251 E256.1
      have K258 : Keep h0 h256 [] := K252.ext E256
      have f259 := (V254.ext E256)
      have f260 := ((((((((((((((X00.ext E212).wr W215 ge_b212).wr W218 ge_b212).wr W221 ge_b212).wr W224 ge_b212).wr W227 ge_b212).wr W230 ge_b212).wr W233 ge_b212).wr W236 ge_b212).wr W239 ge_b212).ext E242).wr W245 ge_b212).wr W249 ge_b242).ext E256)
      obtain ⟨v261, vmx261, ⟨T261, L261, k261, n261⟩, -, X261, ⟨Lc261, hQ261, l261, y261, z261⟩, st261⟩ := X256.specialBack hx (y := (⟨"java/lang/String", "<init>", "([C)V"⟩ : MethodName)) rfl hown (mvT hZ (hw _ (List.mem_of_getElem? (i := 4) rfl))) (mvT hZ (hw _ (List.mem_of_getElem? (i := 5) rfl))) (mvT hZ (hw _ (List.mem_of_getElem? (i := 6) rfl))) (by decide) (StrChars.Road.backV (W := 1) hZ hws (kI := 4) (hw _ (List.mem_of_getElem? (i := 2) rfl)) (cs := ([115, 101, 113, 117, 101, 110, 99, 101, 32, c5] : List Int32)) (bs := (([115, 101, 113, 117, 101, 110, 99, 101, 32, c5] : List Int32)).map (fun c => c.toInt8.toInt32)) (n := 10) ge_b256 Z257 A256 (D256 (Or.inr (hw _ (List.mem_of_getElem? (i := 29) rfl))) (ty := (.array .byte)) (by decide)) (D256 (Or.inr (hw _ (List.mem_of_getElem? (i := 27) rfl))) (ty := .byte) (by decide)) f259 (O2.ext f260.2) P5 rfl rfl (by decide) (by decide) hp rfl (by decide) (by decide)) (g := (mkF m 163 #[.val (.int p0), .val (.int p1), .val (.int p2), .val (.int p3), .val (.int (1 : Int32)), .val (.int c5), .val (.int c6), .val (.int c7), .val (.ref b212), .val (.ref b242), .unset, .unset, .unset] [(.ref b212), (.ref b256), (.ref b256)])) rfl (by rw [hml]; rfl) (Steps.refl _) (a := b256) (argsL := [(.ref b212)]) (rest := [(.ref b256)]) (lenOf own_pd15 rfl) rfl (by show 2 * 0 + _ ≤ _; exact Nat.le_of_eq rfl) (hb hby at_163) (fun _ _ => ⟨rfl, e256, (by decide : 3 + 1 ≤ _), (by decide : 15 + 10 ≤ _)⟩)
      dsimp only [Pt.U, Pt.locs, Pt.cells, Pt.slots] at X261 l261 y261 z261 st261 hQ261
      subst l261 y261 z261
      obtain ⟨rfl, Nq261, K261, fe261, fc261, t261, kb261, u1261, u2261, u3261, fv261, fa261⟩ := hQ261
      have N261 := Fr.app N249 Nq261
      have Z262 : n0 ≤ T261.heap.size := Nat.le_trans Z257 K261.1
      have K263 : Keep h0 T261.heap [] := K258.trans K261 (allS (Or.inr sz_b256) all0)
      have f264 := ((V255.ext E256).keep K261 (ninS (Nat.ne_of_lt (Nat.lt_of_lt_of_le V255.lt (Nat.le_of_eq g256.symm))) nin0))
      refine ⟨T261, _, _, b212, b242, k242, b256, [c5], own_up X261 (by decide) (by decide), rfl, own_ext K263, N261, f264, ⟨hp, Nat.le_of_ble_eq_true rfl, fe261, fc261, t261, kb261, fv261, fa261⟩, Or.inr (Or.inl rfl), fun target hk => ?_⟩
      show Steps p.tables e below (s₁.setTop (mkF m 29 #[.val (.int p0), .val (.int p1), .val (.int p2), .val (.int p3), .val (.int (1 : Int32)), .val (.int c5), .val (.int c6), .val (.int c7), .unset, .unset, .unset, .unset, .unset] [])) _
      refine XS.bipush X0.here hx rfl (hb hby at_29) ?_
      show Steps p.tables e below (s₁.setTop (mkF m 31 #[.val (.int p0), .val (.int p1), .val (.int p2), .val (.int p3), .val (.int (1 : Int32)), .val (.int c5), .val (.int c6), .val (.int c7), .unset, .unset, .unset, .unset, .unset] [(.int (9 : Int32))])) _
      refine XS.iload X0.here hx rfl (hb hby at_31) rfl ?_
      show Steps p.tables e below (s₁.setTop (mkF m 33 #[.val (.int p0), .val (.int p1), .val (.int p2), .val (.int p3), .val (.int (1 : Int32)), .val (.int c5), .val (.int c6), .val (.int c7), .unset, .unset, .unset, .unset, .unset] [(.int (1 : Int32)), (.int (9 : Int32))])) _
      refine XS.iadd X0.here hx rfl (hb hby at_33) rfl ?_
      show Steps p.tables e below (s₁.setTop (mkF m 34 #[.val (.int p0), .val (.int p1), .val (.int p2), .val (.int p3), .val (.int (1 : Int32)), .val (.int c5), .val (.int c6), .val (.int c7), .unset, .unset, .unset, .unset, .unset] [(.int ((9 : Int32) + (1 : Int32)))])) _
      refine st212 _ ?_
      show Steps p.tables e below (T212.setTop (mkF m 36 #[.val (.int p0), .val (.int p1), .val (.int p2), .val (.int p3), .val (.int (1 : Int32)), .val (.int c5), .val (.int c6), .val (.int c7), .unset, .unset, .unset, .unset, .unset] [(.ref b212)])) _
      refine XS.astore X212.here hx rfl (hb hby at_36) rfl rfl (l' := #[.val (.int p0), .val (.int p1), .val (.int p2), .val (.int p3), .val (.int (1 : Int32)), .val (.int c5), .val (.int c6), .val (.int c7), .val (.ref b212), .unset, .unset, .unset, .unset]) rfl ?_
      show Steps p.tables e below (T212.setTop (mkF m 38 #[.val (.int p0), .val (.int p1), .val (.int p2), .val (.int p3), .val (.int (1 : Int32)), .val (.int c5), .val (.int c6), .val (.int c7), .val (.ref b212), .unset, .unset, .unset, .unset] [])) _
      refine XS.aload X212.here hx rfl (hb hby at_38) rfl rfl ?_
      show Steps p.tables e below (T212.setTop (mkF m 40 #[.val (.int p0), .val (.int p1), .val (.int p2), .val (.int p3), .val (.int (1 : Int32)), .val (.int c5), .val (.int c6), .val (.int c7), .val (.ref b212), .unset, .unset, .unset, .unset] [(.ref b212)])) _
      refine XS.iconst X212.here hx rfl (hb hby at_40) ?_
      show Steps p.tables e below (T212.setTop (mkF m 41 #[.val (.int p0), .val (.int p1), .val (.int p2), .val (.int p3), .val (.int (1 : Int32)), .val (.int c5), .val (.int c6), .val (.int c7), .val (.ref b212), .unset, .unset, .unset, .unset] [(.int (0 : Int32)), (.ref b212)])) _
      refine XS.bipush X212.here hx rfl (hb hby at_41) ?_
      show Steps p.tables e below (T212.setTop (mkF m 43 #[.val (.int p0), .val (.int p1), .val (.int p2), .val (.int p3), .val (.int (1 : Int32)), .val (.int c5), .val (.int c6), .val (.int c7), .val (.ref b212), .unset, .unset, .unset, .unset] [(.int (115 : Int32)), (.int (0 : Int32)), (.ref b212)])) _
      refine st215 _ ?_
      show Steps p.tables e below (T215.setTop (mkF m 44 #[.val (.int p0), .val (.int p1), .val (.int p2), .val (.int p3), .val (.int (1 : Int32)), .val (.int c5), .val (.int c6), .val (.int c7), .val (.ref b212), .unset, .unset, .unset, .unset] [])) _
      refine XS.aload X215.here hx rfl (hb hby at_44) rfl rfl ?_
      show Steps p.tables e below (T215.setTop (mkF m 46 #[.val (.int p0), .val (.int p1), .val (.int p2), .val (.int p3), .val (.int (1 : Int32)), .val (.int c5), .val (.int c6), .val (.int c7), .val (.ref b212), .unset, .unset, .unset, .unset] [(.ref b212)])) _
      refine XS.iconst X215.here hx rfl (hb hby at_46) ?_
      show Steps p.tables e below (T215.setTop (mkF m 47 #[.val (.int p0), .val (.int p1), .val (.int p2), .val (.int p3), .val (.int (1 : Int32)), .val (.int c5), .val (.int c6), .val (.int c7), .val (.ref b212), .unset, .unset, .unset, .unset] [(.int (1 : Int32)), (.ref b212)])) _
      refine XS.bipush X215.here hx rfl (hb hby at_47) ?_
      show Steps p.tables e below (T215.setTop (mkF m 49 #[.val (.int p0), .val (.int p1), .val (.int p2), .val (.int p3), .val (.int (1 : Int32)), .val (.int c5), .val (.int c6), .val (.int c7), .val (.ref b212), .unset, .unset, .unset, .unset] [(.int (101 : Int32)), (.int (1 : Int32)), (.ref b212)])) _
      refine st218 _ ?_
      show Steps p.tables e below (T218.setTop (mkF m 50 #[.val (.int p0), .val (.int p1), .val (.int p2), .val (.int p3), .val (.int (1 : Int32)), .val (.int c5), .val (.int c6), .val (.int c7), .val (.ref b212), .unset, .unset, .unset, .unset] [])) _
      refine XS.aload X218.here hx rfl (hb hby at_50) rfl rfl ?_
      show Steps p.tables e below (T218.setTop (mkF m 52 #[.val (.int p0), .val (.int p1), .val (.int p2), .val (.int p3), .val (.int (1 : Int32)), .val (.int c5), .val (.int c6), .val (.int c7), .val (.ref b212), .unset, .unset, .unset, .unset] [(.ref b212)])) _
      refine XS.iconst X218.here hx rfl (hb hby at_52) ?_
      show Steps p.tables e below (T218.setTop (mkF m 53 #[.val (.int p0), .val (.int p1), .val (.int p2), .val (.int p3), .val (.int (1 : Int32)), .val (.int c5), .val (.int c6), .val (.int c7), .val (.ref b212), .unset, .unset, .unset, .unset] [(.int (2 : Int32)), (.ref b212)])) _
      refine XS.bipush X218.here hx rfl (hb hby at_53) ?_
      show Steps p.tables e below (T218.setTop (mkF m 55 #[.val (.int p0), .val (.int p1), .val (.int p2), .val (.int p3), .val (.int (1 : Int32)), .val (.int c5), .val (.int c6), .val (.int c7), .val (.ref b212), .unset, .unset, .unset, .unset] [(.int (113 : Int32)), (.int (2 : Int32)), (.ref b212)])) _
      refine st221 _ ?_
      show Steps p.tables e below (T221.setTop (mkF m 56 #[.val (.int p0), .val (.int p1), .val (.int p2), .val (.int p3), .val (.int (1 : Int32)), .val (.int c5), .val (.int c6), .val (.int c7), .val (.ref b212), .unset, .unset, .unset, .unset] [])) _
      refine XS.aload X221.here hx rfl (hb hby at_56) rfl rfl ?_
      show Steps p.tables e below (T221.setTop (mkF m 58 #[.val (.int p0), .val (.int p1), .val (.int p2), .val (.int p3), .val (.int (1 : Int32)), .val (.int c5), .val (.int c6), .val (.int c7), .val (.ref b212), .unset, .unset, .unset, .unset] [(.ref b212)])) _
      refine XS.iconst X221.here hx rfl (hb hby at_58) ?_
      show Steps p.tables e below (T221.setTop (mkF m 59 #[.val (.int p0), .val (.int p1), .val (.int p2), .val (.int p3), .val (.int (1 : Int32)), .val (.int c5), .val (.int c6), .val (.int c7), .val (.ref b212), .unset, .unset, .unset, .unset] [(.int (3 : Int32)), (.ref b212)])) _
      refine XS.bipush X221.here hx rfl (hb hby at_59) ?_
      show Steps p.tables e below (T221.setTop (mkF m 61 #[.val (.int p0), .val (.int p1), .val (.int p2), .val (.int p3), .val (.int (1 : Int32)), .val (.int c5), .val (.int c6), .val (.int c7), .val (.ref b212), .unset, .unset, .unset, .unset] [(.int (117 : Int32)), (.int (3 : Int32)), (.ref b212)])) _
      refine st224 _ ?_
      show Steps p.tables e below (T224.setTop (mkF m 62 #[.val (.int p0), .val (.int p1), .val (.int p2), .val (.int p3), .val (.int (1 : Int32)), .val (.int c5), .val (.int c6), .val (.int c7), .val (.ref b212), .unset, .unset, .unset, .unset] [])) _
      refine XS.aload X224.here hx rfl (hb hby at_62) rfl rfl ?_
      show Steps p.tables e below (T224.setTop (mkF m 64 #[.val (.int p0), .val (.int p1), .val (.int p2), .val (.int p3), .val (.int (1 : Int32)), .val (.int c5), .val (.int c6), .val (.int c7), .val (.ref b212), .unset, .unset, .unset, .unset] [(.ref b212)])) _
      refine XS.iconst X224.here hx rfl (hb hby at_64) ?_
      show Steps p.tables e below (T224.setTop (mkF m 65 #[.val (.int p0), .val (.int p1), .val (.int p2), .val (.int p3), .val (.int (1 : Int32)), .val (.int c5), .val (.int c6), .val (.int c7), .val (.ref b212), .unset, .unset, .unset, .unset] [(.int (4 : Int32)), (.ref b212)])) _
      refine XS.bipush X224.here hx rfl (hb hby at_65) ?_
      show Steps p.tables e below (T224.setTop (mkF m 67 #[.val (.int p0), .val (.int p1), .val (.int p2), .val (.int p3), .val (.int (1 : Int32)), .val (.int c5), .val (.int c6), .val (.int c7), .val (.ref b212), .unset, .unset, .unset, .unset] [(.int (101 : Int32)), (.int (4 : Int32)), (.ref b212)])) _
      refine st227 _ ?_
      show Steps p.tables e below (T227.setTop (mkF m 68 #[.val (.int p0), .val (.int p1), .val (.int p2), .val (.int p3), .val (.int (1 : Int32)), .val (.int c5), .val (.int c6), .val (.int c7), .val (.ref b212), .unset, .unset, .unset, .unset] [])) _
      refine XS.aload X227.here hx rfl (hb hby at_68) rfl rfl ?_
      show Steps p.tables e below (T227.setTop (mkF m 70 #[.val (.int p0), .val (.int p1), .val (.int p2), .val (.int p3), .val (.int (1 : Int32)), .val (.int c5), .val (.int c6), .val (.int c7), .val (.ref b212), .unset, .unset, .unset, .unset] [(.ref b212)])) _
      refine XS.iconst X227.here hx rfl (hb hby at_70) ?_
      show Steps p.tables e below (T227.setTop (mkF m 71 #[.val (.int p0), .val (.int p1), .val (.int p2), .val (.int p3), .val (.int (1 : Int32)), .val (.int c5), .val (.int c6), .val (.int c7), .val (.ref b212), .unset, .unset, .unset, .unset] [(.int (5 : Int32)), (.ref b212)])) _
      refine XS.bipush X227.here hx rfl (hb hby at_71) ?_
      show Steps p.tables e below (T227.setTop (mkF m 73 #[.val (.int p0), .val (.int p1), .val (.int p2), .val (.int p3), .val (.int (1 : Int32)), .val (.int c5), .val (.int c6), .val (.int c7), .val (.ref b212), .unset, .unset, .unset, .unset] [(.int (110 : Int32)), (.int (5 : Int32)), (.ref b212)])) _
      refine st230 _ ?_
      show Steps p.tables e below (T230.setTop (mkF m 74 #[.val (.int p0), .val (.int p1), .val (.int p2), .val (.int p3), .val (.int (1 : Int32)), .val (.int c5), .val (.int c6), .val (.int c7), .val (.ref b212), .unset, .unset, .unset, .unset] [])) _
      refine XS.aload X230.here hx rfl (hb hby at_74) rfl rfl ?_
      show Steps p.tables e below (T230.setTop (mkF m 76 #[.val (.int p0), .val (.int p1), .val (.int p2), .val (.int p3), .val (.int (1 : Int32)), .val (.int c5), .val (.int c6), .val (.int c7), .val (.ref b212), .unset, .unset, .unset, .unset] [(.ref b212)])) _
      refine XS.bipush X230.here hx rfl (hb hby at_76) ?_
      show Steps p.tables e below (T230.setTop (mkF m 78 #[.val (.int p0), .val (.int p1), .val (.int p2), .val (.int p3), .val (.int (1 : Int32)), .val (.int c5), .val (.int c6), .val (.int c7), .val (.ref b212), .unset, .unset, .unset, .unset] [(.int (6 : Int32)), (.ref b212)])) _
      refine XS.bipush X230.here hx rfl (hb hby at_78) ?_
      show Steps p.tables e below (T230.setTop (mkF m 80 #[.val (.int p0), .val (.int p1), .val (.int p2), .val (.int p3), .val (.int (1 : Int32)), .val (.int c5), .val (.int c6), .val (.int c7), .val (.ref b212), .unset, .unset, .unset, .unset] [(.int (99 : Int32)), (.int (6 : Int32)), (.ref b212)])) _
      refine st233 _ ?_
      show Steps p.tables e below (T233.setTop (mkF m 81 #[.val (.int p0), .val (.int p1), .val (.int p2), .val (.int p3), .val (.int (1 : Int32)), .val (.int c5), .val (.int c6), .val (.int c7), .val (.ref b212), .unset, .unset, .unset, .unset] [])) _
      refine XS.aload X233.here hx rfl (hb hby at_81) rfl rfl ?_
      show Steps p.tables e below (T233.setTop (mkF m 83 #[.val (.int p0), .val (.int p1), .val (.int p2), .val (.int p3), .val (.int (1 : Int32)), .val (.int c5), .val (.int c6), .val (.int c7), .val (.ref b212), .unset, .unset, .unset, .unset] [(.ref b212)])) _
      refine XS.bipush X233.here hx rfl (hb hby at_83) ?_
      show Steps p.tables e below (T233.setTop (mkF m 85 #[.val (.int p0), .val (.int p1), .val (.int p2), .val (.int p3), .val (.int (1 : Int32)), .val (.int c5), .val (.int c6), .val (.int c7), .val (.ref b212), .unset, .unset, .unset, .unset] [(.int (7 : Int32)), (.ref b212)])) _
      refine XS.bipush X233.here hx rfl (hb hby at_85) ?_
      show Steps p.tables e below (T233.setTop (mkF m 87 #[.val (.int p0), .val (.int p1), .val (.int p2), .val (.int p3), .val (.int (1 : Int32)), .val (.int c5), .val (.int c6), .val (.int c7), .val (.ref b212), .unset, .unset, .unset, .unset] [(.int (101 : Int32)), (.int (7 : Int32)), (.ref b212)])) _
      refine st236 _ ?_
      show Steps p.tables e below (T236.setTop (mkF m 88 #[.val (.int p0), .val (.int p1), .val (.int p2), .val (.int p3), .val (.int (1 : Int32)), .val (.int c5), .val (.int c6), .val (.int c7), .val (.ref b212), .unset, .unset, .unset, .unset] [])) _
      refine XS.aload X236.here hx rfl (hb hby at_88) rfl rfl ?_
      show Steps p.tables e below (T236.setTop (mkF m 90 #[.val (.int p0), .val (.int p1), .val (.int p2), .val (.int p3), .val (.int (1 : Int32)), .val (.int c5), .val (.int c6), .val (.int c7), .val (.ref b212), .unset, .unset, .unset, .unset] [(.ref b212)])) _
      refine XS.bipush X236.here hx rfl (hb hby at_90) ?_
      show Steps p.tables e below (T236.setTop (mkF m 92 #[.val (.int p0), .val (.int p1), .val (.int p2), .val (.int p3), .val (.int (1 : Int32)), .val (.int c5), .val (.int c6), .val (.int c7), .val (.ref b212), .unset, .unset, .unset, .unset] [(.int (8 : Int32)), (.ref b212)])) _
      refine XS.bipush X236.here hx rfl (hb hby at_92) ?_
      show Steps p.tables e below (T236.setTop (mkF m 94 #[.val (.int p0), .val (.int p1), .val (.int p2), .val (.int p3), .val (.int (1 : Int32)), .val (.int c5), .val (.int c6), .val (.int c7), .val (.ref b212), .unset, .unset, .unset, .unset] [(.int (32 : Int32)), (.int (8 : Int32)), (.ref b212)])) _
      refine st239 _ ?_
      show Steps p.tables e below (T239.setTop (mkF m 95 #[.val (.int p0), .val (.int p1), .val (.int p2), .val (.int p3), .val (.int (1 : Int32)), .val (.int c5), .val (.int c6), .val (.int c7), .val (.ref b212), .unset, .unset, .unset, .unset] [])) _
      refine XS.iload X239.here hx rfl (hb hby at_95) rfl ?_
      show Steps p.tables e below (T239.setTop (mkF m 97 #[.val (.int p0), .val (.int p1), .val (.int p2), .val (.int p3), .val (.int (1 : Int32)), .val (.int c5), .val (.int c6), .val (.int c7), .val (.ref b212), .unset, .unset, .unset, .unset] [(.int (1 : Int32))])) _
      refine st242 _ ?_
      show Steps p.tables e below (T242.setTop (mkF m 99 #[.val (.int p0), .val (.int p1), .val (.int p2), .val (.int p3), .val (.int (1 : Int32)), .val (.int c5), .val (.int c6), .val (.int c7), .val (.ref b212), .unset, .unset, .unset, .unset] [(.ref b242)])) _
      refine XS.astore X242.here hx rfl (hb hby at_99) rfl rfl (l' := #[.val (.int p0), .val (.int p1), .val (.int p2), .val (.int p3), .val (.int (1 : Int32)), .val (.int c5), .val (.int c6), .val (.int c7), .val (.ref b212), .val (.ref b242), .unset, .unset, .unset]) rfl ?_
      show Steps p.tables e below (T242.setTop (mkF m 101 #[.val (.int p0), .val (.int p1), .val (.int p2), .val (.int p3), .val (.int (1 : Int32)), .val (.int c5), .val (.int c6), .val (.int c7), .val (.ref b212), .val (.ref b242), .unset, .unset, .unset] [])) _
      refine XS.iload X242.here hx rfl (hb hby at_101) rfl ?_
      show Steps p.tables e below (T242.setTop (mkF m 103 #[.val (.int p0), .val (.int p1), .val (.int p2), .val (.int p3), .val (.int (1 : Int32)), .val (.int c5), .val (.int c6), .val (.int c7), .val (.ref b212), .val (.ref b242), .unset, .unset, .unset] [(.int (1 : Int32))])) _
      refine XS.ifNo X242.here hx rfl (hb hby at_103) rfl ((if0 _ _).trans (tlt (by decide)).2.2.2) ?_
      show Steps p.tables e below (T242.setTop (mkF m 106 #[.val (.int p0), .val (.int p1), .val (.int p2), .val (.int p3), .val (.int (1 : Int32)), .val (.int c5), .val (.int c6), .val (.int c7), .val (.ref b212), .val (.ref b242), .unset, .unset, .unset] [])) _
      refine XS.aload X242.here hx rfl (hb hby at_106) rfl rfl ?_
      show Steps p.tables e below (T242.setTop (mkF m 108 #[.val (.int p0), .val (.int p1), .val (.int p2), .val (.int p3), .val (.int (1 : Int32)), .val (.int c5), .val (.int c6), .val (.int c7), .val (.ref b212), .val (.ref b242), .unset, .unset, .unset] [(.ref b212)])) _
      refine XS.bipush X242.here hx rfl (hb hby at_108) ?_
      show Steps p.tables e below (T242.setTop (mkF m 110 #[.val (.int p0), .val (.int p1), .val (.int p2), .val (.int p3), .val (.int (1 : Int32)), .val (.int c5), .val (.int c6), .val (.int c7), .val (.ref b212), .val (.ref b242), .unset, .unset, .unset] [(.int (9 : Int32)), (.ref b212)])) _
      refine XS.iload X242.here hx rfl (hb hby at_110) rfl ?_
      show Steps p.tables e below (T242.setTop (mkF m 112 #[.val (.int p0), .val (.int p1), .val (.int p2), .val (.int p3), .val (.int (1 : Int32)), .val (.int c5), .val (.int c6), .val (.int c7), .val (.ref b212), .val (.ref b242), .unset, .unset, .unset] [(.int c5), (.int (9 : Int32)), (.ref b212)])) _
      refine st245 _ ?_
      show Steps p.tables e below (T245.setTop (mkF m 113 #[.val (.int p0), .val (.int p1), .val (.int p2), .val (.int p3), .val (.int (1 : Int32)), .val (.int c5), .val (.int c6), .val (.int c7), .val (.ref b212), .val (.ref b242), .unset, .unset, .unset] [])) _
      refine XS.aload X245.here hx rfl (hb hby at_113) rfl rfl ?_
      show Steps p.tables e below (T245.setTop (mkF m 115 #[.val (.int p0), .val (.int p1), .val (.int p2), .val (.int p3), .val (.int (1 : Int32)), .val (.int c5), .val (.int c6), .val (.int c7), .val (.ref b212), .val (.ref b242), .unset, .unset, .unset] [(.ref b242)])) _
      refine XS.iconst X245.here hx rfl (hb hby at_115) ?_
      show Steps p.tables e below (T245.setTop (mkF m 116 #[.val (.int p0), .val (.int p1), .val (.int p2), .val (.int p3), .val (.int (1 : Int32)), .val (.int c5), .val (.int c6), .val (.int c7), .val (.ref b212), .val (.ref b242), .unset, .unset, .unset] [(.int (0 : Int32)), (.ref b242)])) _
      refine XS.iload X245.here hx rfl (hb hby at_116) rfl ?_
      show Steps p.tables e below (T245.setTop (mkF m 118 #[.val (.int p0), .val (.int p1), .val (.int p2), .val (.int p3), .val (.int (1 : Int32)), .val (.int c5), .val (.int c6), .val (.int c7), .val (.ref b212), .val (.ref b242), .unset, .unset, .unset] [(.int c5), (.int (0 : Int32)), (.ref b242)])) _
      refine st249 _ ?_
      show Steps p.tables e below (T249.setTop (mkF m 119 #[.val (.int p0), .val (.int p1), .val (.int p2), .val (.int p3), .val (.int (1 : Int32)), .val (.int c5), .val (.int c6), .val (.int c7), .val (.ref b212), .val (.ref b242), .unset, .unset, .unset] [])) _
      refine XS.iload X249.here hx rfl (hb hby at_119) rfl ?_
      show Steps p.tables e below (T249.setTop (mkF m 121 #[.val (.int p0), .val (.int p1), .val (.int p2), .val (.int p3), .val (.int (1 : Int32)), .val (.int c5), .val (.int c6), .val (.int c7), .val (.ref b212), .val (.ref b242), .unset, .unset, .unset] [(.int (1 : Int32))])) _
      refine XS.iconst X249.here hx rfl (hb hby at_121) ?_
      show Steps p.tables e below (T249.setTop (mkF m 122 #[.val (.int p0), .val (.int p1), .val (.int p2), .val (.int p3), .val (.int (1 : Int32)), .val (.int c5), .val (.int c6), .val (.int c7), .val (.ref b212), .val (.ref b242), .unset, .unset, .unset] [(.int (1 : Int32)), (.int (1 : Int32))])) _
      refine XS.icmpYes X249.here hx rfl (pc0 := 122) (pc' := 138) rfl (hb hby at_122) rfl (flt (by decide)).2.2.2 (by decide) (by decide) ?_
      show Steps p.tables e below (T249.setTop (mkF m 138 #[.val (.int p0), .val (.int p1), .val (.int p2), .val (.int p3), .val (.int (1 : Int32)), .val (.int c5), .val (.int c6), .val (.int c7), .val (.ref b212), .val (.ref b242), .unset, .unset, .unset] [])) _
      refine XS.iload X249.here hx rfl (hb hby at_138) rfl ?_
      show Steps p.tables e below (T249.setTop (mkF m 140 #[.val (.int p0), .val (.int p1), .val (.int p2), .val (.int p3), .val (.int (1 : Int32)), .val (.int c5), .val (.int c6), .val (.int c7), .val (.ref b212), .val (.ref b242), .unset, .unset, .unset] [(.int (1 : Int32))])) _
      refine XS.iconst X249.here hx rfl (hb hby at_140) ?_
      show Steps p.tables e below (T249.setTop (mkF m 141 #[.val (.int p0), .val (.int p1), .val (.int p2), .val (.int p3), .val (.int (1 : Int32)), .val (.int c5), .val (.int c6), .val (.int c7), .val (.ref b212), .val (.ref b242), .unset, .unset, .unset] [(.int (2 : Int32)), (.int (1 : Int32))])) _
      refine XS.icmpYes X249.here hx rfl (pc0 := 141) (pc' := 157) rfl (hb hby at_141) rfl (flt (by decide)).2.2.2 (by decide) (by decide) ?_
      show Steps p.tables e below (T249.setTop (mkF m 157 #[.val (.int p0), .val (.int p1), .val (.int p2), .val (.int p3), .val (.int (1 : Int32)), .val (.int c5), .val (.int c6), .val (.int c7), .val (.ref b212), .val (.ref b242), .unset, .unset, .unset] [])) _
      refine st256 _ ?_
      show Steps p.tables e below (T256.setTop (mkF m 160 #[.val (.int p0), .val (.int p1), .val (.int p2), .val (.int p3), .val (.int (1 : Int32)), .val (.int c5), .val (.int c6), .val (.int c7), .val (.ref b212), .val (.ref b242), .unset, .unset, .unset] [(.ref b256)])) _
      refine XS.dup X256.here hx rfl (hb hby at_160) rfl rfl ?_
      show Steps p.tables e below (T256.setTop (mkF m 161 #[.val (.int p0), .val (.int p1), .val (.int p2), .val (.int p3), .val (.int (1 : Int32)), .val (.int c5), .val (.int c6), .val (.int c7), .val (.ref b212), .val (.ref b242), .unset, .unset, .unset] [(.ref b256), (.ref b256)])) _
      refine XS.aload X256.here hx rfl (hb hby at_161) rfl rfl ?_
      show Steps p.tables e below (T256.setTop (mkF m 163 #[.val (.int p0), .val (.int p1), .val (.int p2), .val (.int p3), .val (.int (1 : Int32)), .val (.int c5), .val (.int c6), .val (.int c7), .val (.ref b212), .val (.ref b242), .unset, .unset, .unset] [(.ref b212), (.ref b256), (.ref b256)])) _
      refine st261.trans ?_
      show Steps p.tables e below (T261.setTop (mkF m 166 #[.val (.int p0), .val (.int p1), .val (.int p2), .val (.int p3), .val (.int (1 : Int32)), .val (.int c5), .val (.int c6), .val (.int c7), .val (.ref b212), .val (.ref b242), .unset, .unset, .unset] [(.ref b256)])) _
      refine XS.astore X261.here hx rfl (hb hby at_166) rfl rfl (l' := #[.val (.int p0), .val (.int p1), .val (.int p2), .val (.int p3), .val (.int (1 : Int32)), .val (.int c5), .val (.int c6), .val (.int c7), .val (.ref b212), .val (.ref b242), .val (.ref b256), .unset, .unset]) rfl ?_
      exact hk
    · skip
      obtain ⟨T265, h265, k265, X265, e265, E265, A265, st265⟩ := newP X0 hx hZ (hw _ (List.mem_of_getElem? (i := 0) rfl)) e0 (g := (mkF m 34 #[.val (.int p0), .val (.int p1), .val (.int p2), .val (.int p3), .val (.int (2 : Int32)), .val (.int c5), .val (.int c6), .val (.int c7), .unset, .unset, .unset, .unset, .unset] [(.int ((9 : Int32) + (2 : Int32)))])) rfl (hb hby at_34) rfl (by decide) (cap := 11) (by decide) (by decide) (by decide) (by decide)
      obtain ⟨b265, g265⟩ : ∃ z, z = h0.size := ⟨_, rfl⟩
      rw [← g265] at A265 st265
      have ge_b265 : n0 ≤ b265 := Nat.le_trans Z0 (Nat.le_of_eq g265.symm)
      have sz_b265 : h0.size ≤ b265 := Nat.le_trans (Keep.refl h0 []).1 (Nat.le_of_eq g265.symm)
      have Z266 : n0 ≤ h265.size := Nat.le_trans Z0 E265.1
      have K267 : Keep h0 h265 [] := (Keep.refl h0 []).ext E265
      have V265 : Arv Z h265 b265 k265 .char ((9 : Int32) + (2 : Int32)) [(.int (0 : Int32)), (.int (0 : Int32)), (.int (0 : Int32)), (.int (0 : Int32)), (.int (0 : Int32)), (.int (0 : Int32)), (.int (0 : Int32)), (.int (0 : Int32)), (.int (0 : Int32)), (.int (0 : Int32)), (.int (0 : Int32))] (.int (0 : Int32)) := (Arv.new A265 (by decide)).pad (pad_rep [] (.int (0 : Int32)) 11)
      obtain ⟨cl268, Ar268, q268, S268, M268, Hs268, G268⟩ := id V265
      obtain ⟨T268, h268, X268, e268, W268, st268⟩ := stC X265 hx hZ e265 Ar268 (j := (0 : Int32)) (inb_of S268 ⟨(by decide), (by decide)⟩) (g := (mkF m 43 #[.val (.int p0), .val (.int p1), .val (.int p2), .val (.int p3), .val (.int (2 : Int32)), .val (.int c5), .val (.int c6), .val (.int c7), .val (.ref b265), .unset, .unset, .unset, .unset] [(.int (115 : Int32)), (.int (0 : Int32)), (.ref b265)])) rfl rfl (hb hby at_43)
      have Z269 : n0 ≤ h268.size := Nat.le_trans Z266 (Keep.of_wr W268).1
      have K270 : Keep h0 h268 [] := K267.wr W268 (Or.inr sz_b265)
      have N268 := Fr.snoc X268 N0 ge_b265
      have V268 : Arv Z h268 b265 k265 .char ((9 : Int32) + (2 : Int32)) [(.int (nar .char (115 : Int32))), (.int (0 : Int32)), (.int (0 : Int32)), (.int (0 : Int32)), (.int (0 : Int32)), (.int (0 : Int32)), (.int (0 : Int32)), (.int (0 : Int32)), (.int (0 : Int32)), (.int (0 : Int32)), (.int (0 : Int32))] (.int (0 : Int32)) := Arv.set Ar268 q268 S268 M268 Hs268 G268 (fits_nar_char _) W268 0 rfl (Nat.le_of_ble_eq_true rfl)
      obtain ⟨cl271, Ar271, q271, S271, M271, Hs271, G271⟩ := id V268
      obtain ⟨T271, h271, X271, e271, W271, st271⟩ := stC X268 hx hZ e268 Ar271 (j := (1 : Int32)) (inb_of S271 ⟨(by decide), (by decide)⟩) (g := (mkF m 49 #[.val (.int p0), .val (.int p1), .val (.int p2), .val (.int p3), .val (.int (2 : Int32)), .val (.int c5), .val (.int c6), .val (.int c7), .val (.ref b265), .unset, .unset, .unset, .unset] [(.int (101 : Int32)), (.int (1 : Int32)), (.ref b265)])) rfl rfl (hb hby at_49)
      have Z272 : n0 ≤ h271.size := Nat.le_trans Z269 (Keep.of_wr W271).1
      have K273 : Keep h0 h271 [] := K270.wr W271 (Or.inr sz_b265)
      have N271 := Fr.snoc X271 N268 ge_b265
      have V271 : Arv Z h271 b265 k265 .char ((9 : Int32) + (2 : Int32)) [(.int (nar .char (115 : Int32))), (.int (nar .char (101 : Int32))), (.int (0 : Int32)), (.int (0 : Int32)), (.int (0 : Int32)), (.int (0 : Int32)), (.int (0 : Int32)), (.int (0 : Int32)), (.int (0 : Int32)), (.int (0 : Int32)), (.int (0 : Int32))] (.int (0 : Int32)) := Arv.set Ar271 q271 S271 M271 Hs271 G271 (fits_nar_char _) W271 1 rfl (Nat.le_of_ble_eq_true rfl)
      obtain ⟨cl274, Ar274, q274, S274, M274, Hs274, G274⟩ := id V271
      obtain ⟨T274, h274, X274, e274, W274, st274⟩ := stC X271 hx hZ e271 Ar274 (j := (2 : Int32)) (inb_of S274 ⟨(by decide), (by decide)⟩) (g := (mkF m 55 #[.val (.int p0), .val (.int p1), .val (.int p2), .val (.int p3), .val (.int (2 : Int32)), .val (.int c5), .val (.int c6), .val (.int c7), .val (.ref b265), .unset, .unset, .unset, .unset] [(.int (113 : Int32)), (.int (2 : Int32)), (.ref b265)])) rfl rfl (hb hby at_55)
      have Z275 : n0 ≤ h274.size := Nat.le_trans Z272 (Keep.of_wr W274).1
      have K276 : Keep h0 h274 [] := K273.wr W274 (Or.inr sz_b265)
      have N274 := Fr.snoc X274 N271 ge_b265
      have V274 : Arv Z h274 b265 k265 .char ((9 : Int32) + (2 : Int32)) [(.int (nar .char (115 : Int32))), (.int (nar .char (101 : Int32))), (.int (nar .char (113 : Int32))), (.int (0 : Int32)), (.int (0 : Int32)), (.int (0 : Int32)), (.int (0 : Int32)), (.int (0 : Int32)), (.int (0 : Int32)), (.int (0 : Int32)), (.int (0 : Int32))] (.int (0 : Int32)) := Arv.set Ar274 q274 S274 M274 Hs274 G274 (fits_nar_char _) W274 2 rfl (Nat.le_of_ble_eq_true rfl)
      obtain ⟨cl277, Ar277, q277, S277, M277, Hs277, G277⟩ := id V274
      obtain ⟨T277, h277, X277, e277, W277, st277⟩ := stC X274 hx hZ e274 Ar277 (j := (3 : Int32)) (inb_of S277 ⟨(by decide), (by decide)⟩) (g := (mkF m 61 #[.val (.int p0), .val (.int p1), .val (.int p2), .val (.int p3), .val (.int (2 : Int32)), .val (.int c5), .val (.int c6), .val (.int c7), .val (.ref b265), .unset, .unset, .unset, .unset] [(.int (117 : Int32)), (.int (3 : Int32)), (.ref b265)])) rfl rfl (hb hby at_61)
      have Z278 : n0 ≤ h277.size := Nat.le_trans Z275 (Keep.of_wr W277).1
      have K279 : Keep h0 h277 [] := K276.wr W277 (Or.inr sz_b265)
      have N277 := Fr.snoc X277 N274 ge_b265
      have V277 : Arv Z h277 b265 k265 .char ((9 : Int32) + (2 : Int32)) [(.int (nar .char (115 : Int32))), (.int (nar .char (101 : Int32))), (.int (nar .char (113 : Int32))), (.int (nar .char (117 : Int32))), (.int (0 : Int32)), (.int (0 : Int32)), (.int (0 : Int32)), (.int (0 : Int32)), (.int (0 : Int32)), (.int (0 : Int32)), (.int (0 : Int32))] (.int (0 : Int32)) := Arv.set Ar277 q277 S277 M277 Hs277 G277 (fits_nar_char _) W277 3 rfl (Nat.le_of_ble_eq_true rfl)
      obtain ⟨cl280, Ar280, q280, S280, M280, Hs280, G280⟩ := id V277
      obtain ⟨T280, h280, X280, e280, W280, st280⟩ := stC X277 hx hZ e277 Ar280 (j := (4 : Int32)) (inb_of S280 ⟨(by decide), (by decide)⟩) (g := (mkF m 67 #[.val (.int p0), .val (.int p1), .val (.int p2), .val (.int p3), .val (.int (2 : Int32)), .val (.int c5), .val (.int c6), .val (.int c7), .val (.ref b265), .unset, .unset, .unset, .unset] [(.int (101 : Int32)), (.int (4 : Int32)), (.ref b265)])) rfl rfl (hb hby at_67)
      have Z281 : n0 ≤ h280.size := Nat.le_trans Z278 (Keep.of_wr W280).1
      have K282 : Keep h0 h280 [] := K279.wr W280 (Or.inr sz_b265)
      have N280 := Fr.snoc X280 N277 ge_b265
      have V280 : Arv Z h280 b265 k265 .char ((9 : Int32) + (2 : Int32)) [(.int (nar .char (115 : Int32))), (.int (nar .char (101 : Int32))), (.int (nar .char (113 : Int32))), (.int (nar .char (117 : Int32))), (.int (nar .char (101 : Int32))), (.int (0 : Int32)), (.int (0 : Int32)), (.int (0 : Int32)), (.int (0 : Int32)), (.int (0 : Int32)), (.int (0 : Int32))] (.int (0 : Int32)) := Arv.set Ar280 q280 S280 M280 Hs280 G280 (fits_nar_char _) W280 4 rfl (Nat.le_of_ble_eq_true rfl)
      obtain ⟨cl283, Ar283, q283, S283, M283, Hs283, G283⟩ := id V280
      obtain ⟨T283, h283, X283, e283, W283, st283⟩ := stC X280 hx hZ e280 Ar283 (j := (5 : Int32)) (inb_of S283 ⟨(by decide), (by decide)⟩) (g := (mkF m 73 #[.val (.int p0), .val (.int p1), .val (.int p2), .val (.int p3), .val (.int (2 : Int32)), .val (.int c5), .val (.int c6), .val (.int c7), .val (.ref b265), .unset, .unset, .unset, .unset] [(.int (110 : Int32)), (.int (5 : Int32)), (.ref b265)])) rfl rfl (hb hby at_73)
      have Z284 : n0 ≤ h283.size := Nat.le_trans Z281 (Keep.of_wr W283).1
      have K285 : Keep h0 h283 [] := K282.wr W283 (Or.inr sz_b265)
      have N283 := Fr.snoc X283 N280 ge_b265
      have V283 : Arv Z h283 b265 k265 .char ((9 : Int32) + (2 : Int32)) [(.int (nar .char (115 : Int32))), (.int (nar .char (101 : Int32))), (.int (nar .char (113 : Int32))), (.int (nar .char (117 : Int32))), (.int (nar .char (101 : Int32))), (.int (nar .char (110 : Int32))), (.int (0 : Int32)), (.int (0 : Int32)), (.int (0 : Int32)), (.int (0 : Int32)), (.int (0 : Int32))] (.int (0 : Int32)) := Arv.set Ar283 q283 S283 M283 Hs283 G283 (fits_nar_char _) W283 5 rfl (Nat.le_of_ble_eq_true rfl)
      obtain ⟨cl286, Ar286, q286, S286, M286, Hs286, G286⟩ := id V283
      obtain ⟨T286, h286, X286, e286, W286, st286⟩ := stC X283 hx hZ e283 Ar286 (j := (6 : Int32)) (inb_of S286 ⟨(by decide), (by decide)⟩) (g := (mkF m 80 #[.val (.int p0), .val (.int p1), .val (.int p2), .val (.int p3), .val (.int (2 : Int32)), .val (.int c5), .val (.int c6), .val (.int c7), .val (.ref b265), .unset, .unset, .unset, .unset] [(.int (99 : Int32)), (.int (6 : Int32)), (.ref b265)])) rfl rfl (hb hby at_80)
      have Z287 : n0 ≤ h286.size := Nat.le_trans Z284 (Keep.of_wr W286).1
      have K288 : Keep h0 h286 [] := K285.wr W286 (Or.inr sz_b265)
      have N286 := Fr.snoc X286 N283 ge_b265
      have V286 : Arv Z h286 b265 k265 .char ((9 : Int32) + (2 : Int32)) [(.int (nar .char (115 : Int32))), (.int (nar .char (101 : Int32))), (.int (nar .char (113 : Int32))), (.int (nar .char (117 : Int32))), (.int (nar .char (101 : Int32))), (.int (nar .char (110 : Int32))), (.int (nar .char (99 : Int32))), (.int (0 : Int32)), (.int (0 : Int32)), (.int (0 : Int32)), (.int (0 : Int32))] (.int (0 : Int32)) := Arv.set Ar286 q286 S286 M286 Hs286 G286 (fits_nar_char _) W286 6 rfl (Nat.le_of_ble_eq_true rfl)
      obtain ⟨cl289, Ar289, q289, S289, M289, Hs289, G289⟩ := id V286
      obtain ⟨T289, h289, X289, e289, W289, st289⟩ := stC X286 hx hZ e286 Ar289 (j := (7 : Int32)) (inb_of S289 ⟨(by decide), (by decide)⟩) (g := (mkF m 87 #[.val (.int p0), .val (.int p1), .val (.int p2), .val (.int p3), .val (.int (2 : Int32)), .val (.int c5), .val (.int c6), .val (.int c7), .val (.ref b265), .unset, .unset, .unset, .unset] [(.int (101 : Int32)), (.int (7 : Int32)), (.ref b265)])) rfl rfl (hb hby at_87)
      have Z290 : n0 ≤ h289.size := Nat.le_trans Z287 (Keep.of_wr W289).1
      have K291 : Keep h0 h289 [] := K288.wr W289 (Or.inr sz_b265)
      have N289 := Fr.snoc X289 N286 ge_b265
      have V289 : Arv Z h289 b265 k265 .char ((9 : Int32) + (2 : Int32)) [(.int (nar .char (115 : Int32))), (.int (nar .char (101 : Int32))), (.int (nar .char (113 : Int32))), (.int (nar .char (117 : Int32))), (.int (nar .char (101 : Int32))), (.int (nar .char (110 : Int32))), (.int (nar .char (99 : Int32))), (.int (nar .char (101 : Int32))), (.int (0 : Int32)), (.int (0 : Int32)), (.int (0 : Int32))] (.int (0 : Int32)) := Arv.set Ar289 q289 S289 M289 Hs289 G289 (fits_nar_char _) W289 7 rfl (Nat.le_of_ble_eq_true rfl)
      obtain ⟨cl292, Ar292, q292, S292, M292, Hs292, G292⟩ := id V289
      obtain ⟨T292, h292, X292, e292, W292, st292⟩ := stC X289 hx hZ e289 Ar292 (j := (8 : Int32)) (inb_of S292 ⟨(by decide), (by decide)⟩) (g := (mkF m 94 #[.val (.int p0), .val (.int p1), .val (.int p2), .val (.int p3), .val (.int (2 : Int32)), .val (.int c5), .val (.int c6), .val (.int c7), .val (.ref b265), .unset, .unset, .unset, .unset] [(.int (32 : Int32)), (.int (8 : Int32)), (.ref b265)])) rfl rfl (hb hby at_94)
      have Z293 : n0 ≤ h292.size := Nat.le_trans Z290 (Keep.of_wr W292).1
      have K294 : Keep h0 h292 [] := K291.wr W292 (Or.inr sz_b265)
      have N292 := Fr.snoc X292 N289 ge_b265
      have V292 : Arv Z h292 b265 k265 .char ((9 : Int32) + (2 : Int32)) [(.int (nar .char (115 : Int32))), (.int (nar .char (101 : Int32))), (.int (nar .char (113 : Int32))), (.int (nar .char (117 : Int32))), (.int (nar .char (101 : Int32))), (.int (nar .char (110 : Int32))), (.int (nar .char (99 : Int32))), (.int (nar .char (101 : Int32))), (.int (nar .char (32 : Int32))), (.int (0 : Int32)), (.int (0 : Int32))] (.int (0 : Int32)) := Arv.set Ar292 q292 S292 M292 Hs292 G292 (fits_nar_char _) W292 8 rfl (Nat.le_of_ble_eq_true rfl)
      obtain ⟨T295, h295, k295, X295, e295, E295, A295, st295⟩ := newP X292 hx hZ (hw _ (List.mem_of_getElem? (i := 0) rfl)) e292 (g := (mkF m 97 #[.val (.int p0), .val (.int p1), .val (.int p2), .val (.int p3), .val (.int (2 : Int32)), .val (.int c5), .val (.int c6), .val (.int c7), .val (.ref b265), .unset, .unset, .unset, .unset] [(.int (2 : Int32))])) rfl (hb hby at_97) rfl (by decide) (cap := 2) (by decide) (by decide) (by decide) (by decide)
      obtain ⟨b295, g295⟩ : ∃ z, z = h292.size := ⟨_, rfl⟩
      rw [← g295] at A295 st295
      have ge_b295 : n0 ≤ b295 := Nat.le_trans Z293 (Nat.le_of_eq g295.symm)
      have sz_b295 : h0.size ≤ b295 := Nat.le_trans K294.1 (Nat.le_of_eq g295.symm)
      have Z296 : n0 ≤ h295.size := Nat.le_trans Z293 E295.1
      have K297 : Keep h0 h295 [] := K294.ext E295
      have V295 : Arv Z h295 b295 k295 .char (2 : Int32) [(.int (0 : Int32)), (.int (0 : Int32))] (.int (0 : Int32)) := (Arv.new A295 (by decide)).pad (pad_rep [] (.int (0 : Int32)) 2)
      have f299 := (V292.ext E295)
      obtain ⟨cl298, Ar298, q298, S298, M298, Hs298, G298⟩ := id f299
      obtain ⟨T298, h298, X298, e298, W298, st298⟩ := stC X295 hx hZ e295 Ar298 (j := (9 : Int32)) (inb_of S298 ⟨(by decide), (by decide)⟩) (g := (mkF m 112 #[.val (.int p0), .val (.int p1), .val (.int p2), .val (.int p3), .val (.int (2 : Int32)), .val (.int c5), .val (.int c6), .val (.int c7), .val (.ref b265), .val (.ref b295), .unset, .unset, .unset] [(.int c5), (.int (9 : Int32)), (.ref b265)])) rfl rfl (hb hby at_112)
      have Z300 : n0 ≤ h298.size := Nat.le_trans Z296 (Keep.of_wr W298).1
      have K301 : Keep h0 h298 [] := K297.wr W298 (Or.inr sz_b265)
      have N298 := Fr.snoc X298 N292 ge_b265
      have V298 : Arv Z h298 b265 k265 .char ((9 : Int32) + (2 : Int32)) [(.int (nar .char (115 : Int32))), (.int (nar .char (101 : Int32))), (.int (nar .char (113 : Int32))), (.int (nar .char (117 : Int32))), (.int (nar .char (101 : Int32))), (.int (nar .char (110 : Int32))), (.int (nar .char (99 : Int32))), (.int (nar .char (101 : Int32))), (.int (nar .char (32 : Int32))), (.int (nar .char c5)), (.int (0 : Int32))] (.int (0 : Int32)) := Arv.set Ar298 q298 S298 M298 Hs298 G298 (fits_nar_char _) W298 9 rfl (Nat.le_of_ble_eq_true rfl)
      have f303 := (V295.other W298 (Ne.symm (Nat.ne_of_lt (Nat.lt_of_lt_of_le V292.lt (Nat.le_of_eq g295.symm)))))
      obtain ⟨cl302, Ar302, q302, S302, M302, Hs302, G302⟩ := id f303
      obtain ⟨T302, h302, X302, e302, W302, st302⟩ := stC X298 hx hZ e298 Ar302 (j := (0 : Int32)) (inb_of S302 ⟨(by decide), (by decide)⟩) (g := (mkF m 118 #[.val (.int p0), .val (.int p1), .val (.int p2), .val (.int p3), .val (.int (2 : Int32)), .val (.int c5), .val (.int c6), .val (.int c7), .val (.ref b265), .val (.ref b295), .unset, .unset, .unset] [(.int c5), (.int (0 : Int32)), (.ref b295)])) rfl rfl (hb hby at_118)
      have Z304 : n0 ≤ h302.size := Nat.le_trans Z300 (Keep.of_wr W302).1
      have K305 : Keep h0 h302 [] := K301.wr W302 (Or.inr sz_b295)
      have N302 := Fr.snoc X302 N298 ge_b295
      have V302 : Arv Z h302 b295 k295 .char (2 : Int32) [(.int (nar .char c5)), (.int (0 : Int32))] (.int (0 : Int32)) := Arv.set Ar302 q302 S302 M302 Hs302 G302 (fits_nar_char _) W302 0 rfl (Nat.le_of_ble_eq_true rfl)
      have f307 := (V298.other W302 (Nat.ne_of_lt (Nat.lt_of_lt_of_le V292.lt (Nat.le_of_eq g295.symm))))
      obtain ⟨cl306, Ar306, q306, S306, M306, Hs306, G306⟩ := id f307
      obtain ⟨T306, h306, X306, e306, W306, st306⟩ := stC X302 hx hZ e302 Ar306 (j := (10 : Int32)) (inb_of S306 ⟨(by decide), (by decide)⟩) (g := (mkF m 131 #[.val (.int p0), .val (.int p1), .val (.int p2), .val (.int p3), .val (.int (2 : Int32)), .val (.int c5), .val (.int c6), .val (.int c7), .val (.ref b265), .val (.ref b295), .unset, .unset, .unset] [(.int c6), (.int (10 : Int32)), (.ref b265)])) rfl rfl (hb hby at_131)
      have Z308 : n0 ≤ h306.size := Nat.le_trans Z304 (Keep.of_wr W306).1
      have K309 : Keep h0 h306 [] := K305.wr W306 (Or.inr sz_b265)
      have N306 := Fr.snoc X306 N302 ge_b265
      have V306 : Arv Z h306 b265 k265 .char ((9 : Int32) + (2 : Int32)) [(.int (nar .char (115 : Int32))), (.int (nar .char (101 : Int32))), (.int (nar .char (113 : Int32))), (.int (nar .char (117 : Int32))), (.int (nar .char (101 : Int32))), (.int (nar .char (110 : Int32))), (.int (nar .char (99 : Int32))), (.int (nar .char (101 : Int32))), (.int (nar .char (32 : Int32))), (.int (nar .char c5)), (.int (nar .char c6))] (.int (0 : Int32)) := Arv.set Ar306 q306 S306 M306 Hs306 G306 (fits_nar_char _) W306 10 rfl (Nat.le_of_ble_eq_true rfl)
      have f311 := (V302.other W306 (Ne.symm (Nat.ne_of_lt (Nat.lt_of_lt_of_le V292.lt (Nat.le_of_eq g295.symm)))))
      obtain ⟨cl310, Ar310, q310, S310, M310, Hs310, G310⟩ := id f311
      obtain ⟨T310, h310, X310, e310, W310, st310⟩ := stC X306 hx hZ e306 Ar310 (j := (1 : Int32)) (inb_of S310 ⟨(by decide), (by decide)⟩) (g := (mkF m 137 #[.val (.int p0), .val (.int p1), .val (.int p2), .val (.int p3), .val (.int (2 : Int32)), .val (.int c5), .val (.int c6), .val (.int c7), .val (.ref b265), .val (.ref b295), .unset, .unset, .unset] [(.int c6), (.int (1 : Int32)), (.ref b295)])) rfl rfl (hb hby at_137)
      have Z312 : n0 ≤ h310.size := Nat.le_trans Z308 (Keep.of_wr W310).1
      have K313 : Keep h0 h310 [] := K309.wr W310 (Or.inr sz_b295)
      have N310 := Fr.snoc X310 N306 ge_b295
      have V310 : Arv Z h310 b295 k295 .char (2 : Int32) [(.int (nar .char c5)), (.int (nar .char c6))] (.int (0 : Int32)) := Arv.set Ar310 q310 S310 M310 Hs310 G310 (fits_nar_char _) W310 1 rfl (Nat.le_of_ble_eq_true rfl)
      have hp : ∀ c ∈ ([115, 101, 113, 117, 101, 110, 99, 101, 32, c5, c6] : List Int32), ¬ c < 0 ∧ ¬ (255 : Int32) < c := by
        intro c hc
        simp only [List.mem_cons, List.not_mem_nil, or_false] at hc
        rcases hc with rfl | rfl | rfl | rfl | rfl | rfl | rfl | rfl | rfl | rfl | rfl <;> first | decide | assumption
      have f314 := (V306.other W310 (Nat.ne_of_lt (Nat.lt_of_lt_of_le V292.lt (Nat.le_of_eq g295.symm))))
      have V315 : Arv Z h310 b265 k265 .char (Int32.ofNat 11) (([115, 101, 113, 117, 101, 110, 99, 101, 32, c5, c6] : List Int32).map Value.int) (.int (0 : Int32)) := by
        have q := f314
        rw [own_narc hc5, own_narc hc6] at q
        exact q
      have V316 : Arv Z h310 b295 k295 .char (Int32.ofNat 2) ([c5, c6].map Value.int) (.int (0 : Int32)) := by
        have q := V310
        rw [own_narc hc5, own_narc hc6] at q
        exact q
      obtain ⟨T317, h317, X317, e317, E317, A317, D317, -, st317⟩ := newO X310 hx hZ hown (hw _ (List.mem_of_getElem? (i := 1) rfl)) (hw _ (List.mem_of_getElem? (i := 2) rfl)) (hw _ (List.mem_of_getElem? (i := 3) rfl)) e310 (g := (mkF m 157 #[.val (.int p0), .val (.int p1), .val (.int p2), .val (.int p3), .val (.int (2 : Int32)), .val (.int c5), .val (.int c6), .val (.int c7), .val (.ref b265), .val (.ref b295), .unset, .unset, .unset] [])) rfl (hb hby at_157) (by decide) (by decide)
      obtain ⟨b317, g317⟩ : ∃ z, z = h310.size := ⟨_, rfl⟩
      rw [← g317] at A317 D317 st317
      have ge_b317 : n0 ≤ b317 := Nat.le_trans Z312 (Nat.le_of_eq g317.symm)
      have sz_b317 : h0.size ≤ b317 := Nat.le_trans K313.1 (Nat.le_of_eq g317.symm)
      have Z318 : n0 ≤ h317.size := Nat.le_trans Z312 E317.1
      have K319 : Keep h0 h317 [] := K313.ext E317
      have f320 := (V315.ext E317)
      have f321 := ((((((((((((((((X00.ext E265).wr W268 ge_b265).wr W271 ge_b265).wr W274 ge_b265).wr W277 ge_b265).wr W280 ge_b265).wr W283 ge_b265).wr W286 ge_b265).wr W289 ge_b265).wr W292 ge_b265).ext E295).wr W298 ge_b265).wr W302 ge_b295).wr W306 ge_b265).wr W310 ge_b295).ext E317)
      obtain ⟨v322, vmx322, ⟨T322, L322, k322, n322⟩, -, X322, ⟨Lc322, hQ322, l322, y322, z322⟩, st322⟩ := X317.specialBack hx (y := (⟨"java/lang/String", "<init>", "([C)V"⟩ : MethodName)) rfl hown (mvT hZ (hw _ (List.mem_of_getElem? (i := 4) rfl))) (mvT hZ (hw _ (List.mem_of_getElem? (i := 5) rfl))) (mvT hZ (hw _ (List.mem_of_getElem? (i := 6) rfl))) (by decide) (StrChars.Road.backV (W := 1) hZ hws (kI := 4) (hw _ (List.mem_of_getElem? (i := 2) rfl)) (cs := ([115, 101, 113, 117, 101, 110, 99, 101, 32, c5, c6] : List Int32)) (bs := (([115, 101, 113, 117, 101, 110, 99, 101, 32, c5, c6] : List Int32)).map (fun c => c.toInt8.toInt32)) (n := 11) ge_b317 Z318 A317 (D317 (Or.inr (hw _ (List.mem_of_getElem? (i := 29) rfl))) (ty := (.array .byte)) (by decide)) (D317 (Or.inr (hw _ (List.mem_of_getElem? (i := 27) rfl))) (ty := .byte) (by decide)) f320 (O2.ext f321.2) P5 rfl rfl (by decide) (by decide) hp rfl (by decide) (by decide)) (g := (mkF m 163 #[.val (.int p0), .val (.int p1), .val (.int p2), .val (.int p3), .val (.int (2 : Int32)), .val (.int c5), .val (.int c6), .val (.int c7), .val (.ref b265), .val (.ref b295), .unset, .unset, .unset] [(.ref b265), (.ref b317), (.ref b317)])) rfl (by rw [hml]; rfl) (Steps.refl _) (a := b317) (argsL := [(.ref b265)]) (rest := [(.ref b317)]) (lenOf own_pd15 rfl) rfl (by show 2 * 0 + _ ≤ _; exact Nat.le_of_eq rfl) (hb hby at_163) (fun _ _ => ⟨rfl, e317, (by decide : 3 + 1 ≤ _), (by decide : 17 + 11 ≤ _)⟩)
      dsimp only [Pt.U, Pt.locs, Pt.cells, Pt.slots] at X322 l322 y322 z322 st322 hQ322
      subst l322 y322 z322
      obtain ⟨rfl, Nq322, K322, fe322, fc322, t322, kb322, u1322, u2322, u3322, fv322, fa322⟩ := hQ322
      have N322 := Fr.app N310 Nq322
      have Z323 : n0 ≤ T322.heap.size := Nat.le_trans Z318 K322.1
      have K324 : Keep h0 T322.heap [] := K319.trans K322 (allS (Or.inr sz_b317) all0)
      have f325 := ((V316.ext E317).keep K322 (ninS (Nat.ne_of_lt (Nat.lt_of_lt_of_le V316.lt (Nat.le_of_eq g317.symm))) nin0))
      refine ⟨T322, _, _, b265, b295, k295, b317, [c5, c6], own_up X322 (by decide) (by decide), rfl, own_ext K324, N322, f325, ⟨hp, Nat.le_of_ble_eq_true rfl, fe322, fc322, t322, kb322, fv322, fa322⟩, Or.inr (Or.inr (Or.inl rfl)), fun target hk => ?_⟩
      show Steps p.tables e below (s₁.setTop (mkF m 29 #[.val (.int p0), .val (.int p1), .val (.int p2), .val (.int p3), .val (.int (2 : Int32)), .val (.int c5), .val (.int c6), .val (.int c7), .unset, .unset, .unset, .unset, .unset] [])) _
      refine XS.bipush X0.here hx rfl (hb hby at_29) ?_
      show Steps p.tables e below (s₁.setTop (mkF m 31 #[.val (.int p0), .val (.int p1), .val (.int p2), .val (.int p3), .val (.int (2 : Int32)), .val (.int c5), .val (.int c6), .val (.int c7), .unset, .unset, .unset, .unset, .unset] [(.int (9 : Int32))])) _
      refine XS.iload X0.here hx rfl (hb hby at_31) rfl ?_
      show Steps p.tables e below (s₁.setTop (mkF m 33 #[.val (.int p0), .val (.int p1), .val (.int p2), .val (.int p3), .val (.int (2 : Int32)), .val (.int c5), .val (.int c6), .val (.int c7), .unset, .unset, .unset, .unset, .unset] [(.int (2 : Int32)), (.int (9 : Int32))])) _
      refine XS.iadd X0.here hx rfl (hb hby at_33) rfl ?_
      show Steps p.tables e below (s₁.setTop (mkF m 34 #[.val (.int p0), .val (.int p1), .val (.int p2), .val (.int p3), .val (.int (2 : Int32)), .val (.int c5), .val (.int c6), .val (.int c7), .unset, .unset, .unset, .unset, .unset] [(.int ((9 : Int32) + (2 : Int32)))])) _
      refine st265 _ ?_
      show Steps p.tables e below (T265.setTop (mkF m 36 #[.val (.int p0), .val (.int p1), .val (.int p2), .val (.int p3), .val (.int (2 : Int32)), .val (.int c5), .val (.int c6), .val (.int c7), .unset, .unset, .unset, .unset, .unset] [(.ref b265)])) _
      refine XS.astore X265.here hx rfl (hb hby at_36) rfl rfl (l' := #[.val (.int p0), .val (.int p1), .val (.int p2), .val (.int p3), .val (.int (2 : Int32)), .val (.int c5), .val (.int c6), .val (.int c7), .val (.ref b265), .unset, .unset, .unset, .unset]) rfl ?_
      show Steps p.tables e below (T265.setTop (mkF m 38 #[.val (.int p0), .val (.int p1), .val (.int p2), .val (.int p3), .val (.int (2 : Int32)), .val (.int c5), .val (.int c6), .val (.int c7), .val (.ref b265), .unset, .unset, .unset, .unset] [])) _
      refine XS.aload X265.here hx rfl (hb hby at_38) rfl rfl ?_
      show Steps p.tables e below (T265.setTop (mkF m 40 #[.val (.int p0), .val (.int p1), .val (.int p2), .val (.int p3), .val (.int (2 : Int32)), .val (.int c5), .val (.int c6), .val (.int c7), .val (.ref b265), .unset, .unset, .unset, .unset] [(.ref b265)])) _
      refine XS.iconst X265.here hx rfl (hb hby at_40) ?_
      show Steps p.tables e below (T265.setTop (mkF m 41 #[.val (.int p0), .val (.int p1), .val (.int p2), .val (.int p3), .val (.int (2 : Int32)), .val (.int c5), .val (.int c6), .val (.int c7), .val (.ref b265), .unset, .unset, .unset, .unset] [(.int (0 : Int32)), (.ref b265)])) _
      refine XS.bipush X265.here hx rfl (hb hby at_41) ?_
      show Steps p.tables e below (T265.setTop (mkF m 43 #[.val (.int p0), .val (.int p1), .val (.int p2), .val (.int p3), .val (.int (2 : Int32)), .val (.int c5), .val (.int c6), .val (.int c7), .val (.ref b265), .unset, .unset, .unset, .unset] [(.int (115 : Int32)), (.int (0 : Int32)), (.ref b265)])) _
      refine st268 _ ?_
      show Steps p.tables e below (T268.setTop (mkF m 44 #[.val (.int p0), .val (.int p1), .val (.int p2), .val (.int p3), .val (.int (2 : Int32)), .val (.int c5), .val (.int c6), .val (.int c7), .val (.ref b265), .unset, .unset, .unset, .unset] [])) _
      refine XS.aload X268.here hx rfl (hb hby at_44) rfl rfl ?_
      show Steps p.tables e below (T268.setTop (mkF m 46 #[.val (.int p0), .val (.int p1), .val (.int p2), .val (.int p3), .val (.int (2 : Int32)), .val (.int c5), .val (.int c6), .val (.int c7), .val (.ref b265), .unset, .unset, .unset, .unset] [(.ref b265)])) _
      refine XS.iconst X268.here hx rfl (hb hby at_46) ?_
      show Steps p.tables e below (T268.setTop (mkF m 47 #[.val (.int p0), .val (.int p1), .val (.int p2), .val (.int p3), .val (.int (2 : Int32)), .val (.int c5), .val (.int c6), .val (.int c7), .val (.ref b265), .unset, .unset, .unset, .unset] [(.int (1 : Int32)), (.ref b265)])) _
      refine XS.bipush X268.here hx rfl (hb hby at_47) ?_
      show Steps p.tables e below (T268.setTop (mkF m 49 #[.val (.int p0), .val (.int p1), .val (.int p2), .val (.int p3), .val (.int (2 : Int32)), .val (.int c5), .val (.int c6), .val (.int c7), .val (.ref b265), .unset, .unset, .unset, .unset] [(.int (101 : Int32)), (.int (1 : Int32)), (.ref b265)])) _
      refine st271 _ ?_
      show Steps p.tables e below (T271.setTop (mkF m 50 #[.val (.int p0), .val (.int p1), .val (.int p2), .val (.int p3), .val (.int (2 : Int32)), .val (.int c5), .val (.int c6), .val (.int c7), .val (.ref b265), .unset, .unset, .unset, .unset] [])) _
      refine XS.aload X271.here hx rfl (hb hby at_50) rfl rfl ?_
      show Steps p.tables e below (T271.setTop (mkF m 52 #[.val (.int p0), .val (.int p1), .val (.int p2), .val (.int p3), .val (.int (2 : Int32)), .val (.int c5), .val (.int c6), .val (.int c7), .val (.ref b265), .unset, .unset, .unset, .unset] [(.ref b265)])) _
      refine XS.iconst X271.here hx rfl (hb hby at_52) ?_
      show Steps p.tables e below (T271.setTop (mkF m 53 #[.val (.int p0), .val (.int p1), .val (.int p2), .val (.int p3), .val (.int (2 : Int32)), .val (.int c5), .val (.int c6), .val (.int c7), .val (.ref b265), .unset, .unset, .unset, .unset] [(.int (2 : Int32)), (.ref b265)])) _
      refine XS.bipush X271.here hx rfl (hb hby at_53) ?_
      show Steps p.tables e below (T271.setTop (mkF m 55 #[.val (.int p0), .val (.int p1), .val (.int p2), .val (.int p3), .val (.int (2 : Int32)), .val (.int c5), .val (.int c6), .val (.int c7), .val (.ref b265), .unset, .unset, .unset, .unset] [(.int (113 : Int32)), (.int (2 : Int32)), (.ref b265)])) _
      refine st274 _ ?_
      show Steps p.tables e below (T274.setTop (mkF m 56 #[.val (.int p0), .val (.int p1), .val (.int p2), .val (.int p3), .val (.int (2 : Int32)), .val (.int c5), .val (.int c6), .val (.int c7), .val (.ref b265), .unset, .unset, .unset, .unset] [])) _
      refine XS.aload X274.here hx rfl (hb hby at_56) rfl rfl ?_
      show Steps p.tables e below (T274.setTop (mkF m 58 #[.val (.int p0), .val (.int p1), .val (.int p2), .val (.int p3), .val (.int (2 : Int32)), .val (.int c5), .val (.int c6), .val (.int c7), .val (.ref b265), .unset, .unset, .unset, .unset] [(.ref b265)])) _
      refine XS.iconst X274.here hx rfl (hb hby at_58) ?_
      show Steps p.tables e below (T274.setTop (mkF m 59 #[.val (.int p0), .val (.int p1), .val (.int p2), .val (.int p3), .val (.int (2 : Int32)), .val (.int c5), .val (.int c6), .val (.int c7), .val (.ref b265), .unset, .unset, .unset, .unset] [(.int (3 : Int32)), (.ref b265)])) _
      refine XS.bipush X274.here hx rfl (hb hby at_59) ?_
      show Steps p.tables e below (T274.setTop (mkF m 61 #[.val (.int p0), .val (.int p1), .val (.int p2), .val (.int p3), .val (.int (2 : Int32)), .val (.int c5), .val (.int c6), .val (.int c7), .val (.ref b265), .unset, .unset, .unset, .unset] [(.int (117 : Int32)), (.int (3 : Int32)), (.ref b265)])) _
      refine st277 _ ?_
      show Steps p.tables e below (T277.setTop (mkF m 62 #[.val (.int p0), .val (.int p1), .val (.int p2), .val (.int p3), .val (.int (2 : Int32)), .val (.int c5), .val (.int c6), .val (.int c7), .val (.ref b265), .unset, .unset, .unset, .unset] [])) _
      refine XS.aload X277.here hx rfl (hb hby at_62) rfl rfl ?_
      show Steps p.tables e below (T277.setTop (mkF m 64 #[.val (.int p0), .val (.int p1), .val (.int p2), .val (.int p3), .val (.int (2 : Int32)), .val (.int c5), .val (.int c6), .val (.int c7), .val (.ref b265), .unset, .unset, .unset, .unset] [(.ref b265)])) _
      refine XS.iconst X277.here hx rfl (hb hby at_64) ?_
      show Steps p.tables e below (T277.setTop (mkF m 65 #[.val (.int p0), .val (.int p1), .val (.int p2), .val (.int p3), .val (.int (2 : Int32)), .val (.int c5), .val (.int c6), .val (.int c7), .val (.ref b265), .unset, .unset, .unset, .unset] [(.int (4 : Int32)), (.ref b265)])) _
      refine XS.bipush X277.here hx rfl (hb hby at_65) ?_
      show Steps p.tables e below (T277.setTop (mkF m 67 #[.val (.int p0), .val (.int p1), .val (.int p2), .val (.int p3), .val (.int (2 : Int32)), .val (.int c5), .val (.int c6), .val (.int c7), .val (.ref b265), .unset, .unset, .unset, .unset] [(.int (101 : Int32)), (.int (4 : Int32)), (.ref b265)])) _
      refine st280 _ ?_
      show Steps p.tables e below (T280.setTop (mkF m 68 #[.val (.int p0), .val (.int p1), .val (.int p2), .val (.int p3), .val (.int (2 : Int32)), .val (.int c5), .val (.int c6), .val (.int c7), .val (.ref b265), .unset, .unset, .unset, .unset] [])) _
      refine XS.aload X280.here hx rfl (hb hby at_68) rfl rfl ?_
      show Steps p.tables e below (T280.setTop (mkF m 70 #[.val (.int p0), .val (.int p1), .val (.int p2), .val (.int p3), .val (.int (2 : Int32)), .val (.int c5), .val (.int c6), .val (.int c7), .val (.ref b265), .unset, .unset, .unset, .unset] [(.ref b265)])) _
      refine XS.iconst X280.here hx rfl (hb hby at_70) ?_
      show Steps p.tables e below (T280.setTop (mkF m 71 #[.val (.int p0), .val (.int p1), .val (.int p2), .val (.int p3), .val (.int (2 : Int32)), .val (.int c5), .val (.int c6), .val (.int c7), .val (.ref b265), .unset, .unset, .unset, .unset] [(.int (5 : Int32)), (.ref b265)])) _
      refine XS.bipush X280.here hx rfl (hb hby at_71) ?_
      show Steps p.tables e below (T280.setTop (mkF m 73 #[.val (.int p0), .val (.int p1), .val (.int p2), .val (.int p3), .val (.int (2 : Int32)), .val (.int c5), .val (.int c6), .val (.int c7), .val (.ref b265), .unset, .unset, .unset, .unset] [(.int (110 : Int32)), (.int (5 : Int32)), (.ref b265)])) _
      refine st283 _ ?_
      show Steps p.tables e below (T283.setTop (mkF m 74 #[.val (.int p0), .val (.int p1), .val (.int p2), .val (.int p3), .val (.int (2 : Int32)), .val (.int c5), .val (.int c6), .val (.int c7), .val (.ref b265), .unset, .unset, .unset, .unset] [])) _
      refine XS.aload X283.here hx rfl (hb hby at_74) rfl rfl ?_
      show Steps p.tables e below (T283.setTop (mkF m 76 #[.val (.int p0), .val (.int p1), .val (.int p2), .val (.int p3), .val (.int (2 : Int32)), .val (.int c5), .val (.int c6), .val (.int c7), .val (.ref b265), .unset, .unset, .unset, .unset] [(.ref b265)])) _
      refine XS.bipush X283.here hx rfl (hb hby at_76) ?_
      show Steps p.tables e below (T283.setTop (mkF m 78 #[.val (.int p0), .val (.int p1), .val (.int p2), .val (.int p3), .val (.int (2 : Int32)), .val (.int c5), .val (.int c6), .val (.int c7), .val (.ref b265), .unset, .unset, .unset, .unset] [(.int (6 : Int32)), (.ref b265)])) _
      refine XS.bipush X283.here hx rfl (hb hby at_78) ?_
      show Steps p.tables e below (T283.setTop (mkF m 80 #[.val (.int p0), .val (.int p1), .val (.int p2), .val (.int p3), .val (.int (2 : Int32)), .val (.int c5), .val (.int c6), .val (.int c7), .val (.ref b265), .unset, .unset, .unset, .unset] [(.int (99 : Int32)), (.int (6 : Int32)), (.ref b265)])) _
      refine st286 _ ?_
      show Steps p.tables e below (T286.setTop (mkF m 81 #[.val (.int p0), .val (.int p1), .val (.int p2), .val (.int p3), .val (.int (2 : Int32)), .val (.int c5), .val (.int c6), .val (.int c7), .val (.ref b265), .unset, .unset, .unset, .unset] [])) _
      refine XS.aload X286.here hx rfl (hb hby at_81) rfl rfl ?_
      show Steps p.tables e below (T286.setTop (mkF m 83 #[.val (.int p0), .val (.int p1), .val (.int p2), .val (.int p3), .val (.int (2 : Int32)), .val (.int c5), .val (.int c6), .val (.int c7), .val (.ref b265), .unset, .unset, .unset, .unset] [(.ref b265)])) _
      refine XS.bipush X286.here hx rfl (hb hby at_83) ?_
      show Steps p.tables e below (T286.setTop (mkF m 85 #[.val (.int p0), .val (.int p1), .val (.int p2), .val (.int p3), .val (.int (2 : Int32)), .val (.int c5), .val (.int c6), .val (.int c7), .val (.ref b265), .unset, .unset, .unset, .unset] [(.int (7 : Int32)), (.ref b265)])) _
      refine XS.bipush X286.here hx rfl (hb hby at_85) ?_
      show Steps p.tables e below (T286.setTop (mkF m 87 #[.val (.int p0), .val (.int p1), .val (.int p2), .val (.int p3), .val (.int (2 : Int32)), .val (.int c5), .val (.int c6), .val (.int c7), .val (.ref b265), .unset, .unset, .unset, .unset] [(.int (101 : Int32)), (.int (7 : Int32)), (.ref b265)])) _
      refine st289 _ ?_
      show Steps p.tables e below (T289.setTop (mkF m 88 #[.val (.int p0), .val (.int p1), .val (.int p2), .val (.int p3), .val (.int (2 : Int32)), .val (.int c5), .val (.int c6), .val (.int c7), .val (.ref b265), .unset, .unset, .unset, .unset] [])) _
      refine XS.aload X289.here hx rfl (hb hby at_88) rfl rfl ?_
      show Steps p.tables e below (T289.setTop (mkF m 90 #[.val (.int p0), .val (.int p1), .val (.int p2), .val (.int p3), .val (.int (2 : Int32)), .val (.int c5), .val (.int c6), .val (.int c7), .val (.ref b265), .unset, .unset, .unset, .unset] [(.ref b265)])) _
      refine XS.bipush X289.here hx rfl (hb hby at_90) ?_
      show Steps p.tables e below (T289.setTop (mkF m 92 #[.val (.int p0), .val (.int p1), .val (.int p2), .val (.int p3), .val (.int (2 : Int32)), .val (.int c5), .val (.int c6), .val (.int c7), .val (.ref b265), .unset, .unset, .unset, .unset] [(.int (8 : Int32)), (.ref b265)])) _
      refine XS.bipush X289.here hx rfl (hb hby at_92) ?_
      show Steps p.tables e below (T289.setTop (mkF m 94 #[.val (.int p0), .val (.int p1), .val (.int p2), .val (.int p3), .val (.int (2 : Int32)), .val (.int c5), .val (.int c6), .val (.int c7), .val (.ref b265), .unset, .unset, .unset, .unset] [(.int (32 : Int32)), (.int (8 : Int32)), (.ref b265)])) _
      refine st292 _ ?_
      show Steps p.tables e below (T292.setTop (mkF m 95 #[.val (.int p0), .val (.int p1), .val (.int p2), .val (.int p3), .val (.int (2 : Int32)), .val (.int c5), .val (.int c6), .val (.int c7), .val (.ref b265), .unset, .unset, .unset, .unset] [])) _
      refine XS.iload X292.here hx rfl (hb hby at_95) rfl ?_
      show Steps p.tables e below (T292.setTop (mkF m 97 #[.val (.int p0), .val (.int p1), .val (.int p2), .val (.int p3), .val (.int (2 : Int32)), .val (.int c5), .val (.int c6), .val (.int c7), .val (.ref b265), .unset, .unset, .unset, .unset] [(.int (2 : Int32))])) _
      refine st295 _ ?_
      show Steps p.tables e below (T295.setTop (mkF m 99 #[.val (.int p0), .val (.int p1), .val (.int p2), .val (.int p3), .val (.int (2 : Int32)), .val (.int c5), .val (.int c6), .val (.int c7), .val (.ref b265), .unset, .unset, .unset, .unset] [(.ref b295)])) _
      refine XS.astore X295.here hx rfl (hb hby at_99) rfl rfl (l' := #[.val (.int p0), .val (.int p1), .val (.int p2), .val (.int p3), .val (.int (2 : Int32)), .val (.int c5), .val (.int c6), .val (.int c7), .val (.ref b265), .val (.ref b295), .unset, .unset, .unset]) rfl ?_
      show Steps p.tables e below (T295.setTop (mkF m 101 #[.val (.int p0), .val (.int p1), .val (.int p2), .val (.int p3), .val (.int (2 : Int32)), .val (.int c5), .val (.int c6), .val (.int c7), .val (.ref b265), .val (.ref b295), .unset, .unset, .unset] [])) _
      refine XS.iload X295.here hx rfl (hb hby at_101) rfl ?_
      show Steps p.tables e below (T295.setTop (mkF m 103 #[.val (.int p0), .val (.int p1), .val (.int p2), .val (.int p3), .val (.int (2 : Int32)), .val (.int c5), .val (.int c6), .val (.int c7), .val (.ref b265), .val (.ref b295), .unset, .unset, .unset] [(.int (2 : Int32))])) _
      refine XS.ifNo X295.here hx rfl (hb hby at_103) rfl ((if0 _ _).trans (tlt (by decide)).2.2.2) ?_
      show Steps p.tables e below (T295.setTop (mkF m 106 #[.val (.int p0), .val (.int p1), .val (.int p2), .val (.int p3), .val (.int (2 : Int32)), .val (.int c5), .val (.int c6), .val (.int c7), .val (.ref b265), .val (.ref b295), .unset, .unset, .unset] [])) _
      refine XS.aload X295.here hx rfl (hb hby at_106) rfl rfl ?_
      show Steps p.tables e below (T295.setTop (mkF m 108 #[.val (.int p0), .val (.int p1), .val (.int p2), .val (.int p3), .val (.int (2 : Int32)), .val (.int c5), .val (.int c6), .val (.int c7), .val (.ref b265), .val (.ref b295), .unset, .unset, .unset] [(.ref b265)])) _
      refine XS.bipush X295.here hx rfl (hb hby at_108) ?_
      show Steps p.tables e below (T295.setTop (mkF m 110 #[.val (.int p0), .val (.int p1), .val (.int p2), .val (.int p3), .val (.int (2 : Int32)), .val (.int c5), .val (.int c6), .val (.int c7), .val (.ref b265), .val (.ref b295), .unset, .unset, .unset] [(.int (9 : Int32)), (.ref b265)])) _
      refine XS.iload X295.here hx rfl (hb hby at_110) rfl ?_
      show Steps p.tables e below (T295.setTop (mkF m 112 #[.val (.int p0), .val (.int p1), .val (.int p2), .val (.int p3), .val (.int (2 : Int32)), .val (.int c5), .val (.int c6), .val (.int c7), .val (.ref b265), .val (.ref b295), .unset, .unset, .unset] [(.int c5), (.int (9 : Int32)), (.ref b265)])) _
      refine st298 _ ?_
      show Steps p.tables e below (T298.setTop (mkF m 113 #[.val (.int p0), .val (.int p1), .val (.int p2), .val (.int p3), .val (.int (2 : Int32)), .val (.int c5), .val (.int c6), .val (.int c7), .val (.ref b265), .val (.ref b295), .unset, .unset, .unset] [])) _
      refine XS.aload X298.here hx rfl (hb hby at_113) rfl rfl ?_
      show Steps p.tables e below (T298.setTop (mkF m 115 #[.val (.int p0), .val (.int p1), .val (.int p2), .val (.int p3), .val (.int (2 : Int32)), .val (.int c5), .val (.int c6), .val (.int c7), .val (.ref b265), .val (.ref b295), .unset, .unset, .unset] [(.ref b295)])) _
      refine XS.iconst X298.here hx rfl (hb hby at_115) ?_
      show Steps p.tables e below (T298.setTop (mkF m 116 #[.val (.int p0), .val (.int p1), .val (.int p2), .val (.int p3), .val (.int (2 : Int32)), .val (.int c5), .val (.int c6), .val (.int c7), .val (.ref b265), .val (.ref b295), .unset, .unset, .unset] [(.int (0 : Int32)), (.ref b295)])) _
      refine XS.iload X298.here hx rfl (hb hby at_116) rfl ?_
      show Steps p.tables e below (T298.setTop (mkF m 118 #[.val (.int p0), .val (.int p1), .val (.int p2), .val (.int p3), .val (.int (2 : Int32)), .val (.int c5), .val (.int c6), .val (.int c7), .val (.ref b265), .val (.ref b295), .unset, .unset, .unset] [(.int c5), (.int (0 : Int32)), (.ref b295)])) _
      refine st302 _ ?_
      show Steps p.tables e below (T302.setTop (mkF m 119 #[.val (.int p0), .val (.int p1), .val (.int p2), .val (.int p3), .val (.int (2 : Int32)), .val (.int c5), .val (.int c6), .val (.int c7), .val (.ref b265), .val (.ref b295), .unset, .unset, .unset] [])) _
      refine XS.iload X302.here hx rfl (hb hby at_119) rfl ?_
      show Steps p.tables e below (T302.setTop (mkF m 121 #[.val (.int p0), .val (.int p1), .val (.int p2), .val (.int p3), .val (.int (2 : Int32)), .val (.int c5), .val (.int c6), .val (.int c7), .val (.ref b265), .val (.ref b295), .unset, .unset, .unset] [(.int (2 : Int32))])) _
      refine XS.iconst X302.here hx rfl (hb hby at_121) ?_
      show Steps p.tables e below (T302.setTop (mkF m 122 #[.val (.int p0), .val (.int p1), .val (.int p2), .val (.int p3), .val (.int (2 : Int32)), .val (.int c5), .val (.int c6), .val (.int c7), .val (.ref b265), .val (.ref b295), .unset, .unset, .unset] [(.int (1 : Int32)), (.int (2 : Int32))])) _
      refine XS.icmpNo X302.here hx rfl (hb hby at_122) rfl (tlt (by decide)).2.2.2 ?_
      show Steps p.tables e below (T302.setTop (mkF m 125 #[.val (.int p0), .val (.int p1), .val (.int p2), .val (.int p3), .val (.int (2 : Int32)), .val (.int c5), .val (.int c6), .val (.int c7), .val (.ref b265), .val (.ref b295), .unset, .unset, .unset] [])) _
      refine XS.aload X302.here hx rfl (hb hby at_125) rfl rfl ?_
      show Steps p.tables e below (T302.setTop (mkF m 127 #[.val (.int p0), .val (.int p1), .val (.int p2), .val (.int p3), .val (.int (2 : Int32)), .val (.int c5), .val (.int c6), .val (.int c7), .val (.ref b265), .val (.ref b295), .unset, .unset, .unset] [(.ref b265)])) _
      refine XS.bipush X302.here hx rfl (hb hby at_127) ?_
      show Steps p.tables e below (T302.setTop (mkF m 129 #[.val (.int p0), .val (.int p1), .val (.int p2), .val (.int p3), .val (.int (2 : Int32)), .val (.int c5), .val (.int c6), .val (.int c7), .val (.ref b265), .val (.ref b295), .unset, .unset, .unset] [(.int (10 : Int32)), (.ref b265)])) _
      refine XS.iload X302.here hx rfl (hb hby at_129) rfl ?_
      show Steps p.tables e below (T302.setTop (mkF m 131 #[.val (.int p0), .val (.int p1), .val (.int p2), .val (.int p3), .val (.int (2 : Int32)), .val (.int c5), .val (.int c6), .val (.int c7), .val (.ref b265), .val (.ref b295), .unset, .unset, .unset] [(.int c6), (.int (10 : Int32)), (.ref b265)])) _
      refine st306 _ ?_
      show Steps p.tables e below (T306.setTop (mkF m 132 #[.val (.int p0), .val (.int p1), .val (.int p2), .val (.int p3), .val (.int (2 : Int32)), .val (.int c5), .val (.int c6), .val (.int c7), .val (.ref b265), .val (.ref b295), .unset, .unset, .unset] [])) _
      refine XS.aload X306.here hx rfl (hb hby at_132) rfl rfl ?_
      show Steps p.tables e below (T306.setTop (mkF m 134 #[.val (.int p0), .val (.int p1), .val (.int p2), .val (.int p3), .val (.int (2 : Int32)), .val (.int c5), .val (.int c6), .val (.int c7), .val (.ref b265), .val (.ref b295), .unset, .unset, .unset] [(.ref b295)])) _
      refine XS.iconst X306.here hx rfl (hb hby at_134) ?_
      show Steps p.tables e below (T306.setTop (mkF m 135 #[.val (.int p0), .val (.int p1), .val (.int p2), .val (.int p3), .val (.int (2 : Int32)), .val (.int c5), .val (.int c6), .val (.int c7), .val (.ref b265), .val (.ref b295), .unset, .unset, .unset] [(.int (1 : Int32)), (.ref b295)])) _
      refine XS.iload X306.here hx rfl (hb hby at_135) rfl ?_
      show Steps p.tables e below (T306.setTop (mkF m 137 #[.val (.int p0), .val (.int p1), .val (.int p2), .val (.int p3), .val (.int (2 : Int32)), .val (.int c5), .val (.int c6), .val (.int c7), .val (.ref b265), .val (.ref b295), .unset, .unset, .unset] [(.int c6), (.int (1 : Int32)), (.ref b295)])) _
      refine st310 _ ?_
      show Steps p.tables e below (T310.setTop (mkF m 138 #[.val (.int p0), .val (.int p1), .val (.int p2), .val (.int p3), .val (.int (2 : Int32)), .val (.int c5), .val (.int c6), .val (.int c7), .val (.ref b265), .val (.ref b295), .unset, .unset, .unset] [])) _
      refine XS.iload X310.here hx rfl (hb hby at_138) rfl ?_
      show Steps p.tables e below (T310.setTop (mkF m 140 #[.val (.int p0), .val (.int p1), .val (.int p2), .val (.int p3), .val (.int (2 : Int32)), .val (.int c5), .val (.int c6), .val (.int c7), .val (.ref b265), .val (.ref b295), .unset, .unset, .unset] [(.int (2 : Int32))])) _
      refine XS.iconst X310.here hx rfl (hb hby at_140) ?_
      show Steps p.tables e below (T310.setTop (mkF m 141 #[.val (.int p0), .val (.int p1), .val (.int p2), .val (.int p3), .val (.int (2 : Int32)), .val (.int c5), .val (.int c6), .val (.int c7), .val (.ref b265), .val (.ref b295), .unset, .unset, .unset] [(.int (2 : Int32)), (.int (2 : Int32))])) _
      refine XS.icmpYes X310.here hx rfl (pc0 := 141) (pc' := 157) rfl (hb hby at_141) rfl (flt (by decide)).2.2.2 (by decide) (by decide) ?_
      show Steps p.tables e below (T310.setTop (mkF m 157 #[.val (.int p0), .val (.int p1), .val (.int p2), .val (.int p3), .val (.int (2 : Int32)), .val (.int c5), .val (.int c6), .val (.int c7), .val (.ref b265), .val (.ref b295), .unset, .unset, .unset] [])) _
      refine st317 _ ?_
      show Steps p.tables e below (T317.setTop (mkF m 160 #[.val (.int p0), .val (.int p1), .val (.int p2), .val (.int p3), .val (.int (2 : Int32)), .val (.int c5), .val (.int c6), .val (.int c7), .val (.ref b265), .val (.ref b295), .unset, .unset, .unset] [(.ref b317)])) _
      refine XS.dup X317.here hx rfl (hb hby at_160) rfl rfl ?_
      show Steps p.tables e below (T317.setTop (mkF m 161 #[.val (.int p0), .val (.int p1), .val (.int p2), .val (.int p3), .val (.int (2 : Int32)), .val (.int c5), .val (.int c6), .val (.int c7), .val (.ref b265), .val (.ref b295), .unset, .unset, .unset] [(.ref b317), (.ref b317)])) _
      refine XS.aload X317.here hx rfl (hb hby at_161) rfl rfl ?_
      show Steps p.tables e below (T317.setTop (mkF m 163 #[.val (.int p0), .val (.int p1), .val (.int p2), .val (.int p3), .val (.int (2 : Int32)), .val (.int c5), .val (.int c6), .val (.int c7), .val (.ref b265), .val (.ref b295), .unset, .unset, .unset] [(.ref b265), (.ref b317), (.ref b317)])) _
      refine st322.trans ?_
      show Steps p.tables e below (T322.setTop (mkF m 166 #[.val (.int p0), .val (.int p1), .val (.int p2), .val (.int p3), .val (.int (2 : Int32)), .val (.int c5), .val (.int c6), .val (.int c7), .val (.ref b265), .val (.ref b295), .unset, .unset, .unset] [(.ref b317)])) _
      refine XS.astore X322.here hx rfl (hb hby at_166) rfl rfl (l' := #[.val (.int p0), .val (.int p1), .val (.int p2), .val (.int p3), .val (.int (2 : Int32)), .val (.int c5), .val (.int c6), .val (.int c7), .val (.ref b265), .val (.ref b295), .val (.ref b317), .unset, .unset]) rfl ?_
      exact hk
    · skip
      obtain ⟨T326, h326, k326, X326, e326, E326, A326, st326⟩ := newP X0 hx hZ (hw _ (List.mem_of_getElem? (i := 0) rfl)) e0 (g := (mkF m 34 #[.val (.int p0), .val (.int p1), .val (.int p2), .val (.int p3), .val (.int (3 : Int32)), .val (.int c5), .val (.int c6), .val (.int c7), .unset, .unset, .unset, .unset, .unset] [(.int ((9 : Int32) + (3 : Int32)))])) rfl (hb hby at_34) rfl (by decide) (cap := 12) (by decide) (by decide) (by decide) (by decide)
      obtain ⟨b326, g326⟩ : ∃ z, z = h0.size := ⟨_, rfl⟩
      rw [← g326] at A326 st326
      have ge_b326 : n0 ≤ b326 := Nat.le_trans Z0 (Nat.le_of_eq g326.symm)
      have sz_b326 : h0.size ≤ b326 := Nat.le_trans (Keep.refl h0 []).1 (Nat.le_of_eq g326.symm)
      have Z327 : n0 ≤ h326.size := Nat.le_trans Z0 E326.1
      have K328 : Keep h0 h326 [] := (Keep.refl h0 []).ext E326
      have V326 : Arv Z h326 b326 k326 .char ((9 : Int32) + (3 : Int32)) [(.int (0 : Int32)), (.int (0 : Int32)), (.int (0 : Int32)), (.int (0 : Int32)), (.int (0 : Int32)), (.int (0 : Int32)), (.int (0 : Int32)), (.int (0 : Int32)), (.int (0 : Int32)), (.int (0 : Int32)), (.int (0 : Int32)), (.int (0 : Int32))] (.int (0 : Int32)) := (Arv.new A326 (by decide)).pad (pad_rep [] (.int (0 : Int32)) 12)
      obtain ⟨cl329, Ar329, q329, S329, M329, Hs329, G329⟩ := id V326
      obtain ⟨T329, h329, X329, e329, W329, st329⟩ := stC X326 hx hZ e326 Ar329 (j := (0 : Int32)) (inb_of S329 ⟨(by decide), (by decide)⟩) (g := (mkF m 43 #[.val (.int p0), .val (.int p1), .val (.int p2), .val (.int p3), .val (.int (3 : Int32)), .val (.int c5), .val (.int c6), .val (.int c7), .val (.ref b326), .unset, .unset, .unset, .unset] [(.int (115 : Int32)), (.int (0 : Int32)), (.ref b326)])) rfl rfl (hb hby at_43)
      have Z330 : n0 ≤ h329.size := Nat.le_trans Z327 (Keep.of_wr W329).1
      have K331 : Keep h0 h329 [] := K328.wr W329 (Or.inr sz_b326)
      have N329 := Fr.snoc X329 N0 ge_b326
      have V329 : Arv Z h329 b326 k326 .char ((9 : Int32) + (3 : Int32)) [(.int (nar .char (115 : Int32))), (.int (0 : Int32)), (.int (0 : Int32)), (.int (0 : Int32)), (.int (0 : Int32)), (.int (0 : Int32)), (.int (0 : Int32)), (.int (0 : Int32)), (.int (0 : Int32)), (.int (0 : Int32)), (.int (0 : Int32)), (.int (0 : Int32))] (.int (0 : Int32)) := Arv.set Ar329 q329 S329 M329 Hs329 G329 (fits_nar_char _) W329 0 rfl (Nat.le_of_ble_eq_true rfl)
      obtain ⟨cl332, Ar332, q332, S332, M332, Hs332, G332⟩ := id V329
      obtain ⟨T332, h332, X332, e332, W332, st332⟩ := stC X329 hx hZ e329 Ar332 (j := (1 : Int32)) (inb_of S332 ⟨(by decide), (by decide)⟩) (g := (mkF m 49 #[.val (.int p0), .val (.int p1), .val (.int p2), .val (.int p3), .val (.int (3 : Int32)), .val (.int c5), .val (.int c6), .val (.int c7), .val (.ref b326), .unset, .unset, .unset, .unset] [(.int (101 : Int32)), (.int (1 : Int32)), (.ref b326)])) rfl rfl (hb hby at_49)
      have Z333 : n0 ≤ h332.size := Nat.le_trans Z330 (Keep.of_wr W332).1
      have K334 : Keep h0 h332 [] := K331.wr W332 (Or.inr sz_b326)
      have N332 := Fr.snoc X332 N329 ge_b326
      have V332 : Arv Z h332 b326 k326 .char ((9 : Int32) + (3 : Int32)) [(.int (nar .char (115 : Int32))), (.int (nar .char (101 : Int32))), (.int (0 : Int32)), (.int (0 : Int32)), (.int (0 : Int32)), (.int (0 : Int32)), (.int (0 : Int32)), (.int (0 : Int32)), (.int (0 : Int32)), (.int (0 : Int32)), (.int (0 : Int32)), (.int (0 : Int32))] (.int (0 : Int32)) := Arv.set Ar332 q332 S332 M332 Hs332 G332 (fits_nar_char _) W332 1 rfl (Nat.le_of_ble_eq_true rfl)
      obtain ⟨cl335, Ar335, q335, S335, M335, Hs335, G335⟩ := id V332
      obtain ⟨T335, h335, X335, e335, W335, st335⟩ := stC X332 hx hZ e332 Ar335 (j := (2 : Int32)) (inb_of S335 ⟨(by decide), (by decide)⟩) (g := (mkF m 55 #[.val (.int p0), .val (.int p1), .val (.int p2), .val (.int p3), .val (.int (3 : Int32)), .val (.int c5), .val (.int c6), .val (.int c7), .val (.ref b326), .unset, .unset, .unset, .unset] [(.int (113 : Int32)), (.int (2 : Int32)), (.ref b326)])) rfl rfl (hb hby at_55)
      have Z336 : n0 ≤ h335.size := Nat.le_trans Z333 (Keep.of_wr W335).1
      have K337 : Keep h0 h335 [] := K334.wr W335 (Or.inr sz_b326)
      have N335 := Fr.snoc X335 N332 ge_b326
      have V335 : Arv Z h335 b326 k326 .char ((9 : Int32) + (3 : Int32)) [(.int (nar .char (115 : Int32))), (.int (nar .char (101 : Int32))), (.int (nar .char (113 : Int32))), (.int (0 : Int32)), (.int (0 : Int32)), (.int (0 : Int32)), (.int (0 : Int32)), (.int (0 : Int32)), (.int (0 : Int32)), (.int (0 : Int32)), (.int (0 : Int32)), (.int (0 : Int32))] (.int (0 : Int32)) := Arv.set Ar335 q335 S335 M335 Hs335 G335 (fits_nar_char _) W335 2 rfl (Nat.le_of_ble_eq_true rfl)
      obtain ⟨cl338, Ar338, q338, S338, M338, Hs338, G338⟩ := id V335
      obtain ⟨T338, h338, X338, e338, W338, st338⟩ := stC X335 hx hZ e335 Ar338 (j := (3 : Int32)) (inb_of S338 ⟨(by decide), (by decide)⟩) (g := (mkF m 61 #[.val (.int p0), .val (.int p1), .val (.int p2), .val (.int p3), .val (.int (3 : Int32)), .val (.int c5), .val (.int c6), .val (.int c7), .val (.ref b326), .unset, .unset, .unset, .unset] [(.int (117 : Int32)), (.int (3 : Int32)), (.ref b326)])) rfl rfl (hb hby at_61)
      have Z339 : n0 ≤ h338.size := Nat.le_trans Z336 (Keep.of_wr W338).1
      have K340 : Keep h0 h338 [] := K337.wr W338 (Or.inr sz_b326)
      have N338 := Fr.snoc X338 N335 ge_b326
      have V338 : Arv Z h338 b326 k326 .char ((9 : Int32) + (3 : Int32)) [(.int (nar .char (115 : Int32))), (.int (nar .char (101 : Int32))), (.int (nar .char (113 : Int32))), (.int (nar .char (117 : Int32))), (.int (0 : Int32)), (.int (0 : Int32)), (.int (0 : Int32)), (.int (0 : Int32)), (.int (0 : Int32)), (.int (0 : Int32)), (.int (0 : Int32)), (.int (0 : Int32))] (.int (0 : Int32)) := Arv.set Ar338 q338 S338 M338 Hs338 G338 (fits_nar_char _) W338 3 rfl (Nat.le_of_ble_eq_true rfl)
      obtain ⟨cl341, Ar341, q341, S341, M341, Hs341, G341⟩ := id V338
      obtain ⟨T341, h341, X341, e341, W341, st341⟩ := stC X338 hx hZ e338 Ar341 (j := (4 : Int32)) (inb_of S341 ⟨(by decide), (by decide)⟩) (g := (mkF m 67 #[.val (.int p0), .val (.int p1), .val (.int p2), .val (.int p3), .val (.int (3 : Int32)), .val (.int c5), .val (.int c6), .val (.int c7), .val (.ref b326), .unset, .unset, .unset, .unset] [(.int (101 : Int32)), (.int (4 : Int32)), (.ref b326)])) rfl rfl (hb hby at_67)
      have Z342 : n0 ≤ h341.size := Nat.le_trans Z339 (Keep.of_wr W341).1
      have K343 : Keep h0 h341 [] := K340.wr W341 (Or.inr sz_b326)
      have N341 := Fr.snoc X341 N338 ge_b326
      have V341 : Arv Z h341 b326 k326 .char ((9 : Int32) + (3 : Int32)) [(.int (nar .char (115 : Int32))), (.int (nar .char (101 : Int32))), (.int (nar .char (113 : Int32))), (.int (nar .char (117 : Int32))), (.int (nar .char (101 : Int32))), (.int (0 : Int32)), (.int (0 : Int32)), (.int (0 : Int32)), (.int (0 : Int32)), (.int (0 : Int32)), (.int (0 : Int32)), (.int (0 : Int32))] (.int (0 : Int32)) := Arv.set Ar341 q341 S341 M341 Hs341 G341 (fits_nar_char _) W341 4 rfl (Nat.le_of_ble_eq_true rfl)
      obtain ⟨cl344, Ar344, q344, S344, M344, Hs344, G344⟩ := id V341
      obtain ⟨T344, h344, X344, e344, W344, st344⟩ := stC X341 hx hZ e341 Ar344 (j := (5 : Int32)) (inb_of S344 ⟨(by decide), (by decide)⟩) (g := (mkF m 73 #[.val (.int p0), .val (.int p1), .val (.int p2), .val (.int p3), .val (.int (3 : Int32)), .val (.int c5), .val (.int c6), .val (.int c7), .val (.ref b326), .unset, .unset, .unset, .unset] [(.int (110 : Int32)), (.int (5 : Int32)), (.ref b326)])) rfl rfl (hb hby at_73)
      have Z345 : n0 ≤ h344.size := Nat.le_trans Z342 (Keep.of_wr W344).1
      have K346 : Keep h0 h344 [] := K343.wr W344 (Or.inr sz_b326)
      have N344 := Fr.snoc X344 N341 ge_b326
      have V344 : Arv Z h344 b326 k326 .char ((9 : Int32) + (3 : Int32)) [(.int (nar .char (115 : Int32))), (.int (nar .char (101 : Int32))), (.int (nar .char (113 : Int32))), (.int (nar .char (117 : Int32))), (.int (nar .char (101 : Int32))), (.int (nar .char (110 : Int32))), (.int (0 : Int32)), (.int (0 : Int32)), (.int (0 : Int32)), (.int (0 : Int32)), (.int (0 : Int32)), (.int (0 : Int32))] (.int (0 : Int32)) := Arv.set Ar344 q344 S344 M344 Hs344 G344 (fits_nar_char _) W344 5 rfl (Nat.le_of_ble_eq_true rfl)
      obtain ⟨cl347, Ar347, q347, S347, M347, Hs347, G347⟩ := id V344
      obtain ⟨T347, h347, X347, e347, W347, st347⟩ := stC X344 hx hZ e344 Ar347 (j := (6 : Int32)) (inb_of S347 ⟨(by decide), (by decide)⟩) (g := (mkF m 80 #[.val (.int p0), .val (.int p1), .val (.int p2), .val (.int p3), .val (.int (3 : Int32)), .val (.int c5), .val (.int c6), .val (.int c7), .val (.ref b326), .unset, .unset, .unset, .unset] [(.int (99 : Int32)), (.int (6 : Int32)), (.ref b326)])) rfl rfl (hb hby at_80)
      have Z348 : n0 ≤ h347.size := Nat.le_trans Z345 (Keep.of_wr W347).1
      have K349 : Keep h0 h347 [] := K346.wr W347 (Or.inr sz_b326)
      have N347 := Fr.snoc X347 N344 ge_b326
      have V347 : Arv Z h347 b326 k326 .char ((9 : Int32) + (3 : Int32)) [(.int (nar .char (115 : Int32))), (.int (nar .char (101 : Int32))), (.int (nar .char (113 : Int32))), (.int (nar .char (117 : Int32))), (.int (nar .char (101 : Int32))), (.int (nar .char (110 : Int32))), (.int (nar .char (99 : Int32))), (.int (0 : Int32)), (.int (0 : Int32)), (.int (0 : Int32)), (.int (0 : Int32)), (.int (0 : Int32))] (.int (0 : Int32)) := Arv.set Ar347 q347 S347 M347 Hs347 G347 (fits_nar_char _) W347 6 rfl (Nat.le_of_ble_eq_true rfl)
      obtain ⟨cl350, Ar350, q350, S350, M350, Hs350, G350⟩ := id V347
      obtain ⟨T350, h350, X350, e350, W350, st350⟩ := stC X347 hx hZ e347 Ar350 (j := (7 : Int32)) (inb_of S350 ⟨(by decide), (by decide)⟩) (g := (mkF m 87 #[.val (.int p0), .val (.int p1), .val (.int p2), .val (.int p3), .val (.int (3 : Int32)), .val (.int c5), .val (.int c6), .val (.int c7), .val (.ref b326), .unset, .unset, .unset, .unset] [(.int (101 : Int32)), (.int (7 : Int32)), (.ref b326)])) rfl rfl (hb hby at_87)
      have Z351 : n0 ≤ h350.size := Nat.le_trans Z348 (Keep.of_wr W350).1
      have K352 : Keep h0 h350 [] := K349.wr W350 (Or.inr sz_b326)
      have N350 := Fr.snoc X350 N347 ge_b326
      have V350 : Arv Z h350 b326 k326 .char ((9 : Int32) + (3 : Int32)) [(.int (nar .char (115 : Int32))), (.int (nar .char (101 : Int32))), (.int (nar .char (113 : Int32))), (.int (nar .char (117 : Int32))), (.int (nar .char (101 : Int32))), (.int (nar .char (110 : Int32))), (.int (nar .char (99 : Int32))), (.int (nar .char (101 : Int32))), (.int (0 : Int32)), (.int (0 : Int32)), (.int (0 : Int32)), (.int (0 : Int32))] (.int (0 : Int32)) := Arv.set Ar350 q350 S350 M350 Hs350 G350 (fits_nar_char _) W350 7 rfl (Nat.le_of_ble_eq_true rfl)
      obtain ⟨cl353, Ar353, q353, S353, M353, Hs353, G353⟩ := id V350
      obtain ⟨T353, h353, X353, e353, W353, st353⟩ := stC X350 hx hZ e350 Ar353 (j := (8 : Int32)) (inb_of S353 ⟨(by decide), (by decide)⟩) (g := (mkF m 94 #[.val (.int p0), .val (.int p1), .val (.int p2), .val (.int p3), .val (.int (3 : Int32)), .val (.int c5), .val (.int c6), .val (.int c7), .val (.ref b326), .unset, .unset, .unset, .unset] [(.int (32 : Int32)), (.int (8 : Int32)), (.ref b326)])) rfl rfl (hb hby at_94)
      have Z354 : n0 ≤ h353.size := Nat.le_trans Z351 (Keep.of_wr W353).1
      have K355 : Keep h0 h353 [] := K352.wr W353 (Or.inr sz_b326)
      have N353 := Fr.snoc X353 N350 ge_b326
      have V353 : Arv Z h353 b326 k326 .char ((9 : Int32) + (3 : Int32)) [(.int (nar .char (115 : Int32))), (.int (nar .char (101 : Int32))), (.int (nar .char (113 : Int32))), (.int (nar .char (117 : Int32))), (.int (nar .char (101 : Int32))), (.int (nar .char (110 : Int32))), (.int (nar .char (99 : Int32))), (.int (nar .char (101 : Int32))), (.int (nar .char (32 : Int32))), (.int (0 : Int32)), (.int (0 : Int32)), (.int (0 : Int32))] (.int (0 : Int32)) := Arv.set Ar353 q353 S353 M353 Hs353 G353 (fits_nar_char _) W353 8 rfl (Nat.le_of_ble_eq_true rfl)
      obtain ⟨T356, h356, k356, X356, e356, E356, A356, st356⟩ := newP X353 hx hZ (hw _ (List.mem_of_getElem? (i := 0) rfl)) e353 (g := (mkF m 97 #[.val (.int p0), .val (.int p1), .val (.int p2), .val (.int p3), .val (.int (3 : Int32)), .val (.int c5), .val (.int c6), .val (.int c7), .val (.ref b326), .unset, .unset, .unset, .unset] [(.int (3 : Int32))])) rfl (hb hby at_97) rfl (by decide) (cap := 3) (by decide) (by decide) (by decide) (by decide)
      obtain ⟨b356, g356⟩ : ∃ z, z = h353.size := ⟨_, rfl⟩
      rw [← g356] at A356 st356
      have ge_b356 : n0 ≤ b356 := Nat.le_trans Z354 (Nat.le_of_eq g356.symm)
      have sz_b356 : h0.size ≤ b356 := Nat.le_trans K355.1 (Nat.le_of_eq g356.symm)
      have Z357 : n0 ≤ h356.size := Nat.le_trans Z354 E356.1
      have K358 : Keep h0 h356 [] := K355.ext E356
      have V356 : Arv Z h356 b356 k356 .char (3 : Int32) [(.int (0 : Int32)), (.int (0 : Int32)), (.int (0 : Int32))] (.int (0 : Int32)) := (Arv.new A356 (by decide)).pad (pad_rep [] (.int (0 : Int32)) 3)
      have f360 := (V353.ext E356)
      obtain ⟨cl359, Ar359, q359, S359, M359, Hs359, G359⟩ := id f360
      obtain ⟨T359, h359, X359, e359, W359, st359⟩ := stC X356 hx hZ e356 Ar359 (j := (9 : Int32)) (inb_of S359 ⟨(by decide), (by decide)⟩) (g := (mkF m 112 #[.val (.int p0), .val (.int p1), .val (.int p2), .val (.int p3), .val (.int (3 : Int32)), .val (.int c5), .val (.int c6), .val (.int c7), .val (.ref b326), .val (.ref b356), .unset, .unset, .unset] [(.int c5), (.int (9 : Int32)), (.ref b326)])) rfl rfl (hb hby at_112)
      have Z361 : n0 ≤ h359.size := Nat.le_trans Z357 (Keep.of_wr W359).1
      have K362 : Keep h0 h359 [] := K358.wr W359 (Or.inr sz_b326)
      have N359 := Fr.snoc X359 N353 ge_b326
      have V359 : Arv Z h359 b326 k326 .char ((9 : Int32) + (3 : Int32)) [(.int (nar .char (115 : Int32))), (.int (nar .char (101 : Int32))), (.int (nar .char (113 : Int32))), (.int (nar .char (117 : Int32))), (.int (nar .char (101 : Int32))), (.int (nar .char (110 : Int32))), (.int (nar .char (99 : Int32))), (.int (nar .char (101 : Int32))), (.int (nar .char (32 : Int32))), (.int (nar .char c5)), (.int (0 : Int32)), (.int (0 : Int32))] (.int (0 : Int32)) := Arv.set Ar359 q359 S359 M359 Hs359 G359 (fits_nar_char _) W359 9 rfl (Nat.le_of_ble_eq_true rfl)
      have f364 := (V356.other W359 (Ne.symm (Nat.ne_of_lt (Nat.lt_of_lt_of_le V353.lt (Nat.le_of_eq g356.symm)))))
      obtain ⟨cl363, Ar363, q363, S363, M363, Hs363, G363⟩ := id f364
      obtain ⟨T363, h363, X363, e363, W363, st363⟩ := stC X359 hx hZ e359 Ar363 (j := (0 : Int32)) (inb_of S363 ⟨(by decide), (by decide)⟩) (g := (mkF m 118 #[.val (.int p0), .val (.int p1), .val (.int p2), .val (.int p3), .val (.int (3 : Int32)), .val (.int c5), .val (.int c6), .val (.int c7), .val (.ref b326), .val (.ref b356), .unset, .unset, .unset] [(.int c5), (.int (0 : Int32)), (.ref b356)])) rfl rfl (hb hby at_118)
      have Z365 : n0 ≤ h363.size := Nat.le_trans Z361 (Keep.of_wr W363).1
      have K366 : Keep h0 h363 [] := K362.wr W363 (Or.inr sz_b356)
      have N363 := Fr.snoc X363 N359 ge_b356
      have V363 : Arv Z h363 b356 k356 .char (3 : Int32) [(.int (nar .char c5)), (.int (0 : Int32)), (.int (0 : Int32))] (.int (0 : Int32)) := Arv.set Ar363 q363 S363 M363 Hs363 G363 (fits_nar_char _) W363 0 rfl (Nat.le_of_ble_eq_true rfl)
      have f368 := (V359.other W363 (Nat.ne_of_lt (Nat.lt_of_lt_of_le V353.lt (Nat.le_of_eq g356.symm))))
      obtain ⟨cl367, Ar367, q367, S367, M367, Hs367, G367⟩ := id f368
      obtain ⟨T367, h367, X367, e367, W367, st367⟩ := stC X363 hx hZ e363 Ar367 (j := (10 : Int32)) (inb_of S367 ⟨(by decide), (by decide)⟩) (g := (mkF m 131 #[.val (.int p0), .val (.int p1), .val (.int p2), .val (.int p3), .val (.int (3 : Int32)), .val (.int c5), .val (.int c6), .val (.int c7), .val (.ref b326), .val (.ref b356), .unset, .unset, .unset] [(.int c6), (.int (10 : Int32)), (.ref b326)])) rfl rfl (hb hby at_131)
      have Z369 : n0 ≤ h367.size := Nat.le_trans Z365 (Keep.of_wr W367).1
      have K370 : Keep h0 h367 [] := K366.wr W367 (Or.inr sz_b326)
      have N367 := Fr.snoc X367 N363 ge_b326
      have V367 : Arv Z h367 b326 k326 .char ((9 : Int32) + (3 : Int32)) [(.int (nar .char (115 : Int32))), (.int (nar .char (101 : Int32))), (.int (nar .char (113 : Int32))), (.int (nar .char (117 : Int32))), (.int (nar .char (101 : Int32))), (.int (nar .char (110 : Int32))), (.int (nar .char (99 : Int32))), (.int (nar .char (101 : Int32))), (.int (nar .char (32 : Int32))), (.int (nar .char c5)), (.int (nar .char c6)), (.int (0 : Int32))] (.int (0 : Int32)) := Arv.set Ar367 q367 S367 M367 Hs367 G367 (fits_nar_char _) W367 10 rfl (Nat.le_of_ble_eq_true rfl)
      have f372 := (V363.other W367 (Ne.symm (Nat.ne_of_lt (Nat.lt_of_lt_of_le V353.lt (Nat.le_of_eq g356.symm)))))
      obtain ⟨cl371, Ar371, q371, S371, M371, Hs371, G371⟩ := id f372
      obtain ⟨T371, h371, X371, e371, W371, st371⟩ := stC X367 hx hZ e367 Ar371 (j := (1 : Int32)) (inb_of S371 ⟨(by decide), (by decide)⟩) (g := (mkF m 137 #[.val (.int p0), .val (.int p1), .val (.int p2), .val (.int p3), .val (.int (3 : Int32)), .val (.int c5), .val (.int c6), .val (.int c7), .val (.ref b326), .val (.ref b356), .unset, .unset, .unset] [(.int c6), (.int (1 : Int32)), (.ref b356)])) rfl rfl (hb hby at_137)
      have Z373 : n0 ≤ h371.size := Nat.le_trans Z369 (Keep.of_wr W371).1
      have K374 : Keep h0 h371 [] := K370.wr W371 (Or.inr sz_b356)
      have N371 := Fr.snoc X371 N367 ge_b356
      have V371 : Arv Z h371 b356 k356 .char (3 : Int32) [(.int (nar .char c5)), (.int (nar .char c6)), (.int (0 : Int32))] (.int (0 : Int32)) := Arv.set Ar371 q371 S371 M371 Hs371 G371 (fits_nar_char _) W371 1 rfl (Nat.le_of_ble_eq_true rfl)
      have f376 := (V367.other W371 (Nat.ne_of_lt (Nat.lt_of_lt_of_le V353.lt (Nat.le_of_eq g356.symm))))
      obtain ⟨cl375, Ar375, q375, S375, M375, Hs375, G375⟩ := id f376
      obtain ⟨T375, h375, X375, e375, W375, st375⟩ := stC X371 hx hZ e371 Ar375 (j := (11 : Int32)) (inb_of S375 ⟨(by decide), (by decide)⟩) (g := (mkF m 150 #[.val (.int p0), .val (.int p1), .val (.int p2), .val (.int p3), .val (.int (3 : Int32)), .val (.int c5), .val (.int c6), .val (.int c7), .val (.ref b326), .val (.ref b356), .unset, .unset, .unset] [(.int c7), (.int (11 : Int32)), (.ref b326)])) rfl rfl (hb hby at_150)
      have Z377 : n0 ≤ h375.size := Nat.le_trans Z373 (Keep.of_wr W375).1
      have K378 : Keep h0 h375 [] := K374.wr W375 (Or.inr sz_b326)
      have N375 := Fr.snoc X375 N371 ge_b326
      have V375 : Arv Z h375 b326 k326 .char ((9 : Int32) + (3 : Int32)) [(.int (nar .char (115 : Int32))), (.int (nar .char (101 : Int32))), (.int (nar .char (113 : Int32))), (.int (nar .char (117 : Int32))), (.int (nar .char (101 : Int32))), (.int (nar .char (110 : Int32))), (.int (nar .char (99 : Int32))), (.int (nar .char (101 : Int32))), (.int (nar .char (32 : Int32))), (.int (nar .char c5)), (.int (nar .char c6)), (.int (nar .char c7))] (.int (0 : Int32)) := Arv.set Ar375 q375 S375 M375 Hs375 G375 (fits_nar_char _) W375 11 rfl (Nat.le_of_ble_eq_true rfl)
      have f380 := (V371.other W375 (Ne.symm (Nat.ne_of_lt (Nat.lt_of_lt_of_le V353.lt (Nat.le_of_eq g356.symm)))))
      obtain ⟨cl379, Ar379, q379, S379, M379, Hs379, G379⟩ := id f380
      obtain ⟨T379, h379, X379, e379, W379, st379⟩ := stC X375 hx hZ e375 Ar379 (j := (2 : Int32)) (inb_of S379 ⟨(by decide), (by decide)⟩) (g := (mkF m 156 #[.val (.int p0), .val (.int p1), .val (.int p2), .val (.int p3), .val (.int (3 : Int32)), .val (.int c5), .val (.int c6), .val (.int c7), .val (.ref b326), .val (.ref b356), .unset, .unset, .unset] [(.int c7), (.int (2 : Int32)), (.ref b356)])) rfl rfl (hb hby at_156)
      have Z381 : n0 ≤ h379.size := Nat.le_trans Z377 (Keep.of_wr W379).1
      have K382 : Keep h0 h379 [] := K378.wr W379 (Or.inr sz_b356)
      have N379 := Fr.snoc X379 N375 ge_b356
      have V379 : Arv Z h379 b356 k356 .char (3 : Int32) [(.int (nar .char c5)), (.int (nar .char c6)), (.int (nar .char c7))] (.int (0 : Int32)) := Arv.set Ar379 q379 S379 M379 Hs379 G379 (fits_nar_char _) W379 2 rfl (Nat.le_of_ble_eq_true rfl)
      have hp : ∀ c ∈ ([115, 101, 113, 117, 101, 110, 99, 101, 32, c5, c6, c7] : List Int32), ¬ c < 0 ∧ ¬ (255 : Int32) < c := by
        intro c hc
        simp only [List.mem_cons, List.not_mem_nil, or_false] at hc
        rcases hc with rfl | rfl | rfl | rfl | rfl | rfl | rfl | rfl | rfl | rfl | rfl | rfl <;> first | decide | assumption
      have f383 := (V375.other W379 (Nat.ne_of_lt (Nat.lt_of_lt_of_le V353.lt (Nat.le_of_eq g356.symm))))
      have V384 : Arv Z h379 b326 k326 .char (Int32.ofNat 12) (([115, 101, 113, 117, 101, 110, 99, 101, 32, c5, c6, c7] : List Int32).map Value.int) (.int (0 : Int32)) := by
        have q := f383
        rw [own_narc hc5, own_narc hc6, own_narc hc7] at q
        exact q
      have V385 : Arv Z h379 b356 k356 .char (Int32.ofNat 3) ([c5, c6, c7].map Value.int) (.int (0 : Int32)) := by
        have q := V379
        rw [own_narc hc5, own_narc hc6, own_narc hc7] at q
        exact q
      obtain ⟨T386, h386, X386, e386, E386, A386, D386, -, st386⟩ := newO X379 hx hZ hown (hw _ (List.mem_of_getElem? (i := 1) rfl)) (hw _ (List.mem_of_getElem? (i := 2) rfl)) (hw _ (List.mem_of_getElem? (i := 3) rfl)) e379 (g := (mkF m 157 #[.val (.int p0), .val (.int p1), .val (.int p2), .val (.int p3), .val (.int (3 : Int32)), .val (.int c5), .val (.int c6), .val (.int c7), .val (.ref b326), .val (.ref b356), .unset, .unset, .unset] [])) rfl (hb hby at_157) (by decide) (by decide)
      obtain ⟨b386, g386⟩ : ∃ z, z = h379.size := ⟨_, rfl⟩
      rw [← g386] at A386 D386 st386
      have ge_b386 : n0 ≤ b386 := Nat.le_trans Z381 (Nat.le_of_eq g386.symm)
      have sz_b386 : h0.size ≤ b386 := Nat.le_trans K382.1 (Nat.le_of_eq g386.symm)
      have Z387 : n0 ≤ h386.size := Nat.le_trans Z381 E386.1
      have K388 : Keep h0 h386 [] := K382.ext E386
      have f389 := (V384.ext E386)
      have f390 := ((((((((((((((((((X00.ext E326).wr W329 ge_b326).wr W332 ge_b326).wr W335 ge_b326).wr W338 ge_b326).wr W341 ge_b326).wr W344 ge_b326).wr W347 ge_b326).wr W350 ge_b326).wr W353 ge_b326).ext E356).wr W359 ge_b326).wr W363 ge_b356).wr W367 ge_b326).wr W371 ge_b356).wr W375 ge_b326).wr W379 ge_b356).ext E386)
      obtain ⟨v391, vmx391, ⟨T391, L391, k391, n391⟩, -, X391, ⟨Lc391, hQ391, l391, y391, z391⟩, st391⟩ := X386.specialBack hx (y := (⟨"java/lang/String", "<init>", "([C)V"⟩ : MethodName)) rfl hown (mvT hZ (hw _ (List.mem_of_getElem? (i := 4) rfl))) (mvT hZ (hw _ (List.mem_of_getElem? (i := 5) rfl))) (mvT hZ (hw _ (List.mem_of_getElem? (i := 6) rfl))) (by decide) (StrChars.Road.backV (W := 1) hZ hws (kI := 4) (hw _ (List.mem_of_getElem? (i := 2) rfl)) (cs := ([115, 101, 113, 117, 101, 110, 99, 101, 32, c5, c6, c7] : List Int32)) (bs := (([115, 101, 113, 117, 101, 110, 99, 101, 32, c5, c6, c7] : List Int32)).map (fun c => c.toInt8.toInt32)) (n := 12) ge_b386 Z387 A386 (D386 (Or.inr (hw _ (List.mem_of_getElem? (i := 29) rfl))) (ty := (.array .byte)) (by decide)) (D386 (Or.inr (hw _ (List.mem_of_getElem? (i := 27) rfl))) (ty := .byte) (by decide)) f389 (O2.ext f390.2) P5 rfl rfl (by decide) (by decide) hp rfl (by decide) (by decide)) (g := (mkF m 163 #[.val (.int p0), .val (.int p1), .val (.int p2), .val (.int p3), .val (.int (3 : Int32)), .val (.int c5), .val (.int c6), .val (.int c7), .val (.ref b326), .val (.ref b356), .unset, .unset, .unset] [(.ref b326), (.ref b386), (.ref b386)])) rfl (by rw [hml]; rfl) (Steps.refl _) (a := b386) (argsL := [(.ref b326)]) (rest := [(.ref b386)]) (lenOf own_pd15 rfl) rfl (by show 2 * 0 + _ ≤ _; exact Nat.le_of_eq rfl) (hb hby at_163) (fun _ _ => ⟨rfl, e386, (by decide : 3 + 1 ≤ _), (by decide : 19 + 12 ≤ _)⟩)
      dsimp only [Pt.U, Pt.locs, Pt.cells, Pt.slots] at X391 l391 y391 z391 st391 hQ391
      subst l391 y391 z391
      obtain ⟨rfl, Nq391, K391, fe391, fc391, t391, kb391, u1391, u2391, u3391, fv391, fa391⟩ := hQ391
      have N391 := Fr.app N379 Nq391
      have Z392 : n0 ≤ T391.heap.size := Nat.le_trans Z387 K391.1
      have K393 : Keep h0 T391.heap [] := K388.trans K391 (allS (Or.inr sz_b386) all0)
      have f394 := ((V385.ext E386).keep K391 (ninS (Nat.ne_of_lt (Nat.lt_of_lt_of_le V385.lt (Nat.le_of_eq g386.symm))) nin0))
      refine ⟨T391, _, _, b326, b356, k356, b386, [c5, c6, c7], own_up X391 (by decide) (by decide), rfl, own_ext K393, N391, f394, ⟨hp, Nat.le_of_ble_eq_true rfl, fe391, fc391, t391, kb391, fv391, fa391⟩, Or.inr (Or.inr (Or.inr rfl)), fun target hk => ?_⟩
      show Steps p.tables e below (s₁.setTop (mkF m 29 #[.val (.int p0), .val (.int p1), .val (.int p2), .val (.int p3), .val (.int (3 : Int32)), .val (.int c5), .val (.int c6), .val (.int c7), .unset, .unset, .unset, .unset, .unset] [])) _
      refine XS.bipush X0.here hx rfl (hb hby at_29) ?_
      show Steps p.tables e below (s₁.setTop (mkF m 31 #[.val (.int p0), .val (.int p1), .val (.int p2), .val (.int p3), .val (.int (3 : Int32)), .val (.int c5), .val (.int c6), .val (.int c7), .unset, .unset, .unset, .unset, .unset] [(.int (9 : Int32))])) _
      refine XS.iload X0.here hx rfl (hb hby at_31) rfl ?_
      show Steps p.tables e below (s₁.setTop (mkF m 33 #[.val (.int p0), .val (.int p1), .val (.int p2), .val (.int p3), .val (.int (3 : Int32)), .val (.int c5), .val (.int c6), .val (.int c7), .unset, .unset, .unset, .unset, .unset] [(.int (3 : Int32)), (.int (9 : Int32))])) _
      refine XS.iadd X0.here hx rfl (hb hby at_33) rfl ?_
      show Steps p.tables e below (s₁.setTop (mkF m 34 #[.val (.int p0), .val (.int p1), .val (.int p2), .val (.int p3), .val (.int (3 : Int32)), .val (.int c5), .val (.int c6), .val (.int c7), .unset, .unset, .unset, .unset, .unset] [(.int ((9 : Int32) + (3 : Int32)))])) _
      refine st326 _ ?_
      show Steps p.tables e below (T326.setTop (mkF m 36 #[.val (.int p0), .val (.int p1), .val (.int p2), .val (.int p3), .val (.int (3 : Int32)), .val (.int c5), .val (.int c6), .val (.int c7), .unset, .unset, .unset, .unset, .unset] [(.ref b326)])) _
      refine XS.astore X326.here hx rfl (hb hby at_36) rfl rfl (l' := #[.val (.int p0), .val (.int p1), .val (.int p2), .val (.int p3), .val (.int (3 : Int32)), .val (.int c5), .val (.int c6), .val (.int c7), .val (.ref b326), .unset, .unset, .unset, .unset]) rfl ?_
      show Steps p.tables e below (T326.setTop (mkF m 38 #[.val (.int p0), .val (.int p1), .val (.int p2), .val (.int p3), .val (.int (3 : Int32)), .val (.int c5), .val (.int c6), .val (.int c7), .val (.ref b326), .unset, .unset, .unset, .unset] [])) _
      refine XS.aload X326.here hx rfl (hb hby at_38) rfl rfl ?_
      show Steps p.tables e below (T326.setTop (mkF m 40 #[.val (.int p0), .val (.int p1), .val (.int p2), .val (.int p3), .val (.int (3 : Int32)), .val (.int c5), .val (.int c6), .val (.int c7), .val (.ref b326), .unset, .unset, .unset, .unset] [(.ref b326)])) _
      refine XS.iconst X326.here hx rfl (hb hby at_40) ?_
      show Steps p.tables e below (T326.setTop (mkF m 41 #[.val (.int p0), .val (.int p1), .val (.int p2), .val (.int p3), .val (.int (3 : Int32)), .val (.int c5), .val (.int c6), .val (.int c7), .val (.ref b326), .unset, .unset, .unset, .unset] [(.int (0 : Int32)), (.ref b326)])) _
      refine XS.bipush X326.here hx rfl (hb hby at_41) ?_
      show Steps p.tables e below (T326.setTop (mkF m 43 #[.val (.int p0), .val (.int p1), .val (.int p2), .val (.int p3), .val (.int (3 : Int32)), .val (.int c5), .val (.int c6), .val (.int c7), .val (.ref b326), .unset, .unset, .unset, .unset] [(.int (115 : Int32)), (.int (0 : Int32)), (.ref b326)])) _
      refine st329 _ ?_
      show Steps p.tables e below (T329.setTop (mkF m 44 #[.val (.int p0), .val (.int p1), .val (.int p2), .val (.int p3), .val (.int (3 : Int32)), .val (.int c5), .val (.int c6), .val (.int c7), .val (.ref b326), .unset, .unset, .unset, .unset] [])) _
      refine XS.aload X329.here hx rfl (hb hby at_44) rfl rfl ?_
      show Steps p.tables e below (T329.setTop (mkF m 46 #[.val (.int p0), .val (.int p1), .val (.int p2), .val (.int p3), .val (.int (3 : Int32)), .val (.int c5), .val (.int c6), .val (.int c7), .val (.ref b326), .unset, .unset, .unset, .unset] [(.ref b326)])) _
      refine XS.iconst X329.here hx rfl (hb hby at_46) ?_
      show Steps p.tables e below (T329.setTop (mkF m 47 #[.val (.int p0), .val (.int p1), .val (.int p2), .val (.int p3), .val (.int (3 : Int32)), .val (.int c5), .val (.int c6), .val (.int c7), .val (.ref b326), .unset, .unset, .unset, .unset] [(.int (1 : Int32)), (.ref b326)])) _
      refine XS.bipush X329.here hx rfl (hb hby at_47) ?_
      show Steps p.tables e below (T329.setTop (mkF m 49 #[.val (.int p0), .val (.int p1), .val (.int p2), .val (.int p3), .val (.int (3 : Int32)), .val (.int c5), .val (.int c6), .val (.int c7), .val (.ref b326), .unset, .unset, .unset, .unset] [(.int (101 : Int32)), (.int (1 : Int32)), (.ref b326)])) _
      refine st332 _ ?_
      show Steps p.tables e below (T332.setTop (mkF m 50 #[.val (.int p0), .val (.int p1), .val (.int p2), .val (.int p3), .val (.int (3 : Int32)), .val (.int c5), .val (.int c6), .val (.int c7), .val (.ref b326), .unset, .unset, .unset, .unset] [])) _
      refine XS.aload X332.here hx rfl (hb hby at_50) rfl rfl ?_
      show Steps p.tables e below (T332.setTop (mkF m 52 #[.val (.int p0), .val (.int p1), .val (.int p2), .val (.int p3), .val (.int (3 : Int32)), .val (.int c5), .val (.int c6), .val (.int c7), .val (.ref b326), .unset, .unset, .unset, .unset] [(.ref b326)])) _
      refine XS.iconst X332.here hx rfl (hb hby at_52) ?_
      show Steps p.tables e below (T332.setTop (mkF m 53 #[.val (.int p0), .val (.int p1), .val (.int p2), .val (.int p3), .val (.int (3 : Int32)), .val (.int c5), .val (.int c6), .val (.int c7), .val (.ref b326), .unset, .unset, .unset, .unset] [(.int (2 : Int32)), (.ref b326)])) _
      refine XS.bipush X332.here hx rfl (hb hby at_53) ?_
      show Steps p.tables e below (T332.setTop (mkF m 55 #[.val (.int p0), .val (.int p1), .val (.int p2), .val (.int p3), .val (.int (3 : Int32)), .val (.int c5), .val (.int c6), .val (.int c7), .val (.ref b326), .unset, .unset, .unset, .unset] [(.int (113 : Int32)), (.int (2 : Int32)), (.ref b326)])) _
      refine st335 _ ?_
      show Steps p.tables e below (T335.setTop (mkF m 56 #[.val (.int p0), .val (.int p1), .val (.int p2), .val (.int p3), .val (.int (3 : Int32)), .val (.int c5), .val (.int c6), .val (.int c7), .val (.ref b326), .unset, .unset, .unset, .unset] [])) _
      refine XS.aload X335.here hx rfl (hb hby at_56) rfl rfl ?_
      show Steps p.tables e below (T335.setTop (mkF m 58 #[.val (.int p0), .val (.int p1), .val (.int p2), .val (.int p3), .val (.int (3 : Int32)), .val (.int c5), .val (.int c6), .val (.int c7), .val (.ref b326), .unset, .unset, .unset, .unset] [(.ref b326)])) _
      refine XS.iconst X335.here hx rfl (hb hby at_58) ?_
      show Steps p.tables e below (T335.setTop (mkF m 59 #[.val (.int p0), .val (.int p1), .val (.int p2), .val (.int p3), .val (.int (3 : Int32)), .val (.int c5), .val (.int c6), .val (.int c7), .val (.ref b326), .unset, .unset, .unset, .unset] [(.int (3 : Int32)), (.ref b326)])) _
      refine XS.bipush X335.here hx rfl (hb hby at_59) ?_
      show Steps p.tables e below (T335.setTop (mkF m 61 #[.val (.int p0), .val (.int p1), .val (.int p2), .val (.int p3), .val (.int (3 : Int32)), .val (.int c5), .val (.int c6), .val (.int c7), .val (.ref b326), .unset, .unset, .unset, .unset] [(.int (117 : Int32)), (.int (3 : Int32)), (.ref b326)])) _
      refine st338 _ ?_
      show Steps p.tables e below (T338.setTop (mkF m 62 #[.val (.int p0), .val (.int p1), .val (.int p2), .val (.int p3), .val (.int (3 : Int32)), .val (.int c5), .val (.int c6), .val (.int c7), .val (.ref b326), .unset, .unset, .unset, .unset] [])) _
      refine XS.aload X338.here hx rfl (hb hby at_62) rfl rfl ?_
      show Steps p.tables e below (T338.setTop (mkF m 64 #[.val (.int p0), .val (.int p1), .val (.int p2), .val (.int p3), .val (.int (3 : Int32)), .val (.int c5), .val (.int c6), .val (.int c7), .val (.ref b326), .unset, .unset, .unset, .unset] [(.ref b326)])) _
      refine XS.iconst X338.here hx rfl (hb hby at_64) ?_
      show Steps p.tables e below (T338.setTop (mkF m 65 #[.val (.int p0), .val (.int p1), .val (.int p2), .val (.int p3), .val (.int (3 : Int32)), .val (.int c5), .val (.int c6), .val (.int c7), .val (.ref b326), .unset, .unset, .unset, .unset] [(.int (4 : Int32)), (.ref b326)])) _
      refine XS.bipush X338.here hx rfl (hb hby at_65) ?_
      show Steps p.tables e below (T338.setTop (mkF m 67 #[.val (.int p0), .val (.int p1), .val (.int p2), .val (.int p3), .val (.int (3 : Int32)), .val (.int c5), .val (.int c6), .val (.int c7), .val (.ref b326), .unset, .unset, .unset, .unset] [(.int (101 : Int32)), (.int (4 : Int32)), (.ref b326)])) _
      refine st341 _ ?_
      show Steps p.tables e below (T341.setTop (mkF m 68 #[.val (.int p0), .val (.int p1), .val (.int p2), .val (.int p3), .val (.int (3 : Int32)), .val (.int c5), .val (.int c6), .val (.int c7), .val (.ref b326), .unset, .unset, .unset, .unset] [])) _
      refine XS.aload X341.here hx rfl (hb hby at_68) rfl rfl ?_
      show Steps p.tables e below (T341.setTop (mkF m 70 #[.val (.int p0), .val (.int p1), .val (.int p2), .val (.int p3), .val (.int (3 : Int32)), .val (.int c5), .val (.int c6), .val (.int c7), .val (.ref b326), .unset, .unset, .unset, .unset] [(.ref b326)])) _
      refine XS.iconst X341.here hx rfl (hb hby at_70) ?_
      show Steps p.tables e below (T341.setTop (mkF m 71 #[.val (.int p0), .val (.int p1), .val (.int p2), .val (.int p3), .val (.int (3 : Int32)), .val (.int c5), .val (.int c6), .val (.int c7), .val (.ref b326), .unset, .unset, .unset, .unset] [(.int (5 : Int32)), (.ref b326)])) _
      refine XS.bipush X341.here hx rfl (hb hby at_71) ?_
      show Steps p.tables e below (T341.setTop (mkF m 73 #[.val (.int p0), .val (.int p1), .val (.int p2), .val (.int p3), .val (.int (3 : Int32)), .val (.int c5), .val (.int c6), .val (.int c7), .val (.ref b326), .unset, .unset, .unset, .unset] [(.int (110 : Int32)), (.int (5 : Int32)), (.ref b326)])) _
      refine st344 _ ?_
      show Steps p.tables e below (T344.setTop (mkF m 74 #[.val (.int p0), .val (.int p1), .val (.int p2), .val (.int p3), .val (.int (3 : Int32)), .val (.int c5), .val (.int c6), .val (.int c7), .val (.ref b326), .unset, .unset, .unset, .unset] [])) _
      refine XS.aload X344.here hx rfl (hb hby at_74) rfl rfl ?_
      show Steps p.tables e below (T344.setTop (mkF m 76 #[.val (.int p0), .val (.int p1), .val (.int p2), .val (.int p3), .val (.int (3 : Int32)), .val (.int c5), .val (.int c6), .val (.int c7), .val (.ref b326), .unset, .unset, .unset, .unset] [(.ref b326)])) _
      refine XS.bipush X344.here hx rfl (hb hby at_76) ?_
      show Steps p.tables e below (T344.setTop (mkF m 78 #[.val (.int p0), .val (.int p1), .val (.int p2), .val (.int p3), .val (.int (3 : Int32)), .val (.int c5), .val (.int c6), .val (.int c7), .val (.ref b326), .unset, .unset, .unset, .unset] [(.int (6 : Int32)), (.ref b326)])) _
      refine XS.bipush X344.here hx rfl (hb hby at_78) ?_
      show Steps p.tables e below (T344.setTop (mkF m 80 #[.val (.int p0), .val (.int p1), .val (.int p2), .val (.int p3), .val (.int (3 : Int32)), .val (.int c5), .val (.int c6), .val (.int c7), .val (.ref b326), .unset, .unset, .unset, .unset] [(.int (99 : Int32)), (.int (6 : Int32)), (.ref b326)])) _
      refine st347 _ ?_
      show Steps p.tables e below (T347.setTop (mkF m 81 #[.val (.int p0), .val (.int p1), .val (.int p2), .val (.int p3), .val (.int (3 : Int32)), .val (.int c5), .val (.int c6), .val (.int c7), .val (.ref b326), .unset, .unset, .unset, .unset] [])) _
      refine XS.aload X347.here hx rfl (hb hby at_81) rfl rfl ?_
      show Steps p.tables e below (T347.setTop (mkF m 83 #[.val (.int p0), .val (.int p1), .val (.int p2), .val (.int p3), .val (.int (3 : Int32)), .val (.int c5), .val (.int c6), .val (.int c7), .val (.ref b326), .unset, .unset, .unset, .unset] [(.ref b326)])) _
      refine XS.bipush X347.here hx rfl (hb hby at_83) ?_
      show Steps p.tables e below (T347.setTop (mkF m 85 #[.val (.int p0), .val (.int p1), .val (.int p2), .val (.int p3), .val (.int (3 : Int32)), .val (.int c5), .val (.int c6), .val (.int c7), .val (.ref b326), .unset, .unset, .unset, .unset] [(.int (7 : Int32)), (.ref b326)])) _
      refine XS.bipush X347.here hx rfl (hb hby at_85) ?_
      show Steps p.tables e below (T347.setTop (mkF m 87 #[.val (.int p0), .val (.int p1), .val (.int p2), .val (.int p3), .val (.int (3 : Int32)), .val (.int c5), .val (.int c6), .val (.int c7), .val (.ref b326), .unset, .unset, .unset, .unset] [(.int (101 : Int32)), (.int (7 : Int32)), (.ref b326)])) _
      refine st350 _ ?_
      show Steps p.tables e below (T350.setTop (mkF m 88 #[.val (.int p0), .val (.int p1), .val (.int p2), .val (.int p3), .val (.int (3 : Int32)), .val (.int c5), .val (.int c6), .val (.int c7), .val (.ref b326), .unset, .unset, .unset, .unset] [])) _
      refine XS.aload X350.here hx rfl (hb hby at_88) rfl rfl ?_
      show Steps p.tables e below (T350.setTop (mkF m 90 #[.val (.int p0), .val (.int p1), .val (.int p2), .val (.int p3), .val (.int (3 : Int32)), .val (.int c5), .val (.int c6), .val (.int c7), .val (.ref b326), .unset, .unset, .unset, .unset] [(.ref b326)])) _
      refine XS.bipush X350.here hx rfl (hb hby at_90) ?_
      show Steps p.tables e below (T350.setTop (mkF m 92 #[.val (.int p0), .val (.int p1), .val (.int p2), .val (.int p3), .val (.int (3 : Int32)), .val (.int c5), .val (.int c6), .val (.int c7), .val (.ref b326), .unset, .unset, .unset, .unset] [(.int (8 : Int32)), (.ref b326)])) _
      refine XS.bipush X350.here hx rfl (hb hby at_92) ?_
      show Steps p.tables e below (T350.setTop (mkF m 94 #[.val (.int p0), .val (.int p1), .val (.int p2), .val (.int p3), .val (.int (3 : Int32)), .val (.int c5), .val (.int c6), .val (.int c7), .val (.ref b326), .unset, .unset, .unset, .unset] [(.int (32 : Int32)), (.int (8 : Int32)), (.ref b326)])) _
      refine st353 _ ?_
      show Steps p.tables e below (T353.setTop (mkF m 95 #[.val (.int p0), .val (.int p1), .val (.int p2), .val (.int p3), .val (.int (3 : Int32)), .val (.int c5), .val (.int c6), .val (.int c7), .val (.ref b326), .unset, .unset, .unset, .unset] [])) _
      refine XS.iload X353.here hx rfl (hb hby at_95) rfl ?_
      show Steps p.tables e below (T353.setTop (mkF m 97 #[.val (.int p0), .val (.int p1), .val (.int p2), .val (.int p3), .val (.int (3 : Int32)), .val (.int c5), .val (.int c6), .val (.int c7), .val (.ref b326), .unset, .unset, .unset, .unset] [(.int (3 : Int32))])) _
      refine st356 _ ?_
      show Steps p.tables e below (T356.setTop (mkF m 99 #[.val (.int p0), .val (.int p1), .val (.int p2), .val (.int p3), .val (.int (3 : Int32)), .val (.int c5), .val (.int c6), .val (.int c7), .val (.ref b326), .unset, .unset, .unset, .unset] [(.ref b356)])) _
      refine XS.astore X356.here hx rfl (hb hby at_99) rfl rfl (l' := #[.val (.int p0), .val (.int p1), .val (.int p2), .val (.int p3), .val (.int (3 : Int32)), .val (.int c5), .val (.int c6), .val (.int c7), .val (.ref b326), .val (.ref b356), .unset, .unset, .unset]) rfl ?_
      show Steps p.tables e below (T356.setTop (mkF m 101 #[.val (.int p0), .val (.int p1), .val (.int p2), .val (.int p3), .val (.int (3 : Int32)), .val (.int c5), .val (.int c6), .val (.int c7), .val (.ref b326), .val (.ref b356), .unset, .unset, .unset] [])) _
      refine XS.iload X356.here hx rfl (hb hby at_101) rfl ?_
      show Steps p.tables e below (T356.setTop (mkF m 103 #[.val (.int p0), .val (.int p1), .val (.int p2), .val (.int p3), .val (.int (3 : Int32)), .val (.int c5), .val (.int c6), .val (.int c7), .val (.ref b326), .val (.ref b356), .unset, .unset, .unset] [(.int (3 : Int32))])) _
      refine XS.ifNo X356.here hx rfl (hb hby at_103) rfl ((if0 _ _).trans (tlt (by decide)).2.2.2) ?_
      show Steps p.tables e below (T356.setTop (mkF m 106 #[.val (.int p0), .val (.int p1), .val (.int p2), .val (.int p3), .val (.int (3 : Int32)), .val (.int c5), .val (.int c6), .val (.int c7), .val (.ref b326), .val (.ref b356), .unset, .unset, .unset] [])) _
      refine XS.aload X356.here hx rfl (hb hby at_106) rfl rfl ?_
      show Steps p.tables e below (T356.setTop (mkF m 108 #[.val (.int p0), .val (.int p1), .val (.int p2), .val (.int p3), .val (.int (3 : Int32)), .val (.int c5), .val (.int c6), .val (.int c7), .val (.ref b326), .val (.ref b356), .unset, .unset, .unset] [(.ref b326)])) _
      refine XS.bipush X356.here hx rfl (hb hby at_108) ?_
      show Steps p.tables e below (T356.setTop (mkF m 110 #[.val (.int p0), .val (.int p1), .val (.int p2), .val (.int p3), .val (.int (3 : Int32)), .val (.int c5), .val (.int c6), .val (.int c7), .val (.ref b326), .val (.ref b356), .unset, .unset, .unset] [(.int (9 : Int32)), (.ref b326)])) _
      refine XS.iload X356.here hx rfl (hb hby at_110) rfl ?_
      show Steps p.tables e below (T356.setTop (mkF m 112 #[.val (.int p0), .val (.int p1), .val (.int p2), .val (.int p3), .val (.int (3 : Int32)), .val (.int c5), .val (.int c6), .val (.int c7), .val (.ref b326), .val (.ref b356), .unset, .unset, .unset] [(.int c5), (.int (9 : Int32)), (.ref b326)])) _
      refine st359 _ ?_
      show Steps p.tables e below (T359.setTop (mkF m 113 #[.val (.int p0), .val (.int p1), .val (.int p2), .val (.int p3), .val (.int (3 : Int32)), .val (.int c5), .val (.int c6), .val (.int c7), .val (.ref b326), .val (.ref b356), .unset, .unset, .unset] [])) _
      refine XS.aload X359.here hx rfl (hb hby at_113) rfl rfl ?_
      show Steps p.tables e below (T359.setTop (mkF m 115 #[.val (.int p0), .val (.int p1), .val (.int p2), .val (.int p3), .val (.int (3 : Int32)), .val (.int c5), .val (.int c6), .val (.int c7), .val (.ref b326), .val (.ref b356), .unset, .unset, .unset] [(.ref b356)])) _
      refine XS.iconst X359.here hx rfl (hb hby at_115) ?_
      show Steps p.tables e below (T359.setTop (mkF m 116 #[.val (.int p0), .val (.int p1), .val (.int p2), .val (.int p3), .val (.int (3 : Int32)), .val (.int c5), .val (.int c6), .val (.int c7), .val (.ref b326), .val (.ref b356), .unset, .unset, .unset] [(.int (0 : Int32)), (.ref b356)])) _
      refine XS.iload X359.here hx rfl (hb hby at_116) rfl ?_
      show Steps p.tables e below (T359.setTop (mkF m 118 #[.val (.int p0), .val (.int p1), .val (.int p2), .val (.int p3), .val (.int (3 : Int32)), .val (.int c5), .val (.int c6), .val (.int c7), .val (.ref b326), .val (.ref b356), .unset, .unset, .unset] [(.int c5), (.int (0 : Int32)), (.ref b356)])) _
      refine st363 _ ?_
      show Steps p.tables e below (T363.setTop (mkF m 119 #[.val (.int p0), .val (.int p1), .val (.int p2), .val (.int p3), .val (.int (3 : Int32)), .val (.int c5), .val (.int c6), .val (.int c7), .val (.ref b326), .val (.ref b356), .unset, .unset, .unset] [])) _
      refine XS.iload X363.here hx rfl (hb hby at_119) rfl ?_
      show Steps p.tables e below (T363.setTop (mkF m 121 #[.val (.int p0), .val (.int p1), .val (.int p2), .val (.int p3), .val (.int (3 : Int32)), .val (.int c5), .val (.int c6), .val (.int c7), .val (.ref b326), .val (.ref b356), .unset, .unset, .unset] [(.int (3 : Int32))])) _
      refine XS.iconst X363.here hx rfl (hb hby at_121) ?_
      show Steps p.tables e below (T363.setTop (mkF m 122 #[.val (.int p0), .val (.int p1), .val (.int p2), .val (.int p3), .val (.int (3 : Int32)), .val (.int c5), .val (.int c6), .val (.int c7), .val (.ref b326), .val (.ref b356), .unset, .unset, .unset] [(.int (1 : Int32)), (.int (3 : Int32))])) _
      refine XS.icmpNo X363.here hx rfl (hb hby at_122) rfl (tlt (by decide)).2.2.2 ?_
      show Steps p.tables e below (T363.setTop (mkF m 125 #[.val (.int p0), .val (.int p1), .val (.int p2), .val (.int p3), .val (.int (3 : Int32)), .val (.int c5), .val (.int c6), .val (.int c7), .val (.ref b326), .val (.ref b356), .unset, .unset, .unset] [])) _
      refine XS.aload X363.here hx rfl (hb hby at_125) rfl rfl ?_
      show Steps p.tables e below (T363.setTop (mkF m 127 #[.val (.int p0), .val (.int p1), .val (.int p2), .val (.int p3), .val (.int (3 : Int32)), .val (.int c5), .val (.int c6), .val (.int c7), .val (.ref b326), .val (.ref b356), .unset, .unset, .unset] [(.ref b326)])) _
      refine XS.bipush X363.here hx rfl (hb hby at_127) ?_
      show Steps p.tables e below (T363.setTop (mkF m 129 #[.val (.int p0), .val (.int p1), .val (.int p2), .val (.int p3), .val (.int (3 : Int32)), .val (.int c5), .val (.int c6), .val (.int c7), .val (.ref b326), .val (.ref b356), .unset, .unset, .unset] [(.int (10 : Int32)), (.ref b326)])) _
      refine XS.iload X363.here hx rfl (hb hby at_129) rfl ?_
      show Steps p.tables e below (T363.setTop (mkF m 131 #[.val (.int p0), .val (.int p1), .val (.int p2), .val (.int p3), .val (.int (3 : Int32)), .val (.int c5), .val (.int c6), .val (.int c7), .val (.ref b326), .val (.ref b356), .unset, .unset, .unset] [(.int c6), (.int (10 : Int32)), (.ref b326)])) _
      refine st367 _ ?_
      show Steps p.tables e below (T367.setTop (mkF m 132 #[.val (.int p0), .val (.int p1), .val (.int p2), .val (.int p3), .val (.int (3 : Int32)), .val (.int c5), .val (.int c6), .val (.int c7), .val (.ref b326), .val (.ref b356), .unset, .unset, .unset] [])) _
      refine XS.aload X367.here hx rfl (hb hby at_132) rfl rfl ?_
      show Steps p.tables e below (T367.setTop (mkF m 134 #[.val (.int p0), .val (.int p1), .val (.int p2), .val (.int p3), .val (.int (3 : Int32)), .val (.int c5), .val (.int c6), .val (.int c7), .val (.ref b326), .val (.ref b356), .unset, .unset, .unset] [(.ref b356)])) _
      refine XS.iconst X367.here hx rfl (hb hby at_134) ?_
      show Steps p.tables e below (T367.setTop (mkF m 135 #[.val (.int p0), .val (.int p1), .val (.int p2), .val (.int p3), .val (.int (3 : Int32)), .val (.int c5), .val (.int c6), .val (.int c7), .val (.ref b326), .val (.ref b356), .unset, .unset, .unset] [(.int (1 : Int32)), (.ref b356)])) _
      refine XS.iload X367.here hx rfl (hb hby at_135) rfl ?_
      show Steps p.tables e below (T367.setTop (mkF m 137 #[.val (.int p0), .val (.int p1), .val (.int p2), .val (.int p3), .val (.int (3 : Int32)), .val (.int c5), .val (.int c6), .val (.int c7), .val (.ref b326), .val (.ref b356), .unset, .unset, .unset] [(.int c6), (.int (1 : Int32)), (.ref b356)])) _
      refine st371 _ ?_
      show Steps p.tables e below (T371.setTop (mkF m 138 #[.val (.int p0), .val (.int p1), .val (.int p2), .val (.int p3), .val (.int (3 : Int32)), .val (.int c5), .val (.int c6), .val (.int c7), .val (.ref b326), .val (.ref b356), .unset, .unset, .unset] [])) _
      refine XS.iload X371.here hx rfl (hb hby at_138) rfl ?_
      show Steps p.tables e below (T371.setTop (mkF m 140 #[.val (.int p0), .val (.int p1), .val (.int p2), .val (.int p3), .val (.int (3 : Int32)), .val (.int c5), .val (.int c6), .val (.int c7), .val (.ref b326), .val (.ref b356), .unset, .unset, .unset] [(.int (3 : Int32))])) _
      refine XS.iconst X371.here hx rfl (hb hby at_140) ?_
      show Steps p.tables e below (T371.setTop (mkF m 141 #[.val (.int p0), .val (.int p1), .val (.int p2), .val (.int p3), .val (.int (3 : Int32)), .val (.int c5), .val (.int c6), .val (.int c7), .val (.ref b326), .val (.ref b356), .unset, .unset, .unset] [(.int (2 : Int32)), (.int (3 : Int32))])) _
      refine XS.icmpNo X371.here hx rfl (hb hby at_141) rfl (tlt (by decide)).2.2.2 ?_
      show Steps p.tables e below (T371.setTop (mkF m 144 #[.val (.int p0), .val (.int p1), .val (.int p2), .val (.int p3), .val (.int (3 : Int32)), .val (.int c5), .val (.int c6), .val (.int c7), .val (.ref b326), .val (.ref b356), .unset, .unset, .unset] [])) _
      refine XS.aload X371.here hx rfl (hb hby at_144) rfl rfl ?_
      show Steps p.tables e below (T371.setTop (mkF m 146 #[.val (.int p0), .val (.int p1), .val (.int p2), .val (.int p3), .val (.int (3 : Int32)), .val (.int c5), .val (.int c6), .val (.int c7), .val (.ref b326), .val (.ref b356), .unset, .unset, .unset] [(.ref b326)])) _
      refine XS.bipush X371.here hx rfl (hb hby at_146) ?_
      show Steps p.tables e below (T371.setTop (mkF m 148 #[.val (.int p0), .val (.int p1), .val (.int p2), .val (.int p3), .val (.int (3 : Int32)), .val (.int c5), .val (.int c6), .val (.int c7), .val (.ref b326), .val (.ref b356), .unset, .unset, .unset] [(.int (11 : Int32)), (.ref b326)])) _
      refine XS.iload X371.here hx rfl (hb hby at_148) rfl ?_
      show Steps p.tables e below (T371.setTop (mkF m 150 #[.val (.int p0), .val (.int p1), .val (.int p2), .val (.int p3), .val (.int (3 : Int32)), .val (.int c5), .val (.int c6), .val (.int c7), .val (.ref b326), .val (.ref b356), .unset, .unset, .unset] [(.int c7), (.int (11 : Int32)), (.ref b326)])) _
      refine st375 _ ?_
      show Steps p.tables e below (T375.setTop (mkF m 151 #[.val (.int p0), .val (.int p1), .val (.int p2), .val (.int p3), .val (.int (3 : Int32)), .val (.int c5), .val (.int c6), .val (.int c7), .val (.ref b326), .val (.ref b356), .unset, .unset, .unset] [])) _
      refine XS.aload X375.here hx rfl (hb hby at_151) rfl rfl ?_
      show Steps p.tables e below (T375.setTop (mkF m 153 #[.val (.int p0), .val (.int p1), .val (.int p2), .val (.int p3), .val (.int (3 : Int32)), .val (.int c5), .val (.int c6), .val (.int c7), .val (.ref b326), .val (.ref b356), .unset, .unset, .unset] [(.ref b356)])) _
      refine XS.iconst X375.here hx rfl (hb hby at_153) ?_
      show Steps p.tables e below (T375.setTop (mkF m 154 #[.val (.int p0), .val (.int p1), .val (.int p2), .val (.int p3), .val (.int (3 : Int32)), .val (.int c5), .val (.int c6), .val (.int c7), .val (.ref b326), .val (.ref b356), .unset, .unset, .unset] [(.int (2 : Int32)), (.ref b356)])) _
      refine XS.iload X375.here hx rfl (hb hby at_154) rfl ?_
      show Steps p.tables e below (T375.setTop (mkF m 156 #[.val (.int p0), .val (.int p1), .val (.int p2), .val (.int p3), .val (.int (3 : Int32)), .val (.int c5), .val (.int c6), .val (.int c7), .val (.ref b326), .val (.ref b356), .unset, .unset, .unset] [(.int c7), (.int (2 : Int32)), (.ref b356)])) _
      refine st379 _ ?_
      show Steps p.tables e below (T379.setTop (mkF m 157 #[.val (.int p0), .val (.int p1), .val (.int p2), .val (.int p3), .val (.int (3 : Int32)), .val (.int c5), .val (.int c6), .val (.int c7), .val (.ref b326), .val (.ref b356), .unset, .unset, .unset] [])) _
      refine st386 _ ?_
      show Steps p.tables e below (T386.setTop (mkF m 160 #[.val (.int p0), .val (.int p1), .val (.int p2), .val (.int p3), .val (.int (3 : Int32)), .val (.int c5), .val (.int c6), .val (.int c7), .val (.ref b326), .val (.ref b356), .unset, .unset, .unset] [(.ref b386)])) _
      refine XS.dup X386.here hx rfl (hb hby at_160) rfl rfl ?_
      show Steps p.tables e below (T386.setTop (mkF m 161 #[.val (.int p0), .val (.int p1), .val (.int p2), .val (.int p3), .val (.int (3 : Int32)), .val (.int c5), .val (.int c6), .val (.int c7), .val (.ref b326), .val (.ref b356), .unset, .unset, .unset] [(.ref b386), (.ref b386)])) _
      refine XS.aload X386.here hx rfl (hb hby at_161) rfl rfl ?_
      show Steps p.tables e below (T386.setTop (mkF m 163 #[.val (.int p0), .val (.int p1), .val (.int p2), .val (.int p3), .val (.int (3 : Int32)), .val (.int c5), .val (.int c6), .val (.int c7), .val (.ref b326), .val (.ref b356), .unset, .unset, .unset] [(.ref b326), (.ref b386), (.ref b386)])) _
      refine st391.trans ?_
      show Steps p.tables e below (T391.setTop (mkF m 166 #[.val (.int p0), .val (.int p1), .val (.int p2), .val (.int p3), .val (.int (3 : Int32)), .val (.int c5), .val (.int c6), .val (.int c7), .val (.ref b326), .val (.ref b356), .unset, .unset, .unset] [(.ref b386)])) _
      refine XS.astore X391.here hx rfl (hb hby at_166) rfl rfl (l' := #[.val (.int p0), .val (.int p1), .val (.int p2), .val (.int p3), .val (.int (3 : Int32)), .val (.int c5), .val (.int c6), .val (.int c7), .val (.ref b326), .val (.ref b356), .val (.ref b386), .unset, .unset]) rfl ?_
      exact hk
  have Z395 : n0 ≤ h166.size := Nat.le_trans Z0 E166.1
  have K396 : Keep h0 h166 [] := (Keep.refl h0 []).ext E166
  have C397 := (C0.trans (CHr.ext E166 C0.1))
  have hdl : ds.length ≤ 3 := by rcases hds with rfl | rfl | rfl | rfl <;> simp
  obtain ⟨T398, h398, lc398, b11, u1, u2, X398, e398, E398, N398, F11, st398⟩ : ∃ (T398 : State) (h398 : Heap) (lc398 : List Loc) (b11 : Addr) (u1 : Addr) (u2 : Addr), Stand p l e room_1 (s.setVm s.vm) m args below meth c T398 lc398 9 45 ∧ T398.heap = h398 ∧ Ext h166 h398 ∧ Fr n0 lc398 ∧ (Fs Z h398 b11 .null (.ref s10) (.ref u1) (.ref u2)) ∧ ∀ target, Steps p.tables e below (T398.setTop (mkF m 190 #[.val (.int p0), .val (.int p1), .val (.int p2), .val (.int p3), .val (.int c4), .val (.int c5), .val (.int c6), .val (.int c7), .val (.ref b8), .val (.ref b9), .val (.ref s10), .val (.ref b11), .unset] [])) target → Steps p.tables e below (T166.setTop (mkF m 168 #[.val (.int p0), .val (.int p1), .val (.int p2), .val (.int p3), .val (.int c4), .val (.int c5), .val (.int c6), .val (.int c7), .val (.ref b8), .val (.ref b9), .val (.ref s10), .unset, .unset] [])) target := by
    obtain ⟨T399, h399, X399, e399, E399, A399, D399, -, st399⟩ := newO X166 hx hZ hown (hw _ (List.mem_of_getElem? (i := 30) rfl)) (hw _ (List.mem_of_getElem? (i := 31) rfl)) (hw _ (List.mem_of_getElem? (i := 32) rfl)) e166 (g := (mkF m 168 #[.val (.int p0), .val (.int p1), .val (.int p2), .val (.int p3), .val (.int c4), .val (.int c5), .val (.int c6), .val (.int c7), .val (.ref b8), .val (.ref b9), .val (.ref s10), .unset, .unset] [])) rfl (hb hby at_168) (by decide) (by decide)
    obtain ⟨b399, g399⟩ : ∃ z, z = h166.size := ⟨_, rfl⟩
    rw [← g399] at A399 D399 st399
    have ge_b399 : n0 ≤ b399 := Nat.le_trans Z395 (Nat.le_of_eq g399.symm)
    have sz_b399 : h166.size ≤ b399 := Nat.le_trans (Keep.refl h166 []).1 (Nat.le_of_eq g399.symm)
    have Z400 : n0 ≤ h399.size := Nat.le_trans Z395 E399.1
    have K401 : Keep h166 h399 [] := (Keep.refl h166 []).ext E399
    have f402 := ((X00.ext E166).ext E399)
    obtain ⟨v403, vmx403, ⟨T403, L403, k403, n403⟩, -, X403, ⟨Lc403, hQ403, l403, y403, z403⟩, st403⟩ := Jvm.LawKit.callS X399 hx (y := (⟨"java/lang/String", "valueOf", "(C)Ljava/lang/String;"⟩ : MethodName)) hown (mvT hZ (hw _ (List.mem_of_getElem? (i := 33) rfl))) (mvT hZ (hw _ (List.mem_of_getElem? (i := 34) rfl))) (mvT hZ (hw _ (List.mem_of_getElem? (i := 3) rfl))) (mvT hZ (hw _ (List.mem_of_getElem? (i := 35) rfl))) (by decide) (backOf (W := 4) (rmVal l Z a0 hw [] c6 G1 h399 n0 Z400 O2 P5 f402 hc6) hZ (hw _ (List.mem_of_getElem? (i := 35) rfl)) (hw _ (List.mem_of_getElem? (i := 3) rfl)) (by decide) (by decide)) (g := (mkF m 177 #[.val (.int p0), .val (.int p1), .val (.int p2), .val (.int p3), .val (.int c4), .val (.int c5), .val (.int c6), .val (.int c7), .val (.ref b8), .val (.ref b9), .val (.ref s10), .unset, .unset] [(.int c6), (.ref s10), .null, (.ref b399), (.ref b399)])) rfl (by rw [hml]; rfl) (argsL := [(.int c6)]) (rest := [(.ref s10), .null, (.ref b399), (.ref b399)]) (lenOf own_pd16 rfl) rfl (by show 2 * 0 + _ ≤ _; exact Nat.le_of_eq rfl) (hb hby at_177) (fun _ _ => ⟨rfl, e399, (by decide : 5 + 2 ≤ _), (by decide : 35 + 5 ≤ _)⟩)
    dsimp only [Pt.U, Pt.locs, Pt.cells, Pt.slots] at X403 l403 y403 z403 st403 hQ403
    subst l403 y403 z403
    obtain ⟨s1x, rfl, Nq403, E403, S_s1x⟩ := hQ403
    have N403 := Fr.app N166 Nq403
    have Z404 : n0 ≤ T403.heap.size := Nat.le_trans Z400 E403.1
    have K405 : Keep h166 T403.heap [] := K401.ext E403
    have f406 := (f402.ext E403)
    obtain ⟨v407, vmx407, ⟨T407, L407, k407, n407⟩, -, X407, ⟨Lc407, hQ407, l407, y407, z407⟩, st407⟩ := Jvm.LawKit.callS X403 hx (y := (⟨"java/lang/String", "valueOf", "(C)Ljava/lang/String;"⟩ : MethodName)) hown (mvT hZ (hw _ (List.mem_of_getElem? (i := 33) rfl))) (mvT hZ (hw _ (List.mem_of_getElem? (i := 34) rfl))) (mvT hZ (hw _ (List.mem_of_getElem? (i := 3) rfl))) (mvT hZ (hw _ (List.mem_of_getElem? (i := 35) rfl))) (by decide) (backOf (W := 5) (rmVal l Z a0 hw [] c7 G1 T403.heap n0 Z404 O2 P5 f406 hc7) hZ (hw _ (List.mem_of_getElem? (i := 35) rfl)) (hw _ (List.mem_of_getElem? (i := 3) rfl)) (by decide) (by decide)) (g := (mkF m 182 #[.val (.int p0), .val (.int p1), .val (.int p2), .val (.int p3), .val (.int c4), .val (.int c5), .val (.int c6), .val (.int c7), .val (.ref b8), .val (.ref b9), .val (.ref s10), .unset, .unset] [(.int c7), (.ref s1x), (.ref s10), .null, (.ref b399), (.ref b399)])) rfl (by rw [hml]; rfl) (argsL := [(.int c7)]) (rest := [(.ref s1x), (.ref s10), .null, (.ref b399), (.ref b399)]) (lenOf own_pd16 rfl) rfl (by show 2 * 0 + _ ≤ _; exact Nat.le_of_eq rfl) (hb hby at_182) (fun _ _ => ⟨rfl, rfl, (by decide : 7 + 2 ≤ _), (by decide : 40 + 5 ≤ _)⟩)
    dsimp only [Pt.U, Pt.locs, Pt.cells, Pt.slots] at X407 l407 y407 z407 st407 hQ407
    subst l407 y407 z407
    obtain ⟨s2x, rfl, Nq407, E407, S_s2x⟩ := hQ407
    have N407 := Fr.app N403 Nq407
    have Z408 : n0 ≤ T407.heap.size := Nat.le_trans Z404 E407.1
    have K409 : Keep h166 T407.heap [] := K405.ext E407
    have f410 := ((A399.ext E403).ext E407)
    have f411 := (((D399 (Or.inr (hw _ (List.mem_of_getElem? (i := 57) rfl))) (ty := (.object "java/lang/String")) (by decide)).ext E403).ext E407)
    have f412 := (((D399 (Or.inr (hw _ (List.mem_of_getElem? (i := 59) rfl))) (ty := (.object "java/lang/String")) (by decide)).ext E403).ext E407)
    have f413 := (((D399 (Or.inr (hw _ (List.mem_of_getElem? (i := 61) rfl))) (ty := (.object "java/lang/String")) (by decide)).ext E403).ext E407)
    have f414 := (((D399 (Or.inr (hw _ (List.mem_of_getElem? (i := 63) rfl))) (ty := (.object "java/lang/String")) (by decide)).ext E403).ext E407)
    obtain ⟨v415, vmx415, ⟨T415, L415, k415, n415⟩, -, X415, ⟨Lc415, hQ415, l415, y415, z415⟩, st415⟩ := X407.specialBack hx (y := (⟨"com/example/test_rollback/testrollback/Dialect$Counter", "<init>", "(Ljava/lang/String;Ljava/lang/String;Ljava/lang/String;Ljava/lang/String;)V"⟩ : MethodName)) rfl hown (mvT hZ (hw _ (List.mem_of_getElem? (i := 47) rfl))) (mvT hZ (hw _ (List.mem_of_getElem? (i := 48) rfl))) (mvT hZ (hw _ (List.mem_of_getElem? (i := 49) rfl))) (by decide) (backOf (W := 1) (rm11 l Z a0 hw [] b399 .null (.ref s10) (.ref s1x) (.ref s2x) _ _ _ _ T407.heap n0 Z408 rfl rfl rfl rfl ge_b399 ⟨f410, f411, f412, f413, f414⟩) hZ (hw _ (List.mem_of_getElem? (i := 49) rfl)) (hw _ (List.mem_of_getElem? (i := 32) rfl)) (by decide) (by decide)) (g := (mkF m 185 #[.val (.int p0), .val (.int p1), .val (.int p2), .val (.int p3), .val (.int c4), .val (.int c5), .val (.int c6), .val (.int c7), .val (.ref b8), .val (.ref b9), .val (.ref s10), .unset, .unset] [(.ref s2x), (.ref s1x), (.ref s10), .null, (.ref b399), (.ref b399)])) rfl (by rw [hml]; rfl) (Steps.refl _) (a := b399) (argsL := [.null, (.ref s10), (.ref s1x), (.ref s2x)]) (rest := [(.ref b399)]) (lenOf own_pd17 rfl) rfl (by show 2 * 0 + _ ≤ _; exact Nat.le_of_eq rfl) (hb hby at_185) (fun _ _ => ⟨rfl, rfl, (by decide : 9 + 0 ≤ _), (by decide : 45 + 0 ≤ _)⟩)
    dsimp only [Pt.U, Pt.locs, Pt.cells, Pt.slots] at X415 l415 y415 z415 st415 hQ415
    subst l415 y415 z415
    obtain ⟨rfl, Nq415, K415, F415⟩ := hQ415
    have N415 := Fr.app N407 Nq415
    have Z416 : n0 ≤ T415.heap.size := Nat.le_trans Z408 K415.1
    have K417 : Keep h166 T415.heap [] := K409.trans K415 (allS (Or.inr sz_b399) all0)
    refine ⟨T415, _, _, b399, s1x, s2x, own_up X415 (by decide) (by decide), rfl, own_ext K417, N415, F415, fun target hk => ?_⟩
    show Steps p.tables e below (T166.setTop (mkF m 168 #[.val (.int p0), .val (.int p1), .val (.int p2), .val (.int p3), .val (.int c4), .val (.int c5), .val (.int c6), .val (.int c7), .val (.ref b8), .val (.ref b9), .val (.ref s10), .unset, .unset] [])) _
    refine st399 _ ?_
    show Steps p.tables e below (T399.setTop (mkF m 171 #[.val (.int p0), .val (.int p1), .val (.int p2), .val (.int p3), .val (.int c4), .val (.int c5), .val (.int c6), .val (.int c7), .val (.ref b8), .val (.ref b9), .val (.ref s10), .unset, .unset] [(.ref b399)])) _
    refine XS.dup X399.here hx rfl (hb hby at_171) rfl rfl ?_
    show Steps p.tables e below (T399.setTop (mkF m 172 #[.val (.int p0), .val (.int p1), .val (.int p2), .val (.int p3), .val (.int c4), .val (.int c5), .val (.int c6), .val (.int c7), .val (.ref b8), .val (.ref b9), .val (.ref s10), .unset, .unset] [(.ref b399), (.ref b399)])) _
    refine XS.aconstNull X399.here hx rfl (hb hby at_172) ?_
    show Steps p.tables e below (T399.setTop (mkF m 173 #[.val (.int p0), .val (.int p1), .val (.int p2), .val (.int p3), .val (.int c4), .val (.int c5), .val (.int c6), .val (.int c7), .val (.ref b8), .val (.ref b9), .val (.ref s10), .unset, .unset] [.null, (.ref b399), (.ref b399)])) _
    refine XS.aload X399.here hx rfl (hb hby at_173) rfl rfl ?_
    show Steps p.tables e below (T399.setTop (mkF m 175 #[.val (.int p0), .val (.int p1), .val (.int p2), .val (.int p3), .val (.int c4), .val (.int c5), .val (.int c6), .val (.int c7), .val (.ref b8), .val (.ref b9), .val (.ref s10), .unset, .unset] [(.ref s10), .null, (.ref b399), (.ref b399)])) _
    refine XS.iload X399.here hx rfl (hb hby at_175) rfl ?_
    show Steps p.tables e below (T399.setTop (mkF m 177 #[.val (.int p0), .val (.int p1), .val (.int p2), .val (.int p3), .val (.int c4), .val (.int c5), .val (.int c6), .val (.int c7), .val (.ref b8), .val (.ref b9), .val (.ref s10), .unset, .unset] [(.int c6), (.ref s10), .null, (.ref b399), (.ref b399)])) _
    refine st403 _ ?_
    show Steps p.tables e below (T403.setTop (mkF m 180 #[.val (.int p0), .val (.int p1), .val (.int p2), .val (.int p3), .val (.int c4), .val (.int c5), .val (.int c6), .val (.int c7), .val (.ref b8), .val (.ref b9), .val (.ref s10), .unset, .unset] [(.ref s1x), (.ref s10), .null, (.ref b399), (.ref b399)])) _
    refine XS.iload X403.here hx rfl (hb hby at_180) rfl ?_
    show Steps p.tables e below (T403.setTop (mkF m 182 #[.val (.int p0), .val (.int p1), .val (.int p2), .val (.int p3), .val (.int c4), .val (.int c5), .val (.int c6), .val (.int c7), .val (.ref b8), .val (.ref b9), .val (.ref s10), .unset, .unset] [(.int c7), (.ref s1x), (.ref s10), .null, (.ref b399), (.ref b399)])) _
    refine st407 _ ?_
    show Steps p.tables e below (T407.setTop (mkF m 185 #[.val (.int p0), .val (.int p1), .val (.int p2), .val (.int p3), .val (.int c4), .val (.int c5), .val (.int c6), .val (.int c7), .val (.ref b8), .val (.ref b9), .val (.ref s10), .unset, .unset] [(.ref s2x), (.ref s1x), (.ref s10), .null, (.ref b399), (.ref b399)])) _
    refine st415.trans ?_
    show Steps p.tables e below (T415.setTop (mkF m 188 #[.val (.int p0), .val (.int p1), .val (.int p2), .val (.int p3), .val (.int c4), .val (.int c5), .val (.int c6), .val (.int c7), .val (.ref b8), .val (.ref b9), .val (.ref s10), .unset, .unset] [(.ref b399)])) _
    refine XS.astore X415.here hx rfl (hb hby at_188) rfl rfl (l' := #[.val (.int p0), .val (.int p1), .val (.int p2), .val (.int p3), .val (.int c4), .val (.int c5), .val (.int c6), .val (.int c7), .val (.ref b8), .val (.ref b9), .val (.ref s10), .val (.ref b399), .unset]) rfl ?_
    exact hk
  have Z418 : n0 ≤ h398.size := Nat.le_trans Z395 E398.1
  have K419 : Keep h0 h398 [] := K396.ext E398
  have C420 := (C397.trans (CHr.ext E398 C397.1))
  have f421 := (own_Str.ext E398 S10)
  have f422 := ((X00.ext E166).ext E398)
  obtain ⟨cq423, kq423, q423a, q423b, q423c⟩ := isOf hZ e398 F11.1
  obtain ⟨v423, vmx423, ⟨T423, L423, k423, n423⟩, -, Xq423, hSq423, hgr423, ⟨Lc423, hQ423, l423, y423, z423, CR423⟩, st423⟩ := X398.virtualBackS hx (y := (⟨"com/example/test_rollback/testrollback/Dialect$Counter", "sequence", "()Ljava/lang/String;"⟩ : MethodName)) (z := (⟨"com/example/test_rollback/testrollback/Dialect$Counter", "sequence", "()Ljava/lang/String;"⟩ : MethodName)) hown (mvT hZ (hw _ (List.mem_of_getElem? (i := 64) rfl))) (mvT hZ (hw _ (List.mem_of_getElem? (i := 65) rfl))) (notFace_of_selects (args := #[]) (mvT hZ (hw _ (List.mem_of_getElem? (i := 67) rfl)))) (mvT hZ (hw _ (List.mem_of_getElem? (i := 67) rfl))) (mvT hZ (hw _ (List.mem_of_getElem? (i := 66) rfl))) (by decide) (backOfSH (s := s) (vm0 := s.vm) (W := 0) (rmSeq l Z a0 hw [] b11 s10 _ _ _ ds G1 G3 h398 n0 Z418 O2 P5 f422 O4 rG3 F11 f421 hdl) hZ (hw _ (List.mem_of_getElem? (i := 68) rfl)) (hw _ (List.mem_of_getElem? (i := 32) rfl)) (by decide) (by decide) hEL C420.1) q423a q423c (g := (mkF m 192 #[.val (.int p0), .val (.int p1), .val (.int p2), .val (.int p3), .val (.int c4), .val (.int c5), .val (.int c6), .val (.int c7), .val (.ref b8), .val (.ref b9), .val (.ref s10), .val (.ref b11), .unset] [(.ref b11)])) rfl (by rw [hml]; rfl) (Steps.refl _) (argsL := []) (rest := []) (lenOf own_pd18 rfl) rfl (by show 2 * 0 + _ ≤ _; exact Nat.le_of_eq rfl) (hb hby at_192) (fun _ _ => ⟨rfl, e398, (by decide : 9 + 4 ≤ _), (by decide : 45 + 60 ≤ _)⟩)
  dsimp only [Pt.U, Pt.locs, Pt.cells, Pt.slots] at Xq423 hSq423 hgr423 l423 y423 z423 st423 hQ423 CR423
  subst l423 y423 z423
  obtain ⟨X423, hS423, hZ423, hown423⟩ := rebS (s := s) (vm0 := s.vm) hS0 (by rw [e398]; exact (Nat.zero_le _)) Xq423 hSq423 hgr423 hZ hown
  obtain ⟨s12, rfl, Nq423, E423, S12⟩ := hQ423
  have N423 := Fr.app N398 Nq423
  have Z424 : n0 ≤ T423.heap.size := Nat.le_trans Z418 E423.1
  have K425 : Keep h0 T423.heap [] := K419.ext E423
  have C426 := (C420.trans CR423)
  have S12' : own_Str Z T423.heap s12 ds := S12
  obtain ⟨T427, h427, lc427, vm427, k1427, s13, X427, e427, E427, N427, hS427, hkk427, hZ427, hown427, CR427, S13, st427⟩ : ∃ (T427 : State) (h427 : Heap) (lc427 : List Loc) (vm427 : Vm) (k1427 : Nat) (s13 : Addr), Stand p l e room_1 (s.setVm vm427) m args below meth c T427 lc427 18 117 ∧ T427.heap = h427 ∧ Ext T423.heap h427 ∧ Fr n0 lc427 ∧ s.Since vm427 k1427 ∧ k1427 ≤ h427.size ∧ Z.Warmed39 (s.setVm vm427).vm ∧ (s.setVm vm427).vm.findClass "com/example/test_rollback/testrollback/CounterSequencePinLaw" = some m.cls ∧ CHr Z EL T423.vm T423.heap vm427 h427 ∧ (own_Str Z h427 s13 ds) ∧ ∀ target, Steps p.tables e below (T427.setTop (mkF m 208 #[.val (.int p0), .val (.int p1), .val (.int p2), .val (.int p3), .val (.int c4), .val (.int c5), .val (.int c6), .val (.int c7), .val (.ref b8), .val (.ref b9), .val (.ref s10), .val (.ref b11), .val (.ref s12)] [(.ref s13), (.ref s12)])) target → Steps p.tables e below (T423.setTop (mkF m 199 #[.val (.int p0), .val (.int p1), .val (.int p2), .val (.int p3), .val (.int c4), .val (.int c5), .val (.int c6), .val (.int c7), .val (.ref b8), .val (.ref b9), .val (.ref s10), .val (.ref b11), .val (.ref s12)] [(.ref s12)])) target := by
    have C428 := CHr.refl C426.1
    rcases hds with rfl | rfl | rfl | rfl
    · skip
      obtain ⟨T429, h429, X429, e429, E429, A429, D429, -, st429⟩ := newO X423 hx hZ423 hown423 (hw _ (List.mem_of_getElem? (i := 1) rfl)) (hw _ (List.mem_of_getElem? (i := 2) rfl)) (hw _ (List.mem_of_getElem? (i := 3) rfl)) rfl (g := (mkF m 199 #[.val (.int p0), .val (.int p1), .val (.int p2), .val (.int p3), .val (.int c4), .val (.int c5), .val (.int c6), .val (.int c7), .val (.ref b8), .val (.ref b9), .val (.ref s10), .val (.ref b11), .val (.ref s12)] [(.ref s12)])) rfl (hb hby at_199) (by decide) (by decide)
      obtain ⟨b429, g429⟩ : ∃ z, z = T423.heap.size := ⟨_, rfl⟩
      rw [← g429] at A429 D429 st429
      have ge_b429 : n0 ≤ b429 := Nat.le_trans Z424 (Nat.le_of_eq g429.symm)
      have sz_b429 : T423.heap.size ≤ b429 := Nat.le_trans (Keep.refl T423.heap []).1 (Nat.le_of_eq g429.symm)
      have Z430 : n0 ≤ h429.size := Nat.le_trans Z424 E429.1
      have hk431 := Nat.le_trans (Nat.le_refl _) (E429.1 : _ ≤ h429.size)
      have K432 : Keep T423.heap h429 [] := (Keep.refl T423.heap []).ext E429
      have C433 := (C428.trans (CHr.ext E429 C428.1))
      have f434 := (((V9.ext E398).ext E423).ext E429)
      obtain ⟨v435, vmx435, ⟨T435, L435, k435, n435⟩, -, Xq435, hSq435, hgr435, ⟨Lc435, hQ435, l435, y435, z435, CR435⟩, st435⟩ := X429.specialBackS hx (y := (⟨"java/lang/String", "<init>", "([C)V"⟩ : MethodName)) rfl hown423 (mvT hZ423 (hw _ (List.mem_of_getElem? (i := 4) rfl))) (mvT hZ423 (hw _ (List.mem_of_getElem? (i := 5) rfl))) (mvT hZ423 (hw _ (List.mem_of_getElem? (i := 6) rfl))) (by decide) (backOfSH (s := s) (vm0 := T423.vm) (W := 2) (rmE1 l Z a0 hw [] b429 b9 k9 h429 n0 Z430 A429 (D429 (Or.inr (hw _ (List.mem_of_getElem? (i := 29) rfl))) (ty := (.array .byte)) (by decide)) (D429 (Or.inr (hw _ (List.mem_of_getElem? (i := 27) rfl))) (ty := .byte) (by decide)) ge_b429 f434) hZ423 (hw _ (List.mem_of_getElem? (i := 6) rfl)) (hw _ (List.mem_of_getElem? (i := 3) rfl)) (by decide) (by decide) hEL C433.1) (g := (mkF m 205 #[.val (.int p0), .val (.int p1), .val (.int p2), .val (.int p3), .val (.int c4), .val (.int c5), .val (.int c6), .val (.int c7), .val (.ref b8), .val (.ref b9), .val (.ref s10), .val (.ref b11), .val (.ref s12)] [(.ref b9), (.ref b429), (.ref b429), (.ref s12)])) rfl (by rw [hml]; rfl) (Steps.refl _) (a := b429) (argsL := [(.ref b9)]) (rest := [(.ref b429), (.ref s12)]) (lenOf own_pd15 rfl) rfl (by show 2 * 0 + _ ≤ _; exact Nat.le_of_eq rfl) (hb hby at_205) (fun _ _ => ⟨rfl, e429, (by decide : 14 + 4 ≤ _), (by decide : 109 + 8 ≤ _)⟩)
      dsimp only [Pt.U, Pt.locs, Pt.cells, Pt.slots] at Xq435 hSq435 hgr435 l435 y435 z435 st435 hQ435 CR435
      subst l435 y435 z435
      obtain ⟨X435, hS435, hZ435, hown435⟩ := rebS (s := s) (vm0 := T423.vm) hS423 (by rw [e429]; exact hk431) Xq435 hSq435 hgr435 hZ423 hown423
      obtain ⟨rfl, Nq435, K435, S435⟩ := hQ435
      have N435 := Fr.app N423 Nq435
      have Z436 : n0 ≤ T435.heap.size := Nat.le_trans Z430 K435.1
      have K437 : Keep T423.heap T435.heap [] := K432.trans K435 (allS (Or.inr sz_b429) all0)
      have C438 := (C433.trans CR435)
      refine ⟨T435, _, _, T435.vm, _, b429, own_up X435 (by decide) (by decide), rfl, own_ext K437, N435, hS435, (Nat.le_refl _), hZ435, hown435, C438, S435, fun target hk => ?_⟩
      show Steps p.tables e below (T423.setTop (mkF m 199 #[.val (.int p0), .val (.int p1), .val (.int p2), .val (.int p3), .val (.int c4), .val (.int c5), .val (.int c6), .val (.int c7), .val (.ref b8), .val (.ref b9), .val (.ref s10), .val (.ref b11), .val (.ref s12)] [(.ref s12)])) _
      refine st429 _ ?_
      show Steps p.tables e below (T429.setTop (mkF m 202 #[.val (.int p0), .val (.int p1), .val (.int p2), .val (.int p3), .val (.int c4), .val (.int c5), .val (.int c6), .val (.int c7), .val (.ref b8), .val (.ref b9), .val (.ref s10), .val (.ref b11), .val (.ref s12)] [(.ref b429), (.ref s12)])) _
      refine XS.dup X429.here hx rfl (hb hby at_202) rfl rfl ?_
      show Steps p.tables e below (T429.setTop (mkF m 203 #[.val (.int p0), .val (.int p1), .val (.int p2), .val (.int p3), .val (.int c4), .val (.int c5), .val (.int c6), .val (.int c7), .val (.ref b8), .val (.ref b9), .val (.ref s10), .val (.ref b11), .val (.ref s12)] [(.ref b429), (.ref b429), (.ref s12)])) _
      refine XS.aload X429.here hx rfl (hb hby at_203) rfl rfl ?_
      show Steps p.tables e below (T429.setTop (mkF m 205 #[.val (.int p0), .val (.int p1), .val (.int p2), .val (.int p3), .val (.int c4), .val (.int c5), .val (.int c6), .val (.int c7), .val (.ref b8), .val (.ref b9), .val (.ref s10), .val (.ref b11), .val (.ref s12)] [(.ref b9), (.ref b429), (.ref b429), (.ref s12)])) _
      refine st435.trans ?_
      exact hk
    · skip
      obtain ⟨T439, h439, X439, e439, E439, A439, D439, -, st439⟩ := newO X423 hx hZ423 hown423 (hw _ (List.mem_of_getElem? (i := 1) rfl)) (hw _ (List.mem_of_getElem? (i := 2) rfl)) (hw _ (List.mem_of_getElem? (i := 3) rfl)) rfl (g := (mkF m 199 #[.val (.int p0), .val (.int p1), .val (.int p2), .val (.int p3), .val (.int c4), .val (.int c5), .val (.int c6), .val (.int c7), .val (.ref b8), .val (.ref b9), .val (.ref s10), .val (.ref b11), .val (.ref s12)] [(.ref s12)])) rfl (hb hby at_199) (by decide) (by decide)
      obtain ⟨b439, g439⟩ : ∃ z, z = T423.heap.size := ⟨_, rfl⟩
      rw [← g439] at A439 D439 st439
      have ge_b439 : n0 ≤ b439 := Nat.le_trans Z424 (Nat.le_of_eq g439.symm)
      have sz_b439 : T423.heap.size ≤ b439 := Nat.le_trans (Keep.refl T423.heap []).1 (Nat.le_of_eq g439.symm)
      have Z440 : n0 ≤ h439.size := Nat.le_trans Z424 E439.1
      have hk441 := Nat.le_trans (Nat.le_refl _) (E439.1 : _ ≤ h439.size)
      have K442 : Keep T423.heap h439 [] := (Keep.refl T423.heap []).ext E439
      have C443 := (C428.trans (CHr.ext E439 C428.1))
      have hp : ∀ c ∈ ([c5] : List Int32), ¬ c < 0 ∧ ¬ (255 : Int32) < c := by
        intro c hc
        simp only [List.mem_cons, List.not_mem_nil, or_false] at hc
        rcases hc with rfl <;> assumption
      have f444 := (((V9.ext E398).ext E423).ext E439)
      have f445 := ((f422.ext E423).ext E439)
      obtain ⟨v446, vmx446, ⟨T446, L446, k446, n446⟩, -, X446, ⟨Lc446, hQ446, l446, y446, z446⟩, st446⟩ := X439.specialBack hx (y := (⟨"java/lang/String", "<init>", "([C)V"⟩ : MethodName)) rfl hown423 (mvT hZ423 (hw _ (List.mem_of_getElem? (i := 4) rfl))) (mvT hZ423 (hw _ (List.mem_of_getElem? (i := 5) rfl))) (mvT hZ423 (hw _ (List.mem_of_getElem? (i := 6) rfl))) (by decide) (StrChars.Road.backV (W := 2) hZ423 hws (kI := 4) (hw _ (List.mem_of_getElem? (i := 2) rfl)) (cs := ([c5] : List Int32)) (bs := (([c5] : List Int32)).map (fun c => c.toInt8.toInt32)) (n := 1) ge_b439 Z440 A439 (D439 (Or.inr (hw _ (List.mem_of_getElem? (i := 29) rfl))) (ty := (.array .byte)) (by decide)) (D439 (Or.inr (hw _ (List.mem_of_getElem? (i := 27) rfl))) (ty := .byte) (by decide)) f444 (O2.ext f445.2) P5 rfl rfl (by decide) (by decide) hp rfl (by decide) (by decide)) (g := (mkF m 205 #[.val (.int p0), .val (.int p1), .val (.int p2), .val (.int p3), .val (.int c4), .val (.int c5), .val (.int c6), .val (.int c7), .val (.ref b8), .val (.ref b9), .val (.ref s10), .val (.ref b11), .val (.ref s12)] [(.ref b9), (.ref b439), (.ref b439), (.ref s12)])) rfl (by rw [hml]; rfl) (Steps.refl _) (a := b439) (argsL := [(.ref b9)]) (rest := [(.ref b439), (.ref s12)]) (lenOf own_pd15 rfl) rfl (by show 2 * 0 + _ ≤ _; exact Nat.le_of_eq rfl) (hb hby at_205) (fun _ _ => ⟨rfl, e439, (by decide : 14 + 1 ≤ _), (by decide : 109 + 1 ≤ _)⟩)
      dsimp only [Pt.U, Pt.locs, Pt.cells, Pt.slots] at X446 l446 y446 z446 st446 hQ446
      subst l446 y446 z446
      obtain ⟨rfl, Nq446, K446, fe446, fc446, t446, kb446, u1446, u2446, u3446, fv446, fa446⟩ := hQ446
      have N446 := Fr.app N423 Nq446
      have Z447 : n0 ≤ T446.heap.size := Nat.le_trans Z440 K446.1
      have hk448 := Nat.le_trans hk441 (K446.1 : _ ≤ T446.heap.size)
      have K449 : Keep T423.heap T446.heap [] := K442.trans K446 (allS (Or.inr sz_b439) all0)
      have C450 := (C443.trans (CHr.keep K446 (allS (Safe.ext E439 C428.1 (Safe.new (Nat.le_of_eq g439.symm))) all0) C443.1))
      refine ⟨T446, _, _, T423.vm, _, b439, own_up X446 (by decide) (by decide), rfl, own_ext K449, N446, hS423, hk448, hZ423, hown423, C450, ⟨hp, Nat.le_of_ble_eq_true rfl, fe446, fc446, t446, kb446, fv446, fa446⟩, fun target hk => ?_⟩
      show Steps p.tables e below (T423.setTop (mkF m 199 #[.val (.int p0), .val (.int p1), .val (.int p2), .val (.int p3), .val (.int c4), .val (.int c5), .val (.int c6), .val (.int c7), .val (.ref b8), .val (.ref b9), .val (.ref s10), .val (.ref b11), .val (.ref s12)] [(.ref s12)])) _
      refine st439 _ ?_
      show Steps p.tables e below (T439.setTop (mkF m 202 #[.val (.int p0), .val (.int p1), .val (.int p2), .val (.int p3), .val (.int c4), .val (.int c5), .val (.int c6), .val (.int c7), .val (.ref b8), .val (.ref b9), .val (.ref s10), .val (.ref b11), .val (.ref s12)] [(.ref b439), (.ref s12)])) _
      refine XS.dup X439.here hx rfl (hb hby at_202) rfl rfl ?_
      show Steps p.tables e below (T439.setTop (mkF m 203 #[.val (.int p0), .val (.int p1), .val (.int p2), .val (.int p3), .val (.int c4), .val (.int c5), .val (.int c6), .val (.int c7), .val (.ref b8), .val (.ref b9), .val (.ref s10), .val (.ref b11), .val (.ref s12)] [(.ref b439), (.ref b439), (.ref s12)])) _
      refine XS.aload X439.here hx rfl (hb hby at_203) rfl rfl ?_
      show Steps p.tables e below (T439.setTop (mkF m 205 #[.val (.int p0), .val (.int p1), .val (.int p2), .val (.int p3), .val (.int c4), .val (.int c5), .val (.int c6), .val (.int c7), .val (.ref b8), .val (.ref b9), .val (.ref s10), .val (.ref b11), .val (.ref s12)] [(.ref b9), (.ref b439), (.ref b439), (.ref s12)])) _
      refine st446.trans ?_
      exact hk
    · skip
      obtain ⟨T451, h451, X451, e451, E451, A451, D451, -, st451⟩ := newO X423 hx hZ423 hown423 (hw _ (List.mem_of_getElem? (i := 1) rfl)) (hw _ (List.mem_of_getElem? (i := 2) rfl)) (hw _ (List.mem_of_getElem? (i := 3) rfl)) rfl (g := (mkF m 199 #[.val (.int p0), .val (.int p1), .val (.int p2), .val (.int p3), .val (.int c4), .val (.int c5), .val (.int c6), .val (.int c7), .val (.ref b8), .val (.ref b9), .val (.ref s10), .val (.ref b11), .val (.ref s12)] [(.ref s12)])) rfl (hb hby at_199) (by decide) (by decide)
      obtain ⟨b451, g451⟩ : ∃ z, z = T423.heap.size := ⟨_, rfl⟩
      rw [← g451] at A451 D451 st451
      have ge_b451 : n0 ≤ b451 := Nat.le_trans Z424 (Nat.le_of_eq g451.symm)
      have sz_b451 : T423.heap.size ≤ b451 := Nat.le_trans (Keep.refl T423.heap []).1 (Nat.le_of_eq g451.symm)
      have Z452 : n0 ≤ h451.size := Nat.le_trans Z424 E451.1
      have hk453 := Nat.le_trans (Nat.le_refl _) (E451.1 : _ ≤ h451.size)
      have K454 : Keep T423.heap h451 [] := (Keep.refl T423.heap []).ext E451
      have C455 := (C428.trans (CHr.ext E451 C428.1))
      have hp : ∀ c ∈ ([c5, c6] : List Int32), ¬ c < 0 ∧ ¬ (255 : Int32) < c := by
        intro c hc
        simp only [List.mem_cons, List.not_mem_nil, or_false] at hc
        rcases hc with rfl | rfl <;> assumption
      have f456 := (((V9.ext E398).ext E423).ext E451)
      have f457 := ((f422.ext E423).ext E451)
      obtain ⟨v458, vmx458, ⟨T458, L458, k458, n458⟩, -, X458, ⟨Lc458, hQ458, l458, y458, z458⟩, st458⟩ := X451.specialBack hx (y := (⟨"java/lang/String", "<init>", "([C)V"⟩ : MethodName)) rfl hown423 (mvT hZ423 (hw _ (List.mem_of_getElem? (i := 4) rfl))) (mvT hZ423 (hw _ (List.mem_of_getElem? (i := 5) rfl))) (mvT hZ423 (hw _ (List.mem_of_getElem? (i := 6) rfl))) (by decide) (StrChars.Road.backV (W := 2) hZ423 hws (kI := 4) (hw _ (List.mem_of_getElem? (i := 2) rfl)) (cs := ([c5, c6] : List Int32)) (bs := (([c5, c6] : List Int32)).map (fun c => c.toInt8.toInt32)) (n := 2) ge_b451 Z452 A451 (D451 (Or.inr (hw _ (List.mem_of_getElem? (i := 29) rfl))) (ty := (.array .byte)) (by decide)) (D451 (Or.inr (hw _ (List.mem_of_getElem? (i := 27) rfl))) (ty := .byte) (by decide)) f456 (O2.ext f457.2) P5 rfl rfl (by decide) (by decide) hp rfl (by decide) (by decide)) (g := (mkF m 205 #[.val (.int p0), .val (.int p1), .val (.int p2), .val (.int p3), .val (.int c4), .val (.int c5), .val (.int c6), .val (.int c7), .val (.ref b8), .val (.ref b9), .val (.ref s10), .val (.ref b11), .val (.ref s12)] [(.ref b9), (.ref b451), (.ref b451), (.ref s12)])) rfl (by rw [hml]; rfl) (Steps.refl _) (a := b451) (argsL := [(.ref b9)]) (rest := [(.ref b451), (.ref s12)]) (lenOf own_pd15 rfl) rfl (by show 2 * 0 + _ ≤ _; exact Nat.le_of_eq rfl) (hb hby at_205) (fun _ _ => ⟨rfl, e451, (by decide : 14 + 1 ≤ _), (by decide : 109 + 2 ≤ _)⟩)
      dsimp only [Pt.U, Pt.locs, Pt.cells, Pt.slots] at X458 l458 y458 z458 st458 hQ458
      subst l458 y458 z458
      obtain ⟨rfl, Nq458, K458, fe458, fc458, t458, kb458, u1458, u2458, u3458, fv458, fa458⟩ := hQ458
      have N458 := Fr.app N423 Nq458
      have Z459 : n0 ≤ T458.heap.size := Nat.le_trans Z452 K458.1
      have hk460 := Nat.le_trans hk453 (K458.1 : _ ≤ T458.heap.size)
      have K461 : Keep T423.heap T458.heap [] := K454.trans K458 (allS (Or.inr sz_b451) all0)
      have C462 := (C455.trans (CHr.keep K458 (allS (Safe.ext E451 C428.1 (Safe.new (Nat.le_of_eq g451.symm))) all0) C455.1))
      refine ⟨T458, _, _, T423.vm, _, b451, own_up X458 (by decide) (by decide), rfl, own_ext K461, N458, hS423, hk460, hZ423, hown423, C462, ⟨hp, Nat.le_of_ble_eq_true rfl, fe458, fc458, t458, kb458, fv458, fa458⟩, fun target hk => ?_⟩
      show Steps p.tables e below (T423.setTop (mkF m 199 #[.val (.int p0), .val (.int p1), .val (.int p2), .val (.int p3), .val (.int c4), .val (.int c5), .val (.int c6), .val (.int c7), .val (.ref b8), .val (.ref b9), .val (.ref s10), .val (.ref b11), .val (.ref s12)] [(.ref s12)])) _
      refine st451 _ ?_
      show Steps p.tables e below (T451.setTop (mkF m 202 #[.val (.int p0), .val (.int p1), .val (.int p2), .val (.int p3), .val (.int c4), .val (.int c5), .val (.int c6), .val (.int c7), .val (.ref b8), .val (.ref b9), .val (.ref s10), .val (.ref b11), .val (.ref s12)] [(.ref b451), (.ref s12)])) _
      refine XS.dup X451.here hx rfl (hb hby at_202) rfl rfl ?_
      show Steps p.tables e below (T451.setTop (mkF m 203 #[.val (.int p0), .val (.int p1), .val (.int p2), .val (.int p3), .val (.int c4), .val (.int c5), .val (.int c6), .val (.int c7), .val (.ref b8), .val (.ref b9), .val (.ref s10), .val (.ref b11), .val (.ref s12)] [(.ref b451), (.ref b451), (.ref s12)])) _
      refine XS.aload X451.here hx rfl (hb hby at_203) rfl rfl ?_
      show Steps p.tables e below (T451.setTop (mkF m 205 #[.val (.int p0), .val (.int p1), .val (.int p2), .val (.int p3), .val (.int c4), .val (.int c5), .val (.int c6), .val (.int c7), .val (.ref b8), .val (.ref b9), .val (.ref s10), .val (.ref b11), .val (.ref s12)] [(.ref b9), (.ref b451), (.ref b451), (.ref s12)])) _
      refine st458.trans ?_
      exact hk
    · skip
      obtain ⟨T463, h463, X463, e463, E463, A463, D463, -, st463⟩ := newO X423 hx hZ423 hown423 (hw _ (List.mem_of_getElem? (i := 1) rfl)) (hw _ (List.mem_of_getElem? (i := 2) rfl)) (hw _ (List.mem_of_getElem? (i := 3) rfl)) rfl (g := (mkF m 199 #[.val (.int p0), .val (.int p1), .val (.int p2), .val (.int p3), .val (.int c4), .val (.int c5), .val (.int c6), .val (.int c7), .val (.ref b8), .val (.ref b9), .val (.ref s10), .val (.ref b11), .val (.ref s12)] [(.ref s12)])) rfl (hb hby at_199) (by decide) (by decide)
      obtain ⟨b463, g463⟩ : ∃ z, z = T423.heap.size := ⟨_, rfl⟩
      rw [← g463] at A463 D463 st463
      have ge_b463 : n0 ≤ b463 := Nat.le_trans Z424 (Nat.le_of_eq g463.symm)
      have sz_b463 : T423.heap.size ≤ b463 := Nat.le_trans (Keep.refl T423.heap []).1 (Nat.le_of_eq g463.symm)
      have Z464 : n0 ≤ h463.size := Nat.le_trans Z424 E463.1
      have hk465 := Nat.le_trans (Nat.le_refl _) (E463.1 : _ ≤ h463.size)
      have K466 : Keep T423.heap h463 [] := (Keep.refl T423.heap []).ext E463
      have C467 := (C428.trans (CHr.ext E463 C428.1))
      have hp : ∀ c ∈ ([c5, c6, c7] : List Int32), ¬ c < 0 ∧ ¬ (255 : Int32) < c := by
        intro c hc
        simp only [List.mem_cons, List.not_mem_nil, or_false] at hc
        rcases hc with rfl | rfl | rfl <;> assumption
      have f468 := (((V9.ext E398).ext E423).ext E463)
      have f469 := ((f422.ext E423).ext E463)
      obtain ⟨v470, vmx470, ⟨T470, L470, k470, n470⟩, -, X470, ⟨Lc470, hQ470, l470, y470, z470⟩, st470⟩ := X463.specialBack hx (y := (⟨"java/lang/String", "<init>", "([C)V"⟩ : MethodName)) rfl hown423 (mvT hZ423 (hw _ (List.mem_of_getElem? (i := 4) rfl))) (mvT hZ423 (hw _ (List.mem_of_getElem? (i := 5) rfl))) (mvT hZ423 (hw _ (List.mem_of_getElem? (i := 6) rfl))) (by decide) (StrChars.Road.backV (W := 2) hZ423 hws (kI := 4) (hw _ (List.mem_of_getElem? (i := 2) rfl)) (cs := ([c5, c6, c7] : List Int32)) (bs := (([c5, c6, c7] : List Int32)).map (fun c => c.toInt8.toInt32)) (n := 3) ge_b463 Z464 A463 (D463 (Or.inr (hw _ (List.mem_of_getElem? (i := 29) rfl))) (ty := (.array .byte)) (by decide)) (D463 (Or.inr (hw _ (List.mem_of_getElem? (i := 27) rfl))) (ty := .byte) (by decide)) f468 (O2.ext f469.2) P5 rfl rfl (by decide) (by decide) hp rfl (by decide) (by decide)) (g := (mkF m 205 #[.val (.int p0), .val (.int p1), .val (.int p2), .val (.int p3), .val (.int c4), .val (.int c5), .val (.int c6), .val (.int c7), .val (.ref b8), .val (.ref b9), .val (.ref s10), .val (.ref b11), .val (.ref s12)] [(.ref b9), (.ref b463), (.ref b463), (.ref s12)])) rfl (by rw [hml]; rfl) (Steps.refl _) (a := b463) (argsL := [(.ref b9)]) (rest := [(.ref b463), (.ref s12)]) (lenOf own_pd15 rfl) rfl (by show 2 * 0 + _ ≤ _; exact Nat.le_of_eq rfl) (hb hby at_205) (fun _ _ => ⟨rfl, e463, (by decide : 14 + 1 ≤ _), (by decide : 109 + 3 ≤ _)⟩)
      dsimp only [Pt.U, Pt.locs, Pt.cells, Pt.slots] at X470 l470 y470 z470 st470 hQ470
      subst l470 y470 z470
      obtain ⟨rfl, Nq470, K470, fe470, fc470, t470, kb470, u1470, u2470, u3470, fv470, fa470⟩ := hQ470
      have N470 := Fr.app N423 Nq470
      have Z471 : n0 ≤ T470.heap.size := Nat.le_trans Z464 K470.1
      have hk472 := Nat.le_trans hk465 (K470.1 : _ ≤ T470.heap.size)
      have K473 : Keep T423.heap T470.heap [] := K466.trans K470 (allS (Or.inr sz_b463) all0)
      have C474 := (C467.trans (CHr.keep K470 (allS (Safe.ext E463 C428.1 (Safe.new (Nat.le_of_eq g463.symm))) all0) C467.1))
      refine ⟨T470, _, _, T423.vm, _, b463, own_up X470 (by decide) (by decide), rfl, own_ext K473, N470, hS423, hk472, hZ423, hown423, C474, ⟨hp, Nat.le_of_ble_eq_true rfl, fe470, fc470, t470, kb470, fv470, fa470⟩, fun target hk => ?_⟩
      show Steps p.tables e below (T423.setTop (mkF m 199 #[.val (.int p0), .val (.int p1), .val (.int p2), .val (.int p3), .val (.int c4), .val (.int c5), .val (.int c6), .val (.int c7), .val (.ref b8), .val (.ref b9), .val (.ref s10), .val (.ref b11), .val (.ref s12)] [(.ref s12)])) _
      refine st463 _ ?_
      show Steps p.tables e below (T463.setTop (mkF m 202 #[.val (.int p0), .val (.int p1), .val (.int p2), .val (.int p3), .val (.int c4), .val (.int c5), .val (.int c6), .val (.int c7), .val (.ref b8), .val (.ref b9), .val (.ref s10), .val (.ref b11), .val (.ref s12)] [(.ref b463), (.ref s12)])) _
      refine XS.dup X463.here hx rfl (hb hby at_202) rfl rfl ?_
      show Steps p.tables e below (T463.setTop (mkF m 203 #[.val (.int p0), .val (.int p1), .val (.int p2), .val (.int p3), .val (.int c4), .val (.int c5), .val (.int c6), .val (.int c7), .val (.ref b8), .val (.ref b9), .val (.ref s10), .val (.ref b11), .val (.ref s12)] [(.ref b463), (.ref b463), (.ref s12)])) _
      refine XS.aload X463.here hx rfl (hb hby at_203) rfl rfl ?_
      show Steps p.tables e below (T463.setTop (mkF m 205 #[.val (.int p0), .val (.int p1), .val (.int p2), .val (.int p3), .val (.int c4), .val (.int c5), .val (.int c6), .val (.int c7), .val (.ref b8), .val (.ref b9), .val (.ref s10), .val (.ref b11), .val (.ref s12)] [(.ref b9), (.ref b463), (.ref b463), (.ref s12)])) _
      refine st470.trans ?_
      exact hk
  have Z475 : n0 ≤ h427.size := Nat.le_trans Z424 E427.1
  have K476 : Keep h0 h427 [] := K425.ext E427
  have C477 := (C426.trans CR427)
  have f479 := (own_Str.ext E427 S12')
  have f480 := ((f422.ext E423).ext E427)
  obtain ⟨q478a1, q478a2, q478a3, q478a4, q478a5, q478a6, q478a7, q478a8⟩ := id f479
  obtain ⟨q478b1, q478b2, q478b3, q478b4, q478b5, q478b6, q478b7, q478b8⟩ := id S13
  obtain ⟨cq481, kq481, q481a, q481b, q481c⟩ := isOf hZ427 e427 q478a3
  obtain ⟨v481, vmx481, ⟨T481, L481, k481, n481⟩, -, X481, ⟨Lc481, hQ481, l481, y481, z481⟩, st481⟩ := X427.virtualBack hx (y := (⟨"java/lang/String", "equals", "(Ljava/lang/Object;)Z"⟩ : MethodName)) (z := (⟨"java/lang/String", "equals", "(Ljava/lang/Object;)Z"⟩ : MethodName)) hown427 (mvT hZ427 (hw _ (List.mem_of_getElem? (i := 111) rfl))) (mvT hZ427 (hw _ (List.mem_of_getElem? (i := 112) rfl))) (notFace_of_selects (args := #[]) (mvT hZ427 (hw _ (List.mem_of_getElem? (i := 114) rfl)))) (mvT hZ427 (hw _ (List.mem_of_getElem? (i := 114) rfl))) (mvT hZ427 (hw _ (List.mem_of_getElem? (i := 113) rfl))) (by decide) (StrChars.Road.eqW (W := 0) hZ427 heq (kI := 4) (hw _ (List.mem_of_getElem? (i := 2) rfl)) q478a3 q478a7 q478a4 q478a8 (StrChars.Road.codOf rfl (fun c hc => (q478a1 c hc).2)) (up _ q478a1) q478a2 q478b3 q478b7 q478b4 q478b8 (StrChars.Road.codOf rfl (fun c hc => (q478b1 c hc).2)) (up _ q478b1) q478b2 (O2.ext f480.2) P5 (by decide) (by decide)) q481a q481c (g := (mkF m 208 #[.val (.int p0), .val (.int p1), .val (.int p2), .val (.int p3), .val (.int c4), .val (.int c5), .val (.int c6), .val (.int c7), .val (.ref b8), .val (.ref b9), .val (.ref s10), .val (.ref b11), .val (.ref s12)] [(.ref s13), (.ref s12)])) rfl (by rw [hml]; rfl) (Steps.refl _) (argsL := [(.ref s13)]) (rest := []) (lenOf own_pd19 rfl) rfl (by show 2 * 0 + _ ≤ _; exact Nat.le_of_eq rfl) (hb hby at_208) (fun _ _ => ⟨rfl, e427, (by decide : 18 + 0 ≤ _), (by decide : 117 + 0 ≤ _)⟩)
  dsimp only [Pt.U, Pt.locs, Pt.cells, Pt.slots] at X481 l481 y481 z481 st481 hQ481
  subst l481 y481 z481
  obtain ⟨hcase481, rfl, eh481⟩ := hQ481
  obtain ⟨z481, rfl, hz481⟩ : ∃ z : Int32, v481 = some (.int z) ∧ ((z = 1 ∧ ds = ds) ∨ (z = 0 ∧ ¬ (ds = ds))) := by
    rcases hcase481 with ⟨q1, q2⟩ | ⟨q1, q2⟩
    · exact ⟨1, q1, Or.inl ⟨rfl, q2⟩⟩
    · exact ⟨0, q1, Or.inr ⟨rfl, q2⟩⟩
  have Nq481 : Fr n0 ([] : List Loc) := Fr.nil n0
  have N481 := Fr.app N427 Nq481
  obtain rfl : z481 = 1 := hz481.elim (fun q => q.1) (fun q => absurd rfl q.2)
  obtain ⟨fs, hr, hrun, hended, hW⟩ := Stand.leaveW (s := s) (vm₁ := vm427) X481 hS427 (by rw [eh481]; exact hkk427) (v := some (.int (1 : Int32))) (fun h => by rw [hret0] at h; cases h)
  refine ⟨_, _, pre0 _ ?_, hrun, hended, _, _, rfl, ?_, own_chr (T := T481) hh eh481 (C477.trans (CHv.at (s := s) (vm0 := vm427) X481 hZ427 hEL C477.1)), own_wmono hW (by decide) (by decide)⟩
  · show Steps p.tables e below (s₁.setTop (mkF m 0 #[.val (.int p0), .val (.int p1), .val (.int p2), .val (.int p3), .unset, .unset, .unset, .unset, .unset, .unset, .unset, .unset, .unset] [])) _
    refine st162 _ ?_
    show Steps p.tables e below (s₁.setTop (mkF m 3 #[.val (.int p0), .val (.int p1), .val (.int p2), .val (.int p3), .unset, .unset, .unset, .unset, .unset, .unset, .unset, .unset, .unset] [(.int c4)])) _
    refine XS.istore X0.here hx rfl (hb hby at_3) rfl (l' := #[.val (.int p0), .val (.int p1), .val (.int p2), .val (.int p3), .val (.int c4), .unset, .unset, .unset, .unset, .unset, .unset, .unset, .unset]) rfl ?_
    show Steps p.tables e below (s₁.setTop (mkF m 5 #[.val (.int p0), .val (.int p1), .val (.int p2), .val (.int p3), .val (.int c4), .unset, .unset, .unset, .unset, .unset, .unset, .unset, .unset] [])) _
    refine st163 _ ?_
    show Steps p.tables e below (s₁.setTop (mkF m 11 #[.val (.int p0), .val (.int p1), .val (.int p2), .val (.int p3), .val (.int c4), .unset, .unset, .unset, .unset, .unset, .unset, .unset, .unset] [(.int c5)])) _
    refine XS.istore X0.here hx rfl (hb hby at_11) rfl (l' := #[.val (.int p0), .val (.int p1), .val (.int p2), .val (.int p3), .val (.int c4), .val (.int c5), .unset, .unset, .unset, .unset, .unset, .unset, .unset]) rfl ?_
    show Steps p.tables e below (s₁.setTop (mkF m 13 #[.val (.int p0), .val (.int p1), .val (.int p2), .val (.int p3), .val (.int c4), .val (.int c5), .unset, .unset, .unset, .unset, .unset, .unset, .unset] [])) _
    refine st164 _ ?_
    show Steps p.tables e below (s₁.setTop (mkF m 19 #[.val (.int p0), .val (.int p1), .val (.int p2), .val (.int p3), .val (.int c4), .val (.int c5), .unset, .unset, .unset, .unset, .unset, .unset, .unset] [(.int c6)])) _
    refine XS.istore X0.here hx rfl (hb hby at_19) rfl (l' := #[.val (.int p0), .val (.int p1), .val (.int p2), .val (.int p3), .val (.int c4), .val (.int c5), .val (.int c6), .unset, .unset, .unset, .unset, .unset, .unset]) rfl ?_
    show Steps p.tables e below (s₁.setTop (mkF m 21 #[.val (.int p0), .val (.int p1), .val (.int p2), .val (.int p3), .val (.int c4), .val (.int c5), .val (.int c6), .unset, .unset, .unset, .unset, .unset, .unset] [])) _
    refine st165 _ ?_
    show Steps p.tables e below (s₁.setTop (mkF m 27 #[.val (.int p0), .val (.int p1), .val (.int p2), .val (.int p3), .val (.int c4), .val (.int c5), .val (.int c6), .unset, .unset, .unset, .unset, .unset, .unset] [(.int c7)])) _
    refine XS.istore X0.here hx rfl (hb hby at_27) rfl (l' := #[.val (.int p0), .val (.int p1), .val (.int p2), .val (.int p3), .val (.int c4), .val (.int c5), .val (.int c6), .val (.int c7), .unset, .unset, .unset, .unset, .unset]) rfl ?_
    show Steps p.tables e below (s₁.setTop (mkF m 29 #[.val (.int p0), .val (.int p1), .val (.int p2), .val (.int p3), .val (.int c4), .val (.int c5), .val (.int c6), .val (.int c7), .unset, .unset, .unset, .unset, .unset] [])) _
    refine st166 _ ?_
    show Steps p.tables e below (T166.setTop (mkF m 168 #[.val (.int p0), .val (.int p1), .val (.int p2), .val (.int p3), .val (.int c4), .val (.int c5), .val (.int c6), .val (.int c7), .val (.ref b8), .val (.ref b9), .val (.ref s10), .unset, .unset] [])) _
    refine st398 _ ?_
    show Steps p.tables e below (T398.setTop (mkF m 190 #[.val (.int p0), .val (.int p1), .val (.int p2), .val (.int p3), .val (.int c4), .val (.int c5), .val (.int c6), .val (.int c7), .val (.ref b8), .val (.ref b9), .val (.ref s10), .val (.ref b11), .unset] [])) _
    refine XS.aload X398.here hx rfl (hb hby at_190) rfl rfl ?_
    show Steps p.tables e below (T398.setTop (mkF m 192 #[.val (.int p0), .val (.int p1), .val (.int p2), .val (.int p3), .val (.int c4), .val (.int c5), .val (.int c6), .val (.int c7), .val (.ref b8), .val (.ref b9), .val (.ref s10), .val (.ref b11), .unset] [(.ref b11)])) _
    refine st423.trans ?_
    show Steps p.tables e below (T423.setTop (mkF m 195 #[.val (.int p0), .val (.int p1), .val (.int p2), .val (.int p3), .val (.int c4), .val (.int c5), .val (.int c6), .val (.int c7), .val (.ref b8), .val (.ref b9), .val (.ref s10), .val (.ref b11), .unset] [(.ref s12)])) _
    refine XS.astore X423.here hx rfl (hb hby at_195) rfl rfl (l' := #[.val (.int p0), .val (.int p1), .val (.int p2), .val (.int p3), .val (.int c4), .val (.int c5), .val (.int c6), .val (.int c7), .val (.ref b8), .val (.ref b9), .val (.ref s10), .val (.ref b11), .val (.ref s12)]) rfl ?_
    show Steps p.tables e below (T423.setTop (mkF m 197 #[.val (.int p0), .val (.int p1), .val (.int p2), .val (.int p3), .val (.int c4), .val (.int c5), .val (.int c6), .val (.int c7), .val (.ref b8), .val (.ref b9), .val (.ref s10), .val (.ref b11), .val (.ref s12)] [])) _
    refine XS.aload X423.here hx rfl (hb hby at_197) rfl rfl ?_
    show Steps p.tables e below (T423.setTop (mkF m 199 #[.val (.int p0), .val (.int p1), .val (.int p2), .val (.int p3), .val (.int c4), .val (.int c5), .val (.int c6), .val (.int c7), .val (.ref b8), .val (.ref b9), .val (.ref s10), .val (.ref b11), .val (.ref s12)] [(.ref s12)])) _
    refine st427 _ ?_
    show Steps p.tables e below (T427.setTop (mkF m 208 #[.val (.int p0), .val (.int p1), .val (.int p2), .val (.int p3), .val (.int c4), .val (.int c5), .val (.int c6), .val (.int c7), .val (.ref b8), .val (.ref b9), .val (.ref s10), .val (.ref b11), .val (.ref s12)] [(.ref s13), (.ref s12)])) _
    refine st481.trans ?_
    show Steps p.tables e below (T481.setTop (mkF m 211 #[.val (.int p0), .val (.int p1), .val (.int p2), .val (.int p3), .val (.int c4), .val (.int c5), .val (.int c6), .val (.int c7), .val (.ref b8), .val (.ref b9), .val (.ref s10), .val (.ref b11), .val (.ref s12)] [(.int (1 : Int32))])) _
    exact retN X481 hx (t := .boolean) hret0 (by simp) (hb hby at_211) hr
  · show Q0 n0 _ T481.heap _
    rw [eh481]
    exact ⟨rfl, N481⟩
set_option maxRecDepth 65536 in
set_option maxHeartbeats 40000000 in
theorem comes_1 {Post : Tables → Env → Array Value → State → Outcome → State → Prop} (hpost : ∀ tb e args s v u, (limb_1_1.after args s (.returned v) u = true ∧ limb_1_2.after args s (.returned v) u = true ∧ True) → ReturnedEndW s (.returned v) u (Jvm.fieldLocs frame_1_writes args s ++ Jvm.arrayLocs frame_1_arrays args s ++ Jvm.staticLocs frame_1_statics s) 40 3328 → Post tb e args s (.returned v) u) :
    ArmFor flags0 classFile x code maxLocals ret World_1 tables_1 room_1 Calls_1 rest_1 Pre_1 Post := by
  intro l hfl _ _ p e ha hc hk s m args below hf hA hF happ hP
  obtain ⟨hcalls, hrest, hpre⟩ := hP
  obtain ⟨-, -, -, hnamed, -, -, -, hat⟩ := (Spec.applies_iff hf).mp happ
  obtain ⟨hg, hn⟩ := and_e (Cond.before_iff.mp (show (Jvm.Cond.and given_1 narrow_1).before args s = true from hpre))
  obtain ⟨g0, r0⟩ := and_e hg
  obtain ⟨g1, r1⟩ := and_e r0
  obtain ⟨g2, r2⟩ := and_e r1
  obtain ⟨g3, r3⟩ := and_e r2
  obtain ⟨w0, w1, w2, w3, rfl⟩ : ∃ w0 w1 w2 w3 : Value, args = #[w0, w1, w2, w3] := by
    have hs : args.size = 4 := by simpa [Cond.value, given_1] using g0
    obtain ⟨L⟩ := args
    match L, hs with
    | [w0, w1, w2, w3], _ => exact ⟨w0, w1, w2, w3, rfl⟩
  have hw := fun d (hd : d ∈ tables_1) => atoms_spec (ws := Jvm.Cond.code x code maxLocals ret :: tables_1) hat d (List.mem_cons_of_mem _ hd)
  have hfit : Fit s := fun {y c} hc i hi => by
    obtain ⟨ha, rfl⟩ := Array.getElem?_eq_some_iff.mp hc
    have q := List.all_eq_true.mp ((Array.all_eq_true_iff_forall_mem.mp hF) _ (Array.getElem_mem ha)) i (List.mem_range.mpr hi)
    simpa [Array.getElem?_eq_getElem hi] using q
  obtain ⟨hsets, hown0⟩ := atoms_of _ (rest_1_c_eq ▸ (show rest_1_c.before _ s = true from hrest))
  have hr0 := Cond.before_iff.mp hown0
  obtain ⟨i0, ei0⟩ := is_v g1
  obtain rfl : w0 = (.int i0) := Option.some.inj ei0
  obtain ⟨i1, ei1⟩ := is_v g2
  obtain rfl : w1 = (.int i1) := Option.some.inj ei1
  obtain ⟨i2, ei2⟩ := is_v g3
  obtain rfl : w2 = (.int i2) := Option.some.inj ei2
  obtain ⟨i3, ei3⟩ := is_v r3
  obtain rfl : w3 = (.int i3) := Option.some.inj ei3
  have n5 := not_v (Cond.before_iff.mp (hsets _ (List.mem_of_getElem? (i := 2) rfl)))
  obtain ⟨G1, e10⟩ := is_v (Cond.before_iff.mp (hsets _ (List.mem_of_getElem? (i := 1) rfl)))
  have S12 : Sta s s.heap "java/lang/String" "COMPACT_STRINGS" "Z" (.int G1) := Sta.start e10 (Or.inl (hsets _ (List.mem_of_getElem? (i := 0) rfl)))
  have c17 : ¬ (G1 = (0 : Int32)) := gotF (Cond.eq_ints e10 (Term.int_eval (0))) n5
  obtain ⟨v13, e14, r15⟩ := isR_v (Cond.before_iff.mp (hsets _ (List.mem_of_getElem? (i := 8) rfl)))
  have S16 : Sta s s.heap "jdk/internal/util/Preconditions" "SIOOBE_FORMATTER" "Ljava/util/function/BiFunction;" v13 := Sta.start e14 (Or.inl (hsets _ (List.mem_of_getElem? (i := 7) rfl)))
  have hCH : CHv s EL s.vm s.heap := CHv.start (own_EL hw) hcalls.1 (hsets _ (List.mem_of_getElem? (i := 2) rfl)) (hw _ (List.mem_of_getElem? (i := 19) rfl)) (hw _ (List.mem_of_getElem? (i := 2) rfl))
  obtain ⟨n, o, h1, h2, h3, _, L, rfl, ⟨rfl, N⟩, -, hq⟩ := rm0 l s _ hw tables_1 i0 i1 i2 i3 G1 v13 s.heap s.heap.size (Nat.le_refl _) S12 c17 (Old.start s) S16 r15 p e ha hc hk s m _ below hf ((Spec.applies_iff_loose hf).mp happ).1 ⟨rfl, State.Warmed39.refl s, rfl, hCH⟩ trivial
  refine ⟨n, _, h1, h2, h3, hpost _ _ _ _ _ _ ⟨Cond.after_iff.mpr rfl, Cond.after_iff.mpr (eq_i res_at (Term.int_eval (1)) rfl), trivial⟩ ⟨hq.1, hq.2.1, hq.2.2.1, (hq.2.2.2.sift fun y hy => Or.inr (N y hy)).mono (by decide) (by decide)⟩⟩
theorem main_1_1 : Claimed_1_1 := comes_1 fun _ _ _ _ _ _ h hF => ⟨h.1, hF⟩
theorem main_1_2 : Claimed_1_2 := comes_1 fun _ _ _ _ _ _ h hF => ⟨h.2.1, hF⟩
end Jvm.Pilot.@@N@@
namespace Jvm.Pilot.@@N@@
open Jvm Jvm.ClassFile Sem Op Lib Jvm.Free Jvm.Stand Jvm.Pilot.@@N@@.Jvm.D
/-! MADE BY PROGRAM (witnessworld.py) out of the Statement's table words and the real class files: 24 classes; the members and pool entries that the words name. The judged class is class 1, her method 1. -/
namespace start1
open Jvm.ClassFile
def u (s : String) : CpInfo := .utf8 (stringToUtf16 s)
/-- a pool by its gaps: so many unusable entries, then the entry; so many at the end -/
def gap : Nat → List CpInfo → List CpInfo
  | 0, r => r
  | n + 1, r => .unusable :: gap n r
def poolList (es : List (Nat × CpInfo)) (last : Nat) : List CpInfo := es.foldr (fun e r => gap e.1 (e.2 :: r)) (gap last [])
def pool (es : List (Nat × CpInfo)) (last : Nat) : Array CpInfo := ⟨poolList es last⟩
def fileOf (pool : Array CpInfo) (this : Nat) (attrs : Array Attribute := #[]) (ms : Array MethodInfo := #[]) (fl : Nat := 33) (sup : Nat := 0) (ifs : Array Nat := #[]) (fds : Array FieldInfo := #[]) : ClassFile where
  minorVersion := 0
  majorVersion := 65
  constantPool := pool
  accessFlags := fl
  thisClass := this
  superClass := sup
  interfaces := ifs
  fields := fds
  methods := ms
  attributes := attrs
def plain (name : String) (sup : Option ClassId) : Class where
  name := name
  kind := .ordinary
  loader := none
  accessFlags := 33
  super := sup
  interfaces := #[]
  cf := none
  fields := #[]
  methods := #[]
  instanceTypes := #[]
  staticTypes := #[]
  resolved := #[]
  callSites := []
  init := .initialized
  statics := none
  mirror := none

def pool0 : Array CpInfo := pool [(5, u "<init>"), (0, u "()V"), (1, .class_ 10), (1, u "java/lang/Object")] 113

def k0c0 : Code := { maxStack := 0, maxLocals := 1, code := object_method_1_code, exceptionTable := #[], attributes := #[] }
def k0m0 : Method := { name := "<init>", desc := "()V", sig := { parameters := [], returnType := none }, accessFlags := 1, code := some k0c0 }
/-- java/lang/Object -/
def k0 : Class := { plain "java/lang/Object" none with
  accessFlags := 33
  interfaces := #[]
  cf := some (fileOf pool0 8 #[] #[{ accessFlags := 1, nameIndex := 5, descriptorIndex := 6, attributes := #[] }] 33 0 #[] #[])
  fields := #[]
  methods := #[k0m0]
  instanceTypes := #[]
  staticTypes := #[]
  resolved := Array.replicate 124 none
  statics := none }

def pool1 : Array CpInfo := pool [(2, .class_ 4), (1, u "java/lang/Object"), (0, u "<init>"), (0, u "()V"), (0, .class_ 8), (0, u "java/lang/String"), (0, .methodref 7 10), (0, .nameAndType 5 11), (0, u "([C)V"), (0, .class_ 13), (0, u "com/example/test_rollback/testrollback/Dialect$Counter"), (0, .methodref 7 15), (0, .nameAndType 16 17), (0, u "valueOf"), (0, u "(C)Ljava/lang/String;"), (0, .methodref 12 19), (0, .nameAndType 5 20), (0, u "(Ljava/lang/String;Ljava/lang/String;Ljava/lang/String;Ljava/lang/String;)V"), (0, .methodref 12 22), (0, .nameAndType 23 24), (0, u "sequence"), (0, u "()Ljava/lang/String;"), (0, .methodref 7 26), (0, .nameAndType 27 28), (0, u "equals"), (0, u "(Ljava/lang/Object;)Z"), (0, .class_ 30), (0, u "com/example/test_rollback/testrollback/CounterSequencePinLaw"), (2, u "law"), (0, u "(IIII)Z")] 9

def k1m0 : Method := { name := "<init>", desc := "()V", sig := { parameters := [], returnType := none }, accessFlags := 1, code := none }
def k1c1 : Code := { maxStack := 6, maxLocals := 13, code := code, exceptionTable := #[], attributes := #[] }
def k1m1 : Method := { name := "law", desc := "(IIII)Z", sig := { parameters := [.int, .int, .int, .int], returnType := some .boolean }, accessFlags := 9, code := some k1c1 }
/-- com/example/test_rollback/testrollback/CounterSequencePinLaw -/
def k1 : Class := { plain "com/example/test_rollback/testrollback/CounterSequencePinLaw" (some 0) with
  accessFlags := 49
  interfaces := #[]
  cf := some (fileOf pool1 29 #[] #[{ accessFlags := 1, nameIndex := 5, descriptorIndex := 6, attributes := #[] }, { accessFlags := 9, nameIndex := 33, descriptorIndex := 34, attributes := #[] }] 49 2 #[] #[])
  fields := #[]
  methods := #[k1m0, k1m1]
  instanceTypes := #[]
  staticTypes := #[]
  resolved := Array.replicate 44 none
  statics := none }

def pool2 : Array CpInfo := pool [(1, .class_ 2), (0, u "java/io/Serializable"), (0, .class_ 4), (0, u "java/lang/Object")] 2

/-- java/io/Serializable -/
def k2 : Class := { plain "java/io/Serializable" (some 0) with
  accessFlags := 1537
  interfaces := #[]
  cf := some (fileOf pool2 1 #[] #[] 1537 3 #[] #[])
  fields := #[]
  methods := #[]
  instanceTypes := #[]
  staticTypes := #[]
  resolved := Array.replicate 7 none
  statics := none }

def pool3 : Array CpInfo := pool [(1, .class_ 2), (0, u "java/lang/Comparable"), (0, .class_ 4), (0, u "java/lang/Object")] 7

/-- java/lang/Comparable -/
def k3 : Class := { plain "java/lang/Comparable" (some 0) with
  accessFlags := 1537
  interfaces := #[]
  cf := some (fileOf pool3 1 #[] #[] 1537 3 #[] #[])
  fields := #[]
  methods := #[]
  instanceTypes := #[]
  staticTypes := #[]
  resolved := Array.replicate 12 none
  statics := none }

def pool4 : Array CpInfo := pool [(2, .class_ 4), (1, u "java/lang/CharSequence"), (42, .class_ 48), (0, u "java/lang/CharSequence$1CodePointIterator"), (10, .class_ 60), (0, u "java/lang/CharSequence$1CharIterator"), (5, .class_ 67), (0, u "java/lang/Object")] 63

/-- java/lang/CharSequence -/
def k4 : Class := { plain "java/lang/CharSequence" (some 0) with
  accessFlags := 1537
  interfaces := #[]
  cf := some (fileOf pool4 2 #[.nestMembers #[47, 59]] #[] 1537 66 #[] #[])
  fields := #[]
  methods := #[]
  instanceTypes := #[]
  staticTypes := #[]
  resolved := Array.replicate 131 none
  statics := none }

def pool5 : Array CpInfo := pool [(1, .class_ 2), (0, u "java/lang/constant/Constable"), (0, .class_ 4), (0, u "java/lang/Object")] 6

/-- java/lang/constant/Constable -/
def k5 : Class := { plain "java/lang/constant/Constable" (some 0) with
  accessFlags := 1537
  interfaces := #[]
  cf := some (fileOf pool5 1 #[] #[] 1537 3 #[] #[])
  fields := #[]
  methods := #[]
  instanceTypes := #[]
  staticTypes := #[]
  resolved := Array.replicate 11 none
  statics := none }

def pool6 : Array CpInfo := pool [(1, .class_ 2), (0, u "java/lang/constant/ConstantDesc"), (0, .class_ 4), (0, u "java/lang/Object")] 32

/-- java/lang/constant/ConstantDesc -/
def k6 : Class := { plain "java/lang/constant/ConstantDesc" (some 0) with
  accessFlags := 1537
  interfaces := #[]
  cf := some (fileOf pool6 1 #[] #[] 1537 3 #[] #[])
  fields := #[]
  methods := #[]
  instanceTypes := #[]
  staticTypes := #[]
  resolved := Array.replicate 37 none
  statics := none }

def pool7 : Array CpInfo := pool [(1, .methodref 2 3), (0, .class_ 4), (0, .nameAndType 5 6), (0, u "java/lang/Object"), (0, u "<init>"), (0, u "()V"), (0, .string 8), (0, u ""), (0, .fieldref 10 11), (0, .class_ 12), (0, .nameAndType 13 14), (0, u "java/lang/String"), (0, u "value"), (0, u "[B"), (0, .fieldref 10 16), (0, .nameAndType 17 18), (0, u "coder"), (0, u "B"), (2, u "hash"), (0, u "I"), (2, u "hashIsZero"), (0, u "Z"), (0, .methodref 10 28), (0, .nameAndType 5 29), (0, u "([CIILjava/lang/Void;)V"), (8, .fieldref 10 39), (0, .nameAndType 40 26), (0, u "COMPACT_STRINGS"), (1, .class_ 44), (1, u "java/lang/StringUTF16"), (0, u "compress"), (1, .methodref 42 48), (0, .nameAndType 49 50), (0, u "coderFromArrayLen"), (0, u "([BI)B"), (2, u "toBytes"), (53, .class_ 109), (1, u "java/lang/StringLatin1"), (32, u "()Z"), (34, .methodref 42 178), (0, .nameAndType 45 179), (0, u "([CII)[B"), (29, .methodref 10 210), (0, .nameAndType 5 211), (0, u "([BB)V"), (122, u "()I"), (0, .methodref 10 336), (0, .nameAndType 17 337), (0, u "()B"), (31, u "(C)Z"), (122, .methodref 10 493), (0, .nameAndType 494 142), (0, u "isLatin1"), (10, .methodref 10 506), (0, .nameAndType 507 334), (0, u "length"), (5, u "checkFromToIndex"), (7, .methodref 10 522), (0, .nameAndType 523 524), (0, u "checkBoundsBeginEnd"), (0, u "(III)V"), (16, .methodref 107 542), (0, .nameAndType 543 544), (0, u "equals"), (0, u "([B[B)Z"), (28, u "(Ljava/lang/Object;)Z"), (1, .class_ 576), (0, u "java/lang/CharSequence"), (22, u "CASE_INSENSITIVE_ORDER"), (0, u "Ljava/util/Comparator;"), (80, .methodref 10 682), (0, .nameAndType 683 684), (0, u "substring"), (0, u "(II)Ljava/lang/String;"), (0, .methodref 107 686), (0, .nameAndType 687 688), (0, u "newString"), (0, u "([BII)Ljava/lang/String;"), (93, u "valueOf"), (0, u "(C)Ljava/lang/String;"), (108, u "(I)Ljava/lang/String;"), (117, u "([C)V"), (4, .methodref 107 1016), (0, .nameAndType 1017 369), (0, u "canEncode"), (0, .methodref 107 1019), (0, .nameAndType 53 1020), (0, u "(C)[B"), (32, .fieldref 1054 1055), (0, .class_ 1056), (0, .nameAndType 1057 1058), (0, u "jdk/internal/util/Preconditions"), (0, u "SIOOBE_FORMATTER"), (0, u "Ljava/util/function/BiFunction;"), (3, .methodref 1054 1063), (0, .nameAndType 513 1064), (0, u "(IIILjava/util/function/BiFunction;)I"), (36, u "serialPersistentFields"), (0, u "[Ljava/io/ObjectStreamField;"), (0, .class_ 1104), (0, u "java/lang/String$CaseInsensitiveComparator"), (1, .class_ 1107), (0, u "java/io/Serializable"), (0, .class_ 1109), (0, u "java/lang/Comparable"), (0, .class_ 1111), (0, u "java/lang/constant/Constable"), (0, .class_ 1113), (0, u "java/lang/constant/ConstantDesc"), (2, u "serialVersionUID"), (0, u "J"), (3, u "REPL"), (0, u "C"), (2, u "LATIN1"), (1, u "UTF16")] 323

def k7m0 : Method := { name := "<init>", desc := "()V", sig := { parameters := [], returnType := none }, accessFlags := 1, code := none }
def k7c1 : Code := { maxStack := 5, maxLocals := 2, code := jdk_42_method_3_code, exceptionTable := #[], attributes := #[] }
def k7m1 : Method := { name := "<init>", desc := "([C)V", sig := { parameters := [(.array .char)], returnType := none }, accessFlags := 1, code := some k7c1 }
def k7c2 : Code := { maxStack := 2, maxLocals := 1, code := jdk_42_method_54_code, exceptionTable := #[], attributes := #[] }
def k7m2 : Method := { name := "length", desc := "()I", sig := { parameters := [], returnType := some .int }, accessFlags := 1, code := some k7c2 }
def k7c3 : Code := { maxStack := 2, maxLocals := 3, code := jdk_42_method_66_code, exceptionTable := #[], attributes := #[] }
def k7m3 : Method := { name := "equals", desc := "(Ljava/lang/Object;)Z", sig := { parameters := [(.object "java/lang/Object")], returnType := some .boolean }, accessFlags := 1, code := some k7c3 }
def k7c4 : Code := { maxStack := 3, maxLocals := 2, code := jdk_42_method_91_code, exceptionTable := #[], attributes := #[] }
def k7m4 : Method := { name := "substring", desc := "(I)Ljava/lang/String;", sig := { parameters := [.int], returnType := some (.object "java/lang/String") }, accessFlags := 1, code := some k7c4 }
def k7c5 : Code := { maxStack := 3, maxLocals := 5, code := jdk_42_method_92_code, exceptionTable := #[], attributes := #[] }
def k7m5 : Method := { name := "substring", desc := "(II)Ljava/lang/String;", sig := { parameters := [.int, .int], returnType := some (.object "java/lang/String") }, accessFlags := 1, code := some k7c5 }
def k7c6 : Code := { maxStack := 4, maxLocals := 1, code := jdk_42_method_139_code, exceptionTable := #[], attributes := #[] }
def k7m6 : Method := { name := "valueOf", desc := "(C)Ljava/lang/String;", sig := { parameters := [.char], returnType := some (.object "java/lang/String") }, accessFlags := 9, code := some k7c6 }
def k7c7 : Code := { maxStack := 4, maxLocals := 6, code := jdk_42_method_149_code, exceptionTable := #[], attributes := #[] }
def k7m7 : Method := { name := "<init>", desc := "([CIILjava/lang/Void;)V", sig := { parameters := [(.array .char), .int, .int, (.object "java/lang/Void")], returnType := none }, accessFlags := 2, code := some k7c7 }
def k7c8 : Code := { maxStack := 2, maxLocals := 3, code := jdk_42_method_151_code, exceptionTable := #[], attributes := #[] }
def k7m8 : Method := { name := "<init>", desc := "([BB)V", sig := { parameters := [(.array .byte), .byte], returnType := none }, accessFlags := 0, code := some k7c8 }
def k7c9 : Code := { maxStack := 1, maxLocals := 1, code := jdk_42_method_152_code, exceptionTable := #[], attributes := #[] }
def k7m9 : Method := { name := "coder", desc := "()B", sig := { parameters := [], returnType := some .byte }, accessFlags := 0, code := some k7c9 }
def k7c10 : Code := { maxStack := 1, maxLocals := 1, code := jdk_42_method_154_code, exceptionTable := #[], attributes := #[] }
def k7m10 : Method := { name := "isLatin1", desc := "()Z", sig := { parameters := [], returnType := some .boolean }, accessFlags := 0, code := some k7c10 }
def k7c11 : Code := { maxStack := 4, maxLocals := 3, code := jdk_42_method_158_code, exceptionTable := #[], attributes := #[] }
def k7m11 : Method := { name := "checkBoundsBeginEnd", desc := "(III)V", sig := { parameters := [.int, .int, .int], returnType := none }, accessFlags := 8, code := some k7c11 }
/-- java/lang/String -/
def k7 : Class := { plain "java/lang/String" (some 0) with
  accessFlags := 49
  interfaces := #[2, 3, 4, 5, 6]
  cf := some (fileOf pool7 10 #[.nestMembers #[1103]] #[{ accessFlags := 1, nameIndex := 5, descriptorIndex := 6, attributes := #[] }, { accessFlags := 1, nameIndex := 5, descriptorIndex := 1010, attributes := #[] }, { accessFlags := 1, nameIndex := 507, descriptorIndex := 334, attributes := #[] }, { accessFlags := 1, nameIndex := 543, descriptorIndex := 573, attributes := #[] }, { accessFlags := 1, nameIndex := 683, descriptorIndex := 892, attributes := #[] }, { accessFlags := 1, nameIndex := 683, descriptorIndex := 684, attributes := #[] }, { accessFlags := 9, nameIndex := 782, descriptorIndex := 783, attributes := #[] }, { accessFlags := 2, nameIndex := 5, descriptorIndex := 29, attributes := #[] }, { accessFlags := 0, nameIndex := 5, descriptorIndex := 211, attributes := #[] }, { accessFlags := 0, nameIndex := 17, descriptorIndex := 337, attributes := #[] }, { accessFlags := 0, nameIndex := 494, descriptorIndex := 142, attributes := #[] }, { accessFlags := 8, nameIndex := 523, descriptorIndex := 524, attributes := #[] }] 49 2 #[1106, 1108, 575, 1110, 1112] #[{ accessFlags := 18, nameIndex := 13, descriptorIndex := 14, attributes := #[] }, { accessFlags := 18, nameIndex := 17, descriptorIndex := 18, attributes := #[] }, { accessFlags := 2, nameIndex := 21, descriptorIndex := 22, attributes := #[] }, { accessFlags := 2, nameIndex := 25, descriptorIndex := 26, attributes := #[] }, { accessFlags := 26, nameIndex := 1116, descriptorIndex := 1117, attributes := #[] }, { accessFlags := 24, nameIndex := 40, descriptorIndex := 26, attributes := #[] }, { accessFlags := 26, nameIndex := 1101, descriptorIndex := 1102, attributes := #[] }, { accessFlags := 26, nameIndex := 1121, descriptorIndex := 1122, attributes := #[] }, { accessFlags := 25, nameIndex := 599, descriptorIndex := 600, attributes := #[] }, { accessFlags := 24, nameIndex := 1125, descriptorIndex := 18, attributes := #[] }, { accessFlags := 24, nameIndex := 1127, descriptorIndex := 18, attributes := #[] }])
  fields := #[{ name := "value", type := (.array .byte), accessFlags := 18, slot := 0, constantValue := 0 }, { name := "coder", type := .byte, accessFlags := 18, slot := 1, constantValue := 0 }, { name := "hash", type := .int, accessFlags := 2, slot := 2, constantValue := 0 }, { name := "hashIsZero", type := .boolean, accessFlags := 2, slot := 3, constantValue := 0 }, { name := "serialVersionUID", type := .long, accessFlags := 26, slot := 0, constantValue := 0 }, { name := "COMPACT_STRINGS", type := .boolean, accessFlags := 24, slot := 1, constantValue := 0 }, { name := "serialPersistentFields", type := (.array (.object "java/io/ObjectStreamField")), accessFlags := 26, slot := 2, constantValue := 0 }, { name := "REPL", type := .char, accessFlags := 26, slot := 3, constantValue := 0 }, { name := "CASE_INSENSITIVE_ORDER", type := (.object "java/util/Comparator"), accessFlags := 25, slot := 4, constantValue := 0 }, { name := "LATIN1", type := .byte, accessFlags := 24, slot := 5, constantValue := 0 }, { name := "UTF16", type := .byte, accessFlags := 24, slot := 6, constantValue := 0 }]
  methods := #[k7m0, k7m1, k7m2, k7m3, k7m4, k7m5, k7m6, k7m7, k7m8, k7m9, k7m10, k7m11]
  instanceTypes := #[(.array .byte), .byte, .int, .boolean]
  staticTypes := #[.long, .boolean, (.array (.object "java/io/ObjectStreamField")), .char, (.object "java/util/Comparator"), .byte, .byte]
  resolved := Array.replicate 1451 none
  statics := some 0 }

def pool8 : Array CpInfo := pool [(6, .class_ 8), (1, u "java/lang/Object"), (0, u "<init>"), (0, u "()V"), (1, .class_ 14), (1, u "java/lang/StringUTF16"), (31, u "$assertionsDisabled"), (0, u "Z"), (13, u "HI_BYTE_SHIFT"), (0, u "I"), (2, u "LO_BYTE_SHIFT"), (49, .methodref 12 116), (0, .nameAndType 117 118), (0, u "compress"), (0, u "([CI[BII)I"), (3, u "([CII)[B"), (138, u "coderFromArrayLen"), (0, u "([BI)B"), (106, .class_ 371), (1, u "java/lang/StringUTF16$LinesSpliterator"), (58, u "MAX_LENGTH"), (196, .class_ 628), (0, u "java/lang/StringUTF16$CodePointsSpliterator"), (0, .class_ 630), (0, u "java/lang/StringUTF16$CharsSpliterator")] 4

def k8m0 : Method := { name := "<init>", desc := "()V", sig := { parameters := [], returnType := none }, accessFlags := 0, code := none }
def k8c1 : Code := { maxStack := 2, maxLocals := 2, code := jdk_52_method_15_code, exceptionTable := #[], attributes := #[] }
def k8m1 : Method := { name := "coderFromArrayLen", desc := "([BI)B", sig := { parameters := [(.array .byte), .int], returnType := some .byte }, accessFlags := 8, code := some k8c1 }
def k8c2 : Code := { maxStack := 5, maxLocals := 6, code := jdk_52_method_16_code, exceptionTable := #[], attributes := #[] }
def k8m2 : Method := { name := "compress", desc := "([CII)[B", sig := { parameters := [(.array .char), .int, .int], returnType := some (.array .byte) }, accessFlags := 9, code := some k8c2 }
def k8c3 : Code := { maxStack := 3, maxLocals := 7, code := jdk_52_method_21_code, exceptionTable := #[], attributes := #[] }
def k8m3 : Method := { name := "compress", desc := "([CI[BII)I", sig := { parameters := [(.array .char), .int, (.array .byte), .int, .int], returnType := some .int }, accessFlags := 9, code := some k8c3 }
/-- java/lang/StringUTF16 -/
def k8 : Class := { plain "java/lang/StringUTF16" (some 0) with
  accessFlags := 48
  interfaces := #[]
  cf := some (fileOf pool8 12 #[.nestMembers #[627, 629, 369]] #[{ accessFlags := 0, nameIndex := 9, descriptorIndex := 10, attributes := #[] }, { accessFlags := 8, nameIndex := 261, descriptorIndex := 262, attributes := #[] }, { accessFlags := 9, nameIndex := 117, descriptorIndex := 122, attributes := #[] }, { accessFlags := 9, nameIndex := 117, descriptorIndex := 118, attributes := #[] }] 48 6 #[] #[{ accessFlags := 26, nameIndex := 61, descriptorIndex := 62, attributes := #[] }, { accessFlags := 26, nameIndex := 65, descriptorIndex := 62, attributes := #[] }, { accessFlags := 24, nameIndex := 430, descriptorIndex := 62, attributes := #[] }, { accessFlags := 4120, nameIndex := 46, descriptorIndex := 47, attributes := #[] }])
  fields := #[{ name := "HI_BYTE_SHIFT", type := .int, accessFlags := 26, slot := 0, constantValue := 0 }, { name := "LO_BYTE_SHIFT", type := .int, accessFlags := 26, slot := 1, constantValue := 0 }, { name := "MAX_LENGTH", type := .int, accessFlags := 24, slot := 2, constantValue := 0 }, { name := "$assertionsDisabled", type := .boolean, accessFlags := 4120, slot := 3, constantValue := 0 }]
  methods := #[k8m0, k8m1, k8m2, k8m3]
  instanceTypes := #[]
  staticTypes := #[.int, .int, .int, .boolean]
  resolved := Array.replicate 635 none
  statics := none }

def pool9 : Array CpInfo := pool [(1, .methodref 2 3), (0, .class_ 4), (0, .nameAndType 5 6), (0, u "java/lang/Object"), (0, u "<init>"), (0, u "()V"), (0, .class_ 8), (0, u "java/lang/Record")] 13

def k9c0 : Code := { maxStack := 1, maxLocals := 1, code := jdk_30_method_1_code, exceptionTable := #[], attributes := #[] }
def k9m0 : Method := { name := "<init>", desc := "()V", sig := { parameters := [], returnType := none }, accessFlags := 4, code := some k9c0 }
/-- java/lang/Record -/
def k9 : Class := { plain "java/lang/Record" (some 0) with
  accessFlags := 1057
  interfaces := #[]
  cf := some (fileOf pool9 7 #[] #[{ accessFlags := 4, nameIndex := 5, descriptorIndex := 6, attributes := #[] }] 1057 2 #[] #[])
  fields := #[]
  methods := #[k9m0]
  instanceTypes := #[]
  staticTypes := #[]
  resolved := Array.replicate 22 none
  statics := none }

def pool10 : Array CpInfo := pool [(1, .methodref 2 3), (0, .class_ 4), (0, .nameAndType 5 6), (0, u "java/lang/Record"), (0, u "<init>"), (0, u "()V"), (0, .fieldref 8 9), (0, .class_ 10), (0, .nameAndType 11 12), (0, u "com/example/test_rollback/testrollback/Dialect$Counter"), (0, u "table"), (0, u "Ljava/lang/String;"), (0, .fieldref 8 14), (0, .nameAndType 15 12), (0, u "name"), (0, .fieldref 8 17), (0, .nameAndType 18 12), (0, u "next"), (0, .fieldref 8 20), (0, .nameAndType 21 12), (0, u "restart"), (5, u "(Ljava/lang/String;Ljava/lang/String;Ljava/lang/String;Ljava/lang/String;)V"), (6, .string 35), (0, u "sequence "), (0, .methodref 37 38), (0, .class_ 39), (0, .nameAndType 40 41), (0, u "java/lang/String"), (0, u "length"), (0, u "()I"), (0, .methodref 37 43), (0, .nameAndType 44 45), (0, u "substring"), (0, u "(I)Ljava/lang/String;"), (15, u "()Ljava/lang/String;"), (20, u "SEQUENCE"), (9, u "sequence"), (11, .class_ 105), (0, u "com/example/test_rollback/testrollback/Dialect")] 46

def k10c0 : Code := { maxStack := 2, maxLocals := 5, code := prog_10_method_1_code, exceptionTable := #[], attributes := #[] }
def k10m0 : Method := { name := "<init>", desc := "(Ljava/lang/String;Ljava/lang/String;Ljava/lang/String;Ljava/lang/String;)V", sig := { parameters := [(.object "java/lang/String"), (.object "java/lang/String"), (.object "java/lang/String"), (.object "java/lang/String")], returnType := none }, accessFlags := 1, code := some k10c0 }
def k10c1 : Code := { maxStack := 2, maxLocals := 1, code := prog_10_method_5_code, exceptionTable := #[], attributes := #[] }
def k10m1 : Method := { name := "sequence", desc := "()Ljava/lang/String;", sig := { parameters := [], returnType := some (.object "java/lang/String") }, accessFlags := 0, code := some k10c1 }
/-- com/example/test_rollback/testrollback/Dialect$Counter -/
def k10 : Class := { plain "com/example/test_rollback/testrollback/Dialect$Counter" (some 9) with
  accessFlags := 49
  interfaces := #[]
  cf := some (fileOf pool10 8 #[.nestHost 104] #[{ accessFlags := 1, nameIndex := 5, descriptorIndex := 27, attributes := #[] }, { accessFlags := 0, nameIndex := 92, descriptorIndex := 61, attributes := #[] }] 49 2 #[] #[{ accessFlags := 18, nameIndex := 11, descriptorIndex := 12, attributes := #[] }, { accessFlags := 18, nameIndex := 15, descriptorIndex := 12, attributes := #[] }, { accessFlags := 18, nameIndex := 18, descriptorIndex := 12, attributes := #[] }, { accessFlags := 18, nameIndex := 21, descriptorIndex := 12, attributes := #[] }, { accessFlags := 26, nameIndex := 82, descriptorIndex := 12, attributes := #[] }])
  fields := #[{ name := "table", type := (.object "java/lang/String"), accessFlags := 18, slot := 0, constantValue := 0 }, { name := "name", type := (.object "java/lang/String"), accessFlags := 18, slot := 1, constantValue := 0 }, { name := "next", type := (.object "java/lang/String"), accessFlags := 18, slot := 2, constantValue := 0 }, { name := "restart", type := (.object "java/lang/String"), accessFlags := 18, slot := 3, constantValue := 0 }, { name := "SEQUENCE", type := (.object "java/lang/String"), accessFlags := 26, slot := 0, constantValue := 0 }]
  methods := #[k10m0, k10m1]
  instanceTypes := #[(.object "java/lang/String"), (.object "java/lang/String"), (.object "java/lang/String"), (.object "java/lang/String")]
  staticTypes := #[(.object "java/lang/String")]
  resolved := Array.replicate 152 none
  statics := none }

def pool11 : Array CpInfo := pool [(1, .class_ 2), (0, u "java/lang/String"), (1, .class_ 6), (1, u "java/lang/Object"), (0, u "<init>"), (0, u "()V"), (5, .class_ 16), (1, u "java/lang/StringLatin1"), (73, u "canEncode"), (14, u "(C)Z"), (6, .methodref 1 113), (0, .nameAndType 7 114), (0, u "([BB)V"), (6, u "$assertionsDisabled"), (0, u "Z"), (8, .class_ 133), (1, u "java/util/Arrays"), (17, .string 152), (0, u ""), (43, u "newString"), (0, u "([BII)Ljava/lang/String;"), (23, .class_ 223), (1, u "java/lang/StringLatin1$LinesSpliterator"), (8, .methodref 131 233), (0, .nameAndType 234 235), (0, u "copyOfRange"), (0, u "([BII)[B"), (45, u "equals"), (0, u "([B[B)Z"), (97, u "toBytes"), (1, u "(C)[B"), (7, .class_ 391), (0, u "java/lang/StringLatin1$CharsSpliterator")] 3

def k11m0 : Method := { name := "<init>", desc := "()V", sig := { parameters := [], returnType := none }, accessFlags := 0, code := none }
def k11c1 : Code := { maxStack := 2, maxLocals := 1, code := jdk_43_method_3_code, exceptionTable := #[], attributes := #[] }
def k11m1 : Method := { name := "canEncode", desc := "(C)Z", sig := { parameters := [.char], returnType := some .boolean }, accessFlags := 9, code := some k11c1 }
def k11c2 : Code := { maxStack := 3, maxLocals := 3, code := jdk_43_method_13_code, exceptionTable := #[], attributes := #[] }
def k11m2 : Method := { name := "equals", desc := "([B[B)Z", sig := { parameters := [(.array .byte), (.array .byte)], returnType := some .boolean }, accessFlags := 9, code := some k11c2 }
def k11c3 : Code := { maxStack := 4, maxLocals := 1, code := jdk_43_method_46_code, exceptionTable := #[], attributes := #[] }
def k11m3 : Method := { name := "toBytes", desc := "(C)[B", sig := { parameters := [.char], returnType := some (.array .byte) }, accessFlags := 9, code := some k11c3 }
def k11c4 : Code := { maxStack := 6, maxLocals := 3, code := jdk_43_method_47_code, exceptionTable := #[], attributes := #[] }
def k11m4 : Method := { name := "newString", desc := "([BII)Ljava/lang/String;", sig := { parameters := [(.array .byte), .int, .int], returnType := some (.object "java/lang/String") }, accessFlags := 9, code := some k11c4 }
/-- java/lang/StringLatin1 -/
def k11 : Class := { plain "java/lang/StringLatin1" (some 0) with
  accessFlags := 48
  interfaces := #[]
  cf := some (fileOf pool11 14 #[.nestMembers #[390, 221]] #[{ accessFlags := 0, nameIndex := 7, descriptorIndex := 8, attributes := #[] }, { accessFlags := 9, nameIndex := 90, descriptorIndex := 105, attributes := #[] }, { accessFlags := 9, nameIndex := 281, descriptorIndex := 282, attributes := #[] }, { accessFlags := 9, nameIndex := 380, descriptorIndex := 382, attributes := #[] }, { accessFlags := 9, nameIndex := 196, descriptorIndex := 197, attributes := #[] }] 48 4 #[] #[{ accessFlags := 4120, nameIndex := 121, descriptorIndex := 122, attributes := #[] }])
  fields := #[{ name := "$assertionsDisabled", type := .boolean, accessFlags := 4120, slot := 0, constantValue := 0 }]
  methods := #[k11m0, k11m1, k11m2, k11m3, k11m4]
  instanceTypes := #[]
  staticTypes := #[.boolean]
  resolved := Array.replicate 395 none
  statics := none }

def pool12 : Array CpInfo := pool [(2, .class_ 4), (1, u "java/lang/Object"), (0, u "<init>"), (0, u "()V"), (17, .class_ 26), (1, u "jdk/internal/util/Preconditions"), (20, u "checkFromToIndex"), (7, .class_ 56), (0, u "jdk/internal/util/Preconditions$4"), (57, .class_ 115), (0, u "jdk/internal/util/Preconditions$1"), (7, u "SIOOBE_FORMATTER"), (0, u "Ljava/util/function/BiFunction;"), (0, .class_ 126), (0, u "jdk/internal/util/Preconditions$2"), (3, u "AIOOBE_FORMATTER"), (0, .class_ 132), (0, u "jdk/internal/util/Preconditions$3"), (3, u "IOOBE_FORMATTER"), (46, u "(IIILjava/util/function/BiFunction;)I")] 10

def k12m0 : Method := { name := "<init>", desc := "()V", sig := { parameters := [], returnType := none }, accessFlags := 1, code := none }
def k12c1 : Code := { maxStack := 4, maxLocals := 4, code := jdk_41_method_12_code, exceptionTable := #[], attributes := #[] }
def k12m1 : Method := { name := "checkFromToIndex", desc := "(IIILjava/util/function/BiFunction;)I", sig := { parameters := [.int, .int, .int, (.object "java/util/function/BiFunction")], returnType := some .int }, accessFlags := 9, code := some k12c1 }
/-- jdk/internal/util/Preconditions -/
def k12 : Class := { plain "jdk/internal/util/Preconditions" (some 0) with
  accessFlags := 33
  interfaces := #[]
  cf := some (fileOf pool12 24 #[.nestMembers #[55, 131, 125, 114]] #[{ accessFlags := 1, nameIndex := 5, descriptorIndex := 6, attributes := #[] }, { accessFlags := 9, nameIndex := 47, descriptorIndex := 183, attributes := #[] }] 33 2 #[] #[{ accessFlags := 25, nameIndex := 123, descriptorIndex := 124, attributes := #[] }, { accessFlags := 25, nameIndex := 130, descriptorIndex := 124, attributes := #[] }, { accessFlags := 25, nameIndex := 136, descriptorIndex := 124, attributes := #[] }])
  fields := #[{ name := "SIOOBE_FORMATTER", type := (.object "java/util/function/BiFunction"), accessFlags := 25, slot := 0, constantValue := 0 }, { name := "AIOOBE_FORMATTER", type := (.object "java/util/function/BiFunction"), accessFlags := 25, slot := 1, constantValue := 0 }, { name := "IOOBE_FORMATTER", type := (.object "java/util/function/BiFunction"), accessFlags := 25, slot := 2, constantValue := 0 }]
  methods := #[k12m0, k12m1]
  instanceTypes := #[]
  staticTypes := #[(.object "java/util/function/BiFunction"), (.object "java/util/function/BiFunction"), (.object "java/util/function/BiFunction")]
  resolved := Array.replicate 194 none
  statics := some 1 }

def pool13 : Array CpInfo := pool [(2, .class_ 4), (1, u "java/lang/Object"), (0, u "<init>"), (0, u "()V"), (7, .class_ 16), (1, u "java/util/Arrays"), (57, .class_ 76), (1, u "java/util/Arrays$NaturalOrder"), (36, .class_ 115), (1, u "java/util/Arrays$LegacyMergeSort"), (1, u "Z"), (21, u "copyOfRange"), (10, .methodref 151 152), (0, .class_ 153), (0, .nameAndType 154 155), (0, u "java/lang/System"), (0, u "arraycopy"), (0, u "(Ljava/lang/Object;ILjava/lang/Object;II)V"), (148, .methodref 305 306), (0, .class_ 307), (0, .nameAndType 308 309), (0, u "java/lang/Math"), (0, u "min"), (0, u "(II)I"), (29, .methodref 14 340), (0, .nameAndType 341 342), (0, u "copyOfRangeByte"), (0, u "([BII)[B"), (0, .methodref 14 344), (0, .nameAndType 345 346), (0, u "checkLength"), (0, u "(II)V"), (28, .class_ 376), (0, u "java/util/Arrays$ArrayList"), (68, u "$assertionsDisabled"), (269, u "MIN_ARRAY_SORT_GRAN"), (0, u "I"), (2, u "INSERTIONSORT_THRESHOLD"), (255, .class_ 976), (0, u "java/util/Arrays$ArrayItr")] 52

def k13m0 : Method := { name := "<init>", desc := "()V", sig := { parameters := [], returnType := none }, accessFlags := 2, code := none }
def k13c1 : Code := { maxStack := 4, maxLocals := 2, code := jdk_65_method_131_code, exceptionTable := #[], attributes := #[] }
def k13m1 : Method := { name := "checkLength", desc := "(II)V", sig := { parameters := [.int, .int], returnType := none }, accessFlags := 10, code := some k13c1 }
def k13c2 : Code := { maxStack := 3, maxLocals := 3, code := jdk_65_method_132_code, exceptionTable := #[], attributes := #[] }
def k13m2 : Method := { name := "copyOfRange", desc := "([BII)[B", sig := { parameters := [(.array .byte), .int, .int], returnType := some (.array .byte) }, accessFlags := 9, code := some k13c2 }
def k13c3 : Code := { maxStack := 6, maxLocals := 5, code := jdk_65_method_133_code, exceptionTable := #[], attributes := #[] }
def k13m3 : Method := { name := "copyOfRangeByte", desc := "([BII)[B", sig := { parameters := [(.array .byte), .int, .int], returnType := some (.array .byte) }, accessFlags := 10, code := some k13c3 }
/-- java/util/Arrays -/
def k13 : Class := { plain "java/util/Arrays" (some 0) with
  accessFlags := 49
  interfaces := #[]
  cf := some (fileOf pool13 14 #[.nestMembers #[975, 375, 113, 74]] #[{ accessFlags := 2, nameIndex := 5, descriptorIndex := 6, attributes := #[] }, { accessFlags := 10, nameIndex := 345, descriptorIndex := 346, attributes := #[] }, { accessFlags := 9, nameIndex := 139, descriptorIndex := 342, attributes := #[] }, { accessFlags := 10, nameIndex := 341, descriptorIndex := 342, attributes := #[] }] 49 2 #[] #[{ accessFlags := 26, nameIndex := 715, descriptorIndex := 716, attributes := #[] }, { accessFlags := 26, nameIndex := 719, descriptorIndex := 716, attributes := #[] }, { accessFlags := 4120, nameIndex := 445, descriptorIndex := 117, attributes := #[] }])
  fields := #[{ name := "MIN_ARRAY_SORT_GRAN", type := .int, accessFlags := 26, slot := 0, constantValue := 0 }, { name := "INSERTIONSORT_THRESHOLD", type := .int, accessFlags := 26, slot := 1, constantValue := 0 }, { name := "$assertionsDisabled", type := .boolean, accessFlags := 4120, slot := 2, constantValue := 0 }]
  methods := #[k13m0, k13m1, k13m2, k13m3]
  instanceTypes := #[]
  staticTypes := #[.int, .int, .boolean]
  resolved := Array.replicate 1029 none
  statics := none }

def pool14 : Array CpInfo := pool [(1, .class_ 2), (0, u "java/lang/Math"), (1, .class_ 6), (1, u "java/lang/Object"), (0, u "<init>"), (0, u "()V"), (89, .class_ 100), (1, u "java/lang/Math$RandomNumberGeneratorHolder"), (71, u "negativeZeroFloatBits"), (0, u "J"), (2, u "negativeZeroDoubleBits"), (24, u "min"), (43, u "$assertionsDisabled"), (0, u "Z"), (88, u "(II)I"), (2, u "twoToTheDoubleScaleDown"), (0, u "D"), (4, u "twoToTheDoubleScaleUp"), (9, u "E"), (3, u "PI"), (2, u "TAU"), (2, u "DEGREES_TO_RADIANS"), (0, u "RADIANS_TO_DEGREES")] 94

def k14m0 : Method := { name := "<init>", desc := "()V", sig := { parameters := [], returnType := none }, accessFlags := 2, code := none }
def k14c1 : Code := { maxStack := 2, maxLocals := 2, code := jdk_29_method_69_code, exceptionTable := #[], attributes := #[] }
def k14m1 : Method := { name := "min", desc := "(II)I", sig := { parameters := [.int, .int], returnType := some .int }, accessFlags := 9, code := some k14c1 }
/-- java/lang/Math -/
def k14 : Class := { plain "java/lang/Math" (some 0) with
  accessFlags := 49
  interfaces := #[]
  cf := some (fileOf pool14 1 #[.nestMembers #[98]] #[{ accessFlags := 2, nameIndex := 7, descriptorIndex := 8, attributes := #[] }, { accessFlags := 9, nameIndex := 201, descriptorIndex := 335, attributes := #[] }] 49 4 #[] #[{ accessFlags := 25, nameIndex := 354, descriptorIndex := 339, attributes := #[] }, { accessFlags := 25, nameIndex := 358, descriptorIndex := 339, attributes := #[] }, { accessFlags := 25, nameIndex := 361, descriptorIndex := 339, attributes := #[] }, { accessFlags := 26, nameIndex := 364, descriptorIndex := 339, attributes := #[] }, { accessFlags := 26, nameIndex := 365, descriptorIndex := 339, attributes := #[] }, { accessFlags := 26, nameIndex := 172, descriptorIndex := 173, attributes := #[] }, { accessFlags := 26, nameIndex := 176, descriptorIndex := 173, attributes := #[] }, { accessFlags := 8, nameIndex := 344, descriptorIndex := 339, attributes := #[] }, { accessFlags := 8, nameIndex := 338, descriptorIndex := 339, attributes := #[] }, { accessFlags := 4120, nameIndex := 245, descriptorIndex := 246, attributes := #[] }])
  fields := #[{ name := "E", type := .double, accessFlags := 25, slot := 0, constantValue := 0 }, { name := "PI", type := .double, accessFlags := 25, slot := 1, constantValue := 0 }, { name := "TAU", type := .double, accessFlags := 25, slot := 2, constantValue := 0 }, { name := "DEGREES_TO_RADIANS", type := .double, accessFlags := 26, slot := 3, constantValue := 0 }, { name := "RADIANS_TO_DEGREES", type := .double, accessFlags := 26, slot := 4, constantValue := 0 }, { name := "negativeZeroFloatBits", type := .long, accessFlags := 26, slot := 5, constantValue := 0 }, { name := "negativeZeroDoubleBits", type := .long, accessFlags := 26, slot := 6, constantValue := 0 }, { name := "twoToTheDoubleScaleUp", type := .double, accessFlags := 8, slot := 7, constantValue := 0 }, { name := "twoToTheDoubleScaleDown", type := .double, accessFlags := 8, slot := 8, constantValue := 0 }, { name := "$assertionsDisabled", type := .boolean, accessFlags := 4120, slot := 9, constantValue := 0 }]
  methods := #[k14m0, k14m1]
  instanceTypes := #[]
  staticTypes := #[.double, .double, .double, .double, .double, .long, .long, .double, .double, .boolean]
  resolved := Array.replicate 460 none
  statics := none }

def pool15 : Array CpInfo := pool [(2, .class_ 4), (1, u "java/lang/Object"), (0, u "<init>"), (0, u "()V"), (1, .class_ 10), (1, u "java/lang/System"), (0, u "allowSecurityManager"), (0, u "I"), (16, u "cons"), (0, u "Ljava/io/Console;"), (77, .class_ 110), (1, u "java/lang/System$CallersHolder"), (43, u "initialErrStream"), (0, u "Ljava/io/PrintStream;"), (19, u "security"), (0, u "Ljava/lang/SecurityManager;"), (31, .class_ 209), (0, u "java/lang/System$1"), (7, u "props"), (0, u "Ljava/util/Properties;"), (2, u "lineSeparator"), (0, u "Ljava/lang/String;"), (96, .class_ 321), (1, u "java/lang/System$LoggerFinder"), (5, .class_ 328), (0, u "java/lang/System$Logger"), (67, u "err"), (2, u "out"), (91, u "notSupportedJnuEncoding"), (15, u "in"), (17, u "initialIn"), (0, u "Ljava/io/InputStream;"), (35, u "bootLayer"), (0, u "Ljava/lang/ModuleLayer;"), (99, .class_ 664), (0, u "java/lang/System$2"), (9, u "NEVER"), (2, u "MAYBE"), (49, u "arraycopy"), (0, u "(Ljava/lang/Object;ILjava/lang/Object;II)V"), (72, .class_ 802), (0, u "java/lang/System$Logger$Level")] 31

def k15m0 : Method := { name := "<init>", desc := "()V", sig := { parameters := [], returnType := none }, accessFlags := 2, code := none }
def k15m1 : Method := { name := "arraycopy", desc := "(Ljava/lang/Object;ILjava/lang/Object;II)V", sig := { parameters := [(.object "java/lang/Object"), .int, (.object "java/lang/Object"), .int, .int], returnType := none }, accessFlags := 265, code := none }
/-- java/lang/System -/
def k15 : Class := { plain "java/lang/System" (some 0) with
  accessFlags := 49
  interfaces := #[]
  cf := some (fileOf pool15 8 #[.nestMembers #[319, 327, 801, 108, 663, 208]] #[{ accessFlags := 2, nameIndex := 5, descriptorIndex := 6, attributes := #[] }, { accessFlags := 265, nameIndex := 727, descriptorIndex := 728, attributes := #[] }] 49 2 #[] #[{ accessFlags := 25, nameIndex := 507, descriptorIndex := 526, attributes := #[] }, { accessFlags := 25, nameIndex := 399, descriptorIndex := 155, attributes := #[] }, { accessFlags := 25, nameIndex := 396, descriptorIndex := 155, attributes := #[] }, { accessFlags := 10, nameIndex := 525, descriptorIndex := 526, attributes := #[] }, { accessFlags := 26, nameIndex := 674, descriptorIndex := 12, attributes := #[] }, { accessFlags := 26, nameIndex := 677, descriptorIndex := 12, attributes := #[] }, { accessFlags := 10, nameIndex := 11, descriptorIndex := 12, attributes := #[] }, { accessFlags := 74, nameIndex := 175, descriptorIndex := 176, attributes := #[] }, { accessFlags := 10, nameIndex := 491, descriptorIndex := 222, attributes := #[] }, { accessFlags := 74, nameIndex := 29, descriptorIndex := 30, attributes := #[] }, { accessFlags := 74, nameIndex := 154, descriptorIndex := 155, attributes := #[] }, { accessFlags := 10, nameIndex := 217, descriptorIndex := 218, attributes := #[] }, { accessFlags := 10, nameIndex := 221, descriptorIndex := 222, attributes := #[] }, { accessFlags := 8, nameIndex := 562, descriptorIndex := 563, attributes := #[] }])
  fields := #[{ name := "in", type := (.object "java/io/InputStream"), accessFlags := 25, slot := 0, constantValue := 0 }, { name := "out", type := (.object "java/io/PrintStream"), accessFlags := 25, slot := 1, constantValue := 0 }, { name := "err", type := (.object "java/io/PrintStream"), accessFlags := 25, slot := 2, constantValue := 0 }, { name := "initialIn", type := (.object "java/io/InputStream"), accessFlags := 10, slot := 3, constantValue := 0 }, { name := "NEVER", type := .int, accessFlags := 26, slot := 4, constantValue := 0 }, { name := "MAYBE", type := .int, accessFlags := 26, slot := 5, constantValue := 0 }, { name := "allowSecurityManager", type := .int, accessFlags := 10, slot := 6, constantValue := 0 }, { name := "security", type := (.object "java/lang/SecurityManager"), accessFlags := 74, slot := 7, constantValue := 0 }, { name := "notSupportedJnuEncoding", type := (.object "java/lang/String"), accessFlags := 10, slot := 8, constantValue := 0 }, { name := "cons", type := (.object "java/io/Console"), accessFlags := 74, slot := 9, constantValue := 0 }, { name := "initialErrStream", type := (.object "java/io/PrintStream"), accessFlags := 74, slot := 10, constantValue := 0 }, { name := "props", type := (.object "java/util/Properties"), accessFlags := 10, slot := 11, constantValue := 0 }, { name := "lineSeparator", type := (.object "java/lang/String"), accessFlags := 10, slot := 12, constantValue := 0 }, { name := "bootLayer", type := (.object "java/lang/ModuleLayer"), accessFlags := 8, slot := 13, constantValue := 0 }]
  methods := #[k15m0, k15m1]
  instanceTypes := #[]
  staticTypes := #[(.object "java/io/InputStream"), (.object "java/io/PrintStream"), (.object "java/io/PrintStream"), (.object "java/io/InputStream"), .int, .int, .int, (.object "java/lang/SecurityManager"), (.object "java/lang/String"), (.object "java/io/Console"), (.object "java/io/PrintStream"), (.object "java/util/Properties"), (.object "java/lang/String"), (.object "java/lang/ModuleLayer")]
  resolved := Array.replicate 834 none
  statics := none }

def pool16 : Array CpInfo := pool [(9, u "<init>"), (6, .class_ 18), (1, u "java/lang/Object"), (0, u "()V"), (1, .class_ 23), (1, u "jdk/internal/util/ArraysSupport"), (0, u "LOG2_ARRAY_LONG_INDEX_SCALE"), (0, u "I"), (2, u "U"), (0, u "Ljdk/internal/misc/Unsafe;"), (8, u "BIG_ENDIAN"), (0, u "Z"), (8, u "LOG2_BYTE_BIT_SIZE"), (4, u "LOG2_ARRAY_INT_INDEX_SCALE"), (54, u "JLA"), (0, u "Ljdk/internal/access/JavaLangAccess;"), (11, u "LOG2_ARRAY_BOOLEAN_INDEX_SCALE"), (9, u "LOG2_ARRAY_BYTE_INDEX_SCALE"), (5, u "LOG2_ARRAY_CHAR_INDEX_SCALE"), (5, u "LOG2_ARRAY_SHORT_INDEX_SCALE"), (18, u "LOG2_ARRAY_FLOAT_INDEX_SCALE"), (24, u "LOG2_ARRAY_DOUBLE_INDEX_SCALE"), (89, u "T_BOOLEAN"), (2, u "T_CHAR"), (1, u "T_FLOAT"), (1, u "T_DOUBLE"), (1, u "T_BYTE"), (1, u "T_SHORT"), (1, u "T_INT"), (1, u "T_LONG"), (1, u "SOFT_MAX_ARRAY_LENGTH")] 83

def k16m0 : Method := { name := "<init>", desc := "()V", sig := { parameters := [], returnType := none }, accessFlags := 2, code := none }
/-- jdk/internal/util/ArraysSupport -/
def k16 : Class := { plain "jdk/internal/util/ArraysSupport" (some 0) with
  accessFlags := 33
  interfaces := #[]
  cf := some (fileOf pool16 21 #[] #[{ accessFlags := 2, nameIndex := 9, descriptorIndex := 19, attributes := #[] }] 33 16 #[] #[{ accessFlags := 24, nameIndex := 28, descriptorIndex := 29, attributes := #[] }, { accessFlags := 26, nameIndex := 38, descriptorIndex := 39, attributes := #[] }, { accessFlags := 25, nameIndex := 121, descriptorIndex := 25, attributes := #[] }, { accessFlags := 25, nameIndex := 131, descriptorIndex := 25, attributes := #[] }, { accessFlags := 25, nameIndex := 137, descriptorIndex := 25, attributes := #[] }, { accessFlags := 25, nameIndex := 143, descriptorIndex := 25, attributes := #[] }, { accessFlags := 25, nameIndex := 53, descriptorIndex := 25, attributes := #[] }, { accessFlags := 25, nameIndex := 24, descriptorIndex := 25, attributes := #[] }, { accessFlags := 25, nameIndex := 162, descriptorIndex := 25, attributes := #[] }, { accessFlags := 25, nameIndex := 187, descriptorIndex := 25, attributes := #[] }, { accessFlags := 26, nameIndex := 48, descriptorIndex := 25, attributes := #[] }, { accessFlags := 25, nameIndex := 277, descriptorIndex := 25, attributes := #[] }, { accessFlags := 25, nameIndex := 280, descriptorIndex := 25, attributes := #[] }, { accessFlags := 25, nameIndex := 282, descriptorIndex := 25, attributes := #[] }, { accessFlags := 25, nameIndex := 284, descriptorIndex := 25, attributes := #[] }, { accessFlags := 25, nameIndex := 286, descriptorIndex := 25, attributes := #[] }, { accessFlags := 25, nameIndex := 288, descriptorIndex := 25, attributes := #[] }, { accessFlags := 25, nameIndex := 290, descriptorIndex := 25, attributes := #[] }, { accessFlags := 25, nameIndex := 292, descriptorIndex := 25, attributes := #[] }, { accessFlags := 26, nameIndex := 108, descriptorIndex := 109, attributes := #[] }, { accessFlags := 25, nameIndex := 294, descriptorIndex := 25, attributes := #[] }])
  fields := #[{ name := "U", type := (.object "jdk/internal/misc/Unsafe"), accessFlags := 24, slot := 0, constantValue := 0 }, { name := "BIG_ENDIAN", type := .boolean, accessFlags := 26, slot := 1, constantValue := 0 }, { name := "LOG2_ARRAY_BOOLEAN_INDEX_SCALE", type := .int, accessFlags := 25, slot := 2, constantValue := 0 }, { name := "LOG2_ARRAY_BYTE_INDEX_SCALE", type := .int, accessFlags := 25, slot := 3, constantValue := 0 }, { name := "LOG2_ARRAY_CHAR_INDEX_SCALE", type := .int, accessFlags := 25, slot := 4, constantValue := 0 }, { name := "LOG2_ARRAY_SHORT_INDEX_SCALE", type := .int, accessFlags := 25, slot := 5, constantValue := 0 }, { name := "LOG2_ARRAY_INT_INDEX_SCALE", type := .int, accessFlags := 25, slot := 6, constantValue := 0 }, { name := "LOG2_ARRAY_LONG_INDEX_SCALE", type := .int, accessFlags := 25, slot := 7, constantValue := 0 }, { name := "LOG2_ARRAY_FLOAT_INDEX_SCALE", type := .int, accessFlags := 25, slot := 8, constantValue := 0 }, { name := "LOG2_ARRAY_DOUBLE_INDEX_SCALE", type := .int, accessFlags := 25, slot := 9, constantValue := 0 }, { name := "LOG2_BYTE_BIT_SIZE", type := .int, accessFlags := 26, slot := 10, constantValue := 0 }, { name := "T_BOOLEAN", type := .int, accessFlags := 25, slot := 11, constantValue := 0 }, { name := "T_CHAR", type := .int, accessFlags := 25, slot := 12, constantValue := 0 }, { name := "T_FLOAT", type := .int, accessFlags := 25, slot := 13, constantValue := 0 }, { name := "T_DOUBLE", type := .int, accessFlags := 25, slot := 14, constantValue := 0 }, { name := "T_BYTE", type := .int, accessFlags := 25, slot := 15, constantValue := 0 }, { name := "T_SHORT", type := .int, accessFlags := 25, slot := 16, constantValue := 0 }, { name := "T_INT", type := .int, accessFlags := 25, slot := 17, constantValue := 0 }, { name := "T_LONG", type := .int, accessFlags := 25, slot := 18, constantValue := 0 }, { name := "JLA", type := (.object "jdk/internal/access/JavaLangAccess"), accessFlags := 26, slot := 19, constantValue := 0 }, { name := "SOFT_MAX_ARRAY_LENGTH", type := .int, accessFlags := 25, slot := 20, constantValue := 0 }]
  methods := #[k16m0]
  instanceTypes := #[]
  staticTypes := #[(.object "jdk/internal/misc/Unsafe"), .boolean, .int, .int, .int, .int, .int, .int, .int, .int, .int, .int, .int, .int, .int, .int, .int, .int, .int, (.object "jdk/internal/access/JavaLangAccess"), .int]
  resolved := Array.replicate 378 none
  statics := none }

def pool17 : Array CpInfo := pool [(1, u "java/lang/Cloneable"), (0, .class_ 1), (0, u "java/lang/Object"), (0, .class_ 3)] 3

/-- java/lang/Cloneable -/
def k17 : Class := { plain "java/lang/Cloneable" (some 0) with
  accessFlags := 1537
  interfaces := #[]
  cf := some (fileOf pool17 2 #[] #[] 1537 4 #[] #[])
  fields := #[]
  methods := #[]
  instanceTypes := #[]
  staticTypes := #[]
  resolved := Array.replicate 8 none
  statics := none }

/-- the primitive byte -/
def k18 : Class := { plain "byte" none with kind := .primitive 'B', accessFlags := 0x411 }
/-- [B -/
def k19 : Class := { plain "[B" (some 0) with kind := .array 18 .byte, interfaces := #[17, 2], accessFlags := 1041 }

/-- the primitive char -/
def k20 : Class := { plain "char" none with kind := .primitive 'C', accessFlags := 0x411 }
/-- [C -/
def k21 : Class := { plain "[C" (some 0) with kind := .array 20 .char, interfaces := #[17, 2], accessFlags := 1041 }

/-- the primitive int -/
def k22 : Class := { plain "int" none with kind := .primitive 'I', accessFlags := 0x411 }
/-- [I -/
def k23 : Class := { plain "[I" (some 0) with kind := .array 22 .int, interfaces := #[17, 2], accessFlags := 1041 }

def heap : Heap := #[{ cls := 7, slots := #[.long 0, .int 1, .null, .int 0, .null, .int 0, .int 0], vm := .statics 7 },
  { cls := 12, slots := #[.null, .null, .null], vm := .statics 12 }]
def classes : Array Class := #[k0, k1, k2, k3, k4, k5, k6, k7, k8, k9, k10, k11, k12, k13, k14, k15, k16, k17, k18, k19, k20, k21, k22, k23]
def interned : List (Array UInt16 × Addr) := []
def slotsUsed : Nat := 10
def theMethod : MethodId := ⟨1, 1⟩
def args0 : Array Value := #[.int 5, .int 3, .int 7, .int 9]
def aboutOver (below : List Frame) : State where
  vm := { classes := classes, interned := interned.toArray }
  heap := heap
  slotsUsed := slotsUsed
  threads := #[{ frames := .invoking theMethod args0 :: below }]
def below0 : List Frame := [.native { method := ⟨0, 0⟩, args := #[] }]
def about1 : State := aboutOver below0
def p0 : Program := .bare "" "" ""
def e0 : Env := launch0.env 0 0 0
theorem w_frames : about1.frames = Frame.invoking theMethod args0 :: below0 := rfl
set_option maxRecDepth 65536 in
theorem w_args : argsFit about1.vm theMethod args0 = true := by decide +kernel
set_option maxRecDepth 65536 in
theorem w_heap : heapFits about1 = true := by decide +kernel
set_option maxRecDepth 65536 in
theorem w_runnable : about1.curStatus? = some .runnable := by decide +kernel
set_option maxRecDepth 65536 in
theorem w_alone : about1.alone = true := by decide +kernel
set_option maxRecDepth 65536 in
theorem w_named : about1.methodNamed? x = some theMethod := by decide +kernel
set_option maxRecDepth 65536 in
theorem w_hears : about1.hears theMethod below0 = true := by decide +kernel
set_option maxRecDepth 65536 in
theorem w_ripe : about1.ripe theMethod args0 below0 = true := by decide +kernel
theorem w_running : about1.status = .running := rfl
set_option maxRecDepth 65536 in
theorem w_room : about1.hasRoom e0.platform room_1 = true :=
  launch0.hasRoom_least _ room_1 (by decide +kernel) (by decide +kernel) (by decide +kernel) (by decide +kernel) (by decide +kernel) (by decide +kernel)
theorem allAtoms_all (ts : List Jvm.Cond) (a : Array Jvm.Value) (st : Jvm.State) : (allAtoms ts).before a st = ts.all (fun c => c.before a st) := by
  induction ts with
  | nil => rfl
  | cons c t ih =>
    show (Jvm.Cond.and c (allAtoms t)).before a st = _
    rw [Jvm.Cond.before_and, ih, List.all_cons]
def words1 : List Jvm.Cond := Jvm.Cond.code x code maxLocals ret :: tables_1
/-- a 'code' word, met by the world's own term for the bytes: nothing is compared byte by byte -/
theorem code_word {y : MethodName} {bytes : ByteArray} {mx : Nat} {rt : Option FieldType} {a : Array Value} {s : State} {m : MethodId} {meth : Method} {c : Code} (h1 : s.methodNamed? y = some m) (h2 : s.vm.method? m = some meth) (h3 : meth.code = some c) (h4 : c.code = bytes)
    (h5 : (c.maxLocals == mx && c.exceptionTable.isEmpty && decide (c.maxStack ≤ mostOperands) && decide (meth.sig.returnType = rt) && !meth.locks && decide (parseMethodDescriptor y.desc = some meth.sig)) = true) : (Jvm.Cond.code y bytes mx rt).before a s = true := by
  simp only [Bool.and_eq_true, beq_iff_eq, Bool.not_eq_true', decide_eq_true_eq] at h5
  obtain ⟨⟨⟨⟨⟨g1, g2⟩, g3⟩, g4⟩, g5⟩, g6⟩ := h5
  simp [Cond.before, Cond.holds, Cond.value, h1, h2, h3, h4, g1, g2, g3, g4, g5, g6]
def isCode : Jvm.Cond → Bool
  | .code _ _ _ _ => true
  | _ => false
theorem all_split {L : List Jvm.Cond} {P : Jvm.Cond → Bool} (h1 : L.all (fun c => isCode c || P c) = true) (h2 : ∀ c ∈ L.filter isCode, P c = true) : L.all P = true := by
  refine List.all_eq_true.mpr fun c hc => ?_
  have h := List.all_eq_true.mp h1 c hc
  rcases Bool.eq_false_or_eq_true (isCode c) with hi | hi
  · exact h2 c (List.mem_filter.mpr ⟨hc, hi⟩)
  · simpa [hi] using h
set_option maxRecDepth 65536 in
theorem w_c0 : (Jvm.Cond.code x code maxLocals ret).before args0 about1 = true := code_word (m := ⟨1, 1⟩) (meth := k1m1) (c := k1c1) (by decide +kernel) rfl rfl rfl (by decide +kernel)
set_option maxRecDepth 65536 in
theorem w_c1 : (Jvm.Cond.code ({ cls := "java/lang/String", name := "<init>", desc := "([C)V" } : Jvm.MethodName) jdk_42_method_3_code (2 : Nat) (Option.none : Option Jvm.ClassFile.FieldType)).before args0 about1 = true := code_word (m := ⟨7, 1⟩) (meth := k7m1) (c := k7c1) (by decide +kernel) rfl rfl rfl (by decide +kernel)
set_option maxRecDepth 65536 in
theorem w_c2 : (Jvm.Cond.code ({ cls := "java/lang/String", name := "<init>", desc := "([CIILjava/lang/Void;)V" } : Jvm.MethodName) jdk_42_method_149_code (6 : Nat) (Option.none : Option Jvm.ClassFile.FieldType)).before args0 about1 = true := code_word (m := ⟨7, 7⟩) (meth := k7m7) (c := k7c7) (by decide +kernel) rfl rfl rfl (by decide +kernel)
set_option maxRecDepth 65536 in
theorem w_c3 : (Jvm.Cond.code ({ cls := "java/lang/Object", name := "<init>", desc := "()V" } : Jvm.MethodName) object_method_1_code (1 : Nat) (Option.none : Option Jvm.ClassFile.FieldType)).before args0 about1 = true := code_word (m := ⟨0, 0⟩) (meth := k0m0) (c := k0c0) (by decide +kernel) rfl rfl rfl (by decide +kernel)
set_option maxRecDepth 65536 in
theorem w_c4 : (Jvm.Cond.code ({ cls := "java/lang/StringUTF16", name := "compress", desc := "([CII)[B" } : Jvm.MethodName) jdk_52_method_16_code (6 : Nat) (Option.some (Jvm.ClassFile.FieldType.array Jvm.ClassFile.FieldType.byte))).before args0 about1 = true := code_word (m := ⟨8, 2⟩) (meth := k8m2) (c := k8c2) (by decide +kernel) rfl rfl rfl (by decide +kernel)
set_option maxRecDepth 65536 in
theorem w_c5 : (Jvm.Cond.code ({ cls := "java/lang/StringUTF16", name := "compress", desc := "([CI[BII)I" } : Jvm.MethodName) jdk_52_method_21_code (7 : Nat) (Option.some Jvm.ClassFile.FieldType.int)).before args0 about1 = true := code_word (m := ⟨8, 3⟩) (meth := k8m3) (c := k8c3) (by decide +kernel) rfl rfl rfl (by decide +kernel)
set_option maxRecDepth 65536 in
theorem w_c6 : (Jvm.Cond.code ({ cls := "java/lang/StringUTF16", name := "coderFromArrayLen", desc := "([BI)B" } : Jvm.MethodName) jdk_52_method_15_code (2 : Nat) (Option.some Jvm.ClassFile.FieldType.byte)).before args0 about1 = true := code_word (m := ⟨8, 1⟩) (meth := k8m1) (c := k8c1) (by decide +kernel) rfl rfl rfl (by decide +kernel)
set_option maxRecDepth 65536 in
theorem w_c7 : (Jvm.Cond.code ({ cls := "java/lang/String", name := "valueOf", desc := "(C)Ljava/lang/String;" } : Jvm.MethodName) jdk_42_method_139_code (1 : Nat) (Option.some (Jvm.ClassFile.FieldType.object "java/lang/String"))).before args0 about1 = true := code_word (m := ⟨7, 6⟩) (meth := k7m6) (c := k7c6) (by decide +kernel) rfl rfl rfl (by decide +kernel)
set_option maxRecDepth 65536 in
theorem w_c8 : (Jvm.Cond.code ({ cls := "java/lang/StringLatin1", name := "canEncode", desc := "(C)Z" } : Jvm.MethodName) jdk_43_method_3_code (1 : Nat) (Option.some Jvm.ClassFile.FieldType.boolean)).before args0 about1 = true := code_word (m := ⟨11, 1⟩) (meth := k11m1) (c := k11c1) (by decide +kernel) rfl rfl rfl (by decide +kernel)
set_option maxRecDepth 65536 in
theorem w_c9 : (Jvm.Cond.code ({ cls := "java/lang/StringLatin1", name := "toBytes", desc := "(C)[B" } : Jvm.MethodName) jdk_43_method_46_code (1 : Nat) (Option.some (Jvm.ClassFile.FieldType.array Jvm.ClassFile.FieldType.byte))).before args0 about1 = true := code_word (m := ⟨11, 3⟩) (meth := k11m3) (c := k11c3) (by decide +kernel) rfl rfl rfl (by decide +kernel)
set_option maxRecDepth 65536 in
theorem w_c10 : (Jvm.Cond.code ({ cls := "java/lang/String", name := "<init>", desc := "([BB)V" } : Jvm.MethodName) jdk_42_method_151_code (3 : Nat) (Option.none : Option Jvm.ClassFile.FieldType)).before args0 about1 = true := code_word (m := ⟨7, 8⟩) (meth := k7m8) (c := k7c8) (by decide +kernel) rfl rfl rfl (by decide +kernel)
set_option maxRecDepth 65536 in
theorem w_c11 : (Jvm.Cond.code ({ cls := "com/example/test_rollback/testrollback/Dialect$Counter", name := "<init>", desc := "(Ljava/lang/String;Ljava/lang/String;Ljava/lang/String;Ljava/lang/String;)V" } : Jvm.MethodName) prog_10_method_1_code (5 : Nat) (Option.none : Option Jvm.ClassFile.FieldType)).before args0 about1 = true := code_word (m := ⟨10, 0⟩) (meth := k10m0) (c := k10c0) (by decide +kernel) rfl rfl rfl (by decide +kernel)
set_option maxRecDepth 65536 in
theorem w_c12 : (Jvm.Cond.code ({ cls := "java/lang/Record", name := "<init>", desc := "()V" } : Jvm.MethodName) jdk_30_method_1_code (1 : Nat) (Option.none : Option Jvm.ClassFile.FieldType)).before args0 about1 = true := code_word (m := ⟨9, 0⟩) (meth := k9m0) (c := k9c0) (by decide +kernel) rfl rfl rfl (by decide +kernel)
set_option maxRecDepth 65536 in
theorem w_c13 : (Jvm.Cond.code ({ cls := "com/example/test_rollback/testrollback/Dialect$Counter", name := "sequence", desc := "()Ljava/lang/String;" } : Jvm.MethodName) prog_10_method_5_code (1 : Nat) (Option.some (Jvm.ClassFile.FieldType.object "java/lang/String"))).before args0 about1 = true := code_word (m := ⟨10, 1⟩) (meth := k10m1) (c := k10c1) (by decide +kernel) rfl rfl rfl (by decide +kernel)
set_option maxRecDepth 65536 in
theorem w_c14 : (Jvm.Cond.code ({ cls := "java/lang/String", name := "length", desc := "()I" } : Jvm.MethodName) jdk_42_method_54_code (1 : Nat) (Option.some Jvm.ClassFile.FieldType.int)).before args0 about1 = true := code_word (m := ⟨7, 2⟩) (meth := k7m2) (c := k7c2) (by decide +kernel) rfl rfl rfl (by decide +kernel)
set_option maxRecDepth 65536 in
theorem w_c15 : (Jvm.Cond.code ({ cls := "java/lang/String", name := "coder", desc := "()B" } : Jvm.MethodName) jdk_42_method_152_code (1 : Nat) (Option.some Jvm.ClassFile.FieldType.byte)).before args0 about1 = true := code_word (m := ⟨7, 9⟩) (meth := k7m9) (c := k7c9) (by decide +kernel) rfl rfl rfl (by decide +kernel)
set_option maxRecDepth 65536 in
theorem w_c16 : (Jvm.Cond.code ({ cls := "java/lang/String", name := "substring", desc := "(I)Ljava/lang/String;" } : Jvm.MethodName) jdk_42_method_91_code (2 : Nat) (Option.some (Jvm.ClassFile.FieldType.object "java/lang/String"))).before args0 about1 = true := code_word (m := ⟨7, 4⟩) (meth := k7m4) (c := k7c4) (by decide +kernel) rfl rfl rfl (by decide +kernel)
set_option maxRecDepth 65536 in
theorem w_c17 : (Jvm.Cond.code ({ cls := "java/lang/String", name := "substring", desc := "(II)Ljava/lang/String;" } : Jvm.MethodName) jdk_42_method_92_code (5 : Nat) (Option.some (Jvm.ClassFile.FieldType.object "java/lang/String"))).before args0 about1 = true := code_word (m := ⟨7, 5⟩) (meth := k7m5) (c := k7c5) (by decide +kernel) rfl rfl rfl (by decide +kernel)
set_option maxRecDepth 65536 in
theorem w_c18 : (Jvm.Cond.code ({ cls := "java/lang/String", name := "checkBoundsBeginEnd", desc := "(III)V" } : Jvm.MethodName) jdk_42_method_158_code (3 : Nat) (Option.none : Option Jvm.ClassFile.FieldType)).before args0 about1 = true := code_word (m := ⟨7, 11⟩) (meth := k7m11) (c := k7c11) (by decide +kernel) rfl rfl rfl (by decide +kernel)
set_option maxRecDepth 65536 in
theorem w_c19 : (Jvm.Cond.code ({ cls := "jdk/internal/util/Preconditions", name := "checkFromToIndex", desc := "(IIILjava/util/function/BiFunction;)I" } : Jvm.MethodName) jdk_41_method_12_code (4 : Nat) (Option.some Jvm.ClassFile.FieldType.int)).before args0 about1 = true := code_word (m := ⟨12, 1⟩) (meth := k12m1) (c := k12c1) (by decide +kernel) rfl rfl rfl (by decide +kernel)
set_option maxRecDepth 65536 in
theorem w_c20 : (Jvm.Cond.code ({ cls := "java/lang/String", name := "isLatin1", desc := "()Z" } : Jvm.MethodName) jdk_42_method_154_code (1 : Nat) (Option.some Jvm.ClassFile.FieldType.boolean)).before args0 about1 = true := code_word (m := ⟨7, 10⟩) (meth := k7m10) (c := k7c10) (by decide +kernel) rfl rfl rfl (by decide +kernel)
set_option maxRecDepth 65536 in
theorem w_c21 : (Jvm.Cond.code ({ cls := "java/lang/StringLatin1", name := "newString", desc := "([BII)Ljava/lang/String;" } : Jvm.MethodName) jdk_43_method_47_code (3 : Nat) (Option.some (Jvm.ClassFile.FieldType.object "java/lang/String"))).before args0 about1 = true := code_word (m := ⟨11, 4⟩) (meth := k11m4) (c := k11c4) (by decide +kernel) rfl rfl rfl (by decide +kernel)
set_option maxRecDepth 65536 in
theorem w_c22 : (Jvm.Cond.code ({ cls := "java/lang/String", name := "equals", desc := "(Ljava/lang/Object;)Z" } : Jvm.MethodName) jdk_42_method_66_code (3 : Nat) (Option.some Jvm.ClassFile.FieldType.boolean)).before args0 about1 = true := code_word (m := ⟨7, 3⟩) (meth := k7m3) (c := k7c3) (by decide +kernel) rfl rfl rfl (by decide +kernel)
set_option maxRecDepth 65536 in
theorem w_c23 : (Jvm.Cond.code ({ cls := "java/lang/StringLatin1", name := "equals", desc := "([B[B)Z" } : Jvm.MethodName) jdk_43_method_13_code (3 : Nat) (Option.some Jvm.ClassFile.FieldType.boolean)).before args0 about1 = true := code_word (m := ⟨11, 2⟩) (meth := k11m2) (c := k11c2) (by decide +kernel) rfl rfl rfl (by decide +kernel)
set_option maxRecDepth 65536 in
theorem w_c24 : (Jvm.Cond.code ({ cls := "java/util/Arrays", name := "copyOfRange", desc := "([BII)[B" } : Jvm.MethodName) jdk_65_method_132_code (3 : Nat) (Option.some (Jvm.ClassFile.FieldType.array Jvm.ClassFile.FieldType.byte))).before args0 about1 = true := code_word (m := ⟨13, 2⟩) (meth := k13m2) (c := k13c2) (by decide +kernel) rfl rfl rfl (by decide +kernel)
set_option maxRecDepth 65536 in
theorem w_c25 : (Jvm.Cond.code ({ cls := "java/util/Arrays", name := "copyOfRangeByte", desc := "([BII)[B" } : Jvm.MethodName) jdk_65_method_133_code (5 : Nat) (Option.some (Jvm.ClassFile.FieldType.array Jvm.ClassFile.FieldType.byte))).before args0 about1 = true := code_word (m := ⟨13, 3⟩) (meth := k13m3) (c := k13c3) (by decide +kernel) rfl rfl rfl (by decide +kernel)
set_option maxRecDepth 65536 in
theorem w_c26 : (Jvm.Cond.code ({ cls := "java/util/Arrays", name := "checkLength", desc := "(II)V" } : Jvm.MethodName) jdk_65_method_131_code (2 : Nat) (Option.none : Option Jvm.ClassFile.FieldType)).before args0 about1 = true := code_word (m := ⟨13, 1⟩) (meth := k13m1) (c := k13c1) (by decide +kernel) rfl rfl rfl (by decide +kernel)
set_option maxRecDepth 65536 in
theorem w_c27 : (Jvm.Cond.code ({ cls := "java/lang/Math", name := "min", desc := "(II)I" } : Jvm.MethodName) jdk_29_method_69_code (2 : Nat) (Option.some Jvm.ClassFile.FieldType.int)).before args0 about1 = true := code_word (m := ⟨14, 1⟩) (meth := k14m1) (c := k14c1) (by decide +kernel) rfl rfl rfl (by decide +kernel)
def codes1 : List Jvm.Cond := [Jvm.Cond.code x code maxLocals ret, Jvm.Cond.code ({ cls := "java/lang/String", name := "<init>", desc := "([C)V" } : Jvm.MethodName) jdk_42_method_3_code (2 : Nat) (Option.none : Option Jvm.ClassFile.FieldType), Jvm.Cond.code ({ cls := "java/lang/String", name := "<init>", desc := "([CIILjava/lang/Void;)V" } : Jvm.MethodName) jdk_42_method_149_code (6 : Nat) (Option.none : Option Jvm.ClassFile.FieldType), Jvm.Cond.code ({ cls := "java/lang/Object", name := "<init>", desc := "()V" } : Jvm.MethodName) object_method_1_code (1 : Nat) (Option.none : Option Jvm.ClassFile.FieldType), Jvm.Cond.code ({ cls := "java/lang/StringUTF16", name := "compress", desc := "([CII)[B" } : Jvm.MethodName) jdk_52_method_16_code (6 : Nat) (Option.some (Jvm.ClassFile.FieldType.array Jvm.ClassFile.FieldType.byte)), Jvm.Cond.code ({ cls := "java/lang/StringUTF16", name := "compress", desc := "([CI[BII)I" } : Jvm.MethodName) jdk_52_method_21_code (7 : Nat) (Option.some Jvm.ClassFile.FieldType.int), Jvm.Cond.code ({ cls := "java/lang/StringUTF16", name := "coderFromArrayLen", desc := "([BI)B" } : Jvm.MethodName) jdk_52_method_15_code (2 : Nat) (Option.some Jvm.ClassFile.FieldType.byte), Jvm.Cond.code ({ cls := "java/lang/String", name := "valueOf", desc := "(C)Ljava/lang/String;" } : Jvm.MethodName) jdk_42_method_139_code (1 : Nat) (Option.some (Jvm.ClassFile.FieldType.object "java/lang/String")), Jvm.Cond.code ({ cls := "java/lang/StringLatin1", name := "canEncode", desc := "(C)Z" } : Jvm.MethodName) jdk_43_method_3_code (1 : Nat) (Option.some Jvm.ClassFile.FieldType.boolean), Jvm.Cond.code ({ cls := "java/lang/StringLatin1", name := "toBytes", desc := "(C)[B" } : Jvm.MethodName) jdk_43_method_46_code (1 : Nat) (Option.some (Jvm.ClassFile.FieldType.array Jvm.ClassFile.FieldType.byte)), Jvm.Cond.code ({ cls := "java/lang/String", name := "<init>", desc := "([BB)V" } : Jvm.MethodName) jdk_42_method_151_code (3 : Nat) (Option.none : Option Jvm.ClassFile.FieldType), Jvm.Cond.code ({ cls := "com/example/test_rollback/testrollback/Dialect$Counter", name := "<init>", desc := "(Ljava/lang/String;Ljava/lang/String;Ljava/lang/String;Ljava/lang/String;)V" } : Jvm.MethodName) prog_10_method_1_code (5 : Nat) (Option.none : Option Jvm.ClassFile.FieldType), Jvm.Cond.code ({ cls := "java/lang/Record", name := "<init>", desc := "()V" } : Jvm.MethodName) jdk_30_method_1_code (1 : Nat) (Option.none : Option Jvm.ClassFile.FieldType), Jvm.Cond.code ({ cls := "com/example/test_rollback/testrollback/Dialect$Counter", name := "sequence", desc := "()Ljava/lang/String;" } : Jvm.MethodName) prog_10_method_5_code (1 : Nat) (Option.some (Jvm.ClassFile.FieldType.object "java/lang/String")), Jvm.Cond.code ({ cls := "java/lang/String", name := "length", desc := "()I" } : Jvm.MethodName) jdk_42_method_54_code (1 : Nat) (Option.some Jvm.ClassFile.FieldType.int), Jvm.Cond.code ({ cls := "java/lang/String", name := "coder", desc := "()B" } : Jvm.MethodName) jdk_42_method_152_code (1 : Nat) (Option.some Jvm.ClassFile.FieldType.byte), Jvm.Cond.code ({ cls := "java/lang/String", name := "substring", desc := "(I)Ljava/lang/String;" } : Jvm.MethodName) jdk_42_method_91_code (2 : Nat) (Option.some (Jvm.ClassFile.FieldType.object "java/lang/String")), Jvm.Cond.code ({ cls := "java/lang/String", name := "substring", desc := "(II)Ljava/lang/String;" } : Jvm.MethodName) jdk_42_method_92_code (5 : Nat) (Option.some (Jvm.ClassFile.FieldType.object "java/lang/String")), Jvm.Cond.code ({ cls := "java/lang/String", name := "checkBoundsBeginEnd", desc := "(III)V" } : Jvm.MethodName) jdk_42_method_158_code (3 : Nat) (Option.none : Option Jvm.ClassFile.FieldType), Jvm.Cond.code ({ cls := "jdk/internal/util/Preconditions", name := "checkFromToIndex", desc := "(IIILjava/util/function/BiFunction;)I" } : Jvm.MethodName) jdk_41_method_12_code (4 : Nat) (Option.some Jvm.ClassFile.FieldType.int), Jvm.Cond.code ({ cls := "java/lang/String", name := "isLatin1", desc := "()Z" } : Jvm.MethodName) jdk_42_method_154_code (1 : Nat) (Option.some Jvm.ClassFile.FieldType.boolean), Jvm.Cond.code ({ cls := "java/lang/StringLatin1", name := "newString", desc := "([BII)Ljava/lang/String;" } : Jvm.MethodName) jdk_43_method_47_code (3 : Nat) (Option.some (Jvm.ClassFile.FieldType.object "java/lang/String")), Jvm.Cond.code ({ cls := "java/lang/String", name := "equals", desc := "(Ljava/lang/Object;)Z" } : Jvm.MethodName) jdk_42_method_66_code (3 : Nat) (Option.some Jvm.ClassFile.FieldType.boolean), Jvm.Cond.code ({ cls := "java/lang/StringLatin1", name := "equals", desc := "([B[B)Z" } : Jvm.MethodName) jdk_43_method_13_code (3 : Nat) (Option.some Jvm.ClassFile.FieldType.boolean), Jvm.Cond.code ({ cls := "java/util/Arrays", name := "copyOfRange", desc := "([BII)[B" } : Jvm.MethodName) jdk_65_method_132_code (3 : Nat) (Option.some (Jvm.ClassFile.FieldType.array Jvm.ClassFile.FieldType.byte)), Jvm.Cond.code ({ cls := "java/util/Arrays", name := "copyOfRangeByte", desc := "([BII)[B" } : Jvm.MethodName) jdk_65_method_133_code (5 : Nat) (Option.some (Jvm.ClassFile.FieldType.array Jvm.ClassFile.FieldType.byte)), Jvm.Cond.code ({ cls := "java/util/Arrays", name := "checkLength", desc := "(II)V" } : Jvm.MethodName) jdk_65_method_131_code (2 : Nat) (Option.none : Option Jvm.ClassFile.FieldType), Jvm.Cond.code ({ cls := "java/lang/Math", name := "min", desc := "(II)I" } : Jvm.MethodName) jdk_29_method_69_code (2 : Nat) (Option.some Jvm.ClassFile.FieldType.int)]
set_option maxRecDepth 65536 in
theorem codes_eq : words1.filter isCode = codes1 := rfl
theorem w_codes : ∀ c ∈ words1.filter isCode, c.before args0 about1 = true := by
  rw [codes_eq]
  intro c hc
  simp only [codes1, List.mem_cons, List.not_mem_nil, or_false] at hc
  rcases hc with rfl | rfl | rfl | rfl | rfl | rfl | rfl | rfl | rfl | rfl | rfl | rfl | rfl | rfl | rfl | rfl | rfl | rfl | rfl | rfl | rfl | rfl | rfl | rfl | rfl | rfl | rfl | rfl
  · exact w_c0
  · exact w_c1
  · exact w_c2
  · exact w_c3
  · exact w_c4
  · exact w_c5
  · exact w_c6
  · exact w_c7
  · exact w_c8
  · exact w_c9
  · exact w_c10
  · exact w_c11
  · exact w_c12
  · exact w_c13
  · exact w_c14
  · exact w_c15
  · exact w_c16
  · exact w_c17
  · exact w_c18
  · exact w_c19
  · exact w_c20
  · exact w_c21
  · exact w_c22
  · exact w_c23
  · exact w_c24
  · exact w_c25
  · exact w_c26
  · exact w_c27
set_option maxRecDepth 65536 in
theorem w_t1 : (words1.take 24).all (fun c => isCode c || c.before args0 about1) = true := by decide +kernel
set_option maxRecDepth 65536 in
theorem w_t2 : ((words1.drop 24).take 24).all (fun c => isCode c || c.before args0 about1) = true := by decide +kernel
set_option maxRecDepth 65536 in
theorem w_t3 : (((words1.drop 24).drop 24).take 24).all (fun c => isCode c || c.before args0 about1) = true := by decide +kernel
set_option maxRecDepth 65536 in
theorem w_t4 : ((((words1.drop 24).drop 24).drop 24).take 24).all (fun c => isCode c || c.before args0 about1) = true := by decide +kernel
set_option maxRecDepth 65536 in
theorem w_t5 : (((((words1.drop 24).drop 24).drop 24).drop 24).take 24).all (fun c => isCode c || c.before args0 about1) = true := by decide +kernel
set_option maxRecDepth 65536 in
theorem w_t6 : (((((words1.drop 24).drop 24).drop 24).drop 24).drop 24).all (fun c => isCode c || c.before args0 about1) = true := by decide +kernel
theorem w_tables : (allAtoms (Jvm.Cond.code x code maxLocals ret :: tables_1)).before args0 about1 = true := by
  rw [allAtoms_all]
  show words1.all (fun c => c.before args0 about1) = true
  refine all_split ?_ w_codes
  rw [← List.take_append_drop 24 words1, List.all_append, w_t1, ← List.take_append_drop 24 (words1.drop 24), List.all_append, w_t2, ← List.take_append_drop 24 ((words1.drop 24).drop 24), List.all_append, w_t3, ← List.take_append_drop 24 (((words1.drop 24).drop 24).drop 24), List.all_append, w_t4, ← List.take_append_drop 24 ((((words1.drop 24).drop 24).drop 24).drop 24), List.all_append, w_t5, w_t6]
  rfl
set_option maxRecDepth 65536 in
theorem w_rest : rest_1_c.before args0 about1 = true := by decide +kernel
set_option maxRecDepth 65536 in
theorem w_case : (Jvm.Cond.and given_1 narrow_1).before args0 about1 = true := by decide +kernel
set_option maxRecDepth 65536 in
theorem w_consts : constsHeld consts_1 about1 := Jvm.Lit.constsHeldB_iff.mp (by decide +kernel)
theorem w_applies : (headSpec (Jvm.Cond.code x code maxLocals ret :: tables_1) room_1).applies x e0.platform about1 = true :=
  (Spec.applies_iff w_frames).mpr ⟨w_running, w_runnable, w_alone, w_named, w_hears, w_ripe, w_room, w_tables⟩
theorem atStart : AtStart classFile x code maxLocals ret World_1 tables_1 room_1 Calls_1 rest_1 Pre_1 launch0 p0 e0 about1 theMethod args0 below0 :=
  ⟨lists_1, trivial, launch0.admits_env _ _ _, launch0.least_env, fairChoices_fair.cas, fairChoices_fair.clock, w_frames, w_args, w_heap, w_applies, ⟨w_consts, trivial⟩, w_rest, w_case⟩
end start1
theorem witness_1 : WitnessClaimed_1 := ⟨start1.p0, start1.e0, start1.about1, start1.theMethod, start1.args0, start1.below0, start1.atStart⟩
end Jvm.Pilot.@@N@@
